import JvmDerived
import JvmDerived.Pilot.@@N@@Statement
import JvmDerived.Pilot.@@N@@Code
set_option linter.unusedVariables false
set_option linter.unusedSimpArgs false

namespace Jvm.RoadKit
open Sem ClassFile Op Lib Jvm.Stand Jvm.Free Jvm.LawKit
section New
variable {p : Program} {l : Launch} {e : Env} {R : Room} {s : State} {m : MethodId} {args : Array Value} {below : List Frame} {meth : Method} {c : Code} {T : State} {locs : List Loc} {cells slots : Nat}
theorem retI (X : Stand p l e R s m args below meth c T locs cells slots) (hx : p.tables.exec = Jvm.exec) {pc : Nat} {Ls : Array Slot} {z : Int32} {rest : List Value} (hret : meth.sig.returnType = some .int) (hd : decode c.code pc = .ok (.ireturn, 1)) {fs : List Frame}
    (hl : ∀ (f : JFrame) (acts : List Action), f.method = m → f.locked = none → f.entered = [] → (doReturn e (T.setTop f) acts (some (.int z))).1 = T.setFrames fs) : Steps p.tables e below (T.setTop (mkF m pc Ls (.int z :: rest))) (T.setFrames fs) := by
  have hm' : T.vm.method? m = some meth := X.method'
  have hn : narrow .int (.int z) = .int z := rfl
  show Steps p.tables e below (T.setTop { method := m, pc := pc, locals := Ls, stack := _ :: rest, locked := none }) _
  jvm_step X.here [X.here.top, hx, hd, hm', hret, hn]
  first | (intro acts; rw [hl _ acts rfl rfl rfl]) | rw [hl _ _ rfl rfl rfl]
  exact Steps.refl _
theorem retL (X : Stand p l e R s m args below meth c T locs cells slots) (hx : p.tables.exec = Jvm.exec) {pc : Nat} {Ls : Array Slot} {z : Int64} {rest : List Value} (hret : meth.sig.returnType = some .long) (hd : decode c.code pc = .ok (.lreturn, 1)) {fs : List Frame}
    (hl : ∀ (f : JFrame) (acts : List Action), f.method = m → f.locked = none → f.entered = [] → (doReturn e (T.setTop f) acts (some (.long z))).1 = T.setFrames fs) : Steps p.tables e below (T.setTop (mkF m pc Ls (.long z :: rest))) (T.setFrames fs) := by
  have hm' : T.vm.method? m = some meth := X.method'
  have hn : narrow .long (.long z) = .long z := rfl
  show Steps p.tables e below (T.setTop { method := m, pc := pc, locals := Ls, stack := _ :: rest, locked := none }) _
  jvm_step X.here [X.here.top, hx, hd, hm', hret, hn]
  first | (intro acts; rw [hl _ acts rfl rfl rfl]) | rw [hl _ _ rfl rfl rfl]
  exact Steps.refl _
end New
end Jvm.RoadKit
namespace Jvm.Pilot.@@N@@
open Jvm Jvm.ClassFile Sem Op Lib Jvm.Free Jvm.Stand Jvm.LawKit Jvm.RoadKit Bundle Jvm.Pilot.@@N@@.Jvm.D
/-- from here the run comes to an end of which W holds -/
def own_Go (p : Program) (e : Env) (below : List Frame) (W : State → Outcome → Prop) (T : State) (g : JFrame) : Prop :=
  ∃ s₂ o, Steps p.tables e below (T.setTop g) s₂ ∧ s₂.status = .running ∧ Ended s₂ below o ∧ W s₂ o
theorem own_Go.of {p : Program} {e : Env} {below : List Frame} {W : State → Outcome → Prop} {T T' : State} {g g' : JFrame} (f : ∀ t, Steps p.tables e below (T'.setTop g') t → Steps p.tables e below (T.setTop g) t) (k : own_Go p e below W T' g') : own_Go p e below W T g := by
  obtain ⟨s₂, o, h1, h2⟩ := k
  exact ⟨s₂, o, f _ h1, h2⟩
theorem own_hide {p : Program} {l : Launch} {e : Env} {R : Room} {s : State} {m : MethodId} {args : Array Value} {below : List Frame} {meth : Method} {c : Code} {T : State} {locs : List Loc} {cells slots : Nat} (X : Stand p l e R s m args below meth c T locs cells slots) {k : Nat} (N : Fr k locs) : ∃ L, Stand p l e R s m args below meth c T L cells slots ∧ Fr k L := ⟨_, X, N⟩
theorem own_via {G A : Prop} (h1 : A → G) (h2 : A) : G := h1 h2
section OwnSteps
variable {p : Program} {l : Launch} {e : Env} {R : Room} {s : State} {m : MethodId} {args : Array Value} {below : List Frame} {meth : Method} {c : Code} {T : State} {locs : List Loc} {cells slots : Nat} {W : State → Outcome → Prop} {pc pc' : Nat} {L : Array Slot} {S : List Value}
theorem og_iloadN (X : Stand p l e R s m args below meth c T locs cells slots) (hx : p.tables.exec = Jvm.exec) {k : Fin 4} {v : Int32} (hd : decode c.code pc = .ok (.iload_n k, 1)) (hl : L[k.val]? = some (.val (.int v))) (hp : pc + 1 = pc') (h : own_Go p e below W T (mkF m pc' L ((.int v) :: S))) : own_Go p e below W T (mkF m pc L S) := by
  subst hp; exact own_Go.of (fun t q => XS.iloadN X.here hx rfl hd hl q) h
theorem og_iload (X : Stand p l e R s m args below meth c T locs cells slots) (hx : p.tables.exec = Jvm.exec) {k : Nat} {v : Int32} (hd : decode c.code pc = .ok (.iload k, 2)) (hl : L[k]? = some (.val (.int v))) (hp : pc + 2 = pc') (h : own_Go p e below W T (mkF m pc' L ((.int v) :: S))) : own_Go p e below W T (mkF m pc L S) := by
  subst hp; exact own_Go.of (fun t q => XS.iload X.here hx rfl hd hl q) h
theorem og_istoreN (X : Stand p l e R s m args below meth c T locs cells slots) (hx : p.tables.exec = Jvm.exec) {k : Fin 4} {v : Int32} {L' : Array Slot} (hd : decode c.code pc = .ok (.istore_n k, 1)) (hl : storeLocals L k.val (.int v) = some L') (hp : pc + 1 = pc') (h : own_Go p e below W T (mkF m pc' L' S)) : own_Go p e below W T (mkF m pc L ((.int v) :: S)) := by
  subst hp; exact own_Go.of (fun t q => XS.istoreN X.here hx rfl hd rfl hl q) h
theorem og_istore (X : Stand p l e R s m args below meth c T locs cells slots) (hx : p.tables.exec = Jvm.exec) {k : Nat} {v : Int32} {L' : Array Slot} (hd : decode c.code pc = .ok (.istore k, 2)) (hl : storeLocals L k (.int v) = some L') (hp : pc + 2 = pc') (h : own_Go p e below W T (mkF m pc' L' S)) : own_Go p e below W T (mkF m pc L ((.int v) :: S)) := by
  subst hp; exact own_Go.of (fun t q => XS.istore X.here hx rfl hd rfl hl q) h
theorem og_lloadN (X : Stand p l e R s m args below meth c T locs cells slots) (hx : p.tables.exec = Jvm.exec) {k : Fin 4} {v : Int64} (hd : decode c.code pc = .ok (.lload_n k, 1)) (hl : L[k.val]? = some (.val (.long v))) (hp : pc + 1 = pc') (h : own_Go p e below W T (mkF m pc' L ((.long v) :: S))) : own_Go p e below W T (mkF m pc L S) := by
  subst hp; exact own_Go.of (fun t q => XS.lloadN X.here hx rfl hd hl q) h
theorem og_lload (X : Stand p l e R s m args below meth c T locs cells slots) (hx : p.tables.exec = Jvm.exec) {k : Nat} {v : Int64} (hd : decode c.code pc = .ok (.lload k, 2)) (hl : L[k]? = some (.val (.long v))) (hp : pc + 2 = pc') (h : own_Go p e below W T (mkF m pc' L ((.long v) :: S))) : own_Go p e below W T (mkF m pc L S) := by
  subst hp; exact own_Go.of (fun t q => XS.lload X.here hx rfl hd hl q) h
theorem og_lstoreN (X : Stand p l e R s m args below meth c T locs cells slots) (hx : p.tables.exec = Jvm.exec) {k : Fin 4} {v : Int64} {L' : Array Slot} (hd : decode c.code pc = .ok (.lstore_n k, 1)) (hl : storeLocals L k.val (.long v) = some L') (hp : pc + 1 = pc') (h : own_Go p e below W T (mkF m pc' L' S)) : own_Go p e below W T (mkF m pc L ((.long v) :: S)) := by
  subst hp; exact own_Go.of (fun t q => XS.lstoreN X.here hx rfl hd rfl hl q) h
theorem og_lstore (X : Stand p l e R s m args below meth c T locs cells slots) (hx : p.tables.exec = Jvm.exec) {k : Nat} {v : Int64} {L' : Array Slot} (hd : decode c.code pc = .ok (.lstore k, 2)) (hl : storeLocals L k (.long v) = some L') (hp : pc + 2 = pc') (h : own_Go p e below W T (mkF m pc' L' S)) : own_Go p e below W T (mkF m pc L ((.long v) :: S)) := by
  subst hp; exact own_Go.of (fun t q => XS.lstore X.here hx rfl hd rfl hl q) h
theorem og_aloadN (X : Stand p l e R s m args below meth c T locs cells slots) (hx : p.tables.exec = Jvm.exec) {k : Fin 4} {v : Value} (hd : decode c.code pc = .ok (.aload_n k, 1)) (hl : L[k.val]? = some (.val v)) (hv : v.isRef = true) (hp : pc + 1 = pc') (h : own_Go p e below W T (mkF m pc' L (v :: S))) : own_Go p e below W T (mkF m pc L S) := by
  subst hp; exact own_Go.of (fun t q => XS.aloadN X.here hx rfl hd hl hv q) h
theorem og_aload (X : Stand p l e R s m args below meth c T locs cells slots) (hx : p.tables.exec = Jvm.exec) {k : Nat} {v : Value} (hd : decode c.code pc = .ok (.aload k, 2)) (hl : L[k]? = some (.val v)) (hv : v.isRef = true) (hp : pc + 2 = pc') (h : own_Go p e below W T (mkF m pc' L (v :: S))) : own_Go p e below W T (mkF m pc L S) := by
  subst hp; exact own_Go.of (fun t q => XS.aload X.here hx rfl hd hl hv q) h
theorem og_astoreN (X : Stand p l e R s m args below meth c T locs cells slots) (hx : p.tables.exec = Jvm.exec) {k : Fin 4} {v : Value} {L' : Array Slot} (hd : decode c.code pc = .ok (.astore_n k, 1)) (hv : v.isRef = true) (hl : storeLocals L k.val v = some L') (hp : pc + 1 = pc') (h : own_Go p e below W T (mkF m pc' L' S)) : own_Go p e below W T (mkF m pc L (v :: S)) := by
  subst hp; exact own_Go.of (fun t q => XS.astoreN X.here hx rfl hd rfl hv hl q) h
theorem og_astore (X : Stand p l e R s m args below meth c T locs cells slots) (hx : p.tables.exec = Jvm.exec) {k : Nat} {v : Value} {L' : Array Slot} (hd : decode c.code pc = .ok (.astore k, 2)) (hv : v.isRef = true) (hl : storeLocals L k v = some L') (hp : pc + 2 = pc') (h : own_Go p e below W T (mkF m pc' L' S)) : own_Go p e below W T (mkF m pc L (v :: S)) := by
  subst hp; exact own_Go.of (fun t q => XS.astore X.here hx rfl hd rfl hv hl q) h
theorem og_iconst (X : Stand p l e R s m args below meth c T locs cells slots) (hx : p.tables.exec = Jvm.exec) {i : Int} {n : Int32} (hd : decode c.code pc = .ok (.iconst i, 1)) (hn : Int32.ofInt i = n) (hp : pc + 1 = pc') (h : own_Go p e below W T (mkF m pc' L (.int n :: S))) : own_Go p e below W T (mkF m pc L S) := by
  subst hp hn; exact own_Go.of (fun t q => XS.iconst X.here hx rfl hd q) h
theorem og_bipush (X : Stand p l e R s m args below meth c T locs cells slots) (hx : p.tables.exec = Jvm.exec) {i : Int} {n : Int32} (hd : decode c.code pc = .ok (.bipush i, 2)) (hn : (Int8.ofInt i).toInt32 = n) (hp : pc + 2 = pc') (h : own_Go p e below W T (mkF m pc' L (.int n :: S))) : own_Go p e below W T (mkF m pc L S) := by
  subst hp hn; exact own_Go.of (fun t q => XS.bipush X.here hx rfl hd q) h
theorem og_sipush (X : Stand p l e R s m args below meth c T locs cells slots) (hx : p.tables.exec = Jvm.exec) {i : Int} {n : Int32} (hd : decode c.code pc = .ok (.sipush i, 3)) (hn : (Int16.ofInt i).toInt32 = n) (hp : pc + 3 = pc') (h : own_Go p e below W T (mkF m pc' L (.int n :: S))) : own_Go p e below W T (mkF m pc L S) := by
  subst hp hn; exact own_Go.of (fun t q => XS.sipush X.here hx rfl hd q) h
theorem og_lconst0 (X : Stand p l e R s m args below meth c T locs cells slots) (hx : p.tables.exec = Jvm.exec) (hd : decode c.code pc = .ok (.lconst 0, 1)) (hp : pc + 1 = pc') (h : own_Go p e below W T (mkF m pc' L (.long (0 : Int64) :: S))) : own_Go p e below W T (mkF m pc L S) := by
  subst hp; exact own_Go.of (fun t q => XS.lconst X.here hx rfl hd q) h
theorem og_lconst1 (X : Stand p l e R s m args below meth c T locs cells slots) (hx : p.tables.exec = Jvm.exec) (hd : decode c.code pc = .ok (.lconst 1, 1)) (hp : pc + 1 = pc') (h : own_Go p e below W T (mkF m pc' L (.long (1 : Int64) :: S))) : own_Go p e below W T (mkF m pc L S) := by
  subst hp; exact own_Go.of (fun t q => XS.lconst X.here hx rfl hd q) h
theorem og_aconst_null (X : Stand p l e R s m args below meth c T locs cells slots) (hx : p.tables.exec = Jvm.exec)  (hd : decode c.code pc = .ok (.aconst_null, 1)) (hp : pc + 1 = pc') (h : own_Go p e below W T (mkF m pc' L (.null :: S))) : own_Go p e below W T (mkF m pc L S) := by
  subst hp; exact own_Go.of (fun t q => XS.aconstNull X.here hx rfl hd q) h
theorem og_iadd (X : Stand p l e R s m args below meth c T locs cells slots) (hx : p.tables.exec = Jvm.exec) {x y : Int32} (hd : decode c.code pc = .ok (.iadd, 1)) (hp : pc + 1 = pc') (h : own_Go p e below W T (mkF m pc' L (.int (x + y) :: S))) : own_Go p e below W T (mkF m pc L (.int y :: .int x :: S)) := by
  subst hp; exact own_Go.of (fun t q => XS.iadd X.here hx rfl hd rfl q) h
theorem og_ladd (X : Stand p l e R s m args below meth c T locs cells slots) (hx : p.tables.exec = Jvm.exec) {x y : Int64} (hd : decode c.code pc = .ok (.ladd, 1)) (hp : pc + 1 = pc') (h : own_Go p e below W T (mkF m pc' L (.long (x + y) :: S))) : own_Go p e below W T (mkF m pc L (.long y :: .long x :: S)) := by
  subst hp; exact own_Go.of (fun t q => XS.ladd X.here hx rfl hd rfl q) h
theorem og_isub (X : Stand p l e R s m args below meth c T locs cells slots) (hx : p.tables.exec = Jvm.exec) {x y : Int32} (hd : decode c.code pc = .ok (.isub, 1)) (hp : pc + 1 = pc') (h : own_Go p e below W T (mkF m pc' L (.int (x - y) :: S))) : own_Go p e below W T (mkF m pc L (.int y :: .int x :: S)) := by
  subst hp; exact own_Go.of (fun t q => XS.isub X.here hx rfl hd rfl q) h
theorem og_lsub (X : Stand p l e R s m args below meth c T locs cells slots) (hx : p.tables.exec = Jvm.exec) {x y : Int64} (hd : decode c.code pc = .ok (.lsub, 1)) (hp : pc + 1 = pc') (h : own_Go p e below W T (mkF m pc' L (.long (x - y) :: S))) : own_Go p e below W T (mkF m pc L (.long y :: .long x :: S)) := by
  subst hp; exact own_Go.of (fun t q => XS.lsub X.here hx rfl hd rfl q) h
theorem og_imul (X : Stand p l e R s m args below meth c T locs cells slots) (hx : p.tables.exec = Jvm.exec) {x y : Int32} (hd : decode c.code pc = .ok (.imul, 1)) (hp : pc + 1 = pc') (h : own_Go p e below W T (mkF m pc' L (.int (x * y) :: S))) : own_Go p e below W T (mkF m pc L (.int y :: .int x :: S)) := by
  subst hp; exact own_Go.of (fun t q => XS.imul X.here hx rfl hd rfl q) h
theorem og_lmul (X : Stand p l e R s m args below meth c T locs cells slots) (hx : p.tables.exec = Jvm.exec) {x y : Int64} (hd : decode c.code pc = .ok (.lmul, 1)) (hp : pc + 1 = pc') (h : own_Go p e below W T (mkF m pc' L (.long (x * y) :: S))) : own_Go p e below W T (mkF m pc L (.long y :: .long x :: S)) := by
  subst hp; exact own_Go.of (fun t q => XS.lmul X.here hx rfl hd rfl q) h
theorem og_iand (X : Stand p l e R s m args below meth c T locs cells slots) (hx : p.tables.exec = Jvm.exec) {x y : Int32} (hd : decode c.code pc = .ok (.iand, 1)) (hp : pc + 1 = pc') (h : own_Go p e below W T (mkF m pc' L (.int (x &&& y) :: S))) : own_Go p e below W T (mkF m pc L (.int y :: .int x :: S)) := by
  subst hp; exact own_Go.of (fun t q => XS.iand X.here hx rfl hd rfl q) h
theorem og_land (X : Stand p l e R s m args below meth c T locs cells slots) (hx : p.tables.exec = Jvm.exec) {x y : Int64} (hd : decode c.code pc = .ok (.land, 1)) (hp : pc + 1 = pc') (h : own_Go p e below W T (mkF m pc' L (.long (x &&& y) :: S))) : own_Go p e below W T (mkF m pc L (.long y :: .long x :: S)) := by
  subst hp; exact own_Go.of (fun t q => XS.land X.here hx rfl hd rfl q) h
theorem og_ior (X : Stand p l e R s m args below meth c T locs cells slots) (hx : p.tables.exec = Jvm.exec) {x y : Int32} (hd : decode c.code pc = .ok (.ior, 1)) (hp : pc + 1 = pc') (h : own_Go p e below W T (mkF m pc' L (.int (x ||| y) :: S))) : own_Go p e below W T (mkF m pc L (.int y :: .int x :: S)) := by
  subst hp; exact own_Go.of (fun t q => XS.ior X.here hx rfl hd rfl q) h
theorem og_lor (X : Stand p l e R s m args below meth c T locs cells slots) (hx : p.tables.exec = Jvm.exec) {x y : Int64} (hd : decode c.code pc = .ok (.lor, 1)) (hp : pc + 1 = pc') (h : own_Go p e below W T (mkF m pc' L (.long (x ||| y) :: S))) : own_Go p e below W T (mkF m pc L (.long y :: .long x :: S)) := by
  subst hp; exact own_Go.of (fun t q => XS.lor X.here hx rfl hd rfl q) h
theorem og_ixor (X : Stand p l e R s m args below meth c T locs cells slots) (hx : p.tables.exec = Jvm.exec) {x y : Int32} (hd : decode c.code pc = .ok (.ixor, 1)) (hp : pc + 1 = pc') (h : own_Go p e below W T (mkF m pc' L (.int (x ^^^ y) :: S))) : own_Go p e below W T (mkF m pc L (.int y :: .int x :: S)) := by
  subst hp; exact own_Go.of (fun t q => XS.ixor X.here hx rfl hd rfl q) h
theorem og_lxor (X : Stand p l e R s m args below meth c T locs cells slots) (hx : p.tables.exec = Jvm.exec) {x y : Int64} (hd : decode c.code pc = .ok (.lxor, 1)) (hp : pc + 1 = pc') (h : own_Go p e below W T (mkF m pc' L (.long (x ^^^ y) :: S))) : own_Go p e below W T (mkF m pc L (.long y :: .long x :: S)) := by
  subst hp; exact own_Go.of (fun t q => XS.lxor X.here hx rfl hd rfl q) h
theorem og_ineg (X : Stand p l e R s m args below meth c T locs cells slots) (hx : p.tables.exec = Jvm.exec) {x : Int32} (hd : decode c.code pc = .ok (.ineg, 1)) (hp : pc + 1 = pc') (h : own_Go p e below W T (mkF m pc' L (.int (-x) :: S))) : own_Go p e below W T (mkF m pc L (.int x :: S)) := by
  subst hp; exact own_Go.of (fun t q => XS.ineg X.here hx rfl hd rfl q) h
theorem og_lneg (X : Stand p l e R s m args below meth c T locs cells slots) (hx : p.tables.exec = Jvm.exec) {x : Int64} (hd : decode c.code pc = .ok (.lneg, 1)) (hp : pc + 1 = pc') (h : own_Go p e below W T (mkF m pc' L (.long (-x) :: S))) : own_Go p e below W T (mkF m pc L (.long x :: S)) := by
  subst hp; exact own_Go.of (fun t q => XS.lneg X.here hx rfl hd rfl q) h
theorem og_i2l (X : Stand p l e R s m args below meth c T locs cells slots) (hx : p.tables.exec = Jvm.exec) {x : Int32} (hd : decode c.code pc = .ok (.i2l, 1)) (hp : pc + 1 = pc') (h : own_Go p e below W T (mkF m pc' L (.long (x.toInt64) :: S))) : own_Go p e below W T (mkF m pc L (.int x :: S)) := by
  subst hp; exact own_Go.of (fun t q => XS.i2l X.here hx rfl hd rfl q) h
theorem og_l2i (X : Stand p l e R s m args below meth c T locs cells slots) (hx : p.tables.exec = Jvm.exec) {x : Int64} (hd : decode c.code pc = .ok (.l2i, 1)) (hp : pc + 1 = pc') (h : own_Go p e below W T (mkF m pc' L (.int (x.toInt32) :: S))) : own_Go p e below W T (mkF m pc L (.long x :: S)) := by
  subst hp; exact own_Go.of (fun t q => XS.l2i X.here hx rfl hd rfl q) h
theorem og_i2b (X : Stand p l e R s m args below meth c T locs cells slots) (hx : p.tables.exec = Jvm.exec) {x : Int32} (hd : decode c.code pc = .ok (.i2b, 1)) (hp : pc + 1 = pc') (h : own_Go p e below W T (mkF m pc' L (.int (x.toInt8.toInt32) :: S))) : own_Go p e below W T (mkF m pc L (.int x :: S)) := by
  subst hp; exact own_Go.of (fun t q => XS.i2b X.here hx rfl hd rfl q) h
theorem og_i2s (X : Stand p l e R s m args below meth c T locs cells slots) (hx : p.tables.exec = Jvm.exec) {x : Int32} (hd : decode c.code pc = .ok (.i2s, 1)) (hp : pc + 1 = pc') (h : own_Go p e below W T (mkF m pc' L (.int (x.toInt16.toInt32) :: S))) : own_Go p e below W T (mkF m pc L (.int x :: S)) := by
  subst hp; exact own_Go.of (fun t q => XS.i2s X.here hx rfl hd rfl q) h
theorem og_i2c (X : Stand p l e R s m args below meth c T locs cells slots) (hx : p.tables.exec = Jvm.exec) {x : Int32} (hd : decode c.code pc = .ok (.i2c, 1)) (hp : pc + 1 = pc') (h : own_Go p e below W T (mkF m pc' L (.int (x.toUInt32.toUInt16.toUInt32.toInt32) :: S))) : own_Go p e below W T (mkF m pc L (.int x :: S)) := by
  subst hp; exact own_Go.of (fun t q => XS.i2c X.here hx rfl hd rfl q) h
theorem og_ishl (X : Stand p l e R s m args below meth c T locs cells slots) (hx : p.tables.exec = Jvm.exec) {x : Int32} {y : Int32} (hd : decode c.code pc = .ok (.ishl, 1)) (hp : pc + 1 = pc') (h : own_Go p e below W T (mkF m pc' L (.int (x <<< (y &&& 31)) :: S))) : own_Go p e below W T (mkF m pc L (.int y :: .int x :: S)) := by
  subst hp; exact own_Go.of (fun t q => XS.ishl X.here hx rfl hd rfl q) h
theorem og_ishr (X : Stand p l e R s m args below meth c T locs cells slots) (hx : p.tables.exec = Jvm.exec) {x : Int32} {y : Int32} (hd : decode c.code pc = .ok (.ishr, 1)) (hp : pc + 1 = pc') (h : own_Go p e below W T (mkF m pc' L (.int (x >>> (y &&& 31)) :: S))) : own_Go p e below W T (mkF m pc L (.int y :: .int x :: S)) := by
  subst hp; exact own_Go.of (fun t q => XS.ishr X.here hx rfl hd rfl q) h
theorem og_iushr (X : Stand p l e R s m args below meth c T locs cells slots) (hx : p.tables.exec = Jvm.exec) {x : Int32} {y : Int32} (hd : decode c.code pc = .ok (.iushr, 1)) (hp : pc + 1 = pc') (h : own_Go p e below W T (mkF m pc' L (.int ((x.toUInt32 >>> (y &&& 31).toUInt32).toInt32) :: S))) : own_Go p e below W T (mkF m pc L (.int y :: .int x :: S)) := by
  subst hp; exact own_Go.of (fun t q => XS.iushr X.here hx rfl hd rfl q) h
theorem og_lshl (X : Stand p l e R s m args below meth c T locs cells slots) (hx : p.tables.exec = Jvm.exec) {x : Int64} {y : Int32} (hd : decode c.code pc = .ok (.lshl, 1)) (hp : pc + 1 = pc') (h : own_Go p e below W T (mkF m pc' L (.long (x <<< (y &&& 0x3f).toInt64) :: S))) : own_Go p e below W T (mkF m pc L (.int y :: .long x :: S)) := by
  subst hp; exact own_Go.of (fun t q => XS.lshl X.here hx rfl hd rfl q) h
theorem og_lshr (X : Stand p l e R s m args below meth c T locs cells slots) (hx : p.tables.exec = Jvm.exec) {x : Int64} {y : Int32} (hd : decode c.code pc = .ok (.lshr, 1)) (hp : pc + 1 = pc') (h : own_Go p e below W T (mkF m pc' L (.long (x >>> (y &&& 0x3f).toInt64) :: S))) : own_Go p e below W T (mkF m pc L (.int y :: .long x :: S)) := by
  subst hp; exact own_Go.of (fun t q => XS.lshr X.here hx rfl hd rfl q) h
theorem og_lushr (X : Stand p l e R s m args below meth c T locs cells slots) (hx : p.tables.exec = Jvm.exec) {x : Int64} {y : Int32} (hd : decode c.code pc = .ok (.lushr, 1)) (hp : pc + 1 = pc') (h : own_Go p e below W T (mkF m pc' L (.long ((x.toUInt64 >>> (y &&& 0x3f).toInt64.toUInt64).toInt64) :: S))) : own_Go p e below W T (mkF m pc L (.int y :: .long x :: S)) := by
  subst hp; exact own_Go.of (fun t q => XS.lushr X.here hx rfl hd rfl q) h
theorem og_lcmp (X : Stand p l e R s m args below meth c T locs cells slots) (hx : p.tables.exec = Jvm.exec) {x y : Int64} (hd : decode c.code pc = .ok (.lcmp, 1)) (hp : pc + 1 = pc') (h : own_Go p e below W T (mkF m pc' L (.int (lcmpW x y) :: S))) : own_Go p e below W T (mkF m pc L (.long y :: .long x :: S)) := by
  subst hp; exact own_Go.of (fun t q => XS.lcmp X.here hx rfl hd rfl q) h
theorem og_idiv (X : Stand p l e R s m args below meth c T locs cells slots) (hx : p.tables.exec = Jvm.exec) {x y : Int32} (hd : decode c.code pc = .ok (.idiv, 1)) (hy : y ≠ 0) (hp : pc + 1 = pc') (h : own_Go p e below W T (mkF m pc' L (.int (x / y) :: S))) : own_Go p e below W T (mkF m pc L (.int y :: .int x :: S)) := by
  subst hp; exact own_Go.of (fun t q => XS.idiv X.here hx rfl hd rfl hy q) h
theorem og_ldiv (X : Stand p l e R s m args below meth c T locs cells slots) (hx : p.tables.exec = Jvm.exec) {x y : Int64} (hd : decode c.code pc = .ok (.ldiv, 1)) (hy : y ≠ 0) (hp : pc + 1 = pc') (h : own_Go p e below W T (mkF m pc' L (.long (x / y) :: S))) : own_Go p e below W T (mkF m pc L (.long y :: .long x :: S)) := by
  subst hp; exact own_Go.of (fun t q => XS.ldiv X.here hx rfl hd rfl hy q) h
theorem og_irem (X : Stand p l e R s m args below meth c T locs cells slots) (hx : p.tables.exec = Jvm.exec) {x y : Int32} (hd : decode c.code pc = .ok (.irem, 1)) (hy : y ≠ 0) (hp : pc + 1 = pc') (h : own_Go p e below W T (mkF m pc' L (.int (x % y) :: S))) : own_Go p e below W T (mkF m pc L (.int y :: .int x :: S)) := by
  subst hp; exact own_Go.of (fun t q => iremM X hx rfl hd rfl hy q) h
theorem og_lrem (X : Stand p l e R s m args below meth c T locs cells slots) (hx : p.tables.exec = Jvm.exec) {x y : Int64} (hd : decode c.code pc = .ok (.lrem, 1)) (hy : y ≠ 0) (hp : pc + 1 = pc') (h : own_Go p e below W T (mkF m pc' L (.long (x - (x / y) * y) :: S))) : own_Go p e below W T (mkF m pc L (.long y :: .long x :: S)) := by
  subst hp; exact own_Go.of (fun t q => XS.lrem X.here hx rfl hd rfl hy q) h
theorem og_iinc (X : Stand p l e R s m args below meth c T locs cells slots) (hx : p.tables.exec = Jvm.exec) {k : Nat} {z : Int} {v : Int32} {L' : Array Slot} (hd : decode c.code pc = .ok (.iinc k z, 3)) (hl : L[k]? = some (.val (.int v))) (hs : storeLocals L k (.int (v + Int32.ofInt z)) = some L') (hp : pc + 3 = pc') (h : own_Go p e below W T (mkF m pc' L' S)) : own_Go p e below W T (mkF m pc L S) := by
  subst hp; exact own_Go.of (fun t q => XS.iinc X.here hx rfl hd hl hs q) h
theorem og_dup (X : Stand p l e R s m args below meth c T locs cells slots) (hx : p.tables.exec = Jvm.exec) {v : Value} (hd : decode c.code pc = .ok (.dup, 1)) (hc : v.category = 1) (hp : pc + 1 = pc') (h : own_Go p e below W T (mkF m pc' L (v :: v :: S))) : own_Go p e below W T (mkF m pc L (v :: S)) := by
  subst hp; exact own_Go.of (fun t q => XS.dup X.here hx rfl hd rfl hc q) h
theorem og_pop (X : Stand p l e R s m args below meth c T locs cells slots) (hx : p.tables.exec = Jvm.exec) {v : Value} (hd : decode c.code pc = .ok (.pop, 1)) (hc : v.category = 1) (hp : pc + 1 = pc') (h : own_Go p e below W T (mkF m pc' L S)) : own_Go p e below W T (mkF m pc L (v :: S)) := by
  subst hp; exact own_Go.of (fun t q => XS.pop X.here hx rfl hd rfl hc q) h
theorem og_dup_x1 (X : Stand p l e R s m args below meth c T locs cells slots) (hx : p.tables.exec = Jvm.exec) {v w : Value} (hd : decode c.code pc = .ok (.dup_x1, 1)) (hc : v.category = 1) (hc' : w.category = 1) (hp : pc + 1 = pc') (h : own_Go p e below W T (mkF m pc' L (v :: w :: v :: S))) : own_Go p e below W T (mkF m pc L (v :: w :: S)) := by
  subst hp; exact own_Go.of (fun t q => XS.dupX1 X.here hx rfl hd rfl hc hc' q) h
theorem og_goto (X : Stand p l e R s m args below meth c T locs cells slots) (hx : p.tables.exec = Jvm.exec) {o : Int} (hd : decode c.code pc = .ok (.goto o, 3)) (ho : 0 ≤ (pc : Int) + o) (hp : ((pc : Int) + o).toNat = pc') (h : own_Go p e below W T (mkF m pc' L S)) : own_Go p e below W T (mkF m pc L S) := by
  exact own_Go.of (fun t q => XS.goto X.here hx rfl rfl hd ho hp q) h
theorem og_ifYes (X : Stand p l e R s m args below meth c T locs cells slots) (hx : p.tables.exec = Jvm.exec) {cd : ClassFile.Cond} {x : Int32} {o : Int} (hd : decode c.code pc = .ok (.ifCond cd o, 3)) (hc : ifCond.holds cd x = true) (ho : 0 ≤ (pc : Int) + o) (hp : ((pc : Int) + o).toNat = pc') (h : own_Go p e below W T (mkF m pc' L S)) : own_Go p e below W T (mkF m pc L (.int x :: S)) := by
  exact own_Go.of (fun t q => XS.ifYes X.here hx rfl rfl hd rfl hc ho hp q) h
theorem og_ifNo (X : Stand p l e R s m args below meth c T locs cells slots) (hx : p.tables.exec = Jvm.exec) {cd : ClassFile.Cond} {x : Int32} {o : Int} (hd : decode c.code pc = .ok (.ifCond cd o, 3)) (hc : ifCond.holds cd x = false) (hp : pc + 3 = pc') (h : own_Go p e below W T (mkF m pc' L S)) : own_Go p e below W T (mkF m pc L (.int x :: S)) := by
  subst hp; exact own_Go.of (fun t q => XS.ifNo X.here hx rfl hd rfl hc q) h
theorem og_icmpYes (X : Stand p l e R s m args below meth c T locs cells slots) (hx : p.tables.exec = Jvm.exec) {cd : ClassFile.Cond} {x y : Int32} {o : Int} (hd : decode c.code pc = .ok (.if_icmp cd o, 3)) (hc : if_icmp.holds cd x y = true) (ho : 0 ≤ (pc : Int) + o) (hp : ((pc : Int) + o).toNat = pc') (h : own_Go p e below W T (mkF m pc' L S)) : own_Go p e below W T (mkF m pc L (.int y :: .int x :: S)) := by
  exact own_Go.of (fun t q => XS.icmpYes X.here hx rfl rfl hd rfl hc ho hp q) h
theorem og_icmpNo (X : Stand p l e R s m args below meth c T locs cells slots) (hx : p.tables.exec = Jvm.exec) {cd : ClassFile.Cond} {x y : Int32} {o : Int} (hd : decode c.code pc = .ok (.if_icmp cd o, 3)) (hc : if_icmp.holds cd x y = false) (hp : pc + 3 = pc') (h : own_Go p e below W T (mkF m pc' L S)) : own_Go p e below W T (mkF m pc L (.int y :: .int x :: S)) := by
  subst hp; exact own_Go.of (fun t q => XS.icmpNo X.here hx rfl hd rfl hc q) h
theorem og_ifnullYes (X : Stand p l e R s m args below meth c T locs cells slots) (hx : p.tables.exec = Jvm.exec) {o : Int} (hd : decode c.code pc = .ok (.ifnull o, 3)) (ho : 0 ≤ (pc : Int) + o) (hp : ((pc : Int) + o).toNat = pc') (h : own_Go p e below W T (mkF m pc' L S)) : own_Go p e below W T (mkF m pc L (.null :: S)) := by
  exact own_Go.of (fun t q => XS.ifnullYes X.here hx rfl rfl hd rfl ho hp q) h
theorem og_ifnullNo (X : Stand p l e R s m args below meth c T locs cells slots) (hx : p.tables.exec = Jvm.exec) {b : Addr} {o : Int} (hd : decode c.code pc = .ok (.ifnull o, 3)) (hp : pc + 3 = pc') (h : own_Go p e below W T (mkF m pc' L S)) : own_Go p e below W T (mkF m pc L (.ref b :: S)) := by
  subst hp; exact own_Go.of (fun t q => XS.ifnullNo X.here hx rfl hd rfl q) h
theorem og_ifnonnullYes (X : Stand p l e R s m args below meth c T locs cells slots) (hx : p.tables.exec = Jvm.exec) {b : Addr} {o : Int} (hd : decode c.code pc = .ok (.ifnonnull o, 3)) (ho : 0 ≤ (pc : Int) + o) (hp : ((pc : Int) + o).toNat = pc') (h : own_Go p e below W T (mkF m pc' L S)) : own_Go p e below W T (mkF m pc L (.ref b :: S)) := by
  exact own_Go.of (fun t q => XS.ifnonnullYes X.here hx rfl rfl hd rfl ho hp q) h
theorem og_ifnonnullNo (X : Stand p l e R s m args below meth c T locs cells slots) (hx : p.tables.exec = Jvm.exec) {o : Int} (hd : decode c.code pc = .ok (.ifnonnull o, 3)) (hp : pc + 3 = pc') (h : own_Go p e below W T (mkF m pc' L S)) : own_Go p e below W T (mkF m pc L (.null :: S)) := by
  subst hp; exact own_Go.of (fun t q => XS.ifnonnullNo X.here hx rfl hd rfl q) h
theorem og_ldc (X : Stand p l e R s m args below meth c T locs cells slots) (hx : p.tables.exec = Jvm.exec) {own : String} {index : Nat} {v : Int32} (hd : decode c.code pc = .ok (.ldc index, 2)) (hown : s.vm.findClass own = some m.cls) (w : (Jvm.Cond.constant own index v).before args s = true) (hp : pc + 2 = pc') (h : own_Go p e below W T (mkF m pc' L (.int v :: S))) : own_Go p e below W T (mkF m pc L S) := by
  subst hp; exact own_Go.of (fun t q => X.ldcInt hx hown w (g := mkF m pc L S) rfl hd _ q) h
theorem og_ldc2_w (X : Stand p l e R s m args below meth c T locs cells slots) (hx : p.tables.exec = Jvm.exec) {own : String} {index : Nat} {v : Int64} (hd : decode c.code pc = .ok (.ldc2_w index, 3)) (hown : s.vm.findClass own = some m.cls) (w : (Jvm.Cond.constantLong own index v).before args s = true) (hp : pc + 3 = pc') (h : own_Go p e below W T (mkF m pc' L (.long v :: S))) : own_Go p e below W T (mkF m pc L S) := by
  subst hp; exact own_Go.of (fun t q => X.ldc2Long hx hown w (g := mkF m pc L S) rfl hd _ q) h
end OwnSteps
def own_len (x0 : Int64) : Int32 := (if x0 < (128 : Int64) then (1 : Int32) else (if x0 < (16384 : Int64) then (2 : Int32) else (if x0 < (2097152 : Int64) then (3 : Int32) else (if x0 < (268435456 : Int64) then (4 : Int32) else (if x0 < (34359738368 : Int64) then (5 : Int32) else (if x0 < (4398046511104 : Int64) then (6 : Int32) else (if x0 < (562949953421312 : Int64) then (7 : Int32) else (if x0 < (72057594037927936 : Int64) then (8 : Int32) else (9 : Int32)))))))))
theorem d1_0 : decode method_3_code 0 = .ok (.lload_n 0, 1) := by decide +kernel
theorem d1_1 : decode method_3_code 1 = .ok (.ldc2_w 27, 3) := by decide +kernel
theorem d1_4 : decode method_3_code 4 = .ok (.lcmp, 1) := by decide +kernel
theorem d1_5 : decode method_3_code 5 = .ok (.ifCond .ge 5, 3) := by decide +kernel
theorem d1_8 : decode method_3_code 8 = .ok (.iconst 1, 1) := by decide +kernel
theorem d1_9 : decode method_3_code 9 = .ok (.ireturn, 1) := by decide +kernel
theorem d1_10 : decode method_3_code 10 = .ok (.lload_n 0, 1) := by decide +kernel
theorem d1_11 : decode method_3_code 11 = .ok (.ldc2_w 29, 3) := by decide +kernel
theorem d1_14 : decode method_3_code 14 = .ok (.lcmp, 1) := by decide +kernel
theorem d1_15 : decode method_3_code 15 = .ok (.ifCond .ge 5, 3) := by decide +kernel
theorem d1_18 : decode method_3_code 18 = .ok (.iconst 2, 1) := by decide +kernel
theorem d1_19 : decode method_3_code 19 = .ok (.ireturn, 1) := by decide +kernel
theorem d1_20 : decode method_3_code 20 = .ok (.lload_n 0, 1) := by decide +kernel
theorem d1_21 : decode method_3_code 21 = .ok (.ldc2_w 31, 3) := by decide +kernel
theorem d1_24 : decode method_3_code 24 = .ok (.lcmp, 1) := by decide +kernel
theorem d1_25 : decode method_3_code 25 = .ok (.ifCond .ge 5, 3) := by decide +kernel
theorem d1_28 : decode method_3_code 28 = .ok (.iconst 3, 1) := by decide +kernel
theorem d1_29 : decode method_3_code 29 = .ok (.ireturn, 1) := by decide +kernel
theorem d1_30 : decode method_3_code 30 = .ok (.lload_n 0, 1) := by decide +kernel
theorem d1_31 : decode method_3_code 31 = .ok (.ldc2_w 33, 3) := by decide +kernel
theorem d1_34 : decode method_3_code 34 = .ok (.lcmp, 1) := by decide +kernel
theorem d1_35 : decode method_3_code 35 = .ok (.ifCond .ge 5, 3) := by decide +kernel
theorem d1_38 : decode method_3_code 38 = .ok (.iconst 4, 1) := by decide +kernel
theorem d1_39 : decode method_3_code 39 = .ok (.ireturn, 1) := by decide +kernel
theorem d1_40 : decode method_3_code 40 = .ok (.lload_n 0, 1) := by decide +kernel
theorem d1_41 : decode method_3_code 41 = .ok (.ldc2_w 35, 3) := by decide +kernel
theorem d1_44 : decode method_3_code 44 = .ok (.lcmp, 1) := by decide +kernel
theorem d1_45 : decode method_3_code 45 = .ok (.ifCond .ge 5, 3) := by decide +kernel
theorem d1_48 : decode method_3_code 48 = .ok (.iconst 5, 1) := by decide +kernel
theorem d1_49 : decode method_3_code 49 = .ok (.ireturn, 1) := by decide +kernel
theorem d1_50 : decode method_3_code 50 = .ok (.lload_n 0, 1) := by decide +kernel
theorem d1_51 : decode method_3_code 51 = .ok (.ldc2_w 37, 3) := by decide +kernel
theorem d1_54 : decode method_3_code 54 = .ok (.lcmp, 1) := by decide +kernel
theorem d1_55 : decode method_3_code 55 = .ok (.ifCond .ge 6, 3) := by decide +kernel
theorem d1_58 : decode method_3_code 58 = .ok (.bipush 6, 2) := by decide +kernel
theorem d1_60 : decode method_3_code 60 = .ok (.ireturn, 1) := by decide +kernel
theorem d1_61 : decode method_3_code 61 = .ok (.lload_n 0, 1) := by decide +kernel
theorem d1_62 : decode method_3_code 62 = .ok (.ldc2_w 39, 3) := by decide +kernel
theorem d1_65 : decode method_3_code 65 = .ok (.lcmp, 1) := by decide +kernel
theorem d1_66 : decode method_3_code 66 = .ok (.ifCond .ge 6, 3) := by decide +kernel
theorem d1_69 : decode method_3_code 69 = .ok (.bipush 7, 2) := by decide +kernel
theorem d1_71 : decode method_3_code 71 = .ok (.ireturn, 1) := by decide +kernel
theorem d1_72 : decode method_3_code 72 = .ok (.lload_n 0, 1) := by decide +kernel
theorem d1_73 : decode method_3_code 73 = .ok (.ldc2_w 41, 3) := by decide +kernel
theorem d1_76 : decode method_3_code 76 = .ok (.lcmp, 1) := by decide +kernel
theorem d1_77 : decode method_3_code 77 = .ok (.ifCond .ge 6, 3) := by decide +kernel
theorem d1_80 : decode method_3_code 80 = .ok (.bipush 8, 2) := by decide +kernel
theorem d1_82 : decode method_3_code 82 = .ok (.ireturn, 1) := by decide +kernel
theorem d1_83 : decode method_3_code 83 = .ok (.bipush 9, 2) := by decide +kernel
theorem d1_85 : decode method_3_code 85 = .ok (.ireturn, 1) := by decide +kernel
theorem pnlen : plainName "com/example/skorr/skorr/index/IndexFormatWriteVarintPinLaw" = true := by first | (simp [plainName, overriddenIn]; done) | decide +kernel
theorem eflen (m : MethodId) (z0 : Int64) : entryFrame m #[(.long z0)] 2 = mkF m 0 #[.val (.long z0), .second] [] := by first | (simp [entryFrame, mkF, argsToLocals, Value.category]; done) | rfl
def Qlen (Z : State) (x0 : Int64) (h0 : Heap) (n0 : Nat) (v : Option Value) (h : Heap) (L : List Loc) : Prop := v = some (.int (own_len x0)) ∧ Fr n0 L ∧ h = h0
set_option maxRecDepth 65536 in
set_option maxHeartbeats 40000000 in
theorem rmlen (l : Launch) (Z : State) (a0 : Array Value) (hw : ∀ d ∈ tables_1, d.before a0 Z = true) (ws : List Jvm.Cond) (x0 : Int64) (h0 : Heap) (n0 : Nat) (Z0 : n0 ≤ h0.size) :
    MetFree l (⟨"com/example/skorr/skorr/index/IndexFormatWriteVarintPinLaw", "length", "(J)I"⟩ : MethodName) (head1 (Jvm.Cond.code (⟨"com/example/skorr/skorr/index/IndexFormatWriteVarintPinLaw", "length", "(J)I"⟩ : MethodName) method_3_code 2 (some .int) :: ws) ({ frames := 0, cells := 0, slots := 0, locals := 0 } : Room)) (fun ag U => ag = #[(.long x0)] ∧ Z.Warmed39 U.vm ∧ U.heap = h0) (fun _ _ _ _ _ => True) (fun _ U oc U' => ∃ v L, oc = .returned v ∧ Qlen Z x0 h0 n0 v U'.heap L ∧ FrameEnd U oc U' L ({ frames := 0, cells := 0, slots := 0, locals := 0 } : Room).cells ({ frames := 0, cells := 0, slots := 0, locals := 0 } : Room).slots) := by
  refine MetFree.of_bodySF (plainFor_of_name pnlen) hisR ?_
  intro p e s m args below meth c s₁ Bd hml0 hP hK
  obtain ⟨rfl, hZ, hh⟩ := hP
  have hx := Bd.exec
  have hby := Bd.bytes
  have hml : c.maxLocals = 2 := hml0
  have hown : s.vm.findClass "com/example/skorr/skorr/index/IndexFormatWriteVarintPinLaw" = some m.cls := findClass_of_methodNamed Bd.named
  have hnm := (name_of_methodNamed Bd.named Bd.method).1
  have X0 : Stand p l e ({ frames := 0, cells := 0, slots := 0, locals := 0 } : Room) s m #[(.long x0)] below meth c s₁ [] 0 0 := Stand.of_body Bd
  have e0 : s₁.heap = h0 := by rw [← hh, Bd.state]; rfl
  have N0 := Fr.nil n0
  show own_Go p e below (fun s₂ oc => ∃ v L, oc = .returned v ∧ Qlen Z x0 h0 n0 v s₂.heap L ∧ FrameEnd s oc s₂ L ({ frames := 0, cells := 0, slots := 0, locals := 0 } : Room).cells ({ frames := 0, cells := 0, slots := 0, locals := 0 } : Room).slots) s₁ (entryFrame m #[(.long x0)] 2)
  refine own_Go.of (g' := mkF m 0 #[.val (.long x0), .second] []) (fun t k => castTop (eflen m x0) k) ?_
  have hv : own_len x0 = own_len x0 := rfl
  refine og_lloadN (pc' := 1) X0 hx (hb hby d1_0) rfl rfl ?_
  refine og_ldc2_w (pc' := 4) X0 hx (hb hby d1_1) hown (mvT hZ (hw _ (List.mem_of_getElem? (i := 6) rfl))) rfl ?_
  refine og_lcmp (pc' := 5) X0 hx (hb hby d1_4) rfl ?_
  by_cases hc5_1 : x0 < (128 : Int64)
  · have hv := hv.trans (if_pos hc5_1)
    refine og_ifNo (pc' := 8) X0 hx (hb hby d1_5) ((if0 _ _).trans (tlt ((lw_lt _ _).mpr hc5_1)).2.1) rfl ?_
    refine og_iconst (pc' := 9) (n := 1) X0 hx (hb hby d1_8) rfl rfl ?_
    obtain ⟨fs, hr, hrun, hended, hW, hsame⟩ := X0.leave (v := some (.int (1 : Int32))) (fun h => by rw [Bd.returns] at h; cases h) (BodyLoose.notSynchronized Bd)
    refine ⟨_, _, retI X0 hx Bd.returns (hb hby d1_9) hr, hrun, hended, some (.int (1 : Int32)), _, rfl, ?_, ⟨_, rfl⟩, hW, hsame.mono (by decide) (by decide)⟩
    show Qlen Z x0 h0 n0 _ s₁.heap _
    rw [e0]
    exact ⟨(congrArg (fun z => some (Value.int z)) hv.symm), N0, rfl⟩
  · have hv := hv.trans (if_neg hc5_1)
    refine og_ifYes (pc' := 10) X0 hx (hb hby d1_5) ((if0 _ _).trans (flt (fun q => hc5_1 ((lw_lt _ _).mp q))).2.1) (by decide) (by decide) ?_
    refine og_lloadN (pc' := 11) X0 hx (hb hby d1_10) rfl rfl ?_
    refine og_ldc2_w (pc' := 14) X0 hx (hb hby d1_11) hown (mvT hZ (hw _ (List.mem_of_getElem? (i := 16) rfl))) rfl ?_
    refine og_lcmp (pc' := 15) X0 hx (hb hby d1_14) rfl ?_
    by_cases hc15_2 : x0 < (16384 : Int64)
    · have hv := hv.trans (if_pos hc15_2)
      refine og_ifNo (pc' := 18) X0 hx (hb hby d1_15) ((if0 _ _).trans (tlt ((lw_lt _ _).mpr hc15_2)).2.1) rfl ?_
      refine og_iconst (pc' := 19) (n := 2) X0 hx (hb hby d1_18) rfl rfl ?_
      obtain ⟨fs, hr, hrun, hended, hW, hsame⟩ := X0.leave (v := some (.int (2 : Int32))) (fun h => by rw [Bd.returns] at h; cases h) (BodyLoose.notSynchronized Bd)
      refine ⟨_, _, retI X0 hx Bd.returns (hb hby d1_19) hr, hrun, hended, some (.int (2 : Int32)), _, rfl, ?_, ⟨_, rfl⟩, hW, hsame.mono (by decide) (by decide)⟩
      show Qlen Z x0 h0 n0 _ s₁.heap _
      rw [e0]
      exact ⟨(congrArg (fun z => some (Value.int z)) hv.symm), N0, rfl⟩
    · have hv := hv.trans (if_neg hc15_2)
      refine og_ifYes (pc' := 20) X0 hx (hb hby d1_15) ((if0 _ _).trans (flt (fun q => hc15_2 ((lw_lt _ _).mp q))).2.1) (by decide) (by decide) ?_
      refine og_lloadN (pc' := 21) X0 hx (hb hby d1_20) rfl rfl ?_
      refine og_ldc2_w (pc' := 24) X0 hx (hb hby d1_21) hown (mvT hZ (hw _ (List.mem_of_getElem? (i := 17) rfl))) rfl ?_
      refine og_lcmp (pc' := 25) X0 hx (hb hby d1_24) rfl ?_
      by_cases hc25_3 : x0 < (2097152 : Int64)
      · have hv := hv.trans (if_pos hc25_3)
        refine og_ifNo (pc' := 28) X0 hx (hb hby d1_25) ((if0 _ _).trans (tlt ((lw_lt _ _).mpr hc25_3)).2.1) rfl ?_
        refine og_iconst (pc' := 29) (n := 3) X0 hx (hb hby d1_28) rfl rfl ?_
        obtain ⟨fs, hr, hrun, hended, hW, hsame⟩ := X0.leave (v := some (.int (3 : Int32))) (fun h => by rw [Bd.returns] at h; cases h) (BodyLoose.notSynchronized Bd)
        refine ⟨_, _, retI X0 hx Bd.returns (hb hby d1_29) hr, hrun, hended, some (.int (3 : Int32)), _, rfl, ?_, ⟨_, rfl⟩, hW, hsame.mono (by decide) (by decide)⟩
        show Qlen Z x0 h0 n0 _ s₁.heap _
        rw [e0]
        exact ⟨(congrArg (fun z => some (Value.int z)) hv.symm), N0, rfl⟩
      · have hv := hv.trans (if_neg hc25_3)
        refine og_ifYes (pc' := 30) X0 hx (hb hby d1_25) ((if0 _ _).trans (flt (fun q => hc25_3 ((lw_lt _ _).mp q))).2.1) (by decide) (by decide) ?_
        refine og_lloadN (pc' := 31) X0 hx (hb hby d1_30) rfl rfl ?_
        refine og_ldc2_w (pc' := 34) X0 hx (hb hby d1_31) hown (mvT hZ (hw _ (List.mem_of_getElem? (i := 18) rfl))) rfl ?_
        refine og_lcmp (pc' := 35) X0 hx (hb hby d1_34) rfl ?_
        by_cases hc35_4 : x0 < (268435456 : Int64)
        · have hv := hv.trans (if_pos hc35_4)
          refine og_ifNo (pc' := 38) X0 hx (hb hby d1_35) ((if0 _ _).trans (tlt ((lw_lt _ _).mpr hc35_4)).2.1) rfl ?_
          refine og_iconst (pc' := 39) (n := 4) X0 hx (hb hby d1_38) rfl rfl ?_
          obtain ⟨fs, hr, hrun, hended, hW, hsame⟩ := X0.leave (v := some (.int (4 : Int32))) (fun h => by rw [Bd.returns] at h; cases h) (BodyLoose.notSynchronized Bd)
          refine ⟨_, _, retI X0 hx Bd.returns (hb hby d1_39) hr, hrun, hended, some (.int (4 : Int32)), _, rfl, ?_, ⟨_, rfl⟩, hW, hsame.mono (by decide) (by decide)⟩
          show Qlen Z x0 h0 n0 _ s₁.heap _
          rw [e0]
          exact ⟨(congrArg (fun z => some (Value.int z)) hv.symm), N0, rfl⟩
        · have hv := hv.trans (if_neg hc35_4)
          refine og_ifYes (pc' := 40) X0 hx (hb hby d1_35) ((if0 _ _).trans (flt (fun q => hc35_4 ((lw_lt _ _).mp q))).2.1) (by decide) (by decide) ?_
          refine og_lloadN (pc' := 41) X0 hx (hb hby d1_40) rfl rfl ?_
          refine og_ldc2_w (pc' := 44) X0 hx (hb hby d1_41) hown (mvT hZ (hw _ (List.mem_of_getElem? (i := 19) rfl))) rfl ?_
          refine og_lcmp (pc' := 45) X0 hx (hb hby d1_44) rfl ?_
          by_cases hc45_5 : x0 < (34359738368 : Int64)
          · have hv := hv.trans (if_pos hc45_5)
            refine og_ifNo (pc' := 48) X0 hx (hb hby d1_45) ((if0 _ _).trans (tlt ((lw_lt _ _).mpr hc45_5)).2.1) rfl ?_
            refine og_iconst (pc' := 49) (n := 5) X0 hx (hb hby d1_48) rfl rfl ?_
            obtain ⟨fs, hr, hrun, hended, hW, hsame⟩ := X0.leave (v := some (.int (5 : Int32))) (fun h => by rw [Bd.returns] at h; cases h) (BodyLoose.notSynchronized Bd)
            refine ⟨_, _, retI X0 hx Bd.returns (hb hby d1_49) hr, hrun, hended, some (.int (5 : Int32)), _, rfl, ?_, ⟨_, rfl⟩, hW, hsame.mono (by decide) (by decide)⟩
            show Qlen Z x0 h0 n0 _ s₁.heap _
            rw [e0]
            exact ⟨(congrArg (fun z => some (Value.int z)) hv.symm), N0, rfl⟩
          · have hv := hv.trans (if_neg hc45_5)
            refine og_ifYes (pc' := 50) X0 hx (hb hby d1_45) ((if0 _ _).trans (flt (fun q => hc45_5 ((lw_lt _ _).mp q))).2.1) (by decide) (by decide) ?_
            refine og_lloadN (pc' := 51) X0 hx (hb hby d1_50) rfl rfl ?_
            refine og_ldc2_w (pc' := 54) X0 hx (hb hby d1_51) hown (mvT hZ (hw _ (List.mem_of_getElem? (i := 20) rfl))) rfl ?_
            refine og_lcmp (pc' := 55) X0 hx (hb hby d1_54) rfl ?_
            by_cases hc55_6 : x0 < (4398046511104 : Int64)
            · have hv := hv.trans (if_pos hc55_6)
              refine og_ifNo (pc' := 58) X0 hx (hb hby d1_55) ((if0 _ _).trans (tlt ((lw_lt _ _).mpr hc55_6)).2.1) rfl ?_
              refine og_bipush (pc' := 60) (n := 6) X0 hx (hb hby d1_58) rfl rfl ?_
              obtain ⟨fs, hr, hrun, hended, hW, hsame⟩ := X0.leave (v := some (.int (6 : Int32))) (fun h => by rw [Bd.returns] at h; cases h) (BodyLoose.notSynchronized Bd)
              refine ⟨_, _, retI X0 hx Bd.returns (hb hby d1_60) hr, hrun, hended, some (.int (6 : Int32)), _, rfl, ?_, ⟨_, rfl⟩, hW, hsame.mono (by decide) (by decide)⟩
              show Qlen Z x0 h0 n0 _ s₁.heap _
              rw [e0]
              exact ⟨(congrArg (fun z => some (Value.int z)) hv.symm), N0, rfl⟩
            · have hv := hv.trans (if_neg hc55_6)
              refine og_ifYes (pc' := 61) X0 hx (hb hby d1_55) ((if0 _ _).trans (flt (fun q => hc55_6 ((lw_lt _ _).mp q))).2.1) (by decide) (by decide) ?_
              refine og_lloadN (pc' := 62) X0 hx (hb hby d1_61) rfl rfl ?_
              refine og_ldc2_w (pc' := 65) X0 hx (hb hby d1_62) hown (mvT hZ (hw _ (List.mem_of_getElem? (i := 21) rfl))) rfl ?_
              refine og_lcmp (pc' := 66) X0 hx (hb hby d1_65) rfl ?_
              by_cases hc66_7 : x0 < (562949953421312 : Int64)
              · have hv := hv.trans (if_pos hc66_7)
                refine og_ifNo (pc' := 69) X0 hx (hb hby d1_66) ((if0 _ _).trans (tlt ((lw_lt _ _).mpr hc66_7)).2.1) rfl ?_
                refine og_bipush (pc' := 71) (n := 7) X0 hx (hb hby d1_69) rfl rfl ?_
                obtain ⟨fs, hr, hrun, hended, hW, hsame⟩ := X0.leave (v := some (.int (7 : Int32))) (fun h => by rw [Bd.returns] at h; cases h) (BodyLoose.notSynchronized Bd)
                refine ⟨_, _, retI X0 hx Bd.returns (hb hby d1_71) hr, hrun, hended, some (.int (7 : Int32)), _, rfl, ?_, ⟨_, rfl⟩, hW, hsame.mono (by decide) (by decide)⟩
                show Qlen Z x0 h0 n0 _ s₁.heap _
                rw [e0]
                exact ⟨(congrArg (fun z => some (Value.int z)) hv.symm), N0, rfl⟩
              · have hv := hv.trans (if_neg hc66_7)
                refine og_ifYes (pc' := 72) X0 hx (hb hby d1_66) ((if0 _ _).trans (flt (fun q => hc66_7 ((lw_lt _ _).mp q))).2.1) (by decide) (by decide) ?_
                refine og_lloadN (pc' := 73) X0 hx (hb hby d1_72) rfl rfl ?_
                refine og_ldc2_w (pc' := 76) X0 hx (hb hby d1_73) hown (mvT hZ (hw _ (List.mem_of_getElem? (i := 22) rfl))) rfl ?_
                refine og_lcmp (pc' := 77) X0 hx (hb hby d1_76) rfl ?_
                by_cases hc77_8 : x0 < (72057594037927936 : Int64)
                · have hv := hv.trans (if_pos hc77_8)
                  refine og_ifNo (pc' := 80) X0 hx (hb hby d1_77) ((if0 _ _).trans (tlt ((lw_lt _ _).mpr hc77_8)).2.1) rfl ?_
                  refine og_bipush (pc' := 82) (n := 8) X0 hx (hb hby d1_80) rfl rfl ?_
                  obtain ⟨fs, hr, hrun, hended, hW, hsame⟩ := X0.leave (v := some (.int (8 : Int32))) (fun h => by rw [Bd.returns] at h; cases h) (BodyLoose.notSynchronized Bd)
                  refine ⟨_, _, retI X0 hx Bd.returns (hb hby d1_82) hr, hrun, hended, some (.int (8 : Int32)), _, rfl, ?_, ⟨_, rfl⟩, hW, hsame.mono (by decide) (by decide)⟩
                  show Qlen Z x0 h0 n0 _ s₁.heap _
                  rw [e0]
                  exact ⟨(congrArg (fun z => some (Value.int z)) hv.symm), N0, rfl⟩
                · have hv := hv.trans (if_neg hc77_8)
                  refine og_ifYes (pc' := 83) X0 hx (hb hby d1_77) ((if0 _ _).trans (flt (fun q => hc77_8 ((lw_lt _ _).mp q))).2.1) (by decide) (by decide) ?_
                  refine og_bipush (pc' := 85) (n := 9) X0 hx (hb hby d1_83) rfl rfl ?_
                  obtain ⟨fs, hr, hrun, hended, hW, hsame⟩ := X0.leave (v := some (.int (9 : Int32))) (fun h => by rw [Bd.returns] at h; cases h) (BodyLoose.notSynchronized Bd)
                  refine ⟨_, _, retI X0 hx Bd.returns (hb hby d1_85) hr, hrun, hended, some (.int (9 : Int32)), _, rfl, ?_, ⟨_, rfl⟩, hW, hsame.mono (by decide) (by decide)⟩
                  show Qlen Z x0 h0 n0 _ s₁.heap _
                  rw [e0]
                  exact ⟨(congrArg (fun z => some (Value.int z)) hv.symm), N0, rfl⟩

def own_s (w : Int64) : Int64 := ((w.toUInt64 >>> ((7 : Int32) &&& 0x3f).toInt64.toUInt64).toInt64)
def own_hi (w : Int64) : Int32 := ((((w ||| (128 : Int64)).toInt32).toInt8.toInt32).toInt8.toInt32)
def own_lo (w : Int64) : Int32 := (((w.toInt32).toInt8.toInt32).toInt8.toInt32)
def own_bytes : Nat → Int64 → Int32 → List Int32
  | 0, _, _ => []
  | n + 1, w, z => if w < (128 : Int64) then own_lo w :: List.replicate n z else own_hi w :: own_bytes n (own_s w) z
def own_raw (k : Nat) (w : Int64) (z : Int32) : List Int32 := List.replicate k z ++ own_bytes (14 - k) w z
def own_lst (k : Nat) (w : Int64) (z : Int32) : List Value := (own_raw k w z).map Value.int

theorem own_lst_0_1 (x : Int64) (z : Int32) (h0 : x < (128 : Int64)) : own_lst 0 x z = [(.int (own_lo x)), (.int z), (.int z), (.int z), (.int z), (.int z), (.int z), (.int z), (.int z), (.int z), (.int z), (.int z), (.int z), (.int z)] := by
  simp only [own_lst, own_raw, Nat.reduceSub, own_bytes, if_pos h0]
  rfl
theorem own_lst_1_1 (x : Int64) (z : Int32) (h0 : x < (128 : Int64)) : own_lst 1 x z = [(.int z), (.int (own_lo x)), (.int z), (.int z), (.int z), (.int z), (.int z), (.int z), (.int z), (.int z), (.int z), (.int z), (.int z), (.int z)] := by
  simp only [own_lst, own_raw, Nat.reduceSub, own_bytes, if_pos h0]
  rfl
theorem own_lst_2_1 (x : Int64) (z : Int32) (h0 : x < (128 : Int64)) : own_lst 2 x z = [(.int z), (.int z), (.int (own_lo x)), (.int z), (.int z), (.int z), (.int z), (.int z), (.int z), (.int z), (.int z), (.int z), (.int z), (.int z)] := by
  simp only [own_lst, own_raw, Nat.reduceSub, own_bytes, if_pos h0]
  rfl
theorem own_lst_3_1 (x : Int64) (z : Int32) (h0 : x < (128 : Int64)) : own_lst 3 x z = [(.int z), (.int z), (.int z), (.int (own_lo x)), (.int z), (.int z), (.int z), (.int z), (.int z), (.int z), (.int z), (.int z), (.int z), (.int z)] := by
  simp only [own_lst, own_raw, Nat.reduceSub, own_bytes, if_pos h0]
  rfl
theorem own_lst_0_2 (x : Int64) (z : Int32) (h0 : ¬ x < (128 : Int64)) (h1 : (own_s x) < (128 : Int64)) : own_lst 0 x z = [(.int (own_hi x)), (.int (own_lo (own_s x))), (.int z), (.int z), (.int z), (.int z), (.int z), (.int z), (.int z), (.int z), (.int z), (.int z), (.int z), (.int z)] := by
  simp only [own_lst, own_raw, Nat.reduceSub, own_bytes, if_neg h0, if_pos h1]
  rfl
theorem own_lst_1_2 (x : Int64) (z : Int32) (h0 : ¬ x < (128 : Int64)) (h1 : (own_s x) < (128 : Int64)) : own_lst 1 x z = [(.int z), (.int (own_hi x)), (.int (own_lo (own_s x))), (.int z), (.int z), (.int z), (.int z), (.int z), (.int z), (.int z), (.int z), (.int z), (.int z), (.int z)] := by
  simp only [own_lst, own_raw, Nat.reduceSub, own_bytes, if_neg h0, if_pos h1]
  rfl
theorem own_lst_2_2 (x : Int64) (z : Int32) (h0 : ¬ x < (128 : Int64)) (h1 : (own_s x) < (128 : Int64)) : own_lst 2 x z = [(.int z), (.int z), (.int (own_hi x)), (.int (own_lo (own_s x))), (.int z), (.int z), (.int z), (.int z), (.int z), (.int z), (.int z), (.int z), (.int z), (.int z)] := by
  simp only [own_lst, own_raw, Nat.reduceSub, own_bytes, if_neg h0, if_pos h1]
  rfl
theorem own_lst_3_2 (x : Int64) (z : Int32) (h0 : ¬ x < (128 : Int64)) (h1 : (own_s x) < (128 : Int64)) : own_lst 3 x z = [(.int z), (.int z), (.int z), (.int (own_hi x)), (.int (own_lo (own_s x))), (.int z), (.int z), (.int z), (.int z), (.int z), (.int z), (.int z), (.int z), (.int z)] := by
  simp only [own_lst, own_raw, Nat.reduceSub, own_bytes, if_neg h0, if_pos h1]
  rfl
theorem own_lst_0_3 (x : Int64) (z : Int32) (h0 : ¬ x < (128 : Int64)) (h1 : ¬ (own_s x) < (128 : Int64)) (h2 : (own_s (own_s x)) < (128 : Int64)) : own_lst 0 x z = [(.int (own_hi x)), (.int (own_hi (own_s x))), (.int (own_lo (own_s (own_s x)))), (.int z), (.int z), (.int z), (.int z), (.int z), (.int z), (.int z), (.int z), (.int z), (.int z), (.int z)] := by
  simp only [own_lst, own_raw, Nat.reduceSub, own_bytes, if_neg h0, if_neg h1, if_pos h2]
  rfl
theorem own_lst_1_3 (x : Int64) (z : Int32) (h0 : ¬ x < (128 : Int64)) (h1 : ¬ (own_s x) < (128 : Int64)) (h2 : (own_s (own_s x)) < (128 : Int64)) : own_lst 1 x z = [(.int z), (.int (own_hi x)), (.int (own_hi (own_s x))), (.int (own_lo (own_s (own_s x)))), (.int z), (.int z), (.int z), (.int z), (.int z), (.int z), (.int z), (.int z), (.int z), (.int z)] := by
  simp only [own_lst, own_raw, Nat.reduceSub, own_bytes, if_neg h0, if_neg h1, if_pos h2]
  rfl
theorem own_lst_2_3 (x : Int64) (z : Int32) (h0 : ¬ x < (128 : Int64)) (h1 : ¬ (own_s x) < (128 : Int64)) (h2 : (own_s (own_s x)) < (128 : Int64)) : own_lst 2 x z = [(.int z), (.int z), (.int (own_hi x)), (.int (own_hi (own_s x))), (.int (own_lo (own_s (own_s x)))), (.int z), (.int z), (.int z), (.int z), (.int z), (.int z), (.int z), (.int z), (.int z)] := by
  simp only [own_lst, own_raw, Nat.reduceSub, own_bytes, if_neg h0, if_neg h1, if_pos h2]
  rfl
theorem own_lst_3_3 (x : Int64) (z : Int32) (h0 : ¬ x < (128 : Int64)) (h1 : ¬ (own_s x) < (128 : Int64)) (h2 : (own_s (own_s x)) < (128 : Int64)) : own_lst 3 x z = [(.int z), (.int z), (.int z), (.int (own_hi x)), (.int (own_hi (own_s x))), (.int (own_lo (own_s (own_s x)))), (.int z), (.int z), (.int z), (.int z), (.int z), (.int z), (.int z), (.int z)] := by
  simp only [own_lst, own_raw, Nat.reduceSub, own_bytes, if_neg h0, if_neg h1, if_pos h2]
  rfl
theorem own_lst_0_4 (x : Int64) (z : Int32) (h0 : ¬ x < (128 : Int64)) (h1 : ¬ (own_s x) < (128 : Int64)) (h2 : ¬ (own_s (own_s x)) < (128 : Int64)) (h3 : (own_s (own_s (own_s x))) < (128 : Int64)) : own_lst 0 x z = [(.int (own_hi x)), (.int (own_hi (own_s x))), (.int (own_hi (own_s (own_s x)))), (.int (own_lo (own_s (own_s (own_s x))))), (.int z), (.int z), (.int z), (.int z), (.int z), (.int z), (.int z), (.int z), (.int z), (.int z)] := by
  simp only [own_lst, own_raw, Nat.reduceSub, own_bytes, if_neg h0, if_neg h1, if_neg h2, if_pos h3]
  rfl
theorem own_lst_1_4 (x : Int64) (z : Int32) (h0 : ¬ x < (128 : Int64)) (h1 : ¬ (own_s x) < (128 : Int64)) (h2 : ¬ (own_s (own_s x)) < (128 : Int64)) (h3 : (own_s (own_s (own_s x))) < (128 : Int64)) : own_lst 1 x z = [(.int z), (.int (own_hi x)), (.int (own_hi (own_s x))), (.int (own_hi (own_s (own_s x)))), (.int (own_lo (own_s (own_s (own_s x))))), (.int z), (.int z), (.int z), (.int z), (.int z), (.int z), (.int z), (.int z), (.int z)] := by
  simp only [own_lst, own_raw, Nat.reduceSub, own_bytes, if_neg h0, if_neg h1, if_neg h2, if_pos h3]
  rfl
theorem own_lst_2_4 (x : Int64) (z : Int32) (h0 : ¬ x < (128 : Int64)) (h1 : ¬ (own_s x) < (128 : Int64)) (h2 : ¬ (own_s (own_s x)) < (128 : Int64)) (h3 : (own_s (own_s (own_s x))) < (128 : Int64)) : own_lst 2 x z = [(.int z), (.int z), (.int (own_hi x)), (.int (own_hi (own_s x))), (.int (own_hi (own_s (own_s x)))), (.int (own_lo (own_s (own_s (own_s x))))), (.int z), (.int z), (.int z), (.int z), (.int z), (.int z), (.int z), (.int z)] := by
  simp only [own_lst, own_raw, Nat.reduceSub, own_bytes, if_neg h0, if_neg h1, if_neg h2, if_pos h3]
  rfl
theorem own_lst_3_4 (x : Int64) (z : Int32) (h0 : ¬ x < (128 : Int64)) (h1 : ¬ (own_s x) < (128 : Int64)) (h2 : ¬ (own_s (own_s x)) < (128 : Int64)) (h3 : (own_s (own_s (own_s x))) < (128 : Int64)) : own_lst 3 x z = [(.int z), (.int z), (.int z), (.int (own_hi x)), (.int (own_hi (own_s x))), (.int (own_hi (own_s (own_s x)))), (.int (own_lo (own_s (own_s (own_s x))))), (.int z), (.int z), (.int z), (.int z), (.int z), (.int z), (.int z)] := by
  simp only [own_lst, own_raw, Nat.reduceSub, own_bytes, if_neg h0, if_neg h1, if_neg h2, if_pos h3]
  rfl
theorem own_lst_0_5 (x : Int64) (z : Int32) (h0 : ¬ x < (128 : Int64)) (h1 : ¬ (own_s x) < (128 : Int64)) (h2 : ¬ (own_s (own_s x)) < (128 : Int64)) (h3 : ¬ (own_s (own_s (own_s x))) < (128 : Int64)) (h4 : (own_s (own_s (own_s (own_s x)))) < (128 : Int64)) : own_lst 0 x z = [(.int (own_hi x)), (.int (own_hi (own_s x))), (.int (own_hi (own_s (own_s x)))), (.int (own_hi (own_s (own_s (own_s x))))), (.int (own_lo (own_s (own_s (own_s (own_s x)))))), (.int z), (.int z), (.int z), (.int z), (.int z), (.int z), (.int z), (.int z), (.int z)] := by
  simp only [own_lst, own_raw, Nat.reduceSub, own_bytes, if_neg h0, if_neg h1, if_neg h2, if_neg h3, if_pos h4]
  rfl
theorem own_lst_1_5 (x : Int64) (z : Int32) (h0 : ¬ x < (128 : Int64)) (h1 : ¬ (own_s x) < (128 : Int64)) (h2 : ¬ (own_s (own_s x)) < (128 : Int64)) (h3 : ¬ (own_s (own_s (own_s x))) < (128 : Int64)) (h4 : (own_s (own_s (own_s (own_s x)))) < (128 : Int64)) : own_lst 1 x z = [(.int z), (.int (own_hi x)), (.int (own_hi (own_s x))), (.int (own_hi (own_s (own_s x)))), (.int (own_hi (own_s (own_s (own_s x))))), (.int (own_lo (own_s (own_s (own_s (own_s x)))))), (.int z), (.int z), (.int z), (.int z), (.int z), (.int z), (.int z), (.int z)] := by
  simp only [own_lst, own_raw, Nat.reduceSub, own_bytes, if_neg h0, if_neg h1, if_neg h2, if_neg h3, if_pos h4]
  rfl
theorem own_lst_2_5 (x : Int64) (z : Int32) (h0 : ¬ x < (128 : Int64)) (h1 : ¬ (own_s x) < (128 : Int64)) (h2 : ¬ (own_s (own_s x)) < (128 : Int64)) (h3 : ¬ (own_s (own_s (own_s x))) < (128 : Int64)) (h4 : (own_s (own_s (own_s (own_s x)))) < (128 : Int64)) : own_lst 2 x z = [(.int z), (.int z), (.int (own_hi x)), (.int (own_hi (own_s x))), (.int (own_hi (own_s (own_s x)))), (.int (own_hi (own_s (own_s (own_s x))))), (.int (own_lo (own_s (own_s (own_s (own_s x)))))), (.int z), (.int z), (.int z), (.int z), (.int z), (.int z), (.int z)] := by
  simp only [own_lst, own_raw, Nat.reduceSub, own_bytes, if_neg h0, if_neg h1, if_neg h2, if_neg h3, if_pos h4]
  rfl
theorem own_lst_3_5 (x : Int64) (z : Int32) (h0 : ¬ x < (128 : Int64)) (h1 : ¬ (own_s x) < (128 : Int64)) (h2 : ¬ (own_s (own_s x)) < (128 : Int64)) (h3 : ¬ (own_s (own_s (own_s x))) < (128 : Int64)) (h4 : (own_s (own_s (own_s (own_s x)))) < (128 : Int64)) : own_lst 3 x z = [(.int z), (.int z), (.int z), (.int (own_hi x)), (.int (own_hi (own_s x))), (.int (own_hi (own_s (own_s x)))), (.int (own_hi (own_s (own_s (own_s x))))), (.int (own_lo (own_s (own_s (own_s (own_s x)))))), (.int z), (.int z), (.int z), (.int z), (.int z), (.int z)] := by
  simp only [own_lst, own_raw, Nat.reduceSub, own_bytes, if_neg h0, if_neg h1, if_neg h2, if_neg h3, if_pos h4]
  rfl
theorem own_lst_0_6 (x : Int64) (z : Int32) (h0 : ¬ x < (128 : Int64)) (h1 : ¬ (own_s x) < (128 : Int64)) (h2 : ¬ (own_s (own_s x)) < (128 : Int64)) (h3 : ¬ (own_s (own_s (own_s x))) < (128 : Int64)) (h4 : ¬ (own_s (own_s (own_s (own_s x)))) < (128 : Int64)) (h5 : (own_s (own_s (own_s (own_s (own_s x))))) < (128 : Int64)) : own_lst 0 x z = [(.int (own_hi x)), (.int (own_hi (own_s x))), (.int (own_hi (own_s (own_s x)))), (.int (own_hi (own_s (own_s (own_s x))))), (.int (own_hi (own_s (own_s (own_s (own_s x)))))), (.int (own_lo (own_s (own_s (own_s (own_s (own_s x))))))), (.int z), (.int z), (.int z), (.int z), (.int z), (.int z), (.int z), (.int z)] := by
  simp only [own_lst, own_raw, Nat.reduceSub, own_bytes, if_neg h0, if_neg h1, if_neg h2, if_neg h3, if_neg h4, if_pos h5]
  rfl
theorem own_lst_1_6 (x : Int64) (z : Int32) (h0 : ¬ x < (128 : Int64)) (h1 : ¬ (own_s x) < (128 : Int64)) (h2 : ¬ (own_s (own_s x)) < (128 : Int64)) (h3 : ¬ (own_s (own_s (own_s x))) < (128 : Int64)) (h4 : ¬ (own_s (own_s (own_s (own_s x)))) < (128 : Int64)) (h5 : (own_s (own_s (own_s (own_s (own_s x))))) < (128 : Int64)) : own_lst 1 x z = [(.int z), (.int (own_hi x)), (.int (own_hi (own_s x))), (.int (own_hi (own_s (own_s x)))), (.int (own_hi (own_s (own_s (own_s x))))), (.int (own_hi (own_s (own_s (own_s (own_s x)))))), (.int (own_lo (own_s (own_s (own_s (own_s (own_s x))))))), (.int z), (.int z), (.int z), (.int z), (.int z), (.int z), (.int z)] := by
  simp only [own_lst, own_raw, Nat.reduceSub, own_bytes, if_neg h0, if_neg h1, if_neg h2, if_neg h3, if_neg h4, if_pos h5]
  rfl
theorem own_lst_2_6 (x : Int64) (z : Int32) (h0 : ¬ x < (128 : Int64)) (h1 : ¬ (own_s x) < (128 : Int64)) (h2 : ¬ (own_s (own_s x)) < (128 : Int64)) (h3 : ¬ (own_s (own_s (own_s x))) < (128 : Int64)) (h4 : ¬ (own_s (own_s (own_s (own_s x)))) < (128 : Int64)) (h5 : (own_s (own_s (own_s (own_s (own_s x))))) < (128 : Int64)) : own_lst 2 x z = [(.int z), (.int z), (.int (own_hi x)), (.int (own_hi (own_s x))), (.int (own_hi (own_s (own_s x)))), (.int (own_hi (own_s (own_s (own_s x))))), (.int (own_hi (own_s (own_s (own_s (own_s x)))))), (.int (own_lo (own_s (own_s (own_s (own_s (own_s x))))))), (.int z), (.int z), (.int z), (.int z), (.int z), (.int z)] := by
  simp only [own_lst, own_raw, Nat.reduceSub, own_bytes, if_neg h0, if_neg h1, if_neg h2, if_neg h3, if_neg h4, if_pos h5]
  rfl
theorem own_lst_3_6 (x : Int64) (z : Int32) (h0 : ¬ x < (128 : Int64)) (h1 : ¬ (own_s x) < (128 : Int64)) (h2 : ¬ (own_s (own_s x)) < (128 : Int64)) (h3 : ¬ (own_s (own_s (own_s x))) < (128 : Int64)) (h4 : ¬ (own_s (own_s (own_s (own_s x)))) < (128 : Int64)) (h5 : (own_s (own_s (own_s (own_s (own_s x))))) < (128 : Int64)) : own_lst 3 x z = [(.int z), (.int z), (.int z), (.int (own_hi x)), (.int (own_hi (own_s x))), (.int (own_hi (own_s (own_s x)))), (.int (own_hi (own_s (own_s (own_s x))))), (.int (own_hi (own_s (own_s (own_s (own_s x)))))), (.int (own_lo (own_s (own_s (own_s (own_s (own_s x))))))), (.int z), (.int z), (.int z), (.int z), (.int z)] := by
  simp only [own_lst, own_raw, Nat.reduceSub, own_bytes, if_neg h0, if_neg h1, if_neg h2, if_neg h3, if_neg h4, if_pos h5]
  rfl
theorem own_lst_0_7 (x : Int64) (z : Int32) (h0 : ¬ x < (128 : Int64)) (h1 : ¬ (own_s x) < (128 : Int64)) (h2 : ¬ (own_s (own_s x)) < (128 : Int64)) (h3 : ¬ (own_s (own_s (own_s x))) < (128 : Int64)) (h4 : ¬ (own_s (own_s (own_s (own_s x)))) < (128 : Int64)) (h5 : ¬ (own_s (own_s (own_s (own_s (own_s x))))) < (128 : Int64)) (h6 : (own_s (own_s (own_s (own_s (own_s (own_s x)))))) < (128 : Int64)) : own_lst 0 x z = [(.int (own_hi x)), (.int (own_hi (own_s x))), (.int (own_hi (own_s (own_s x)))), (.int (own_hi (own_s (own_s (own_s x))))), (.int (own_hi (own_s (own_s (own_s (own_s x)))))), (.int (own_hi (own_s (own_s (own_s (own_s (own_s x))))))), (.int (own_lo (own_s (own_s (own_s (own_s (own_s (own_s x)))))))), (.int z), (.int z), (.int z), (.int z), (.int z), (.int z), (.int z)] := by
  simp only [own_lst, own_raw, Nat.reduceSub, own_bytes, if_neg h0, if_neg h1, if_neg h2, if_neg h3, if_neg h4, if_neg h5, if_pos h6]
  rfl
theorem own_lst_1_7 (x : Int64) (z : Int32) (h0 : ¬ x < (128 : Int64)) (h1 : ¬ (own_s x) < (128 : Int64)) (h2 : ¬ (own_s (own_s x)) < (128 : Int64)) (h3 : ¬ (own_s (own_s (own_s x))) < (128 : Int64)) (h4 : ¬ (own_s (own_s (own_s (own_s x)))) < (128 : Int64)) (h5 : ¬ (own_s (own_s (own_s (own_s (own_s x))))) < (128 : Int64)) (h6 : (own_s (own_s (own_s (own_s (own_s (own_s x)))))) < (128 : Int64)) : own_lst 1 x z = [(.int z), (.int (own_hi x)), (.int (own_hi (own_s x))), (.int (own_hi (own_s (own_s x)))), (.int (own_hi (own_s (own_s (own_s x))))), (.int (own_hi (own_s (own_s (own_s (own_s x)))))), (.int (own_hi (own_s (own_s (own_s (own_s (own_s x))))))), (.int (own_lo (own_s (own_s (own_s (own_s (own_s (own_s x)))))))), (.int z), (.int z), (.int z), (.int z), (.int z), (.int z)] := by
  simp only [own_lst, own_raw, Nat.reduceSub, own_bytes, if_neg h0, if_neg h1, if_neg h2, if_neg h3, if_neg h4, if_neg h5, if_pos h6]
  rfl
theorem own_lst_2_7 (x : Int64) (z : Int32) (h0 : ¬ x < (128 : Int64)) (h1 : ¬ (own_s x) < (128 : Int64)) (h2 : ¬ (own_s (own_s x)) < (128 : Int64)) (h3 : ¬ (own_s (own_s (own_s x))) < (128 : Int64)) (h4 : ¬ (own_s (own_s (own_s (own_s x)))) < (128 : Int64)) (h5 : ¬ (own_s (own_s (own_s (own_s (own_s x))))) < (128 : Int64)) (h6 : (own_s (own_s (own_s (own_s (own_s (own_s x)))))) < (128 : Int64)) : own_lst 2 x z = [(.int z), (.int z), (.int (own_hi x)), (.int (own_hi (own_s x))), (.int (own_hi (own_s (own_s x)))), (.int (own_hi (own_s (own_s (own_s x))))), (.int (own_hi (own_s (own_s (own_s (own_s x)))))), (.int (own_hi (own_s (own_s (own_s (own_s (own_s x))))))), (.int (own_lo (own_s (own_s (own_s (own_s (own_s (own_s x)))))))), (.int z), (.int z), (.int z), (.int z), (.int z)] := by
  simp only [own_lst, own_raw, Nat.reduceSub, own_bytes, if_neg h0, if_neg h1, if_neg h2, if_neg h3, if_neg h4, if_neg h5, if_pos h6]
  rfl
theorem own_lst_3_7 (x : Int64) (z : Int32) (h0 : ¬ x < (128 : Int64)) (h1 : ¬ (own_s x) < (128 : Int64)) (h2 : ¬ (own_s (own_s x)) < (128 : Int64)) (h3 : ¬ (own_s (own_s (own_s x))) < (128 : Int64)) (h4 : ¬ (own_s (own_s (own_s (own_s x)))) < (128 : Int64)) (h5 : ¬ (own_s (own_s (own_s (own_s (own_s x))))) < (128 : Int64)) (h6 : (own_s (own_s (own_s (own_s (own_s (own_s x)))))) < (128 : Int64)) : own_lst 3 x z = [(.int z), (.int z), (.int z), (.int (own_hi x)), (.int (own_hi (own_s x))), (.int (own_hi (own_s (own_s x)))), (.int (own_hi (own_s (own_s (own_s x))))), (.int (own_hi (own_s (own_s (own_s (own_s x)))))), (.int (own_hi (own_s (own_s (own_s (own_s (own_s x))))))), (.int (own_lo (own_s (own_s (own_s (own_s (own_s (own_s x)))))))), (.int z), (.int z), (.int z), (.int z)] := by
  simp only [own_lst, own_raw, Nat.reduceSub, own_bytes, if_neg h0, if_neg h1, if_neg h2, if_neg h3, if_neg h4, if_neg h5, if_pos h6]
  rfl
theorem own_lst_0_8 (x : Int64) (z : Int32) (h0 : ¬ x < (128 : Int64)) (h1 : ¬ (own_s x) < (128 : Int64)) (h2 : ¬ (own_s (own_s x)) < (128 : Int64)) (h3 : ¬ (own_s (own_s (own_s x))) < (128 : Int64)) (h4 : ¬ (own_s (own_s (own_s (own_s x)))) < (128 : Int64)) (h5 : ¬ (own_s (own_s (own_s (own_s (own_s x))))) < (128 : Int64)) (h6 : ¬ (own_s (own_s (own_s (own_s (own_s (own_s x)))))) < (128 : Int64)) (h7 : (own_s (own_s (own_s (own_s (own_s (own_s (own_s x))))))) < (128 : Int64)) : own_lst 0 x z = [(.int (own_hi x)), (.int (own_hi (own_s x))), (.int (own_hi (own_s (own_s x)))), (.int (own_hi (own_s (own_s (own_s x))))), (.int (own_hi (own_s (own_s (own_s (own_s x)))))), (.int (own_hi (own_s (own_s (own_s (own_s (own_s x))))))), (.int (own_hi (own_s (own_s (own_s (own_s (own_s (own_s x)))))))), (.int (own_lo (own_s (own_s (own_s (own_s (own_s (own_s (own_s x))))))))), (.int z), (.int z), (.int z), (.int z), (.int z), (.int z)] := by
  simp only [own_lst, own_raw, Nat.reduceSub, own_bytes, if_neg h0, if_neg h1, if_neg h2, if_neg h3, if_neg h4, if_neg h5, if_neg h6, if_pos h7]
  rfl
theorem own_lst_1_8 (x : Int64) (z : Int32) (h0 : ¬ x < (128 : Int64)) (h1 : ¬ (own_s x) < (128 : Int64)) (h2 : ¬ (own_s (own_s x)) < (128 : Int64)) (h3 : ¬ (own_s (own_s (own_s x))) < (128 : Int64)) (h4 : ¬ (own_s (own_s (own_s (own_s x)))) < (128 : Int64)) (h5 : ¬ (own_s (own_s (own_s (own_s (own_s x))))) < (128 : Int64)) (h6 : ¬ (own_s (own_s (own_s (own_s (own_s (own_s x)))))) < (128 : Int64)) (h7 : (own_s (own_s (own_s (own_s (own_s (own_s (own_s x))))))) < (128 : Int64)) : own_lst 1 x z = [(.int z), (.int (own_hi x)), (.int (own_hi (own_s x))), (.int (own_hi (own_s (own_s x)))), (.int (own_hi (own_s (own_s (own_s x))))), (.int (own_hi (own_s (own_s (own_s (own_s x)))))), (.int (own_hi (own_s (own_s (own_s (own_s (own_s x))))))), (.int (own_hi (own_s (own_s (own_s (own_s (own_s (own_s x)))))))), (.int (own_lo (own_s (own_s (own_s (own_s (own_s (own_s (own_s x))))))))), (.int z), (.int z), (.int z), (.int z), (.int z)] := by
  simp only [own_lst, own_raw, Nat.reduceSub, own_bytes, if_neg h0, if_neg h1, if_neg h2, if_neg h3, if_neg h4, if_neg h5, if_neg h6, if_pos h7]
  rfl
theorem own_lst_2_8 (x : Int64) (z : Int32) (h0 : ¬ x < (128 : Int64)) (h1 : ¬ (own_s x) < (128 : Int64)) (h2 : ¬ (own_s (own_s x)) < (128 : Int64)) (h3 : ¬ (own_s (own_s (own_s x))) < (128 : Int64)) (h4 : ¬ (own_s (own_s (own_s (own_s x)))) < (128 : Int64)) (h5 : ¬ (own_s (own_s (own_s (own_s (own_s x))))) < (128 : Int64)) (h6 : ¬ (own_s (own_s (own_s (own_s (own_s (own_s x)))))) < (128 : Int64)) (h7 : (own_s (own_s (own_s (own_s (own_s (own_s (own_s x))))))) < (128 : Int64)) : own_lst 2 x z = [(.int z), (.int z), (.int (own_hi x)), (.int (own_hi (own_s x))), (.int (own_hi (own_s (own_s x)))), (.int (own_hi (own_s (own_s (own_s x))))), (.int (own_hi (own_s (own_s (own_s (own_s x)))))), (.int (own_hi (own_s (own_s (own_s (own_s (own_s x))))))), (.int (own_hi (own_s (own_s (own_s (own_s (own_s (own_s x)))))))), (.int (own_lo (own_s (own_s (own_s (own_s (own_s (own_s (own_s x))))))))), (.int z), (.int z), (.int z), (.int z)] := by
  simp only [own_lst, own_raw, Nat.reduceSub, own_bytes, if_neg h0, if_neg h1, if_neg h2, if_neg h3, if_neg h4, if_neg h5, if_neg h6, if_pos h7]
  rfl
theorem own_lst_3_8 (x : Int64) (z : Int32) (h0 : ¬ x < (128 : Int64)) (h1 : ¬ (own_s x) < (128 : Int64)) (h2 : ¬ (own_s (own_s x)) < (128 : Int64)) (h3 : ¬ (own_s (own_s (own_s x))) < (128 : Int64)) (h4 : ¬ (own_s (own_s (own_s (own_s x)))) < (128 : Int64)) (h5 : ¬ (own_s (own_s (own_s (own_s (own_s x))))) < (128 : Int64)) (h6 : ¬ (own_s (own_s (own_s (own_s (own_s (own_s x)))))) < (128 : Int64)) (h7 : (own_s (own_s (own_s (own_s (own_s (own_s (own_s x))))))) < (128 : Int64)) : own_lst 3 x z = [(.int z), (.int z), (.int z), (.int (own_hi x)), (.int (own_hi (own_s x))), (.int (own_hi (own_s (own_s x)))), (.int (own_hi (own_s (own_s (own_s x))))), (.int (own_hi (own_s (own_s (own_s (own_s x)))))), (.int (own_hi (own_s (own_s (own_s (own_s (own_s x))))))), (.int (own_hi (own_s (own_s (own_s (own_s (own_s (own_s x)))))))), (.int (own_lo (own_s (own_s (own_s (own_s (own_s (own_s (own_s x))))))))), (.int z), (.int z), (.int z)] := by
  simp only [own_lst, own_raw, Nat.reduceSub, own_bytes, if_neg h0, if_neg h1, if_neg h2, if_neg h3, if_neg h4, if_neg h5, if_neg h6, if_pos h7]
  rfl
theorem own_lst_0_9 (x : Int64) (z : Int32) (h0 : ¬ x < (128 : Int64)) (h1 : ¬ (own_s x) < (128 : Int64)) (h2 : ¬ (own_s (own_s x)) < (128 : Int64)) (h3 : ¬ (own_s (own_s (own_s x))) < (128 : Int64)) (h4 : ¬ (own_s (own_s (own_s (own_s x)))) < (128 : Int64)) (h5 : ¬ (own_s (own_s (own_s (own_s (own_s x))))) < (128 : Int64)) (h6 : ¬ (own_s (own_s (own_s (own_s (own_s (own_s x)))))) < (128 : Int64)) (h7 : ¬ (own_s (own_s (own_s (own_s (own_s (own_s (own_s x))))))) < (128 : Int64)) (h8 : (own_s (own_s (own_s (own_s (own_s (own_s (own_s (own_s x)))))))) < (128 : Int64)) : own_lst 0 x z = [(.int (own_hi x)), (.int (own_hi (own_s x))), (.int (own_hi (own_s (own_s x)))), (.int (own_hi (own_s (own_s (own_s x))))), (.int (own_hi (own_s (own_s (own_s (own_s x)))))), (.int (own_hi (own_s (own_s (own_s (own_s (own_s x))))))), (.int (own_hi (own_s (own_s (own_s (own_s (own_s (own_s x)))))))), (.int (own_hi (own_s (own_s (own_s (own_s (own_s (own_s (own_s x))))))))), (.int (own_lo (own_s (own_s (own_s (own_s (own_s (own_s (own_s (own_s x)))))))))), (.int z), (.int z), (.int z), (.int z), (.int z)] := by
  simp only [own_lst, own_raw, Nat.reduceSub, own_bytes, if_neg h0, if_neg h1, if_neg h2, if_neg h3, if_neg h4, if_neg h5, if_neg h6, if_neg h7, if_pos h8]
  rfl
theorem own_lst_1_9 (x : Int64) (z : Int32) (h0 : ¬ x < (128 : Int64)) (h1 : ¬ (own_s x) < (128 : Int64)) (h2 : ¬ (own_s (own_s x)) < (128 : Int64)) (h3 : ¬ (own_s (own_s (own_s x))) < (128 : Int64)) (h4 : ¬ (own_s (own_s (own_s (own_s x)))) < (128 : Int64)) (h5 : ¬ (own_s (own_s (own_s (own_s (own_s x))))) < (128 : Int64)) (h6 : ¬ (own_s (own_s (own_s (own_s (own_s (own_s x)))))) < (128 : Int64)) (h7 : ¬ (own_s (own_s (own_s (own_s (own_s (own_s (own_s x))))))) < (128 : Int64)) (h8 : (own_s (own_s (own_s (own_s (own_s (own_s (own_s (own_s x)))))))) < (128 : Int64)) : own_lst 1 x z = [(.int z), (.int (own_hi x)), (.int (own_hi (own_s x))), (.int (own_hi (own_s (own_s x)))), (.int (own_hi (own_s (own_s (own_s x))))), (.int (own_hi (own_s (own_s (own_s (own_s x)))))), (.int (own_hi (own_s (own_s (own_s (own_s (own_s x))))))), (.int (own_hi (own_s (own_s (own_s (own_s (own_s (own_s x)))))))), (.int (own_hi (own_s (own_s (own_s (own_s (own_s (own_s (own_s x))))))))), (.int (own_lo (own_s (own_s (own_s (own_s (own_s (own_s (own_s (own_s x)))))))))), (.int z), (.int z), (.int z), (.int z)] := by
  simp only [own_lst, own_raw, Nat.reduceSub, own_bytes, if_neg h0, if_neg h1, if_neg h2, if_neg h3, if_neg h4, if_neg h5, if_neg h6, if_neg h7, if_pos h8]
  rfl
theorem own_lst_2_9 (x : Int64) (z : Int32) (h0 : ¬ x < (128 : Int64)) (h1 : ¬ (own_s x) < (128 : Int64)) (h2 : ¬ (own_s (own_s x)) < (128 : Int64)) (h3 : ¬ (own_s (own_s (own_s x))) < (128 : Int64)) (h4 : ¬ (own_s (own_s (own_s (own_s x)))) < (128 : Int64)) (h5 : ¬ (own_s (own_s (own_s (own_s (own_s x))))) < (128 : Int64)) (h6 : ¬ (own_s (own_s (own_s (own_s (own_s (own_s x)))))) < (128 : Int64)) (h7 : ¬ (own_s (own_s (own_s (own_s (own_s (own_s (own_s x))))))) < (128 : Int64)) (h8 : (own_s (own_s (own_s (own_s (own_s (own_s (own_s (own_s x)))))))) < (128 : Int64)) : own_lst 2 x z = [(.int z), (.int z), (.int (own_hi x)), (.int (own_hi (own_s x))), (.int (own_hi (own_s (own_s x)))), (.int (own_hi (own_s (own_s (own_s x))))), (.int (own_hi (own_s (own_s (own_s (own_s x)))))), (.int (own_hi (own_s (own_s (own_s (own_s (own_s x))))))), (.int (own_hi (own_s (own_s (own_s (own_s (own_s (own_s x)))))))), (.int (own_hi (own_s (own_s (own_s (own_s (own_s (own_s (own_s x))))))))), (.int (own_lo (own_s (own_s (own_s (own_s (own_s (own_s (own_s (own_s x)))))))))), (.int z), (.int z), (.int z)] := by
  simp only [own_lst, own_raw, Nat.reduceSub, own_bytes, if_neg h0, if_neg h1, if_neg h2, if_neg h3, if_neg h4, if_neg h5, if_neg h6, if_neg h7, if_pos h8]
  rfl
theorem own_lst_3_9 (x : Int64) (z : Int32) (h0 : ¬ x < (128 : Int64)) (h1 : ¬ (own_s x) < (128 : Int64)) (h2 : ¬ (own_s (own_s x)) < (128 : Int64)) (h3 : ¬ (own_s (own_s (own_s x))) < (128 : Int64)) (h4 : ¬ (own_s (own_s (own_s (own_s x)))) < (128 : Int64)) (h5 : ¬ (own_s (own_s (own_s (own_s (own_s x))))) < (128 : Int64)) (h6 : ¬ (own_s (own_s (own_s (own_s (own_s (own_s x)))))) < (128 : Int64)) (h7 : ¬ (own_s (own_s (own_s (own_s (own_s (own_s (own_s x))))))) < (128 : Int64)) (h8 : (own_s (own_s (own_s (own_s (own_s (own_s (own_s (own_s x)))))))) < (128 : Int64)) : own_lst 3 x z = [(.int z), (.int z), (.int z), (.int (own_hi x)), (.int (own_hi (own_s x))), (.int (own_hi (own_s (own_s x)))), (.int (own_hi (own_s (own_s (own_s x))))), (.int (own_hi (own_s (own_s (own_s (own_s x)))))), (.int (own_hi (own_s (own_s (own_s (own_s (own_s x))))))), (.int (own_hi (own_s (own_s (own_s (own_s (own_s (own_s x)))))))), (.int (own_hi (own_s (own_s (own_s (own_s (own_s (own_s (own_s x))))))))), (.int (own_lo (own_s (own_s (own_s (own_s (own_s (own_s (own_s (own_s x)))))))))), (.int z), (.int z)] := by
  simp only [own_lst, own_raw, Nat.reduceSub, own_bytes, if_neg h0, if_neg h1, if_neg h2, if_neg h3, if_neg h4, if_neg h5, if_neg h6, if_neg h7, if_pos h8]
  rfl
theorem own_s_val (w : Int64) (h : 0 ≤ w.toInt) : (own_s w).toInt = w.toInt / 128 := by
  have q := c_lushr w (7 : Int32) 7 (by decide) (by decide)
  have e : ((2 ^ 7 : Nat) : Int) = 128 := by decide
  rw [e] at q
  have r := rng64 w
  unfold own_s
  omega
theorem own_j128 : (128 : Int64).toInt = 128 := by decide
theorem own_lt128 (w : Int64) : w < (128 : Int64) ↔ w.toInt < 128 := by rw [Int64.lt_iff_toInt_lt, own_j128]
theorem own_its {x : Int64} (h : 0 ≤ x.toInt) : (own_s x).toInt = x.toInt / 128 ∧ (own_s (own_s x)).toInt = x.toInt / 16384 ∧ (own_s (own_s (own_s x))).toInt = x.toInt / 2097152 ∧ (own_s (own_s (own_s (own_s x)))).toInt = x.toInt / 268435456 ∧ (own_s (own_s (own_s (own_s (own_s x))))).toInt = x.toInt / 34359738368 ∧ (own_s (own_s (own_s (own_s (own_s (own_s x)))))).toInt = x.toInt / 4398046511104 ∧ (own_s (own_s (own_s (own_s (own_s (own_s (own_s x))))))).toInt = x.toInt / 562949953421312 ∧ (own_s (own_s (own_s (own_s (own_s (own_s (own_s (own_s x)))))))).toInt = x.toInt / 72057594037927936 := by
  have e1 := own_s_val x (by omega)
  have e2 := own_s_val (own_s x) (by omega)
  have e3 := own_s_val (own_s (own_s x)) (by omega)
  have e4 := own_s_val (own_s (own_s (own_s x))) (by omega)
  have e5 := own_s_val (own_s (own_s (own_s (own_s x)))) (by omega)
  have e6 := own_s_val (own_s (own_s (own_s (own_s (own_s x))))) (by omega)
  have e7 := own_s_val (own_s (own_s (own_s (own_s (own_s (own_s x)))))) (by omega)
  have e8 := own_s_val (own_s (own_s (own_s (own_s (own_s (own_s (own_s x))))))) (by omega)
  refine ⟨?_, ?_, ?_, ?_, ?_, ?_, ?_, ?_⟩ <;> omega
theorem own_lt9 {x : Int64} (h : 0 ≤ x.toInt) : (own_s (own_s (own_s (own_s (own_s (own_s (own_s (own_s x)))))))) < (128 : Int64) := by
  obtain ⟨e1, e2, e3, e4, e5, e6, e7, e8⟩ := own_its h
  have r := rng64 x
  rw [own_lt128]
  omega
theorem own_len_1 (x : Int64) (h : 0 ≤ x.toInt) (h0 : x < (128 : Int64)) : own_len x = 1 := by
  obtain ⟨e1, e2, e3, e4, e5, e6, e7, e8⟩ := own_its h
  have r := rng64 x
  rw [own_lt128] at h0
  unfold own_len
  rw [if_pos (show x < (128 : Int64) from by rw [Int64.lt_iff_toInt_lt, show (128 : Int64).toInt = 128 from by decide]; omega)]
theorem own_len_2 (x : Int64) (h : 0 ≤ x.toInt) (h0 : ¬ x < (128 : Int64)) (h1 : (own_s x) < (128 : Int64)) : own_len x = 2 := by
  obtain ⟨e1, e2, e3, e4, e5, e6, e7, e8⟩ := own_its h
  have r := rng64 x
  rw [own_lt128] at h0
  rw [own_lt128] at h1
  unfold own_len
  rw [if_neg (show ¬ x < (128 : Int64) from by rw [Int64.lt_iff_toInt_lt, show (128 : Int64).toInt = 128 from by decide]; omega)]
  rw [if_pos (show x < (16384 : Int64) from by rw [Int64.lt_iff_toInt_lt, show (16384 : Int64).toInt = 16384 from by decide]; omega)]
theorem own_len_3 (x : Int64) (h : 0 ≤ x.toInt) (h0 : ¬ x < (128 : Int64)) (h1 : ¬ (own_s x) < (128 : Int64)) (h2 : (own_s (own_s x)) < (128 : Int64)) : own_len x = 3 := by
  obtain ⟨e1, e2, e3, e4, e5, e6, e7, e8⟩ := own_its h
  have r := rng64 x
  rw [own_lt128] at h0
  rw [own_lt128] at h1
  rw [own_lt128] at h2
  unfold own_len
  rw [if_neg (show ¬ x < (128 : Int64) from by rw [Int64.lt_iff_toInt_lt, show (128 : Int64).toInt = 128 from by decide]; omega)]
  rw [if_neg (show ¬ x < (16384 : Int64) from by rw [Int64.lt_iff_toInt_lt, show (16384 : Int64).toInt = 16384 from by decide]; omega)]
  rw [if_pos (show x < (2097152 : Int64) from by rw [Int64.lt_iff_toInt_lt, show (2097152 : Int64).toInt = 2097152 from by decide]; omega)]
theorem own_len_4 (x : Int64) (h : 0 ≤ x.toInt) (h0 : ¬ x < (128 : Int64)) (h1 : ¬ (own_s x) < (128 : Int64)) (h2 : ¬ (own_s (own_s x)) < (128 : Int64)) (h3 : (own_s (own_s (own_s x))) < (128 : Int64)) : own_len x = 4 := by
  obtain ⟨e1, e2, e3, e4, e5, e6, e7, e8⟩ := own_its h
  have r := rng64 x
  rw [own_lt128] at h0
  rw [own_lt128] at h1
  rw [own_lt128] at h2
  rw [own_lt128] at h3
  unfold own_len
  rw [if_neg (show ¬ x < (128 : Int64) from by rw [Int64.lt_iff_toInt_lt, show (128 : Int64).toInt = 128 from by decide]; omega)]
  rw [if_neg (show ¬ x < (16384 : Int64) from by rw [Int64.lt_iff_toInt_lt, show (16384 : Int64).toInt = 16384 from by decide]; omega)]
  rw [if_neg (show ¬ x < (2097152 : Int64) from by rw [Int64.lt_iff_toInt_lt, show (2097152 : Int64).toInt = 2097152 from by decide]; omega)]
  rw [if_pos (show x < (268435456 : Int64) from by rw [Int64.lt_iff_toInt_lt, show (268435456 : Int64).toInt = 268435456 from by decide]; omega)]
theorem own_len_5 (x : Int64) (h : 0 ≤ x.toInt) (h0 : ¬ x < (128 : Int64)) (h1 : ¬ (own_s x) < (128 : Int64)) (h2 : ¬ (own_s (own_s x)) < (128 : Int64)) (h3 : ¬ (own_s (own_s (own_s x))) < (128 : Int64)) (h4 : (own_s (own_s (own_s (own_s x)))) < (128 : Int64)) : own_len x = 5 := by
  obtain ⟨e1, e2, e3, e4, e5, e6, e7, e8⟩ := own_its h
  have r := rng64 x
  rw [own_lt128] at h0
  rw [own_lt128] at h1
  rw [own_lt128] at h2
  rw [own_lt128] at h3
  rw [own_lt128] at h4
  unfold own_len
  rw [if_neg (show ¬ x < (128 : Int64) from by rw [Int64.lt_iff_toInt_lt, show (128 : Int64).toInt = 128 from by decide]; omega)]
  rw [if_neg (show ¬ x < (16384 : Int64) from by rw [Int64.lt_iff_toInt_lt, show (16384 : Int64).toInt = 16384 from by decide]; omega)]
  rw [if_neg (show ¬ x < (2097152 : Int64) from by rw [Int64.lt_iff_toInt_lt, show (2097152 : Int64).toInt = 2097152 from by decide]; omega)]
  rw [if_neg (show ¬ x < (268435456 : Int64) from by rw [Int64.lt_iff_toInt_lt, show (268435456 : Int64).toInt = 268435456 from by decide]; omega)]
  rw [if_pos (show x < (34359738368 : Int64) from by rw [Int64.lt_iff_toInt_lt, show (34359738368 : Int64).toInt = 34359738368 from by decide]; omega)]
theorem own_len_6 (x : Int64) (h : 0 ≤ x.toInt) (h0 : ¬ x < (128 : Int64)) (h1 : ¬ (own_s x) < (128 : Int64)) (h2 : ¬ (own_s (own_s x)) < (128 : Int64)) (h3 : ¬ (own_s (own_s (own_s x))) < (128 : Int64)) (h4 : ¬ (own_s (own_s (own_s (own_s x)))) < (128 : Int64)) (h5 : (own_s (own_s (own_s (own_s (own_s x))))) < (128 : Int64)) : own_len x = 6 := by
  obtain ⟨e1, e2, e3, e4, e5, e6, e7, e8⟩ := own_its h
  have r := rng64 x
  rw [own_lt128] at h0
  rw [own_lt128] at h1
  rw [own_lt128] at h2
  rw [own_lt128] at h3
  rw [own_lt128] at h4
  rw [own_lt128] at h5
  unfold own_len
  rw [if_neg (show ¬ x < (128 : Int64) from by rw [Int64.lt_iff_toInt_lt, show (128 : Int64).toInt = 128 from by decide]; omega)]
  rw [if_neg (show ¬ x < (16384 : Int64) from by rw [Int64.lt_iff_toInt_lt, show (16384 : Int64).toInt = 16384 from by decide]; omega)]
  rw [if_neg (show ¬ x < (2097152 : Int64) from by rw [Int64.lt_iff_toInt_lt, show (2097152 : Int64).toInt = 2097152 from by decide]; omega)]
  rw [if_neg (show ¬ x < (268435456 : Int64) from by rw [Int64.lt_iff_toInt_lt, show (268435456 : Int64).toInt = 268435456 from by decide]; omega)]
  rw [if_neg (show ¬ x < (34359738368 : Int64) from by rw [Int64.lt_iff_toInt_lt, show (34359738368 : Int64).toInt = 34359738368 from by decide]; omega)]
  rw [if_pos (show x < (4398046511104 : Int64) from by rw [Int64.lt_iff_toInt_lt, show (4398046511104 : Int64).toInt = 4398046511104 from by decide]; omega)]
theorem own_len_7 (x : Int64) (h : 0 ≤ x.toInt) (h0 : ¬ x < (128 : Int64)) (h1 : ¬ (own_s x) < (128 : Int64)) (h2 : ¬ (own_s (own_s x)) < (128 : Int64)) (h3 : ¬ (own_s (own_s (own_s x))) < (128 : Int64)) (h4 : ¬ (own_s (own_s (own_s (own_s x)))) < (128 : Int64)) (h5 : ¬ (own_s (own_s (own_s (own_s (own_s x))))) < (128 : Int64)) (h6 : (own_s (own_s (own_s (own_s (own_s (own_s x)))))) < (128 : Int64)) : own_len x = 7 := by
  obtain ⟨e1, e2, e3, e4, e5, e6, e7, e8⟩ := own_its h
  have r := rng64 x
  rw [own_lt128] at h0
  rw [own_lt128] at h1
  rw [own_lt128] at h2
  rw [own_lt128] at h3
  rw [own_lt128] at h4
  rw [own_lt128] at h5
  rw [own_lt128] at h6
  unfold own_len
  rw [if_neg (show ¬ x < (128 : Int64) from by rw [Int64.lt_iff_toInt_lt, show (128 : Int64).toInt = 128 from by decide]; omega)]
  rw [if_neg (show ¬ x < (16384 : Int64) from by rw [Int64.lt_iff_toInt_lt, show (16384 : Int64).toInt = 16384 from by decide]; omega)]
  rw [if_neg (show ¬ x < (2097152 : Int64) from by rw [Int64.lt_iff_toInt_lt, show (2097152 : Int64).toInt = 2097152 from by decide]; omega)]
  rw [if_neg (show ¬ x < (268435456 : Int64) from by rw [Int64.lt_iff_toInt_lt, show (268435456 : Int64).toInt = 268435456 from by decide]; omega)]
  rw [if_neg (show ¬ x < (34359738368 : Int64) from by rw [Int64.lt_iff_toInt_lt, show (34359738368 : Int64).toInt = 34359738368 from by decide]; omega)]
  rw [if_neg (show ¬ x < (4398046511104 : Int64) from by rw [Int64.lt_iff_toInt_lt, show (4398046511104 : Int64).toInt = 4398046511104 from by decide]; omega)]
  rw [if_pos (show x < (562949953421312 : Int64) from by rw [Int64.lt_iff_toInt_lt, show (562949953421312 : Int64).toInt = 562949953421312 from by decide]; omega)]
theorem own_len_8 (x : Int64) (h : 0 ≤ x.toInt) (h0 : ¬ x < (128 : Int64)) (h1 : ¬ (own_s x) < (128 : Int64)) (h2 : ¬ (own_s (own_s x)) < (128 : Int64)) (h3 : ¬ (own_s (own_s (own_s x))) < (128 : Int64)) (h4 : ¬ (own_s (own_s (own_s (own_s x)))) < (128 : Int64)) (h5 : ¬ (own_s (own_s (own_s (own_s (own_s x))))) < (128 : Int64)) (h6 : ¬ (own_s (own_s (own_s (own_s (own_s (own_s x)))))) < (128 : Int64)) (h7 : (own_s (own_s (own_s (own_s (own_s (own_s (own_s x))))))) < (128 : Int64)) : own_len x = 8 := by
  obtain ⟨e1, e2, e3, e4, e5, e6, e7, e8⟩ := own_its h
  have r := rng64 x
  rw [own_lt128] at h0
  rw [own_lt128] at h1
  rw [own_lt128] at h2
  rw [own_lt128] at h3
  rw [own_lt128] at h4
  rw [own_lt128] at h5
  rw [own_lt128] at h6
  rw [own_lt128] at h7
  unfold own_len
  rw [if_neg (show ¬ x < (128 : Int64) from by rw [Int64.lt_iff_toInt_lt, show (128 : Int64).toInt = 128 from by decide]; omega)]
  rw [if_neg (show ¬ x < (16384 : Int64) from by rw [Int64.lt_iff_toInt_lt, show (16384 : Int64).toInt = 16384 from by decide]; omega)]
  rw [if_neg (show ¬ x < (2097152 : Int64) from by rw [Int64.lt_iff_toInt_lt, show (2097152 : Int64).toInt = 2097152 from by decide]; omega)]
  rw [if_neg (show ¬ x < (268435456 : Int64) from by rw [Int64.lt_iff_toInt_lt, show (268435456 : Int64).toInt = 268435456 from by decide]; omega)]
  rw [if_neg (show ¬ x < (34359738368 : Int64) from by rw [Int64.lt_iff_toInt_lt, show (34359738368 : Int64).toInt = 34359738368 from by decide]; omega)]
  rw [if_neg (show ¬ x < (4398046511104 : Int64) from by rw [Int64.lt_iff_toInt_lt, show (4398046511104 : Int64).toInt = 4398046511104 from by decide]; omega)]
  rw [if_neg (show ¬ x < (562949953421312 : Int64) from by rw [Int64.lt_iff_toInt_lt, show (562949953421312 : Int64).toInt = 562949953421312 from by decide]; omega)]
  rw [if_pos (show x < (72057594037927936 : Int64) from by rw [Int64.lt_iff_toInt_lt, show (72057594037927936 : Int64).toInt = 72057594037927936 from by decide]; omega)]
theorem own_len_9 (x : Int64) (h : 0 ≤ x.toInt) (h0 : ¬ x < (128 : Int64)) (h1 : ¬ (own_s x) < (128 : Int64)) (h2 : ¬ (own_s (own_s x)) < (128 : Int64)) (h3 : ¬ (own_s (own_s (own_s x))) < (128 : Int64)) (h4 : ¬ (own_s (own_s (own_s (own_s x)))) < (128 : Int64)) (h5 : ¬ (own_s (own_s (own_s (own_s (own_s x))))) < (128 : Int64)) (h6 : ¬ (own_s (own_s (own_s (own_s (own_s (own_s x)))))) < (128 : Int64)) (h7 : ¬ (own_s (own_s (own_s (own_s (own_s (own_s (own_s x))))))) < (128 : Int64)) (h8 : (own_s (own_s (own_s (own_s (own_s (own_s (own_s (own_s x)))))))) < (128 : Int64)) : own_len x = 9 := by
  obtain ⟨e1, e2, e3, e4, e5, e6, e7, e8⟩ := own_its h
  have r := rng64 x
  rw [own_lt128] at h0
  rw [own_lt128] at h1
  rw [own_lt128] at h2
  rw [own_lt128] at h3
  rw [own_lt128] at h4
  rw [own_lt128] at h5
  rw [own_lt128] at h6
  rw [own_lt128] at h7
  rw [own_lt128] at h8
  unfold own_len
  rw [if_neg (show ¬ x < (128 : Int64) from by rw [Int64.lt_iff_toInt_lt, show (128 : Int64).toInt = 128 from by decide]; omega)]
  rw [if_neg (show ¬ x < (16384 : Int64) from by rw [Int64.lt_iff_toInt_lt, show (16384 : Int64).toInt = 16384 from by decide]; omega)]
  rw [if_neg (show ¬ x < (2097152 : Int64) from by rw [Int64.lt_iff_toInt_lt, show (2097152 : Int64).toInt = 2097152 from by decide]; omega)]
  rw [if_neg (show ¬ x < (268435456 : Int64) from by rw [Int64.lt_iff_toInt_lt, show (268435456 : Int64).toInt = 268435456 from by decide]; omega)]
  rw [if_neg (show ¬ x < (34359738368 : Int64) from by rw [Int64.lt_iff_toInt_lt, show (34359738368 : Int64).toInt = 34359738368 from by decide]; omega)]
  rw [if_neg (show ¬ x < (4398046511104 : Int64) from by rw [Int64.lt_iff_toInt_lt, show (4398046511104 : Int64).toInt = 4398046511104 from by decide]; omega)]
  rw [if_neg (show ¬ x < (562949953421312 : Int64) from by rw [Int64.lt_iff_toInt_lt, show (562949953421312 : Int64).toInt = 562949953421312 from by decide]; omega)]
  rw [if_neg (show ¬ x < (72057594037927936 : Int64) from by rw [Int64.lt_iff_toInt_lt, show (72057594037927936 : Int64).toInt = 72057594037927936 from by decide]; omega)]

theorem d2_0 : decode prog_13_method_4_code 0 = .ok (.lload_n 0, 1) := by decide +kernel
theorem d2_1 : decode prog_13_method_4_code 1 = .ok (.lstore 4, 2) := by decide +kernel
theorem d2_3 : decode prog_13_method_4_code 3 = .ok (.iload_n 3, 1) := by decide +kernel
theorem d2_4 : decode prog_13_method_4_code 4 = .ok (.istore 6, 2) := by decide +kernel
theorem d2_6 : decode prog_13_method_4_code 6 = .ok (.lload 4, 2) := by decide +kernel
theorem d2_8 : decode prog_13_method_4_code 8 = .ok (.ldc2_w 19, 3) := by decide +kernel
theorem d2_11 : decode prog_13_method_4_code 11 = .ok (.lcmp, 1) := by decide +kernel
theorem d2_12 : decode prog_13_method_4_code 12 = .ok (.ifCond .lt 28, 3) := by decide +kernel
theorem d2_15 : decode prog_13_method_4_code 15 = .ok (.aload_n 2, 1) := by decide +kernel
theorem d2_16 : decode prog_13_method_4_code 16 = .ok (.iload 6, 2) := by decide +kernel
theorem d2_18 : decode prog_13_method_4_code 18 = .ok (.iinc 6 1, 3) := by decide +kernel
theorem d2_21 : decode prog_13_method_4_code 21 = .ok (.lload 4, 2) := by decide +kernel
theorem d2_23 : decode prog_13_method_4_code 23 = .ok (.ldc2_w 19, 3) := by decide +kernel
theorem d2_26 : decode prog_13_method_4_code 26 = .ok (.lor, 1) := by decide +kernel
theorem d2_27 : decode prog_13_method_4_code 27 = .ok (.l2i, 1) := by decide +kernel
theorem d2_28 : decode prog_13_method_4_code 28 = .ok (.i2b, 1) := by decide +kernel
theorem d2_29 : decode prog_13_method_4_code 29 = .ok (.bastore, 1) := by decide +kernel
theorem d2_30 : decode prog_13_method_4_code 30 = .ok (.lload 4, 2) := by decide +kernel
theorem d2_32 : decode prog_13_method_4_code 32 = .ok (.bipush 7, 2) := by decide +kernel
theorem d2_34 : decode prog_13_method_4_code 34 = .ok (.lushr, 1) := by decide +kernel
theorem d2_35 : decode prog_13_method_4_code 35 = .ok (.lstore 4, 2) := by decide +kernel
theorem d2_37 : decode prog_13_method_4_code 37 = .ok (.goto (-31), 3) := by decide +kernel
theorem d2_40 : decode prog_13_method_4_code 40 = .ok (.aload_n 2, 1) := by decide +kernel
theorem d2_41 : decode prog_13_method_4_code 41 = .ok (.iload 6, 2) := by decide +kernel
theorem d2_43 : decode prog_13_method_4_code 43 = .ok (.iinc 6 1, 3) := by decide +kernel
theorem d2_46 : decode prog_13_method_4_code 46 = .ok (.lload 4, 2) := by decide +kernel
theorem d2_48 : decode prog_13_method_4_code 48 = .ok (.l2i, 1) := by decide +kernel
theorem d2_49 : decode prog_13_method_4_code 49 = .ok (.i2b, 1) := by decide +kernel
theorem d2_50 : decode prog_13_method_4_code 50 = .ok (.bastore, 1) := by decide +kernel
theorem d2_51 : decode prog_13_method_4_code 51 = .ok (.iload 6, 2) := by decide +kernel
theorem d2_53 : decode prog_13_method_4_code 53 = .ok (.ireturn, 1) := by decide +kernel
theorem pnwr0 : plainName "com/example/skorr/skorr/index/IndexFormat" = true := by first | (simp [plainName, overriddenIn]; done) | decide +kernel
theorem efwr0 (m : MethodId) (z0 : Int64) (z1 : Addr) : entryFrame m #[(.long z0), (.ref z1), (.int (0 : Int32))] 7 = mkF m 0 #[.val (.long z0), .second, .val (.ref z1), .val (.int (0 : Int32)), .unset, .unset, .unset] [] := by first | (simp [entryFrame, mkF, argsToLocals, Value.category]; done) | rfl
def Qwr0 (Z : State) (x : Int64) (a : Addr) (kk : ClassId) (z : Int32) (h0 : Heap) (n0 : Nat) (v : Option Value) (h : Heap) (L : List Loc) : Prop := v = some (.int ((0 : Int32) + (own_len x))) ∧ Fr n0 L ∧ Keep h0 h [a] ∧ Arv Z h a kk .byte (14 : Int32) (own_lst 0 x z) (.int (0 : Int32))
set_option maxRecDepth 65536 in
set_option maxHeartbeats 40000000 in
theorem rmwr0 (l : Launch) (Z : State) (a0 : Array Value) (hw : ∀ d ∈ tables_1, d.before a0 Z = true) (ws : List Jvm.Cond) (x : Int64) (a : Addr) (kk : ClassId) (z : Int32) (h0 : Heap) (n0 : Nat) (Z0 : n0 ≤ h0.size) (V_a : Arv Z h0 a kk .byte (14 : Int32) [(.int z), (.int z), (.int z), (.int z), (.int z), (.int z), (.int z), (.int z), (.int z), (.int z), (.int z), (.int z), (.int z), (.int z)] (.int (0 : Int32))) (g_a : n0 ≤ a) (hpos : 0 ≤ x.toInt) :
    MetFree l (⟨"com/example/skorr/skorr/index/IndexFormat", "writeVarint", "(J[BI)I"⟩ : MethodName) (head1 (Jvm.Cond.code (⟨"com/example/skorr/skorr/index/IndexFormat", "writeVarint", "(J[BI)I"⟩ : MethodName) prog_13_method_4_code 7 (some .int) :: ws) ({ frames := 0, cells := 0, slots := 0, locals := 0 } : Room)) (fun ag U => ag = #[(.long x), (.ref a), (.int (0 : Int32))] ∧ Z.Warmed39 U.vm ∧ U.heap = h0) (fun _ _ _ _ _ => True) (fun _ U oc U' => ∃ v L, oc = .returned v ∧ Qwr0 Z x a kk z h0 n0 v U'.heap L ∧ FrameEnd U oc U' L ({ frames := 0, cells := 0, slots := 0, locals := 0 } : Room).cells ({ frames := 0, cells := 0, slots := 0, locals := 0 } : Room).slots) := by
  refine MetFree.of_bodySF (plainFor_of_name pnwr0) hisR ?_
  intro p e s m args below meth c s₁ Bd hml0 hP hK
  obtain ⟨rfl, hZ, hh⟩ := hP
  have hx := Bd.exec
  have hby := Bd.bytes
  have hml : c.maxLocals = 7 := hml0
  have hown : s.vm.findClass "com/example/skorr/skorr/index/IndexFormat" = some m.cls := findClass_of_methodNamed Bd.named
  have hnm := (name_of_methodNamed Bd.named Bd.method).1
  have X0 : Stand p l e ({ frames := 0, cells := 0, slots := 0, locals := 0 } : Room) s m #[(.long x), (.ref a), (.int (0 : Int32))] below meth c s₁ [] 0 0 := Stand.of_body Bd
  have e0 : s₁.heap = h0 := by rw [← hh, Bd.state]; rfl
  have N0 := Fr.nil n0
  show own_Go p e below (fun s₂ oc => ∃ v L, oc = .returned v ∧ Qwr0 Z x a kk z h0 n0 v s₂.heap L ∧ FrameEnd s oc s₂ L ({ frames := 0, cells := 0, slots := 0, locals := 0 } : Room).cells ({ frames := 0, cells := 0, slots := 0, locals := 0 } : Room).slots) s₁ (entryFrame m #[(.long x), (.ref a), (.int (0 : Int32))] 7)
  refine own_Go.of (g' := mkF m 0 #[.val (.long x), .second, .val (.ref a), .val (.int (0 : Int32)), .unset, .unset, .unset] []) (fun t k => castTop (efwr0 m x a) k) ?_
  refine og_lloadN (pc' := 1) X0 hx (hb hby d2_0) rfl rfl ?_
  refine og_lstore (pc' := 3) (L' := #[.val (.long x), .second, .val (.ref a), .val (.int (0 : Int32)), .val (.long x), .second, .unset]) X0 hx (hb hby d2_1) rfl rfl ?_
  refine og_iloadN (pc' := 4) X0 hx (hb hby d2_3) rfl rfl ?_
  refine og_istore (pc' := 6) (L' := #[.val (.long x), .second, .val (.ref a), .val (.int (0 : Int32)), .val (.long x), .second, .val (.int (0 : Int32))]) X0 hx (hb hby d2_4) rfl rfl ?_
  refine og_lload (pc' := 8) X0 hx (hb hby d2_6) rfl rfl ?_
  refine og_ldc2_w (pc' := 11) X0 hx (hb hby d2_8) hown (mvT hZ (hw _ (List.mem_of_getElem? (i := 11) rfl))) rfl ?_
  refine og_lcmp (pc' := 12) X0 hx (hb hby d2_11) rfl ?_
  by_cases hc12_1 : x < (128 : Int64)
  · refine og_ifYes (pc' := 40) X0 hx (hb hby d2_12) ((if0 _ _).trans (tlt ((lw_lt _ _).mpr hc12_1)).1) (by decide) (by decide) ?_
    refine og_aloadN (pc' := 41) X0 hx (hb hby d2_40) rfl rfl rfl ?_
    refine og_iload (pc' := 43) X0 hx (hb hby d2_41) rfl rfl ?_
    refine og_iinc (pc' := 46) (L' := #[.val (.long x), .second, .val (.ref a), .val (.int (0 : Int32)), .val (.long x), .second, .val (.int ((0 : Int32) + (1 : Int32)))]) X0 hx (hb hby d2_43) rfl rfl rfl ?_
    rw [show ((0 : Int32) + (1 : Int32)) = (1 : Int32) from by decide]
    refine og_lload (pc' := 48) X0 hx (hb hby d2_46) rfl rfl ?_
    refine og_l2i (pc' := 49) X0 hx (hb hby d2_48) rfl ?_
    refine og_i2b (pc' := 50) X0 hx (hb hby d2_49) rfl ?_
    obtain ⟨cl1, Ar1, q1, S1, M1, H1, G1⟩ := id V_a
    have hin1 : ¬ ((0 : Int32) < 0 ∨ cl1.slots.size ≤ ((0 : Int32)).toNatClampNeg) := inb_of S1 ⟨by decide, by decide⟩
    obtain ⟨T1, h1, X1, e1, W1, st1⟩ := stB X0 hx hZ e0 Ar1 (j := (0 : Int32)) hin1 (g := (mkF m 50 #[.val (.long x), .second, .val (.ref a), .val (.int (0 : Int32)), .val (.long x), .second, .val (.int (1 : Int32))] [(.int ((x.toInt32).toInt8.toInt32)), (.int (0 : Int32)), (.ref a)])) rfl rfl (hb hby d2_50)
    have V1 : Arv Z h1 a kk .byte (14 : Int32) [(.int (((x.toInt32).toInt8.toInt32).toInt8.toInt32)), (.int z), (.int z), (.int z), (.int z), (.int z), (.int z), (.int z), (.int z), (.int z), (.int z), (.int z), (.int z), (.int z)] (.int (0 : Int32)) := Arv.set Ar1 q1 S1 M1 H1 G1 (fits_nar_byte _) W1 0 rfl (Nat.le_of_ble_eq_true rfl)
    have K1 : Keep h0 h1 [a] := (Keep.refl h0 [a]).wr W1 (Or.inl (List.mem_of_getElem? (i := 0) rfl))
    have Z1 : n0 ≤ h1.size := Nat.le_trans Z0 K1.1
    have N1 := Fr.snoc X1 N0 g_a
    obtain ⟨J1, X1, N1⟩ := own_hide X1 N1
    refine own_Go.of (g' := (mkF m 51 #[.val (.long x), .second, .val (.ref a), .val (.int (0 : Int32)), .val (.long x), .second, .val (.int (1 : Int32))] [])) (fun t k => st1 _ k) ?_
    refine og_iload (pc' := 53) X1 hx (hb hby d2_51) rfl rfl ?_
    obtain ⟨fs, hr, hrun, hended, hW, hsame⟩ := X1.leave (v := some (.int (1 : Int32))) (fun h => by rw [Bd.returns] at h; cases h) (BodyLoose.notSynchronized Bd)
    refine ⟨_, _, retI X1 hx Bd.returns (hb hby d2_53) hr, hrun, hended, some (.int (1 : Int32)), _, rfl, ?_, ⟨_, rfl⟩, hW, hsame.mono (by decide) (by decide)⟩
    show Qwr0 Z x a kk z h0 n0 _ T1.heap _
    rw [e1]
    exact ⟨(congrArg (fun q => some (Value.int q)) (by rw [own_len_1 x hpos hc12_1]; decide)), N1, K1, (by rw [own_lst_0_1 x z hc12_1]; exact V1)⟩
  · refine og_ifNo (pc' := 15) X0 hx (hb hby d2_12) ((if0 _ _).trans (flt (fun q => hc12_1 ((lw_lt _ _).mp q))).1) rfl ?_
    refine og_aloadN (pc' := 16) X0 hx (hb hby d2_15) rfl rfl rfl ?_
    refine og_iload (pc' := 18) X0 hx (hb hby d2_16) rfl rfl ?_
    refine og_iinc (pc' := 21) (L' := #[.val (.long x), .second, .val (.ref a), .val (.int (0 : Int32)), .val (.long x), .second, .val (.int ((0 : Int32) + (1 : Int32)))]) X0 hx (hb hby d2_18) rfl rfl rfl ?_
    rw [show ((0 : Int32) + (1 : Int32)) = (1 : Int32) from by decide]
    refine og_lload (pc' := 23) X0 hx (hb hby d2_21) rfl rfl ?_
    refine og_ldc2_w (pc' := 26) X0 hx (hb hby d2_23) hown (mvT hZ (hw _ (List.mem_of_getElem? (i := 11) rfl))) rfl ?_
    refine og_lor (pc' := 27) X0 hx (hb hby d2_26) rfl ?_
    refine og_l2i (pc' := 28) X0 hx (hb hby d2_27) rfl ?_
    refine og_i2b (pc' := 29) X0 hx (hb hby d2_28) rfl ?_
    obtain ⟨cl2, Ar2, q2, S2, M2, H2, G2⟩ := id V_a
    have hin2 : ¬ ((0 : Int32) < 0 ∨ cl2.slots.size ≤ ((0 : Int32)).toNatClampNeg) := inb_of S2 ⟨by decide, by decide⟩
    obtain ⟨T2, h2, X2, e2, W2, st2⟩ := stB X0 hx hZ e0 Ar2 (j := (0 : Int32)) hin2 (g := (mkF m 29 #[.val (.long x), .second, .val (.ref a), .val (.int (0 : Int32)), .val (.long x), .second, .val (.int (1 : Int32))] [(.int (((x ||| (128 : Int64)).toInt32).toInt8.toInt32)), (.int (0 : Int32)), (.ref a)])) rfl rfl (hb hby d2_29)
    have V2 : Arv Z h2 a kk .byte (14 : Int32) [(.int ((((x ||| (128 : Int64)).toInt32).toInt8.toInt32).toInt8.toInt32)), (.int z), (.int z), (.int z), (.int z), (.int z), (.int z), (.int z), (.int z), (.int z), (.int z), (.int z), (.int z), (.int z)] (.int (0 : Int32)) := Arv.set Ar2 q2 S2 M2 H2 G2 (fits_nar_byte _) W2 0 rfl (Nat.le_of_ble_eq_true rfl)
    have K2 : Keep h0 h2 [a] := (Keep.refl h0 [a]).wr W2 (Or.inl (List.mem_of_getElem? (i := 0) rfl))
    have Z2 : n0 ≤ h2.size := Nat.le_trans Z0 K2.1
    have N2 := Fr.snoc X2 N0 g_a
    obtain ⟨J2, X2, N2⟩ := own_hide X2 N2
    refine own_Go.of (g' := (mkF m 30 #[.val (.long x), .second, .val (.ref a), .val (.int (0 : Int32)), .val (.long x), .second, .val (.int (1 : Int32))] [])) (fun t k => st2 _ k) ?_
    refine og_lload (pc' := 32) X2 hx (hb hby d2_30) rfl rfl ?_
    refine og_bipush (pc' := 34) (n := 7) X2 hx (hb hby d2_32) rfl rfl ?_
    refine own_Go.of (g' := (mkF m 35 #[.val (.long x), .second, .val (.ref a), .val (.int (0 : Int32)), .val (.long x), .second, .val (.int (1 : Int32))] [(.long (own_s x))])) (fun t k => XS.lushr X2.here hx rfl (hb hby d2_34) rfl k) ?_
    refine og_lstore (pc' := 37) (L' := #[.val (.long x), .second, .val (.ref a), .val (.int (0 : Int32)), .val (.long (own_s x)), .second, .val (.int (1 : Int32))]) X2 hx (hb hby d2_35) rfl rfl ?_
    refine og_goto (pc' := 6) X2 hx (hb hby d2_37) (by decide) (by decide) ?_
    refine og_lload (pc' := 8) X2 hx (hb hby d2_6) rfl rfl ?_
    refine og_ldc2_w (pc' := 11) X2 hx (hb hby d2_8) hown (mvT hZ (hw _ (List.mem_of_getElem? (i := 11) rfl))) rfl ?_
    refine og_lcmp (pc' := 12) X2 hx (hb hby d2_11) rfl ?_
    by_cases hc12_2 : (own_s x) < (128 : Int64)
    · refine og_ifYes (pc' := 40) X2 hx (hb hby d2_12) ((if0 _ _).trans (tlt ((lw_lt _ _).mpr hc12_2)).1) (by decide) (by decide) ?_
      refine og_aloadN (pc' := 41) X2 hx (hb hby d2_40) rfl rfl rfl ?_
      refine og_iload (pc' := 43) X2 hx (hb hby d2_41) rfl rfl ?_
      refine og_iinc (pc' := 46) (L' := #[.val (.long x), .second, .val (.ref a), .val (.int (0 : Int32)), .val (.long (own_s x)), .second, .val (.int ((1 : Int32) + (1 : Int32)))]) X2 hx (hb hby d2_43) rfl rfl rfl ?_
      rw [show ((1 : Int32) + (1 : Int32)) = (2 : Int32) from by decide]
      refine og_lload (pc' := 48) X2 hx (hb hby d2_46) rfl rfl ?_
      refine og_l2i (pc' := 49) X2 hx (hb hby d2_48) rfl ?_
      refine og_i2b (pc' := 50) X2 hx (hb hby d2_49) rfl ?_
      obtain ⟨cl3, Ar3, q3, S3, M3, H3, G3⟩ := id V2
      have hin3 : ¬ ((1 : Int32) < 0 ∨ cl3.slots.size ≤ ((1 : Int32)).toNatClampNeg) := inb_of S3 ⟨by decide, by decide⟩
      obtain ⟨T3, h3, X3, e3, W3, st3⟩ := stB X2 hx hZ e2 Ar3 (j := (1 : Int32)) hin3 (g := (mkF m 50 #[.val (.long x), .second, .val (.ref a), .val (.int (0 : Int32)), .val (.long (own_s x)), .second, .val (.int (2 : Int32))] [(.int (((own_s x).toInt32).toInt8.toInt32)), (.int (1 : Int32)), (.ref a)])) rfl rfl (hb hby d2_50)
      have V3 : Arv Z h3 a kk .byte (14 : Int32) [(.int ((((x ||| (128 : Int64)).toInt32).toInt8.toInt32).toInt8.toInt32)), (.int ((((own_s x).toInt32).toInt8.toInt32).toInt8.toInt32)), (.int z), (.int z), (.int z), (.int z), (.int z), (.int z), (.int z), (.int z), (.int z), (.int z), (.int z), (.int z)] (.int (0 : Int32)) := Arv.set Ar3 q3 S3 M3 H3 G3 (fits_nar_byte _) W3 1 rfl (Nat.le_of_ble_eq_true rfl)
      have K3 : Keep h0 h3 [a] := K2.wr W3 (Or.inl (List.mem_of_getElem? (i := 0) rfl))
      have Z3 : n0 ≤ h3.size := Nat.le_trans Z0 K3.1
      have N3 := Fr.snoc X3 N2 g_a
      obtain ⟨J3, X3, N3⟩ := own_hide X3 N3
      refine own_Go.of (g' := (mkF m 51 #[.val (.long x), .second, .val (.ref a), .val (.int (0 : Int32)), .val (.long (own_s x)), .second, .val (.int (2 : Int32))] [])) (fun t k => st3 _ k) ?_
      refine og_iload (pc' := 53) X3 hx (hb hby d2_51) rfl rfl ?_
      obtain ⟨fs, hr, hrun, hended, hW, hsame⟩ := X3.leave (v := some (.int (2 : Int32))) (fun h => by rw [Bd.returns] at h; cases h) (BodyLoose.notSynchronized Bd)
      refine ⟨_, _, retI X3 hx Bd.returns (hb hby d2_53) hr, hrun, hended, some (.int (2 : Int32)), _, rfl, ?_, ⟨_, rfl⟩, hW, hsame.mono (by decide) (by decide)⟩
      show Qwr0 Z x a kk z h0 n0 _ T3.heap _
      rw [e3]
      exact ⟨(congrArg (fun q => some (Value.int q)) (by rw [own_len_2 x hpos hc12_1 hc12_2]; decide)), N3, K3, (by rw [own_lst_0_2 x z hc12_1 hc12_2]; exact V3)⟩
    · refine og_ifNo (pc' := 15) X2 hx (hb hby d2_12) ((if0 _ _).trans (flt (fun q => hc12_2 ((lw_lt _ _).mp q))).1) rfl ?_
      refine og_aloadN (pc' := 16) X2 hx (hb hby d2_15) rfl rfl rfl ?_
      refine og_iload (pc' := 18) X2 hx (hb hby d2_16) rfl rfl ?_
      refine og_iinc (pc' := 21) (L' := #[.val (.long x), .second, .val (.ref a), .val (.int (0 : Int32)), .val (.long (own_s x)), .second, .val (.int ((1 : Int32) + (1 : Int32)))]) X2 hx (hb hby d2_18) rfl rfl rfl ?_
      rw [show ((1 : Int32) + (1 : Int32)) = (2 : Int32) from by decide]
      refine og_lload (pc' := 23) X2 hx (hb hby d2_21) rfl rfl ?_
      refine og_ldc2_w (pc' := 26) X2 hx (hb hby d2_23) hown (mvT hZ (hw _ (List.mem_of_getElem? (i := 11) rfl))) rfl ?_
      refine og_lor (pc' := 27) X2 hx (hb hby d2_26) rfl ?_
      refine og_l2i (pc' := 28) X2 hx (hb hby d2_27) rfl ?_
      refine og_i2b (pc' := 29) X2 hx (hb hby d2_28) rfl ?_
      obtain ⟨cl4, Ar4, q4, S4, M4, H4, G4⟩ := id V2
      have hin4 : ¬ ((1 : Int32) < 0 ∨ cl4.slots.size ≤ ((1 : Int32)).toNatClampNeg) := inb_of S4 ⟨by decide, by decide⟩
      obtain ⟨T4, h4, X4, e4, W4, st4⟩ := stB X2 hx hZ e2 Ar4 (j := (1 : Int32)) hin4 (g := (mkF m 29 #[.val (.long x), .second, .val (.ref a), .val (.int (0 : Int32)), .val (.long (own_s x)), .second, .val (.int (2 : Int32))] [(.int ((((own_s x) ||| (128 : Int64)).toInt32).toInt8.toInt32)), (.int (1 : Int32)), (.ref a)])) rfl rfl (hb hby d2_29)
      have V4 : Arv Z h4 a kk .byte (14 : Int32) [(.int ((((x ||| (128 : Int64)).toInt32).toInt8.toInt32).toInt8.toInt32)), (.int (((((own_s x) ||| (128 : Int64)).toInt32).toInt8.toInt32).toInt8.toInt32)), (.int z), (.int z), (.int z), (.int z), (.int z), (.int z), (.int z), (.int z), (.int z), (.int z), (.int z), (.int z)] (.int (0 : Int32)) := Arv.set Ar4 q4 S4 M4 H4 G4 (fits_nar_byte _) W4 1 rfl (Nat.le_of_ble_eq_true rfl)
      have K4 : Keep h0 h4 [a] := K2.wr W4 (Or.inl (List.mem_of_getElem? (i := 0) rfl))
      have Z4 : n0 ≤ h4.size := Nat.le_trans Z0 K4.1
      have N4 := Fr.snoc X4 N2 g_a
      obtain ⟨J4, X4, N4⟩ := own_hide X4 N4
      refine own_Go.of (g' := (mkF m 30 #[.val (.long x), .second, .val (.ref a), .val (.int (0 : Int32)), .val (.long (own_s x)), .second, .val (.int (2 : Int32))] [])) (fun t k => st4 _ k) ?_
      refine og_lload (pc' := 32) X4 hx (hb hby d2_30) rfl rfl ?_
      refine og_bipush (pc' := 34) (n := 7) X4 hx (hb hby d2_32) rfl rfl ?_
      refine own_Go.of (g' := (mkF m 35 #[.val (.long x), .second, .val (.ref a), .val (.int (0 : Int32)), .val (.long (own_s x)), .second, .val (.int (2 : Int32))] [(.long (own_s (own_s x)))])) (fun t k => XS.lushr X4.here hx rfl (hb hby d2_34) rfl k) ?_
      refine og_lstore (pc' := 37) (L' := #[.val (.long x), .second, .val (.ref a), .val (.int (0 : Int32)), .val (.long (own_s (own_s x))), .second, .val (.int (2 : Int32))]) X4 hx (hb hby d2_35) rfl rfl ?_
      refine og_goto (pc' := 6) X4 hx (hb hby d2_37) (by decide) (by decide) ?_
      refine og_lload (pc' := 8) X4 hx (hb hby d2_6) rfl rfl ?_
      refine og_ldc2_w (pc' := 11) X4 hx (hb hby d2_8) hown (mvT hZ (hw _ (List.mem_of_getElem? (i := 11) rfl))) rfl ?_
      refine og_lcmp (pc' := 12) X4 hx (hb hby d2_11) rfl ?_
      by_cases hc12_3 : (own_s (own_s x)) < (128 : Int64)
      · refine og_ifYes (pc' := 40) X4 hx (hb hby d2_12) ((if0 _ _).trans (tlt ((lw_lt _ _).mpr hc12_3)).1) (by decide) (by decide) ?_
        refine og_aloadN (pc' := 41) X4 hx (hb hby d2_40) rfl rfl rfl ?_
        refine og_iload (pc' := 43) X4 hx (hb hby d2_41) rfl rfl ?_
        refine og_iinc (pc' := 46) (L' := #[.val (.long x), .second, .val (.ref a), .val (.int (0 : Int32)), .val (.long (own_s (own_s x))), .second, .val (.int ((2 : Int32) + (1 : Int32)))]) X4 hx (hb hby d2_43) rfl rfl rfl ?_
        rw [show ((2 : Int32) + (1 : Int32)) = (3 : Int32) from by decide]
        refine og_lload (pc' := 48) X4 hx (hb hby d2_46) rfl rfl ?_
        refine og_l2i (pc' := 49) X4 hx (hb hby d2_48) rfl ?_
        refine og_i2b (pc' := 50) X4 hx (hb hby d2_49) rfl ?_
        obtain ⟨cl5, Ar5, q5, S5, M5, H5, G5⟩ := id V4
        have hin5 : ¬ ((2 : Int32) < 0 ∨ cl5.slots.size ≤ ((2 : Int32)).toNatClampNeg) := inb_of S5 ⟨by decide, by decide⟩
        obtain ⟨T5, h5, X5, e5, W5, st5⟩ := stB X4 hx hZ e4 Ar5 (j := (2 : Int32)) hin5 (g := (mkF m 50 #[.val (.long x), .second, .val (.ref a), .val (.int (0 : Int32)), .val (.long (own_s (own_s x))), .second, .val (.int (3 : Int32))] [(.int (((own_s (own_s x)).toInt32).toInt8.toInt32)), (.int (2 : Int32)), (.ref a)])) rfl rfl (hb hby d2_50)
        have V5 : Arv Z h5 a kk .byte (14 : Int32) [(.int ((((x ||| (128 : Int64)).toInt32).toInt8.toInt32).toInt8.toInt32)), (.int (((((own_s x) ||| (128 : Int64)).toInt32).toInt8.toInt32).toInt8.toInt32)), (.int ((((own_s (own_s x)).toInt32).toInt8.toInt32).toInt8.toInt32)), (.int z), (.int z), (.int z), (.int z), (.int z), (.int z), (.int z), (.int z), (.int z), (.int z), (.int z)] (.int (0 : Int32)) := Arv.set Ar5 q5 S5 M5 H5 G5 (fits_nar_byte _) W5 2 rfl (Nat.le_of_ble_eq_true rfl)
        have K5 : Keep h0 h5 [a] := K4.wr W5 (Or.inl (List.mem_of_getElem? (i := 0) rfl))
        have Z5 : n0 ≤ h5.size := Nat.le_trans Z0 K5.1
        have N5 := Fr.snoc X5 N4 g_a
        obtain ⟨J5, X5, N5⟩ := own_hide X5 N5
        refine own_Go.of (g' := (mkF m 51 #[.val (.long x), .second, .val (.ref a), .val (.int (0 : Int32)), .val (.long (own_s (own_s x))), .second, .val (.int (3 : Int32))] [])) (fun t k => st5 _ k) ?_
        refine og_iload (pc' := 53) X5 hx (hb hby d2_51) rfl rfl ?_
        obtain ⟨fs, hr, hrun, hended, hW, hsame⟩ := X5.leave (v := some (.int (3 : Int32))) (fun h => by rw [Bd.returns] at h; cases h) (BodyLoose.notSynchronized Bd)
        refine ⟨_, _, retI X5 hx Bd.returns (hb hby d2_53) hr, hrun, hended, some (.int (3 : Int32)), _, rfl, ?_, ⟨_, rfl⟩, hW, hsame.mono (by decide) (by decide)⟩
        show Qwr0 Z x a kk z h0 n0 _ T5.heap _
        rw [e5]
        exact ⟨(congrArg (fun q => some (Value.int q)) (by rw [own_len_3 x hpos hc12_1 hc12_2 hc12_3]; decide)), N5, K5, (by rw [own_lst_0_3 x z hc12_1 hc12_2 hc12_3]; exact V5)⟩
      · refine og_ifNo (pc' := 15) X4 hx (hb hby d2_12) ((if0 _ _).trans (flt (fun q => hc12_3 ((lw_lt _ _).mp q))).1) rfl ?_
        refine og_aloadN (pc' := 16) X4 hx (hb hby d2_15) rfl rfl rfl ?_
        refine og_iload (pc' := 18) X4 hx (hb hby d2_16) rfl rfl ?_
        refine og_iinc (pc' := 21) (L' := #[.val (.long x), .second, .val (.ref a), .val (.int (0 : Int32)), .val (.long (own_s (own_s x))), .second, .val (.int ((2 : Int32) + (1 : Int32)))]) X4 hx (hb hby d2_18) rfl rfl rfl ?_
        rw [show ((2 : Int32) + (1 : Int32)) = (3 : Int32) from by decide]
        refine og_lload (pc' := 23) X4 hx (hb hby d2_21) rfl rfl ?_
        refine og_ldc2_w (pc' := 26) X4 hx (hb hby d2_23) hown (mvT hZ (hw _ (List.mem_of_getElem? (i := 11) rfl))) rfl ?_
        refine og_lor (pc' := 27) X4 hx (hb hby d2_26) rfl ?_
        refine og_l2i (pc' := 28) X4 hx (hb hby d2_27) rfl ?_
        refine og_i2b (pc' := 29) X4 hx (hb hby d2_28) rfl ?_
        obtain ⟨cl6, Ar6, q6, S6, M6, H6, G6⟩ := id V4
        have hin6 : ¬ ((2 : Int32) < 0 ∨ cl6.slots.size ≤ ((2 : Int32)).toNatClampNeg) := inb_of S6 ⟨by decide, by decide⟩
        obtain ⟨T6, h6, X6, e6, W6, st6⟩ := stB X4 hx hZ e4 Ar6 (j := (2 : Int32)) hin6 (g := (mkF m 29 #[.val (.long x), .second, .val (.ref a), .val (.int (0 : Int32)), .val (.long (own_s (own_s x))), .second, .val (.int (3 : Int32))] [(.int ((((own_s (own_s x)) ||| (128 : Int64)).toInt32).toInt8.toInt32)), (.int (2 : Int32)), (.ref a)])) rfl rfl (hb hby d2_29)
        have V6 : Arv Z h6 a kk .byte (14 : Int32) [(.int ((((x ||| (128 : Int64)).toInt32).toInt8.toInt32).toInt8.toInt32)), (.int (((((own_s x) ||| (128 : Int64)).toInt32).toInt8.toInt32).toInt8.toInt32)), (.int (((((own_s (own_s x)) ||| (128 : Int64)).toInt32).toInt8.toInt32).toInt8.toInt32)), (.int z), (.int z), (.int z), (.int z), (.int z), (.int z), (.int z), (.int z), (.int z), (.int z), (.int z)] (.int (0 : Int32)) := Arv.set Ar6 q6 S6 M6 H6 G6 (fits_nar_byte _) W6 2 rfl (Nat.le_of_ble_eq_true rfl)
        have K6 : Keep h0 h6 [a] := K4.wr W6 (Or.inl (List.mem_of_getElem? (i := 0) rfl))
        have Z6 : n0 ≤ h6.size := Nat.le_trans Z0 K6.1
        have N6 := Fr.snoc X6 N4 g_a
        obtain ⟨J6, X6, N6⟩ := own_hide X6 N6
        refine own_Go.of (g' := (mkF m 30 #[.val (.long x), .second, .val (.ref a), .val (.int (0 : Int32)), .val (.long (own_s (own_s x))), .second, .val (.int (3 : Int32))] [])) (fun t k => st6 _ k) ?_
        refine og_lload (pc' := 32) X6 hx (hb hby d2_30) rfl rfl ?_
        refine og_bipush (pc' := 34) (n := 7) X6 hx (hb hby d2_32) rfl rfl ?_
        refine own_Go.of (g' := (mkF m 35 #[.val (.long x), .second, .val (.ref a), .val (.int (0 : Int32)), .val (.long (own_s (own_s x))), .second, .val (.int (3 : Int32))] [(.long (own_s (own_s (own_s x))))])) (fun t k => XS.lushr X6.here hx rfl (hb hby d2_34) rfl k) ?_
        refine og_lstore (pc' := 37) (L' := #[.val (.long x), .second, .val (.ref a), .val (.int (0 : Int32)), .val (.long (own_s (own_s (own_s x)))), .second, .val (.int (3 : Int32))]) X6 hx (hb hby d2_35) rfl rfl ?_
        refine og_goto (pc' := 6) X6 hx (hb hby d2_37) (by decide) (by decide) ?_
        refine og_lload (pc' := 8) X6 hx (hb hby d2_6) rfl rfl ?_
        refine og_ldc2_w (pc' := 11) X6 hx (hb hby d2_8) hown (mvT hZ (hw _ (List.mem_of_getElem? (i := 11) rfl))) rfl ?_
        refine og_lcmp (pc' := 12) X6 hx (hb hby d2_11) rfl ?_
        by_cases hc12_4 : (own_s (own_s (own_s x))) < (128 : Int64)
        · refine og_ifYes (pc' := 40) X6 hx (hb hby d2_12) ((if0 _ _).trans (tlt ((lw_lt _ _).mpr hc12_4)).1) (by decide) (by decide) ?_
          refine og_aloadN (pc' := 41) X6 hx (hb hby d2_40) rfl rfl rfl ?_
          refine og_iload (pc' := 43) X6 hx (hb hby d2_41) rfl rfl ?_
          refine og_iinc (pc' := 46) (L' := #[.val (.long x), .second, .val (.ref a), .val (.int (0 : Int32)), .val (.long (own_s (own_s (own_s x)))), .second, .val (.int ((3 : Int32) + (1 : Int32)))]) X6 hx (hb hby d2_43) rfl rfl rfl ?_
          rw [show ((3 : Int32) + (1 : Int32)) = (4 : Int32) from by decide]
          refine og_lload (pc' := 48) X6 hx (hb hby d2_46) rfl rfl ?_
          refine og_l2i (pc' := 49) X6 hx (hb hby d2_48) rfl ?_
          refine og_i2b (pc' := 50) X6 hx (hb hby d2_49) rfl ?_
          obtain ⟨cl7, Ar7, q7, S7, M7, H7, G7⟩ := id V6
          have hin7 : ¬ ((3 : Int32) < 0 ∨ cl7.slots.size ≤ ((3 : Int32)).toNatClampNeg) := inb_of S7 ⟨by decide, by decide⟩
          obtain ⟨T7, h7, X7, e7, W7, st7⟩ := stB X6 hx hZ e6 Ar7 (j := (3 : Int32)) hin7 (g := (mkF m 50 #[.val (.long x), .second, .val (.ref a), .val (.int (0 : Int32)), .val (.long (own_s (own_s (own_s x)))), .second, .val (.int (4 : Int32))] [(.int (((own_s (own_s (own_s x))).toInt32).toInt8.toInt32)), (.int (3 : Int32)), (.ref a)])) rfl rfl (hb hby d2_50)
          have V7 : Arv Z h7 a kk .byte (14 : Int32) [(.int ((((x ||| (128 : Int64)).toInt32).toInt8.toInt32).toInt8.toInt32)), (.int (((((own_s x) ||| (128 : Int64)).toInt32).toInt8.toInt32).toInt8.toInt32)), (.int (((((own_s (own_s x)) ||| (128 : Int64)).toInt32).toInt8.toInt32).toInt8.toInt32)), (.int ((((own_s (own_s (own_s x))).toInt32).toInt8.toInt32).toInt8.toInt32)), (.int z), (.int z), (.int z), (.int z), (.int z), (.int z), (.int z), (.int z), (.int z), (.int z)] (.int (0 : Int32)) := Arv.set Ar7 q7 S7 M7 H7 G7 (fits_nar_byte _) W7 3 rfl (Nat.le_of_ble_eq_true rfl)
          have K7 : Keep h0 h7 [a] := K6.wr W7 (Or.inl (List.mem_of_getElem? (i := 0) rfl))
          have Z7 : n0 ≤ h7.size := Nat.le_trans Z0 K7.1
          have N7 := Fr.snoc X7 N6 g_a
          obtain ⟨J7, X7, N7⟩ := own_hide X7 N7
          refine own_Go.of (g' := (mkF m 51 #[.val (.long x), .second, .val (.ref a), .val (.int (0 : Int32)), .val (.long (own_s (own_s (own_s x)))), .second, .val (.int (4 : Int32))] [])) (fun t k => st7 _ k) ?_
          refine og_iload (pc' := 53) X7 hx (hb hby d2_51) rfl rfl ?_
          obtain ⟨fs, hr, hrun, hended, hW, hsame⟩ := X7.leave (v := some (.int (4 : Int32))) (fun h => by rw [Bd.returns] at h; cases h) (BodyLoose.notSynchronized Bd)
          refine ⟨_, _, retI X7 hx Bd.returns (hb hby d2_53) hr, hrun, hended, some (.int (4 : Int32)), _, rfl, ?_, ⟨_, rfl⟩, hW, hsame.mono (by decide) (by decide)⟩
          show Qwr0 Z x a kk z h0 n0 _ T7.heap _
          rw [e7]
          exact ⟨(congrArg (fun q => some (Value.int q)) (by rw [own_len_4 x hpos hc12_1 hc12_2 hc12_3 hc12_4]; decide)), N7, K7, (by rw [own_lst_0_4 x z hc12_1 hc12_2 hc12_3 hc12_4]; exact V7)⟩
        · refine og_ifNo (pc' := 15) X6 hx (hb hby d2_12) ((if0 _ _).trans (flt (fun q => hc12_4 ((lw_lt _ _).mp q))).1) rfl ?_
          refine og_aloadN (pc' := 16) X6 hx (hb hby d2_15) rfl rfl rfl ?_
          refine og_iload (pc' := 18) X6 hx (hb hby d2_16) rfl rfl ?_
          refine og_iinc (pc' := 21) (L' := #[.val (.long x), .second, .val (.ref a), .val (.int (0 : Int32)), .val (.long (own_s (own_s (own_s x)))), .second, .val (.int ((3 : Int32) + (1 : Int32)))]) X6 hx (hb hby d2_18) rfl rfl rfl ?_
          rw [show ((3 : Int32) + (1 : Int32)) = (4 : Int32) from by decide]
          refine og_lload (pc' := 23) X6 hx (hb hby d2_21) rfl rfl ?_
          refine og_ldc2_w (pc' := 26) X6 hx (hb hby d2_23) hown (mvT hZ (hw _ (List.mem_of_getElem? (i := 11) rfl))) rfl ?_
          refine og_lor (pc' := 27) X6 hx (hb hby d2_26) rfl ?_
          refine og_l2i (pc' := 28) X6 hx (hb hby d2_27) rfl ?_
          refine og_i2b (pc' := 29) X6 hx (hb hby d2_28) rfl ?_
          obtain ⟨cl8, Ar8, q8, S8, M8, H8, G8⟩ := id V6
          have hin8 : ¬ ((3 : Int32) < 0 ∨ cl8.slots.size ≤ ((3 : Int32)).toNatClampNeg) := inb_of S8 ⟨by decide, by decide⟩
          obtain ⟨T8, h8, X8, e8, W8, st8⟩ := stB X6 hx hZ e6 Ar8 (j := (3 : Int32)) hin8 (g := (mkF m 29 #[.val (.long x), .second, .val (.ref a), .val (.int (0 : Int32)), .val (.long (own_s (own_s (own_s x)))), .second, .val (.int (4 : Int32))] [(.int ((((own_s (own_s (own_s x))) ||| (128 : Int64)).toInt32).toInt8.toInt32)), (.int (3 : Int32)), (.ref a)])) rfl rfl (hb hby d2_29)
          have V8 : Arv Z h8 a kk .byte (14 : Int32) [(.int ((((x ||| (128 : Int64)).toInt32).toInt8.toInt32).toInt8.toInt32)), (.int (((((own_s x) ||| (128 : Int64)).toInt32).toInt8.toInt32).toInt8.toInt32)), (.int (((((own_s (own_s x)) ||| (128 : Int64)).toInt32).toInt8.toInt32).toInt8.toInt32)), (.int (((((own_s (own_s (own_s x))) ||| (128 : Int64)).toInt32).toInt8.toInt32).toInt8.toInt32)), (.int z), (.int z), (.int z), (.int z), (.int z), (.int z), (.int z), (.int z), (.int z), (.int z)] (.int (0 : Int32)) := Arv.set Ar8 q8 S8 M8 H8 G8 (fits_nar_byte _) W8 3 rfl (Nat.le_of_ble_eq_true rfl)
          have K8 : Keep h0 h8 [a] := K6.wr W8 (Or.inl (List.mem_of_getElem? (i := 0) rfl))
          have Z8 : n0 ≤ h8.size := Nat.le_trans Z0 K8.1
          have N8 := Fr.snoc X8 N6 g_a
          obtain ⟨J8, X8, N8⟩ := own_hide X8 N8
          refine own_Go.of (g' := (mkF m 30 #[.val (.long x), .second, .val (.ref a), .val (.int (0 : Int32)), .val (.long (own_s (own_s (own_s x)))), .second, .val (.int (4 : Int32))] [])) (fun t k => st8 _ k) ?_
          refine og_lload (pc' := 32) X8 hx (hb hby d2_30) rfl rfl ?_
          refine og_bipush (pc' := 34) (n := 7) X8 hx (hb hby d2_32) rfl rfl ?_
          refine own_Go.of (g' := (mkF m 35 #[.val (.long x), .second, .val (.ref a), .val (.int (0 : Int32)), .val (.long (own_s (own_s (own_s x)))), .second, .val (.int (4 : Int32))] [(.long (own_s (own_s (own_s (own_s x)))))])) (fun t k => XS.lushr X8.here hx rfl (hb hby d2_34) rfl k) ?_
          refine og_lstore (pc' := 37) (L' := #[.val (.long x), .second, .val (.ref a), .val (.int (0 : Int32)), .val (.long (own_s (own_s (own_s (own_s x))))), .second, .val (.int (4 : Int32))]) X8 hx (hb hby d2_35) rfl rfl ?_
          refine og_goto (pc' := 6) X8 hx (hb hby d2_37) (by decide) (by decide) ?_
          refine og_lload (pc' := 8) X8 hx (hb hby d2_6) rfl rfl ?_
          refine og_ldc2_w (pc' := 11) X8 hx (hb hby d2_8) hown (mvT hZ (hw _ (List.mem_of_getElem? (i := 11) rfl))) rfl ?_
          refine og_lcmp (pc' := 12) X8 hx (hb hby d2_11) rfl ?_
          by_cases hc12_5 : (own_s (own_s (own_s (own_s x)))) < (128 : Int64)
          · refine og_ifYes (pc' := 40) X8 hx (hb hby d2_12) ((if0 _ _).trans (tlt ((lw_lt _ _).mpr hc12_5)).1) (by decide) (by decide) ?_
            refine og_aloadN (pc' := 41) X8 hx (hb hby d2_40) rfl rfl rfl ?_
            refine og_iload (pc' := 43) X8 hx (hb hby d2_41) rfl rfl ?_
            refine og_iinc (pc' := 46) (L' := #[.val (.long x), .second, .val (.ref a), .val (.int (0 : Int32)), .val (.long (own_s (own_s (own_s (own_s x))))), .second, .val (.int ((4 : Int32) + (1 : Int32)))]) X8 hx (hb hby d2_43) rfl rfl rfl ?_
            rw [show ((4 : Int32) + (1 : Int32)) = (5 : Int32) from by decide]
            refine og_lload (pc' := 48) X8 hx (hb hby d2_46) rfl rfl ?_
            refine og_l2i (pc' := 49) X8 hx (hb hby d2_48) rfl ?_
            refine og_i2b (pc' := 50) X8 hx (hb hby d2_49) rfl ?_
            obtain ⟨cl9, Ar9, q9, S9, M9, H9, G9⟩ := id V8
            have hin9 : ¬ ((4 : Int32) < 0 ∨ cl9.slots.size ≤ ((4 : Int32)).toNatClampNeg) := inb_of S9 ⟨by decide, by decide⟩
            obtain ⟨T9, h9, X9, e9, W9, st9⟩ := stB X8 hx hZ e8 Ar9 (j := (4 : Int32)) hin9 (g := (mkF m 50 #[.val (.long x), .second, .val (.ref a), .val (.int (0 : Int32)), .val (.long (own_s (own_s (own_s (own_s x))))), .second, .val (.int (5 : Int32))] [(.int (((own_s (own_s (own_s (own_s x)))).toInt32).toInt8.toInt32)), (.int (4 : Int32)), (.ref a)])) rfl rfl (hb hby d2_50)
            have V9 : Arv Z h9 a kk .byte (14 : Int32) [(.int ((((x ||| (128 : Int64)).toInt32).toInt8.toInt32).toInt8.toInt32)), (.int (((((own_s x) ||| (128 : Int64)).toInt32).toInt8.toInt32).toInt8.toInt32)), (.int (((((own_s (own_s x)) ||| (128 : Int64)).toInt32).toInt8.toInt32).toInt8.toInt32)), (.int (((((own_s (own_s (own_s x))) ||| (128 : Int64)).toInt32).toInt8.toInt32).toInt8.toInt32)), (.int ((((own_s (own_s (own_s (own_s x)))).toInt32).toInt8.toInt32).toInt8.toInt32)), (.int z), (.int z), (.int z), (.int z), (.int z), (.int z), (.int z), (.int z), (.int z)] (.int (0 : Int32)) := Arv.set Ar9 q9 S9 M9 H9 G9 (fits_nar_byte _) W9 4 rfl (Nat.le_of_ble_eq_true rfl)
            have K9 : Keep h0 h9 [a] := K8.wr W9 (Or.inl (List.mem_of_getElem? (i := 0) rfl))
            have Z9 : n0 ≤ h9.size := Nat.le_trans Z0 K9.1
            have N9 := Fr.snoc X9 N8 g_a
            obtain ⟨J9, X9, N9⟩ := own_hide X9 N9
            refine own_Go.of (g' := (mkF m 51 #[.val (.long x), .second, .val (.ref a), .val (.int (0 : Int32)), .val (.long (own_s (own_s (own_s (own_s x))))), .second, .val (.int (5 : Int32))] [])) (fun t k => st9 _ k) ?_
            refine og_iload (pc' := 53) X9 hx (hb hby d2_51) rfl rfl ?_
            obtain ⟨fs, hr, hrun, hended, hW, hsame⟩ := X9.leave (v := some (.int (5 : Int32))) (fun h => by rw [Bd.returns] at h; cases h) (BodyLoose.notSynchronized Bd)
            refine ⟨_, _, retI X9 hx Bd.returns (hb hby d2_53) hr, hrun, hended, some (.int (5 : Int32)), _, rfl, ?_, ⟨_, rfl⟩, hW, hsame.mono (by decide) (by decide)⟩
            show Qwr0 Z x a kk z h0 n0 _ T9.heap _
            rw [e9]
            exact ⟨(congrArg (fun q => some (Value.int q)) (by rw [own_len_5 x hpos hc12_1 hc12_2 hc12_3 hc12_4 hc12_5]; decide)), N9, K9, (by rw [own_lst_0_5 x z hc12_1 hc12_2 hc12_3 hc12_4 hc12_5]; exact V9)⟩
          · refine og_ifNo (pc' := 15) X8 hx (hb hby d2_12) ((if0 _ _).trans (flt (fun q => hc12_5 ((lw_lt _ _).mp q))).1) rfl ?_
            refine og_aloadN (pc' := 16) X8 hx (hb hby d2_15) rfl rfl rfl ?_
            refine og_iload (pc' := 18) X8 hx (hb hby d2_16) rfl rfl ?_
            refine og_iinc (pc' := 21) (L' := #[.val (.long x), .second, .val (.ref a), .val (.int (0 : Int32)), .val (.long (own_s (own_s (own_s (own_s x))))), .second, .val (.int ((4 : Int32) + (1 : Int32)))]) X8 hx (hb hby d2_18) rfl rfl rfl ?_
            rw [show ((4 : Int32) + (1 : Int32)) = (5 : Int32) from by decide]
            refine og_lload (pc' := 23) X8 hx (hb hby d2_21) rfl rfl ?_
            refine og_ldc2_w (pc' := 26) X8 hx (hb hby d2_23) hown (mvT hZ (hw _ (List.mem_of_getElem? (i := 11) rfl))) rfl ?_
            refine og_lor (pc' := 27) X8 hx (hb hby d2_26) rfl ?_
            refine og_l2i (pc' := 28) X8 hx (hb hby d2_27) rfl ?_
            refine og_i2b (pc' := 29) X8 hx (hb hby d2_28) rfl ?_
            obtain ⟨cl10, Ar10, q10, S10, M10, H10, G10⟩ := id V8
            have hin10 : ¬ ((4 : Int32) < 0 ∨ cl10.slots.size ≤ ((4 : Int32)).toNatClampNeg) := inb_of S10 ⟨by decide, by decide⟩
            obtain ⟨T10, h10, X10, e10, W10, st10⟩ := stB X8 hx hZ e8 Ar10 (j := (4 : Int32)) hin10 (g := (mkF m 29 #[.val (.long x), .second, .val (.ref a), .val (.int (0 : Int32)), .val (.long (own_s (own_s (own_s (own_s x))))), .second, .val (.int (5 : Int32))] [(.int ((((own_s (own_s (own_s (own_s x)))) ||| (128 : Int64)).toInt32).toInt8.toInt32)), (.int (4 : Int32)), (.ref a)])) rfl rfl (hb hby d2_29)
            have V10 : Arv Z h10 a kk .byte (14 : Int32) [(.int ((((x ||| (128 : Int64)).toInt32).toInt8.toInt32).toInt8.toInt32)), (.int (((((own_s x) ||| (128 : Int64)).toInt32).toInt8.toInt32).toInt8.toInt32)), (.int (((((own_s (own_s x)) ||| (128 : Int64)).toInt32).toInt8.toInt32).toInt8.toInt32)), (.int (((((own_s (own_s (own_s x))) ||| (128 : Int64)).toInt32).toInt8.toInt32).toInt8.toInt32)), (.int (((((own_s (own_s (own_s (own_s x)))) ||| (128 : Int64)).toInt32).toInt8.toInt32).toInt8.toInt32)), (.int z), (.int z), (.int z), (.int z), (.int z), (.int z), (.int z), (.int z), (.int z)] (.int (0 : Int32)) := Arv.set Ar10 q10 S10 M10 H10 G10 (fits_nar_byte _) W10 4 rfl (Nat.le_of_ble_eq_true rfl)
            have K10 : Keep h0 h10 [a] := K8.wr W10 (Or.inl (List.mem_of_getElem? (i := 0) rfl))
            have Z10 : n0 ≤ h10.size := Nat.le_trans Z0 K10.1
            have N10 := Fr.snoc X10 N8 g_a
            obtain ⟨J10, X10, N10⟩ := own_hide X10 N10
            refine own_Go.of (g' := (mkF m 30 #[.val (.long x), .second, .val (.ref a), .val (.int (0 : Int32)), .val (.long (own_s (own_s (own_s (own_s x))))), .second, .val (.int (5 : Int32))] [])) (fun t k => st10 _ k) ?_
            refine og_lload (pc' := 32) X10 hx (hb hby d2_30) rfl rfl ?_
            refine og_bipush (pc' := 34) (n := 7) X10 hx (hb hby d2_32) rfl rfl ?_
            refine own_Go.of (g' := (mkF m 35 #[.val (.long x), .second, .val (.ref a), .val (.int (0 : Int32)), .val (.long (own_s (own_s (own_s (own_s x))))), .second, .val (.int (5 : Int32))] [(.long (own_s (own_s (own_s (own_s (own_s x))))))])) (fun t k => XS.lushr X10.here hx rfl (hb hby d2_34) rfl k) ?_
            refine og_lstore (pc' := 37) (L' := #[.val (.long x), .second, .val (.ref a), .val (.int (0 : Int32)), .val (.long (own_s (own_s (own_s (own_s (own_s x)))))), .second, .val (.int (5 : Int32))]) X10 hx (hb hby d2_35) rfl rfl ?_
            refine og_goto (pc' := 6) X10 hx (hb hby d2_37) (by decide) (by decide) ?_
            refine og_lload (pc' := 8) X10 hx (hb hby d2_6) rfl rfl ?_
            refine og_ldc2_w (pc' := 11) X10 hx (hb hby d2_8) hown (mvT hZ (hw _ (List.mem_of_getElem? (i := 11) rfl))) rfl ?_
            refine og_lcmp (pc' := 12) X10 hx (hb hby d2_11) rfl ?_
            by_cases hc12_6 : (own_s (own_s (own_s (own_s (own_s x))))) < (128 : Int64)
            · refine og_ifYes (pc' := 40) X10 hx (hb hby d2_12) ((if0 _ _).trans (tlt ((lw_lt _ _).mpr hc12_6)).1) (by decide) (by decide) ?_
              refine og_aloadN (pc' := 41) X10 hx (hb hby d2_40) rfl rfl rfl ?_
              refine og_iload (pc' := 43) X10 hx (hb hby d2_41) rfl rfl ?_
              refine og_iinc (pc' := 46) (L' := #[.val (.long x), .second, .val (.ref a), .val (.int (0 : Int32)), .val (.long (own_s (own_s (own_s (own_s (own_s x)))))), .second, .val (.int ((5 : Int32) + (1 : Int32)))]) X10 hx (hb hby d2_43) rfl rfl rfl ?_
              rw [show ((5 : Int32) + (1 : Int32)) = (6 : Int32) from by decide]
              refine og_lload (pc' := 48) X10 hx (hb hby d2_46) rfl rfl ?_
              refine og_l2i (pc' := 49) X10 hx (hb hby d2_48) rfl ?_
              refine og_i2b (pc' := 50) X10 hx (hb hby d2_49) rfl ?_
              obtain ⟨cl11, Ar11, q11, S11, M11, H11, G11⟩ := id V10
              have hin11 : ¬ ((5 : Int32) < 0 ∨ cl11.slots.size ≤ ((5 : Int32)).toNatClampNeg) := inb_of S11 ⟨by decide, by decide⟩
              obtain ⟨T11, h11, X11, e11, W11, st11⟩ := stB X10 hx hZ e10 Ar11 (j := (5 : Int32)) hin11 (g := (mkF m 50 #[.val (.long x), .second, .val (.ref a), .val (.int (0 : Int32)), .val (.long (own_s (own_s (own_s (own_s (own_s x)))))), .second, .val (.int (6 : Int32))] [(.int (((own_s (own_s (own_s (own_s (own_s x))))).toInt32).toInt8.toInt32)), (.int (5 : Int32)), (.ref a)])) rfl rfl (hb hby d2_50)
              have V11 : Arv Z h11 a kk .byte (14 : Int32) [(.int ((((x ||| (128 : Int64)).toInt32).toInt8.toInt32).toInt8.toInt32)), (.int (((((own_s x) ||| (128 : Int64)).toInt32).toInt8.toInt32).toInt8.toInt32)), (.int (((((own_s (own_s x)) ||| (128 : Int64)).toInt32).toInt8.toInt32).toInt8.toInt32)), (.int (((((own_s (own_s (own_s x))) ||| (128 : Int64)).toInt32).toInt8.toInt32).toInt8.toInt32)), (.int (((((own_s (own_s (own_s (own_s x)))) ||| (128 : Int64)).toInt32).toInt8.toInt32).toInt8.toInt32)), (.int ((((own_s (own_s (own_s (own_s (own_s x))))).toInt32).toInt8.toInt32).toInt8.toInt32)), (.int z), (.int z), (.int z), (.int z), (.int z), (.int z), (.int z), (.int z)] (.int (0 : Int32)) := Arv.set Ar11 q11 S11 M11 H11 G11 (fits_nar_byte _) W11 5 rfl (Nat.le_of_ble_eq_true rfl)
              have K11 : Keep h0 h11 [a] := K10.wr W11 (Or.inl (List.mem_of_getElem? (i := 0) rfl))
              have Z11 : n0 ≤ h11.size := Nat.le_trans Z0 K11.1
              have N11 := Fr.snoc X11 N10 g_a
              obtain ⟨J11, X11, N11⟩ := own_hide X11 N11
              refine own_Go.of (g' := (mkF m 51 #[.val (.long x), .second, .val (.ref a), .val (.int (0 : Int32)), .val (.long (own_s (own_s (own_s (own_s (own_s x)))))), .second, .val (.int (6 : Int32))] [])) (fun t k => st11 _ k) ?_
              refine og_iload (pc' := 53) X11 hx (hb hby d2_51) rfl rfl ?_
              obtain ⟨fs, hr, hrun, hended, hW, hsame⟩ := X11.leave (v := some (.int (6 : Int32))) (fun h => by rw [Bd.returns] at h; cases h) (BodyLoose.notSynchronized Bd)
              refine ⟨_, _, retI X11 hx Bd.returns (hb hby d2_53) hr, hrun, hended, some (.int (6 : Int32)), _, rfl, ?_, ⟨_, rfl⟩, hW, hsame.mono (by decide) (by decide)⟩
              show Qwr0 Z x a kk z h0 n0 _ T11.heap _
              rw [e11]
              exact ⟨(congrArg (fun q => some (Value.int q)) (by rw [own_len_6 x hpos hc12_1 hc12_2 hc12_3 hc12_4 hc12_5 hc12_6]; decide)), N11, K11, (by rw [own_lst_0_6 x z hc12_1 hc12_2 hc12_3 hc12_4 hc12_5 hc12_6]; exact V11)⟩
            · refine og_ifNo (pc' := 15) X10 hx (hb hby d2_12) ((if0 _ _).trans (flt (fun q => hc12_6 ((lw_lt _ _).mp q))).1) rfl ?_
              refine og_aloadN (pc' := 16) X10 hx (hb hby d2_15) rfl rfl rfl ?_
              refine og_iload (pc' := 18) X10 hx (hb hby d2_16) rfl rfl ?_
              refine og_iinc (pc' := 21) (L' := #[.val (.long x), .second, .val (.ref a), .val (.int (0 : Int32)), .val (.long (own_s (own_s (own_s (own_s (own_s x)))))), .second, .val (.int ((5 : Int32) + (1 : Int32)))]) X10 hx (hb hby d2_18) rfl rfl rfl ?_
              rw [show ((5 : Int32) + (1 : Int32)) = (6 : Int32) from by decide]
              refine og_lload (pc' := 23) X10 hx (hb hby d2_21) rfl rfl ?_
              refine og_ldc2_w (pc' := 26) X10 hx (hb hby d2_23) hown (mvT hZ (hw _ (List.mem_of_getElem? (i := 11) rfl))) rfl ?_
              refine og_lor (pc' := 27) X10 hx (hb hby d2_26) rfl ?_
              refine og_l2i (pc' := 28) X10 hx (hb hby d2_27) rfl ?_
              refine og_i2b (pc' := 29) X10 hx (hb hby d2_28) rfl ?_
              obtain ⟨cl12, Ar12, q12, S12, M12, H12, G12⟩ := id V10
              have hin12 : ¬ ((5 : Int32) < 0 ∨ cl12.slots.size ≤ ((5 : Int32)).toNatClampNeg) := inb_of S12 ⟨by decide, by decide⟩
              obtain ⟨T12, h12, X12, e12, W12, st12⟩ := stB X10 hx hZ e10 Ar12 (j := (5 : Int32)) hin12 (g := (mkF m 29 #[.val (.long x), .second, .val (.ref a), .val (.int (0 : Int32)), .val (.long (own_s (own_s (own_s (own_s (own_s x)))))), .second, .val (.int (6 : Int32))] [(.int ((((own_s (own_s (own_s (own_s (own_s x))))) ||| (128 : Int64)).toInt32).toInt8.toInt32)), (.int (5 : Int32)), (.ref a)])) rfl rfl (hb hby d2_29)
              have V12 : Arv Z h12 a kk .byte (14 : Int32) [(.int ((((x ||| (128 : Int64)).toInt32).toInt8.toInt32).toInt8.toInt32)), (.int (((((own_s x) ||| (128 : Int64)).toInt32).toInt8.toInt32).toInt8.toInt32)), (.int (((((own_s (own_s x)) ||| (128 : Int64)).toInt32).toInt8.toInt32).toInt8.toInt32)), (.int (((((own_s (own_s (own_s x))) ||| (128 : Int64)).toInt32).toInt8.toInt32).toInt8.toInt32)), (.int (((((own_s (own_s (own_s (own_s x)))) ||| (128 : Int64)).toInt32).toInt8.toInt32).toInt8.toInt32)), (.int (((((own_s (own_s (own_s (own_s (own_s x))))) ||| (128 : Int64)).toInt32).toInt8.toInt32).toInt8.toInt32)), (.int z), (.int z), (.int z), (.int z), (.int z), (.int z), (.int z), (.int z)] (.int (0 : Int32)) := Arv.set Ar12 q12 S12 M12 H12 G12 (fits_nar_byte _) W12 5 rfl (Nat.le_of_ble_eq_true rfl)
              have K12 : Keep h0 h12 [a] := K10.wr W12 (Or.inl (List.mem_of_getElem? (i := 0) rfl))
              have Z12 : n0 ≤ h12.size := Nat.le_trans Z0 K12.1
              have N12 := Fr.snoc X12 N10 g_a
              obtain ⟨J12, X12, N12⟩ := own_hide X12 N12
              refine own_Go.of (g' := (mkF m 30 #[.val (.long x), .second, .val (.ref a), .val (.int (0 : Int32)), .val (.long (own_s (own_s (own_s (own_s (own_s x)))))), .second, .val (.int (6 : Int32))] [])) (fun t k => st12 _ k) ?_
              refine og_lload (pc' := 32) X12 hx (hb hby d2_30) rfl rfl ?_
              refine og_bipush (pc' := 34) (n := 7) X12 hx (hb hby d2_32) rfl rfl ?_
              refine own_Go.of (g' := (mkF m 35 #[.val (.long x), .second, .val (.ref a), .val (.int (0 : Int32)), .val (.long (own_s (own_s (own_s (own_s (own_s x)))))), .second, .val (.int (6 : Int32))] [(.long (own_s (own_s (own_s (own_s (own_s (own_s x)))))))])) (fun t k => XS.lushr X12.here hx rfl (hb hby d2_34) rfl k) ?_
              refine og_lstore (pc' := 37) (L' := #[.val (.long x), .second, .val (.ref a), .val (.int (0 : Int32)), .val (.long (own_s (own_s (own_s (own_s (own_s (own_s x))))))), .second, .val (.int (6 : Int32))]) X12 hx (hb hby d2_35) rfl rfl ?_
              refine og_goto (pc' := 6) X12 hx (hb hby d2_37) (by decide) (by decide) ?_
              refine og_lload (pc' := 8) X12 hx (hb hby d2_6) rfl rfl ?_
              refine og_ldc2_w (pc' := 11) X12 hx (hb hby d2_8) hown (mvT hZ (hw _ (List.mem_of_getElem? (i := 11) rfl))) rfl ?_
              refine og_lcmp (pc' := 12) X12 hx (hb hby d2_11) rfl ?_
              by_cases hc12_7 : (own_s (own_s (own_s (own_s (own_s (own_s x)))))) < (128 : Int64)
              · refine og_ifYes (pc' := 40) X12 hx (hb hby d2_12) ((if0 _ _).trans (tlt ((lw_lt _ _).mpr hc12_7)).1) (by decide) (by decide) ?_
                refine og_aloadN (pc' := 41) X12 hx (hb hby d2_40) rfl rfl rfl ?_
                refine og_iload (pc' := 43) X12 hx (hb hby d2_41) rfl rfl ?_
                refine og_iinc (pc' := 46) (L' := #[.val (.long x), .second, .val (.ref a), .val (.int (0 : Int32)), .val (.long (own_s (own_s (own_s (own_s (own_s (own_s x))))))), .second, .val (.int ((6 : Int32) + (1 : Int32)))]) X12 hx (hb hby d2_43) rfl rfl rfl ?_
                rw [show ((6 : Int32) + (1 : Int32)) = (7 : Int32) from by decide]
                refine og_lload (pc' := 48) X12 hx (hb hby d2_46) rfl rfl ?_
                refine og_l2i (pc' := 49) X12 hx (hb hby d2_48) rfl ?_
                refine og_i2b (pc' := 50) X12 hx (hb hby d2_49) rfl ?_
                obtain ⟨cl13, Ar13, q13, S13, M13, H13, G13⟩ := id V12
                have hin13 : ¬ ((6 : Int32) < 0 ∨ cl13.slots.size ≤ ((6 : Int32)).toNatClampNeg) := inb_of S13 ⟨by decide, by decide⟩
                obtain ⟨T13, h13, X13, e13, W13, st13⟩ := stB X12 hx hZ e12 Ar13 (j := (6 : Int32)) hin13 (g := (mkF m 50 #[.val (.long x), .second, .val (.ref a), .val (.int (0 : Int32)), .val (.long (own_s (own_s (own_s (own_s (own_s (own_s x))))))), .second, .val (.int (7 : Int32))] [(.int (((own_s (own_s (own_s (own_s (own_s (own_s x)))))).toInt32).toInt8.toInt32)), (.int (6 : Int32)), (.ref a)])) rfl rfl (hb hby d2_50)
                have V13 : Arv Z h13 a kk .byte (14 : Int32) [(.int ((((x ||| (128 : Int64)).toInt32).toInt8.toInt32).toInt8.toInt32)), (.int (((((own_s x) ||| (128 : Int64)).toInt32).toInt8.toInt32).toInt8.toInt32)), (.int (((((own_s (own_s x)) ||| (128 : Int64)).toInt32).toInt8.toInt32).toInt8.toInt32)), (.int (((((own_s (own_s (own_s x))) ||| (128 : Int64)).toInt32).toInt8.toInt32).toInt8.toInt32)), (.int (((((own_s (own_s (own_s (own_s x)))) ||| (128 : Int64)).toInt32).toInt8.toInt32).toInt8.toInt32)), (.int (((((own_s (own_s (own_s (own_s (own_s x))))) ||| (128 : Int64)).toInt32).toInt8.toInt32).toInt8.toInt32)), (.int ((((own_s (own_s (own_s (own_s (own_s (own_s x)))))).toInt32).toInt8.toInt32).toInt8.toInt32)), (.int z), (.int z), (.int z), (.int z), (.int z), (.int z), (.int z)] (.int (0 : Int32)) := Arv.set Ar13 q13 S13 M13 H13 G13 (fits_nar_byte _) W13 6 rfl (Nat.le_of_ble_eq_true rfl)
                have K13 : Keep h0 h13 [a] := K12.wr W13 (Or.inl (List.mem_of_getElem? (i := 0) rfl))
                have Z13 : n0 ≤ h13.size := Nat.le_trans Z0 K13.1
                have N13 := Fr.snoc X13 N12 g_a
                obtain ⟨J13, X13, N13⟩ := own_hide X13 N13
                refine own_Go.of (g' := (mkF m 51 #[.val (.long x), .second, .val (.ref a), .val (.int (0 : Int32)), .val (.long (own_s (own_s (own_s (own_s (own_s (own_s x))))))), .second, .val (.int (7 : Int32))] [])) (fun t k => st13 _ k) ?_
                refine og_iload (pc' := 53) X13 hx (hb hby d2_51) rfl rfl ?_
                obtain ⟨fs, hr, hrun, hended, hW, hsame⟩ := X13.leave (v := some (.int (7 : Int32))) (fun h => by rw [Bd.returns] at h; cases h) (BodyLoose.notSynchronized Bd)
                refine ⟨_, _, retI X13 hx Bd.returns (hb hby d2_53) hr, hrun, hended, some (.int (7 : Int32)), _, rfl, ?_, ⟨_, rfl⟩, hW, hsame.mono (by decide) (by decide)⟩
                show Qwr0 Z x a kk z h0 n0 _ T13.heap _
                rw [e13]
                exact ⟨(congrArg (fun q => some (Value.int q)) (by rw [own_len_7 x hpos hc12_1 hc12_2 hc12_3 hc12_4 hc12_5 hc12_6 hc12_7]; decide)), N13, K13, (by rw [own_lst_0_7 x z hc12_1 hc12_2 hc12_3 hc12_4 hc12_5 hc12_6 hc12_7]; exact V13)⟩
              · refine og_ifNo (pc' := 15) X12 hx (hb hby d2_12) ((if0 _ _).trans (flt (fun q => hc12_7 ((lw_lt _ _).mp q))).1) rfl ?_
                refine og_aloadN (pc' := 16) X12 hx (hb hby d2_15) rfl rfl rfl ?_
                refine og_iload (pc' := 18) X12 hx (hb hby d2_16) rfl rfl ?_
                refine og_iinc (pc' := 21) (L' := #[.val (.long x), .second, .val (.ref a), .val (.int (0 : Int32)), .val (.long (own_s (own_s (own_s (own_s (own_s (own_s x))))))), .second, .val (.int ((6 : Int32) + (1 : Int32)))]) X12 hx (hb hby d2_18) rfl rfl rfl ?_
                rw [show ((6 : Int32) + (1 : Int32)) = (7 : Int32) from by decide]
                refine og_lload (pc' := 23) X12 hx (hb hby d2_21) rfl rfl ?_
                refine og_ldc2_w (pc' := 26) X12 hx (hb hby d2_23) hown (mvT hZ (hw _ (List.mem_of_getElem? (i := 11) rfl))) rfl ?_
                refine og_lor (pc' := 27) X12 hx (hb hby d2_26) rfl ?_
                refine og_l2i (pc' := 28) X12 hx (hb hby d2_27) rfl ?_
                refine og_i2b (pc' := 29) X12 hx (hb hby d2_28) rfl ?_
                obtain ⟨cl14, Ar14, q14, S14, M14, H14, G14⟩ := id V12
                have hin14 : ¬ ((6 : Int32) < 0 ∨ cl14.slots.size ≤ ((6 : Int32)).toNatClampNeg) := inb_of S14 ⟨by decide, by decide⟩
                obtain ⟨T14, h14, X14, e14, W14, st14⟩ := stB X12 hx hZ e12 Ar14 (j := (6 : Int32)) hin14 (g := (mkF m 29 #[.val (.long x), .second, .val (.ref a), .val (.int (0 : Int32)), .val (.long (own_s (own_s (own_s (own_s (own_s (own_s x))))))), .second, .val (.int (7 : Int32))] [(.int ((((own_s (own_s (own_s (own_s (own_s (own_s x)))))) ||| (128 : Int64)).toInt32).toInt8.toInt32)), (.int (6 : Int32)), (.ref a)])) rfl rfl (hb hby d2_29)
                have V14 : Arv Z h14 a kk .byte (14 : Int32) [(.int ((((x ||| (128 : Int64)).toInt32).toInt8.toInt32).toInt8.toInt32)), (.int (((((own_s x) ||| (128 : Int64)).toInt32).toInt8.toInt32).toInt8.toInt32)), (.int (((((own_s (own_s x)) ||| (128 : Int64)).toInt32).toInt8.toInt32).toInt8.toInt32)), (.int (((((own_s (own_s (own_s x))) ||| (128 : Int64)).toInt32).toInt8.toInt32).toInt8.toInt32)), (.int (((((own_s (own_s (own_s (own_s x)))) ||| (128 : Int64)).toInt32).toInt8.toInt32).toInt8.toInt32)), (.int (((((own_s (own_s (own_s (own_s (own_s x))))) ||| (128 : Int64)).toInt32).toInt8.toInt32).toInt8.toInt32)), (.int (((((own_s (own_s (own_s (own_s (own_s (own_s x)))))) ||| (128 : Int64)).toInt32).toInt8.toInt32).toInt8.toInt32)), (.int z), (.int z), (.int z), (.int z), (.int z), (.int z), (.int z)] (.int (0 : Int32)) := Arv.set Ar14 q14 S14 M14 H14 G14 (fits_nar_byte _) W14 6 rfl (Nat.le_of_ble_eq_true rfl)
                have K14 : Keep h0 h14 [a] := K12.wr W14 (Or.inl (List.mem_of_getElem? (i := 0) rfl))
                have Z14 : n0 ≤ h14.size := Nat.le_trans Z0 K14.1
                have N14 := Fr.snoc X14 N12 g_a
                obtain ⟨J14, X14, N14⟩ := own_hide X14 N14
                refine own_Go.of (g' := (mkF m 30 #[.val (.long x), .second, .val (.ref a), .val (.int (0 : Int32)), .val (.long (own_s (own_s (own_s (own_s (own_s (own_s x))))))), .second, .val (.int (7 : Int32))] [])) (fun t k => st14 _ k) ?_
                refine og_lload (pc' := 32) X14 hx (hb hby d2_30) rfl rfl ?_
                refine og_bipush (pc' := 34) (n := 7) X14 hx (hb hby d2_32) rfl rfl ?_
                refine own_Go.of (g' := (mkF m 35 #[.val (.long x), .second, .val (.ref a), .val (.int (0 : Int32)), .val (.long (own_s (own_s (own_s (own_s (own_s (own_s x))))))), .second, .val (.int (7 : Int32))] [(.long (own_s (own_s (own_s (own_s (own_s (own_s (own_s x))))))))])) (fun t k => XS.lushr X14.here hx rfl (hb hby d2_34) rfl k) ?_
                refine og_lstore (pc' := 37) (L' := #[.val (.long x), .second, .val (.ref a), .val (.int (0 : Int32)), .val (.long (own_s (own_s (own_s (own_s (own_s (own_s (own_s x)))))))), .second, .val (.int (7 : Int32))]) X14 hx (hb hby d2_35) rfl rfl ?_
                refine og_goto (pc' := 6) X14 hx (hb hby d2_37) (by decide) (by decide) ?_
                refine og_lload (pc' := 8) X14 hx (hb hby d2_6) rfl rfl ?_
                refine og_ldc2_w (pc' := 11) X14 hx (hb hby d2_8) hown (mvT hZ (hw _ (List.mem_of_getElem? (i := 11) rfl))) rfl ?_
                refine og_lcmp (pc' := 12) X14 hx (hb hby d2_11) rfl ?_
                by_cases hc12_8 : (own_s (own_s (own_s (own_s (own_s (own_s (own_s x))))))) < (128 : Int64)
                · refine og_ifYes (pc' := 40) X14 hx (hb hby d2_12) ((if0 _ _).trans (tlt ((lw_lt _ _).mpr hc12_8)).1) (by decide) (by decide) ?_
                  refine og_aloadN (pc' := 41) X14 hx (hb hby d2_40) rfl rfl rfl ?_
                  refine og_iload (pc' := 43) X14 hx (hb hby d2_41) rfl rfl ?_
                  refine og_iinc (pc' := 46) (L' := #[.val (.long x), .second, .val (.ref a), .val (.int (0 : Int32)), .val (.long (own_s (own_s (own_s (own_s (own_s (own_s (own_s x)))))))), .second, .val (.int ((7 : Int32) + (1 : Int32)))]) X14 hx (hb hby d2_43) rfl rfl rfl ?_
                  rw [show ((7 : Int32) + (1 : Int32)) = (8 : Int32) from by decide]
                  refine og_lload (pc' := 48) X14 hx (hb hby d2_46) rfl rfl ?_
                  refine og_l2i (pc' := 49) X14 hx (hb hby d2_48) rfl ?_
                  refine og_i2b (pc' := 50) X14 hx (hb hby d2_49) rfl ?_
                  obtain ⟨cl15, Ar15, q15, S15, M15, H15, G15⟩ := id V14
                  have hin15 : ¬ ((7 : Int32) < 0 ∨ cl15.slots.size ≤ ((7 : Int32)).toNatClampNeg) := inb_of S15 ⟨by decide, by decide⟩
                  obtain ⟨T15, h15, X15, e15, W15, st15⟩ := stB X14 hx hZ e14 Ar15 (j := (7 : Int32)) hin15 (g := (mkF m 50 #[.val (.long x), .second, .val (.ref a), .val (.int (0 : Int32)), .val (.long (own_s (own_s (own_s (own_s (own_s (own_s (own_s x)))))))), .second, .val (.int (8 : Int32))] [(.int (((own_s (own_s (own_s (own_s (own_s (own_s (own_s x))))))).toInt32).toInt8.toInt32)), (.int (7 : Int32)), (.ref a)])) rfl rfl (hb hby d2_50)
                  have V15 : Arv Z h15 a kk .byte (14 : Int32) [(.int ((((x ||| (128 : Int64)).toInt32).toInt8.toInt32).toInt8.toInt32)), (.int (((((own_s x) ||| (128 : Int64)).toInt32).toInt8.toInt32).toInt8.toInt32)), (.int (((((own_s (own_s x)) ||| (128 : Int64)).toInt32).toInt8.toInt32).toInt8.toInt32)), (.int (((((own_s (own_s (own_s x))) ||| (128 : Int64)).toInt32).toInt8.toInt32).toInt8.toInt32)), (.int (((((own_s (own_s (own_s (own_s x)))) ||| (128 : Int64)).toInt32).toInt8.toInt32).toInt8.toInt32)), (.int (((((own_s (own_s (own_s (own_s (own_s x))))) ||| (128 : Int64)).toInt32).toInt8.toInt32).toInt8.toInt32)), (.int (((((own_s (own_s (own_s (own_s (own_s (own_s x)))))) ||| (128 : Int64)).toInt32).toInt8.toInt32).toInt8.toInt32)), (.int ((((own_s (own_s (own_s (own_s (own_s (own_s (own_s x))))))).toInt32).toInt8.toInt32).toInt8.toInt32)), (.int z), (.int z), (.int z), (.int z), (.int z), (.int z)] (.int (0 : Int32)) := Arv.set Ar15 q15 S15 M15 H15 G15 (fits_nar_byte _) W15 7 rfl (Nat.le_of_ble_eq_true rfl)
                  have K15 : Keep h0 h15 [a] := K14.wr W15 (Or.inl (List.mem_of_getElem? (i := 0) rfl))
                  have Z15 : n0 ≤ h15.size := Nat.le_trans Z0 K15.1
                  have N15 := Fr.snoc X15 N14 g_a
                  obtain ⟨J15, X15, N15⟩ := own_hide X15 N15
                  refine own_Go.of (g' := (mkF m 51 #[.val (.long x), .second, .val (.ref a), .val (.int (0 : Int32)), .val (.long (own_s (own_s (own_s (own_s (own_s (own_s (own_s x)))))))), .second, .val (.int (8 : Int32))] [])) (fun t k => st15 _ k) ?_
                  refine og_iload (pc' := 53) X15 hx (hb hby d2_51) rfl rfl ?_
                  obtain ⟨fs, hr, hrun, hended, hW, hsame⟩ := X15.leave (v := some (.int (8 : Int32))) (fun h => by rw [Bd.returns] at h; cases h) (BodyLoose.notSynchronized Bd)
                  refine ⟨_, _, retI X15 hx Bd.returns (hb hby d2_53) hr, hrun, hended, some (.int (8 : Int32)), _, rfl, ?_, ⟨_, rfl⟩, hW, hsame.mono (by decide) (by decide)⟩
                  show Qwr0 Z x a kk z h0 n0 _ T15.heap _
                  rw [e15]
                  exact ⟨(congrArg (fun q => some (Value.int q)) (by rw [own_len_8 x hpos hc12_1 hc12_2 hc12_3 hc12_4 hc12_5 hc12_6 hc12_7 hc12_8]; decide)), N15, K15, (by rw [own_lst_0_8 x z hc12_1 hc12_2 hc12_3 hc12_4 hc12_5 hc12_6 hc12_7 hc12_8]; exact V15)⟩
                · refine og_ifNo (pc' := 15) X14 hx (hb hby d2_12) ((if0 _ _).trans (flt (fun q => hc12_8 ((lw_lt _ _).mp q))).1) rfl ?_
                  refine og_aloadN (pc' := 16) X14 hx (hb hby d2_15) rfl rfl rfl ?_
                  refine og_iload (pc' := 18) X14 hx (hb hby d2_16) rfl rfl ?_
                  refine og_iinc (pc' := 21) (L' := #[.val (.long x), .second, .val (.ref a), .val (.int (0 : Int32)), .val (.long (own_s (own_s (own_s (own_s (own_s (own_s (own_s x)))))))), .second, .val (.int ((7 : Int32) + (1 : Int32)))]) X14 hx (hb hby d2_18) rfl rfl rfl ?_
                  rw [show ((7 : Int32) + (1 : Int32)) = (8 : Int32) from by decide]
                  refine og_lload (pc' := 23) X14 hx (hb hby d2_21) rfl rfl ?_
                  refine og_ldc2_w (pc' := 26) X14 hx (hb hby d2_23) hown (mvT hZ (hw _ (List.mem_of_getElem? (i := 11) rfl))) rfl ?_
                  refine og_lor (pc' := 27) X14 hx (hb hby d2_26) rfl ?_
                  refine og_l2i (pc' := 28) X14 hx (hb hby d2_27) rfl ?_
                  refine og_i2b (pc' := 29) X14 hx (hb hby d2_28) rfl ?_
                  obtain ⟨cl16, Ar16, q16, S16, M16, H16, G16⟩ := id V14
                  have hin16 : ¬ ((7 : Int32) < 0 ∨ cl16.slots.size ≤ ((7 : Int32)).toNatClampNeg) := inb_of S16 ⟨by decide, by decide⟩
                  obtain ⟨T16, h16, X16, e16, W16, st16⟩ := stB X14 hx hZ e14 Ar16 (j := (7 : Int32)) hin16 (g := (mkF m 29 #[.val (.long x), .second, .val (.ref a), .val (.int (0 : Int32)), .val (.long (own_s (own_s (own_s (own_s (own_s (own_s (own_s x)))))))), .second, .val (.int (8 : Int32))] [(.int ((((own_s (own_s (own_s (own_s (own_s (own_s (own_s x))))))) ||| (128 : Int64)).toInt32).toInt8.toInt32)), (.int (7 : Int32)), (.ref a)])) rfl rfl (hb hby d2_29)
                  have V16 : Arv Z h16 a kk .byte (14 : Int32) [(.int ((((x ||| (128 : Int64)).toInt32).toInt8.toInt32).toInt8.toInt32)), (.int (((((own_s x) ||| (128 : Int64)).toInt32).toInt8.toInt32).toInt8.toInt32)), (.int (((((own_s (own_s x)) ||| (128 : Int64)).toInt32).toInt8.toInt32).toInt8.toInt32)), (.int (((((own_s (own_s (own_s x))) ||| (128 : Int64)).toInt32).toInt8.toInt32).toInt8.toInt32)), (.int (((((own_s (own_s (own_s (own_s x)))) ||| (128 : Int64)).toInt32).toInt8.toInt32).toInt8.toInt32)), (.int (((((own_s (own_s (own_s (own_s (own_s x))))) ||| (128 : Int64)).toInt32).toInt8.toInt32).toInt8.toInt32)), (.int (((((own_s (own_s (own_s (own_s (own_s (own_s x)))))) ||| (128 : Int64)).toInt32).toInt8.toInt32).toInt8.toInt32)), (.int (((((own_s (own_s (own_s (own_s (own_s (own_s (own_s x))))))) ||| (128 : Int64)).toInt32).toInt8.toInt32).toInt8.toInt32)), (.int z), (.int z), (.int z), (.int z), (.int z), (.int z)] (.int (0 : Int32)) := Arv.set Ar16 q16 S16 M16 H16 G16 (fits_nar_byte _) W16 7 rfl (Nat.le_of_ble_eq_true rfl)
                  have K16 : Keep h0 h16 [a] := K14.wr W16 (Or.inl (List.mem_of_getElem? (i := 0) rfl))
                  have Z16 : n0 ≤ h16.size := Nat.le_trans Z0 K16.1
                  have N16 := Fr.snoc X16 N14 g_a
                  obtain ⟨J16, X16, N16⟩ := own_hide X16 N16
                  refine own_Go.of (g' := (mkF m 30 #[.val (.long x), .second, .val (.ref a), .val (.int (0 : Int32)), .val (.long (own_s (own_s (own_s (own_s (own_s (own_s (own_s x)))))))), .second, .val (.int (8 : Int32))] [])) (fun t k => st16 _ k) ?_
                  refine og_lload (pc' := 32) X16 hx (hb hby d2_30) rfl rfl ?_
                  refine og_bipush (pc' := 34) (n := 7) X16 hx (hb hby d2_32) rfl rfl ?_
                  refine own_Go.of (g' := (mkF m 35 #[.val (.long x), .second, .val (.ref a), .val (.int (0 : Int32)), .val (.long (own_s (own_s (own_s (own_s (own_s (own_s (own_s x)))))))), .second, .val (.int (8 : Int32))] [(.long (own_s (own_s (own_s (own_s (own_s (own_s (own_s (own_s x)))))))))])) (fun t k => XS.lushr X16.here hx rfl (hb hby d2_34) rfl k) ?_
                  refine og_lstore (pc' := 37) (L' := #[.val (.long x), .second, .val (.ref a), .val (.int (0 : Int32)), .val (.long (own_s (own_s (own_s (own_s (own_s (own_s (own_s (own_s x))))))))), .second, .val (.int (8 : Int32))]) X16 hx (hb hby d2_35) rfl rfl ?_
                  refine og_goto (pc' := 6) X16 hx (hb hby d2_37) (by decide) (by decide) ?_
                  refine og_lload (pc' := 8) X16 hx (hb hby d2_6) rfl rfl ?_
                  refine og_ldc2_w (pc' := 11) X16 hx (hb hby d2_8) hown (mvT hZ (hw _ (List.mem_of_getElem? (i := 11) rfl))) rfl ?_
                  refine og_lcmp (pc' := 12) X16 hx (hb hby d2_11) rfl ?_
                  refine og_ifYes (pc' := 40) X16 hx (hb hby d2_12) ((if0 _ _).trans (tlt ((lw_lt _ _).mpr (own_lt9 hpos))).1) (by decide) (by decide) ?_
                  refine og_aloadN (pc' := 41) X16 hx (hb hby d2_40) rfl rfl rfl ?_
                  refine og_iload (pc' := 43) X16 hx (hb hby d2_41) rfl rfl ?_
                  refine og_iinc (pc' := 46) (L' := #[.val (.long x), .second, .val (.ref a), .val (.int (0 : Int32)), .val (.long (own_s (own_s (own_s (own_s (own_s (own_s (own_s (own_s x))))))))), .second, .val (.int ((8 : Int32) + (1 : Int32)))]) X16 hx (hb hby d2_43) rfl rfl rfl ?_
                  rw [show ((8 : Int32) + (1 : Int32)) = (9 : Int32) from by decide]
                  refine og_lload (pc' := 48) X16 hx (hb hby d2_46) rfl rfl ?_
                  refine og_l2i (pc' := 49) X16 hx (hb hby d2_48) rfl ?_
                  refine og_i2b (pc' := 50) X16 hx (hb hby d2_49) rfl ?_
                  obtain ⟨cl17, Ar17, q17, S17, M17, H17, G17⟩ := id V16
                  have hin17 : ¬ ((8 : Int32) < 0 ∨ cl17.slots.size ≤ ((8 : Int32)).toNatClampNeg) := inb_of S17 ⟨by decide, by decide⟩
                  obtain ⟨T17, h17, X17, e17, W17, st17⟩ := stB X16 hx hZ e16 Ar17 (j := (8 : Int32)) hin17 (g := (mkF m 50 #[.val (.long x), .second, .val (.ref a), .val (.int (0 : Int32)), .val (.long (own_s (own_s (own_s (own_s (own_s (own_s (own_s (own_s x))))))))), .second, .val (.int (9 : Int32))] [(.int (((own_s (own_s (own_s (own_s (own_s (own_s (own_s (own_s x)))))))).toInt32).toInt8.toInt32)), (.int (8 : Int32)), (.ref a)])) rfl rfl (hb hby d2_50)
                  have V17 : Arv Z h17 a kk .byte (14 : Int32) [(.int ((((x ||| (128 : Int64)).toInt32).toInt8.toInt32).toInt8.toInt32)), (.int (((((own_s x) ||| (128 : Int64)).toInt32).toInt8.toInt32).toInt8.toInt32)), (.int (((((own_s (own_s x)) ||| (128 : Int64)).toInt32).toInt8.toInt32).toInt8.toInt32)), (.int (((((own_s (own_s (own_s x))) ||| (128 : Int64)).toInt32).toInt8.toInt32).toInt8.toInt32)), (.int (((((own_s (own_s (own_s (own_s x)))) ||| (128 : Int64)).toInt32).toInt8.toInt32).toInt8.toInt32)), (.int (((((own_s (own_s (own_s (own_s (own_s x))))) ||| (128 : Int64)).toInt32).toInt8.toInt32).toInt8.toInt32)), (.int (((((own_s (own_s (own_s (own_s (own_s (own_s x)))))) ||| (128 : Int64)).toInt32).toInt8.toInt32).toInt8.toInt32)), (.int (((((own_s (own_s (own_s (own_s (own_s (own_s (own_s x))))))) ||| (128 : Int64)).toInt32).toInt8.toInt32).toInt8.toInt32)), (.int ((((own_s (own_s (own_s (own_s (own_s (own_s (own_s (own_s x)))))))).toInt32).toInt8.toInt32).toInt8.toInt32)), (.int z), (.int z), (.int z), (.int z), (.int z)] (.int (0 : Int32)) := Arv.set Ar17 q17 S17 M17 H17 G17 (fits_nar_byte _) W17 8 rfl (Nat.le_of_ble_eq_true rfl)
                  have K17 : Keep h0 h17 [a] := K16.wr W17 (Or.inl (List.mem_of_getElem? (i := 0) rfl))
                  have Z17 : n0 ≤ h17.size := Nat.le_trans Z0 K17.1
                  have N17 := Fr.snoc X17 N16 g_a
                  obtain ⟨J17, X17, N17⟩ := own_hide X17 N17
                  refine own_Go.of (g' := (mkF m 51 #[.val (.long x), .second, .val (.ref a), .val (.int (0 : Int32)), .val (.long (own_s (own_s (own_s (own_s (own_s (own_s (own_s (own_s x))))))))), .second, .val (.int (9 : Int32))] [])) (fun t k => st17 _ k) ?_
                  refine og_iload (pc' := 53) X17 hx (hb hby d2_51) rfl rfl ?_
                  obtain ⟨fs, hr, hrun, hended, hW, hsame⟩ := X17.leave (v := some (.int (9 : Int32))) (fun h => by rw [Bd.returns] at h; cases h) (BodyLoose.notSynchronized Bd)
                  refine ⟨_, _, retI X17 hx Bd.returns (hb hby d2_53) hr, hrun, hended, some (.int (9 : Int32)), _, rfl, ?_, ⟨_, rfl⟩, hW, hsame.mono (by decide) (by decide)⟩
                  show Qwr0 Z x a kk z h0 n0 _ T17.heap _
                  rw [e17]
                  exact ⟨(congrArg (fun q => some (Value.int q)) (by rw [own_len_9 x hpos hc12_1 hc12_2 hc12_3 hc12_4 hc12_5 hc12_6 hc12_7 hc12_8 (own_lt9 hpos)]; decide)), N17, K17, (by rw [own_lst_0_9 x z hc12_1 hc12_2 hc12_3 hc12_4 hc12_5 hc12_6 hc12_7 hc12_8 (own_lt9 hpos)]; exact V17)⟩

theorem pnwr1 : plainName "com/example/skorr/skorr/index/IndexFormat" = true := by first | (simp [plainName, overriddenIn]; done) | decide +kernel
theorem efwr1 (m : MethodId) (z0 : Int64) (z1 : Addr) : entryFrame m #[(.long z0), (.ref z1), (.int (1 : Int32))] 7 = mkF m 0 #[.val (.long z0), .second, .val (.ref z1), .val (.int (1 : Int32)), .unset, .unset, .unset] [] := by first | (simp [entryFrame, mkF, argsToLocals, Value.category]; done) | rfl
def Qwr1 (Z : State) (x : Int64) (a : Addr) (kk : ClassId) (z : Int32) (h0 : Heap) (n0 : Nat) (v : Option Value) (h : Heap) (L : List Loc) : Prop := v = some (.int ((1 : Int32) + (own_len x))) ∧ Fr n0 L ∧ Keep h0 h [a] ∧ Arv Z h a kk .byte (14 : Int32) (own_lst 1 x z) (.int (0 : Int32))
set_option maxRecDepth 65536 in
set_option maxHeartbeats 40000000 in
theorem rmwr1 (l : Launch) (Z : State) (a0 : Array Value) (hw : ∀ d ∈ tables_1, d.before a0 Z = true) (ws : List Jvm.Cond) (x : Int64) (a : Addr) (kk : ClassId) (z : Int32) (h0 : Heap) (n0 : Nat) (Z0 : n0 ≤ h0.size) (V_a : Arv Z h0 a kk .byte (14 : Int32) [(.int z), (.int z), (.int z), (.int z), (.int z), (.int z), (.int z), (.int z), (.int z), (.int z), (.int z), (.int z), (.int z), (.int z)] (.int (0 : Int32))) (g_a : n0 ≤ a) (hpos : 0 ≤ x.toInt) :
    MetFree l (⟨"com/example/skorr/skorr/index/IndexFormat", "writeVarint", "(J[BI)I"⟩ : MethodName) (head1 (Jvm.Cond.code (⟨"com/example/skorr/skorr/index/IndexFormat", "writeVarint", "(J[BI)I"⟩ : MethodName) prog_13_method_4_code 7 (some .int) :: ws) ({ frames := 0, cells := 0, slots := 0, locals := 0 } : Room)) (fun ag U => ag = #[(.long x), (.ref a), (.int (1 : Int32))] ∧ Z.Warmed39 U.vm ∧ U.heap = h0) (fun _ _ _ _ _ => True) (fun _ U oc U' => ∃ v L, oc = .returned v ∧ Qwr1 Z x a kk z h0 n0 v U'.heap L ∧ FrameEnd U oc U' L ({ frames := 0, cells := 0, slots := 0, locals := 0 } : Room).cells ({ frames := 0, cells := 0, slots := 0, locals := 0 } : Room).slots) := by
  refine MetFree.of_bodySF (plainFor_of_name pnwr1) hisR ?_
  intro p e s m args below meth c s₁ Bd hml0 hP hK
  obtain ⟨rfl, hZ, hh⟩ := hP
  have hx := Bd.exec
  have hby := Bd.bytes
  have hml : c.maxLocals = 7 := hml0
  have hown : s.vm.findClass "com/example/skorr/skorr/index/IndexFormat" = some m.cls := findClass_of_methodNamed Bd.named
  have hnm := (name_of_methodNamed Bd.named Bd.method).1
  have X0 : Stand p l e ({ frames := 0, cells := 0, slots := 0, locals := 0 } : Room) s m #[(.long x), (.ref a), (.int (1 : Int32))] below meth c s₁ [] 0 0 := Stand.of_body Bd
  have e0 : s₁.heap = h0 := by rw [← hh, Bd.state]; rfl
  have N0 := Fr.nil n0
  show own_Go p e below (fun s₂ oc => ∃ v L, oc = .returned v ∧ Qwr1 Z x a kk z h0 n0 v s₂.heap L ∧ FrameEnd s oc s₂ L ({ frames := 0, cells := 0, slots := 0, locals := 0 } : Room).cells ({ frames := 0, cells := 0, slots := 0, locals := 0 } : Room).slots) s₁ (entryFrame m #[(.long x), (.ref a), (.int (1 : Int32))] 7)
  refine own_Go.of (g' := mkF m 0 #[.val (.long x), .second, .val (.ref a), .val (.int (1 : Int32)), .unset, .unset, .unset] []) (fun t k => castTop (efwr1 m x a) k) ?_
  refine og_lloadN (pc' := 1) X0 hx (hb hby d2_0) rfl rfl ?_
  refine og_lstore (pc' := 3) (L' := #[.val (.long x), .second, .val (.ref a), .val (.int (1 : Int32)), .val (.long x), .second, .unset]) X0 hx (hb hby d2_1) rfl rfl ?_
  refine og_iloadN (pc' := 4) X0 hx (hb hby d2_3) rfl rfl ?_
  refine og_istore (pc' := 6) (L' := #[.val (.long x), .second, .val (.ref a), .val (.int (1 : Int32)), .val (.long x), .second, .val (.int (1 : Int32))]) X0 hx (hb hby d2_4) rfl rfl ?_
  refine og_lload (pc' := 8) X0 hx (hb hby d2_6) rfl rfl ?_
  refine og_ldc2_w (pc' := 11) X0 hx (hb hby d2_8) hown (mvT hZ (hw _ (List.mem_of_getElem? (i := 11) rfl))) rfl ?_
  refine og_lcmp (pc' := 12) X0 hx (hb hby d2_11) rfl ?_
  by_cases hc12_1 : x < (128 : Int64)
  · refine og_ifYes (pc' := 40) X0 hx (hb hby d2_12) ((if0 _ _).trans (tlt ((lw_lt _ _).mpr hc12_1)).1) (by decide) (by decide) ?_
    refine og_aloadN (pc' := 41) X0 hx (hb hby d2_40) rfl rfl rfl ?_
    refine og_iload (pc' := 43) X0 hx (hb hby d2_41) rfl rfl ?_
    refine og_iinc (pc' := 46) (L' := #[.val (.long x), .second, .val (.ref a), .val (.int (1 : Int32)), .val (.long x), .second, .val (.int ((1 : Int32) + (1 : Int32)))]) X0 hx (hb hby d2_43) rfl rfl rfl ?_
    rw [show ((1 : Int32) + (1 : Int32)) = (2 : Int32) from by decide]
    refine og_lload (pc' := 48) X0 hx (hb hby d2_46) rfl rfl ?_
    refine og_l2i (pc' := 49) X0 hx (hb hby d2_48) rfl ?_
    refine og_i2b (pc' := 50) X0 hx (hb hby d2_49) rfl ?_
    obtain ⟨cl1, Ar1, q1, S1, M1, H1, G1⟩ := id V_a
    have hin1 : ¬ ((1 : Int32) < 0 ∨ cl1.slots.size ≤ ((1 : Int32)).toNatClampNeg) := inb_of S1 ⟨by decide, by decide⟩
    obtain ⟨T1, h1, X1, e1, W1, st1⟩ := stB X0 hx hZ e0 Ar1 (j := (1 : Int32)) hin1 (g := (mkF m 50 #[.val (.long x), .second, .val (.ref a), .val (.int (1 : Int32)), .val (.long x), .second, .val (.int (2 : Int32))] [(.int ((x.toInt32).toInt8.toInt32)), (.int (1 : Int32)), (.ref a)])) rfl rfl (hb hby d2_50)
    have V1 : Arv Z h1 a kk .byte (14 : Int32) [(.int z), (.int (((x.toInt32).toInt8.toInt32).toInt8.toInt32)), (.int z), (.int z), (.int z), (.int z), (.int z), (.int z), (.int z), (.int z), (.int z), (.int z), (.int z), (.int z)] (.int (0 : Int32)) := Arv.set Ar1 q1 S1 M1 H1 G1 (fits_nar_byte _) W1 1 rfl (Nat.le_of_ble_eq_true rfl)
    have K1 : Keep h0 h1 [a] := (Keep.refl h0 [a]).wr W1 (Or.inl (List.mem_of_getElem? (i := 0) rfl))
    have Z1 : n0 ≤ h1.size := Nat.le_trans Z0 K1.1
    have N1 := Fr.snoc X1 N0 g_a
    obtain ⟨J1, X1, N1⟩ := own_hide X1 N1
    refine own_Go.of (g' := (mkF m 51 #[.val (.long x), .second, .val (.ref a), .val (.int (1 : Int32)), .val (.long x), .second, .val (.int (2 : Int32))] [])) (fun t k => st1 _ k) ?_
    refine og_iload (pc' := 53) X1 hx (hb hby d2_51) rfl rfl ?_
    obtain ⟨fs, hr, hrun, hended, hW, hsame⟩ := X1.leave (v := some (.int (2 : Int32))) (fun h => by rw [Bd.returns] at h; cases h) (BodyLoose.notSynchronized Bd)
    refine ⟨_, _, retI X1 hx Bd.returns (hb hby d2_53) hr, hrun, hended, some (.int (2 : Int32)), _, rfl, ?_, ⟨_, rfl⟩, hW, hsame.mono (by decide) (by decide)⟩
    show Qwr1 Z x a kk z h0 n0 _ T1.heap _
    rw [e1]
    exact ⟨(congrArg (fun q => some (Value.int q)) (by rw [own_len_1 x hpos hc12_1]; decide)), N1, K1, (by rw [own_lst_1_1 x z hc12_1]; exact V1)⟩
  · refine og_ifNo (pc' := 15) X0 hx (hb hby d2_12) ((if0 _ _).trans (flt (fun q => hc12_1 ((lw_lt _ _).mp q))).1) rfl ?_
    refine og_aloadN (pc' := 16) X0 hx (hb hby d2_15) rfl rfl rfl ?_
    refine og_iload (pc' := 18) X0 hx (hb hby d2_16) rfl rfl ?_
    refine og_iinc (pc' := 21) (L' := #[.val (.long x), .second, .val (.ref a), .val (.int (1 : Int32)), .val (.long x), .second, .val (.int ((1 : Int32) + (1 : Int32)))]) X0 hx (hb hby d2_18) rfl rfl rfl ?_
    rw [show ((1 : Int32) + (1 : Int32)) = (2 : Int32) from by decide]
    refine og_lload (pc' := 23) X0 hx (hb hby d2_21) rfl rfl ?_
    refine og_ldc2_w (pc' := 26) X0 hx (hb hby d2_23) hown (mvT hZ (hw _ (List.mem_of_getElem? (i := 11) rfl))) rfl ?_
    refine og_lor (pc' := 27) X0 hx (hb hby d2_26) rfl ?_
    refine og_l2i (pc' := 28) X0 hx (hb hby d2_27) rfl ?_
    refine og_i2b (pc' := 29) X0 hx (hb hby d2_28) rfl ?_
    obtain ⟨cl2, Ar2, q2, S2, M2, H2, G2⟩ := id V_a
    have hin2 : ¬ ((1 : Int32) < 0 ∨ cl2.slots.size ≤ ((1 : Int32)).toNatClampNeg) := inb_of S2 ⟨by decide, by decide⟩
    obtain ⟨T2, h2, X2, e2, W2, st2⟩ := stB X0 hx hZ e0 Ar2 (j := (1 : Int32)) hin2 (g := (mkF m 29 #[.val (.long x), .second, .val (.ref a), .val (.int (1 : Int32)), .val (.long x), .second, .val (.int (2 : Int32))] [(.int (((x ||| (128 : Int64)).toInt32).toInt8.toInt32)), (.int (1 : Int32)), (.ref a)])) rfl rfl (hb hby d2_29)
    have V2 : Arv Z h2 a kk .byte (14 : Int32) [(.int z), (.int ((((x ||| (128 : Int64)).toInt32).toInt8.toInt32).toInt8.toInt32)), (.int z), (.int z), (.int z), (.int z), (.int z), (.int z), (.int z), (.int z), (.int z), (.int z), (.int z), (.int z)] (.int (0 : Int32)) := Arv.set Ar2 q2 S2 M2 H2 G2 (fits_nar_byte _) W2 1 rfl (Nat.le_of_ble_eq_true rfl)
    have K2 : Keep h0 h2 [a] := (Keep.refl h0 [a]).wr W2 (Or.inl (List.mem_of_getElem? (i := 0) rfl))
    have Z2 : n0 ≤ h2.size := Nat.le_trans Z0 K2.1
    have N2 := Fr.snoc X2 N0 g_a
    obtain ⟨J2, X2, N2⟩ := own_hide X2 N2
    refine own_Go.of (g' := (mkF m 30 #[.val (.long x), .second, .val (.ref a), .val (.int (1 : Int32)), .val (.long x), .second, .val (.int (2 : Int32))] [])) (fun t k => st2 _ k) ?_
    refine og_lload (pc' := 32) X2 hx (hb hby d2_30) rfl rfl ?_
    refine og_bipush (pc' := 34) (n := 7) X2 hx (hb hby d2_32) rfl rfl ?_
    refine own_Go.of (g' := (mkF m 35 #[.val (.long x), .second, .val (.ref a), .val (.int (1 : Int32)), .val (.long x), .second, .val (.int (2 : Int32))] [(.long (own_s x))])) (fun t k => XS.lushr X2.here hx rfl (hb hby d2_34) rfl k) ?_
    refine og_lstore (pc' := 37) (L' := #[.val (.long x), .second, .val (.ref a), .val (.int (1 : Int32)), .val (.long (own_s x)), .second, .val (.int (2 : Int32))]) X2 hx (hb hby d2_35) rfl rfl ?_
    refine og_goto (pc' := 6) X2 hx (hb hby d2_37) (by decide) (by decide) ?_
    refine og_lload (pc' := 8) X2 hx (hb hby d2_6) rfl rfl ?_
    refine og_ldc2_w (pc' := 11) X2 hx (hb hby d2_8) hown (mvT hZ (hw _ (List.mem_of_getElem? (i := 11) rfl))) rfl ?_
    refine og_lcmp (pc' := 12) X2 hx (hb hby d2_11) rfl ?_
    by_cases hc12_2 : (own_s x) < (128 : Int64)
    · refine og_ifYes (pc' := 40) X2 hx (hb hby d2_12) ((if0 _ _).trans (tlt ((lw_lt _ _).mpr hc12_2)).1) (by decide) (by decide) ?_
      refine og_aloadN (pc' := 41) X2 hx (hb hby d2_40) rfl rfl rfl ?_
      refine og_iload (pc' := 43) X2 hx (hb hby d2_41) rfl rfl ?_
      refine og_iinc (pc' := 46) (L' := #[.val (.long x), .second, .val (.ref a), .val (.int (1 : Int32)), .val (.long (own_s x)), .second, .val (.int ((2 : Int32) + (1 : Int32)))]) X2 hx (hb hby d2_43) rfl rfl rfl ?_
      rw [show ((2 : Int32) + (1 : Int32)) = (3 : Int32) from by decide]
      refine og_lload (pc' := 48) X2 hx (hb hby d2_46) rfl rfl ?_
      refine og_l2i (pc' := 49) X2 hx (hb hby d2_48) rfl ?_
      refine og_i2b (pc' := 50) X2 hx (hb hby d2_49) rfl ?_
      obtain ⟨cl3, Ar3, q3, S3, M3, H3, G3⟩ := id V2
      have hin3 : ¬ ((2 : Int32) < 0 ∨ cl3.slots.size ≤ ((2 : Int32)).toNatClampNeg) := inb_of S3 ⟨by decide, by decide⟩
      obtain ⟨T3, h3, X3, e3, W3, st3⟩ := stB X2 hx hZ e2 Ar3 (j := (2 : Int32)) hin3 (g := (mkF m 50 #[.val (.long x), .second, .val (.ref a), .val (.int (1 : Int32)), .val (.long (own_s x)), .second, .val (.int (3 : Int32))] [(.int (((own_s x).toInt32).toInt8.toInt32)), (.int (2 : Int32)), (.ref a)])) rfl rfl (hb hby d2_50)
      have V3 : Arv Z h3 a kk .byte (14 : Int32) [(.int z), (.int ((((x ||| (128 : Int64)).toInt32).toInt8.toInt32).toInt8.toInt32)), (.int ((((own_s x).toInt32).toInt8.toInt32).toInt8.toInt32)), (.int z), (.int z), (.int z), (.int z), (.int z), (.int z), (.int z), (.int z), (.int z), (.int z), (.int z)] (.int (0 : Int32)) := Arv.set Ar3 q3 S3 M3 H3 G3 (fits_nar_byte _) W3 2 rfl (Nat.le_of_ble_eq_true rfl)
      have K3 : Keep h0 h3 [a] := K2.wr W3 (Or.inl (List.mem_of_getElem? (i := 0) rfl))
      have Z3 : n0 ≤ h3.size := Nat.le_trans Z0 K3.1
      have N3 := Fr.snoc X3 N2 g_a
      obtain ⟨J3, X3, N3⟩ := own_hide X3 N3
      refine own_Go.of (g' := (mkF m 51 #[.val (.long x), .second, .val (.ref a), .val (.int (1 : Int32)), .val (.long (own_s x)), .second, .val (.int (3 : Int32))] [])) (fun t k => st3 _ k) ?_
      refine og_iload (pc' := 53) X3 hx (hb hby d2_51) rfl rfl ?_
      obtain ⟨fs, hr, hrun, hended, hW, hsame⟩ := X3.leave (v := some (.int (3 : Int32))) (fun h => by rw [Bd.returns] at h; cases h) (BodyLoose.notSynchronized Bd)
      refine ⟨_, _, retI X3 hx Bd.returns (hb hby d2_53) hr, hrun, hended, some (.int (3 : Int32)), _, rfl, ?_, ⟨_, rfl⟩, hW, hsame.mono (by decide) (by decide)⟩
      show Qwr1 Z x a kk z h0 n0 _ T3.heap _
      rw [e3]
      exact ⟨(congrArg (fun q => some (Value.int q)) (by rw [own_len_2 x hpos hc12_1 hc12_2]; decide)), N3, K3, (by rw [own_lst_1_2 x z hc12_1 hc12_2]; exact V3)⟩
    · refine og_ifNo (pc' := 15) X2 hx (hb hby d2_12) ((if0 _ _).trans (flt (fun q => hc12_2 ((lw_lt _ _).mp q))).1) rfl ?_
      refine og_aloadN (pc' := 16) X2 hx (hb hby d2_15) rfl rfl rfl ?_
      refine og_iload (pc' := 18) X2 hx (hb hby d2_16) rfl rfl ?_
      refine og_iinc (pc' := 21) (L' := #[.val (.long x), .second, .val (.ref a), .val (.int (1 : Int32)), .val (.long (own_s x)), .second, .val (.int ((2 : Int32) + (1 : Int32)))]) X2 hx (hb hby d2_18) rfl rfl rfl ?_
      rw [show ((2 : Int32) + (1 : Int32)) = (3 : Int32) from by decide]
      refine og_lload (pc' := 23) X2 hx (hb hby d2_21) rfl rfl ?_
      refine og_ldc2_w (pc' := 26) X2 hx (hb hby d2_23) hown (mvT hZ (hw _ (List.mem_of_getElem? (i := 11) rfl))) rfl ?_
      refine og_lor (pc' := 27) X2 hx (hb hby d2_26) rfl ?_
      refine og_l2i (pc' := 28) X2 hx (hb hby d2_27) rfl ?_
      refine og_i2b (pc' := 29) X2 hx (hb hby d2_28) rfl ?_
      obtain ⟨cl4, Ar4, q4, S4, M4, H4, G4⟩ := id V2
      have hin4 : ¬ ((2 : Int32) < 0 ∨ cl4.slots.size ≤ ((2 : Int32)).toNatClampNeg) := inb_of S4 ⟨by decide, by decide⟩
      obtain ⟨T4, h4, X4, e4, W4, st4⟩ := stB X2 hx hZ e2 Ar4 (j := (2 : Int32)) hin4 (g := (mkF m 29 #[.val (.long x), .second, .val (.ref a), .val (.int (1 : Int32)), .val (.long (own_s x)), .second, .val (.int (3 : Int32))] [(.int ((((own_s x) ||| (128 : Int64)).toInt32).toInt8.toInt32)), (.int (2 : Int32)), (.ref a)])) rfl rfl (hb hby d2_29)
      have V4 : Arv Z h4 a kk .byte (14 : Int32) [(.int z), (.int ((((x ||| (128 : Int64)).toInt32).toInt8.toInt32).toInt8.toInt32)), (.int (((((own_s x) ||| (128 : Int64)).toInt32).toInt8.toInt32).toInt8.toInt32)), (.int z), (.int z), (.int z), (.int z), (.int z), (.int z), (.int z), (.int z), (.int z), (.int z), (.int z)] (.int (0 : Int32)) := Arv.set Ar4 q4 S4 M4 H4 G4 (fits_nar_byte _) W4 2 rfl (Nat.le_of_ble_eq_true rfl)
      have K4 : Keep h0 h4 [a] := K2.wr W4 (Or.inl (List.mem_of_getElem? (i := 0) rfl))
      have Z4 : n0 ≤ h4.size := Nat.le_trans Z0 K4.1
      have N4 := Fr.snoc X4 N2 g_a
      obtain ⟨J4, X4, N4⟩ := own_hide X4 N4
      refine own_Go.of (g' := (mkF m 30 #[.val (.long x), .second, .val (.ref a), .val (.int (1 : Int32)), .val (.long (own_s x)), .second, .val (.int (3 : Int32))] [])) (fun t k => st4 _ k) ?_
      refine og_lload (pc' := 32) X4 hx (hb hby d2_30) rfl rfl ?_
      refine og_bipush (pc' := 34) (n := 7) X4 hx (hb hby d2_32) rfl rfl ?_
      refine own_Go.of (g' := (mkF m 35 #[.val (.long x), .second, .val (.ref a), .val (.int (1 : Int32)), .val (.long (own_s x)), .second, .val (.int (3 : Int32))] [(.long (own_s (own_s x)))])) (fun t k => XS.lushr X4.here hx rfl (hb hby d2_34) rfl k) ?_
      refine og_lstore (pc' := 37) (L' := #[.val (.long x), .second, .val (.ref a), .val (.int (1 : Int32)), .val (.long (own_s (own_s x))), .second, .val (.int (3 : Int32))]) X4 hx (hb hby d2_35) rfl rfl ?_
      refine og_goto (pc' := 6) X4 hx (hb hby d2_37) (by decide) (by decide) ?_
      refine og_lload (pc' := 8) X4 hx (hb hby d2_6) rfl rfl ?_
      refine og_ldc2_w (pc' := 11) X4 hx (hb hby d2_8) hown (mvT hZ (hw _ (List.mem_of_getElem? (i := 11) rfl))) rfl ?_
      refine og_lcmp (pc' := 12) X4 hx (hb hby d2_11) rfl ?_
      by_cases hc12_3 : (own_s (own_s x)) < (128 : Int64)
      · refine og_ifYes (pc' := 40) X4 hx (hb hby d2_12) ((if0 _ _).trans (tlt ((lw_lt _ _).mpr hc12_3)).1) (by decide) (by decide) ?_
        refine og_aloadN (pc' := 41) X4 hx (hb hby d2_40) rfl rfl rfl ?_
        refine og_iload (pc' := 43) X4 hx (hb hby d2_41) rfl rfl ?_
        refine og_iinc (pc' := 46) (L' := #[.val (.long x), .second, .val (.ref a), .val (.int (1 : Int32)), .val (.long (own_s (own_s x))), .second, .val (.int ((3 : Int32) + (1 : Int32)))]) X4 hx (hb hby d2_43) rfl rfl rfl ?_
        rw [show ((3 : Int32) + (1 : Int32)) = (4 : Int32) from by decide]
        refine og_lload (pc' := 48) X4 hx (hb hby d2_46) rfl rfl ?_
        refine og_l2i (pc' := 49) X4 hx (hb hby d2_48) rfl ?_
        refine og_i2b (pc' := 50) X4 hx (hb hby d2_49) rfl ?_
        obtain ⟨cl5, Ar5, q5, S5, M5, H5, G5⟩ := id V4
        have hin5 : ¬ ((3 : Int32) < 0 ∨ cl5.slots.size ≤ ((3 : Int32)).toNatClampNeg) := inb_of S5 ⟨by decide, by decide⟩
        obtain ⟨T5, h5, X5, e5, W5, st5⟩ := stB X4 hx hZ e4 Ar5 (j := (3 : Int32)) hin5 (g := (mkF m 50 #[.val (.long x), .second, .val (.ref a), .val (.int (1 : Int32)), .val (.long (own_s (own_s x))), .second, .val (.int (4 : Int32))] [(.int (((own_s (own_s x)).toInt32).toInt8.toInt32)), (.int (3 : Int32)), (.ref a)])) rfl rfl (hb hby d2_50)
        have V5 : Arv Z h5 a kk .byte (14 : Int32) [(.int z), (.int ((((x ||| (128 : Int64)).toInt32).toInt8.toInt32).toInt8.toInt32)), (.int (((((own_s x) ||| (128 : Int64)).toInt32).toInt8.toInt32).toInt8.toInt32)), (.int ((((own_s (own_s x)).toInt32).toInt8.toInt32).toInt8.toInt32)), (.int z), (.int z), (.int z), (.int z), (.int z), (.int z), (.int z), (.int z), (.int z), (.int z)] (.int (0 : Int32)) := Arv.set Ar5 q5 S5 M5 H5 G5 (fits_nar_byte _) W5 3 rfl (Nat.le_of_ble_eq_true rfl)
        have K5 : Keep h0 h5 [a] := K4.wr W5 (Or.inl (List.mem_of_getElem? (i := 0) rfl))
        have Z5 : n0 ≤ h5.size := Nat.le_trans Z0 K5.1
        have N5 := Fr.snoc X5 N4 g_a
        obtain ⟨J5, X5, N5⟩ := own_hide X5 N5
        refine own_Go.of (g' := (mkF m 51 #[.val (.long x), .second, .val (.ref a), .val (.int (1 : Int32)), .val (.long (own_s (own_s x))), .second, .val (.int (4 : Int32))] [])) (fun t k => st5 _ k) ?_
        refine og_iload (pc' := 53) X5 hx (hb hby d2_51) rfl rfl ?_
        obtain ⟨fs, hr, hrun, hended, hW, hsame⟩ := X5.leave (v := some (.int (4 : Int32))) (fun h => by rw [Bd.returns] at h; cases h) (BodyLoose.notSynchronized Bd)
        refine ⟨_, _, retI X5 hx Bd.returns (hb hby d2_53) hr, hrun, hended, some (.int (4 : Int32)), _, rfl, ?_, ⟨_, rfl⟩, hW, hsame.mono (by decide) (by decide)⟩
        show Qwr1 Z x a kk z h0 n0 _ T5.heap _
        rw [e5]
        exact ⟨(congrArg (fun q => some (Value.int q)) (by rw [own_len_3 x hpos hc12_1 hc12_2 hc12_3]; decide)), N5, K5, (by rw [own_lst_1_3 x z hc12_1 hc12_2 hc12_3]; exact V5)⟩
      · refine og_ifNo (pc' := 15) X4 hx (hb hby d2_12) ((if0 _ _).trans (flt (fun q => hc12_3 ((lw_lt _ _).mp q))).1) rfl ?_
        refine og_aloadN (pc' := 16) X4 hx (hb hby d2_15) rfl rfl rfl ?_
        refine og_iload (pc' := 18) X4 hx (hb hby d2_16) rfl rfl ?_
        refine og_iinc (pc' := 21) (L' := #[.val (.long x), .second, .val (.ref a), .val (.int (1 : Int32)), .val (.long (own_s (own_s x))), .second, .val (.int ((3 : Int32) + (1 : Int32)))]) X4 hx (hb hby d2_18) rfl rfl rfl ?_
        rw [show ((3 : Int32) + (1 : Int32)) = (4 : Int32) from by decide]
        refine og_lload (pc' := 23) X4 hx (hb hby d2_21) rfl rfl ?_
        refine og_ldc2_w (pc' := 26) X4 hx (hb hby d2_23) hown (mvT hZ (hw _ (List.mem_of_getElem? (i := 11) rfl))) rfl ?_
        refine og_lor (pc' := 27) X4 hx (hb hby d2_26) rfl ?_
        refine og_l2i (pc' := 28) X4 hx (hb hby d2_27) rfl ?_
        refine og_i2b (pc' := 29) X4 hx (hb hby d2_28) rfl ?_
        obtain ⟨cl6, Ar6, q6, S6, M6, H6, G6⟩ := id V4
        have hin6 : ¬ ((3 : Int32) < 0 ∨ cl6.slots.size ≤ ((3 : Int32)).toNatClampNeg) := inb_of S6 ⟨by decide, by decide⟩
        obtain ⟨T6, h6, X6, e6, W6, st6⟩ := stB X4 hx hZ e4 Ar6 (j := (3 : Int32)) hin6 (g := (mkF m 29 #[.val (.long x), .second, .val (.ref a), .val (.int (1 : Int32)), .val (.long (own_s (own_s x))), .second, .val (.int (4 : Int32))] [(.int ((((own_s (own_s x)) ||| (128 : Int64)).toInt32).toInt8.toInt32)), (.int (3 : Int32)), (.ref a)])) rfl rfl (hb hby d2_29)
        have V6 : Arv Z h6 a kk .byte (14 : Int32) [(.int z), (.int ((((x ||| (128 : Int64)).toInt32).toInt8.toInt32).toInt8.toInt32)), (.int (((((own_s x) ||| (128 : Int64)).toInt32).toInt8.toInt32).toInt8.toInt32)), (.int (((((own_s (own_s x)) ||| (128 : Int64)).toInt32).toInt8.toInt32).toInt8.toInt32)), (.int z), (.int z), (.int z), (.int z), (.int z), (.int z), (.int z), (.int z), (.int z), (.int z)] (.int (0 : Int32)) := Arv.set Ar6 q6 S6 M6 H6 G6 (fits_nar_byte _) W6 3 rfl (Nat.le_of_ble_eq_true rfl)
        have K6 : Keep h0 h6 [a] := K4.wr W6 (Or.inl (List.mem_of_getElem? (i := 0) rfl))
        have Z6 : n0 ≤ h6.size := Nat.le_trans Z0 K6.1
        have N6 := Fr.snoc X6 N4 g_a
        obtain ⟨J6, X6, N6⟩ := own_hide X6 N6
        refine own_Go.of (g' := (mkF m 30 #[.val (.long x), .second, .val (.ref a), .val (.int (1 : Int32)), .val (.long (own_s (own_s x))), .second, .val (.int (4 : Int32))] [])) (fun t k => st6 _ k) ?_
        refine og_lload (pc' := 32) X6 hx (hb hby d2_30) rfl rfl ?_
        refine og_bipush (pc' := 34) (n := 7) X6 hx (hb hby d2_32) rfl rfl ?_
        refine own_Go.of (g' := (mkF m 35 #[.val (.long x), .second, .val (.ref a), .val (.int (1 : Int32)), .val (.long (own_s (own_s x))), .second, .val (.int (4 : Int32))] [(.long (own_s (own_s (own_s x))))])) (fun t k => XS.lushr X6.here hx rfl (hb hby d2_34) rfl k) ?_
        refine og_lstore (pc' := 37) (L' := #[.val (.long x), .second, .val (.ref a), .val (.int (1 : Int32)), .val (.long (own_s (own_s (own_s x)))), .second, .val (.int (4 : Int32))]) X6 hx (hb hby d2_35) rfl rfl ?_
        refine og_goto (pc' := 6) X6 hx (hb hby d2_37) (by decide) (by decide) ?_
        refine og_lload (pc' := 8) X6 hx (hb hby d2_6) rfl rfl ?_
        refine og_ldc2_w (pc' := 11) X6 hx (hb hby d2_8) hown (mvT hZ (hw _ (List.mem_of_getElem? (i := 11) rfl))) rfl ?_
        refine og_lcmp (pc' := 12) X6 hx (hb hby d2_11) rfl ?_
        by_cases hc12_4 : (own_s (own_s (own_s x))) < (128 : Int64)
        · refine og_ifYes (pc' := 40) X6 hx (hb hby d2_12) ((if0 _ _).trans (tlt ((lw_lt _ _).mpr hc12_4)).1) (by decide) (by decide) ?_
          refine og_aloadN (pc' := 41) X6 hx (hb hby d2_40) rfl rfl rfl ?_
          refine og_iload (pc' := 43) X6 hx (hb hby d2_41) rfl rfl ?_
          refine og_iinc (pc' := 46) (L' := #[.val (.long x), .second, .val (.ref a), .val (.int (1 : Int32)), .val (.long (own_s (own_s (own_s x)))), .second, .val (.int ((4 : Int32) + (1 : Int32)))]) X6 hx (hb hby d2_43) rfl rfl rfl ?_
          rw [show ((4 : Int32) + (1 : Int32)) = (5 : Int32) from by decide]
          refine og_lload (pc' := 48) X6 hx (hb hby d2_46) rfl rfl ?_
          refine og_l2i (pc' := 49) X6 hx (hb hby d2_48) rfl ?_
          refine og_i2b (pc' := 50) X6 hx (hb hby d2_49) rfl ?_
          obtain ⟨cl7, Ar7, q7, S7, M7, H7, G7⟩ := id V6
          have hin7 : ¬ ((4 : Int32) < 0 ∨ cl7.slots.size ≤ ((4 : Int32)).toNatClampNeg) := inb_of S7 ⟨by decide, by decide⟩
          obtain ⟨T7, h7, X7, e7, W7, st7⟩ := stB X6 hx hZ e6 Ar7 (j := (4 : Int32)) hin7 (g := (mkF m 50 #[.val (.long x), .second, .val (.ref a), .val (.int (1 : Int32)), .val (.long (own_s (own_s (own_s x)))), .second, .val (.int (5 : Int32))] [(.int (((own_s (own_s (own_s x))).toInt32).toInt8.toInt32)), (.int (4 : Int32)), (.ref a)])) rfl rfl (hb hby d2_50)
          have V7 : Arv Z h7 a kk .byte (14 : Int32) [(.int z), (.int ((((x ||| (128 : Int64)).toInt32).toInt8.toInt32).toInt8.toInt32)), (.int (((((own_s x) ||| (128 : Int64)).toInt32).toInt8.toInt32).toInt8.toInt32)), (.int (((((own_s (own_s x)) ||| (128 : Int64)).toInt32).toInt8.toInt32).toInt8.toInt32)), (.int ((((own_s (own_s (own_s x))).toInt32).toInt8.toInt32).toInt8.toInt32)), (.int z), (.int z), (.int z), (.int z), (.int z), (.int z), (.int z), (.int z), (.int z)] (.int (0 : Int32)) := Arv.set Ar7 q7 S7 M7 H7 G7 (fits_nar_byte _) W7 4 rfl (Nat.le_of_ble_eq_true rfl)
          have K7 : Keep h0 h7 [a] := K6.wr W7 (Or.inl (List.mem_of_getElem? (i := 0) rfl))
          have Z7 : n0 ≤ h7.size := Nat.le_trans Z0 K7.1
          have N7 := Fr.snoc X7 N6 g_a
          obtain ⟨J7, X7, N7⟩ := own_hide X7 N7
          refine own_Go.of (g' := (mkF m 51 #[.val (.long x), .second, .val (.ref a), .val (.int (1 : Int32)), .val (.long (own_s (own_s (own_s x)))), .second, .val (.int (5 : Int32))] [])) (fun t k => st7 _ k) ?_
          refine og_iload (pc' := 53) X7 hx (hb hby d2_51) rfl rfl ?_
          obtain ⟨fs, hr, hrun, hended, hW, hsame⟩ := X7.leave (v := some (.int (5 : Int32))) (fun h => by rw [Bd.returns] at h; cases h) (BodyLoose.notSynchronized Bd)
          refine ⟨_, _, retI X7 hx Bd.returns (hb hby d2_53) hr, hrun, hended, some (.int (5 : Int32)), _, rfl, ?_, ⟨_, rfl⟩, hW, hsame.mono (by decide) (by decide)⟩
          show Qwr1 Z x a kk z h0 n0 _ T7.heap _
          rw [e7]
          exact ⟨(congrArg (fun q => some (Value.int q)) (by rw [own_len_4 x hpos hc12_1 hc12_2 hc12_3 hc12_4]; decide)), N7, K7, (by rw [own_lst_1_4 x z hc12_1 hc12_2 hc12_3 hc12_4]; exact V7)⟩
        · refine og_ifNo (pc' := 15) X6 hx (hb hby d2_12) ((if0 _ _).trans (flt (fun q => hc12_4 ((lw_lt _ _).mp q))).1) rfl ?_
          refine og_aloadN (pc' := 16) X6 hx (hb hby d2_15) rfl rfl rfl ?_
          refine og_iload (pc' := 18) X6 hx (hb hby d2_16) rfl rfl ?_
          refine og_iinc (pc' := 21) (L' := #[.val (.long x), .second, .val (.ref a), .val (.int (1 : Int32)), .val (.long (own_s (own_s (own_s x)))), .second, .val (.int ((4 : Int32) + (1 : Int32)))]) X6 hx (hb hby d2_18) rfl rfl rfl ?_
          rw [show ((4 : Int32) + (1 : Int32)) = (5 : Int32) from by decide]
          refine og_lload (pc' := 23) X6 hx (hb hby d2_21) rfl rfl ?_
          refine og_ldc2_w (pc' := 26) X6 hx (hb hby d2_23) hown (mvT hZ (hw _ (List.mem_of_getElem? (i := 11) rfl))) rfl ?_
          refine og_lor (pc' := 27) X6 hx (hb hby d2_26) rfl ?_
          refine og_l2i (pc' := 28) X6 hx (hb hby d2_27) rfl ?_
          refine og_i2b (pc' := 29) X6 hx (hb hby d2_28) rfl ?_
          obtain ⟨cl8, Ar8, q8, S8, M8, H8, G8⟩ := id V6
          have hin8 : ¬ ((4 : Int32) < 0 ∨ cl8.slots.size ≤ ((4 : Int32)).toNatClampNeg) := inb_of S8 ⟨by decide, by decide⟩
          obtain ⟨T8, h8, X8, e8, W8, st8⟩ := stB X6 hx hZ e6 Ar8 (j := (4 : Int32)) hin8 (g := (mkF m 29 #[.val (.long x), .second, .val (.ref a), .val (.int (1 : Int32)), .val (.long (own_s (own_s (own_s x)))), .second, .val (.int (5 : Int32))] [(.int ((((own_s (own_s (own_s x))) ||| (128 : Int64)).toInt32).toInt8.toInt32)), (.int (4 : Int32)), (.ref a)])) rfl rfl (hb hby d2_29)
          have V8 : Arv Z h8 a kk .byte (14 : Int32) [(.int z), (.int ((((x ||| (128 : Int64)).toInt32).toInt8.toInt32).toInt8.toInt32)), (.int (((((own_s x) ||| (128 : Int64)).toInt32).toInt8.toInt32).toInt8.toInt32)), (.int (((((own_s (own_s x)) ||| (128 : Int64)).toInt32).toInt8.toInt32).toInt8.toInt32)), (.int (((((own_s (own_s (own_s x))) ||| (128 : Int64)).toInt32).toInt8.toInt32).toInt8.toInt32)), (.int z), (.int z), (.int z), (.int z), (.int z), (.int z), (.int z), (.int z), (.int z)] (.int (0 : Int32)) := Arv.set Ar8 q8 S8 M8 H8 G8 (fits_nar_byte _) W8 4 rfl (Nat.le_of_ble_eq_true rfl)
          have K8 : Keep h0 h8 [a] := K6.wr W8 (Or.inl (List.mem_of_getElem? (i := 0) rfl))
          have Z8 : n0 ≤ h8.size := Nat.le_trans Z0 K8.1
          have N8 := Fr.snoc X8 N6 g_a
          obtain ⟨J8, X8, N8⟩ := own_hide X8 N8
          refine own_Go.of (g' := (mkF m 30 #[.val (.long x), .second, .val (.ref a), .val (.int (1 : Int32)), .val (.long (own_s (own_s (own_s x)))), .second, .val (.int (5 : Int32))] [])) (fun t k => st8 _ k) ?_
          refine og_lload (pc' := 32) X8 hx (hb hby d2_30) rfl rfl ?_
          refine og_bipush (pc' := 34) (n := 7) X8 hx (hb hby d2_32) rfl rfl ?_
          refine own_Go.of (g' := (mkF m 35 #[.val (.long x), .second, .val (.ref a), .val (.int (1 : Int32)), .val (.long (own_s (own_s (own_s x)))), .second, .val (.int (5 : Int32))] [(.long (own_s (own_s (own_s (own_s x)))))])) (fun t k => XS.lushr X8.here hx rfl (hb hby d2_34) rfl k) ?_
          refine og_lstore (pc' := 37) (L' := #[.val (.long x), .second, .val (.ref a), .val (.int (1 : Int32)), .val (.long (own_s (own_s (own_s (own_s x))))), .second, .val (.int (5 : Int32))]) X8 hx (hb hby d2_35) rfl rfl ?_
          refine og_goto (pc' := 6) X8 hx (hb hby d2_37) (by decide) (by decide) ?_
          refine og_lload (pc' := 8) X8 hx (hb hby d2_6) rfl rfl ?_
          refine og_ldc2_w (pc' := 11) X8 hx (hb hby d2_8) hown (mvT hZ (hw _ (List.mem_of_getElem? (i := 11) rfl))) rfl ?_
          refine og_lcmp (pc' := 12) X8 hx (hb hby d2_11) rfl ?_
          by_cases hc12_5 : (own_s (own_s (own_s (own_s x)))) < (128 : Int64)
          · refine og_ifYes (pc' := 40) X8 hx (hb hby d2_12) ((if0 _ _).trans (tlt ((lw_lt _ _).mpr hc12_5)).1) (by decide) (by decide) ?_
            refine og_aloadN (pc' := 41) X8 hx (hb hby d2_40) rfl rfl rfl ?_
            refine og_iload (pc' := 43) X8 hx (hb hby d2_41) rfl rfl ?_
            refine og_iinc (pc' := 46) (L' := #[.val (.long x), .second, .val (.ref a), .val (.int (1 : Int32)), .val (.long (own_s (own_s (own_s (own_s x))))), .second, .val (.int ((5 : Int32) + (1 : Int32)))]) X8 hx (hb hby d2_43) rfl rfl rfl ?_
            rw [show ((5 : Int32) + (1 : Int32)) = (6 : Int32) from by decide]
            refine og_lload (pc' := 48) X8 hx (hb hby d2_46) rfl rfl ?_
            refine og_l2i (pc' := 49) X8 hx (hb hby d2_48) rfl ?_
            refine og_i2b (pc' := 50) X8 hx (hb hby d2_49) rfl ?_
            obtain ⟨cl9, Ar9, q9, S9, M9, H9, G9⟩ := id V8
            have hin9 : ¬ ((5 : Int32) < 0 ∨ cl9.slots.size ≤ ((5 : Int32)).toNatClampNeg) := inb_of S9 ⟨by decide, by decide⟩
            obtain ⟨T9, h9, X9, e9, W9, st9⟩ := stB X8 hx hZ e8 Ar9 (j := (5 : Int32)) hin9 (g := (mkF m 50 #[.val (.long x), .second, .val (.ref a), .val (.int (1 : Int32)), .val (.long (own_s (own_s (own_s (own_s x))))), .second, .val (.int (6 : Int32))] [(.int (((own_s (own_s (own_s (own_s x)))).toInt32).toInt8.toInt32)), (.int (5 : Int32)), (.ref a)])) rfl rfl (hb hby d2_50)
            have V9 : Arv Z h9 a kk .byte (14 : Int32) [(.int z), (.int ((((x ||| (128 : Int64)).toInt32).toInt8.toInt32).toInt8.toInt32)), (.int (((((own_s x) ||| (128 : Int64)).toInt32).toInt8.toInt32).toInt8.toInt32)), (.int (((((own_s (own_s x)) ||| (128 : Int64)).toInt32).toInt8.toInt32).toInt8.toInt32)), (.int (((((own_s (own_s (own_s x))) ||| (128 : Int64)).toInt32).toInt8.toInt32).toInt8.toInt32)), (.int ((((own_s (own_s (own_s (own_s x)))).toInt32).toInt8.toInt32).toInt8.toInt32)), (.int z), (.int z), (.int z), (.int z), (.int z), (.int z), (.int z), (.int z)] (.int (0 : Int32)) := Arv.set Ar9 q9 S9 M9 H9 G9 (fits_nar_byte _) W9 5 rfl (Nat.le_of_ble_eq_true rfl)
            have K9 : Keep h0 h9 [a] := K8.wr W9 (Or.inl (List.mem_of_getElem? (i := 0) rfl))
            have Z9 : n0 ≤ h9.size := Nat.le_trans Z0 K9.1
            have N9 := Fr.snoc X9 N8 g_a
            obtain ⟨J9, X9, N9⟩ := own_hide X9 N9
            refine own_Go.of (g' := (mkF m 51 #[.val (.long x), .second, .val (.ref a), .val (.int (1 : Int32)), .val (.long (own_s (own_s (own_s (own_s x))))), .second, .val (.int (6 : Int32))] [])) (fun t k => st9 _ k) ?_
            refine og_iload (pc' := 53) X9 hx (hb hby d2_51) rfl rfl ?_
            obtain ⟨fs, hr, hrun, hended, hW, hsame⟩ := X9.leave (v := some (.int (6 : Int32))) (fun h => by rw [Bd.returns] at h; cases h) (BodyLoose.notSynchronized Bd)
            refine ⟨_, _, retI X9 hx Bd.returns (hb hby d2_53) hr, hrun, hended, some (.int (6 : Int32)), _, rfl, ?_, ⟨_, rfl⟩, hW, hsame.mono (by decide) (by decide)⟩
            show Qwr1 Z x a kk z h0 n0 _ T9.heap _
            rw [e9]
            exact ⟨(congrArg (fun q => some (Value.int q)) (by rw [own_len_5 x hpos hc12_1 hc12_2 hc12_3 hc12_4 hc12_5]; decide)), N9, K9, (by rw [own_lst_1_5 x z hc12_1 hc12_2 hc12_3 hc12_4 hc12_5]; exact V9)⟩
          · refine og_ifNo (pc' := 15) X8 hx (hb hby d2_12) ((if0 _ _).trans (flt (fun q => hc12_5 ((lw_lt _ _).mp q))).1) rfl ?_
            refine og_aloadN (pc' := 16) X8 hx (hb hby d2_15) rfl rfl rfl ?_
            refine og_iload (pc' := 18) X8 hx (hb hby d2_16) rfl rfl ?_
            refine og_iinc (pc' := 21) (L' := #[.val (.long x), .second, .val (.ref a), .val (.int (1 : Int32)), .val (.long (own_s (own_s (own_s (own_s x))))), .second, .val (.int ((5 : Int32) + (1 : Int32)))]) X8 hx (hb hby d2_18) rfl rfl rfl ?_
            rw [show ((5 : Int32) + (1 : Int32)) = (6 : Int32) from by decide]
            refine og_lload (pc' := 23) X8 hx (hb hby d2_21) rfl rfl ?_
            refine og_ldc2_w (pc' := 26) X8 hx (hb hby d2_23) hown (mvT hZ (hw _ (List.mem_of_getElem? (i := 11) rfl))) rfl ?_
            refine og_lor (pc' := 27) X8 hx (hb hby d2_26) rfl ?_
            refine og_l2i (pc' := 28) X8 hx (hb hby d2_27) rfl ?_
            refine og_i2b (pc' := 29) X8 hx (hb hby d2_28) rfl ?_
            obtain ⟨cl10, Ar10, q10, S10, M10, H10, G10⟩ := id V8
            have hin10 : ¬ ((5 : Int32) < 0 ∨ cl10.slots.size ≤ ((5 : Int32)).toNatClampNeg) := inb_of S10 ⟨by decide, by decide⟩
            obtain ⟨T10, h10, X10, e10, W10, st10⟩ := stB X8 hx hZ e8 Ar10 (j := (5 : Int32)) hin10 (g := (mkF m 29 #[.val (.long x), .second, .val (.ref a), .val (.int (1 : Int32)), .val (.long (own_s (own_s (own_s (own_s x))))), .second, .val (.int (6 : Int32))] [(.int ((((own_s (own_s (own_s (own_s x)))) ||| (128 : Int64)).toInt32).toInt8.toInt32)), (.int (5 : Int32)), (.ref a)])) rfl rfl (hb hby d2_29)
            have V10 : Arv Z h10 a kk .byte (14 : Int32) [(.int z), (.int ((((x ||| (128 : Int64)).toInt32).toInt8.toInt32).toInt8.toInt32)), (.int (((((own_s x) ||| (128 : Int64)).toInt32).toInt8.toInt32).toInt8.toInt32)), (.int (((((own_s (own_s x)) ||| (128 : Int64)).toInt32).toInt8.toInt32).toInt8.toInt32)), (.int (((((own_s (own_s (own_s x))) ||| (128 : Int64)).toInt32).toInt8.toInt32).toInt8.toInt32)), (.int (((((own_s (own_s (own_s (own_s x)))) ||| (128 : Int64)).toInt32).toInt8.toInt32).toInt8.toInt32)), (.int z), (.int z), (.int z), (.int z), (.int z), (.int z), (.int z), (.int z)] (.int (0 : Int32)) := Arv.set Ar10 q10 S10 M10 H10 G10 (fits_nar_byte _) W10 5 rfl (Nat.le_of_ble_eq_true rfl)
            have K10 : Keep h0 h10 [a] := K8.wr W10 (Or.inl (List.mem_of_getElem? (i := 0) rfl))
            have Z10 : n0 ≤ h10.size := Nat.le_trans Z0 K10.1
            have N10 := Fr.snoc X10 N8 g_a
            obtain ⟨J10, X10, N10⟩ := own_hide X10 N10
            refine own_Go.of (g' := (mkF m 30 #[.val (.long x), .second, .val (.ref a), .val (.int (1 : Int32)), .val (.long (own_s (own_s (own_s (own_s x))))), .second, .val (.int (6 : Int32))] [])) (fun t k => st10 _ k) ?_
            refine og_lload (pc' := 32) X10 hx (hb hby d2_30) rfl rfl ?_
            refine og_bipush (pc' := 34) (n := 7) X10 hx (hb hby d2_32) rfl rfl ?_
            refine own_Go.of (g' := (mkF m 35 #[.val (.long x), .second, .val (.ref a), .val (.int (1 : Int32)), .val (.long (own_s (own_s (own_s (own_s x))))), .second, .val (.int (6 : Int32))] [(.long (own_s (own_s (own_s (own_s (own_s x))))))])) (fun t k => XS.lushr X10.here hx rfl (hb hby d2_34) rfl k) ?_
            refine og_lstore (pc' := 37) (L' := #[.val (.long x), .second, .val (.ref a), .val (.int (1 : Int32)), .val (.long (own_s (own_s (own_s (own_s (own_s x)))))), .second, .val (.int (6 : Int32))]) X10 hx (hb hby d2_35) rfl rfl ?_
            refine og_goto (pc' := 6) X10 hx (hb hby d2_37) (by decide) (by decide) ?_
            refine og_lload (pc' := 8) X10 hx (hb hby d2_6) rfl rfl ?_
            refine og_ldc2_w (pc' := 11) X10 hx (hb hby d2_8) hown (mvT hZ (hw _ (List.mem_of_getElem? (i := 11) rfl))) rfl ?_
            refine og_lcmp (pc' := 12) X10 hx (hb hby d2_11) rfl ?_
            by_cases hc12_6 : (own_s (own_s (own_s (own_s (own_s x))))) < (128 : Int64)
            · refine og_ifYes (pc' := 40) X10 hx (hb hby d2_12) ((if0 _ _).trans (tlt ((lw_lt _ _).mpr hc12_6)).1) (by decide) (by decide) ?_
              refine og_aloadN (pc' := 41) X10 hx (hb hby d2_40) rfl rfl rfl ?_
              refine og_iload (pc' := 43) X10 hx (hb hby d2_41) rfl rfl ?_
              refine og_iinc (pc' := 46) (L' := #[.val (.long x), .second, .val (.ref a), .val (.int (1 : Int32)), .val (.long (own_s (own_s (own_s (own_s (own_s x)))))), .second, .val (.int ((6 : Int32) + (1 : Int32)))]) X10 hx (hb hby d2_43) rfl rfl rfl ?_
              rw [show ((6 : Int32) + (1 : Int32)) = (7 : Int32) from by decide]
              refine og_lload (pc' := 48) X10 hx (hb hby d2_46) rfl rfl ?_
              refine og_l2i (pc' := 49) X10 hx (hb hby d2_48) rfl ?_
              refine og_i2b (pc' := 50) X10 hx (hb hby d2_49) rfl ?_
              obtain ⟨cl11, Ar11, q11, S11, M11, H11, G11⟩ := id V10
              have hin11 : ¬ ((6 : Int32) < 0 ∨ cl11.slots.size ≤ ((6 : Int32)).toNatClampNeg) := inb_of S11 ⟨by decide, by decide⟩
              obtain ⟨T11, h11, X11, e11, W11, st11⟩ := stB X10 hx hZ e10 Ar11 (j := (6 : Int32)) hin11 (g := (mkF m 50 #[.val (.long x), .second, .val (.ref a), .val (.int (1 : Int32)), .val (.long (own_s (own_s (own_s (own_s (own_s x)))))), .second, .val (.int (7 : Int32))] [(.int (((own_s (own_s (own_s (own_s (own_s x))))).toInt32).toInt8.toInt32)), (.int (6 : Int32)), (.ref a)])) rfl rfl (hb hby d2_50)
              have V11 : Arv Z h11 a kk .byte (14 : Int32) [(.int z), (.int ((((x ||| (128 : Int64)).toInt32).toInt8.toInt32).toInt8.toInt32)), (.int (((((own_s x) ||| (128 : Int64)).toInt32).toInt8.toInt32).toInt8.toInt32)), (.int (((((own_s (own_s x)) ||| (128 : Int64)).toInt32).toInt8.toInt32).toInt8.toInt32)), (.int (((((own_s (own_s (own_s x))) ||| (128 : Int64)).toInt32).toInt8.toInt32).toInt8.toInt32)), (.int (((((own_s (own_s (own_s (own_s x)))) ||| (128 : Int64)).toInt32).toInt8.toInt32).toInt8.toInt32)), (.int ((((own_s (own_s (own_s (own_s (own_s x))))).toInt32).toInt8.toInt32).toInt8.toInt32)), (.int z), (.int z), (.int z), (.int z), (.int z), (.int z), (.int z)] (.int (0 : Int32)) := Arv.set Ar11 q11 S11 M11 H11 G11 (fits_nar_byte _) W11 6 rfl (Nat.le_of_ble_eq_true rfl)
              have K11 : Keep h0 h11 [a] := K10.wr W11 (Or.inl (List.mem_of_getElem? (i := 0) rfl))
              have Z11 : n0 ≤ h11.size := Nat.le_trans Z0 K11.1
              have N11 := Fr.snoc X11 N10 g_a
              obtain ⟨J11, X11, N11⟩ := own_hide X11 N11
              refine own_Go.of (g' := (mkF m 51 #[.val (.long x), .second, .val (.ref a), .val (.int (1 : Int32)), .val (.long (own_s (own_s (own_s (own_s (own_s x)))))), .second, .val (.int (7 : Int32))] [])) (fun t k => st11 _ k) ?_
              refine og_iload (pc' := 53) X11 hx (hb hby d2_51) rfl rfl ?_
              obtain ⟨fs, hr, hrun, hended, hW, hsame⟩ := X11.leave (v := some (.int (7 : Int32))) (fun h => by rw [Bd.returns] at h; cases h) (BodyLoose.notSynchronized Bd)
              refine ⟨_, _, retI X11 hx Bd.returns (hb hby d2_53) hr, hrun, hended, some (.int (7 : Int32)), _, rfl, ?_, ⟨_, rfl⟩, hW, hsame.mono (by decide) (by decide)⟩
              show Qwr1 Z x a kk z h0 n0 _ T11.heap _
              rw [e11]
              exact ⟨(congrArg (fun q => some (Value.int q)) (by rw [own_len_6 x hpos hc12_1 hc12_2 hc12_3 hc12_4 hc12_5 hc12_6]; decide)), N11, K11, (by rw [own_lst_1_6 x z hc12_1 hc12_2 hc12_3 hc12_4 hc12_5 hc12_6]; exact V11)⟩
            · refine og_ifNo (pc' := 15) X10 hx (hb hby d2_12) ((if0 _ _).trans (flt (fun q => hc12_6 ((lw_lt _ _).mp q))).1) rfl ?_
              refine og_aloadN (pc' := 16) X10 hx (hb hby d2_15) rfl rfl rfl ?_
              refine og_iload (pc' := 18) X10 hx (hb hby d2_16) rfl rfl ?_
              refine og_iinc (pc' := 21) (L' := #[.val (.long x), .second, .val (.ref a), .val (.int (1 : Int32)), .val (.long (own_s (own_s (own_s (own_s (own_s x)))))), .second, .val (.int ((6 : Int32) + (1 : Int32)))]) X10 hx (hb hby d2_18) rfl rfl rfl ?_
              rw [show ((6 : Int32) + (1 : Int32)) = (7 : Int32) from by decide]
              refine og_lload (pc' := 23) X10 hx (hb hby d2_21) rfl rfl ?_
              refine og_ldc2_w (pc' := 26) X10 hx (hb hby d2_23) hown (mvT hZ (hw _ (List.mem_of_getElem? (i := 11) rfl))) rfl ?_
              refine og_lor (pc' := 27) X10 hx (hb hby d2_26) rfl ?_
              refine og_l2i (pc' := 28) X10 hx (hb hby d2_27) rfl ?_
              refine og_i2b (pc' := 29) X10 hx (hb hby d2_28) rfl ?_
              obtain ⟨cl12, Ar12, q12, S12, M12, H12, G12⟩ := id V10
              have hin12 : ¬ ((6 : Int32) < 0 ∨ cl12.slots.size ≤ ((6 : Int32)).toNatClampNeg) := inb_of S12 ⟨by decide, by decide⟩
              obtain ⟨T12, h12, X12, e12, W12, st12⟩ := stB X10 hx hZ e10 Ar12 (j := (6 : Int32)) hin12 (g := (mkF m 29 #[.val (.long x), .second, .val (.ref a), .val (.int (1 : Int32)), .val (.long (own_s (own_s (own_s (own_s (own_s x)))))), .second, .val (.int (7 : Int32))] [(.int ((((own_s (own_s (own_s (own_s (own_s x))))) ||| (128 : Int64)).toInt32).toInt8.toInt32)), (.int (6 : Int32)), (.ref a)])) rfl rfl (hb hby d2_29)
              have V12 : Arv Z h12 a kk .byte (14 : Int32) [(.int z), (.int ((((x ||| (128 : Int64)).toInt32).toInt8.toInt32).toInt8.toInt32)), (.int (((((own_s x) ||| (128 : Int64)).toInt32).toInt8.toInt32).toInt8.toInt32)), (.int (((((own_s (own_s x)) ||| (128 : Int64)).toInt32).toInt8.toInt32).toInt8.toInt32)), (.int (((((own_s (own_s (own_s x))) ||| (128 : Int64)).toInt32).toInt8.toInt32).toInt8.toInt32)), (.int (((((own_s (own_s (own_s (own_s x)))) ||| (128 : Int64)).toInt32).toInt8.toInt32).toInt8.toInt32)), (.int (((((own_s (own_s (own_s (own_s (own_s x))))) ||| (128 : Int64)).toInt32).toInt8.toInt32).toInt8.toInt32)), (.int z), (.int z), (.int z), (.int z), (.int z), (.int z), (.int z)] (.int (0 : Int32)) := Arv.set Ar12 q12 S12 M12 H12 G12 (fits_nar_byte _) W12 6 rfl (Nat.le_of_ble_eq_true rfl)
              have K12 : Keep h0 h12 [a] := K10.wr W12 (Or.inl (List.mem_of_getElem? (i := 0) rfl))
              have Z12 : n0 ≤ h12.size := Nat.le_trans Z0 K12.1
              have N12 := Fr.snoc X12 N10 g_a
              obtain ⟨J12, X12, N12⟩ := own_hide X12 N12
              refine own_Go.of (g' := (mkF m 30 #[.val (.long x), .second, .val (.ref a), .val (.int (1 : Int32)), .val (.long (own_s (own_s (own_s (own_s (own_s x)))))), .second, .val (.int (7 : Int32))] [])) (fun t k => st12 _ k) ?_
              refine og_lload (pc' := 32) X12 hx (hb hby d2_30) rfl rfl ?_
              refine og_bipush (pc' := 34) (n := 7) X12 hx (hb hby d2_32) rfl rfl ?_
              refine own_Go.of (g' := (mkF m 35 #[.val (.long x), .second, .val (.ref a), .val (.int (1 : Int32)), .val (.long (own_s (own_s (own_s (own_s (own_s x)))))), .second, .val (.int (7 : Int32))] [(.long (own_s (own_s (own_s (own_s (own_s (own_s x)))))))])) (fun t k => XS.lushr X12.here hx rfl (hb hby d2_34) rfl k) ?_
              refine og_lstore (pc' := 37) (L' := #[.val (.long x), .second, .val (.ref a), .val (.int (1 : Int32)), .val (.long (own_s (own_s (own_s (own_s (own_s (own_s x))))))), .second, .val (.int (7 : Int32))]) X12 hx (hb hby d2_35) rfl rfl ?_
              refine og_goto (pc' := 6) X12 hx (hb hby d2_37) (by decide) (by decide) ?_
              refine og_lload (pc' := 8) X12 hx (hb hby d2_6) rfl rfl ?_
              refine og_ldc2_w (pc' := 11) X12 hx (hb hby d2_8) hown (mvT hZ (hw _ (List.mem_of_getElem? (i := 11) rfl))) rfl ?_
              refine og_lcmp (pc' := 12) X12 hx (hb hby d2_11) rfl ?_
              by_cases hc12_7 : (own_s (own_s (own_s (own_s (own_s (own_s x)))))) < (128 : Int64)
              · refine og_ifYes (pc' := 40) X12 hx (hb hby d2_12) ((if0 _ _).trans (tlt ((lw_lt _ _).mpr hc12_7)).1) (by decide) (by decide) ?_
                refine og_aloadN (pc' := 41) X12 hx (hb hby d2_40) rfl rfl rfl ?_
                refine og_iload (pc' := 43) X12 hx (hb hby d2_41) rfl rfl ?_
                refine og_iinc (pc' := 46) (L' := #[.val (.long x), .second, .val (.ref a), .val (.int (1 : Int32)), .val (.long (own_s (own_s (own_s (own_s (own_s (own_s x))))))), .second, .val (.int ((7 : Int32) + (1 : Int32)))]) X12 hx (hb hby d2_43) rfl rfl rfl ?_
                rw [show ((7 : Int32) + (1 : Int32)) = (8 : Int32) from by decide]
                refine og_lload (pc' := 48) X12 hx (hb hby d2_46) rfl rfl ?_
                refine og_l2i (pc' := 49) X12 hx (hb hby d2_48) rfl ?_
                refine og_i2b (pc' := 50) X12 hx (hb hby d2_49) rfl ?_
                obtain ⟨cl13, Ar13, q13, S13, M13, H13, G13⟩ := id V12
                have hin13 : ¬ ((7 : Int32) < 0 ∨ cl13.slots.size ≤ ((7 : Int32)).toNatClampNeg) := inb_of S13 ⟨by decide, by decide⟩
                obtain ⟨T13, h13, X13, e13, W13, st13⟩ := stB X12 hx hZ e12 Ar13 (j := (7 : Int32)) hin13 (g := (mkF m 50 #[.val (.long x), .second, .val (.ref a), .val (.int (1 : Int32)), .val (.long (own_s (own_s (own_s (own_s (own_s (own_s x))))))), .second, .val (.int (8 : Int32))] [(.int (((own_s (own_s (own_s (own_s (own_s (own_s x)))))).toInt32).toInt8.toInt32)), (.int (7 : Int32)), (.ref a)])) rfl rfl (hb hby d2_50)
                have V13 : Arv Z h13 a kk .byte (14 : Int32) [(.int z), (.int ((((x ||| (128 : Int64)).toInt32).toInt8.toInt32).toInt8.toInt32)), (.int (((((own_s x) ||| (128 : Int64)).toInt32).toInt8.toInt32).toInt8.toInt32)), (.int (((((own_s (own_s x)) ||| (128 : Int64)).toInt32).toInt8.toInt32).toInt8.toInt32)), (.int (((((own_s (own_s (own_s x))) ||| (128 : Int64)).toInt32).toInt8.toInt32).toInt8.toInt32)), (.int (((((own_s (own_s (own_s (own_s x)))) ||| (128 : Int64)).toInt32).toInt8.toInt32).toInt8.toInt32)), (.int (((((own_s (own_s (own_s (own_s (own_s x))))) ||| (128 : Int64)).toInt32).toInt8.toInt32).toInt8.toInt32)), (.int ((((own_s (own_s (own_s (own_s (own_s (own_s x)))))).toInt32).toInt8.toInt32).toInt8.toInt32)), (.int z), (.int z), (.int z), (.int z), (.int z), (.int z)] (.int (0 : Int32)) := Arv.set Ar13 q13 S13 M13 H13 G13 (fits_nar_byte _) W13 7 rfl (Nat.le_of_ble_eq_true rfl)
                have K13 : Keep h0 h13 [a] := K12.wr W13 (Or.inl (List.mem_of_getElem? (i := 0) rfl))
                have Z13 : n0 ≤ h13.size := Nat.le_trans Z0 K13.1
                have N13 := Fr.snoc X13 N12 g_a
                obtain ⟨J13, X13, N13⟩ := own_hide X13 N13
                refine own_Go.of (g' := (mkF m 51 #[.val (.long x), .second, .val (.ref a), .val (.int (1 : Int32)), .val (.long (own_s (own_s (own_s (own_s (own_s (own_s x))))))), .second, .val (.int (8 : Int32))] [])) (fun t k => st13 _ k) ?_
                refine og_iload (pc' := 53) X13 hx (hb hby d2_51) rfl rfl ?_
                obtain ⟨fs, hr, hrun, hended, hW, hsame⟩ := X13.leave (v := some (.int (8 : Int32))) (fun h => by rw [Bd.returns] at h; cases h) (BodyLoose.notSynchronized Bd)
                refine ⟨_, _, retI X13 hx Bd.returns (hb hby d2_53) hr, hrun, hended, some (.int (8 : Int32)), _, rfl, ?_, ⟨_, rfl⟩, hW, hsame.mono (by decide) (by decide)⟩
                show Qwr1 Z x a kk z h0 n0 _ T13.heap _
                rw [e13]
                exact ⟨(congrArg (fun q => some (Value.int q)) (by rw [own_len_7 x hpos hc12_1 hc12_2 hc12_3 hc12_4 hc12_5 hc12_6 hc12_7]; decide)), N13, K13, (by rw [own_lst_1_7 x z hc12_1 hc12_2 hc12_3 hc12_4 hc12_5 hc12_6 hc12_7]; exact V13)⟩
              · refine og_ifNo (pc' := 15) X12 hx (hb hby d2_12) ((if0 _ _).trans (flt (fun q => hc12_7 ((lw_lt _ _).mp q))).1) rfl ?_
                refine og_aloadN (pc' := 16) X12 hx (hb hby d2_15) rfl rfl rfl ?_
                refine og_iload (pc' := 18) X12 hx (hb hby d2_16) rfl rfl ?_
                refine og_iinc (pc' := 21) (L' := #[.val (.long x), .second, .val (.ref a), .val (.int (1 : Int32)), .val (.long (own_s (own_s (own_s (own_s (own_s (own_s x))))))), .second, .val (.int ((7 : Int32) + (1 : Int32)))]) X12 hx (hb hby d2_18) rfl rfl rfl ?_
                rw [show ((7 : Int32) + (1 : Int32)) = (8 : Int32) from by decide]
                refine og_lload (pc' := 23) X12 hx (hb hby d2_21) rfl rfl ?_
                refine og_ldc2_w (pc' := 26) X12 hx (hb hby d2_23) hown (mvT hZ (hw _ (List.mem_of_getElem? (i := 11) rfl))) rfl ?_
                refine og_lor (pc' := 27) X12 hx (hb hby d2_26) rfl ?_
                refine og_l2i (pc' := 28) X12 hx (hb hby d2_27) rfl ?_
                refine og_i2b (pc' := 29) X12 hx (hb hby d2_28) rfl ?_
                obtain ⟨cl14, Ar14, q14, S14, M14, H14, G14⟩ := id V12
                have hin14 : ¬ ((7 : Int32) < 0 ∨ cl14.slots.size ≤ ((7 : Int32)).toNatClampNeg) := inb_of S14 ⟨by decide, by decide⟩
                obtain ⟨T14, h14, X14, e14, W14, st14⟩ := stB X12 hx hZ e12 Ar14 (j := (7 : Int32)) hin14 (g := (mkF m 29 #[.val (.long x), .second, .val (.ref a), .val (.int (1 : Int32)), .val (.long (own_s (own_s (own_s (own_s (own_s (own_s x))))))), .second, .val (.int (8 : Int32))] [(.int ((((own_s (own_s (own_s (own_s (own_s (own_s x)))))) ||| (128 : Int64)).toInt32).toInt8.toInt32)), (.int (7 : Int32)), (.ref a)])) rfl rfl (hb hby d2_29)
                have V14 : Arv Z h14 a kk .byte (14 : Int32) [(.int z), (.int ((((x ||| (128 : Int64)).toInt32).toInt8.toInt32).toInt8.toInt32)), (.int (((((own_s x) ||| (128 : Int64)).toInt32).toInt8.toInt32).toInt8.toInt32)), (.int (((((own_s (own_s x)) ||| (128 : Int64)).toInt32).toInt8.toInt32).toInt8.toInt32)), (.int (((((own_s (own_s (own_s x))) ||| (128 : Int64)).toInt32).toInt8.toInt32).toInt8.toInt32)), (.int (((((own_s (own_s (own_s (own_s x)))) ||| (128 : Int64)).toInt32).toInt8.toInt32).toInt8.toInt32)), (.int (((((own_s (own_s (own_s (own_s (own_s x))))) ||| (128 : Int64)).toInt32).toInt8.toInt32).toInt8.toInt32)), (.int (((((own_s (own_s (own_s (own_s (own_s (own_s x)))))) ||| (128 : Int64)).toInt32).toInt8.toInt32).toInt8.toInt32)), (.int z), (.int z), (.int z), (.int z), (.int z), (.int z)] (.int (0 : Int32)) := Arv.set Ar14 q14 S14 M14 H14 G14 (fits_nar_byte _) W14 7 rfl (Nat.le_of_ble_eq_true rfl)
                have K14 : Keep h0 h14 [a] := K12.wr W14 (Or.inl (List.mem_of_getElem? (i := 0) rfl))
                have Z14 : n0 ≤ h14.size := Nat.le_trans Z0 K14.1
                have N14 := Fr.snoc X14 N12 g_a
                obtain ⟨J14, X14, N14⟩ := own_hide X14 N14
                refine own_Go.of (g' := (mkF m 30 #[.val (.long x), .second, .val (.ref a), .val (.int (1 : Int32)), .val (.long (own_s (own_s (own_s (own_s (own_s (own_s x))))))), .second, .val (.int (8 : Int32))] [])) (fun t k => st14 _ k) ?_
                refine og_lload (pc' := 32) X14 hx (hb hby d2_30) rfl rfl ?_
                refine og_bipush (pc' := 34) (n := 7) X14 hx (hb hby d2_32) rfl rfl ?_
                refine own_Go.of (g' := (mkF m 35 #[.val (.long x), .second, .val (.ref a), .val (.int (1 : Int32)), .val (.long (own_s (own_s (own_s (own_s (own_s (own_s x))))))), .second, .val (.int (8 : Int32))] [(.long (own_s (own_s (own_s (own_s (own_s (own_s (own_s x))))))))])) (fun t k => XS.lushr X14.here hx rfl (hb hby d2_34) rfl k) ?_
                refine og_lstore (pc' := 37) (L' := #[.val (.long x), .second, .val (.ref a), .val (.int (1 : Int32)), .val (.long (own_s (own_s (own_s (own_s (own_s (own_s (own_s x)))))))), .second, .val (.int (8 : Int32))]) X14 hx (hb hby d2_35) rfl rfl ?_
                refine og_goto (pc' := 6) X14 hx (hb hby d2_37) (by decide) (by decide) ?_
                refine og_lload (pc' := 8) X14 hx (hb hby d2_6) rfl rfl ?_
                refine og_ldc2_w (pc' := 11) X14 hx (hb hby d2_8) hown (mvT hZ (hw _ (List.mem_of_getElem? (i := 11) rfl))) rfl ?_
                refine og_lcmp (pc' := 12) X14 hx (hb hby d2_11) rfl ?_
                by_cases hc12_8 : (own_s (own_s (own_s (own_s (own_s (own_s (own_s x))))))) < (128 : Int64)
                · refine og_ifYes (pc' := 40) X14 hx (hb hby d2_12) ((if0 _ _).trans (tlt ((lw_lt _ _).mpr hc12_8)).1) (by decide) (by decide) ?_
                  refine og_aloadN (pc' := 41) X14 hx (hb hby d2_40) rfl rfl rfl ?_
                  refine og_iload (pc' := 43) X14 hx (hb hby d2_41) rfl rfl ?_
                  refine og_iinc (pc' := 46) (L' := #[.val (.long x), .second, .val (.ref a), .val (.int (1 : Int32)), .val (.long (own_s (own_s (own_s (own_s (own_s (own_s (own_s x)))))))), .second, .val (.int ((8 : Int32) + (1 : Int32)))]) X14 hx (hb hby d2_43) rfl rfl rfl ?_
                  rw [show ((8 : Int32) + (1 : Int32)) = (9 : Int32) from by decide]
                  refine og_lload (pc' := 48) X14 hx (hb hby d2_46) rfl rfl ?_
                  refine og_l2i (pc' := 49) X14 hx (hb hby d2_48) rfl ?_
                  refine og_i2b (pc' := 50) X14 hx (hb hby d2_49) rfl ?_
                  obtain ⟨cl15, Ar15, q15, S15, M15, H15, G15⟩ := id V14
                  have hin15 : ¬ ((8 : Int32) < 0 ∨ cl15.slots.size ≤ ((8 : Int32)).toNatClampNeg) := inb_of S15 ⟨by decide, by decide⟩
                  obtain ⟨T15, h15, X15, e15, W15, st15⟩ := stB X14 hx hZ e14 Ar15 (j := (8 : Int32)) hin15 (g := (mkF m 50 #[.val (.long x), .second, .val (.ref a), .val (.int (1 : Int32)), .val (.long (own_s (own_s (own_s (own_s (own_s (own_s (own_s x)))))))), .second, .val (.int (9 : Int32))] [(.int (((own_s (own_s (own_s (own_s (own_s (own_s (own_s x))))))).toInt32).toInt8.toInt32)), (.int (8 : Int32)), (.ref a)])) rfl rfl (hb hby d2_50)
                  have V15 : Arv Z h15 a kk .byte (14 : Int32) [(.int z), (.int ((((x ||| (128 : Int64)).toInt32).toInt8.toInt32).toInt8.toInt32)), (.int (((((own_s x) ||| (128 : Int64)).toInt32).toInt8.toInt32).toInt8.toInt32)), (.int (((((own_s (own_s x)) ||| (128 : Int64)).toInt32).toInt8.toInt32).toInt8.toInt32)), (.int (((((own_s (own_s (own_s x))) ||| (128 : Int64)).toInt32).toInt8.toInt32).toInt8.toInt32)), (.int (((((own_s (own_s (own_s (own_s x)))) ||| (128 : Int64)).toInt32).toInt8.toInt32).toInt8.toInt32)), (.int (((((own_s (own_s (own_s (own_s (own_s x))))) ||| (128 : Int64)).toInt32).toInt8.toInt32).toInt8.toInt32)), (.int (((((own_s (own_s (own_s (own_s (own_s (own_s x)))))) ||| (128 : Int64)).toInt32).toInt8.toInt32).toInt8.toInt32)), (.int ((((own_s (own_s (own_s (own_s (own_s (own_s (own_s x))))))).toInt32).toInt8.toInt32).toInt8.toInt32)), (.int z), (.int z), (.int z), (.int z), (.int z)] (.int (0 : Int32)) := Arv.set Ar15 q15 S15 M15 H15 G15 (fits_nar_byte _) W15 8 rfl (Nat.le_of_ble_eq_true rfl)
                  have K15 : Keep h0 h15 [a] := K14.wr W15 (Or.inl (List.mem_of_getElem? (i := 0) rfl))
                  have Z15 : n0 ≤ h15.size := Nat.le_trans Z0 K15.1
                  have N15 := Fr.snoc X15 N14 g_a
                  obtain ⟨J15, X15, N15⟩ := own_hide X15 N15
                  refine own_Go.of (g' := (mkF m 51 #[.val (.long x), .second, .val (.ref a), .val (.int (1 : Int32)), .val (.long (own_s (own_s (own_s (own_s (own_s (own_s (own_s x)))))))), .second, .val (.int (9 : Int32))] [])) (fun t k => st15 _ k) ?_
                  refine og_iload (pc' := 53) X15 hx (hb hby d2_51) rfl rfl ?_
                  obtain ⟨fs, hr, hrun, hended, hW, hsame⟩ := X15.leave (v := some (.int (9 : Int32))) (fun h => by rw [Bd.returns] at h; cases h) (BodyLoose.notSynchronized Bd)
                  refine ⟨_, _, retI X15 hx Bd.returns (hb hby d2_53) hr, hrun, hended, some (.int (9 : Int32)), _, rfl, ?_, ⟨_, rfl⟩, hW, hsame.mono (by decide) (by decide)⟩
                  show Qwr1 Z x a kk z h0 n0 _ T15.heap _
                  rw [e15]
                  exact ⟨(congrArg (fun q => some (Value.int q)) (by rw [own_len_8 x hpos hc12_1 hc12_2 hc12_3 hc12_4 hc12_5 hc12_6 hc12_7 hc12_8]; decide)), N15, K15, (by rw [own_lst_1_8 x z hc12_1 hc12_2 hc12_3 hc12_4 hc12_5 hc12_6 hc12_7 hc12_8]; exact V15)⟩
                · refine og_ifNo (pc' := 15) X14 hx (hb hby d2_12) ((if0 _ _).trans (flt (fun q => hc12_8 ((lw_lt _ _).mp q))).1) rfl ?_
                  refine og_aloadN (pc' := 16) X14 hx (hb hby d2_15) rfl rfl rfl ?_
                  refine og_iload (pc' := 18) X14 hx (hb hby d2_16) rfl rfl ?_
                  refine og_iinc (pc' := 21) (L' := #[.val (.long x), .second, .val (.ref a), .val (.int (1 : Int32)), .val (.long (own_s (own_s (own_s (own_s (own_s (own_s (own_s x)))))))), .second, .val (.int ((8 : Int32) + (1 : Int32)))]) X14 hx (hb hby d2_18) rfl rfl rfl ?_
                  rw [show ((8 : Int32) + (1 : Int32)) = (9 : Int32) from by decide]
                  refine og_lload (pc' := 23) X14 hx (hb hby d2_21) rfl rfl ?_
                  refine og_ldc2_w (pc' := 26) X14 hx (hb hby d2_23) hown (mvT hZ (hw _ (List.mem_of_getElem? (i := 11) rfl))) rfl ?_
                  refine og_lor (pc' := 27) X14 hx (hb hby d2_26) rfl ?_
                  refine og_l2i (pc' := 28) X14 hx (hb hby d2_27) rfl ?_
                  refine og_i2b (pc' := 29) X14 hx (hb hby d2_28) rfl ?_
                  obtain ⟨cl16, Ar16, q16, S16, M16, H16, G16⟩ := id V14
                  have hin16 : ¬ ((8 : Int32) < 0 ∨ cl16.slots.size ≤ ((8 : Int32)).toNatClampNeg) := inb_of S16 ⟨by decide, by decide⟩
                  obtain ⟨T16, h16, X16, e16, W16, st16⟩ := stB X14 hx hZ e14 Ar16 (j := (8 : Int32)) hin16 (g := (mkF m 29 #[.val (.long x), .second, .val (.ref a), .val (.int (1 : Int32)), .val (.long (own_s (own_s (own_s (own_s (own_s (own_s (own_s x)))))))), .second, .val (.int (9 : Int32))] [(.int ((((own_s (own_s (own_s (own_s (own_s (own_s (own_s x))))))) ||| (128 : Int64)).toInt32).toInt8.toInt32)), (.int (8 : Int32)), (.ref a)])) rfl rfl (hb hby d2_29)
                  have V16 : Arv Z h16 a kk .byte (14 : Int32) [(.int z), (.int ((((x ||| (128 : Int64)).toInt32).toInt8.toInt32).toInt8.toInt32)), (.int (((((own_s x) ||| (128 : Int64)).toInt32).toInt8.toInt32).toInt8.toInt32)), (.int (((((own_s (own_s x)) ||| (128 : Int64)).toInt32).toInt8.toInt32).toInt8.toInt32)), (.int (((((own_s (own_s (own_s x))) ||| (128 : Int64)).toInt32).toInt8.toInt32).toInt8.toInt32)), (.int (((((own_s (own_s (own_s (own_s x)))) ||| (128 : Int64)).toInt32).toInt8.toInt32).toInt8.toInt32)), (.int (((((own_s (own_s (own_s (own_s (own_s x))))) ||| (128 : Int64)).toInt32).toInt8.toInt32).toInt8.toInt32)), (.int (((((own_s (own_s (own_s (own_s (own_s (own_s x)))))) ||| (128 : Int64)).toInt32).toInt8.toInt32).toInt8.toInt32)), (.int (((((own_s (own_s (own_s (own_s (own_s (own_s (own_s x))))))) ||| (128 : Int64)).toInt32).toInt8.toInt32).toInt8.toInt32)), (.int z), (.int z), (.int z), (.int z), (.int z)] (.int (0 : Int32)) := Arv.set Ar16 q16 S16 M16 H16 G16 (fits_nar_byte _) W16 8 rfl (Nat.le_of_ble_eq_true rfl)
                  have K16 : Keep h0 h16 [a] := K14.wr W16 (Or.inl (List.mem_of_getElem? (i := 0) rfl))
                  have Z16 : n0 ≤ h16.size := Nat.le_trans Z0 K16.1
                  have N16 := Fr.snoc X16 N14 g_a
                  obtain ⟨J16, X16, N16⟩ := own_hide X16 N16
                  refine own_Go.of (g' := (mkF m 30 #[.val (.long x), .second, .val (.ref a), .val (.int (1 : Int32)), .val (.long (own_s (own_s (own_s (own_s (own_s (own_s (own_s x)))))))), .second, .val (.int (9 : Int32))] [])) (fun t k => st16 _ k) ?_
                  refine og_lload (pc' := 32) X16 hx (hb hby d2_30) rfl rfl ?_
                  refine og_bipush (pc' := 34) (n := 7) X16 hx (hb hby d2_32) rfl rfl ?_
                  refine own_Go.of (g' := (mkF m 35 #[.val (.long x), .second, .val (.ref a), .val (.int (1 : Int32)), .val (.long (own_s (own_s (own_s (own_s (own_s (own_s (own_s x)))))))), .second, .val (.int (9 : Int32))] [(.long (own_s (own_s (own_s (own_s (own_s (own_s (own_s (own_s x)))))))))])) (fun t k => XS.lushr X16.here hx rfl (hb hby d2_34) rfl k) ?_
                  refine og_lstore (pc' := 37) (L' := #[.val (.long x), .second, .val (.ref a), .val (.int (1 : Int32)), .val (.long (own_s (own_s (own_s (own_s (own_s (own_s (own_s (own_s x))))))))), .second, .val (.int (9 : Int32))]) X16 hx (hb hby d2_35) rfl rfl ?_
                  refine og_goto (pc' := 6) X16 hx (hb hby d2_37) (by decide) (by decide) ?_
                  refine og_lload (pc' := 8) X16 hx (hb hby d2_6) rfl rfl ?_
                  refine og_ldc2_w (pc' := 11) X16 hx (hb hby d2_8) hown (mvT hZ (hw _ (List.mem_of_getElem? (i := 11) rfl))) rfl ?_
                  refine og_lcmp (pc' := 12) X16 hx (hb hby d2_11) rfl ?_
                  refine og_ifYes (pc' := 40) X16 hx (hb hby d2_12) ((if0 _ _).trans (tlt ((lw_lt _ _).mpr (own_lt9 hpos))).1) (by decide) (by decide) ?_
                  refine og_aloadN (pc' := 41) X16 hx (hb hby d2_40) rfl rfl rfl ?_
                  refine og_iload (pc' := 43) X16 hx (hb hby d2_41) rfl rfl ?_
                  refine og_iinc (pc' := 46) (L' := #[.val (.long x), .second, .val (.ref a), .val (.int (1 : Int32)), .val (.long (own_s (own_s (own_s (own_s (own_s (own_s (own_s (own_s x))))))))), .second, .val (.int ((9 : Int32) + (1 : Int32)))]) X16 hx (hb hby d2_43) rfl rfl rfl ?_
                  rw [show ((9 : Int32) + (1 : Int32)) = (10 : Int32) from by decide]
                  refine og_lload (pc' := 48) X16 hx (hb hby d2_46) rfl rfl ?_
                  refine og_l2i (pc' := 49) X16 hx (hb hby d2_48) rfl ?_
                  refine og_i2b (pc' := 50) X16 hx (hb hby d2_49) rfl ?_
                  obtain ⟨cl17, Ar17, q17, S17, M17, H17, G17⟩ := id V16
                  have hin17 : ¬ ((9 : Int32) < 0 ∨ cl17.slots.size ≤ ((9 : Int32)).toNatClampNeg) := inb_of S17 ⟨by decide, by decide⟩
                  obtain ⟨T17, h17, X17, e17, W17, st17⟩ := stB X16 hx hZ e16 Ar17 (j := (9 : Int32)) hin17 (g := (mkF m 50 #[.val (.long x), .second, .val (.ref a), .val (.int (1 : Int32)), .val (.long (own_s (own_s (own_s (own_s (own_s (own_s (own_s (own_s x))))))))), .second, .val (.int (10 : Int32))] [(.int (((own_s (own_s (own_s (own_s (own_s (own_s (own_s (own_s x)))))))).toInt32).toInt8.toInt32)), (.int (9 : Int32)), (.ref a)])) rfl rfl (hb hby d2_50)
                  have V17 : Arv Z h17 a kk .byte (14 : Int32) [(.int z), (.int ((((x ||| (128 : Int64)).toInt32).toInt8.toInt32).toInt8.toInt32)), (.int (((((own_s x) ||| (128 : Int64)).toInt32).toInt8.toInt32).toInt8.toInt32)), (.int (((((own_s (own_s x)) ||| (128 : Int64)).toInt32).toInt8.toInt32).toInt8.toInt32)), (.int (((((own_s (own_s (own_s x))) ||| (128 : Int64)).toInt32).toInt8.toInt32).toInt8.toInt32)), (.int (((((own_s (own_s (own_s (own_s x)))) ||| (128 : Int64)).toInt32).toInt8.toInt32).toInt8.toInt32)), (.int (((((own_s (own_s (own_s (own_s (own_s x))))) ||| (128 : Int64)).toInt32).toInt8.toInt32).toInt8.toInt32)), (.int (((((own_s (own_s (own_s (own_s (own_s (own_s x)))))) ||| (128 : Int64)).toInt32).toInt8.toInt32).toInt8.toInt32)), (.int (((((own_s (own_s (own_s (own_s (own_s (own_s (own_s x))))))) ||| (128 : Int64)).toInt32).toInt8.toInt32).toInt8.toInt32)), (.int ((((own_s (own_s (own_s (own_s (own_s (own_s (own_s (own_s x)))))))).toInt32).toInt8.toInt32).toInt8.toInt32)), (.int z), (.int z), (.int z), (.int z)] (.int (0 : Int32)) := Arv.set Ar17 q17 S17 M17 H17 G17 (fits_nar_byte _) W17 9 rfl (Nat.le_of_ble_eq_true rfl)
                  have K17 : Keep h0 h17 [a] := K16.wr W17 (Or.inl (List.mem_of_getElem? (i := 0) rfl))
                  have Z17 : n0 ≤ h17.size := Nat.le_trans Z0 K17.1
                  have N17 := Fr.snoc X17 N16 g_a
                  obtain ⟨J17, X17, N17⟩ := own_hide X17 N17
                  refine own_Go.of (g' := (mkF m 51 #[.val (.long x), .second, .val (.ref a), .val (.int (1 : Int32)), .val (.long (own_s (own_s (own_s (own_s (own_s (own_s (own_s (own_s x))))))))), .second, .val (.int (10 : Int32))] [])) (fun t k => st17 _ k) ?_
                  refine og_iload (pc' := 53) X17 hx (hb hby d2_51) rfl rfl ?_
                  obtain ⟨fs, hr, hrun, hended, hW, hsame⟩ := X17.leave (v := some (.int (10 : Int32))) (fun h => by rw [Bd.returns] at h; cases h) (BodyLoose.notSynchronized Bd)
                  refine ⟨_, _, retI X17 hx Bd.returns (hb hby d2_53) hr, hrun, hended, some (.int (10 : Int32)), _, rfl, ?_, ⟨_, rfl⟩, hW, hsame.mono (by decide) (by decide)⟩
                  show Qwr1 Z x a kk z h0 n0 _ T17.heap _
                  rw [e17]
                  exact ⟨(congrArg (fun q => some (Value.int q)) (by rw [own_len_9 x hpos hc12_1 hc12_2 hc12_3 hc12_4 hc12_5 hc12_6 hc12_7 hc12_8 (own_lt9 hpos)]; decide)), N17, K17, (by rw [own_lst_1_9 x z hc12_1 hc12_2 hc12_3 hc12_4 hc12_5 hc12_6 hc12_7 hc12_8 (own_lt9 hpos)]; exact V17)⟩

theorem pnwr2 : plainName "com/example/skorr/skorr/index/IndexFormat" = true := by first | (simp [plainName, overriddenIn]; done) | decide +kernel
theorem efwr2 (m : MethodId) (z0 : Int64) (z1 : Addr) : entryFrame m #[(.long z0), (.ref z1), (.int (2 : Int32))] 7 = mkF m 0 #[.val (.long z0), .second, .val (.ref z1), .val (.int (2 : Int32)), .unset, .unset, .unset] [] := by first | (simp [entryFrame, mkF, argsToLocals, Value.category]; done) | rfl
def Qwr2 (Z : State) (x : Int64) (a : Addr) (kk : ClassId) (z : Int32) (h0 : Heap) (n0 : Nat) (v : Option Value) (h : Heap) (L : List Loc) : Prop := v = some (.int ((2 : Int32) + (own_len x))) ∧ Fr n0 L ∧ Keep h0 h [a] ∧ Arv Z h a kk .byte (14 : Int32) (own_lst 2 x z) (.int (0 : Int32))
set_option maxRecDepth 65536 in
set_option maxHeartbeats 40000000 in
theorem rmwr2 (l : Launch) (Z : State) (a0 : Array Value) (hw : ∀ d ∈ tables_1, d.before a0 Z = true) (ws : List Jvm.Cond) (x : Int64) (a : Addr) (kk : ClassId) (z : Int32) (h0 : Heap) (n0 : Nat) (Z0 : n0 ≤ h0.size) (V_a : Arv Z h0 a kk .byte (14 : Int32) [(.int z), (.int z), (.int z), (.int z), (.int z), (.int z), (.int z), (.int z), (.int z), (.int z), (.int z), (.int z), (.int z), (.int z)] (.int (0 : Int32))) (g_a : n0 ≤ a) (hpos : 0 ≤ x.toInt) :
    MetFree l (⟨"com/example/skorr/skorr/index/IndexFormat", "writeVarint", "(J[BI)I"⟩ : MethodName) (head1 (Jvm.Cond.code (⟨"com/example/skorr/skorr/index/IndexFormat", "writeVarint", "(J[BI)I"⟩ : MethodName) prog_13_method_4_code 7 (some .int) :: ws) ({ frames := 0, cells := 0, slots := 0, locals := 0 } : Room)) (fun ag U => ag = #[(.long x), (.ref a), (.int (2 : Int32))] ∧ Z.Warmed39 U.vm ∧ U.heap = h0) (fun _ _ _ _ _ => True) (fun _ U oc U' => ∃ v L, oc = .returned v ∧ Qwr2 Z x a kk z h0 n0 v U'.heap L ∧ FrameEnd U oc U' L ({ frames := 0, cells := 0, slots := 0, locals := 0 } : Room).cells ({ frames := 0, cells := 0, slots := 0, locals := 0 } : Room).slots) := by
  refine MetFree.of_bodySF (plainFor_of_name pnwr2) hisR ?_
  intro p e s m args below meth c s₁ Bd hml0 hP hK
  obtain ⟨rfl, hZ, hh⟩ := hP
  have hx := Bd.exec
  have hby := Bd.bytes
  have hml : c.maxLocals = 7 := hml0
  have hown : s.vm.findClass "com/example/skorr/skorr/index/IndexFormat" = some m.cls := findClass_of_methodNamed Bd.named
  have hnm := (name_of_methodNamed Bd.named Bd.method).1
  have X0 : Stand p l e ({ frames := 0, cells := 0, slots := 0, locals := 0 } : Room) s m #[(.long x), (.ref a), (.int (2 : Int32))] below meth c s₁ [] 0 0 := Stand.of_body Bd
  have e0 : s₁.heap = h0 := by rw [← hh, Bd.state]; rfl
  have N0 := Fr.nil n0
  show own_Go p e below (fun s₂ oc => ∃ v L, oc = .returned v ∧ Qwr2 Z x a kk z h0 n0 v s₂.heap L ∧ FrameEnd s oc s₂ L ({ frames := 0, cells := 0, slots := 0, locals := 0 } : Room).cells ({ frames := 0, cells := 0, slots := 0, locals := 0 } : Room).slots) s₁ (entryFrame m #[(.long x), (.ref a), (.int (2 : Int32))] 7)
  refine own_Go.of (g' := mkF m 0 #[.val (.long x), .second, .val (.ref a), .val (.int (2 : Int32)), .unset, .unset, .unset] []) (fun t k => castTop (efwr2 m x a) k) ?_
  refine og_lloadN (pc' := 1) X0 hx (hb hby d2_0) rfl rfl ?_
  refine og_lstore (pc' := 3) (L' := #[.val (.long x), .second, .val (.ref a), .val (.int (2 : Int32)), .val (.long x), .second, .unset]) X0 hx (hb hby d2_1) rfl rfl ?_
  refine og_iloadN (pc' := 4) X0 hx (hb hby d2_3) rfl rfl ?_
  refine og_istore (pc' := 6) (L' := #[.val (.long x), .second, .val (.ref a), .val (.int (2 : Int32)), .val (.long x), .second, .val (.int (2 : Int32))]) X0 hx (hb hby d2_4) rfl rfl ?_
  refine og_lload (pc' := 8) X0 hx (hb hby d2_6) rfl rfl ?_
  refine og_ldc2_w (pc' := 11) X0 hx (hb hby d2_8) hown (mvT hZ (hw _ (List.mem_of_getElem? (i := 11) rfl))) rfl ?_
  refine og_lcmp (pc' := 12) X0 hx (hb hby d2_11) rfl ?_
  by_cases hc12_1 : x < (128 : Int64)
  · refine og_ifYes (pc' := 40) X0 hx (hb hby d2_12) ((if0 _ _).trans (tlt ((lw_lt _ _).mpr hc12_1)).1) (by decide) (by decide) ?_
    refine og_aloadN (pc' := 41) X0 hx (hb hby d2_40) rfl rfl rfl ?_
    refine og_iload (pc' := 43) X0 hx (hb hby d2_41) rfl rfl ?_
    refine og_iinc (pc' := 46) (L' := #[.val (.long x), .second, .val (.ref a), .val (.int (2 : Int32)), .val (.long x), .second, .val (.int ((2 : Int32) + (1 : Int32)))]) X0 hx (hb hby d2_43) rfl rfl rfl ?_
    rw [show ((2 : Int32) + (1 : Int32)) = (3 : Int32) from by decide]
    refine og_lload (pc' := 48) X0 hx (hb hby d2_46) rfl rfl ?_
    refine og_l2i (pc' := 49) X0 hx (hb hby d2_48) rfl ?_
    refine og_i2b (pc' := 50) X0 hx (hb hby d2_49) rfl ?_
    obtain ⟨cl1, Ar1, q1, S1, M1, H1, G1⟩ := id V_a
    have hin1 : ¬ ((2 : Int32) < 0 ∨ cl1.slots.size ≤ ((2 : Int32)).toNatClampNeg) := inb_of S1 ⟨by decide, by decide⟩
    obtain ⟨T1, h1, X1, e1, W1, st1⟩ := stB X0 hx hZ e0 Ar1 (j := (2 : Int32)) hin1 (g := (mkF m 50 #[.val (.long x), .second, .val (.ref a), .val (.int (2 : Int32)), .val (.long x), .second, .val (.int (3 : Int32))] [(.int ((x.toInt32).toInt8.toInt32)), (.int (2 : Int32)), (.ref a)])) rfl rfl (hb hby d2_50)
    have V1 : Arv Z h1 a kk .byte (14 : Int32) [(.int z), (.int z), (.int (((x.toInt32).toInt8.toInt32).toInt8.toInt32)), (.int z), (.int z), (.int z), (.int z), (.int z), (.int z), (.int z), (.int z), (.int z), (.int z), (.int z)] (.int (0 : Int32)) := Arv.set Ar1 q1 S1 M1 H1 G1 (fits_nar_byte _) W1 2 rfl (Nat.le_of_ble_eq_true rfl)
    have K1 : Keep h0 h1 [a] := (Keep.refl h0 [a]).wr W1 (Or.inl (List.mem_of_getElem? (i := 0) rfl))
    have Z1 : n0 ≤ h1.size := Nat.le_trans Z0 K1.1
    have N1 := Fr.snoc X1 N0 g_a
    obtain ⟨J1, X1, N1⟩ := own_hide X1 N1
    refine own_Go.of (g' := (mkF m 51 #[.val (.long x), .second, .val (.ref a), .val (.int (2 : Int32)), .val (.long x), .second, .val (.int (3 : Int32))] [])) (fun t k => st1 _ k) ?_
    refine og_iload (pc' := 53) X1 hx (hb hby d2_51) rfl rfl ?_
    obtain ⟨fs, hr, hrun, hended, hW, hsame⟩ := X1.leave (v := some (.int (3 : Int32))) (fun h => by rw [Bd.returns] at h; cases h) (BodyLoose.notSynchronized Bd)
    refine ⟨_, _, retI X1 hx Bd.returns (hb hby d2_53) hr, hrun, hended, some (.int (3 : Int32)), _, rfl, ?_, ⟨_, rfl⟩, hW, hsame.mono (by decide) (by decide)⟩
    show Qwr2 Z x a kk z h0 n0 _ T1.heap _
    rw [e1]
    exact ⟨(congrArg (fun q => some (Value.int q)) (by rw [own_len_1 x hpos hc12_1]; decide)), N1, K1, (by rw [own_lst_2_1 x z hc12_1]; exact V1)⟩
  · refine og_ifNo (pc' := 15) X0 hx (hb hby d2_12) ((if0 _ _).trans (flt (fun q => hc12_1 ((lw_lt _ _).mp q))).1) rfl ?_
    refine og_aloadN (pc' := 16) X0 hx (hb hby d2_15) rfl rfl rfl ?_
    refine og_iload (pc' := 18) X0 hx (hb hby d2_16) rfl rfl ?_
    refine og_iinc (pc' := 21) (L' := #[.val (.long x), .second, .val (.ref a), .val (.int (2 : Int32)), .val (.long x), .second, .val (.int ((2 : Int32) + (1 : Int32)))]) X0 hx (hb hby d2_18) rfl rfl rfl ?_
    rw [show ((2 : Int32) + (1 : Int32)) = (3 : Int32) from by decide]
    refine og_lload (pc' := 23) X0 hx (hb hby d2_21) rfl rfl ?_
    refine og_ldc2_w (pc' := 26) X0 hx (hb hby d2_23) hown (mvT hZ (hw _ (List.mem_of_getElem? (i := 11) rfl))) rfl ?_
    refine og_lor (pc' := 27) X0 hx (hb hby d2_26) rfl ?_
    refine og_l2i (pc' := 28) X0 hx (hb hby d2_27) rfl ?_
    refine og_i2b (pc' := 29) X0 hx (hb hby d2_28) rfl ?_
    obtain ⟨cl2, Ar2, q2, S2, M2, H2, G2⟩ := id V_a
    have hin2 : ¬ ((2 : Int32) < 0 ∨ cl2.slots.size ≤ ((2 : Int32)).toNatClampNeg) := inb_of S2 ⟨by decide, by decide⟩
    obtain ⟨T2, h2, X2, e2, W2, st2⟩ := stB X0 hx hZ e0 Ar2 (j := (2 : Int32)) hin2 (g := (mkF m 29 #[.val (.long x), .second, .val (.ref a), .val (.int (2 : Int32)), .val (.long x), .second, .val (.int (3 : Int32))] [(.int (((x ||| (128 : Int64)).toInt32).toInt8.toInt32)), (.int (2 : Int32)), (.ref a)])) rfl rfl (hb hby d2_29)
    have V2 : Arv Z h2 a kk .byte (14 : Int32) [(.int z), (.int z), (.int ((((x ||| (128 : Int64)).toInt32).toInt8.toInt32).toInt8.toInt32)), (.int z), (.int z), (.int z), (.int z), (.int z), (.int z), (.int z), (.int z), (.int z), (.int z), (.int z)] (.int (0 : Int32)) := Arv.set Ar2 q2 S2 M2 H2 G2 (fits_nar_byte _) W2 2 rfl (Nat.le_of_ble_eq_true rfl)
    have K2 : Keep h0 h2 [a] := (Keep.refl h0 [a]).wr W2 (Or.inl (List.mem_of_getElem? (i := 0) rfl))
    have Z2 : n0 ≤ h2.size := Nat.le_trans Z0 K2.1
    have N2 := Fr.snoc X2 N0 g_a
    obtain ⟨J2, X2, N2⟩ := own_hide X2 N2
    refine own_Go.of (g' := (mkF m 30 #[.val (.long x), .second, .val (.ref a), .val (.int (2 : Int32)), .val (.long x), .second, .val (.int (3 : Int32))] [])) (fun t k => st2 _ k) ?_
    refine og_lload (pc' := 32) X2 hx (hb hby d2_30) rfl rfl ?_
    refine og_bipush (pc' := 34) (n := 7) X2 hx (hb hby d2_32) rfl rfl ?_
    refine own_Go.of (g' := (mkF m 35 #[.val (.long x), .second, .val (.ref a), .val (.int (2 : Int32)), .val (.long x), .second, .val (.int (3 : Int32))] [(.long (own_s x))])) (fun t k => XS.lushr X2.here hx rfl (hb hby d2_34) rfl k) ?_
    refine og_lstore (pc' := 37) (L' := #[.val (.long x), .second, .val (.ref a), .val (.int (2 : Int32)), .val (.long (own_s x)), .second, .val (.int (3 : Int32))]) X2 hx (hb hby d2_35) rfl rfl ?_
    refine og_goto (pc' := 6) X2 hx (hb hby d2_37) (by decide) (by decide) ?_
    refine og_lload (pc' := 8) X2 hx (hb hby d2_6) rfl rfl ?_
    refine og_ldc2_w (pc' := 11) X2 hx (hb hby d2_8) hown (mvT hZ (hw _ (List.mem_of_getElem? (i := 11) rfl))) rfl ?_
    refine og_lcmp (pc' := 12) X2 hx (hb hby d2_11) rfl ?_
    by_cases hc12_2 : (own_s x) < (128 : Int64)
    · refine og_ifYes (pc' := 40) X2 hx (hb hby d2_12) ((if0 _ _).trans (tlt ((lw_lt _ _).mpr hc12_2)).1) (by decide) (by decide) ?_
      refine og_aloadN (pc' := 41) X2 hx (hb hby d2_40) rfl rfl rfl ?_
      refine og_iload (pc' := 43) X2 hx (hb hby d2_41) rfl rfl ?_
      refine og_iinc (pc' := 46) (L' := #[.val (.long x), .second, .val (.ref a), .val (.int (2 : Int32)), .val (.long (own_s x)), .second, .val (.int ((3 : Int32) + (1 : Int32)))]) X2 hx (hb hby d2_43) rfl rfl rfl ?_
      rw [show ((3 : Int32) + (1 : Int32)) = (4 : Int32) from by decide]
      refine og_lload (pc' := 48) X2 hx (hb hby d2_46) rfl rfl ?_
      refine og_l2i (pc' := 49) X2 hx (hb hby d2_48) rfl ?_
      refine og_i2b (pc' := 50) X2 hx (hb hby d2_49) rfl ?_
      obtain ⟨cl3, Ar3, q3, S3, M3, H3, G3⟩ := id V2
      have hin3 : ¬ ((3 : Int32) < 0 ∨ cl3.slots.size ≤ ((3 : Int32)).toNatClampNeg) := inb_of S3 ⟨by decide, by decide⟩
      obtain ⟨T3, h3, X3, e3, W3, st3⟩ := stB X2 hx hZ e2 Ar3 (j := (3 : Int32)) hin3 (g := (mkF m 50 #[.val (.long x), .second, .val (.ref a), .val (.int (2 : Int32)), .val (.long (own_s x)), .second, .val (.int (4 : Int32))] [(.int (((own_s x).toInt32).toInt8.toInt32)), (.int (3 : Int32)), (.ref a)])) rfl rfl (hb hby d2_50)
      have V3 : Arv Z h3 a kk .byte (14 : Int32) [(.int z), (.int z), (.int ((((x ||| (128 : Int64)).toInt32).toInt8.toInt32).toInt8.toInt32)), (.int ((((own_s x).toInt32).toInt8.toInt32).toInt8.toInt32)), (.int z), (.int z), (.int z), (.int z), (.int z), (.int z), (.int z), (.int z), (.int z), (.int z)] (.int (0 : Int32)) := Arv.set Ar3 q3 S3 M3 H3 G3 (fits_nar_byte _) W3 3 rfl (Nat.le_of_ble_eq_true rfl)
      have K3 : Keep h0 h3 [a] := K2.wr W3 (Or.inl (List.mem_of_getElem? (i := 0) rfl))
      have Z3 : n0 ≤ h3.size := Nat.le_trans Z0 K3.1
      have N3 := Fr.snoc X3 N2 g_a
      obtain ⟨J3, X3, N3⟩ := own_hide X3 N3
      refine own_Go.of (g' := (mkF m 51 #[.val (.long x), .second, .val (.ref a), .val (.int (2 : Int32)), .val (.long (own_s x)), .second, .val (.int (4 : Int32))] [])) (fun t k => st3 _ k) ?_
      refine og_iload (pc' := 53) X3 hx (hb hby d2_51) rfl rfl ?_
      obtain ⟨fs, hr, hrun, hended, hW, hsame⟩ := X3.leave (v := some (.int (4 : Int32))) (fun h => by rw [Bd.returns] at h; cases h) (BodyLoose.notSynchronized Bd)
      refine ⟨_, _, retI X3 hx Bd.returns (hb hby d2_53) hr, hrun, hended, some (.int (4 : Int32)), _, rfl, ?_, ⟨_, rfl⟩, hW, hsame.mono (by decide) (by decide)⟩
      show Qwr2 Z x a kk z h0 n0 _ T3.heap _
      rw [e3]
      exact ⟨(congrArg (fun q => some (Value.int q)) (by rw [own_len_2 x hpos hc12_1 hc12_2]; decide)), N3, K3, (by rw [own_lst_2_2 x z hc12_1 hc12_2]; exact V3)⟩
    · refine og_ifNo (pc' := 15) X2 hx (hb hby d2_12) ((if0 _ _).trans (flt (fun q => hc12_2 ((lw_lt _ _).mp q))).1) rfl ?_
      refine og_aloadN (pc' := 16) X2 hx (hb hby d2_15) rfl rfl rfl ?_
      refine og_iload (pc' := 18) X2 hx (hb hby d2_16) rfl rfl ?_
      refine og_iinc (pc' := 21) (L' := #[.val (.long x), .second, .val (.ref a), .val (.int (2 : Int32)), .val (.long (own_s x)), .second, .val (.int ((3 : Int32) + (1 : Int32)))]) X2 hx (hb hby d2_18) rfl rfl rfl ?_
      rw [show ((3 : Int32) + (1 : Int32)) = (4 : Int32) from by decide]
      refine og_lload (pc' := 23) X2 hx (hb hby d2_21) rfl rfl ?_
      refine og_ldc2_w (pc' := 26) X2 hx (hb hby d2_23) hown (mvT hZ (hw _ (List.mem_of_getElem? (i := 11) rfl))) rfl ?_
      refine og_lor (pc' := 27) X2 hx (hb hby d2_26) rfl ?_
      refine og_l2i (pc' := 28) X2 hx (hb hby d2_27) rfl ?_
      refine og_i2b (pc' := 29) X2 hx (hb hby d2_28) rfl ?_
      obtain ⟨cl4, Ar4, q4, S4, M4, H4, G4⟩ := id V2
      have hin4 : ¬ ((3 : Int32) < 0 ∨ cl4.slots.size ≤ ((3 : Int32)).toNatClampNeg) := inb_of S4 ⟨by decide, by decide⟩
      obtain ⟨T4, h4, X4, e4, W4, st4⟩ := stB X2 hx hZ e2 Ar4 (j := (3 : Int32)) hin4 (g := (mkF m 29 #[.val (.long x), .second, .val (.ref a), .val (.int (2 : Int32)), .val (.long (own_s x)), .second, .val (.int (4 : Int32))] [(.int ((((own_s x) ||| (128 : Int64)).toInt32).toInt8.toInt32)), (.int (3 : Int32)), (.ref a)])) rfl rfl (hb hby d2_29)
      have V4 : Arv Z h4 a kk .byte (14 : Int32) [(.int z), (.int z), (.int ((((x ||| (128 : Int64)).toInt32).toInt8.toInt32).toInt8.toInt32)), (.int (((((own_s x) ||| (128 : Int64)).toInt32).toInt8.toInt32).toInt8.toInt32)), (.int z), (.int z), (.int z), (.int z), (.int z), (.int z), (.int z), (.int z), (.int z), (.int z)] (.int (0 : Int32)) := Arv.set Ar4 q4 S4 M4 H4 G4 (fits_nar_byte _) W4 3 rfl (Nat.le_of_ble_eq_true rfl)
      have K4 : Keep h0 h4 [a] := K2.wr W4 (Or.inl (List.mem_of_getElem? (i := 0) rfl))
      have Z4 : n0 ≤ h4.size := Nat.le_trans Z0 K4.1
      have N4 := Fr.snoc X4 N2 g_a
      obtain ⟨J4, X4, N4⟩ := own_hide X4 N4
      refine own_Go.of (g' := (mkF m 30 #[.val (.long x), .second, .val (.ref a), .val (.int (2 : Int32)), .val (.long (own_s x)), .second, .val (.int (4 : Int32))] [])) (fun t k => st4 _ k) ?_
      refine og_lload (pc' := 32) X4 hx (hb hby d2_30) rfl rfl ?_
      refine og_bipush (pc' := 34) (n := 7) X4 hx (hb hby d2_32) rfl rfl ?_
      refine own_Go.of (g' := (mkF m 35 #[.val (.long x), .second, .val (.ref a), .val (.int (2 : Int32)), .val (.long (own_s x)), .second, .val (.int (4 : Int32))] [(.long (own_s (own_s x)))])) (fun t k => XS.lushr X4.here hx rfl (hb hby d2_34) rfl k) ?_
      refine og_lstore (pc' := 37) (L' := #[.val (.long x), .second, .val (.ref a), .val (.int (2 : Int32)), .val (.long (own_s (own_s x))), .second, .val (.int (4 : Int32))]) X4 hx (hb hby d2_35) rfl rfl ?_
      refine og_goto (pc' := 6) X4 hx (hb hby d2_37) (by decide) (by decide) ?_
      refine og_lload (pc' := 8) X4 hx (hb hby d2_6) rfl rfl ?_
      refine og_ldc2_w (pc' := 11) X4 hx (hb hby d2_8) hown (mvT hZ (hw _ (List.mem_of_getElem? (i := 11) rfl))) rfl ?_
      refine og_lcmp (pc' := 12) X4 hx (hb hby d2_11) rfl ?_
      by_cases hc12_3 : (own_s (own_s x)) < (128 : Int64)
      · refine og_ifYes (pc' := 40) X4 hx (hb hby d2_12) ((if0 _ _).trans (tlt ((lw_lt _ _).mpr hc12_3)).1) (by decide) (by decide) ?_
        refine og_aloadN (pc' := 41) X4 hx (hb hby d2_40) rfl rfl rfl ?_
        refine og_iload (pc' := 43) X4 hx (hb hby d2_41) rfl rfl ?_
        refine og_iinc (pc' := 46) (L' := #[.val (.long x), .second, .val (.ref a), .val (.int (2 : Int32)), .val (.long (own_s (own_s x))), .second, .val (.int ((4 : Int32) + (1 : Int32)))]) X4 hx (hb hby d2_43) rfl rfl rfl ?_
        rw [show ((4 : Int32) + (1 : Int32)) = (5 : Int32) from by decide]
        refine og_lload (pc' := 48) X4 hx (hb hby d2_46) rfl rfl ?_
        refine og_l2i (pc' := 49) X4 hx (hb hby d2_48) rfl ?_
        refine og_i2b (pc' := 50) X4 hx (hb hby d2_49) rfl ?_
        obtain ⟨cl5, Ar5, q5, S5, M5, H5, G5⟩ := id V4
        have hin5 : ¬ ((4 : Int32) < 0 ∨ cl5.slots.size ≤ ((4 : Int32)).toNatClampNeg) := inb_of S5 ⟨by decide, by decide⟩
        obtain ⟨T5, h5, X5, e5, W5, st5⟩ := stB X4 hx hZ e4 Ar5 (j := (4 : Int32)) hin5 (g := (mkF m 50 #[.val (.long x), .second, .val (.ref a), .val (.int (2 : Int32)), .val (.long (own_s (own_s x))), .second, .val (.int (5 : Int32))] [(.int (((own_s (own_s x)).toInt32).toInt8.toInt32)), (.int (4 : Int32)), (.ref a)])) rfl rfl (hb hby d2_50)
        have V5 : Arv Z h5 a kk .byte (14 : Int32) [(.int z), (.int z), (.int ((((x ||| (128 : Int64)).toInt32).toInt8.toInt32).toInt8.toInt32)), (.int (((((own_s x) ||| (128 : Int64)).toInt32).toInt8.toInt32).toInt8.toInt32)), (.int ((((own_s (own_s x)).toInt32).toInt8.toInt32).toInt8.toInt32)), (.int z), (.int z), (.int z), (.int z), (.int z), (.int z), (.int z), (.int z), (.int z)] (.int (0 : Int32)) := Arv.set Ar5 q5 S5 M5 H5 G5 (fits_nar_byte _) W5 4 rfl (Nat.le_of_ble_eq_true rfl)
        have K5 : Keep h0 h5 [a] := K4.wr W5 (Or.inl (List.mem_of_getElem? (i := 0) rfl))
        have Z5 : n0 ≤ h5.size := Nat.le_trans Z0 K5.1
        have N5 := Fr.snoc X5 N4 g_a
        obtain ⟨J5, X5, N5⟩ := own_hide X5 N5
        refine own_Go.of (g' := (mkF m 51 #[.val (.long x), .second, .val (.ref a), .val (.int (2 : Int32)), .val (.long (own_s (own_s x))), .second, .val (.int (5 : Int32))] [])) (fun t k => st5 _ k) ?_
        refine og_iload (pc' := 53) X5 hx (hb hby d2_51) rfl rfl ?_
        obtain ⟨fs, hr, hrun, hended, hW, hsame⟩ := X5.leave (v := some (.int (5 : Int32))) (fun h => by rw [Bd.returns] at h; cases h) (BodyLoose.notSynchronized Bd)
        refine ⟨_, _, retI X5 hx Bd.returns (hb hby d2_53) hr, hrun, hended, some (.int (5 : Int32)), _, rfl, ?_, ⟨_, rfl⟩, hW, hsame.mono (by decide) (by decide)⟩
        show Qwr2 Z x a kk z h0 n0 _ T5.heap _
        rw [e5]
        exact ⟨(congrArg (fun q => some (Value.int q)) (by rw [own_len_3 x hpos hc12_1 hc12_2 hc12_3]; decide)), N5, K5, (by rw [own_lst_2_3 x z hc12_1 hc12_2 hc12_3]; exact V5)⟩
      · refine og_ifNo (pc' := 15) X4 hx (hb hby d2_12) ((if0 _ _).trans (flt (fun q => hc12_3 ((lw_lt _ _).mp q))).1) rfl ?_
        refine og_aloadN (pc' := 16) X4 hx (hb hby d2_15) rfl rfl rfl ?_
        refine og_iload (pc' := 18) X4 hx (hb hby d2_16) rfl rfl ?_
        refine og_iinc (pc' := 21) (L' := #[.val (.long x), .second, .val (.ref a), .val (.int (2 : Int32)), .val (.long (own_s (own_s x))), .second, .val (.int ((4 : Int32) + (1 : Int32)))]) X4 hx (hb hby d2_18) rfl rfl rfl ?_
        rw [show ((4 : Int32) + (1 : Int32)) = (5 : Int32) from by decide]
        refine og_lload (pc' := 23) X4 hx (hb hby d2_21) rfl rfl ?_
        refine og_ldc2_w (pc' := 26) X4 hx (hb hby d2_23) hown (mvT hZ (hw _ (List.mem_of_getElem? (i := 11) rfl))) rfl ?_
        refine og_lor (pc' := 27) X4 hx (hb hby d2_26) rfl ?_
        refine og_l2i (pc' := 28) X4 hx (hb hby d2_27) rfl ?_
        refine og_i2b (pc' := 29) X4 hx (hb hby d2_28) rfl ?_
        obtain ⟨cl6, Ar6, q6, S6, M6, H6, G6⟩ := id V4
        have hin6 : ¬ ((4 : Int32) < 0 ∨ cl6.slots.size ≤ ((4 : Int32)).toNatClampNeg) := inb_of S6 ⟨by decide, by decide⟩
        obtain ⟨T6, h6, X6, e6, W6, st6⟩ := stB X4 hx hZ e4 Ar6 (j := (4 : Int32)) hin6 (g := (mkF m 29 #[.val (.long x), .second, .val (.ref a), .val (.int (2 : Int32)), .val (.long (own_s (own_s x))), .second, .val (.int (5 : Int32))] [(.int ((((own_s (own_s x)) ||| (128 : Int64)).toInt32).toInt8.toInt32)), (.int (4 : Int32)), (.ref a)])) rfl rfl (hb hby d2_29)
        have V6 : Arv Z h6 a kk .byte (14 : Int32) [(.int z), (.int z), (.int ((((x ||| (128 : Int64)).toInt32).toInt8.toInt32).toInt8.toInt32)), (.int (((((own_s x) ||| (128 : Int64)).toInt32).toInt8.toInt32).toInt8.toInt32)), (.int (((((own_s (own_s x)) ||| (128 : Int64)).toInt32).toInt8.toInt32).toInt8.toInt32)), (.int z), (.int z), (.int z), (.int z), (.int z), (.int z), (.int z), (.int z), (.int z)] (.int (0 : Int32)) := Arv.set Ar6 q6 S6 M6 H6 G6 (fits_nar_byte _) W6 4 rfl (Nat.le_of_ble_eq_true rfl)
        have K6 : Keep h0 h6 [a] := K4.wr W6 (Or.inl (List.mem_of_getElem? (i := 0) rfl))
        have Z6 : n0 ≤ h6.size := Nat.le_trans Z0 K6.1
        have N6 := Fr.snoc X6 N4 g_a
        obtain ⟨J6, X6, N6⟩ := own_hide X6 N6
        refine own_Go.of (g' := (mkF m 30 #[.val (.long x), .second, .val (.ref a), .val (.int (2 : Int32)), .val (.long (own_s (own_s x))), .second, .val (.int (5 : Int32))] [])) (fun t k => st6 _ k) ?_
        refine og_lload (pc' := 32) X6 hx (hb hby d2_30) rfl rfl ?_
        refine og_bipush (pc' := 34) (n := 7) X6 hx (hb hby d2_32) rfl rfl ?_
        refine own_Go.of (g' := (mkF m 35 #[.val (.long x), .second, .val (.ref a), .val (.int (2 : Int32)), .val (.long (own_s (own_s x))), .second, .val (.int (5 : Int32))] [(.long (own_s (own_s (own_s x))))])) (fun t k => XS.lushr X6.here hx rfl (hb hby d2_34) rfl k) ?_
        refine og_lstore (pc' := 37) (L' := #[.val (.long x), .second, .val (.ref a), .val (.int (2 : Int32)), .val (.long (own_s (own_s (own_s x)))), .second, .val (.int (5 : Int32))]) X6 hx (hb hby d2_35) rfl rfl ?_
        refine og_goto (pc' := 6) X6 hx (hb hby d2_37) (by decide) (by decide) ?_
        refine og_lload (pc' := 8) X6 hx (hb hby d2_6) rfl rfl ?_
        refine og_ldc2_w (pc' := 11) X6 hx (hb hby d2_8) hown (mvT hZ (hw _ (List.mem_of_getElem? (i := 11) rfl))) rfl ?_
        refine og_lcmp (pc' := 12) X6 hx (hb hby d2_11) rfl ?_
        by_cases hc12_4 : (own_s (own_s (own_s x))) < (128 : Int64)
        · refine og_ifYes (pc' := 40) X6 hx (hb hby d2_12) ((if0 _ _).trans (tlt ((lw_lt _ _).mpr hc12_4)).1) (by decide) (by decide) ?_
          refine og_aloadN (pc' := 41) X6 hx (hb hby d2_40) rfl rfl rfl ?_
          refine og_iload (pc' := 43) X6 hx (hb hby d2_41) rfl rfl ?_
          refine og_iinc (pc' := 46) (L' := #[.val (.long x), .second, .val (.ref a), .val (.int (2 : Int32)), .val (.long (own_s (own_s (own_s x)))), .second, .val (.int ((5 : Int32) + (1 : Int32)))]) X6 hx (hb hby d2_43) rfl rfl rfl ?_
          rw [show ((5 : Int32) + (1 : Int32)) = (6 : Int32) from by decide]
          refine og_lload (pc' := 48) X6 hx (hb hby d2_46) rfl rfl ?_
          refine og_l2i (pc' := 49) X6 hx (hb hby d2_48) rfl ?_
          refine og_i2b (pc' := 50) X6 hx (hb hby d2_49) rfl ?_
          obtain ⟨cl7, Ar7, q7, S7, M7, H7, G7⟩ := id V6
          have hin7 : ¬ ((5 : Int32) < 0 ∨ cl7.slots.size ≤ ((5 : Int32)).toNatClampNeg) := inb_of S7 ⟨by decide, by decide⟩
          obtain ⟨T7, h7, X7, e7, W7, st7⟩ := stB X6 hx hZ e6 Ar7 (j := (5 : Int32)) hin7 (g := (mkF m 50 #[.val (.long x), .second, .val (.ref a), .val (.int (2 : Int32)), .val (.long (own_s (own_s (own_s x)))), .second, .val (.int (6 : Int32))] [(.int (((own_s (own_s (own_s x))).toInt32).toInt8.toInt32)), (.int (5 : Int32)), (.ref a)])) rfl rfl (hb hby d2_50)
          have V7 : Arv Z h7 a kk .byte (14 : Int32) [(.int z), (.int z), (.int ((((x ||| (128 : Int64)).toInt32).toInt8.toInt32).toInt8.toInt32)), (.int (((((own_s x) ||| (128 : Int64)).toInt32).toInt8.toInt32).toInt8.toInt32)), (.int (((((own_s (own_s x)) ||| (128 : Int64)).toInt32).toInt8.toInt32).toInt8.toInt32)), (.int ((((own_s (own_s (own_s x))).toInt32).toInt8.toInt32).toInt8.toInt32)), (.int z), (.int z), (.int z), (.int z), (.int z), (.int z), (.int z), (.int z)] (.int (0 : Int32)) := Arv.set Ar7 q7 S7 M7 H7 G7 (fits_nar_byte _) W7 5 rfl (Nat.le_of_ble_eq_true rfl)
          have K7 : Keep h0 h7 [a] := K6.wr W7 (Or.inl (List.mem_of_getElem? (i := 0) rfl))
          have Z7 : n0 ≤ h7.size := Nat.le_trans Z0 K7.1
          have N7 := Fr.snoc X7 N6 g_a
          obtain ⟨J7, X7, N7⟩ := own_hide X7 N7
          refine own_Go.of (g' := (mkF m 51 #[.val (.long x), .second, .val (.ref a), .val (.int (2 : Int32)), .val (.long (own_s (own_s (own_s x)))), .second, .val (.int (6 : Int32))] [])) (fun t k => st7 _ k) ?_
          refine og_iload (pc' := 53) X7 hx (hb hby d2_51) rfl rfl ?_
          obtain ⟨fs, hr, hrun, hended, hW, hsame⟩ := X7.leave (v := some (.int (6 : Int32))) (fun h => by rw [Bd.returns] at h; cases h) (BodyLoose.notSynchronized Bd)
          refine ⟨_, _, retI X7 hx Bd.returns (hb hby d2_53) hr, hrun, hended, some (.int (6 : Int32)), _, rfl, ?_, ⟨_, rfl⟩, hW, hsame.mono (by decide) (by decide)⟩
          show Qwr2 Z x a kk z h0 n0 _ T7.heap _
          rw [e7]
          exact ⟨(congrArg (fun q => some (Value.int q)) (by rw [own_len_4 x hpos hc12_1 hc12_2 hc12_3 hc12_4]; decide)), N7, K7, (by rw [own_lst_2_4 x z hc12_1 hc12_2 hc12_3 hc12_4]; exact V7)⟩
        · refine og_ifNo (pc' := 15) X6 hx (hb hby d2_12) ((if0 _ _).trans (flt (fun q => hc12_4 ((lw_lt _ _).mp q))).1) rfl ?_
          refine og_aloadN (pc' := 16) X6 hx (hb hby d2_15) rfl rfl rfl ?_
          refine og_iload (pc' := 18) X6 hx (hb hby d2_16) rfl rfl ?_
          refine og_iinc (pc' := 21) (L' := #[.val (.long x), .second, .val (.ref a), .val (.int (2 : Int32)), .val (.long (own_s (own_s (own_s x)))), .second, .val (.int ((5 : Int32) + (1 : Int32)))]) X6 hx (hb hby d2_18) rfl rfl rfl ?_
          rw [show ((5 : Int32) + (1 : Int32)) = (6 : Int32) from by decide]
          refine og_lload (pc' := 23) X6 hx (hb hby d2_21) rfl rfl ?_
          refine og_ldc2_w (pc' := 26) X6 hx (hb hby d2_23) hown (mvT hZ (hw _ (List.mem_of_getElem? (i := 11) rfl))) rfl ?_
          refine og_lor (pc' := 27) X6 hx (hb hby d2_26) rfl ?_
          refine og_l2i (pc' := 28) X6 hx (hb hby d2_27) rfl ?_
          refine og_i2b (pc' := 29) X6 hx (hb hby d2_28) rfl ?_
          obtain ⟨cl8, Ar8, q8, S8, M8, H8, G8⟩ := id V6
          have hin8 : ¬ ((5 : Int32) < 0 ∨ cl8.slots.size ≤ ((5 : Int32)).toNatClampNeg) := inb_of S8 ⟨by decide, by decide⟩
          obtain ⟨T8, h8, X8, e8, W8, st8⟩ := stB X6 hx hZ e6 Ar8 (j := (5 : Int32)) hin8 (g := (mkF m 29 #[.val (.long x), .second, .val (.ref a), .val (.int (2 : Int32)), .val (.long (own_s (own_s (own_s x)))), .second, .val (.int (6 : Int32))] [(.int ((((own_s (own_s (own_s x))) ||| (128 : Int64)).toInt32).toInt8.toInt32)), (.int (5 : Int32)), (.ref a)])) rfl rfl (hb hby d2_29)
          have V8 : Arv Z h8 a kk .byte (14 : Int32) [(.int z), (.int z), (.int ((((x ||| (128 : Int64)).toInt32).toInt8.toInt32).toInt8.toInt32)), (.int (((((own_s x) ||| (128 : Int64)).toInt32).toInt8.toInt32).toInt8.toInt32)), (.int (((((own_s (own_s x)) ||| (128 : Int64)).toInt32).toInt8.toInt32).toInt8.toInt32)), (.int (((((own_s (own_s (own_s x))) ||| (128 : Int64)).toInt32).toInt8.toInt32).toInt8.toInt32)), (.int z), (.int z), (.int z), (.int z), (.int z), (.int z), (.int z), (.int z)] (.int (0 : Int32)) := Arv.set Ar8 q8 S8 M8 H8 G8 (fits_nar_byte _) W8 5 rfl (Nat.le_of_ble_eq_true rfl)
          have K8 : Keep h0 h8 [a] := K6.wr W8 (Or.inl (List.mem_of_getElem? (i := 0) rfl))
          have Z8 : n0 ≤ h8.size := Nat.le_trans Z0 K8.1
          have N8 := Fr.snoc X8 N6 g_a
          obtain ⟨J8, X8, N8⟩ := own_hide X8 N8
          refine own_Go.of (g' := (mkF m 30 #[.val (.long x), .second, .val (.ref a), .val (.int (2 : Int32)), .val (.long (own_s (own_s (own_s x)))), .second, .val (.int (6 : Int32))] [])) (fun t k => st8 _ k) ?_
          refine og_lload (pc' := 32) X8 hx (hb hby d2_30) rfl rfl ?_
          refine og_bipush (pc' := 34) (n := 7) X8 hx (hb hby d2_32) rfl rfl ?_
          refine own_Go.of (g' := (mkF m 35 #[.val (.long x), .second, .val (.ref a), .val (.int (2 : Int32)), .val (.long (own_s (own_s (own_s x)))), .second, .val (.int (6 : Int32))] [(.long (own_s (own_s (own_s (own_s x)))))])) (fun t k => XS.lushr X8.here hx rfl (hb hby d2_34) rfl k) ?_
          refine og_lstore (pc' := 37) (L' := #[.val (.long x), .second, .val (.ref a), .val (.int (2 : Int32)), .val (.long (own_s (own_s (own_s (own_s x))))), .second, .val (.int (6 : Int32))]) X8 hx (hb hby d2_35) rfl rfl ?_
          refine og_goto (pc' := 6) X8 hx (hb hby d2_37) (by decide) (by decide) ?_
          refine og_lload (pc' := 8) X8 hx (hb hby d2_6) rfl rfl ?_
          refine og_ldc2_w (pc' := 11) X8 hx (hb hby d2_8) hown (mvT hZ (hw _ (List.mem_of_getElem? (i := 11) rfl))) rfl ?_
          refine og_lcmp (pc' := 12) X8 hx (hb hby d2_11) rfl ?_
          by_cases hc12_5 : (own_s (own_s (own_s (own_s x)))) < (128 : Int64)
          · refine og_ifYes (pc' := 40) X8 hx (hb hby d2_12) ((if0 _ _).trans (tlt ((lw_lt _ _).mpr hc12_5)).1) (by decide) (by decide) ?_
            refine og_aloadN (pc' := 41) X8 hx (hb hby d2_40) rfl rfl rfl ?_
            refine og_iload (pc' := 43) X8 hx (hb hby d2_41) rfl rfl ?_
            refine og_iinc (pc' := 46) (L' := #[.val (.long x), .second, .val (.ref a), .val (.int (2 : Int32)), .val (.long (own_s (own_s (own_s (own_s x))))), .second, .val (.int ((6 : Int32) + (1 : Int32)))]) X8 hx (hb hby d2_43) rfl rfl rfl ?_
            rw [show ((6 : Int32) + (1 : Int32)) = (7 : Int32) from by decide]
            refine og_lload (pc' := 48) X8 hx (hb hby d2_46) rfl rfl ?_
            refine og_l2i (pc' := 49) X8 hx (hb hby d2_48) rfl ?_
            refine og_i2b (pc' := 50) X8 hx (hb hby d2_49) rfl ?_
            obtain ⟨cl9, Ar9, q9, S9, M9, H9, G9⟩ := id V8
            have hin9 : ¬ ((6 : Int32) < 0 ∨ cl9.slots.size ≤ ((6 : Int32)).toNatClampNeg) := inb_of S9 ⟨by decide, by decide⟩
            obtain ⟨T9, h9, X9, e9, W9, st9⟩ := stB X8 hx hZ e8 Ar9 (j := (6 : Int32)) hin9 (g := (mkF m 50 #[.val (.long x), .second, .val (.ref a), .val (.int (2 : Int32)), .val (.long (own_s (own_s (own_s (own_s x))))), .second, .val (.int (7 : Int32))] [(.int (((own_s (own_s (own_s (own_s x)))).toInt32).toInt8.toInt32)), (.int (6 : Int32)), (.ref a)])) rfl rfl (hb hby d2_50)
            have V9 : Arv Z h9 a kk .byte (14 : Int32) [(.int z), (.int z), (.int ((((x ||| (128 : Int64)).toInt32).toInt8.toInt32).toInt8.toInt32)), (.int (((((own_s x) ||| (128 : Int64)).toInt32).toInt8.toInt32).toInt8.toInt32)), (.int (((((own_s (own_s x)) ||| (128 : Int64)).toInt32).toInt8.toInt32).toInt8.toInt32)), (.int (((((own_s (own_s (own_s x))) ||| (128 : Int64)).toInt32).toInt8.toInt32).toInt8.toInt32)), (.int ((((own_s (own_s (own_s (own_s x)))).toInt32).toInt8.toInt32).toInt8.toInt32)), (.int z), (.int z), (.int z), (.int z), (.int z), (.int z), (.int z)] (.int (0 : Int32)) := Arv.set Ar9 q9 S9 M9 H9 G9 (fits_nar_byte _) W9 6 rfl (Nat.le_of_ble_eq_true rfl)
            have K9 : Keep h0 h9 [a] := K8.wr W9 (Or.inl (List.mem_of_getElem? (i := 0) rfl))
            have Z9 : n0 ≤ h9.size := Nat.le_trans Z0 K9.1
            have N9 := Fr.snoc X9 N8 g_a
            obtain ⟨J9, X9, N9⟩ := own_hide X9 N9
            refine own_Go.of (g' := (mkF m 51 #[.val (.long x), .second, .val (.ref a), .val (.int (2 : Int32)), .val (.long (own_s (own_s (own_s (own_s x))))), .second, .val (.int (7 : Int32))] [])) (fun t k => st9 _ k) ?_
            refine og_iload (pc' := 53) X9 hx (hb hby d2_51) rfl rfl ?_
            obtain ⟨fs, hr, hrun, hended, hW, hsame⟩ := X9.leave (v := some (.int (7 : Int32))) (fun h => by rw [Bd.returns] at h; cases h) (BodyLoose.notSynchronized Bd)
            refine ⟨_, _, retI X9 hx Bd.returns (hb hby d2_53) hr, hrun, hended, some (.int (7 : Int32)), _, rfl, ?_, ⟨_, rfl⟩, hW, hsame.mono (by decide) (by decide)⟩
            show Qwr2 Z x a kk z h0 n0 _ T9.heap _
            rw [e9]
            exact ⟨(congrArg (fun q => some (Value.int q)) (by rw [own_len_5 x hpos hc12_1 hc12_2 hc12_3 hc12_4 hc12_5]; decide)), N9, K9, (by rw [own_lst_2_5 x z hc12_1 hc12_2 hc12_3 hc12_4 hc12_5]; exact V9)⟩
          · refine og_ifNo (pc' := 15) X8 hx (hb hby d2_12) ((if0 _ _).trans (flt (fun q => hc12_5 ((lw_lt _ _).mp q))).1) rfl ?_
            refine og_aloadN (pc' := 16) X8 hx (hb hby d2_15) rfl rfl rfl ?_
            refine og_iload (pc' := 18) X8 hx (hb hby d2_16) rfl rfl ?_
            refine og_iinc (pc' := 21) (L' := #[.val (.long x), .second, .val (.ref a), .val (.int (2 : Int32)), .val (.long (own_s (own_s (own_s (own_s x))))), .second, .val (.int ((6 : Int32) + (1 : Int32)))]) X8 hx (hb hby d2_18) rfl rfl rfl ?_
            rw [show ((6 : Int32) + (1 : Int32)) = (7 : Int32) from by decide]
            refine og_lload (pc' := 23) X8 hx (hb hby d2_21) rfl rfl ?_
            refine og_ldc2_w (pc' := 26) X8 hx (hb hby d2_23) hown (mvT hZ (hw _ (List.mem_of_getElem? (i := 11) rfl))) rfl ?_
            refine og_lor (pc' := 27) X8 hx (hb hby d2_26) rfl ?_
            refine og_l2i (pc' := 28) X8 hx (hb hby d2_27) rfl ?_
            refine og_i2b (pc' := 29) X8 hx (hb hby d2_28) rfl ?_
            obtain ⟨cl10, Ar10, q10, S10, M10, H10, G10⟩ := id V8
            have hin10 : ¬ ((6 : Int32) < 0 ∨ cl10.slots.size ≤ ((6 : Int32)).toNatClampNeg) := inb_of S10 ⟨by decide, by decide⟩
            obtain ⟨T10, h10, X10, e10, W10, st10⟩ := stB X8 hx hZ e8 Ar10 (j := (6 : Int32)) hin10 (g := (mkF m 29 #[.val (.long x), .second, .val (.ref a), .val (.int (2 : Int32)), .val (.long (own_s (own_s (own_s (own_s x))))), .second, .val (.int (7 : Int32))] [(.int ((((own_s (own_s (own_s (own_s x)))) ||| (128 : Int64)).toInt32).toInt8.toInt32)), (.int (6 : Int32)), (.ref a)])) rfl rfl (hb hby d2_29)
            have V10 : Arv Z h10 a kk .byte (14 : Int32) [(.int z), (.int z), (.int ((((x ||| (128 : Int64)).toInt32).toInt8.toInt32).toInt8.toInt32)), (.int (((((own_s x) ||| (128 : Int64)).toInt32).toInt8.toInt32).toInt8.toInt32)), (.int (((((own_s (own_s x)) ||| (128 : Int64)).toInt32).toInt8.toInt32).toInt8.toInt32)), (.int (((((own_s (own_s (own_s x))) ||| (128 : Int64)).toInt32).toInt8.toInt32).toInt8.toInt32)), (.int (((((own_s (own_s (own_s (own_s x)))) ||| (128 : Int64)).toInt32).toInt8.toInt32).toInt8.toInt32)), (.int z), (.int z), (.int z), (.int z), (.int z), (.int z), (.int z)] (.int (0 : Int32)) := Arv.set Ar10 q10 S10 M10 H10 G10 (fits_nar_byte _) W10 6 rfl (Nat.le_of_ble_eq_true rfl)
            have K10 : Keep h0 h10 [a] := K8.wr W10 (Or.inl (List.mem_of_getElem? (i := 0) rfl))
            have Z10 : n0 ≤ h10.size := Nat.le_trans Z0 K10.1
            have N10 := Fr.snoc X10 N8 g_a
            obtain ⟨J10, X10, N10⟩ := own_hide X10 N10
            refine own_Go.of (g' := (mkF m 30 #[.val (.long x), .second, .val (.ref a), .val (.int (2 : Int32)), .val (.long (own_s (own_s (own_s (own_s x))))), .second, .val (.int (7 : Int32))] [])) (fun t k => st10 _ k) ?_
            refine og_lload (pc' := 32) X10 hx (hb hby d2_30) rfl rfl ?_
            refine og_bipush (pc' := 34) (n := 7) X10 hx (hb hby d2_32) rfl rfl ?_
            refine own_Go.of (g' := (mkF m 35 #[.val (.long x), .second, .val (.ref a), .val (.int (2 : Int32)), .val (.long (own_s (own_s (own_s (own_s x))))), .second, .val (.int (7 : Int32))] [(.long (own_s (own_s (own_s (own_s (own_s x))))))])) (fun t k => XS.lushr X10.here hx rfl (hb hby d2_34) rfl k) ?_
            refine og_lstore (pc' := 37) (L' := #[.val (.long x), .second, .val (.ref a), .val (.int (2 : Int32)), .val (.long (own_s (own_s (own_s (own_s (own_s x)))))), .second, .val (.int (7 : Int32))]) X10 hx (hb hby d2_35) rfl rfl ?_
            refine og_goto (pc' := 6) X10 hx (hb hby d2_37) (by decide) (by decide) ?_
            refine og_lload (pc' := 8) X10 hx (hb hby d2_6) rfl rfl ?_
            refine og_ldc2_w (pc' := 11) X10 hx (hb hby d2_8) hown (mvT hZ (hw _ (List.mem_of_getElem? (i := 11) rfl))) rfl ?_
            refine og_lcmp (pc' := 12) X10 hx (hb hby d2_11) rfl ?_
            by_cases hc12_6 : (own_s (own_s (own_s (own_s (own_s x))))) < (128 : Int64)
            · refine og_ifYes (pc' := 40) X10 hx (hb hby d2_12) ((if0 _ _).trans (tlt ((lw_lt _ _).mpr hc12_6)).1) (by decide) (by decide) ?_
              refine og_aloadN (pc' := 41) X10 hx (hb hby d2_40) rfl rfl rfl ?_
              refine og_iload (pc' := 43) X10 hx (hb hby d2_41) rfl rfl ?_
              refine og_iinc (pc' := 46) (L' := #[.val (.long x), .second, .val (.ref a), .val (.int (2 : Int32)), .val (.long (own_s (own_s (own_s (own_s (own_s x)))))), .second, .val (.int ((7 : Int32) + (1 : Int32)))]) X10 hx (hb hby d2_43) rfl rfl rfl ?_
              rw [show ((7 : Int32) + (1 : Int32)) = (8 : Int32) from by decide]
              refine og_lload (pc' := 48) X10 hx (hb hby d2_46) rfl rfl ?_
              refine og_l2i (pc' := 49) X10 hx (hb hby d2_48) rfl ?_
              refine og_i2b (pc' := 50) X10 hx (hb hby d2_49) rfl ?_
              obtain ⟨cl11, Ar11, q11, S11, M11, H11, G11⟩ := id V10
              have hin11 : ¬ ((7 : Int32) < 0 ∨ cl11.slots.size ≤ ((7 : Int32)).toNatClampNeg) := inb_of S11 ⟨by decide, by decide⟩
              obtain ⟨T11, h11, X11, e11, W11, st11⟩ := stB X10 hx hZ e10 Ar11 (j := (7 : Int32)) hin11 (g := (mkF m 50 #[.val (.long x), .second, .val (.ref a), .val (.int (2 : Int32)), .val (.long (own_s (own_s (own_s (own_s (own_s x)))))), .second, .val (.int (8 : Int32))] [(.int (((own_s (own_s (own_s (own_s (own_s x))))).toInt32).toInt8.toInt32)), (.int (7 : Int32)), (.ref a)])) rfl rfl (hb hby d2_50)
              have V11 : Arv Z h11 a kk .byte (14 : Int32) [(.int z), (.int z), (.int ((((x ||| (128 : Int64)).toInt32).toInt8.toInt32).toInt8.toInt32)), (.int (((((own_s x) ||| (128 : Int64)).toInt32).toInt8.toInt32).toInt8.toInt32)), (.int (((((own_s (own_s x)) ||| (128 : Int64)).toInt32).toInt8.toInt32).toInt8.toInt32)), (.int (((((own_s (own_s (own_s x))) ||| (128 : Int64)).toInt32).toInt8.toInt32).toInt8.toInt32)), (.int (((((own_s (own_s (own_s (own_s x)))) ||| (128 : Int64)).toInt32).toInt8.toInt32).toInt8.toInt32)), (.int ((((own_s (own_s (own_s (own_s (own_s x))))).toInt32).toInt8.toInt32).toInt8.toInt32)), (.int z), (.int z), (.int z), (.int z), (.int z), (.int z)] (.int (0 : Int32)) := Arv.set Ar11 q11 S11 M11 H11 G11 (fits_nar_byte _) W11 7 rfl (Nat.le_of_ble_eq_true rfl)
              have K11 : Keep h0 h11 [a] := K10.wr W11 (Or.inl (List.mem_of_getElem? (i := 0) rfl))
              have Z11 : n0 ≤ h11.size := Nat.le_trans Z0 K11.1
              have N11 := Fr.snoc X11 N10 g_a
              obtain ⟨J11, X11, N11⟩ := own_hide X11 N11
              refine own_Go.of (g' := (mkF m 51 #[.val (.long x), .second, .val (.ref a), .val (.int (2 : Int32)), .val (.long (own_s (own_s (own_s (own_s (own_s x)))))), .second, .val (.int (8 : Int32))] [])) (fun t k => st11 _ k) ?_
              refine og_iload (pc' := 53) X11 hx (hb hby d2_51) rfl rfl ?_
              obtain ⟨fs, hr, hrun, hended, hW, hsame⟩ := X11.leave (v := some (.int (8 : Int32))) (fun h => by rw [Bd.returns] at h; cases h) (BodyLoose.notSynchronized Bd)
              refine ⟨_, _, retI X11 hx Bd.returns (hb hby d2_53) hr, hrun, hended, some (.int (8 : Int32)), _, rfl, ?_, ⟨_, rfl⟩, hW, hsame.mono (by decide) (by decide)⟩
              show Qwr2 Z x a kk z h0 n0 _ T11.heap _
              rw [e11]
              exact ⟨(congrArg (fun q => some (Value.int q)) (by rw [own_len_6 x hpos hc12_1 hc12_2 hc12_3 hc12_4 hc12_5 hc12_6]; decide)), N11, K11, (by rw [own_lst_2_6 x z hc12_1 hc12_2 hc12_3 hc12_4 hc12_5 hc12_6]; exact V11)⟩
            · refine og_ifNo (pc' := 15) X10 hx (hb hby d2_12) ((if0 _ _).trans (flt (fun q => hc12_6 ((lw_lt _ _).mp q))).1) rfl ?_
              refine og_aloadN (pc' := 16) X10 hx (hb hby d2_15) rfl rfl rfl ?_
              refine og_iload (pc' := 18) X10 hx (hb hby d2_16) rfl rfl ?_
              refine og_iinc (pc' := 21) (L' := #[.val (.long x), .second, .val (.ref a), .val (.int (2 : Int32)), .val (.long (own_s (own_s (own_s (own_s (own_s x)))))), .second, .val (.int ((7 : Int32) + (1 : Int32)))]) X10 hx (hb hby d2_18) rfl rfl rfl ?_
              rw [show ((7 : Int32) + (1 : Int32)) = (8 : Int32) from by decide]
              refine og_lload (pc' := 23) X10 hx (hb hby d2_21) rfl rfl ?_
              refine og_ldc2_w (pc' := 26) X10 hx (hb hby d2_23) hown (mvT hZ (hw _ (List.mem_of_getElem? (i := 11) rfl))) rfl ?_
              refine og_lor (pc' := 27) X10 hx (hb hby d2_26) rfl ?_
              refine og_l2i (pc' := 28) X10 hx (hb hby d2_27) rfl ?_
              refine og_i2b (pc' := 29) X10 hx (hb hby d2_28) rfl ?_
              obtain ⟨cl12, Ar12, q12, S12, M12, H12, G12⟩ := id V10
              have hin12 : ¬ ((7 : Int32) < 0 ∨ cl12.slots.size ≤ ((7 : Int32)).toNatClampNeg) := inb_of S12 ⟨by decide, by decide⟩
              obtain ⟨T12, h12, X12, e12, W12, st12⟩ := stB X10 hx hZ e10 Ar12 (j := (7 : Int32)) hin12 (g := (mkF m 29 #[.val (.long x), .second, .val (.ref a), .val (.int (2 : Int32)), .val (.long (own_s (own_s (own_s (own_s (own_s x)))))), .second, .val (.int (8 : Int32))] [(.int ((((own_s (own_s (own_s (own_s (own_s x))))) ||| (128 : Int64)).toInt32).toInt8.toInt32)), (.int (7 : Int32)), (.ref a)])) rfl rfl (hb hby d2_29)
              have V12 : Arv Z h12 a kk .byte (14 : Int32) [(.int z), (.int z), (.int ((((x ||| (128 : Int64)).toInt32).toInt8.toInt32).toInt8.toInt32)), (.int (((((own_s x) ||| (128 : Int64)).toInt32).toInt8.toInt32).toInt8.toInt32)), (.int (((((own_s (own_s x)) ||| (128 : Int64)).toInt32).toInt8.toInt32).toInt8.toInt32)), (.int (((((own_s (own_s (own_s x))) ||| (128 : Int64)).toInt32).toInt8.toInt32).toInt8.toInt32)), (.int (((((own_s (own_s (own_s (own_s x)))) ||| (128 : Int64)).toInt32).toInt8.toInt32).toInt8.toInt32)), (.int (((((own_s (own_s (own_s (own_s (own_s x))))) ||| (128 : Int64)).toInt32).toInt8.toInt32).toInt8.toInt32)), (.int z), (.int z), (.int z), (.int z), (.int z), (.int z)] (.int (0 : Int32)) := Arv.set Ar12 q12 S12 M12 H12 G12 (fits_nar_byte _) W12 7 rfl (Nat.le_of_ble_eq_true rfl)
              have K12 : Keep h0 h12 [a] := K10.wr W12 (Or.inl (List.mem_of_getElem? (i := 0) rfl))
              have Z12 : n0 ≤ h12.size := Nat.le_trans Z0 K12.1
              have N12 := Fr.snoc X12 N10 g_a
              obtain ⟨J12, X12, N12⟩ := own_hide X12 N12
              refine own_Go.of (g' := (mkF m 30 #[.val (.long x), .second, .val (.ref a), .val (.int (2 : Int32)), .val (.long (own_s (own_s (own_s (own_s (own_s x)))))), .second, .val (.int (8 : Int32))] [])) (fun t k => st12 _ k) ?_
              refine og_lload (pc' := 32) X12 hx (hb hby d2_30) rfl rfl ?_
              refine og_bipush (pc' := 34) (n := 7) X12 hx (hb hby d2_32) rfl rfl ?_
              refine own_Go.of (g' := (mkF m 35 #[.val (.long x), .second, .val (.ref a), .val (.int (2 : Int32)), .val (.long (own_s (own_s (own_s (own_s (own_s x)))))), .second, .val (.int (8 : Int32))] [(.long (own_s (own_s (own_s (own_s (own_s (own_s x)))))))])) (fun t k => XS.lushr X12.here hx rfl (hb hby d2_34) rfl k) ?_
              refine og_lstore (pc' := 37) (L' := #[.val (.long x), .second, .val (.ref a), .val (.int (2 : Int32)), .val (.long (own_s (own_s (own_s (own_s (own_s (own_s x))))))), .second, .val (.int (8 : Int32))]) X12 hx (hb hby d2_35) rfl rfl ?_
              refine og_goto (pc' := 6) X12 hx (hb hby d2_37) (by decide) (by decide) ?_
              refine og_lload (pc' := 8) X12 hx (hb hby d2_6) rfl rfl ?_
              refine og_ldc2_w (pc' := 11) X12 hx (hb hby d2_8) hown (mvT hZ (hw _ (List.mem_of_getElem? (i := 11) rfl))) rfl ?_
              refine og_lcmp (pc' := 12) X12 hx (hb hby d2_11) rfl ?_
              by_cases hc12_7 : (own_s (own_s (own_s (own_s (own_s (own_s x)))))) < (128 : Int64)
              · refine og_ifYes (pc' := 40) X12 hx (hb hby d2_12) ((if0 _ _).trans (tlt ((lw_lt _ _).mpr hc12_7)).1) (by decide) (by decide) ?_
                refine og_aloadN (pc' := 41) X12 hx (hb hby d2_40) rfl rfl rfl ?_
                refine og_iload (pc' := 43) X12 hx (hb hby d2_41) rfl rfl ?_
                refine og_iinc (pc' := 46) (L' := #[.val (.long x), .second, .val (.ref a), .val (.int (2 : Int32)), .val (.long (own_s (own_s (own_s (own_s (own_s (own_s x))))))), .second, .val (.int ((8 : Int32) + (1 : Int32)))]) X12 hx (hb hby d2_43) rfl rfl rfl ?_
                rw [show ((8 : Int32) + (1 : Int32)) = (9 : Int32) from by decide]
                refine og_lload (pc' := 48) X12 hx (hb hby d2_46) rfl rfl ?_
                refine og_l2i (pc' := 49) X12 hx (hb hby d2_48) rfl ?_
                refine og_i2b (pc' := 50) X12 hx (hb hby d2_49) rfl ?_
                obtain ⟨cl13, Ar13, q13, S13, M13, H13, G13⟩ := id V12
                have hin13 : ¬ ((8 : Int32) < 0 ∨ cl13.slots.size ≤ ((8 : Int32)).toNatClampNeg) := inb_of S13 ⟨by decide, by decide⟩
                obtain ⟨T13, h13, X13, e13, W13, st13⟩ := stB X12 hx hZ e12 Ar13 (j := (8 : Int32)) hin13 (g := (mkF m 50 #[.val (.long x), .second, .val (.ref a), .val (.int (2 : Int32)), .val (.long (own_s (own_s (own_s (own_s (own_s (own_s x))))))), .second, .val (.int (9 : Int32))] [(.int (((own_s (own_s (own_s (own_s (own_s (own_s x)))))).toInt32).toInt8.toInt32)), (.int (8 : Int32)), (.ref a)])) rfl rfl (hb hby d2_50)
                have V13 : Arv Z h13 a kk .byte (14 : Int32) [(.int z), (.int z), (.int ((((x ||| (128 : Int64)).toInt32).toInt8.toInt32).toInt8.toInt32)), (.int (((((own_s x) ||| (128 : Int64)).toInt32).toInt8.toInt32).toInt8.toInt32)), (.int (((((own_s (own_s x)) ||| (128 : Int64)).toInt32).toInt8.toInt32).toInt8.toInt32)), (.int (((((own_s (own_s (own_s x))) ||| (128 : Int64)).toInt32).toInt8.toInt32).toInt8.toInt32)), (.int (((((own_s (own_s (own_s (own_s x)))) ||| (128 : Int64)).toInt32).toInt8.toInt32).toInt8.toInt32)), (.int (((((own_s (own_s (own_s (own_s (own_s x))))) ||| (128 : Int64)).toInt32).toInt8.toInt32).toInt8.toInt32)), (.int ((((own_s (own_s (own_s (own_s (own_s (own_s x)))))).toInt32).toInt8.toInt32).toInt8.toInt32)), (.int z), (.int z), (.int z), (.int z), (.int z)] (.int (0 : Int32)) := Arv.set Ar13 q13 S13 M13 H13 G13 (fits_nar_byte _) W13 8 rfl (Nat.le_of_ble_eq_true rfl)
                have K13 : Keep h0 h13 [a] := K12.wr W13 (Or.inl (List.mem_of_getElem? (i := 0) rfl))
                have Z13 : n0 ≤ h13.size := Nat.le_trans Z0 K13.1
                have N13 := Fr.snoc X13 N12 g_a
                obtain ⟨J13, X13, N13⟩ := own_hide X13 N13
                refine own_Go.of (g' := (mkF m 51 #[.val (.long x), .second, .val (.ref a), .val (.int (2 : Int32)), .val (.long (own_s (own_s (own_s (own_s (own_s (own_s x))))))), .second, .val (.int (9 : Int32))] [])) (fun t k => st13 _ k) ?_
                refine og_iload (pc' := 53) X13 hx (hb hby d2_51) rfl rfl ?_
                obtain ⟨fs, hr, hrun, hended, hW, hsame⟩ := X13.leave (v := some (.int (9 : Int32))) (fun h => by rw [Bd.returns] at h; cases h) (BodyLoose.notSynchronized Bd)
                refine ⟨_, _, retI X13 hx Bd.returns (hb hby d2_53) hr, hrun, hended, some (.int (9 : Int32)), _, rfl, ?_, ⟨_, rfl⟩, hW, hsame.mono (by decide) (by decide)⟩
                show Qwr2 Z x a kk z h0 n0 _ T13.heap _
                rw [e13]
                exact ⟨(congrArg (fun q => some (Value.int q)) (by rw [own_len_7 x hpos hc12_1 hc12_2 hc12_3 hc12_4 hc12_5 hc12_6 hc12_7]; decide)), N13, K13, (by rw [own_lst_2_7 x z hc12_1 hc12_2 hc12_3 hc12_4 hc12_5 hc12_6 hc12_7]; exact V13)⟩
              · refine og_ifNo (pc' := 15) X12 hx (hb hby d2_12) ((if0 _ _).trans (flt (fun q => hc12_7 ((lw_lt _ _).mp q))).1) rfl ?_
                refine og_aloadN (pc' := 16) X12 hx (hb hby d2_15) rfl rfl rfl ?_
                refine og_iload (pc' := 18) X12 hx (hb hby d2_16) rfl rfl ?_
                refine og_iinc (pc' := 21) (L' := #[.val (.long x), .second, .val (.ref a), .val (.int (2 : Int32)), .val (.long (own_s (own_s (own_s (own_s (own_s (own_s x))))))), .second, .val (.int ((8 : Int32) + (1 : Int32)))]) X12 hx (hb hby d2_18) rfl rfl rfl ?_
                rw [show ((8 : Int32) + (1 : Int32)) = (9 : Int32) from by decide]
                refine og_lload (pc' := 23) X12 hx (hb hby d2_21) rfl rfl ?_
                refine og_ldc2_w (pc' := 26) X12 hx (hb hby d2_23) hown (mvT hZ (hw _ (List.mem_of_getElem? (i := 11) rfl))) rfl ?_
                refine og_lor (pc' := 27) X12 hx (hb hby d2_26) rfl ?_
                refine og_l2i (pc' := 28) X12 hx (hb hby d2_27) rfl ?_
                refine og_i2b (pc' := 29) X12 hx (hb hby d2_28) rfl ?_
                obtain ⟨cl14, Ar14, q14, S14, M14, H14, G14⟩ := id V12
                have hin14 : ¬ ((8 : Int32) < 0 ∨ cl14.slots.size ≤ ((8 : Int32)).toNatClampNeg) := inb_of S14 ⟨by decide, by decide⟩
                obtain ⟨T14, h14, X14, e14, W14, st14⟩ := stB X12 hx hZ e12 Ar14 (j := (8 : Int32)) hin14 (g := (mkF m 29 #[.val (.long x), .second, .val (.ref a), .val (.int (2 : Int32)), .val (.long (own_s (own_s (own_s (own_s (own_s (own_s x))))))), .second, .val (.int (9 : Int32))] [(.int ((((own_s (own_s (own_s (own_s (own_s (own_s x)))))) ||| (128 : Int64)).toInt32).toInt8.toInt32)), (.int (8 : Int32)), (.ref a)])) rfl rfl (hb hby d2_29)
                have V14 : Arv Z h14 a kk .byte (14 : Int32) [(.int z), (.int z), (.int ((((x ||| (128 : Int64)).toInt32).toInt8.toInt32).toInt8.toInt32)), (.int (((((own_s x) ||| (128 : Int64)).toInt32).toInt8.toInt32).toInt8.toInt32)), (.int (((((own_s (own_s x)) ||| (128 : Int64)).toInt32).toInt8.toInt32).toInt8.toInt32)), (.int (((((own_s (own_s (own_s x))) ||| (128 : Int64)).toInt32).toInt8.toInt32).toInt8.toInt32)), (.int (((((own_s (own_s (own_s (own_s x)))) ||| (128 : Int64)).toInt32).toInt8.toInt32).toInt8.toInt32)), (.int (((((own_s (own_s (own_s (own_s (own_s x))))) ||| (128 : Int64)).toInt32).toInt8.toInt32).toInt8.toInt32)), (.int (((((own_s (own_s (own_s (own_s (own_s (own_s x)))))) ||| (128 : Int64)).toInt32).toInt8.toInt32).toInt8.toInt32)), (.int z), (.int z), (.int z), (.int z), (.int z)] (.int (0 : Int32)) := Arv.set Ar14 q14 S14 M14 H14 G14 (fits_nar_byte _) W14 8 rfl (Nat.le_of_ble_eq_true rfl)
                have K14 : Keep h0 h14 [a] := K12.wr W14 (Or.inl (List.mem_of_getElem? (i := 0) rfl))
                have Z14 : n0 ≤ h14.size := Nat.le_trans Z0 K14.1
                have N14 := Fr.snoc X14 N12 g_a
                obtain ⟨J14, X14, N14⟩ := own_hide X14 N14
                refine own_Go.of (g' := (mkF m 30 #[.val (.long x), .second, .val (.ref a), .val (.int (2 : Int32)), .val (.long (own_s (own_s (own_s (own_s (own_s (own_s x))))))), .second, .val (.int (9 : Int32))] [])) (fun t k => st14 _ k) ?_
                refine og_lload (pc' := 32) X14 hx (hb hby d2_30) rfl rfl ?_
                refine og_bipush (pc' := 34) (n := 7) X14 hx (hb hby d2_32) rfl rfl ?_
                refine own_Go.of (g' := (mkF m 35 #[.val (.long x), .second, .val (.ref a), .val (.int (2 : Int32)), .val (.long (own_s (own_s (own_s (own_s (own_s (own_s x))))))), .second, .val (.int (9 : Int32))] [(.long (own_s (own_s (own_s (own_s (own_s (own_s (own_s x))))))))])) (fun t k => XS.lushr X14.here hx rfl (hb hby d2_34) rfl k) ?_
                refine og_lstore (pc' := 37) (L' := #[.val (.long x), .second, .val (.ref a), .val (.int (2 : Int32)), .val (.long (own_s (own_s (own_s (own_s (own_s (own_s (own_s x)))))))), .second, .val (.int (9 : Int32))]) X14 hx (hb hby d2_35) rfl rfl ?_
                refine og_goto (pc' := 6) X14 hx (hb hby d2_37) (by decide) (by decide) ?_
                refine og_lload (pc' := 8) X14 hx (hb hby d2_6) rfl rfl ?_
                refine og_ldc2_w (pc' := 11) X14 hx (hb hby d2_8) hown (mvT hZ (hw _ (List.mem_of_getElem? (i := 11) rfl))) rfl ?_
                refine og_lcmp (pc' := 12) X14 hx (hb hby d2_11) rfl ?_
                by_cases hc12_8 : (own_s (own_s (own_s (own_s (own_s (own_s (own_s x))))))) < (128 : Int64)
                · refine og_ifYes (pc' := 40) X14 hx (hb hby d2_12) ((if0 _ _).trans (tlt ((lw_lt _ _).mpr hc12_8)).1) (by decide) (by decide) ?_
                  refine og_aloadN (pc' := 41) X14 hx (hb hby d2_40) rfl rfl rfl ?_
                  refine og_iload (pc' := 43) X14 hx (hb hby d2_41) rfl rfl ?_
                  refine og_iinc (pc' := 46) (L' := #[.val (.long x), .second, .val (.ref a), .val (.int (2 : Int32)), .val (.long (own_s (own_s (own_s (own_s (own_s (own_s (own_s x)))))))), .second, .val (.int ((9 : Int32) + (1 : Int32)))]) X14 hx (hb hby d2_43) rfl rfl rfl ?_
                  rw [show ((9 : Int32) + (1 : Int32)) = (10 : Int32) from by decide]
                  refine og_lload (pc' := 48) X14 hx (hb hby d2_46) rfl rfl ?_
                  refine og_l2i (pc' := 49) X14 hx (hb hby d2_48) rfl ?_
                  refine og_i2b (pc' := 50) X14 hx (hb hby d2_49) rfl ?_
                  obtain ⟨cl15, Ar15, q15, S15, M15, H15, G15⟩ := id V14
                  have hin15 : ¬ ((9 : Int32) < 0 ∨ cl15.slots.size ≤ ((9 : Int32)).toNatClampNeg) := inb_of S15 ⟨by decide, by decide⟩
                  obtain ⟨T15, h15, X15, e15, W15, st15⟩ := stB X14 hx hZ e14 Ar15 (j := (9 : Int32)) hin15 (g := (mkF m 50 #[.val (.long x), .second, .val (.ref a), .val (.int (2 : Int32)), .val (.long (own_s (own_s (own_s (own_s (own_s (own_s (own_s x)))))))), .second, .val (.int (10 : Int32))] [(.int (((own_s (own_s (own_s (own_s (own_s (own_s (own_s x))))))).toInt32).toInt8.toInt32)), (.int (9 : Int32)), (.ref a)])) rfl rfl (hb hby d2_50)
                  have V15 : Arv Z h15 a kk .byte (14 : Int32) [(.int z), (.int z), (.int ((((x ||| (128 : Int64)).toInt32).toInt8.toInt32).toInt8.toInt32)), (.int (((((own_s x) ||| (128 : Int64)).toInt32).toInt8.toInt32).toInt8.toInt32)), (.int (((((own_s (own_s x)) ||| (128 : Int64)).toInt32).toInt8.toInt32).toInt8.toInt32)), (.int (((((own_s (own_s (own_s x))) ||| (128 : Int64)).toInt32).toInt8.toInt32).toInt8.toInt32)), (.int (((((own_s (own_s (own_s (own_s x)))) ||| (128 : Int64)).toInt32).toInt8.toInt32).toInt8.toInt32)), (.int (((((own_s (own_s (own_s (own_s (own_s x))))) ||| (128 : Int64)).toInt32).toInt8.toInt32).toInt8.toInt32)), (.int (((((own_s (own_s (own_s (own_s (own_s (own_s x)))))) ||| (128 : Int64)).toInt32).toInt8.toInt32).toInt8.toInt32)), (.int ((((own_s (own_s (own_s (own_s (own_s (own_s (own_s x))))))).toInt32).toInt8.toInt32).toInt8.toInt32)), (.int z), (.int z), (.int z), (.int z)] (.int (0 : Int32)) := Arv.set Ar15 q15 S15 M15 H15 G15 (fits_nar_byte _) W15 9 rfl (Nat.le_of_ble_eq_true rfl)
                  have K15 : Keep h0 h15 [a] := K14.wr W15 (Or.inl (List.mem_of_getElem? (i := 0) rfl))
                  have Z15 : n0 ≤ h15.size := Nat.le_trans Z0 K15.1
                  have N15 := Fr.snoc X15 N14 g_a
                  obtain ⟨J15, X15, N15⟩ := own_hide X15 N15
                  refine own_Go.of (g' := (mkF m 51 #[.val (.long x), .second, .val (.ref a), .val (.int (2 : Int32)), .val (.long (own_s (own_s (own_s (own_s (own_s (own_s (own_s x)))))))), .second, .val (.int (10 : Int32))] [])) (fun t k => st15 _ k) ?_
                  refine og_iload (pc' := 53) X15 hx (hb hby d2_51) rfl rfl ?_
                  obtain ⟨fs, hr, hrun, hended, hW, hsame⟩ := X15.leave (v := some (.int (10 : Int32))) (fun h => by rw [Bd.returns] at h; cases h) (BodyLoose.notSynchronized Bd)
                  refine ⟨_, _, retI X15 hx Bd.returns (hb hby d2_53) hr, hrun, hended, some (.int (10 : Int32)), _, rfl, ?_, ⟨_, rfl⟩, hW, hsame.mono (by decide) (by decide)⟩
                  show Qwr2 Z x a kk z h0 n0 _ T15.heap _
                  rw [e15]
                  exact ⟨(congrArg (fun q => some (Value.int q)) (by rw [own_len_8 x hpos hc12_1 hc12_2 hc12_3 hc12_4 hc12_5 hc12_6 hc12_7 hc12_8]; decide)), N15, K15, (by rw [own_lst_2_8 x z hc12_1 hc12_2 hc12_3 hc12_4 hc12_5 hc12_6 hc12_7 hc12_8]; exact V15)⟩
                · refine og_ifNo (pc' := 15) X14 hx (hb hby d2_12) ((if0 _ _).trans (flt (fun q => hc12_8 ((lw_lt _ _).mp q))).1) rfl ?_
                  refine og_aloadN (pc' := 16) X14 hx (hb hby d2_15) rfl rfl rfl ?_
                  refine og_iload (pc' := 18) X14 hx (hb hby d2_16) rfl rfl ?_
                  refine og_iinc (pc' := 21) (L' := #[.val (.long x), .second, .val (.ref a), .val (.int (2 : Int32)), .val (.long (own_s (own_s (own_s (own_s (own_s (own_s (own_s x)))))))), .second, .val (.int ((9 : Int32) + (1 : Int32)))]) X14 hx (hb hby d2_18) rfl rfl rfl ?_
                  rw [show ((9 : Int32) + (1 : Int32)) = (10 : Int32) from by decide]
                  refine og_lload (pc' := 23) X14 hx (hb hby d2_21) rfl rfl ?_
                  refine og_ldc2_w (pc' := 26) X14 hx (hb hby d2_23) hown (mvT hZ (hw _ (List.mem_of_getElem? (i := 11) rfl))) rfl ?_
                  refine og_lor (pc' := 27) X14 hx (hb hby d2_26) rfl ?_
                  refine og_l2i (pc' := 28) X14 hx (hb hby d2_27) rfl ?_
                  refine og_i2b (pc' := 29) X14 hx (hb hby d2_28) rfl ?_
                  obtain ⟨cl16, Ar16, q16, S16, M16, H16, G16⟩ := id V14
                  have hin16 : ¬ ((9 : Int32) < 0 ∨ cl16.slots.size ≤ ((9 : Int32)).toNatClampNeg) := inb_of S16 ⟨by decide, by decide⟩
                  obtain ⟨T16, h16, X16, e16, W16, st16⟩ := stB X14 hx hZ e14 Ar16 (j := (9 : Int32)) hin16 (g := (mkF m 29 #[.val (.long x), .second, .val (.ref a), .val (.int (2 : Int32)), .val (.long (own_s (own_s (own_s (own_s (own_s (own_s (own_s x)))))))), .second, .val (.int (10 : Int32))] [(.int ((((own_s (own_s (own_s (own_s (own_s (own_s (own_s x))))))) ||| (128 : Int64)).toInt32).toInt8.toInt32)), (.int (9 : Int32)), (.ref a)])) rfl rfl (hb hby d2_29)
                  have V16 : Arv Z h16 a kk .byte (14 : Int32) [(.int z), (.int z), (.int ((((x ||| (128 : Int64)).toInt32).toInt8.toInt32).toInt8.toInt32)), (.int (((((own_s x) ||| (128 : Int64)).toInt32).toInt8.toInt32).toInt8.toInt32)), (.int (((((own_s (own_s x)) ||| (128 : Int64)).toInt32).toInt8.toInt32).toInt8.toInt32)), (.int (((((own_s (own_s (own_s x))) ||| (128 : Int64)).toInt32).toInt8.toInt32).toInt8.toInt32)), (.int (((((own_s (own_s (own_s (own_s x)))) ||| (128 : Int64)).toInt32).toInt8.toInt32).toInt8.toInt32)), (.int (((((own_s (own_s (own_s (own_s (own_s x))))) ||| (128 : Int64)).toInt32).toInt8.toInt32).toInt8.toInt32)), (.int (((((own_s (own_s (own_s (own_s (own_s (own_s x)))))) ||| (128 : Int64)).toInt32).toInt8.toInt32).toInt8.toInt32)), (.int (((((own_s (own_s (own_s (own_s (own_s (own_s (own_s x))))))) ||| (128 : Int64)).toInt32).toInt8.toInt32).toInt8.toInt32)), (.int z), (.int z), (.int z), (.int z)] (.int (0 : Int32)) := Arv.set Ar16 q16 S16 M16 H16 G16 (fits_nar_byte _) W16 9 rfl (Nat.le_of_ble_eq_true rfl)
                  have K16 : Keep h0 h16 [a] := K14.wr W16 (Or.inl (List.mem_of_getElem? (i := 0) rfl))
                  have Z16 : n0 ≤ h16.size := Nat.le_trans Z0 K16.1
                  have N16 := Fr.snoc X16 N14 g_a
                  obtain ⟨J16, X16, N16⟩ := own_hide X16 N16
                  refine own_Go.of (g' := (mkF m 30 #[.val (.long x), .second, .val (.ref a), .val (.int (2 : Int32)), .val (.long (own_s (own_s (own_s (own_s (own_s (own_s (own_s x)))))))), .second, .val (.int (10 : Int32))] [])) (fun t k => st16 _ k) ?_
                  refine og_lload (pc' := 32) X16 hx (hb hby d2_30) rfl rfl ?_
                  refine og_bipush (pc' := 34) (n := 7) X16 hx (hb hby d2_32) rfl rfl ?_
                  refine own_Go.of (g' := (mkF m 35 #[.val (.long x), .second, .val (.ref a), .val (.int (2 : Int32)), .val (.long (own_s (own_s (own_s (own_s (own_s (own_s (own_s x)))))))), .second, .val (.int (10 : Int32))] [(.long (own_s (own_s (own_s (own_s (own_s (own_s (own_s (own_s x)))))))))])) (fun t k => XS.lushr X16.here hx rfl (hb hby d2_34) rfl k) ?_
                  refine og_lstore (pc' := 37) (L' := #[.val (.long x), .second, .val (.ref a), .val (.int (2 : Int32)), .val (.long (own_s (own_s (own_s (own_s (own_s (own_s (own_s (own_s x))))))))), .second, .val (.int (10 : Int32))]) X16 hx (hb hby d2_35) rfl rfl ?_
                  refine og_goto (pc' := 6) X16 hx (hb hby d2_37) (by decide) (by decide) ?_
                  refine og_lload (pc' := 8) X16 hx (hb hby d2_6) rfl rfl ?_
                  refine og_ldc2_w (pc' := 11) X16 hx (hb hby d2_8) hown (mvT hZ (hw _ (List.mem_of_getElem? (i := 11) rfl))) rfl ?_
                  refine og_lcmp (pc' := 12) X16 hx (hb hby d2_11) rfl ?_
                  refine og_ifYes (pc' := 40) X16 hx (hb hby d2_12) ((if0 _ _).trans (tlt ((lw_lt _ _).mpr (own_lt9 hpos))).1) (by decide) (by decide) ?_
                  refine og_aloadN (pc' := 41) X16 hx (hb hby d2_40) rfl rfl rfl ?_
                  refine og_iload (pc' := 43) X16 hx (hb hby d2_41) rfl rfl ?_
                  refine og_iinc (pc' := 46) (L' := #[.val (.long x), .second, .val (.ref a), .val (.int (2 : Int32)), .val (.long (own_s (own_s (own_s (own_s (own_s (own_s (own_s (own_s x))))))))), .second, .val (.int ((10 : Int32) + (1 : Int32)))]) X16 hx (hb hby d2_43) rfl rfl rfl ?_
                  rw [show ((10 : Int32) + (1 : Int32)) = (11 : Int32) from by decide]
                  refine og_lload (pc' := 48) X16 hx (hb hby d2_46) rfl rfl ?_
                  refine og_l2i (pc' := 49) X16 hx (hb hby d2_48) rfl ?_
                  refine og_i2b (pc' := 50) X16 hx (hb hby d2_49) rfl ?_
                  obtain ⟨cl17, Ar17, q17, S17, M17, H17, G17⟩ := id V16
                  have hin17 : ¬ ((10 : Int32) < 0 ∨ cl17.slots.size ≤ ((10 : Int32)).toNatClampNeg) := inb_of S17 ⟨by decide, by decide⟩
                  obtain ⟨T17, h17, X17, e17, W17, st17⟩ := stB X16 hx hZ e16 Ar17 (j := (10 : Int32)) hin17 (g := (mkF m 50 #[.val (.long x), .second, .val (.ref a), .val (.int (2 : Int32)), .val (.long (own_s (own_s (own_s (own_s (own_s (own_s (own_s (own_s x))))))))), .second, .val (.int (11 : Int32))] [(.int (((own_s (own_s (own_s (own_s (own_s (own_s (own_s (own_s x)))))))).toInt32).toInt8.toInt32)), (.int (10 : Int32)), (.ref a)])) rfl rfl (hb hby d2_50)
                  have V17 : Arv Z h17 a kk .byte (14 : Int32) [(.int z), (.int z), (.int ((((x ||| (128 : Int64)).toInt32).toInt8.toInt32).toInt8.toInt32)), (.int (((((own_s x) ||| (128 : Int64)).toInt32).toInt8.toInt32).toInt8.toInt32)), (.int (((((own_s (own_s x)) ||| (128 : Int64)).toInt32).toInt8.toInt32).toInt8.toInt32)), (.int (((((own_s (own_s (own_s x))) ||| (128 : Int64)).toInt32).toInt8.toInt32).toInt8.toInt32)), (.int (((((own_s (own_s (own_s (own_s x)))) ||| (128 : Int64)).toInt32).toInt8.toInt32).toInt8.toInt32)), (.int (((((own_s (own_s (own_s (own_s (own_s x))))) ||| (128 : Int64)).toInt32).toInt8.toInt32).toInt8.toInt32)), (.int (((((own_s (own_s (own_s (own_s (own_s (own_s x)))))) ||| (128 : Int64)).toInt32).toInt8.toInt32).toInt8.toInt32)), (.int (((((own_s (own_s (own_s (own_s (own_s (own_s (own_s x))))))) ||| (128 : Int64)).toInt32).toInt8.toInt32).toInt8.toInt32)), (.int ((((own_s (own_s (own_s (own_s (own_s (own_s (own_s (own_s x)))))))).toInt32).toInt8.toInt32).toInt8.toInt32)), (.int z), (.int z), (.int z)] (.int (0 : Int32)) := Arv.set Ar17 q17 S17 M17 H17 G17 (fits_nar_byte _) W17 10 rfl (Nat.le_of_ble_eq_true rfl)
                  have K17 : Keep h0 h17 [a] := K16.wr W17 (Or.inl (List.mem_of_getElem? (i := 0) rfl))
                  have Z17 : n0 ≤ h17.size := Nat.le_trans Z0 K17.1
                  have N17 := Fr.snoc X17 N16 g_a
                  obtain ⟨J17, X17, N17⟩ := own_hide X17 N17
                  refine own_Go.of (g' := (mkF m 51 #[.val (.long x), .second, .val (.ref a), .val (.int (2 : Int32)), .val (.long (own_s (own_s (own_s (own_s (own_s (own_s (own_s (own_s x))))))))), .second, .val (.int (11 : Int32))] [])) (fun t k => st17 _ k) ?_
                  refine og_iload (pc' := 53) X17 hx (hb hby d2_51) rfl rfl ?_
                  obtain ⟨fs, hr, hrun, hended, hW, hsame⟩ := X17.leave (v := some (.int (11 : Int32))) (fun h => by rw [Bd.returns] at h; cases h) (BodyLoose.notSynchronized Bd)
                  refine ⟨_, _, retI X17 hx Bd.returns (hb hby d2_53) hr, hrun, hended, some (.int (11 : Int32)), _, rfl, ?_, ⟨_, rfl⟩, hW, hsame.mono (by decide) (by decide)⟩
                  show Qwr2 Z x a kk z h0 n0 _ T17.heap _
                  rw [e17]
                  exact ⟨(congrArg (fun q => some (Value.int q)) (by rw [own_len_9 x hpos hc12_1 hc12_2 hc12_3 hc12_4 hc12_5 hc12_6 hc12_7 hc12_8 (own_lt9 hpos)]; decide)), N17, K17, (by rw [own_lst_2_9 x z hc12_1 hc12_2 hc12_3 hc12_4 hc12_5 hc12_6 hc12_7 hc12_8 (own_lt9 hpos)]; exact V17)⟩

theorem pnwr3 : plainName "com/example/skorr/skorr/index/IndexFormat" = true := by first | (simp [plainName, overriddenIn]; done) | decide +kernel
theorem efwr3 (m : MethodId) (z0 : Int64) (z1 : Addr) : entryFrame m #[(.long z0), (.ref z1), (.int (3 : Int32))] 7 = mkF m 0 #[.val (.long z0), .second, .val (.ref z1), .val (.int (3 : Int32)), .unset, .unset, .unset] [] := by first | (simp [entryFrame, mkF, argsToLocals, Value.category]; done) | rfl
def Qwr3 (Z : State) (x : Int64) (a : Addr) (kk : ClassId) (z : Int32) (h0 : Heap) (n0 : Nat) (v : Option Value) (h : Heap) (L : List Loc) : Prop := v = some (.int ((3 : Int32) + (own_len x))) ∧ Fr n0 L ∧ Keep h0 h [a] ∧ Arv Z h a kk .byte (14 : Int32) (own_lst 3 x z) (.int (0 : Int32))
set_option maxRecDepth 65536 in
set_option maxHeartbeats 40000000 in
theorem rmwr3 (l : Launch) (Z : State) (a0 : Array Value) (hw : ∀ d ∈ tables_1, d.before a0 Z = true) (ws : List Jvm.Cond) (x : Int64) (a : Addr) (kk : ClassId) (z : Int32) (h0 : Heap) (n0 : Nat) (Z0 : n0 ≤ h0.size) (V_a : Arv Z h0 a kk .byte (14 : Int32) [(.int z), (.int z), (.int z), (.int z), (.int z), (.int z), (.int z), (.int z), (.int z), (.int z), (.int z), (.int z), (.int z), (.int z)] (.int (0 : Int32))) (g_a : n0 ≤ a) (hpos : 0 ≤ x.toInt) :
    MetFree l (⟨"com/example/skorr/skorr/index/IndexFormat", "writeVarint", "(J[BI)I"⟩ : MethodName) (head1 (Jvm.Cond.code (⟨"com/example/skorr/skorr/index/IndexFormat", "writeVarint", "(J[BI)I"⟩ : MethodName) prog_13_method_4_code 7 (some .int) :: ws) ({ frames := 0, cells := 0, slots := 0, locals := 0 } : Room)) (fun ag U => ag = #[(.long x), (.ref a), (.int (3 : Int32))] ∧ Z.Warmed39 U.vm ∧ U.heap = h0) (fun _ _ _ _ _ => True) (fun _ U oc U' => ∃ v L, oc = .returned v ∧ Qwr3 Z x a kk z h0 n0 v U'.heap L ∧ FrameEnd U oc U' L ({ frames := 0, cells := 0, slots := 0, locals := 0 } : Room).cells ({ frames := 0, cells := 0, slots := 0, locals := 0 } : Room).slots) := by
  refine MetFree.of_bodySF (plainFor_of_name pnwr3) hisR ?_
  intro p e s m args below meth c s₁ Bd hml0 hP hK
  obtain ⟨rfl, hZ, hh⟩ := hP
  have hx := Bd.exec
  have hby := Bd.bytes
  have hml : c.maxLocals = 7 := hml0
  have hown : s.vm.findClass "com/example/skorr/skorr/index/IndexFormat" = some m.cls := findClass_of_methodNamed Bd.named
  have hnm := (name_of_methodNamed Bd.named Bd.method).1
  have X0 : Stand p l e ({ frames := 0, cells := 0, slots := 0, locals := 0 } : Room) s m #[(.long x), (.ref a), (.int (3 : Int32))] below meth c s₁ [] 0 0 := Stand.of_body Bd
  have e0 : s₁.heap = h0 := by rw [← hh, Bd.state]; rfl
  have N0 := Fr.nil n0
  show own_Go p e below (fun s₂ oc => ∃ v L, oc = .returned v ∧ Qwr3 Z x a kk z h0 n0 v s₂.heap L ∧ FrameEnd s oc s₂ L ({ frames := 0, cells := 0, slots := 0, locals := 0 } : Room).cells ({ frames := 0, cells := 0, slots := 0, locals := 0 } : Room).slots) s₁ (entryFrame m #[(.long x), (.ref a), (.int (3 : Int32))] 7)
  refine own_Go.of (g' := mkF m 0 #[.val (.long x), .second, .val (.ref a), .val (.int (3 : Int32)), .unset, .unset, .unset] []) (fun t k => castTop (efwr3 m x a) k) ?_
  refine og_lloadN (pc' := 1) X0 hx (hb hby d2_0) rfl rfl ?_
  refine og_lstore (pc' := 3) (L' := #[.val (.long x), .second, .val (.ref a), .val (.int (3 : Int32)), .val (.long x), .second, .unset]) X0 hx (hb hby d2_1) rfl rfl ?_
  refine og_iloadN (pc' := 4) X0 hx (hb hby d2_3) rfl rfl ?_
  refine og_istore (pc' := 6) (L' := #[.val (.long x), .second, .val (.ref a), .val (.int (3 : Int32)), .val (.long x), .second, .val (.int (3 : Int32))]) X0 hx (hb hby d2_4) rfl rfl ?_
  refine og_lload (pc' := 8) X0 hx (hb hby d2_6) rfl rfl ?_
  refine og_ldc2_w (pc' := 11) X0 hx (hb hby d2_8) hown (mvT hZ (hw _ (List.mem_of_getElem? (i := 11) rfl))) rfl ?_
  refine og_lcmp (pc' := 12) X0 hx (hb hby d2_11) rfl ?_
  by_cases hc12_1 : x < (128 : Int64)
  · refine og_ifYes (pc' := 40) X0 hx (hb hby d2_12) ((if0 _ _).trans (tlt ((lw_lt _ _).mpr hc12_1)).1) (by decide) (by decide) ?_
    refine og_aloadN (pc' := 41) X0 hx (hb hby d2_40) rfl rfl rfl ?_
    refine og_iload (pc' := 43) X0 hx (hb hby d2_41) rfl rfl ?_
    refine og_iinc (pc' := 46) (L' := #[.val (.long x), .second, .val (.ref a), .val (.int (3 : Int32)), .val (.long x), .second, .val (.int ((3 : Int32) + (1 : Int32)))]) X0 hx (hb hby d2_43) rfl rfl rfl ?_
    rw [show ((3 : Int32) + (1 : Int32)) = (4 : Int32) from by decide]
    refine og_lload (pc' := 48) X0 hx (hb hby d2_46) rfl rfl ?_
    refine og_l2i (pc' := 49) X0 hx (hb hby d2_48) rfl ?_
    refine og_i2b (pc' := 50) X0 hx (hb hby d2_49) rfl ?_
    obtain ⟨cl1, Ar1, q1, S1, M1, H1, G1⟩ := id V_a
    have hin1 : ¬ ((3 : Int32) < 0 ∨ cl1.slots.size ≤ ((3 : Int32)).toNatClampNeg) := inb_of S1 ⟨by decide, by decide⟩
    obtain ⟨T1, h1, X1, e1, W1, st1⟩ := stB X0 hx hZ e0 Ar1 (j := (3 : Int32)) hin1 (g := (mkF m 50 #[.val (.long x), .second, .val (.ref a), .val (.int (3 : Int32)), .val (.long x), .second, .val (.int (4 : Int32))] [(.int ((x.toInt32).toInt8.toInt32)), (.int (3 : Int32)), (.ref a)])) rfl rfl (hb hby d2_50)
    have V1 : Arv Z h1 a kk .byte (14 : Int32) [(.int z), (.int z), (.int z), (.int (((x.toInt32).toInt8.toInt32).toInt8.toInt32)), (.int z), (.int z), (.int z), (.int z), (.int z), (.int z), (.int z), (.int z), (.int z), (.int z)] (.int (0 : Int32)) := Arv.set Ar1 q1 S1 M1 H1 G1 (fits_nar_byte _) W1 3 rfl (Nat.le_of_ble_eq_true rfl)
    have K1 : Keep h0 h1 [a] := (Keep.refl h0 [a]).wr W1 (Or.inl (List.mem_of_getElem? (i := 0) rfl))
    have Z1 : n0 ≤ h1.size := Nat.le_trans Z0 K1.1
    have N1 := Fr.snoc X1 N0 g_a
    obtain ⟨J1, X1, N1⟩ := own_hide X1 N1
    refine own_Go.of (g' := (mkF m 51 #[.val (.long x), .second, .val (.ref a), .val (.int (3 : Int32)), .val (.long x), .second, .val (.int (4 : Int32))] [])) (fun t k => st1 _ k) ?_
    refine og_iload (pc' := 53) X1 hx (hb hby d2_51) rfl rfl ?_
    obtain ⟨fs, hr, hrun, hended, hW, hsame⟩ := X1.leave (v := some (.int (4 : Int32))) (fun h => by rw [Bd.returns] at h; cases h) (BodyLoose.notSynchronized Bd)
    refine ⟨_, _, retI X1 hx Bd.returns (hb hby d2_53) hr, hrun, hended, some (.int (4 : Int32)), _, rfl, ?_, ⟨_, rfl⟩, hW, hsame.mono (by decide) (by decide)⟩
    show Qwr3 Z x a kk z h0 n0 _ T1.heap _
    rw [e1]
    exact ⟨(congrArg (fun q => some (Value.int q)) (by rw [own_len_1 x hpos hc12_1]; decide)), N1, K1, (by rw [own_lst_3_1 x z hc12_1]; exact V1)⟩
  · refine og_ifNo (pc' := 15) X0 hx (hb hby d2_12) ((if0 _ _).trans (flt (fun q => hc12_1 ((lw_lt _ _).mp q))).1) rfl ?_
    refine og_aloadN (pc' := 16) X0 hx (hb hby d2_15) rfl rfl rfl ?_
    refine og_iload (pc' := 18) X0 hx (hb hby d2_16) rfl rfl ?_
    refine og_iinc (pc' := 21) (L' := #[.val (.long x), .second, .val (.ref a), .val (.int (3 : Int32)), .val (.long x), .second, .val (.int ((3 : Int32) + (1 : Int32)))]) X0 hx (hb hby d2_18) rfl rfl rfl ?_
    rw [show ((3 : Int32) + (1 : Int32)) = (4 : Int32) from by decide]
    refine og_lload (pc' := 23) X0 hx (hb hby d2_21) rfl rfl ?_
    refine og_ldc2_w (pc' := 26) X0 hx (hb hby d2_23) hown (mvT hZ (hw _ (List.mem_of_getElem? (i := 11) rfl))) rfl ?_
    refine og_lor (pc' := 27) X0 hx (hb hby d2_26) rfl ?_
    refine og_l2i (pc' := 28) X0 hx (hb hby d2_27) rfl ?_
    refine og_i2b (pc' := 29) X0 hx (hb hby d2_28) rfl ?_
    obtain ⟨cl2, Ar2, q2, S2, M2, H2, G2⟩ := id V_a
    have hin2 : ¬ ((3 : Int32) < 0 ∨ cl2.slots.size ≤ ((3 : Int32)).toNatClampNeg) := inb_of S2 ⟨by decide, by decide⟩
    obtain ⟨T2, h2, X2, e2, W2, st2⟩ := stB X0 hx hZ e0 Ar2 (j := (3 : Int32)) hin2 (g := (mkF m 29 #[.val (.long x), .second, .val (.ref a), .val (.int (3 : Int32)), .val (.long x), .second, .val (.int (4 : Int32))] [(.int (((x ||| (128 : Int64)).toInt32).toInt8.toInt32)), (.int (3 : Int32)), (.ref a)])) rfl rfl (hb hby d2_29)
    have V2 : Arv Z h2 a kk .byte (14 : Int32) [(.int z), (.int z), (.int z), (.int ((((x ||| (128 : Int64)).toInt32).toInt8.toInt32).toInt8.toInt32)), (.int z), (.int z), (.int z), (.int z), (.int z), (.int z), (.int z), (.int z), (.int z), (.int z)] (.int (0 : Int32)) := Arv.set Ar2 q2 S2 M2 H2 G2 (fits_nar_byte _) W2 3 rfl (Nat.le_of_ble_eq_true rfl)
    have K2 : Keep h0 h2 [a] := (Keep.refl h0 [a]).wr W2 (Or.inl (List.mem_of_getElem? (i := 0) rfl))
    have Z2 : n0 ≤ h2.size := Nat.le_trans Z0 K2.1
    have N2 := Fr.snoc X2 N0 g_a
    obtain ⟨J2, X2, N2⟩ := own_hide X2 N2
    refine own_Go.of (g' := (mkF m 30 #[.val (.long x), .second, .val (.ref a), .val (.int (3 : Int32)), .val (.long x), .second, .val (.int (4 : Int32))] [])) (fun t k => st2 _ k) ?_
    refine og_lload (pc' := 32) X2 hx (hb hby d2_30) rfl rfl ?_
    refine og_bipush (pc' := 34) (n := 7) X2 hx (hb hby d2_32) rfl rfl ?_
    refine own_Go.of (g' := (mkF m 35 #[.val (.long x), .second, .val (.ref a), .val (.int (3 : Int32)), .val (.long x), .second, .val (.int (4 : Int32))] [(.long (own_s x))])) (fun t k => XS.lushr X2.here hx rfl (hb hby d2_34) rfl k) ?_
    refine og_lstore (pc' := 37) (L' := #[.val (.long x), .second, .val (.ref a), .val (.int (3 : Int32)), .val (.long (own_s x)), .second, .val (.int (4 : Int32))]) X2 hx (hb hby d2_35) rfl rfl ?_
    refine og_goto (pc' := 6) X2 hx (hb hby d2_37) (by decide) (by decide) ?_
    refine og_lload (pc' := 8) X2 hx (hb hby d2_6) rfl rfl ?_
    refine og_ldc2_w (pc' := 11) X2 hx (hb hby d2_8) hown (mvT hZ (hw _ (List.mem_of_getElem? (i := 11) rfl))) rfl ?_
    refine og_lcmp (pc' := 12) X2 hx (hb hby d2_11) rfl ?_
    by_cases hc12_2 : (own_s x) < (128 : Int64)
    · refine og_ifYes (pc' := 40) X2 hx (hb hby d2_12) ((if0 _ _).trans (tlt ((lw_lt _ _).mpr hc12_2)).1) (by decide) (by decide) ?_
      refine og_aloadN (pc' := 41) X2 hx (hb hby d2_40) rfl rfl rfl ?_
      refine og_iload (pc' := 43) X2 hx (hb hby d2_41) rfl rfl ?_
      refine og_iinc (pc' := 46) (L' := #[.val (.long x), .second, .val (.ref a), .val (.int (3 : Int32)), .val (.long (own_s x)), .second, .val (.int ((4 : Int32) + (1 : Int32)))]) X2 hx (hb hby d2_43) rfl rfl rfl ?_
      rw [show ((4 : Int32) + (1 : Int32)) = (5 : Int32) from by decide]
      refine og_lload (pc' := 48) X2 hx (hb hby d2_46) rfl rfl ?_
      refine og_l2i (pc' := 49) X2 hx (hb hby d2_48) rfl ?_
      refine og_i2b (pc' := 50) X2 hx (hb hby d2_49) rfl ?_
      obtain ⟨cl3, Ar3, q3, S3, M3, H3, G3⟩ := id V2
      have hin3 : ¬ ((4 : Int32) < 0 ∨ cl3.slots.size ≤ ((4 : Int32)).toNatClampNeg) := inb_of S3 ⟨by decide, by decide⟩
      obtain ⟨T3, h3, X3, e3, W3, st3⟩ := stB X2 hx hZ e2 Ar3 (j := (4 : Int32)) hin3 (g := (mkF m 50 #[.val (.long x), .second, .val (.ref a), .val (.int (3 : Int32)), .val (.long (own_s x)), .second, .val (.int (5 : Int32))] [(.int (((own_s x).toInt32).toInt8.toInt32)), (.int (4 : Int32)), (.ref a)])) rfl rfl (hb hby d2_50)
      have V3 : Arv Z h3 a kk .byte (14 : Int32) [(.int z), (.int z), (.int z), (.int ((((x ||| (128 : Int64)).toInt32).toInt8.toInt32).toInt8.toInt32)), (.int ((((own_s x).toInt32).toInt8.toInt32).toInt8.toInt32)), (.int z), (.int z), (.int z), (.int z), (.int z), (.int z), (.int z), (.int z), (.int z)] (.int (0 : Int32)) := Arv.set Ar3 q3 S3 M3 H3 G3 (fits_nar_byte _) W3 4 rfl (Nat.le_of_ble_eq_true rfl)
      have K3 : Keep h0 h3 [a] := K2.wr W3 (Or.inl (List.mem_of_getElem? (i := 0) rfl))
      have Z3 : n0 ≤ h3.size := Nat.le_trans Z0 K3.1
      have N3 := Fr.snoc X3 N2 g_a
      obtain ⟨J3, X3, N3⟩ := own_hide X3 N3
      refine own_Go.of (g' := (mkF m 51 #[.val (.long x), .second, .val (.ref a), .val (.int (3 : Int32)), .val (.long (own_s x)), .second, .val (.int (5 : Int32))] [])) (fun t k => st3 _ k) ?_
      refine og_iload (pc' := 53) X3 hx (hb hby d2_51) rfl rfl ?_
      obtain ⟨fs, hr, hrun, hended, hW, hsame⟩ := X3.leave (v := some (.int (5 : Int32))) (fun h => by rw [Bd.returns] at h; cases h) (BodyLoose.notSynchronized Bd)
      refine ⟨_, _, retI X3 hx Bd.returns (hb hby d2_53) hr, hrun, hended, some (.int (5 : Int32)), _, rfl, ?_, ⟨_, rfl⟩, hW, hsame.mono (by decide) (by decide)⟩
      show Qwr3 Z x a kk z h0 n0 _ T3.heap _
      rw [e3]
      exact ⟨(congrArg (fun q => some (Value.int q)) (by rw [own_len_2 x hpos hc12_1 hc12_2]; decide)), N3, K3, (by rw [own_lst_3_2 x z hc12_1 hc12_2]; exact V3)⟩
    · refine og_ifNo (pc' := 15) X2 hx (hb hby d2_12) ((if0 _ _).trans (flt (fun q => hc12_2 ((lw_lt _ _).mp q))).1) rfl ?_
      refine og_aloadN (pc' := 16) X2 hx (hb hby d2_15) rfl rfl rfl ?_
      refine og_iload (pc' := 18) X2 hx (hb hby d2_16) rfl rfl ?_
      refine og_iinc (pc' := 21) (L' := #[.val (.long x), .second, .val (.ref a), .val (.int (3 : Int32)), .val (.long (own_s x)), .second, .val (.int ((4 : Int32) + (1 : Int32)))]) X2 hx (hb hby d2_18) rfl rfl rfl ?_
      rw [show ((4 : Int32) + (1 : Int32)) = (5 : Int32) from by decide]
      refine og_lload (pc' := 23) X2 hx (hb hby d2_21) rfl rfl ?_
      refine og_ldc2_w (pc' := 26) X2 hx (hb hby d2_23) hown (mvT hZ (hw _ (List.mem_of_getElem? (i := 11) rfl))) rfl ?_
      refine og_lor (pc' := 27) X2 hx (hb hby d2_26) rfl ?_
      refine og_l2i (pc' := 28) X2 hx (hb hby d2_27) rfl ?_
      refine og_i2b (pc' := 29) X2 hx (hb hby d2_28) rfl ?_
      obtain ⟨cl4, Ar4, q4, S4, M4, H4, G4⟩ := id V2
      have hin4 : ¬ ((4 : Int32) < 0 ∨ cl4.slots.size ≤ ((4 : Int32)).toNatClampNeg) := inb_of S4 ⟨by decide, by decide⟩
      obtain ⟨T4, h4, X4, e4, W4, st4⟩ := stB X2 hx hZ e2 Ar4 (j := (4 : Int32)) hin4 (g := (mkF m 29 #[.val (.long x), .second, .val (.ref a), .val (.int (3 : Int32)), .val (.long (own_s x)), .second, .val (.int (5 : Int32))] [(.int ((((own_s x) ||| (128 : Int64)).toInt32).toInt8.toInt32)), (.int (4 : Int32)), (.ref a)])) rfl rfl (hb hby d2_29)
      have V4 : Arv Z h4 a kk .byte (14 : Int32) [(.int z), (.int z), (.int z), (.int ((((x ||| (128 : Int64)).toInt32).toInt8.toInt32).toInt8.toInt32)), (.int (((((own_s x) ||| (128 : Int64)).toInt32).toInt8.toInt32).toInt8.toInt32)), (.int z), (.int z), (.int z), (.int z), (.int z), (.int z), (.int z), (.int z), (.int z)] (.int (0 : Int32)) := Arv.set Ar4 q4 S4 M4 H4 G4 (fits_nar_byte _) W4 4 rfl (Nat.le_of_ble_eq_true rfl)
      have K4 : Keep h0 h4 [a] := K2.wr W4 (Or.inl (List.mem_of_getElem? (i := 0) rfl))
      have Z4 : n0 ≤ h4.size := Nat.le_trans Z0 K4.1
      have N4 := Fr.snoc X4 N2 g_a
      obtain ⟨J4, X4, N4⟩ := own_hide X4 N4
      refine own_Go.of (g' := (mkF m 30 #[.val (.long x), .second, .val (.ref a), .val (.int (3 : Int32)), .val (.long (own_s x)), .second, .val (.int (5 : Int32))] [])) (fun t k => st4 _ k) ?_
      refine og_lload (pc' := 32) X4 hx (hb hby d2_30) rfl rfl ?_
      refine og_bipush (pc' := 34) (n := 7) X4 hx (hb hby d2_32) rfl rfl ?_
      refine own_Go.of (g' := (mkF m 35 #[.val (.long x), .second, .val (.ref a), .val (.int (3 : Int32)), .val (.long (own_s x)), .second, .val (.int (5 : Int32))] [(.long (own_s (own_s x)))])) (fun t k => XS.lushr X4.here hx rfl (hb hby d2_34) rfl k) ?_
      refine og_lstore (pc' := 37) (L' := #[.val (.long x), .second, .val (.ref a), .val (.int (3 : Int32)), .val (.long (own_s (own_s x))), .second, .val (.int (5 : Int32))]) X4 hx (hb hby d2_35) rfl rfl ?_
      refine og_goto (pc' := 6) X4 hx (hb hby d2_37) (by decide) (by decide) ?_
      refine og_lload (pc' := 8) X4 hx (hb hby d2_6) rfl rfl ?_
      refine og_ldc2_w (pc' := 11) X4 hx (hb hby d2_8) hown (mvT hZ (hw _ (List.mem_of_getElem? (i := 11) rfl))) rfl ?_
      refine og_lcmp (pc' := 12) X4 hx (hb hby d2_11) rfl ?_
      by_cases hc12_3 : (own_s (own_s x)) < (128 : Int64)
      · refine og_ifYes (pc' := 40) X4 hx (hb hby d2_12) ((if0 _ _).trans (tlt ((lw_lt _ _).mpr hc12_3)).1) (by decide) (by decide) ?_
        refine og_aloadN (pc' := 41) X4 hx (hb hby d2_40) rfl rfl rfl ?_
        refine og_iload (pc' := 43) X4 hx (hb hby d2_41) rfl rfl ?_
        refine og_iinc (pc' := 46) (L' := #[.val (.long x), .second, .val (.ref a), .val (.int (3 : Int32)), .val (.long (own_s (own_s x))), .second, .val (.int ((5 : Int32) + (1 : Int32)))]) X4 hx (hb hby d2_43) rfl rfl rfl ?_
        rw [show ((5 : Int32) + (1 : Int32)) = (6 : Int32) from by decide]
        refine og_lload (pc' := 48) X4 hx (hb hby d2_46) rfl rfl ?_
        refine og_l2i (pc' := 49) X4 hx (hb hby d2_48) rfl ?_
        refine og_i2b (pc' := 50) X4 hx (hb hby d2_49) rfl ?_
        obtain ⟨cl5, Ar5, q5, S5, M5, H5, G5⟩ := id V4
        have hin5 : ¬ ((5 : Int32) < 0 ∨ cl5.slots.size ≤ ((5 : Int32)).toNatClampNeg) := inb_of S5 ⟨by decide, by decide⟩
        obtain ⟨T5, h5, X5, e5, W5, st5⟩ := stB X4 hx hZ e4 Ar5 (j := (5 : Int32)) hin5 (g := (mkF m 50 #[.val (.long x), .second, .val (.ref a), .val (.int (3 : Int32)), .val (.long (own_s (own_s x))), .second, .val (.int (6 : Int32))] [(.int (((own_s (own_s x)).toInt32).toInt8.toInt32)), (.int (5 : Int32)), (.ref a)])) rfl rfl (hb hby d2_50)
        have V5 : Arv Z h5 a kk .byte (14 : Int32) [(.int z), (.int z), (.int z), (.int ((((x ||| (128 : Int64)).toInt32).toInt8.toInt32).toInt8.toInt32)), (.int (((((own_s x) ||| (128 : Int64)).toInt32).toInt8.toInt32).toInt8.toInt32)), (.int ((((own_s (own_s x)).toInt32).toInt8.toInt32).toInt8.toInt32)), (.int z), (.int z), (.int z), (.int z), (.int z), (.int z), (.int z), (.int z)] (.int (0 : Int32)) := Arv.set Ar5 q5 S5 M5 H5 G5 (fits_nar_byte _) W5 5 rfl (Nat.le_of_ble_eq_true rfl)
        have K5 : Keep h0 h5 [a] := K4.wr W5 (Or.inl (List.mem_of_getElem? (i := 0) rfl))
        have Z5 : n0 ≤ h5.size := Nat.le_trans Z0 K5.1
        have N5 := Fr.snoc X5 N4 g_a
        obtain ⟨J5, X5, N5⟩ := own_hide X5 N5
        refine own_Go.of (g' := (mkF m 51 #[.val (.long x), .second, .val (.ref a), .val (.int (3 : Int32)), .val (.long (own_s (own_s x))), .second, .val (.int (6 : Int32))] [])) (fun t k => st5 _ k) ?_
        refine og_iload (pc' := 53) X5 hx (hb hby d2_51) rfl rfl ?_
        obtain ⟨fs, hr, hrun, hended, hW, hsame⟩ := X5.leave (v := some (.int (6 : Int32))) (fun h => by rw [Bd.returns] at h; cases h) (BodyLoose.notSynchronized Bd)
        refine ⟨_, _, retI X5 hx Bd.returns (hb hby d2_53) hr, hrun, hended, some (.int (6 : Int32)), _, rfl, ?_, ⟨_, rfl⟩, hW, hsame.mono (by decide) (by decide)⟩
        show Qwr3 Z x a kk z h0 n0 _ T5.heap _
        rw [e5]
        exact ⟨(congrArg (fun q => some (Value.int q)) (by rw [own_len_3 x hpos hc12_1 hc12_2 hc12_3]; decide)), N5, K5, (by rw [own_lst_3_3 x z hc12_1 hc12_2 hc12_3]; exact V5)⟩
      · refine og_ifNo (pc' := 15) X4 hx (hb hby d2_12) ((if0 _ _).trans (flt (fun q => hc12_3 ((lw_lt _ _).mp q))).1) rfl ?_
        refine og_aloadN (pc' := 16) X4 hx (hb hby d2_15) rfl rfl rfl ?_
        refine og_iload (pc' := 18) X4 hx (hb hby d2_16) rfl rfl ?_
        refine og_iinc (pc' := 21) (L' := #[.val (.long x), .second, .val (.ref a), .val (.int (3 : Int32)), .val (.long (own_s (own_s x))), .second, .val (.int ((5 : Int32) + (1 : Int32)))]) X4 hx (hb hby d2_18) rfl rfl rfl ?_
        rw [show ((5 : Int32) + (1 : Int32)) = (6 : Int32) from by decide]
        refine og_lload (pc' := 23) X4 hx (hb hby d2_21) rfl rfl ?_
        refine og_ldc2_w (pc' := 26) X4 hx (hb hby d2_23) hown (mvT hZ (hw _ (List.mem_of_getElem? (i := 11) rfl))) rfl ?_
        refine og_lor (pc' := 27) X4 hx (hb hby d2_26) rfl ?_
        refine og_l2i (pc' := 28) X4 hx (hb hby d2_27) rfl ?_
        refine og_i2b (pc' := 29) X4 hx (hb hby d2_28) rfl ?_
        obtain ⟨cl6, Ar6, q6, S6, M6, H6, G6⟩ := id V4
        have hin6 : ¬ ((5 : Int32) < 0 ∨ cl6.slots.size ≤ ((5 : Int32)).toNatClampNeg) := inb_of S6 ⟨by decide, by decide⟩
        obtain ⟨T6, h6, X6, e6, W6, st6⟩ := stB X4 hx hZ e4 Ar6 (j := (5 : Int32)) hin6 (g := (mkF m 29 #[.val (.long x), .second, .val (.ref a), .val (.int (3 : Int32)), .val (.long (own_s (own_s x))), .second, .val (.int (6 : Int32))] [(.int ((((own_s (own_s x)) ||| (128 : Int64)).toInt32).toInt8.toInt32)), (.int (5 : Int32)), (.ref a)])) rfl rfl (hb hby d2_29)
        have V6 : Arv Z h6 a kk .byte (14 : Int32) [(.int z), (.int z), (.int z), (.int ((((x ||| (128 : Int64)).toInt32).toInt8.toInt32).toInt8.toInt32)), (.int (((((own_s x) ||| (128 : Int64)).toInt32).toInt8.toInt32).toInt8.toInt32)), (.int (((((own_s (own_s x)) ||| (128 : Int64)).toInt32).toInt8.toInt32).toInt8.toInt32)), (.int z), (.int z), (.int z), (.int z), (.int z), (.int z), (.int z), (.int z)] (.int (0 : Int32)) := Arv.set Ar6 q6 S6 M6 H6 G6 (fits_nar_byte _) W6 5 rfl (Nat.le_of_ble_eq_true rfl)
        have K6 : Keep h0 h6 [a] := K4.wr W6 (Or.inl (List.mem_of_getElem? (i := 0) rfl))
        have Z6 : n0 ≤ h6.size := Nat.le_trans Z0 K6.1
        have N6 := Fr.snoc X6 N4 g_a
        obtain ⟨J6, X6, N6⟩ := own_hide X6 N6
        refine own_Go.of (g' := (mkF m 30 #[.val (.long x), .second, .val (.ref a), .val (.int (3 : Int32)), .val (.long (own_s (own_s x))), .second, .val (.int (6 : Int32))] [])) (fun t k => st6 _ k) ?_
        refine og_lload (pc' := 32) X6 hx (hb hby d2_30) rfl rfl ?_
        refine og_bipush (pc' := 34) (n := 7) X6 hx (hb hby d2_32) rfl rfl ?_
        refine own_Go.of (g' := (mkF m 35 #[.val (.long x), .second, .val (.ref a), .val (.int (3 : Int32)), .val (.long (own_s (own_s x))), .second, .val (.int (6 : Int32))] [(.long (own_s (own_s (own_s x))))])) (fun t k => XS.lushr X6.here hx rfl (hb hby d2_34) rfl k) ?_
        refine og_lstore (pc' := 37) (L' := #[.val (.long x), .second, .val (.ref a), .val (.int (3 : Int32)), .val (.long (own_s (own_s (own_s x)))), .second, .val (.int (6 : Int32))]) X6 hx (hb hby d2_35) rfl rfl ?_
        refine og_goto (pc' := 6) X6 hx (hb hby d2_37) (by decide) (by decide) ?_
        refine og_lload (pc' := 8) X6 hx (hb hby d2_6) rfl rfl ?_
        refine og_ldc2_w (pc' := 11) X6 hx (hb hby d2_8) hown (mvT hZ (hw _ (List.mem_of_getElem? (i := 11) rfl))) rfl ?_
        refine og_lcmp (pc' := 12) X6 hx (hb hby d2_11) rfl ?_
        by_cases hc12_4 : (own_s (own_s (own_s x))) < (128 : Int64)
        · refine og_ifYes (pc' := 40) X6 hx (hb hby d2_12) ((if0 _ _).trans (tlt ((lw_lt _ _).mpr hc12_4)).1) (by decide) (by decide) ?_
          refine og_aloadN (pc' := 41) X6 hx (hb hby d2_40) rfl rfl rfl ?_
          refine og_iload (pc' := 43) X6 hx (hb hby d2_41) rfl rfl ?_
          refine og_iinc (pc' := 46) (L' := #[.val (.long x), .second, .val (.ref a), .val (.int (3 : Int32)), .val (.long (own_s (own_s (own_s x)))), .second, .val (.int ((6 : Int32) + (1 : Int32)))]) X6 hx (hb hby d2_43) rfl rfl rfl ?_
          rw [show ((6 : Int32) + (1 : Int32)) = (7 : Int32) from by decide]
          refine og_lload (pc' := 48) X6 hx (hb hby d2_46) rfl rfl ?_
          refine og_l2i (pc' := 49) X6 hx (hb hby d2_48) rfl ?_
          refine og_i2b (pc' := 50) X6 hx (hb hby d2_49) rfl ?_
          obtain ⟨cl7, Ar7, q7, S7, M7, H7, G7⟩ := id V6
          have hin7 : ¬ ((6 : Int32) < 0 ∨ cl7.slots.size ≤ ((6 : Int32)).toNatClampNeg) := inb_of S7 ⟨by decide, by decide⟩
          obtain ⟨T7, h7, X7, e7, W7, st7⟩ := stB X6 hx hZ e6 Ar7 (j := (6 : Int32)) hin7 (g := (mkF m 50 #[.val (.long x), .second, .val (.ref a), .val (.int (3 : Int32)), .val (.long (own_s (own_s (own_s x)))), .second, .val (.int (7 : Int32))] [(.int (((own_s (own_s (own_s x))).toInt32).toInt8.toInt32)), (.int (6 : Int32)), (.ref a)])) rfl rfl (hb hby d2_50)
          have V7 : Arv Z h7 a kk .byte (14 : Int32) [(.int z), (.int z), (.int z), (.int ((((x ||| (128 : Int64)).toInt32).toInt8.toInt32).toInt8.toInt32)), (.int (((((own_s x) ||| (128 : Int64)).toInt32).toInt8.toInt32).toInt8.toInt32)), (.int (((((own_s (own_s x)) ||| (128 : Int64)).toInt32).toInt8.toInt32).toInt8.toInt32)), (.int ((((own_s (own_s (own_s x))).toInt32).toInt8.toInt32).toInt8.toInt32)), (.int z), (.int z), (.int z), (.int z), (.int z), (.int z), (.int z)] (.int (0 : Int32)) := Arv.set Ar7 q7 S7 M7 H7 G7 (fits_nar_byte _) W7 6 rfl (Nat.le_of_ble_eq_true rfl)
          have K7 : Keep h0 h7 [a] := K6.wr W7 (Or.inl (List.mem_of_getElem? (i := 0) rfl))
          have Z7 : n0 ≤ h7.size := Nat.le_trans Z0 K7.1
          have N7 := Fr.snoc X7 N6 g_a
          obtain ⟨J7, X7, N7⟩ := own_hide X7 N7
          refine own_Go.of (g' := (mkF m 51 #[.val (.long x), .second, .val (.ref a), .val (.int (3 : Int32)), .val (.long (own_s (own_s (own_s x)))), .second, .val (.int (7 : Int32))] [])) (fun t k => st7 _ k) ?_
          refine og_iload (pc' := 53) X7 hx (hb hby d2_51) rfl rfl ?_
          obtain ⟨fs, hr, hrun, hended, hW, hsame⟩ := X7.leave (v := some (.int (7 : Int32))) (fun h => by rw [Bd.returns] at h; cases h) (BodyLoose.notSynchronized Bd)
          refine ⟨_, _, retI X7 hx Bd.returns (hb hby d2_53) hr, hrun, hended, some (.int (7 : Int32)), _, rfl, ?_, ⟨_, rfl⟩, hW, hsame.mono (by decide) (by decide)⟩
          show Qwr3 Z x a kk z h0 n0 _ T7.heap _
          rw [e7]
          exact ⟨(congrArg (fun q => some (Value.int q)) (by rw [own_len_4 x hpos hc12_1 hc12_2 hc12_3 hc12_4]; decide)), N7, K7, (by rw [own_lst_3_4 x z hc12_1 hc12_2 hc12_3 hc12_4]; exact V7)⟩
        · refine og_ifNo (pc' := 15) X6 hx (hb hby d2_12) ((if0 _ _).trans (flt (fun q => hc12_4 ((lw_lt _ _).mp q))).1) rfl ?_
          refine og_aloadN (pc' := 16) X6 hx (hb hby d2_15) rfl rfl rfl ?_
          refine og_iload (pc' := 18) X6 hx (hb hby d2_16) rfl rfl ?_
          refine og_iinc (pc' := 21) (L' := #[.val (.long x), .second, .val (.ref a), .val (.int (3 : Int32)), .val (.long (own_s (own_s (own_s x)))), .second, .val (.int ((6 : Int32) + (1 : Int32)))]) X6 hx (hb hby d2_18) rfl rfl rfl ?_
          rw [show ((6 : Int32) + (1 : Int32)) = (7 : Int32) from by decide]
          refine og_lload (pc' := 23) X6 hx (hb hby d2_21) rfl rfl ?_
          refine og_ldc2_w (pc' := 26) X6 hx (hb hby d2_23) hown (mvT hZ (hw _ (List.mem_of_getElem? (i := 11) rfl))) rfl ?_
          refine og_lor (pc' := 27) X6 hx (hb hby d2_26) rfl ?_
          refine og_l2i (pc' := 28) X6 hx (hb hby d2_27) rfl ?_
          refine og_i2b (pc' := 29) X6 hx (hb hby d2_28) rfl ?_
          obtain ⟨cl8, Ar8, q8, S8, M8, H8, G8⟩ := id V6
          have hin8 : ¬ ((6 : Int32) < 0 ∨ cl8.slots.size ≤ ((6 : Int32)).toNatClampNeg) := inb_of S8 ⟨by decide, by decide⟩
          obtain ⟨T8, h8, X8, e8, W8, st8⟩ := stB X6 hx hZ e6 Ar8 (j := (6 : Int32)) hin8 (g := (mkF m 29 #[.val (.long x), .second, .val (.ref a), .val (.int (3 : Int32)), .val (.long (own_s (own_s (own_s x)))), .second, .val (.int (7 : Int32))] [(.int ((((own_s (own_s (own_s x))) ||| (128 : Int64)).toInt32).toInt8.toInt32)), (.int (6 : Int32)), (.ref a)])) rfl rfl (hb hby d2_29)
          have V8 : Arv Z h8 a kk .byte (14 : Int32) [(.int z), (.int z), (.int z), (.int ((((x ||| (128 : Int64)).toInt32).toInt8.toInt32).toInt8.toInt32)), (.int (((((own_s x) ||| (128 : Int64)).toInt32).toInt8.toInt32).toInt8.toInt32)), (.int (((((own_s (own_s x)) ||| (128 : Int64)).toInt32).toInt8.toInt32).toInt8.toInt32)), (.int (((((own_s (own_s (own_s x))) ||| (128 : Int64)).toInt32).toInt8.toInt32).toInt8.toInt32)), (.int z), (.int z), (.int z), (.int z), (.int z), (.int z), (.int z)] (.int (0 : Int32)) := Arv.set Ar8 q8 S8 M8 H8 G8 (fits_nar_byte _) W8 6 rfl (Nat.le_of_ble_eq_true rfl)
          have K8 : Keep h0 h8 [a] := K6.wr W8 (Or.inl (List.mem_of_getElem? (i := 0) rfl))
          have Z8 : n0 ≤ h8.size := Nat.le_trans Z0 K8.1
          have N8 := Fr.snoc X8 N6 g_a
          obtain ⟨J8, X8, N8⟩ := own_hide X8 N8
          refine own_Go.of (g' := (mkF m 30 #[.val (.long x), .second, .val (.ref a), .val (.int (3 : Int32)), .val (.long (own_s (own_s (own_s x)))), .second, .val (.int (7 : Int32))] [])) (fun t k => st8 _ k) ?_
          refine og_lload (pc' := 32) X8 hx (hb hby d2_30) rfl rfl ?_
          refine og_bipush (pc' := 34) (n := 7) X8 hx (hb hby d2_32) rfl rfl ?_
          refine own_Go.of (g' := (mkF m 35 #[.val (.long x), .second, .val (.ref a), .val (.int (3 : Int32)), .val (.long (own_s (own_s (own_s x)))), .second, .val (.int (7 : Int32))] [(.long (own_s (own_s (own_s (own_s x)))))])) (fun t k => XS.lushr X8.here hx rfl (hb hby d2_34) rfl k) ?_
          refine og_lstore (pc' := 37) (L' := #[.val (.long x), .second, .val (.ref a), .val (.int (3 : Int32)), .val (.long (own_s (own_s (own_s (own_s x))))), .second, .val (.int (7 : Int32))]) X8 hx (hb hby d2_35) rfl rfl ?_
          refine og_goto (pc' := 6) X8 hx (hb hby d2_37) (by decide) (by decide) ?_
          refine og_lload (pc' := 8) X8 hx (hb hby d2_6) rfl rfl ?_
          refine og_ldc2_w (pc' := 11) X8 hx (hb hby d2_8) hown (mvT hZ (hw _ (List.mem_of_getElem? (i := 11) rfl))) rfl ?_
          refine og_lcmp (pc' := 12) X8 hx (hb hby d2_11) rfl ?_
          by_cases hc12_5 : (own_s (own_s (own_s (own_s x)))) < (128 : Int64)
          · refine og_ifYes (pc' := 40) X8 hx (hb hby d2_12) ((if0 _ _).trans (tlt ((lw_lt _ _).mpr hc12_5)).1) (by decide) (by decide) ?_
            refine og_aloadN (pc' := 41) X8 hx (hb hby d2_40) rfl rfl rfl ?_
            refine og_iload (pc' := 43) X8 hx (hb hby d2_41) rfl rfl ?_
            refine og_iinc (pc' := 46) (L' := #[.val (.long x), .second, .val (.ref a), .val (.int (3 : Int32)), .val (.long (own_s (own_s (own_s (own_s x))))), .second, .val (.int ((7 : Int32) + (1 : Int32)))]) X8 hx (hb hby d2_43) rfl rfl rfl ?_
            rw [show ((7 : Int32) + (1 : Int32)) = (8 : Int32) from by decide]
            refine og_lload (pc' := 48) X8 hx (hb hby d2_46) rfl rfl ?_
            refine og_l2i (pc' := 49) X8 hx (hb hby d2_48) rfl ?_
            refine og_i2b (pc' := 50) X8 hx (hb hby d2_49) rfl ?_
            obtain ⟨cl9, Ar9, q9, S9, M9, H9, G9⟩ := id V8
            have hin9 : ¬ ((7 : Int32) < 0 ∨ cl9.slots.size ≤ ((7 : Int32)).toNatClampNeg) := inb_of S9 ⟨by decide, by decide⟩
            obtain ⟨T9, h9, X9, e9, W9, st9⟩ := stB X8 hx hZ e8 Ar9 (j := (7 : Int32)) hin9 (g := (mkF m 50 #[.val (.long x), .second, .val (.ref a), .val (.int (3 : Int32)), .val (.long (own_s (own_s (own_s (own_s x))))), .second, .val (.int (8 : Int32))] [(.int (((own_s (own_s (own_s (own_s x)))).toInt32).toInt8.toInt32)), (.int (7 : Int32)), (.ref a)])) rfl rfl (hb hby d2_50)
            have V9 : Arv Z h9 a kk .byte (14 : Int32) [(.int z), (.int z), (.int z), (.int ((((x ||| (128 : Int64)).toInt32).toInt8.toInt32).toInt8.toInt32)), (.int (((((own_s x) ||| (128 : Int64)).toInt32).toInt8.toInt32).toInt8.toInt32)), (.int (((((own_s (own_s x)) ||| (128 : Int64)).toInt32).toInt8.toInt32).toInt8.toInt32)), (.int (((((own_s (own_s (own_s x))) ||| (128 : Int64)).toInt32).toInt8.toInt32).toInt8.toInt32)), (.int ((((own_s (own_s (own_s (own_s x)))).toInt32).toInt8.toInt32).toInt8.toInt32)), (.int z), (.int z), (.int z), (.int z), (.int z), (.int z)] (.int (0 : Int32)) := Arv.set Ar9 q9 S9 M9 H9 G9 (fits_nar_byte _) W9 7 rfl (Nat.le_of_ble_eq_true rfl)
            have K9 : Keep h0 h9 [a] := K8.wr W9 (Or.inl (List.mem_of_getElem? (i := 0) rfl))
            have Z9 : n0 ≤ h9.size := Nat.le_trans Z0 K9.1
            have N9 := Fr.snoc X9 N8 g_a
            obtain ⟨J9, X9, N9⟩ := own_hide X9 N9
            refine own_Go.of (g' := (mkF m 51 #[.val (.long x), .second, .val (.ref a), .val (.int (3 : Int32)), .val (.long (own_s (own_s (own_s (own_s x))))), .second, .val (.int (8 : Int32))] [])) (fun t k => st9 _ k) ?_
            refine og_iload (pc' := 53) X9 hx (hb hby d2_51) rfl rfl ?_
            obtain ⟨fs, hr, hrun, hended, hW, hsame⟩ := X9.leave (v := some (.int (8 : Int32))) (fun h => by rw [Bd.returns] at h; cases h) (BodyLoose.notSynchronized Bd)
            refine ⟨_, _, retI X9 hx Bd.returns (hb hby d2_53) hr, hrun, hended, some (.int (8 : Int32)), _, rfl, ?_, ⟨_, rfl⟩, hW, hsame.mono (by decide) (by decide)⟩
            show Qwr3 Z x a kk z h0 n0 _ T9.heap _
            rw [e9]
            exact ⟨(congrArg (fun q => some (Value.int q)) (by rw [own_len_5 x hpos hc12_1 hc12_2 hc12_3 hc12_4 hc12_5]; decide)), N9, K9, (by rw [own_lst_3_5 x z hc12_1 hc12_2 hc12_3 hc12_4 hc12_5]; exact V9)⟩
          · refine og_ifNo (pc' := 15) X8 hx (hb hby d2_12) ((if0 _ _).trans (flt (fun q => hc12_5 ((lw_lt _ _).mp q))).1) rfl ?_
            refine og_aloadN (pc' := 16) X8 hx (hb hby d2_15) rfl rfl rfl ?_
            refine og_iload (pc' := 18) X8 hx (hb hby d2_16) rfl rfl ?_
            refine og_iinc (pc' := 21) (L' := #[.val (.long x), .second, .val (.ref a), .val (.int (3 : Int32)), .val (.long (own_s (own_s (own_s (own_s x))))), .second, .val (.int ((7 : Int32) + (1 : Int32)))]) X8 hx (hb hby d2_18) rfl rfl rfl ?_
            rw [show ((7 : Int32) + (1 : Int32)) = (8 : Int32) from by decide]
            refine og_lload (pc' := 23) X8 hx (hb hby d2_21) rfl rfl ?_
            refine og_ldc2_w (pc' := 26) X8 hx (hb hby d2_23) hown (mvT hZ (hw _ (List.mem_of_getElem? (i := 11) rfl))) rfl ?_
            refine og_lor (pc' := 27) X8 hx (hb hby d2_26) rfl ?_
            refine og_l2i (pc' := 28) X8 hx (hb hby d2_27) rfl ?_
            refine og_i2b (pc' := 29) X8 hx (hb hby d2_28) rfl ?_
            obtain ⟨cl10, Ar10, q10, S10, M10, H10, G10⟩ := id V8
            have hin10 : ¬ ((7 : Int32) < 0 ∨ cl10.slots.size ≤ ((7 : Int32)).toNatClampNeg) := inb_of S10 ⟨by decide, by decide⟩
            obtain ⟨T10, h10, X10, e10, W10, st10⟩ := stB X8 hx hZ e8 Ar10 (j := (7 : Int32)) hin10 (g := (mkF m 29 #[.val (.long x), .second, .val (.ref a), .val (.int (3 : Int32)), .val (.long (own_s (own_s (own_s (own_s x))))), .second, .val (.int (8 : Int32))] [(.int ((((own_s (own_s (own_s (own_s x)))) ||| (128 : Int64)).toInt32).toInt8.toInt32)), (.int (7 : Int32)), (.ref a)])) rfl rfl (hb hby d2_29)
            have V10 : Arv Z h10 a kk .byte (14 : Int32) [(.int z), (.int z), (.int z), (.int ((((x ||| (128 : Int64)).toInt32).toInt8.toInt32).toInt8.toInt32)), (.int (((((own_s x) ||| (128 : Int64)).toInt32).toInt8.toInt32).toInt8.toInt32)), (.int (((((own_s (own_s x)) ||| (128 : Int64)).toInt32).toInt8.toInt32).toInt8.toInt32)), (.int (((((own_s (own_s (own_s x))) ||| (128 : Int64)).toInt32).toInt8.toInt32).toInt8.toInt32)), (.int (((((own_s (own_s (own_s (own_s x)))) ||| (128 : Int64)).toInt32).toInt8.toInt32).toInt8.toInt32)), (.int z), (.int z), (.int z), (.int z), (.int z), (.int z)] (.int (0 : Int32)) := Arv.set Ar10 q10 S10 M10 H10 G10 (fits_nar_byte _) W10 7 rfl (Nat.le_of_ble_eq_true rfl)
            have K10 : Keep h0 h10 [a] := K8.wr W10 (Or.inl (List.mem_of_getElem? (i := 0) rfl))
            have Z10 : n0 ≤ h10.size := Nat.le_trans Z0 K10.1
            have N10 := Fr.snoc X10 N8 g_a
            obtain ⟨J10, X10, N10⟩ := own_hide X10 N10
            refine own_Go.of (g' := (mkF m 30 #[.val (.long x), .second, .val (.ref a), .val (.int (3 : Int32)), .val (.long (own_s (own_s (own_s (own_s x))))), .second, .val (.int (8 : Int32))] [])) (fun t k => st10 _ k) ?_
            refine og_lload (pc' := 32) X10 hx (hb hby d2_30) rfl rfl ?_
            refine og_bipush (pc' := 34) (n := 7) X10 hx (hb hby d2_32) rfl rfl ?_
            refine own_Go.of (g' := (mkF m 35 #[.val (.long x), .second, .val (.ref a), .val (.int (3 : Int32)), .val (.long (own_s (own_s (own_s (own_s x))))), .second, .val (.int (8 : Int32))] [(.long (own_s (own_s (own_s (own_s (own_s x))))))])) (fun t k => XS.lushr X10.here hx rfl (hb hby d2_34) rfl k) ?_
            refine og_lstore (pc' := 37) (L' := #[.val (.long x), .second, .val (.ref a), .val (.int (3 : Int32)), .val (.long (own_s (own_s (own_s (own_s (own_s x)))))), .second, .val (.int (8 : Int32))]) X10 hx (hb hby d2_35) rfl rfl ?_
            refine og_goto (pc' := 6) X10 hx (hb hby d2_37) (by decide) (by decide) ?_
            refine og_lload (pc' := 8) X10 hx (hb hby d2_6) rfl rfl ?_
            refine og_ldc2_w (pc' := 11) X10 hx (hb hby d2_8) hown (mvT hZ (hw _ (List.mem_of_getElem? (i := 11) rfl))) rfl ?_
            refine og_lcmp (pc' := 12) X10 hx (hb hby d2_11) rfl ?_
            by_cases hc12_6 : (own_s (own_s (own_s (own_s (own_s x))))) < (128 : Int64)
            · refine og_ifYes (pc' := 40) X10 hx (hb hby d2_12) ((if0 _ _).trans (tlt ((lw_lt _ _).mpr hc12_6)).1) (by decide) (by decide) ?_
              refine og_aloadN (pc' := 41) X10 hx (hb hby d2_40) rfl rfl rfl ?_
              refine og_iload (pc' := 43) X10 hx (hb hby d2_41) rfl rfl ?_
              refine og_iinc (pc' := 46) (L' := #[.val (.long x), .second, .val (.ref a), .val (.int (3 : Int32)), .val (.long (own_s (own_s (own_s (own_s (own_s x)))))), .second, .val (.int ((8 : Int32) + (1 : Int32)))]) X10 hx (hb hby d2_43) rfl rfl rfl ?_
              rw [show ((8 : Int32) + (1 : Int32)) = (9 : Int32) from by decide]
              refine og_lload (pc' := 48) X10 hx (hb hby d2_46) rfl rfl ?_
              refine og_l2i (pc' := 49) X10 hx (hb hby d2_48) rfl ?_
              refine og_i2b (pc' := 50) X10 hx (hb hby d2_49) rfl ?_
              obtain ⟨cl11, Ar11, q11, S11, M11, H11, G11⟩ := id V10
              have hin11 : ¬ ((8 : Int32) < 0 ∨ cl11.slots.size ≤ ((8 : Int32)).toNatClampNeg) := inb_of S11 ⟨by decide, by decide⟩
              obtain ⟨T11, h11, X11, e11, W11, st11⟩ := stB X10 hx hZ e10 Ar11 (j := (8 : Int32)) hin11 (g := (mkF m 50 #[.val (.long x), .second, .val (.ref a), .val (.int (3 : Int32)), .val (.long (own_s (own_s (own_s (own_s (own_s x)))))), .second, .val (.int (9 : Int32))] [(.int (((own_s (own_s (own_s (own_s (own_s x))))).toInt32).toInt8.toInt32)), (.int (8 : Int32)), (.ref a)])) rfl rfl (hb hby d2_50)
              have V11 : Arv Z h11 a kk .byte (14 : Int32) [(.int z), (.int z), (.int z), (.int ((((x ||| (128 : Int64)).toInt32).toInt8.toInt32).toInt8.toInt32)), (.int (((((own_s x) ||| (128 : Int64)).toInt32).toInt8.toInt32).toInt8.toInt32)), (.int (((((own_s (own_s x)) ||| (128 : Int64)).toInt32).toInt8.toInt32).toInt8.toInt32)), (.int (((((own_s (own_s (own_s x))) ||| (128 : Int64)).toInt32).toInt8.toInt32).toInt8.toInt32)), (.int (((((own_s (own_s (own_s (own_s x)))) ||| (128 : Int64)).toInt32).toInt8.toInt32).toInt8.toInt32)), (.int ((((own_s (own_s (own_s (own_s (own_s x))))).toInt32).toInt8.toInt32).toInt8.toInt32)), (.int z), (.int z), (.int z), (.int z), (.int z)] (.int (0 : Int32)) := Arv.set Ar11 q11 S11 M11 H11 G11 (fits_nar_byte _) W11 8 rfl (Nat.le_of_ble_eq_true rfl)
              have K11 : Keep h0 h11 [a] := K10.wr W11 (Or.inl (List.mem_of_getElem? (i := 0) rfl))
              have Z11 : n0 ≤ h11.size := Nat.le_trans Z0 K11.1
              have N11 := Fr.snoc X11 N10 g_a
              obtain ⟨J11, X11, N11⟩ := own_hide X11 N11
              refine own_Go.of (g' := (mkF m 51 #[.val (.long x), .second, .val (.ref a), .val (.int (3 : Int32)), .val (.long (own_s (own_s (own_s (own_s (own_s x)))))), .second, .val (.int (9 : Int32))] [])) (fun t k => st11 _ k) ?_
              refine og_iload (pc' := 53) X11 hx (hb hby d2_51) rfl rfl ?_
              obtain ⟨fs, hr, hrun, hended, hW, hsame⟩ := X11.leave (v := some (.int (9 : Int32))) (fun h => by rw [Bd.returns] at h; cases h) (BodyLoose.notSynchronized Bd)
              refine ⟨_, _, retI X11 hx Bd.returns (hb hby d2_53) hr, hrun, hended, some (.int (9 : Int32)), _, rfl, ?_, ⟨_, rfl⟩, hW, hsame.mono (by decide) (by decide)⟩
              show Qwr3 Z x a kk z h0 n0 _ T11.heap _
              rw [e11]
              exact ⟨(congrArg (fun q => some (Value.int q)) (by rw [own_len_6 x hpos hc12_1 hc12_2 hc12_3 hc12_4 hc12_5 hc12_6]; decide)), N11, K11, (by rw [own_lst_3_6 x z hc12_1 hc12_2 hc12_3 hc12_4 hc12_5 hc12_6]; exact V11)⟩
            · refine og_ifNo (pc' := 15) X10 hx (hb hby d2_12) ((if0 _ _).trans (flt (fun q => hc12_6 ((lw_lt _ _).mp q))).1) rfl ?_
              refine og_aloadN (pc' := 16) X10 hx (hb hby d2_15) rfl rfl rfl ?_
              refine og_iload (pc' := 18) X10 hx (hb hby d2_16) rfl rfl ?_
              refine og_iinc (pc' := 21) (L' := #[.val (.long x), .second, .val (.ref a), .val (.int (3 : Int32)), .val (.long (own_s (own_s (own_s (own_s (own_s x)))))), .second, .val (.int ((8 : Int32) + (1 : Int32)))]) X10 hx (hb hby d2_18) rfl rfl rfl ?_
              rw [show ((8 : Int32) + (1 : Int32)) = (9 : Int32) from by decide]
              refine og_lload (pc' := 23) X10 hx (hb hby d2_21) rfl rfl ?_
              refine og_ldc2_w (pc' := 26) X10 hx (hb hby d2_23) hown (mvT hZ (hw _ (List.mem_of_getElem? (i := 11) rfl))) rfl ?_
              refine og_lor (pc' := 27) X10 hx (hb hby d2_26) rfl ?_
              refine og_l2i (pc' := 28) X10 hx (hb hby d2_27) rfl ?_
              refine og_i2b (pc' := 29) X10 hx (hb hby d2_28) rfl ?_
              obtain ⟨cl12, Ar12, q12, S12, M12, H12, G12⟩ := id V10
              have hin12 : ¬ ((8 : Int32) < 0 ∨ cl12.slots.size ≤ ((8 : Int32)).toNatClampNeg) := inb_of S12 ⟨by decide, by decide⟩
              obtain ⟨T12, h12, X12, e12, W12, st12⟩ := stB X10 hx hZ e10 Ar12 (j := (8 : Int32)) hin12 (g := (mkF m 29 #[.val (.long x), .second, .val (.ref a), .val (.int (3 : Int32)), .val (.long (own_s (own_s (own_s (own_s (own_s x)))))), .second, .val (.int (9 : Int32))] [(.int ((((own_s (own_s (own_s (own_s (own_s x))))) ||| (128 : Int64)).toInt32).toInt8.toInt32)), (.int (8 : Int32)), (.ref a)])) rfl rfl (hb hby d2_29)
              have V12 : Arv Z h12 a kk .byte (14 : Int32) [(.int z), (.int z), (.int z), (.int ((((x ||| (128 : Int64)).toInt32).toInt8.toInt32).toInt8.toInt32)), (.int (((((own_s x) ||| (128 : Int64)).toInt32).toInt8.toInt32).toInt8.toInt32)), (.int (((((own_s (own_s x)) ||| (128 : Int64)).toInt32).toInt8.toInt32).toInt8.toInt32)), (.int (((((own_s (own_s (own_s x))) ||| (128 : Int64)).toInt32).toInt8.toInt32).toInt8.toInt32)), (.int (((((own_s (own_s (own_s (own_s x)))) ||| (128 : Int64)).toInt32).toInt8.toInt32).toInt8.toInt32)), (.int (((((own_s (own_s (own_s (own_s (own_s x))))) ||| (128 : Int64)).toInt32).toInt8.toInt32).toInt8.toInt32)), (.int z), (.int z), (.int z), (.int z), (.int z)] (.int (0 : Int32)) := Arv.set Ar12 q12 S12 M12 H12 G12 (fits_nar_byte _) W12 8 rfl (Nat.le_of_ble_eq_true rfl)
              have K12 : Keep h0 h12 [a] := K10.wr W12 (Or.inl (List.mem_of_getElem? (i := 0) rfl))
              have Z12 : n0 ≤ h12.size := Nat.le_trans Z0 K12.1
              have N12 := Fr.snoc X12 N10 g_a
              obtain ⟨J12, X12, N12⟩ := own_hide X12 N12
              refine own_Go.of (g' := (mkF m 30 #[.val (.long x), .second, .val (.ref a), .val (.int (3 : Int32)), .val (.long (own_s (own_s (own_s (own_s (own_s x)))))), .second, .val (.int (9 : Int32))] [])) (fun t k => st12 _ k) ?_
              refine og_lload (pc' := 32) X12 hx (hb hby d2_30) rfl rfl ?_
              refine og_bipush (pc' := 34) (n := 7) X12 hx (hb hby d2_32) rfl rfl ?_
              refine own_Go.of (g' := (mkF m 35 #[.val (.long x), .second, .val (.ref a), .val (.int (3 : Int32)), .val (.long (own_s (own_s (own_s (own_s (own_s x)))))), .second, .val (.int (9 : Int32))] [(.long (own_s (own_s (own_s (own_s (own_s (own_s x)))))))])) (fun t k => XS.lushr X12.here hx rfl (hb hby d2_34) rfl k) ?_
              refine og_lstore (pc' := 37) (L' := #[.val (.long x), .second, .val (.ref a), .val (.int (3 : Int32)), .val (.long (own_s (own_s (own_s (own_s (own_s (own_s x))))))), .second, .val (.int (9 : Int32))]) X12 hx (hb hby d2_35) rfl rfl ?_
              refine og_goto (pc' := 6) X12 hx (hb hby d2_37) (by decide) (by decide) ?_
              refine og_lload (pc' := 8) X12 hx (hb hby d2_6) rfl rfl ?_
              refine og_ldc2_w (pc' := 11) X12 hx (hb hby d2_8) hown (mvT hZ (hw _ (List.mem_of_getElem? (i := 11) rfl))) rfl ?_
              refine og_lcmp (pc' := 12) X12 hx (hb hby d2_11) rfl ?_
              by_cases hc12_7 : (own_s (own_s (own_s (own_s (own_s (own_s x)))))) < (128 : Int64)
              · refine og_ifYes (pc' := 40) X12 hx (hb hby d2_12) ((if0 _ _).trans (tlt ((lw_lt _ _).mpr hc12_7)).1) (by decide) (by decide) ?_
                refine og_aloadN (pc' := 41) X12 hx (hb hby d2_40) rfl rfl rfl ?_
                refine og_iload (pc' := 43) X12 hx (hb hby d2_41) rfl rfl ?_
                refine og_iinc (pc' := 46) (L' := #[.val (.long x), .second, .val (.ref a), .val (.int (3 : Int32)), .val (.long (own_s (own_s (own_s (own_s (own_s (own_s x))))))), .second, .val (.int ((9 : Int32) + (1 : Int32)))]) X12 hx (hb hby d2_43) rfl rfl rfl ?_
                rw [show ((9 : Int32) + (1 : Int32)) = (10 : Int32) from by decide]
                refine og_lload (pc' := 48) X12 hx (hb hby d2_46) rfl rfl ?_
                refine og_l2i (pc' := 49) X12 hx (hb hby d2_48) rfl ?_
                refine og_i2b (pc' := 50) X12 hx (hb hby d2_49) rfl ?_
                obtain ⟨cl13, Ar13, q13, S13, M13, H13, G13⟩ := id V12
                have hin13 : ¬ ((9 : Int32) < 0 ∨ cl13.slots.size ≤ ((9 : Int32)).toNatClampNeg) := inb_of S13 ⟨by decide, by decide⟩
                obtain ⟨T13, h13, X13, e13, W13, st13⟩ := stB X12 hx hZ e12 Ar13 (j := (9 : Int32)) hin13 (g := (mkF m 50 #[.val (.long x), .second, .val (.ref a), .val (.int (3 : Int32)), .val (.long (own_s (own_s (own_s (own_s (own_s (own_s x))))))), .second, .val (.int (10 : Int32))] [(.int (((own_s (own_s (own_s (own_s (own_s (own_s x)))))).toInt32).toInt8.toInt32)), (.int (9 : Int32)), (.ref a)])) rfl rfl (hb hby d2_50)
                have V13 : Arv Z h13 a kk .byte (14 : Int32) [(.int z), (.int z), (.int z), (.int ((((x ||| (128 : Int64)).toInt32).toInt8.toInt32).toInt8.toInt32)), (.int (((((own_s x) ||| (128 : Int64)).toInt32).toInt8.toInt32).toInt8.toInt32)), (.int (((((own_s (own_s x)) ||| (128 : Int64)).toInt32).toInt8.toInt32).toInt8.toInt32)), (.int (((((own_s (own_s (own_s x))) ||| (128 : Int64)).toInt32).toInt8.toInt32).toInt8.toInt32)), (.int (((((own_s (own_s (own_s (own_s x)))) ||| (128 : Int64)).toInt32).toInt8.toInt32).toInt8.toInt32)), (.int (((((own_s (own_s (own_s (own_s (own_s x))))) ||| (128 : Int64)).toInt32).toInt8.toInt32).toInt8.toInt32)), (.int ((((own_s (own_s (own_s (own_s (own_s (own_s x)))))).toInt32).toInt8.toInt32).toInt8.toInt32)), (.int z), (.int z), (.int z), (.int z)] (.int (0 : Int32)) := Arv.set Ar13 q13 S13 M13 H13 G13 (fits_nar_byte _) W13 9 rfl (Nat.le_of_ble_eq_true rfl)
                have K13 : Keep h0 h13 [a] := K12.wr W13 (Or.inl (List.mem_of_getElem? (i := 0) rfl))
                have Z13 : n0 ≤ h13.size := Nat.le_trans Z0 K13.1
                have N13 := Fr.snoc X13 N12 g_a
                obtain ⟨J13, X13, N13⟩ := own_hide X13 N13
                refine own_Go.of (g' := (mkF m 51 #[.val (.long x), .second, .val (.ref a), .val (.int (3 : Int32)), .val (.long (own_s (own_s (own_s (own_s (own_s (own_s x))))))), .second, .val (.int (10 : Int32))] [])) (fun t k => st13 _ k) ?_
                refine og_iload (pc' := 53) X13 hx (hb hby d2_51) rfl rfl ?_
                obtain ⟨fs, hr, hrun, hended, hW, hsame⟩ := X13.leave (v := some (.int (10 : Int32))) (fun h => by rw [Bd.returns] at h; cases h) (BodyLoose.notSynchronized Bd)
                refine ⟨_, _, retI X13 hx Bd.returns (hb hby d2_53) hr, hrun, hended, some (.int (10 : Int32)), _, rfl, ?_, ⟨_, rfl⟩, hW, hsame.mono (by decide) (by decide)⟩
                show Qwr3 Z x a kk z h0 n0 _ T13.heap _
                rw [e13]
                exact ⟨(congrArg (fun q => some (Value.int q)) (by rw [own_len_7 x hpos hc12_1 hc12_2 hc12_3 hc12_4 hc12_5 hc12_6 hc12_7]; decide)), N13, K13, (by rw [own_lst_3_7 x z hc12_1 hc12_2 hc12_3 hc12_4 hc12_5 hc12_6 hc12_7]; exact V13)⟩
              · refine og_ifNo (pc' := 15) X12 hx (hb hby d2_12) ((if0 _ _).trans (flt (fun q => hc12_7 ((lw_lt _ _).mp q))).1) rfl ?_
                refine og_aloadN (pc' := 16) X12 hx (hb hby d2_15) rfl rfl rfl ?_
                refine og_iload (pc' := 18) X12 hx (hb hby d2_16) rfl rfl ?_
                refine og_iinc (pc' := 21) (L' := #[.val (.long x), .second, .val (.ref a), .val (.int (3 : Int32)), .val (.long (own_s (own_s (own_s (own_s (own_s (own_s x))))))), .second, .val (.int ((9 : Int32) + (1 : Int32)))]) X12 hx (hb hby d2_18) rfl rfl rfl ?_
                rw [show ((9 : Int32) + (1 : Int32)) = (10 : Int32) from by decide]
                refine og_lload (pc' := 23) X12 hx (hb hby d2_21) rfl rfl ?_
                refine og_ldc2_w (pc' := 26) X12 hx (hb hby d2_23) hown (mvT hZ (hw _ (List.mem_of_getElem? (i := 11) rfl))) rfl ?_
                refine og_lor (pc' := 27) X12 hx (hb hby d2_26) rfl ?_
                refine og_l2i (pc' := 28) X12 hx (hb hby d2_27) rfl ?_
                refine og_i2b (pc' := 29) X12 hx (hb hby d2_28) rfl ?_
                obtain ⟨cl14, Ar14, q14, S14, M14, H14, G14⟩ := id V12
                have hin14 : ¬ ((9 : Int32) < 0 ∨ cl14.slots.size ≤ ((9 : Int32)).toNatClampNeg) := inb_of S14 ⟨by decide, by decide⟩
                obtain ⟨T14, h14, X14, e14, W14, st14⟩ := stB X12 hx hZ e12 Ar14 (j := (9 : Int32)) hin14 (g := (mkF m 29 #[.val (.long x), .second, .val (.ref a), .val (.int (3 : Int32)), .val (.long (own_s (own_s (own_s (own_s (own_s (own_s x))))))), .second, .val (.int (10 : Int32))] [(.int ((((own_s (own_s (own_s (own_s (own_s (own_s x)))))) ||| (128 : Int64)).toInt32).toInt8.toInt32)), (.int (9 : Int32)), (.ref a)])) rfl rfl (hb hby d2_29)
                have V14 : Arv Z h14 a kk .byte (14 : Int32) [(.int z), (.int z), (.int z), (.int ((((x ||| (128 : Int64)).toInt32).toInt8.toInt32).toInt8.toInt32)), (.int (((((own_s x) ||| (128 : Int64)).toInt32).toInt8.toInt32).toInt8.toInt32)), (.int (((((own_s (own_s x)) ||| (128 : Int64)).toInt32).toInt8.toInt32).toInt8.toInt32)), (.int (((((own_s (own_s (own_s x))) ||| (128 : Int64)).toInt32).toInt8.toInt32).toInt8.toInt32)), (.int (((((own_s (own_s (own_s (own_s x)))) ||| (128 : Int64)).toInt32).toInt8.toInt32).toInt8.toInt32)), (.int (((((own_s (own_s (own_s (own_s (own_s x))))) ||| (128 : Int64)).toInt32).toInt8.toInt32).toInt8.toInt32)), (.int (((((own_s (own_s (own_s (own_s (own_s (own_s x)))))) ||| (128 : Int64)).toInt32).toInt8.toInt32).toInt8.toInt32)), (.int z), (.int z), (.int z), (.int z)] (.int (0 : Int32)) := Arv.set Ar14 q14 S14 M14 H14 G14 (fits_nar_byte _) W14 9 rfl (Nat.le_of_ble_eq_true rfl)
                have K14 : Keep h0 h14 [a] := K12.wr W14 (Or.inl (List.mem_of_getElem? (i := 0) rfl))
                have Z14 : n0 ≤ h14.size := Nat.le_trans Z0 K14.1
                have N14 := Fr.snoc X14 N12 g_a
                obtain ⟨J14, X14, N14⟩ := own_hide X14 N14
                refine own_Go.of (g' := (mkF m 30 #[.val (.long x), .second, .val (.ref a), .val (.int (3 : Int32)), .val (.long (own_s (own_s (own_s (own_s (own_s (own_s x))))))), .second, .val (.int (10 : Int32))] [])) (fun t k => st14 _ k) ?_
                refine og_lload (pc' := 32) X14 hx (hb hby d2_30) rfl rfl ?_
                refine og_bipush (pc' := 34) (n := 7) X14 hx (hb hby d2_32) rfl rfl ?_
                refine own_Go.of (g' := (mkF m 35 #[.val (.long x), .second, .val (.ref a), .val (.int (3 : Int32)), .val (.long (own_s (own_s (own_s (own_s (own_s (own_s x))))))), .second, .val (.int (10 : Int32))] [(.long (own_s (own_s (own_s (own_s (own_s (own_s (own_s x))))))))])) (fun t k => XS.lushr X14.here hx rfl (hb hby d2_34) rfl k) ?_
                refine og_lstore (pc' := 37) (L' := #[.val (.long x), .second, .val (.ref a), .val (.int (3 : Int32)), .val (.long (own_s (own_s (own_s (own_s (own_s (own_s (own_s x)))))))), .second, .val (.int (10 : Int32))]) X14 hx (hb hby d2_35) rfl rfl ?_
                refine og_goto (pc' := 6) X14 hx (hb hby d2_37) (by decide) (by decide) ?_
                refine og_lload (pc' := 8) X14 hx (hb hby d2_6) rfl rfl ?_
                refine og_ldc2_w (pc' := 11) X14 hx (hb hby d2_8) hown (mvT hZ (hw _ (List.mem_of_getElem? (i := 11) rfl))) rfl ?_
                refine og_lcmp (pc' := 12) X14 hx (hb hby d2_11) rfl ?_
                by_cases hc12_8 : (own_s (own_s (own_s (own_s (own_s (own_s (own_s x))))))) < (128 : Int64)
                · refine og_ifYes (pc' := 40) X14 hx (hb hby d2_12) ((if0 _ _).trans (tlt ((lw_lt _ _).mpr hc12_8)).1) (by decide) (by decide) ?_
                  refine og_aloadN (pc' := 41) X14 hx (hb hby d2_40) rfl rfl rfl ?_
                  refine og_iload (pc' := 43) X14 hx (hb hby d2_41) rfl rfl ?_
                  refine og_iinc (pc' := 46) (L' := #[.val (.long x), .second, .val (.ref a), .val (.int (3 : Int32)), .val (.long (own_s (own_s (own_s (own_s (own_s (own_s (own_s x)))))))), .second, .val (.int ((10 : Int32) + (1 : Int32)))]) X14 hx (hb hby d2_43) rfl rfl rfl ?_
                  rw [show ((10 : Int32) + (1 : Int32)) = (11 : Int32) from by decide]
                  refine og_lload (pc' := 48) X14 hx (hb hby d2_46) rfl rfl ?_
                  refine og_l2i (pc' := 49) X14 hx (hb hby d2_48) rfl ?_
                  refine og_i2b (pc' := 50) X14 hx (hb hby d2_49) rfl ?_
                  obtain ⟨cl15, Ar15, q15, S15, M15, H15, G15⟩ := id V14
                  have hin15 : ¬ ((10 : Int32) < 0 ∨ cl15.slots.size ≤ ((10 : Int32)).toNatClampNeg) := inb_of S15 ⟨by decide, by decide⟩
                  obtain ⟨T15, h15, X15, e15, W15, st15⟩ := stB X14 hx hZ e14 Ar15 (j := (10 : Int32)) hin15 (g := (mkF m 50 #[.val (.long x), .second, .val (.ref a), .val (.int (3 : Int32)), .val (.long (own_s (own_s (own_s (own_s (own_s (own_s (own_s x)))))))), .second, .val (.int (11 : Int32))] [(.int (((own_s (own_s (own_s (own_s (own_s (own_s (own_s x))))))).toInt32).toInt8.toInt32)), (.int (10 : Int32)), (.ref a)])) rfl rfl (hb hby d2_50)
                  have V15 : Arv Z h15 a kk .byte (14 : Int32) [(.int z), (.int z), (.int z), (.int ((((x ||| (128 : Int64)).toInt32).toInt8.toInt32).toInt8.toInt32)), (.int (((((own_s x) ||| (128 : Int64)).toInt32).toInt8.toInt32).toInt8.toInt32)), (.int (((((own_s (own_s x)) ||| (128 : Int64)).toInt32).toInt8.toInt32).toInt8.toInt32)), (.int (((((own_s (own_s (own_s x))) ||| (128 : Int64)).toInt32).toInt8.toInt32).toInt8.toInt32)), (.int (((((own_s (own_s (own_s (own_s x)))) ||| (128 : Int64)).toInt32).toInt8.toInt32).toInt8.toInt32)), (.int (((((own_s (own_s (own_s (own_s (own_s x))))) ||| (128 : Int64)).toInt32).toInt8.toInt32).toInt8.toInt32)), (.int (((((own_s (own_s (own_s (own_s (own_s (own_s x)))))) ||| (128 : Int64)).toInt32).toInt8.toInt32).toInt8.toInt32)), (.int ((((own_s (own_s (own_s (own_s (own_s (own_s (own_s x))))))).toInt32).toInt8.toInt32).toInt8.toInt32)), (.int z), (.int z), (.int z)] (.int (0 : Int32)) := Arv.set Ar15 q15 S15 M15 H15 G15 (fits_nar_byte _) W15 10 rfl (Nat.le_of_ble_eq_true rfl)
                  have K15 : Keep h0 h15 [a] := K14.wr W15 (Or.inl (List.mem_of_getElem? (i := 0) rfl))
                  have Z15 : n0 ≤ h15.size := Nat.le_trans Z0 K15.1
                  have N15 := Fr.snoc X15 N14 g_a
                  obtain ⟨J15, X15, N15⟩ := own_hide X15 N15
                  refine own_Go.of (g' := (mkF m 51 #[.val (.long x), .second, .val (.ref a), .val (.int (3 : Int32)), .val (.long (own_s (own_s (own_s (own_s (own_s (own_s (own_s x)))))))), .second, .val (.int (11 : Int32))] [])) (fun t k => st15 _ k) ?_
                  refine og_iload (pc' := 53) X15 hx (hb hby d2_51) rfl rfl ?_
                  obtain ⟨fs, hr, hrun, hended, hW, hsame⟩ := X15.leave (v := some (.int (11 : Int32))) (fun h => by rw [Bd.returns] at h; cases h) (BodyLoose.notSynchronized Bd)
                  refine ⟨_, _, retI X15 hx Bd.returns (hb hby d2_53) hr, hrun, hended, some (.int (11 : Int32)), _, rfl, ?_, ⟨_, rfl⟩, hW, hsame.mono (by decide) (by decide)⟩
                  show Qwr3 Z x a kk z h0 n0 _ T15.heap _
                  rw [e15]
                  exact ⟨(congrArg (fun q => some (Value.int q)) (by rw [own_len_8 x hpos hc12_1 hc12_2 hc12_3 hc12_4 hc12_5 hc12_6 hc12_7 hc12_8]; decide)), N15, K15, (by rw [own_lst_3_8 x z hc12_1 hc12_2 hc12_3 hc12_4 hc12_5 hc12_6 hc12_7 hc12_8]; exact V15)⟩
                · refine og_ifNo (pc' := 15) X14 hx (hb hby d2_12) ((if0 _ _).trans (flt (fun q => hc12_8 ((lw_lt _ _).mp q))).1) rfl ?_
                  refine og_aloadN (pc' := 16) X14 hx (hb hby d2_15) rfl rfl rfl ?_
                  refine og_iload (pc' := 18) X14 hx (hb hby d2_16) rfl rfl ?_
                  refine og_iinc (pc' := 21) (L' := #[.val (.long x), .second, .val (.ref a), .val (.int (3 : Int32)), .val (.long (own_s (own_s (own_s (own_s (own_s (own_s (own_s x)))))))), .second, .val (.int ((10 : Int32) + (1 : Int32)))]) X14 hx (hb hby d2_18) rfl rfl rfl ?_
                  rw [show ((10 : Int32) + (1 : Int32)) = (11 : Int32) from by decide]
                  refine og_lload (pc' := 23) X14 hx (hb hby d2_21) rfl rfl ?_
                  refine og_ldc2_w (pc' := 26) X14 hx (hb hby d2_23) hown (mvT hZ (hw _ (List.mem_of_getElem? (i := 11) rfl))) rfl ?_
                  refine og_lor (pc' := 27) X14 hx (hb hby d2_26) rfl ?_
                  refine og_l2i (pc' := 28) X14 hx (hb hby d2_27) rfl ?_
                  refine og_i2b (pc' := 29) X14 hx (hb hby d2_28) rfl ?_
                  obtain ⟨cl16, Ar16, q16, S16, M16, H16, G16⟩ := id V14
                  have hin16 : ¬ ((10 : Int32) < 0 ∨ cl16.slots.size ≤ ((10 : Int32)).toNatClampNeg) := inb_of S16 ⟨by decide, by decide⟩
                  obtain ⟨T16, h16, X16, e16, W16, st16⟩ := stB X14 hx hZ e14 Ar16 (j := (10 : Int32)) hin16 (g := (mkF m 29 #[.val (.long x), .second, .val (.ref a), .val (.int (3 : Int32)), .val (.long (own_s (own_s (own_s (own_s (own_s (own_s (own_s x)))))))), .second, .val (.int (11 : Int32))] [(.int ((((own_s (own_s (own_s (own_s (own_s (own_s (own_s x))))))) ||| (128 : Int64)).toInt32).toInt8.toInt32)), (.int (10 : Int32)), (.ref a)])) rfl rfl (hb hby d2_29)
                  have V16 : Arv Z h16 a kk .byte (14 : Int32) [(.int z), (.int z), (.int z), (.int ((((x ||| (128 : Int64)).toInt32).toInt8.toInt32).toInt8.toInt32)), (.int (((((own_s x) ||| (128 : Int64)).toInt32).toInt8.toInt32).toInt8.toInt32)), (.int (((((own_s (own_s x)) ||| (128 : Int64)).toInt32).toInt8.toInt32).toInt8.toInt32)), (.int (((((own_s (own_s (own_s x))) ||| (128 : Int64)).toInt32).toInt8.toInt32).toInt8.toInt32)), (.int (((((own_s (own_s (own_s (own_s x)))) ||| (128 : Int64)).toInt32).toInt8.toInt32).toInt8.toInt32)), (.int (((((own_s (own_s (own_s (own_s (own_s x))))) ||| (128 : Int64)).toInt32).toInt8.toInt32).toInt8.toInt32)), (.int (((((own_s (own_s (own_s (own_s (own_s (own_s x)))))) ||| (128 : Int64)).toInt32).toInt8.toInt32).toInt8.toInt32)), (.int (((((own_s (own_s (own_s (own_s (own_s (own_s (own_s x))))))) ||| (128 : Int64)).toInt32).toInt8.toInt32).toInt8.toInt32)), (.int z), (.int z), (.int z)] (.int (0 : Int32)) := Arv.set Ar16 q16 S16 M16 H16 G16 (fits_nar_byte _) W16 10 rfl (Nat.le_of_ble_eq_true rfl)
                  have K16 : Keep h0 h16 [a] := K14.wr W16 (Or.inl (List.mem_of_getElem? (i := 0) rfl))
                  have Z16 : n0 ≤ h16.size := Nat.le_trans Z0 K16.1
                  have N16 := Fr.snoc X16 N14 g_a
                  obtain ⟨J16, X16, N16⟩ := own_hide X16 N16
                  refine own_Go.of (g' := (mkF m 30 #[.val (.long x), .second, .val (.ref a), .val (.int (3 : Int32)), .val (.long (own_s (own_s (own_s (own_s (own_s (own_s (own_s x)))))))), .second, .val (.int (11 : Int32))] [])) (fun t k => st16 _ k) ?_
                  refine og_lload (pc' := 32) X16 hx (hb hby d2_30) rfl rfl ?_
                  refine og_bipush (pc' := 34) (n := 7) X16 hx (hb hby d2_32) rfl rfl ?_
                  refine own_Go.of (g' := (mkF m 35 #[.val (.long x), .second, .val (.ref a), .val (.int (3 : Int32)), .val (.long (own_s (own_s (own_s (own_s (own_s (own_s (own_s x)))))))), .second, .val (.int (11 : Int32))] [(.long (own_s (own_s (own_s (own_s (own_s (own_s (own_s (own_s x)))))))))])) (fun t k => XS.lushr X16.here hx rfl (hb hby d2_34) rfl k) ?_
                  refine og_lstore (pc' := 37) (L' := #[.val (.long x), .second, .val (.ref a), .val (.int (3 : Int32)), .val (.long (own_s (own_s (own_s (own_s (own_s (own_s (own_s (own_s x))))))))), .second, .val (.int (11 : Int32))]) X16 hx (hb hby d2_35) rfl rfl ?_
                  refine og_goto (pc' := 6) X16 hx (hb hby d2_37) (by decide) (by decide) ?_
                  refine og_lload (pc' := 8) X16 hx (hb hby d2_6) rfl rfl ?_
                  refine og_ldc2_w (pc' := 11) X16 hx (hb hby d2_8) hown (mvT hZ (hw _ (List.mem_of_getElem? (i := 11) rfl))) rfl ?_
                  refine og_lcmp (pc' := 12) X16 hx (hb hby d2_11) rfl ?_
                  refine og_ifYes (pc' := 40) X16 hx (hb hby d2_12) ((if0 _ _).trans (tlt ((lw_lt _ _).mpr (own_lt9 hpos))).1) (by decide) (by decide) ?_
                  refine og_aloadN (pc' := 41) X16 hx (hb hby d2_40) rfl rfl rfl ?_
                  refine og_iload (pc' := 43) X16 hx (hb hby d2_41) rfl rfl ?_
                  refine og_iinc (pc' := 46) (L' := #[.val (.long x), .second, .val (.ref a), .val (.int (3 : Int32)), .val (.long (own_s (own_s (own_s (own_s (own_s (own_s (own_s (own_s x))))))))), .second, .val (.int ((11 : Int32) + (1 : Int32)))]) X16 hx (hb hby d2_43) rfl rfl rfl ?_
                  rw [show ((11 : Int32) + (1 : Int32)) = (12 : Int32) from by decide]
                  refine og_lload (pc' := 48) X16 hx (hb hby d2_46) rfl rfl ?_
                  refine og_l2i (pc' := 49) X16 hx (hb hby d2_48) rfl ?_
                  refine og_i2b (pc' := 50) X16 hx (hb hby d2_49) rfl ?_
                  obtain ⟨cl17, Ar17, q17, S17, M17, H17, G17⟩ := id V16
                  have hin17 : ¬ ((11 : Int32) < 0 ∨ cl17.slots.size ≤ ((11 : Int32)).toNatClampNeg) := inb_of S17 ⟨by decide, by decide⟩
                  obtain ⟨T17, h17, X17, e17, W17, st17⟩ := stB X16 hx hZ e16 Ar17 (j := (11 : Int32)) hin17 (g := (mkF m 50 #[.val (.long x), .second, .val (.ref a), .val (.int (3 : Int32)), .val (.long (own_s (own_s (own_s (own_s (own_s (own_s (own_s (own_s x))))))))), .second, .val (.int (12 : Int32))] [(.int (((own_s (own_s (own_s (own_s (own_s (own_s (own_s (own_s x)))))))).toInt32).toInt8.toInt32)), (.int (11 : Int32)), (.ref a)])) rfl rfl (hb hby d2_50)
                  have V17 : Arv Z h17 a kk .byte (14 : Int32) [(.int z), (.int z), (.int z), (.int ((((x ||| (128 : Int64)).toInt32).toInt8.toInt32).toInt8.toInt32)), (.int (((((own_s x) ||| (128 : Int64)).toInt32).toInt8.toInt32).toInt8.toInt32)), (.int (((((own_s (own_s x)) ||| (128 : Int64)).toInt32).toInt8.toInt32).toInt8.toInt32)), (.int (((((own_s (own_s (own_s x))) ||| (128 : Int64)).toInt32).toInt8.toInt32).toInt8.toInt32)), (.int (((((own_s (own_s (own_s (own_s x)))) ||| (128 : Int64)).toInt32).toInt8.toInt32).toInt8.toInt32)), (.int (((((own_s (own_s (own_s (own_s (own_s x))))) ||| (128 : Int64)).toInt32).toInt8.toInt32).toInt8.toInt32)), (.int (((((own_s (own_s (own_s (own_s (own_s (own_s x)))))) ||| (128 : Int64)).toInt32).toInt8.toInt32).toInt8.toInt32)), (.int (((((own_s (own_s (own_s (own_s (own_s (own_s (own_s x))))))) ||| (128 : Int64)).toInt32).toInt8.toInt32).toInt8.toInt32)), (.int ((((own_s (own_s (own_s (own_s (own_s (own_s (own_s (own_s x)))))))).toInt32).toInt8.toInt32).toInt8.toInt32)), (.int z), (.int z)] (.int (0 : Int32)) := Arv.set Ar17 q17 S17 M17 H17 G17 (fits_nar_byte _) W17 11 rfl (Nat.le_of_ble_eq_true rfl)
                  have K17 : Keep h0 h17 [a] := K16.wr W17 (Or.inl (List.mem_of_getElem? (i := 0) rfl))
                  have Z17 : n0 ≤ h17.size := Nat.le_trans Z0 K17.1
                  have N17 := Fr.snoc X17 N16 g_a
                  obtain ⟨J17, X17, N17⟩ := own_hide X17 N17
                  refine own_Go.of (g' := (mkF m 51 #[.val (.long x), .second, .val (.ref a), .val (.int (3 : Int32)), .val (.long (own_s (own_s (own_s (own_s (own_s (own_s (own_s (own_s x))))))))), .second, .val (.int (12 : Int32))] [])) (fun t k => st17 _ k) ?_
                  refine og_iload (pc' := 53) X17 hx (hb hby d2_51) rfl rfl ?_
                  obtain ⟨fs, hr, hrun, hended, hW, hsame⟩ := X17.leave (v := some (.int (12 : Int32))) (fun h => by rw [Bd.returns] at h; cases h) (BodyLoose.notSynchronized Bd)
                  refine ⟨_, _, retI X17 hx Bd.returns (hb hby d2_53) hr, hrun, hended, some (.int (12 : Int32)), _, rfl, ?_, ⟨_, rfl⟩, hW, hsame.mono (by decide) (by decide)⟩
                  show Qwr3 Z x a kk z h0 n0 _ T17.heap _
                  rw [e17]
                  exact ⟨(congrArg (fun q => some (Value.int q)) (by rw [own_len_9 x hpos hc12_1 hc12_2 hc12_3 hc12_4 hc12_5 hc12_6 hc12_7 hc12_8 (own_lt9 hpos)]; decide)), N17, K17, (by rw [own_lst_3_9 x z hc12_1 hc12_2 hc12_3 hc12_4 hc12_5 hc12_6 hc12_7 hc12_8 (own_lt9 hpos)]; exact V17)⟩

def own_chk_65 (x1 : Int32) (x2 : Int32) (x3 : Int64) (x4 : Int32) (x5 : Int32) (ev : Int32) (i7 : Int32) (i8 : Int32) (t0 : Int32) : Int32 := (if ev = (t0.toInt8.toInt32) then (1 : Int32) else (0 : Int32))
def own_chk_17 (x1 : Int32) (x2 : Int32) (x3 : Int64) (x4 : Int32) (x5 : Int32) (ev : Int32) (i7 : Int32) : Int32 := (if ev = x5 then (1 : Int32) else (0 : Int32))
def own_chk (x1 : Int32) (x2 : Int32) (x3 : Int64) (x4 : Int32) (x5 : Int32) (ev : Int32) : Int32 := (if (x1 - x2) < (0 : Int32) then (own_chk_17 x1 x2 x3 x4 x5 ev (x1 - x2)) else (if (x1 - x2) < x4 then (if (x1 - x2) < (x4 - (1 : Int32)) then (own_chk_65 x1 x2 x3 x4 x5 ev (x1 - x2) ((((x3.toUInt64 >>> (((7 : Int32) * (x1 - x2)) &&& 0x3f).toInt64.toUInt64).toInt64) &&& (127 : Int64)).toInt32) (((((x3.toUInt64 >>> (((7 : Int32) * (x1 - x2)) &&& 0x3f).toInt64.toUInt64).toInt64) &&& (127 : Int64)).toInt32) ||| (128 : Int32))) else (own_chk_65 x1 x2 x3 x4 x5 ev (x1 - x2) ((((x3.toUInt64 >>> (((7 : Int32) * (x1 - x2)) &&& 0x3f).toInt64.toUInt64).toInt64) &&& (127 : Int64)).toInt32) ((((x3.toUInt64 >>> (((7 : Int32) * (x1 - x2)) &&& 0x3f).toInt64.toUInt64).toInt64) &&& (127 : Int64)).toInt32))) else (own_chk_17 x1 x2 x3 x4 x5 ev (x1 - x2))))
theorem d3_0 : decode method_4_code 0 = .ok (.iload_n 1, 1) := by decide +kernel
theorem d3_1 : decode method_4_code 1 = .ok (.iload_n 2, 1) := by decide +kernel
theorem d3_2 : decode method_4_code 2 = .ok (.isub, 1) := by decide +kernel
theorem d3_3 : decode method_4_code 3 = .ok (.istore 7, 2) := by decide +kernel
theorem d3_5 : decode method_4_code 5 = .ok (.iload 7, 2) := by decide +kernel
theorem d3_7 : decode method_4_code 7 = .ok (.ifCond .lt 10, 3) := by decide +kernel
theorem d3_10 : decode method_4_code 10 = .ok (.iload 7, 2) := by decide +kernel
theorem d3_12 : decode method_4_code 12 = .ok (.iload 5, 2) := by decide +kernel
theorem d3_14 : decode method_4_code 14 = .ok (.if_icmp .lt 17, 3) := by decide +kernel
theorem d3_17 : decode method_4_code 17 = .ok (.aload_n 0, 1) := by decide +kernel
theorem d3_18 : decode method_4_code 18 = .ok (.iload_n 1, 1) := by decide +kernel
theorem d3_19 : decode method_4_code 19 = .ok (.baload, 1) := by decide +kernel
theorem d3_20 : decode method_4_code 20 = .ok (.iload 6, 2) := by decide +kernel
theorem d3_22 : decode method_4_code 22 = .ok (.if_icmp .ne 7, 3) := by decide +kernel
theorem d3_25 : decode method_4_code 25 = .ok (.iconst 1, 1) := by decide +kernel
theorem d3_26 : decode method_4_code 26 = .ok (.goto 4, 3) := by decide +kernel
theorem d3_29 : decode method_4_code 29 = .ok (.iconst 0, 1) := by decide +kernel
theorem d3_30 : decode method_4_code 30 = .ok (.ireturn, 1) := by decide +kernel
theorem d3_31 : decode method_4_code 31 = .ok (.lload_n 3, 1) := by decide +kernel
theorem d3_32 : decode method_4_code 32 = .ok (.bipush 7, 2) := by decide +kernel
theorem d3_34 : decode method_4_code 34 = .ok (.iload 7, 2) := by decide +kernel
theorem d3_36 : decode method_4_code 36 = .ok (.imul, 1) := by decide +kernel
theorem d3_37 : decode method_4_code 37 = .ok (.lushr, 1) := by decide +kernel
theorem d3_38 : decode method_4_code 38 = .ok (.ldc2_w 43, 3) := by decide +kernel
theorem d3_41 : decode method_4_code 41 = .ok (.land, 1) := by decide +kernel
theorem d3_42 : decode method_4_code 42 = .ok (.l2i, 1) := by decide +kernel
theorem d3_43 : decode method_4_code 43 = .ok (.istore 8, 2) := by decide +kernel
theorem d3_45 : decode method_4_code 45 = .ok (.iload 7, 2) := by decide +kernel
theorem d3_47 : decode method_4_code 47 = .ok (.iload 5, 2) := by decide +kernel
theorem d3_49 : decode method_4_code 49 = .ok (.iconst 1, 1) := by decide +kernel
theorem d3_50 : decode method_4_code 50 = .ok (.isub, 1) := by decide +kernel
theorem d3_51 : decode method_4_code 51 = .ok (.if_icmp .ge 12, 3) := by decide +kernel
theorem d3_54 : decode method_4_code 54 = .ok (.iload 8, 2) := by decide +kernel
theorem d3_56 : decode method_4_code 56 = .ok (.sipush 128, 3) := by decide +kernel
theorem d3_59 : decode method_4_code 59 = .ok (.ior, 1) := by decide +kernel
theorem d3_60 : decode method_4_code 60 = .ok (.goto 5, 3) := by decide +kernel
theorem d3_63 : decode method_4_code 63 = .ok (.iload 8, 2) := by decide +kernel
theorem d3_65 : decode method_4_code 65 = .ok (.istore 9, 2) := by decide +kernel
theorem d3_67 : decode method_4_code 67 = .ok (.aload_n 0, 1) := by decide +kernel
theorem d3_68 : decode method_4_code 68 = .ok (.iload_n 1, 1) := by decide +kernel
theorem d3_69 : decode method_4_code 69 = .ok (.baload, 1) := by decide +kernel
theorem d3_70 : decode method_4_code 70 = .ok (.iload 9, 2) := by decide +kernel
theorem d3_72 : decode method_4_code 72 = .ok (.i2b, 1) := by decide +kernel
theorem d3_73 : decode method_4_code 73 = .ok (.if_icmp .ne 7, 3) := by decide +kernel
theorem d3_76 : decode method_4_code 76 = .ok (.iconst 1, 1) := by decide +kernel
theorem d3_77 : decode method_4_code 77 = .ok (.goto 4, 3) := by decide +kernel
theorem d3_80 : decode method_4_code 80 = .ok (.iconst 0, 1) := by decide +kernel
theorem d3_81 : decode method_4_code 81 = .ok (.ireturn, 1) := by decide +kernel
theorem pnchk : plainName "com/example/skorr/skorr/index/IndexFormatWriteVarintPinLaw" = true := by first | (simp [plainName, overriddenIn]; done) | decide +kernel
theorem efchk (m : MethodId) (z0 : Addr) (z1 : Int32) (z2 : Int32) (z3 : Int64) (z4 : Int32) (z5 : Int32) : entryFrame m #[(.ref z0), (.int z1), (.int z2), (.long z3), (.int z4), (.int z5)] 10 = mkF m 0 #[.val (.ref z0), .val (.int z1), .val (.int z2), .val (.long z3), .second, .val (.int z4), .val (.int z5), .unset, .unset, .unset] [] := by first | (simp [entryFrame, mkF, argsToLocals, Value.category]; done) | rfl
def Qchk (Z : State) (a : Addr) (x1 : Int32) (x2 : Int32) (x3 : Int64) (x4 : Int32) (x5 : Int32) (kk : ClassId) (vs : List Value) (ev : Int32) (h0 : Heap) (n0 : Nat) (v : Option Value) (h : Heap) (L : List Loc) : Prop := v = some (.int (own_chk x1 x2 x3 x4 x5 ev)) ∧ Fr n0 L ∧ h = h0
set_option maxRecDepth 65536 in
set_option maxHeartbeats 40000000 in
theorem rmchk (l : Launch) (Z : State) (a0 : Array Value) (hw : ∀ d ∈ tables_1, d.before a0 Z = true) (ws : List Jvm.Cond) (a : Addr) (x1 : Int32) (x2 : Int32) (x3 : Int64) (x4 : Int32) (x5 : Int32) (kk : ClassId) (vs : List Value) (ev : Int32) (h0 : Heap) (n0 : Nat) (Z0 : n0 ≤ h0.size) (V_a : Arv Z h0 a kk .byte (14 : Int32) vs (.int (0 : Int32))) (hj : ¬ x1 < 0 ∧ x1 < (14 : Int32)) (hat : vs.getD x1.toNatClampNeg (.int (0 : Int32)) = .int ev) :
    MetFree l (⟨"com/example/skorr/skorr/index/IndexFormatWriteVarintPinLaw", "check", "([BIIJIB)Z"⟩ : MethodName) (head1 (Jvm.Cond.code (⟨"com/example/skorr/skorr/index/IndexFormatWriteVarintPinLaw", "check", "([BIIJIB)Z"⟩ : MethodName) method_4_code 10 (some .boolean) :: ws) ({ frames := 0, cells := 0, slots := 0, locals := 0 } : Room)) (fun ag U => ag = #[(.ref a), (.int x1), (.int x2), (.long x3), (.int x4), (.int x5)] ∧ Z.Warmed39 U.vm ∧ U.heap = h0) (fun _ _ _ _ _ => True) (fun _ U oc U' => ∃ v L, oc = .returned v ∧ Qchk Z a x1 x2 x3 x4 x5 kk vs ev h0 n0 v U'.heap L ∧ FrameEnd U oc U' L ({ frames := 0, cells := 0, slots := 0, locals := 0 } : Room).cells ({ frames := 0, cells := 0, slots := 0, locals := 0 } : Room).slots) := by
  refine MetFree.of_bodySF (plainFor_of_name pnchk) hisR ?_
  intro p e s m args below meth c s₁ Bd hml0 hP hK
  obtain ⟨rfl, hZ, hh⟩ := hP
  have hx := Bd.exec
  have hby := Bd.bytes
  have hml : c.maxLocals = 10 := hml0
  have hown : s.vm.findClass "com/example/skorr/skorr/index/IndexFormatWriteVarintPinLaw" = some m.cls := findClass_of_methodNamed Bd.named
  have hnm := (name_of_methodNamed Bd.named Bd.method).1
  have X0 : Stand p l e ({ frames := 0, cells := 0, slots := 0, locals := 0 } : Room) s m #[(.ref a), (.int x1), (.int x2), (.long x3), (.int x4), (.int x5)] below meth c s₁ [] 0 0 := Stand.of_body Bd
  have e0 : s₁.heap = h0 := by rw [← hh, Bd.state]; rfl
  have N0 := Fr.nil n0
  show own_Go p e below (fun s₂ oc => ∃ v L, oc = .returned v ∧ Qchk Z a x1 x2 x3 x4 x5 kk vs ev h0 n0 v s₂.heap L ∧ FrameEnd s oc s₂ L ({ frames := 0, cells := 0, slots := 0, locals := 0 } : Room).cells ({ frames := 0, cells := 0, slots := 0, locals := 0 } : Room).slots) s₁ (entryFrame m #[(.ref a), (.int x1), (.int x2), (.long x3), (.int x4), (.int x5)] 10)
  have B65 : ∀ (TB : State) (Lc : List Loc) (XB : Stand p l e ({ frames := 0, cells := 0, slots := 0, locals := 0 } : Room) s m #[(.ref a), (.int x1), (.int x2), (.long x3), (.int x4), (.int x5)] below meth c TB Lc 0 0) (eB : TB.heap = h0) (NB : Fr n0 Lc) (i7 : Int32) (i8 : Int32) (t0 : Int32), own_chk x1 x2 x3 x4 x5 ev = own_chk_65 x1 x2 x3 x4 x5 ev i7 i8 t0 → own_Go p e below (fun s₂ oc => ∃ v L, oc = .returned v ∧ Qchk Z a x1 x2 x3 x4 x5 kk vs ev h0 n0 v s₂.heap L ∧ FrameEnd s oc s₂ L ({ frames := 0, cells := 0, slots := 0, locals := 0 } : Room).cells ({ frames := 0, cells := 0, slots := 0, locals := 0 } : Room).slots) TB (mkF m 65 #[.val (.ref a), .val (.int x1), .val (.int x2), .val (.long x3), .second, .val (.int x4), .val (.int x5), .val (.int i7), .val (.int i8), .unset] [(.int t0)]) := by
    intro TB Lc XB eB NB i7 i8 t0 hv
    refine og_istore (pc' := 67) (L' := #[.val (.ref a), .val (.int x1), .val (.int x2), .val (.long x3), .second, .val (.int x4), .val (.int x5), .val (.int i7), .val (.int i8), .val (.int t0)]) XB hx (hb hby d3_65) rfl rfl ?_
    refine og_aloadN (pc' := 68) XB hx (hb hby d3_67) rfl rfl rfl ?_
    refine og_iloadN (pc' := 69) XB hx (hb hby d3_68) rfl rfl ?_
    obtain ⟨cl1, Ar1, q1, S1, M1, H1, G1⟩ := id V_a
    have hin1 : ¬ (x1 < 0 ∨ cl1.slots.size ≤ (x1).toNatClampNeg) := inb_of S1 hj
    have hat1 : cl1.slots[(x1).toNatClampNeg]? = some (.int ev) := Has.at H1 hin1 hat
    refine own_Go.of (g' := (mkF m 70 #[.val (.ref a), .val (.int x1), .val (.int x2), .val (.long x3), .second, .val (.int x4), .val (.int x5), .val (.int i7), .val (.int i8), .val (.int t0)] [(.int ev)])) (fun t k => XB.baloadBytes hx (j := x1) (v := (.int ev)) (by rw [eB]; exact Ar1.1) (State.isArrayOf_alike hZ.alike Ar1.2.1) Ar1.2.2 hin1 hat1 (g := (mkF m 69 #[.val (.ref a), .val (.int x1), .val (.int x2), .val (.long x3), .second, .val (.int x4), .val (.int x5), .val (.int i7), .val (.int i8), .val (.int t0)] [(.int x1), (.ref a)])) rfl rfl (hb hby d3_69) _ k) ?_
    refine og_iload (pc' := 72) XB hx (hb hby d3_70) rfl rfl ?_
    refine og_i2b (pc' := 73) XB hx (hb hby d3_72) rfl ?_
    by_cases hc73_1 : ev = (t0.toInt8.toInt32)
    · have hv := hv.trans (if_pos hc73_1)
      refine og_icmpNo (pc' := 76) XB hx (hb hby d3_73) (teq hc73_1).2 rfl ?_
      refine og_iconst (pc' := 77) (n := 1) XB hx (hb hby d3_76) rfl rfl ?_
      refine og_goto (pc' := 81) XB hx (hb hby d3_77) (by decide) (by decide) ?_
      obtain ⟨fs, hr, hrun, hended, hW, hsame⟩ := XB.leave (v := some (.int (1 : Int32))) (fun h => by rw [Bd.returns] at h; cases h) (BodyLoose.notSynchronized Bd)
      refine ⟨_, _, retN XB hx (t := .boolean) Bd.returns (by simp) (hb hby d3_81) hr, hrun, hended, some (.int (1 : Int32)), _, rfl, ?_, ⟨_, rfl⟩, hW, hsame.mono (by decide) (by decide)⟩
      show Qchk Z a x1 x2 x3 x4 x5 kk vs ev h0 n0 _ TB.heap _
      rw [eB]
      exact ⟨(congrArg (fun z => some (Value.int z)) hv.symm), NB, rfl⟩
    · have hv := hv.trans (if_neg hc73_1)
      refine og_icmpYes (pc' := 80) XB hx (hb hby d3_73) (feq hc73_1).2 (by decide) (by decide) ?_
      refine og_iconst (pc' := 81) (n := 0) XB hx (hb hby d3_80) rfl rfl ?_
      obtain ⟨fs, hr, hrun, hended, hW, hsame⟩ := XB.leave (v := some (.int (0 : Int32))) (fun h => by rw [Bd.returns] at h; cases h) (BodyLoose.notSynchronized Bd)
      refine ⟨_, _, retN XB hx (t := .boolean) Bd.returns (by simp) (hb hby d3_81) hr, hrun, hended, some (.int (0 : Int32)), _, rfl, ?_, ⟨_, rfl⟩, hW, hsame.mono (by decide) (by decide)⟩
      show Qchk Z a x1 x2 x3 x4 x5 kk vs ev h0 n0 _ TB.heap _
      rw [eB]
      exact ⟨(congrArg (fun z => some (Value.int z)) hv.symm), NB, rfl⟩
  have B17 : ∀ (TB : State) (Lc : List Loc) (XB : Stand p l e ({ frames := 0, cells := 0, slots := 0, locals := 0 } : Room) s m #[(.ref a), (.int x1), (.int x2), (.long x3), (.int x4), (.int x5)] below meth c TB Lc 0 0) (eB : TB.heap = h0) (NB : Fr n0 Lc) (i7 : Int32), own_chk x1 x2 x3 x4 x5 ev = own_chk_17 x1 x2 x3 x4 x5 ev i7 → own_Go p e below (fun s₂ oc => ∃ v L, oc = .returned v ∧ Qchk Z a x1 x2 x3 x4 x5 kk vs ev h0 n0 v s₂.heap L ∧ FrameEnd s oc s₂ L ({ frames := 0, cells := 0, slots := 0, locals := 0 } : Room).cells ({ frames := 0, cells := 0, slots := 0, locals := 0 } : Room).slots) TB (mkF m 17 #[.val (.ref a), .val (.int x1), .val (.int x2), .val (.long x3), .second, .val (.int x4), .val (.int x5), .val (.int i7), .unset, .unset] []) := by
    intro TB Lc XB eB NB i7 hv
    refine og_aloadN (pc' := 18) XB hx (hb hby d3_17) rfl rfl rfl ?_
    refine og_iloadN (pc' := 19) XB hx (hb hby d3_18) rfl rfl ?_
    obtain ⟨cl2, Ar2, q2, S2, M2, H2, G2⟩ := id V_a
    have hin2 : ¬ (x1 < 0 ∨ cl2.slots.size ≤ (x1).toNatClampNeg) := inb_of S2 hj
    have hat2 : cl2.slots[(x1).toNatClampNeg]? = some (.int ev) := Has.at H2 hin2 hat
    refine own_Go.of (g' := (mkF m 20 #[.val (.ref a), .val (.int x1), .val (.int x2), .val (.long x3), .second, .val (.int x4), .val (.int x5), .val (.int i7), .unset, .unset] [(.int ev)])) (fun t k => XB.baloadBytes hx (j := x1) (v := (.int ev)) (by rw [eB]; exact Ar2.1) (State.isArrayOf_alike hZ.alike Ar2.2.1) Ar2.2.2 hin2 hat2 (g := (mkF m 19 #[.val (.ref a), .val (.int x1), .val (.int x2), .val (.long x3), .second, .val (.int x4), .val (.int x5), .val (.int i7), .unset, .unset] [(.int x1), (.ref a)])) rfl rfl (hb hby d3_19) _ k) ?_
    refine og_iload (pc' := 22) XB hx (hb hby d3_20) rfl rfl ?_
    by_cases hc22_2 : ev = x5
    · have hv := hv.trans (if_pos hc22_2)
      refine og_icmpNo (pc' := 25) XB hx (hb hby d3_22) (teq hc22_2).2 rfl ?_
      refine og_iconst (pc' := 26) (n := 1) XB hx (hb hby d3_25) rfl rfl ?_
      refine og_goto (pc' := 30) XB hx (hb hby d3_26) (by decide) (by decide) ?_
      obtain ⟨fs, hr, hrun, hended, hW, hsame⟩ := XB.leave (v := some (.int (1 : Int32))) (fun h => by rw [Bd.returns] at h; cases h) (BodyLoose.notSynchronized Bd)
      refine ⟨_, _, retN XB hx (t := .boolean) Bd.returns (by simp) (hb hby d3_30) hr, hrun, hended, some (.int (1 : Int32)), _, rfl, ?_, ⟨_, rfl⟩, hW, hsame.mono (by decide) (by decide)⟩
      show Qchk Z a x1 x2 x3 x4 x5 kk vs ev h0 n0 _ TB.heap _
      rw [eB]
      exact ⟨(congrArg (fun z => some (Value.int z)) hv.symm), NB, rfl⟩
    · have hv := hv.trans (if_neg hc22_2)
      refine og_icmpYes (pc' := 29) XB hx (hb hby d3_22) (feq hc22_2).2 (by decide) (by decide) ?_
      refine og_iconst (pc' := 30) (n := 0) XB hx (hb hby d3_29) rfl rfl ?_
      obtain ⟨fs, hr, hrun, hended, hW, hsame⟩ := XB.leave (v := some (.int (0 : Int32))) (fun h => by rw [Bd.returns] at h; cases h) (BodyLoose.notSynchronized Bd)
      refine ⟨_, _, retN XB hx (t := .boolean) Bd.returns (by simp) (hb hby d3_30) hr, hrun, hended, some (.int (0 : Int32)), _, rfl, ?_, ⟨_, rfl⟩, hW, hsame.mono (by decide) (by decide)⟩
      show Qchk Z a x1 x2 x3 x4 x5 kk vs ev h0 n0 _ TB.heap _
      rw [eB]
      exact ⟨(congrArg (fun z => some (Value.int z)) hv.symm), NB, rfl⟩
  refine own_Go.of (g' := mkF m 0 #[.val (.ref a), .val (.int x1), .val (.int x2), .val (.long x3), .second, .val (.int x4), .val (.int x5), .unset, .unset, .unset] []) (fun t k => castTop (efchk m a x1 x2 x3 x4 x5) k) ?_
  have hv : own_chk x1 x2 x3 x4 x5 ev = own_chk x1 x2 x3 x4 x5 ev := rfl
  refine og_iloadN (pc' := 1) X0 hx (hb hby d3_0) rfl rfl ?_
  refine og_iloadN (pc' := 2) X0 hx (hb hby d3_1) rfl rfl ?_
  refine og_isub (pc' := 3) X0 hx (hb hby d3_2) rfl ?_
  refine og_istore (pc' := 5) (L' := #[.val (.ref a), .val (.int x1), .val (.int x2), .val (.long x3), .second, .val (.int x4), .val (.int x5), .val (.int (x1 - x2)), .unset, .unset]) X0 hx (hb hby d3_3) rfl rfl ?_
  refine og_iload (pc' := 7) X0 hx (hb hby d3_5) rfl rfl ?_
  by_cases hc7_3 : (x1 - x2) < (0 : Int32)
  · have hv := hv.trans (if_pos hc7_3)
    refine og_ifYes (pc' := 17) X0 hx (hb hby d3_7) ((if0 _ _).trans (tlt hc7_3).1) (by decide) (by decide) ?_
    exact B17 s₁ _ X0 e0 N0 (x1 - x2) hv
  · have hv := hv.trans (if_neg hc7_3)
    refine og_ifNo (pc' := 10) X0 hx (hb hby d3_7) ((if0 _ _).trans (flt hc7_3).1) rfl ?_
    refine og_iload (pc' := 12) X0 hx (hb hby d3_10) rfl rfl ?_
    refine og_iload (pc' := 14) X0 hx (hb hby d3_12) rfl rfl ?_
    by_cases hc14_4 : (x1 - x2) < x4
    · have hv := hv.trans (if_pos hc14_4)
      refine og_icmpYes (pc' := 31) X0 hx (hb hby d3_14) (tlt hc14_4).1 (by decide) (by decide) ?_
      refine og_lloadN (pc' := 32) X0 hx (hb hby d3_31) rfl rfl ?_
      refine og_bipush (pc' := 34) (n := 7) X0 hx (hb hby d3_32) rfl rfl ?_
      refine og_iload (pc' := 36) X0 hx (hb hby d3_34) rfl rfl ?_
      refine og_imul (pc' := 37) X0 hx (hb hby d3_36) rfl ?_
      refine og_lushr (pc' := 38) X0 hx (hb hby d3_37) rfl ?_
      refine og_ldc2_w (pc' := 41) X0 hx (hb hby d3_38) hown (mvT hZ (hw _ (List.mem_of_getElem? (i := 15) rfl))) rfl ?_
      refine og_land (pc' := 42) X0 hx (hb hby d3_41) rfl ?_
      refine og_l2i (pc' := 43) X0 hx (hb hby d3_42) rfl ?_
      refine og_istore (pc' := 45) (L' := #[.val (.ref a), .val (.int x1), .val (.int x2), .val (.long x3), .second, .val (.int x4), .val (.int x5), .val (.int (x1 - x2)), .val (.int ((((x3.toUInt64 >>> (((7 : Int32) * (x1 - x2)) &&& 0x3f).toInt64.toUInt64).toInt64) &&& (127 : Int64)).toInt32)), .unset]) X0 hx (hb hby d3_43) rfl rfl ?_
      refine og_iload (pc' := 47) X0 hx (hb hby d3_45) rfl rfl ?_
      refine og_iload (pc' := 49) X0 hx (hb hby d3_47) rfl rfl ?_
      refine og_iconst (pc' := 50) (n := 1) X0 hx (hb hby d3_49) rfl rfl ?_
      refine og_isub (pc' := 51) X0 hx (hb hby d3_50) rfl ?_
      by_cases hc51_5 : (x1 - x2) < (x4 - (1 : Int32))
      · have hv := hv.trans (if_pos hc51_5)
        refine og_icmpNo (pc' := 54) X0 hx (hb hby d3_51) (tlt hc51_5).2.1 rfl ?_
        refine og_iload (pc' := 56) X0 hx (hb hby d3_54) rfl rfl ?_
        refine og_sipush (pc' := 59) (n := 128) X0 hx (hb hby d3_56) rfl rfl ?_
        refine og_ior (pc' := 60) X0 hx (hb hby d3_59) rfl ?_
        refine og_goto (pc' := 65) X0 hx (hb hby d3_60) (by decide) (by decide) ?_
        exact B65 s₁ _ X0 e0 N0 (x1 - x2) ((((x3.toUInt64 >>> (((7 : Int32) * (x1 - x2)) &&& 0x3f).toInt64.toUInt64).toInt64) &&& (127 : Int64)).toInt32) (((((x3.toUInt64 >>> (((7 : Int32) * (x1 - x2)) &&& 0x3f).toInt64.toUInt64).toInt64) &&& (127 : Int64)).toInt32) ||| (128 : Int32)) hv
      · have hv := hv.trans (if_neg hc51_5)
        refine og_icmpYes (pc' := 63) X0 hx (hb hby d3_51) (flt hc51_5).2.1 (by decide) (by decide) ?_
        refine og_iload (pc' := 65) X0 hx (hb hby d3_63) rfl rfl ?_
        exact B65 s₁ _ X0 e0 N0 (x1 - x2) ((((x3.toUInt64 >>> (((7 : Int32) * (x1 - x2)) &&& 0x3f).toInt64.toUInt64).toInt64) &&& (127 : Int64)).toInt32) ((((x3.toUInt64 >>> (((7 : Int32) * (x1 - x2)) &&& 0x3f).toInt64.toUInt64).toInt64) &&& (127 : Int64)).toInt32) hv
    · have hv := hv.trans (if_neg hc14_4)
      refine og_icmpNo (pc' := 17) X0 hx (hb hby d3_14) (flt hc14_4).1 rfl ?_
      exact B17 s₁ _ X0 e0 N0 (x1 - x2) hv

theorem own_off {x f : Int32} (h : (x &&& (3 : Int32)) = f) : f = (0 : Int32) ∨ f = (1 : Int32) ∨ f = (2 : Int32) ∨ f = (3 : Int32) := by
  have q := c_mask x (3 : Int32) 2 (by decide) (by decide)
  have e : ((2 ^ 2 : Nat) : Int) = 4 := by decide
  rw [e, h] at q
  have e0 : (0 : Int32).toInt = 0 := by decide
  have e1 : (1 : Int32).toInt = 1 := by decide
  have e2 : (2 : Int32).toInt = 2 := by decide
  have e3 : (3 : Int32).toInt = 3 := by decide
  simp only [← Int32.toInt_inj, e0, e1, e2, e3]
  omega
theorem own_pos {x V : Int64} {k : Int32} (h : (((x &&& (9223372036854775807 : Int64)).toUInt64 >>> ((k &&& (63 : Int32)) &&& 0x3f).toInt64.toUInt64).toInt64) = V) : 0 ≤ V.toInt := by
  obtain ⟨h1, h2⟩ := sm64 (k &&& (63 : Int32)) _ rfl
  generalize (k &&& (63 : Int32)).toBitVec.toNat % 64 = n at h1 h2
  have q := c_maskL x (9223372036854775807 : Int64) 63 (by decide) (by decide)
  have e63 : ((2 ^ 63 : Nat) : Int) = 9223372036854775808 := by decide
  rw [e63] at q
  generalize (x &&& (9223372036854775807 : Int64)) = y at h q
  have e : ((y.toUInt64 >>> ((k &&& (63 : Int32)) &&& 0x3f).toInt64.toUInt64).toInt64).toBitVec = y.toBitVec >>> (((k &&& (63 : Int32)) &&& 0x3f).toInt64.toBitVec % 64) := rfl
  rw [h, h1] at e
  have e2 : V.toBitVec.toNat = y.toBitVec.toNat >>> ((BitVec.ofNat 64 n % 64).toNat) := by rw [e]; exact BitVec.toNat_ushiftRight _ _
  have hy : y.toInt = y.toBitVec.toInt := rfl
  have hV : V.toInt = V.toBitVec.toInt := rfl
  rw [hy, BitVec.toInt_eq_toNat_cond] at q
  have ly := y.toBitVec.isLt
  have ly2 : y.toBitVec.toNat < 9223372036854775808 := by split at q <;> omega
  have lv : V.toBitVec.toNat ≤ y.toBitVec.toNat := by rw [e2, Nat.shiftRight_eq_div_pow]; exact Nat.div_le_self _ _
  rw [hV, BitVec.toInt_eq_toNat_cond]
  split <;> omega
def own_at (k j : Nat) (w : Int64) (z : Int32) : Int32 := (own_raw k w z).getD j 0
theorem own_getD_map (zs : List Int32) (j : Nat) : (zs.map Value.int).getD j (.int (0 : Int32)) = .int (zs.getD j 0) := by
  induction zs generalizing j with
  | nil => rfl
  | cons a t ih => cases j with
    | zero => rfl
    | succ k => exact ih k
theorem own_hat (k j : Nat) (w : Int64) (z : Int32) : (own_lst k w z).getD j (.int (0 : Int32)) = .int (own_at k j w z) := own_getD_map _ _
theorem own_zz {f sv zz : Int32} (h : (f.toInt8.toInt32) = sv) (h2 : zz = (sv.toInt8.toInt32)) : (sv.toInt8.toInt32) = zz ∧ zz = sv := by
  refine ⟨h2.symm, ?_⟩
  rw [h2, ← h]
  simp
def own_bv : Nat → Int64 → Int32 → Int32
  | 0, w, _ => if w < (128 : Int64) then own_lo w else own_hi w
  | i + 1, w, z => if w < (128 : Int64) then z else own_bv i (own_s w) z
theorem own_rep_get (n i : Nat) (z : Int32) (h : i < n) : (List.replicate n z).getD i 0 = z := by
  induction n generalizing i with
  | zero => omega
  | succ n ih => cases i with
    | zero => rfl
    | succ i => exact ih i (by omega)
theorem own_bytes_get : ∀ (n i : Nat) (w : Int64) (z : Int32), i < n → (own_bytes n w z).getD i 0 = own_bv i w z
  | 0, _, _, _, h => absurd h (Nat.not_lt_zero _)
  | n + 1, 0, w, z, _ => by
    unfold own_bytes own_bv
    by_cases c : w < (128 : Int64)
    · rw [if_pos c, if_pos c]; rfl
    · rw [if_neg c, if_neg c]; rfl
  | n + 1, i + 1, w, z, h => by
    unfold own_bytes own_bv
    by_cases c : w < (128 : Int64)
    · rw [if_pos c, if_pos c]; exact own_rep_get n i z (by omega)
    · rw [if_neg c, if_neg c]; exact own_bytes_get n i (own_s w) z (by omega)
theorem own_toNat64 {k : Int32} {n : Nat} (h : k.toInt = (n : Int)) (hn : n < 64) : k.toBitVec.toNat % 64 = n := by
  have e : k.toInt = k.toBitVec.toInt := rfl
  rw [e, BitVec.toInt_eq_toNat_cond] at h
  have := k.toBitVec.isLt
  split at h <;> omega
theorem own_shr {x : Int64} {k : Int32} {n : Nat} (h : k.toInt = (n : Int)) (hn : n < 64) : ((x.toUInt64 >>> (k &&& 0x3f).toInt64.toUInt64).toInt64).toBitVec = x.toBitVec >>> n := by
  obtain ⟨h1, h2⟩ := sm64 k n (own_toNat64 h hn)
  have e : ((x.toUInt64 >>> (k &&& 0x3f).toInt64.toUInt64).toInt64).toBitVec = x.toBitVec >>> ((k &&& 0x3f).toInt64.toBitVec % 64) := rfl
  rw [e, h1]
  have e2 : (BitVec.ofNat 64 n % 64) = BitVec.ofNat 64 n := by
    apply BitVec.eq_of_toNat_eq
    simp [BitVec.toNat_umod]
    omega
  rw [e2]
  show x.toBitVec >>> (BitVec.ofNat 64 n).toNat = _
  congr 1
  simp
  omega
theorem own_app_lt (k j : Nat) (z : Int32) (l : List Int32) (h : j < k) : (List.replicate k z ++ l).getD j 0 = z := by
  induction k generalizing j with
  | zero => omega
  | succ k ih => cases j with
    | zero => rfl
    | succ j => exact ih j (by omega)
theorem own_app_ge (k i : Nat) (z : Int32) (l : List Int32) : (List.replicate k z ++ l).getD (k + i) 0 = l.getD i 0 := by
  induction k with
  | zero => rw [Nat.zero_add]; rfl
  | succ k ih => rw [show k + 1 + i = (k + i) + 1 by omega]; exact ih
theorem own_at_lt (k j : Nat) (w : Int64) (z : Int32) (h : j < k) : own_at k j w z = z := by
  unfold own_at own_raw
  exact own_app_lt k j z _ h
theorem own_at_ge (k j : Nat) (w : Int64) (z : Int32) (h : k ≤ j) (h2 : j < 14) : own_at k j w z = own_bv (j - k) w z := by
  obtain ⟨i, rfl⟩ : ∃ i, j = k + i := ⟨j - k, by omega⟩
  unfold own_at own_raw
  rw [own_app_ge, own_bytes_get _ _ _ _ (by omega), Nat.add_sub_cancel_left]
def own_it : Nat → Int64 → Int64
  | 0, w => w
  | i + 1, w => own_it i (own_s w)
theorem own_it_val (i : Nat) (w : Int64) (N : Nat) (h : w.toInt = (N : Int)) : (own_it i w).toInt = ((N / 128 ^ i : Nat) : Int) := by
  induction i generalizing w N with
  | zero => show w.toInt = _; rw [h, Nat.pow_zero, Nat.div_one]
  | succ i ih =>
    show (own_it i (own_s w)).toInt = _
    have q := own_s_val w (by omega)
    rw [ih (own_s w) (N / 128) (by rw [q, h]; omega), Nat.div_div_eq_div_mul, Nat.pow_succ, Nat.mul_comm 128 (128 ^ i)]
theorem own_p128 (i : Nat) : 0 < 128 ^ i := by
  induction i with
  | zero => decide
  | succ i ih => rw [Nat.pow_succ]; omega
theorem own_it_lt {V : Int64} {N : Nat} (h : V.toInt = (N : Int)) (i : Nat) : own_it i V < (128 : Int64) ↔ N < 128 ^ (i + 1) := by
  rw [own_lt128, own_it_val i V N h]
  have q := Nat.div_lt_iff_lt_mul (x := N) (y := 128) (own_p128 i)
  rw [Nat.pow_succ, Nat.mul_comm (128 ^ i) 128, ← q]
  generalize N / 128 ^ i = M
  omega
theorem own_it_nn {V : Int64} {N : Nat} (h : V.toInt = (N : Int)) (i : Nat) : 0 ≤ (own_it i V).toInt := by
  rw [own_it_val i V N h]
  exact Int.natCast_nonneg _
theorem own_s_bits (w : Int64) : (own_s w).toBitVec = w.toBitVec >>> 7 := own_shr (x := w) (k := (7 : Int32)) (n := 7) (by decide) (by decide)
theorem own_it_bits (i : Nat) (V : Int64) : (own_it i V).toBitVec = V.toBitVec >>> (7 * i) := by
  induction i generalizing V with
  | zero => show V.toBitVec = _; simp
  | succ i ih =>
    show (own_it i (own_s V)).toBitVec = _
    rw [ih, own_s_bits, ← BitVec.shiftRight_add, show 7 * (i + 1) = 7 + 7 * i by omega]
theorem own_bv_lt (i : Nat) (w : Int64) (z : Int32) (h : ∀ q, q < i → ¬ own_it q w < (128 : Int64)) : own_bv i w z = if own_it i w < (128 : Int64) then own_lo (own_it i w) else own_hi (own_it i w) := by
  induction i generalizing w with
  | zero => rfl
  | succ i ih =>
    have h0 : ¬ w < (128 : Int64) := h 0 (by omega)
    show (if w < (128 : Int64) then z else own_bv i (own_s w) z) = _
    rw [if_neg h0, ih (own_s w) (fun q hq => h (q + 1) (by omega))]
    rfl
theorem own_bv_z (i : Nat) (w : Int64) (z : Int32) (q : Nat) (hq : q < i) (h : own_it q w < (128 : Int64)) : own_bv i w z = z := by
  induction i generalizing w q with
  | zero => omega
  | succ i ih =>
    show (if w < (128 : Int64) then z else own_bv i (own_s w) z) = _
    by_cases h0 : w < (128 : Int64)
    · rw [if_pos h0]
    · rw [if_neg h0]
      cases q with
      | zero => exact absurd h h0
      | succ q => exact ih (own_s w) q (by omega) h
theorem own_facts {V : Int64} (h : 0 ≤ V.toInt) : ∃ L : Nat, 1 ≤ L ∧ L ≤ 9 ∧ own_len V = Int32.ofNat L ∧ (∀ i, i + 1 < L → ¬ own_it i V < (128 : Int64)) ∧ own_it (L - 1) V < (128 : Int64) := by
  obtain ⟨N, hN⟩ : ∃ N : Nat, V.toInt = (N : Int) := ⟨V.toInt.toNat, by omega⟩
  have cl : ∀ (c : Int64) (n : Nat), c.toInt = (n : Int) → (V < c ↔ N < n) := by
    intro c n hc
    rw [Int64.lt_iff_toInt_lt, hc, hN]; omega
  have fin : ∀ L, 1 ≤ L → L ≤ 9 → (L = 1 ∨ 128 ^ (L - 1) ≤ N) → N < 128 ^ L → own_len V = Int32.ofNat L → ∃ L : Nat, 1 ≤ L ∧ L ≤ 9 ∧ own_len V = Int32.ofNat L ∧ (∀ i, i + 1 < L → ¬ own_it i V < (128 : Int64)) ∧ own_it (L - 1) V < (128 : Int64) := by
    intro L l1 l9 hl hr he
    refine ⟨L, l1, l9, he, fun i hi => ?_, ?_⟩
    · rw [own_it_lt hN]
      have p : 128 ^ (i + 1) ≤ 128 ^ (L - 1) := Nat.pow_le_pow_right (by decide) (by omega)
      rcases hl with q | q
      · omega
      · exact Nat.not_lt.mpr (Nat.le_trans p q)
    · rw [own_it_lt hN, show L - 1 + 1 = L by omega]; exact hr
  by_cases c1 : V < (128 : Int64)
  · exact fin 1 (by decide) (by decide) (Or.inl rfl) ((cl (128 : Int64) (128 ^ 1) (by decide +kernel)).mp c1) (by unfold own_len; rw [if_pos c1]; rfl)
  by_cases c2 : V < (16384 : Int64)
  · exact fin 2 (by decide) (by decide) (Or.inr (Nat.not_lt.mp fun q => c1 ((cl (128 : Int64) (128 ^ 1) (by decide +kernel)).mpr q))) ((cl (16384 : Int64) (128 ^ 2) (by decide +kernel)).mp c2) (by unfold own_len; rw [if_neg c1, if_pos c2]; rfl)
  by_cases c3 : V < (2097152 : Int64)
  · exact fin 3 (by decide) (by decide) (Or.inr (Nat.not_lt.mp fun q => c2 ((cl (16384 : Int64) (128 ^ 2) (by decide +kernel)).mpr q))) ((cl (2097152 : Int64) (128 ^ 3) (by decide +kernel)).mp c3) (by unfold own_len; rw [if_neg c1, if_neg c2, if_pos c3]; rfl)
  by_cases c4 : V < (268435456 : Int64)
  · exact fin 4 (by decide) (by decide) (Or.inr (Nat.not_lt.mp fun q => c3 ((cl (2097152 : Int64) (128 ^ 3) (by decide +kernel)).mpr q))) ((cl (268435456 : Int64) (128 ^ 4) (by decide +kernel)).mp c4) (by unfold own_len; rw [if_neg c1, if_neg c2, if_neg c3, if_pos c4]; rfl)
  by_cases c5 : V < (34359738368 : Int64)
  · exact fin 5 (by decide) (by decide) (Or.inr (Nat.not_lt.mp fun q => c4 ((cl (268435456 : Int64) (128 ^ 4) (by decide +kernel)).mpr q))) ((cl (34359738368 : Int64) (128 ^ 5) (by decide +kernel)).mp c5) (by unfold own_len; rw [if_neg c1, if_neg c2, if_neg c3, if_neg c4, if_pos c5]; rfl)
  by_cases c6 : V < (4398046511104 : Int64)
  · exact fin 6 (by decide) (by decide) (Or.inr (Nat.not_lt.mp fun q => c5 ((cl (34359738368 : Int64) (128 ^ 5) (by decide +kernel)).mpr q))) ((cl (4398046511104 : Int64) (128 ^ 6) (by decide +kernel)).mp c6) (by unfold own_len; rw [if_neg c1, if_neg c2, if_neg c3, if_neg c4, if_neg c5, if_pos c6]; rfl)
  by_cases c7 : V < (562949953421312 : Int64)
  · exact fin 7 (by decide) (by decide) (Or.inr (Nat.not_lt.mp fun q => c6 ((cl (4398046511104 : Int64) (128 ^ 6) (by decide +kernel)).mpr q))) ((cl (562949953421312 : Int64) (128 ^ 7) (by decide +kernel)).mp c7) (by unfold own_len; rw [if_neg c1, if_neg c2, if_neg c3, if_neg c4, if_neg c5, if_neg c6, if_pos c7]; rfl)
  by_cases c8 : V < (72057594037927936 : Int64)
  · exact fin 8 (by decide) (by decide) (Or.inr (Nat.not_lt.mp fun q => c7 ((cl (562949953421312 : Int64) (128 ^ 7) (by decide +kernel)).mpr q))) ((cl (72057594037927936 : Int64) (128 ^ 8) (by decide +kernel)).mp c8) (by unfold own_len; rw [if_neg c1, if_neg c2, if_neg c3, if_neg c4, if_neg c5, if_neg c6, if_neg c7, if_pos c8]; rfl)
  have r := rng64 V
  have e9 : (128 ^ 9 : Nat) = 9223372036854775808 := by decide +kernel
  exact fin 9 (by decide) (by decide) (Or.inr (Nat.not_lt.mp fun q => c8 ((cl (72057594037927936 : Int64) (128 ^ 8) (by decide +kernel)).mpr q))) (by rw [e9]; omega) (by unfold own_len; rw [if_neg c1, if_neg c2, if_neg c3, if_neg c4, if_neg c5, if_neg c6, if_neg c7, if_neg c8]; rfl)
theorem own_b8 {x y : Int32} (h : ∀ i, i < 8 → x.toBitVec.getLsbD i = y.toBitVec.getLsbD i) : x.toInt8 = y.toInt8 := by
  apply Int8.toBitVec_inj.mp
  have e : ∀ z : Int32, z.toInt8.toBitVec = z.toBitVec.signExtend 8 := fun _ => rfl
  rw [e, e]
  apply BitVec.eq_of_getLsbD_eq
  intro i hi
  rw [BitVec.getLsbD_signExtend, BitVec.getLsbD_signExtend, if_pos (show i < 32 by omega), if_pos (show i < 32 by omega), h i hi]
theorem own_l2ib (w : Int64) (i : Nat) (hi : i < 8) : w.toInt32.toBitVec.getLsbD i = w.toBitVec.getLsbD i := by
  have e : w.toInt32.toBitVec = w.toBitVec.signExtend 32 := rfl
  rw [e]
  rw [BitVec.getLsbD_signExtend, if_pos (show i < 64 by omega), decide_eq_true (show i < 32 by omega), Bool.true_and]
theorem own_b127 : ∀ i, i < 8 → (127 : Int64).toBitVec.getLsbD i = decide (i < 7) := by decide +kernel
theorem own_b128L : ∀ i, i < 8 → (128 : Int64).toBitVec.getLsbD i = decide (i = 7) := by decide +kernel
theorem own_b128I : ∀ i, i < 8 → (128 : Int32).toBitVec.getLsbD i = decide (i = 7) := by decide +kernel
theorem own_t8 (b : Int8) : b.toInt32.toInt8 = b := by simp
theorem own_hi_eq (w : Int64) : own_hi w = ((((w &&& (127 : Int64)).toInt32) ||| (128 : Int32)).toInt8.toInt32) := by
  unfold own_hi
  rw [own_t8]
  congr 1
  apply own_b8
  intro i hi
  rw [own_l2ib _ i hi, Int64.toBitVec_or, BitVec.getLsbD_or, Int32.toBitVec_or, BitVec.getLsbD_or, own_l2ib _ i hi, Int64.toBitVec_and, BitVec.getLsbD_and, own_b127 i hi, own_b128L i hi, own_b128I i hi]
  by_cases q : i < 7
  · simp [q]
  · have e : i = 7 := by omega
    simp [e]
theorem own_lo_eq (w : Int64) (h : w < (128 : Int64)) (h0 : 0 ≤ w.toInt) : own_lo w = (((w &&& (127 : Int64)).toInt32).toInt8.toInt32) := by
  have q := c_maskL w (127 : Int64) 7 (by decide) (by decide)
  have e : ((2 ^ 7 : Nat) : Int) = 128 := by decide
  rw [e] at q
  rw [own_lt128] at h
  have e2 : w &&& (127 : Int64) = w := by
    rw [← Int64.toInt_inj]; omega
  rw [e2]
  unfold own_lo
  rw [own_t8]
theorem own_neg : ∀ k, k < 4 → ∀ j, j < k → Int32.ofNat j - Int32.ofNat k < (0 : Int32) := by decide +kernel
theorem own_sub : ∀ k, k < 4 → ∀ j, j < 14 → k ≤ j → Int32.ofNat j - Int32.ofNat k = Int32.ofNat (j - k) := by decide +kernel
theorem own_nn : ∀ i, i < 14 → ¬ Int32.ofNat i < (0 : Int32) := by decide +kernel
theorem own_olt : ∀ i, i < 14 → ∀ L, L < 14 → (Int32.ofNat i < Int32.ofNat L ↔ i < L) := by decide +kernel
theorem own_olt1 : ∀ i, i < 14 → ∀ L, L < 14 → 1 ≤ L → (Int32.ofNat i < Int32.ofNat L - (1 : Int32) ↔ i + 1 < L) := by decide +kernel
theorem own_mul7 : ∀ i, i < 14 → ((7 : Int32) * Int32.ofNat i).toInt = ((7 * i : Nat) : Int) := by decide +kernel
theorem own_chk_i {V : Int64} {zz sv : Int32} (hV : 0 ≤ V.toInt) (hz : zz = sv) (x1 x2 : Int32) (i : Nat) (hi : i < 14) (ed : x1 - x2 = Int32.ofNat i) : own_chk x1 x2 V (own_len V) sv (own_bv i V zz) = 1 := by
  obtain ⟨L, l1, l9, eL, hlt, hlast⟩ := own_facts hV
  obtain ⟨N, hN⟩ : ∃ N : Nat, V.toInt = (N : Int) := ⟨V.toInt.toNat, by omega⟩
  unfold own_chk
  rw [ed, eL, if_neg (own_nn i hi)]
  by_cases hiL : i < L
  · rw [if_pos ((own_olt i hi L (by omega)).mpr hiL)]
    have ew : ((V.toUInt64 >>> (((7 : Int32) * Int32.ofNat i) &&& 0x3f).toInt64.toUInt64).toInt64) = own_it i V := by
      apply Int64.toBitVec_inj.mp
      rw [own_it_bits, own_shr (own_mul7 i hi) (by omega)]
    rw [ew]
    by_cases hl : i + 1 < L
    · rw [if_pos ((own_olt1 i hi L (by omega) l1).mpr hl), own_bv_lt i V zz (fun q hq => hlt q (by omega)), if_neg (hlt i hl)]
      unfold own_chk_65
      rw [own_hi_eq, if_pos rfl]
    · have e : L - 1 = i := by omega
      rw [e] at hlast
      rw [if_neg (fun q => hl ((own_olt1 i hi L (by omega) l1).mp q)), own_bv_lt i V zz (fun q hq => hlt q (by omega)), if_pos hlast]
      unfold own_chk_65
      rw [own_lo_eq _ hlast (own_it_nn hN i), if_pos rfl]
  · rw [if_neg (fun q => hiL ((own_olt i hi L (by omega)).mp q)), own_bv_z i V zz (L - 1) (by omega) hlast]
    unfold own_chk_17
    rw [if_pos hz]
theorem own_chk_ok {V : Int64} {zz sv : Int32} (hV : 0 ≤ V.toInt) (hz : (sv.toInt8.toInt32) = zz ∧ zz = sv) (k j : Nat) (hk : k < 4) (hj : j < 14) : own_chk (Int32.ofNat j) (Int32.ofNat k) V (own_len V) sv (own_at k j V zz) = 1 := by
  by_cases hjk : j < k
  · rw [own_at_lt k j V zz hjk]
    unfold own_chk
    rw [if_pos (own_neg k hk j hjk)]
    unfold own_chk_17
    rw [if_pos hz.2]
  · rw [own_at_ge k j V zz (by omega) hj]
    exact own_chk_i hV hz.2 _ _ (j - k) (by omega) (own_sub k hk j hj (by omega))

theorem pn0 : plainName "com/example/skorr/skorr/index/IndexFormatWriteVarintPinLaw" = true := by first | (simp [plainName, overriddenIn]; done) | decide +kernel
theorem pd_0 : parseMethodDescriptor "(J)I" = some ⟨[.long], some .int⟩ := by decide +kernel
theorem pd_1 : parseMethodDescriptor "(J[BI)I" = some ⟨[.long, (.array .byte), .int], some .int⟩ := by decide +kernel
theorem pd_2 : parseMethodDescriptor "([BIIJIB)Z" = some ⟨[(.array .byte), .int, .int, .long, .int, .byte], some .boolean⟩ := by decide +kernel
theorem ef0 (m : MethodId) (z0 : Int64) (z1 : Int32) (z2 : Int32) (z3 : Int32) : entryFrame m #[(.long z0), (.int z1), (.int z2), (.int z3)] maxLocals = mkF m 0 #[.val (.long z0), .second, .val (.int z1), .val (.int z2), .val (.int z3), .unset, .unset, .unset, .unset, .unset, .unset, .unset, .unset] [] := by first | (simp [entryFrame, mkF, argsToLocals, Value.category, maxLocals]; done) | rfl
def Q0 (Z : State) (x0 : Int64) (x1 : Int32) (x2 : Int32) (x3 : Int32) (h0 : Heap) (n0 : Nat) (v : Option Value) (h : Heap) (L : List Loc) : Prop := v = some (.int 1) ∧ Fr n0 L
set_option maxRecDepth 65536 in
set_option maxHeartbeats 40000000 in
theorem rm0 (l : Launch) (Z : State) (a0 : Array Value) (hw : ∀ d ∈ tables_1, d.before a0 Z = true) (ws : List Jvm.Cond) (x0 : Int64) (x1 : Int32) (x2 : Int32) (x3 : Int32) (h0 : Heap) (n0 : Nat) (Z0 : n0 ≤ h0.size) :
    MetFree l x (head1 (Jvm.Cond.code x code maxLocals ret :: ws) room_1) (fun ag U => ag = #[(.long x0), (.int x1), (.int x2), (.int x3)] ∧ Z.Warmed39 U.vm ∧ U.heap = h0) (fun _ _ _ _ _ => True) (fun _ U oc U' => ∃ v L, oc = .returned v ∧ Q0 Z x0 x1 x2 x3 h0 n0 v U'.heap L ∧ FrameEnd U oc U' L room_1.cells room_1.slots) := by
  refine MetFree.of_bodySF (plainFor_of_name pn0) hisR ?_
  intro p e s m args below meth c s₁ Bd hml0 hP hK
  obtain ⟨rfl, hZ, hh⟩ := hP
  have hx := Bd.exec
  have hby := Bd.bytes
  have hml : c.maxLocals = 13 := hml0
  have hown : s.vm.findClass "com/example/skorr/skorr/index/IndexFormatWriteVarintPinLaw" = some m.cls := findClass_of_methodNamed Bd.named
  have hnm := (name_of_methodNamed Bd.named Bd.method).1
  have X0 : Stand p l e room_1 s m #[(.long x0), (.int x1), (.int x2), (.int x3)] below meth c s₁ [] 0 0 := Stand.of_body Bd
  have e0 : s₁.heap = h0 := by rw [← hh, Bd.state]; rfl
  have N0 := Fr.nil n0
  show own_Go p e below (fun s₂ oc => ∃ v L, oc = .returned v ∧ Q0 Z x0 x1 x2 x3 h0 n0 v s₂.heap L ∧ FrameEnd s oc s₂ L room_1.cells room_1.slots) s₁ (entryFrame m #[(.long x0), (.int x1), (.int x2), (.int x3)] maxLocals)
  refine own_Go.of (g' := mkF m 0 #[.val (.long x0), .second, .val (.int x1), .val (.int x2), .val (.int x3), .unset, .unset, .unset, .unset, .unset, .unset, .unset, .unset] []) (fun t k => castTop (ef0 m x0 x1 x2 x3) k) ?_
  refine og_lloadN (pc' := 1) X0 hx (hb hby at_0) rfl rfl ?_
  refine og_ldc2_w (pc' := 4) X0 hx (hb hby at_1) hown (mvT hZ (hw _ (List.mem_of_getElem? (i := 0) rfl))) rfl ?_
  refine og_land (pc' := 5) X0 hx (hb hby at_4) rfl ?_
  refine og_iloadN (pc' := 6) X0 hx (hb hby at_5) rfl rfl ?_
  refine og_bipush (pc' := 8) (n := 63) X0 hx (hb hby at_6) rfl rfl ?_
  refine og_iand (pc' := 9) X0 hx (hb hby at_8) rfl ?_
  refine og_lushr (pc' := 10) X0 hx (hb hby at_9) rfl ?_
  refine og_lstore (pc' := 12) (L' := #[.val (.long x0), .second, .val (.int x1), .val (.int x2), .val (.int x3), .val (.long (((x0 &&& (9223372036854775807 : Int64)).toUInt64 >>> ((x1 &&& (63 : Int32)) &&& 0x3f).toInt64.toUInt64).toInt64)), .second, .unset, .unset, .unset, .unset, .unset, .unset]) X0 hx (hb hby at_10) rfl rfl ?_
  generalize hV : (((x0 &&& (9223372036854775807 : Int64)).toUInt64 >>> ((x1 &&& (63 : Int32)) &&& 0x3f).toInt64.toUInt64).toInt64) = V
  have hV := own_pos hV
  refine og_iloadN (pc' := 13) X0 hx (hb hby at_12) rfl rfl ?_
  refine og_iconst (pc' := 14) (n := 3) X0 hx (hb hby at_13) rfl rfl ?_
  refine og_iand (pc' := 15) X0 hx (hb hby at_14) rfl ?_
  refine og_istore (pc' := 17) (L' := #[.val (.long x0), .second, .val (.int x1), .val (.int x2), .val (.int x3), .val (.long V), .second, .val (.int (x2 &&& (3 : Int32))), .unset, .unset, .unset, .unset, .unset]) X0 hx (hb hby at_15) rfl rfl ?_
  refine og_iload (pc' := 19) X0 hx (hb hby at_17) rfl rfl ?_
  refine og_i2b (pc' := 20) X0 hx (hb hby at_19) rfl ?_
  refine og_istore (pc' := 22) (L' := #[.val (.long x0), .second, .val (.int x1), .val (.int x2), .val (.int x3), .val (.long V), .second, .val (.int (x2 &&& (3 : Int32))), .val (.int (x3.toInt8.toInt32)), .unset, .unset, .unset, .unset]) X0 hx (hb hby at_20) rfl rfl ?_
  generalize hsv : (x3.toInt8.toInt32) = sv
  obtain ⟨zz, hzz⟩ : ∃ q, q = (sv.toInt8.toInt32) := ⟨_, rfl⟩
  have hzz := own_zz hsv hzz
  refine og_bipush (pc' := 24) (n := 14) X0 hx (hb hby at_22) rfl rfl ?_
  obtain ⟨T1, h1, k1, X1, e1, E1, A1, st1⟩ := newP X0 hx hZ (hw _ (List.mem_of_getElem? (i := 1) rfl)) e0 (g := (mkF m 24 #[.val (.long x0), .second, .val (.int x1), .val (.int x2), .val (.int x3), .val (.long V), .second, .val (.int (x2 &&& (3 : Int32))), .val (.int sv), .unset, .unset, .unset, .unset] [(.int (14 : Int32))])) rfl (hb hby at_24) rfl (by decide) (cap := 14) (by decide) (by decide) (by decide) (by decide)
  obtain ⟨b1, g1⟩ : ∃ z, z = h0.size := ⟨_, rfl⟩
  rw [← g1] at A1 st1
  have g_b1 : n0 ≤ b1 := Nat.le_trans Z0 (Nat.le_of_eq g1.symm)
  have sz_b1 : h0.size ≤ b1 := Nat.le_trans (Keep.refl h0 []).1 (Nat.le_of_eq g1.symm)
  have V1 : Arv Z h1 b1 k1 .byte (14 : Int32) [(.int (0 : Int32)), (.int (0 : Int32)), (.int (0 : Int32)), (.int (0 : Int32)), (.int (0 : Int32)), (.int (0 : Int32)), (.int (0 : Int32)), (.int (0 : Int32)), (.int (0 : Int32)), (.int (0 : Int32)), (.int (0 : Int32)), (.int (0 : Int32)), (.int (0 : Int32)), (.int (0 : Int32))] (.int (0 : Int32)) := (Arv.new A1 (by decide)).pad (pad_rep [] (.int (0 : Int32)) 14)
  have K1 : Keep h0 h1 [] := (Keep.refl h0 []).ext E1
  have Z1 : n0 ≤ h1.size := Nat.le_trans Z0 K1.1
  refine own_Go.of (g' := (mkF m 26 #[.val (.long x0), .second, .val (.int x1), .val (.int x2), .val (.int x3), .val (.long V), .second, .val (.int (x2 &&& (3 : Int32))), .val (.int sv), .unset, .unset, .unset, .unset] [(.ref b1)])) (fun t k => st1 _ k) ?_
  refine og_dup (pc' := 27) X1 hx (hb hby at_26) rfl rfl ?_
  refine og_iconst (pc' := 28) (n := 0) X1 hx (hb hby at_27) rfl rfl ?_
  refine og_iload (pc' := 30) X1 hx (hb hby at_28) rfl rfl ?_
  obtain ⟨cl2, Ar2, q2, S2, M2, H2, G2⟩ := id V1
  have hin2 : ¬ ((0 : Int32) < 0 ∨ cl2.slots.size ≤ ((0 : Int32)).toNatClampNeg) := inb_of S2 ⟨by decide, by decide⟩
  obtain ⟨T2, h2, X2, e2, W2, st2⟩ := stB X1 hx hZ e1 Ar2 (j := (0 : Int32)) hin2 (g := (mkF m 30 #[.val (.long x0), .second, .val (.int x1), .val (.int x2), .val (.int x3), .val (.long V), .second, .val (.int (x2 &&& (3 : Int32))), .val (.int sv), .unset, .unset, .unset, .unset] [(.int sv), (.int (0 : Int32)), (.ref b1), (.ref b1)])) rfl rfl (hb hby at_30)
  have V2 : Arv Z h2 b1 k1 .byte (14 : Int32) [(.int (sv.toInt8.toInt32)), (.int (0 : Int32)), (.int (0 : Int32)), (.int (0 : Int32)), (.int (0 : Int32)), (.int (0 : Int32)), (.int (0 : Int32)), (.int (0 : Int32)), (.int (0 : Int32)), (.int (0 : Int32)), (.int (0 : Int32)), (.int (0 : Int32)), (.int (0 : Int32)), (.int (0 : Int32))] (.int (0 : Int32)) := Arv.set Ar2 q2 S2 M2 H2 G2 (fits_nar_byte _) W2 0 rfl (Nat.le_of_ble_eq_true rfl)
  have K2 : Keep h0 h2 [] := K1.wr W2 (Or.inr sz_b1)
  have Z2 : n0 ≤ h2.size := Nat.le_trans Z0 K2.1
  have N2 := Fr.snoc X2 N0 g_b1
  obtain ⟨J2, X2, N2⟩ := own_hide X2 N2
  refine own_Go.of (g' := (mkF m 31 #[.val (.long x0), .second, .val (.int x1), .val (.int x2), .val (.int x3), .val (.long V), .second, .val (.int (x2 &&& (3 : Int32))), .val (.int sv), .unset, .unset, .unset, .unset] [(.ref b1)])) (fun t k => st2 _ k) ?_
  refine og_dup (pc' := 32) X2 hx (hb hby at_31) rfl rfl ?_
  refine og_iconst (pc' := 33) (n := 1) X2 hx (hb hby at_32) rfl rfl ?_
  refine og_iload (pc' := 35) X2 hx (hb hby at_33) rfl rfl ?_
  obtain ⟨cl3, Ar3, q3, S3, M3, H3, G3⟩ := id V2
  have hin3 : ¬ ((1 : Int32) < 0 ∨ cl3.slots.size ≤ ((1 : Int32)).toNatClampNeg) := inb_of S3 ⟨by decide, by decide⟩
  obtain ⟨T3, h3, X3, e3, W3, st3⟩ := stB X2 hx hZ e2 Ar3 (j := (1 : Int32)) hin3 (g := (mkF m 35 #[.val (.long x0), .second, .val (.int x1), .val (.int x2), .val (.int x3), .val (.long V), .second, .val (.int (x2 &&& (3 : Int32))), .val (.int sv), .unset, .unset, .unset, .unset] [(.int sv), (.int (1 : Int32)), (.ref b1), (.ref b1)])) rfl rfl (hb hby at_35)
  have V3 : Arv Z h3 b1 k1 .byte (14 : Int32) [(.int (sv.toInt8.toInt32)), (.int (sv.toInt8.toInt32)), (.int (0 : Int32)), (.int (0 : Int32)), (.int (0 : Int32)), (.int (0 : Int32)), (.int (0 : Int32)), (.int (0 : Int32)), (.int (0 : Int32)), (.int (0 : Int32)), (.int (0 : Int32)), (.int (0 : Int32)), (.int (0 : Int32)), (.int (0 : Int32))] (.int (0 : Int32)) := Arv.set Ar3 q3 S3 M3 H3 G3 (fits_nar_byte _) W3 1 rfl (Nat.le_of_ble_eq_true rfl)
  have K3 : Keep h0 h3 [] := K2.wr W3 (Or.inr sz_b1)
  have Z3 : n0 ≤ h3.size := Nat.le_trans Z0 K3.1
  have N3 := Fr.snoc X3 N2 g_b1
  obtain ⟨J3, X3, N3⟩ := own_hide X3 N3
  refine own_Go.of (g' := (mkF m 36 #[.val (.long x0), .second, .val (.int x1), .val (.int x2), .val (.int x3), .val (.long V), .second, .val (.int (x2 &&& (3 : Int32))), .val (.int sv), .unset, .unset, .unset, .unset] [(.ref b1)])) (fun t k => st3 _ k) ?_
  refine og_dup (pc' := 37) X3 hx (hb hby at_36) rfl rfl ?_
  refine og_iconst (pc' := 38) (n := 2) X3 hx (hb hby at_37) rfl rfl ?_
  refine og_iload (pc' := 40) X3 hx (hb hby at_38) rfl rfl ?_
  obtain ⟨cl4, Ar4, q4, S4, M4, H4, G4⟩ := id V3
  have hin4 : ¬ ((2 : Int32) < 0 ∨ cl4.slots.size ≤ ((2 : Int32)).toNatClampNeg) := inb_of S4 ⟨by decide, by decide⟩
  obtain ⟨T4, h4, X4, e4, W4, st4⟩ := stB X3 hx hZ e3 Ar4 (j := (2 : Int32)) hin4 (g := (mkF m 40 #[.val (.long x0), .second, .val (.int x1), .val (.int x2), .val (.int x3), .val (.long V), .second, .val (.int (x2 &&& (3 : Int32))), .val (.int sv), .unset, .unset, .unset, .unset] [(.int sv), (.int (2 : Int32)), (.ref b1), (.ref b1)])) rfl rfl (hb hby at_40)
  have V4 : Arv Z h4 b1 k1 .byte (14 : Int32) [(.int (sv.toInt8.toInt32)), (.int (sv.toInt8.toInt32)), (.int (sv.toInt8.toInt32)), (.int (0 : Int32)), (.int (0 : Int32)), (.int (0 : Int32)), (.int (0 : Int32)), (.int (0 : Int32)), (.int (0 : Int32)), (.int (0 : Int32)), (.int (0 : Int32)), (.int (0 : Int32)), (.int (0 : Int32)), (.int (0 : Int32))] (.int (0 : Int32)) := Arv.set Ar4 q4 S4 M4 H4 G4 (fits_nar_byte _) W4 2 rfl (Nat.le_of_ble_eq_true rfl)
  have K4 : Keep h0 h4 [] := K3.wr W4 (Or.inr sz_b1)
  have Z4 : n0 ≤ h4.size := Nat.le_trans Z0 K4.1
  have N4 := Fr.snoc X4 N3 g_b1
  obtain ⟨J4, X4, N4⟩ := own_hide X4 N4
  refine own_Go.of (g' := (mkF m 41 #[.val (.long x0), .second, .val (.int x1), .val (.int x2), .val (.int x3), .val (.long V), .second, .val (.int (x2 &&& (3 : Int32))), .val (.int sv), .unset, .unset, .unset, .unset] [(.ref b1)])) (fun t k => st4 _ k) ?_
  refine og_dup (pc' := 42) X4 hx (hb hby at_41) rfl rfl ?_
  refine og_iconst (pc' := 43) (n := 3) X4 hx (hb hby at_42) rfl rfl ?_
  refine og_iload (pc' := 45) X4 hx (hb hby at_43) rfl rfl ?_
  obtain ⟨cl5, Ar5, q5, S5, M5, H5, G5⟩ := id V4
  have hin5 : ¬ ((3 : Int32) < 0 ∨ cl5.slots.size ≤ ((3 : Int32)).toNatClampNeg) := inb_of S5 ⟨by decide, by decide⟩
  obtain ⟨T5, h5, X5, e5, W5, st5⟩ := stB X4 hx hZ e4 Ar5 (j := (3 : Int32)) hin5 (g := (mkF m 45 #[.val (.long x0), .second, .val (.int x1), .val (.int x2), .val (.int x3), .val (.long V), .second, .val (.int (x2 &&& (3 : Int32))), .val (.int sv), .unset, .unset, .unset, .unset] [(.int sv), (.int (3 : Int32)), (.ref b1), (.ref b1)])) rfl rfl (hb hby at_45)
  have V5 : Arv Z h5 b1 k1 .byte (14 : Int32) [(.int (sv.toInt8.toInt32)), (.int (sv.toInt8.toInt32)), (.int (sv.toInt8.toInt32)), (.int (sv.toInt8.toInt32)), (.int (0 : Int32)), (.int (0 : Int32)), (.int (0 : Int32)), (.int (0 : Int32)), (.int (0 : Int32)), (.int (0 : Int32)), (.int (0 : Int32)), (.int (0 : Int32)), (.int (0 : Int32)), (.int (0 : Int32))] (.int (0 : Int32)) := Arv.set Ar5 q5 S5 M5 H5 G5 (fits_nar_byte _) W5 3 rfl (Nat.le_of_ble_eq_true rfl)
  have K5 : Keep h0 h5 [] := K4.wr W5 (Or.inr sz_b1)
  have Z5 : n0 ≤ h5.size := Nat.le_trans Z0 K5.1
  have N5 := Fr.snoc X5 N4 g_b1
  obtain ⟨J5, X5, N5⟩ := own_hide X5 N5
  refine own_Go.of (g' := (mkF m 46 #[.val (.long x0), .second, .val (.int x1), .val (.int x2), .val (.int x3), .val (.long V), .second, .val (.int (x2 &&& (3 : Int32))), .val (.int sv), .unset, .unset, .unset, .unset] [(.ref b1)])) (fun t k => st5 _ k) ?_
  refine og_dup (pc' := 47) X5 hx (hb hby at_46) rfl rfl ?_
  refine og_iconst (pc' := 48) (n := 4) X5 hx (hb hby at_47) rfl rfl ?_
  refine og_iload (pc' := 50) X5 hx (hb hby at_48) rfl rfl ?_
  obtain ⟨cl6, Ar6, q6, S6, M6, H6, G6⟩ := id V5
  have hin6 : ¬ ((4 : Int32) < 0 ∨ cl6.slots.size ≤ ((4 : Int32)).toNatClampNeg) := inb_of S6 ⟨by decide, by decide⟩
  obtain ⟨T6, h6, X6, e6, W6, st6⟩ := stB X5 hx hZ e5 Ar6 (j := (4 : Int32)) hin6 (g := (mkF m 50 #[.val (.long x0), .second, .val (.int x1), .val (.int x2), .val (.int x3), .val (.long V), .second, .val (.int (x2 &&& (3 : Int32))), .val (.int sv), .unset, .unset, .unset, .unset] [(.int sv), (.int (4 : Int32)), (.ref b1), (.ref b1)])) rfl rfl (hb hby at_50)
  have V6 : Arv Z h6 b1 k1 .byte (14 : Int32) [(.int (sv.toInt8.toInt32)), (.int (sv.toInt8.toInt32)), (.int (sv.toInt8.toInt32)), (.int (sv.toInt8.toInt32)), (.int (sv.toInt8.toInt32)), (.int (0 : Int32)), (.int (0 : Int32)), (.int (0 : Int32)), (.int (0 : Int32)), (.int (0 : Int32)), (.int (0 : Int32)), (.int (0 : Int32)), (.int (0 : Int32)), (.int (0 : Int32))] (.int (0 : Int32)) := Arv.set Ar6 q6 S6 M6 H6 G6 (fits_nar_byte _) W6 4 rfl (Nat.le_of_ble_eq_true rfl)
  have K6 : Keep h0 h6 [] := K5.wr W6 (Or.inr sz_b1)
  have Z6 : n0 ≤ h6.size := Nat.le_trans Z0 K6.1
  have N6 := Fr.snoc X6 N5 g_b1
  obtain ⟨J6, X6, N6⟩ := own_hide X6 N6
  refine own_Go.of (g' := (mkF m 51 #[.val (.long x0), .second, .val (.int x1), .val (.int x2), .val (.int x3), .val (.long V), .second, .val (.int (x2 &&& (3 : Int32))), .val (.int sv), .unset, .unset, .unset, .unset] [(.ref b1)])) (fun t k => st6 _ k) ?_
  refine og_dup (pc' := 52) X6 hx (hb hby at_51) rfl rfl ?_
  refine og_iconst (pc' := 53) (n := 5) X6 hx (hb hby at_52) rfl rfl ?_
  refine og_iload (pc' := 55) X6 hx (hb hby at_53) rfl rfl ?_
  obtain ⟨cl7, Ar7, q7, S7, M7, H7, G7⟩ := id V6
  have hin7 : ¬ ((5 : Int32) < 0 ∨ cl7.slots.size ≤ ((5 : Int32)).toNatClampNeg) := inb_of S7 ⟨by decide, by decide⟩
  obtain ⟨T7, h7, X7, e7, W7, st7⟩ := stB X6 hx hZ e6 Ar7 (j := (5 : Int32)) hin7 (g := (mkF m 55 #[.val (.long x0), .second, .val (.int x1), .val (.int x2), .val (.int x3), .val (.long V), .second, .val (.int (x2 &&& (3 : Int32))), .val (.int sv), .unset, .unset, .unset, .unset] [(.int sv), (.int (5 : Int32)), (.ref b1), (.ref b1)])) rfl rfl (hb hby at_55)
  have V7 : Arv Z h7 b1 k1 .byte (14 : Int32) [(.int (sv.toInt8.toInt32)), (.int (sv.toInt8.toInt32)), (.int (sv.toInt8.toInt32)), (.int (sv.toInt8.toInt32)), (.int (sv.toInt8.toInt32)), (.int (sv.toInt8.toInt32)), (.int (0 : Int32)), (.int (0 : Int32)), (.int (0 : Int32)), (.int (0 : Int32)), (.int (0 : Int32)), (.int (0 : Int32)), (.int (0 : Int32)), (.int (0 : Int32))] (.int (0 : Int32)) := Arv.set Ar7 q7 S7 M7 H7 G7 (fits_nar_byte _) W7 5 rfl (Nat.le_of_ble_eq_true rfl)
  have K7 : Keep h0 h7 [] := K6.wr W7 (Or.inr sz_b1)
  have Z7 : n0 ≤ h7.size := Nat.le_trans Z0 K7.1
  have N7 := Fr.snoc X7 N6 g_b1
  obtain ⟨J7, X7, N7⟩ := own_hide X7 N7
  refine own_Go.of (g' := (mkF m 56 #[.val (.long x0), .second, .val (.int x1), .val (.int x2), .val (.int x3), .val (.long V), .second, .val (.int (x2 &&& (3 : Int32))), .val (.int sv), .unset, .unset, .unset, .unset] [(.ref b1)])) (fun t k => st7 _ k) ?_
  refine og_dup (pc' := 57) X7 hx (hb hby at_56) rfl rfl ?_
  refine og_bipush (pc' := 59) (n := 6) X7 hx (hb hby at_57) rfl rfl ?_
  refine og_iload (pc' := 61) X7 hx (hb hby at_59) rfl rfl ?_
  obtain ⟨cl8, Ar8, q8, S8, M8, H8, G8⟩ := id V7
  have hin8 : ¬ ((6 : Int32) < 0 ∨ cl8.slots.size ≤ ((6 : Int32)).toNatClampNeg) := inb_of S8 ⟨by decide, by decide⟩
  obtain ⟨T8, h8, X8, e8, W8, st8⟩ := stB X7 hx hZ e7 Ar8 (j := (6 : Int32)) hin8 (g := (mkF m 61 #[.val (.long x0), .second, .val (.int x1), .val (.int x2), .val (.int x3), .val (.long V), .second, .val (.int (x2 &&& (3 : Int32))), .val (.int sv), .unset, .unset, .unset, .unset] [(.int sv), (.int (6 : Int32)), (.ref b1), (.ref b1)])) rfl rfl (hb hby at_61)
  have V8 : Arv Z h8 b1 k1 .byte (14 : Int32) [(.int (sv.toInt8.toInt32)), (.int (sv.toInt8.toInt32)), (.int (sv.toInt8.toInt32)), (.int (sv.toInt8.toInt32)), (.int (sv.toInt8.toInt32)), (.int (sv.toInt8.toInt32)), (.int (sv.toInt8.toInt32)), (.int (0 : Int32)), (.int (0 : Int32)), (.int (0 : Int32)), (.int (0 : Int32)), (.int (0 : Int32)), (.int (0 : Int32)), (.int (0 : Int32))] (.int (0 : Int32)) := Arv.set Ar8 q8 S8 M8 H8 G8 (fits_nar_byte _) W8 6 rfl (Nat.le_of_ble_eq_true rfl)
  have K8 : Keep h0 h8 [] := K7.wr W8 (Or.inr sz_b1)
  have Z8 : n0 ≤ h8.size := Nat.le_trans Z0 K8.1
  have N8 := Fr.snoc X8 N7 g_b1
  obtain ⟨J8, X8, N8⟩ := own_hide X8 N8
  refine own_Go.of (g' := (mkF m 62 #[.val (.long x0), .second, .val (.int x1), .val (.int x2), .val (.int x3), .val (.long V), .second, .val (.int (x2 &&& (3 : Int32))), .val (.int sv), .unset, .unset, .unset, .unset] [(.ref b1)])) (fun t k => st8 _ k) ?_
  refine og_dup (pc' := 63) X8 hx (hb hby at_62) rfl rfl ?_
  refine og_bipush (pc' := 65) (n := 7) X8 hx (hb hby at_63) rfl rfl ?_
  refine og_iload (pc' := 67) X8 hx (hb hby at_65) rfl rfl ?_
  obtain ⟨cl9, Ar9, q9, S9, M9, H9, G9⟩ := id V8
  have hin9 : ¬ ((7 : Int32) < 0 ∨ cl9.slots.size ≤ ((7 : Int32)).toNatClampNeg) := inb_of S9 ⟨by decide, by decide⟩
  obtain ⟨T9, h9, X9, e9, W9, st9⟩ := stB X8 hx hZ e8 Ar9 (j := (7 : Int32)) hin9 (g := (mkF m 67 #[.val (.long x0), .second, .val (.int x1), .val (.int x2), .val (.int x3), .val (.long V), .second, .val (.int (x2 &&& (3 : Int32))), .val (.int sv), .unset, .unset, .unset, .unset] [(.int sv), (.int (7 : Int32)), (.ref b1), (.ref b1)])) rfl rfl (hb hby at_67)
  have V9 : Arv Z h9 b1 k1 .byte (14 : Int32) [(.int (sv.toInt8.toInt32)), (.int (sv.toInt8.toInt32)), (.int (sv.toInt8.toInt32)), (.int (sv.toInt8.toInt32)), (.int (sv.toInt8.toInt32)), (.int (sv.toInt8.toInt32)), (.int (sv.toInt8.toInt32)), (.int (sv.toInt8.toInt32)), (.int (0 : Int32)), (.int (0 : Int32)), (.int (0 : Int32)), (.int (0 : Int32)), (.int (0 : Int32)), (.int (0 : Int32))] (.int (0 : Int32)) := Arv.set Ar9 q9 S9 M9 H9 G9 (fits_nar_byte _) W9 7 rfl (Nat.le_of_ble_eq_true rfl)
  have K9 : Keep h0 h9 [] := K8.wr W9 (Or.inr sz_b1)
  have Z9 : n0 ≤ h9.size := Nat.le_trans Z0 K9.1
  have N9 := Fr.snoc X9 N8 g_b1
  obtain ⟨J9, X9, N9⟩ := own_hide X9 N9
  refine own_Go.of (g' := (mkF m 68 #[.val (.long x0), .second, .val (.int x1), .val (.int x2), .val (.int x3), .val (.long V), .second, .val (.int (x2 &&& (3 : Int32))), .val (.int sv), .unset, .unset, .unset, .unset] [(.ref b1)])) (fun t k => st9 _ k) ?_
  refine og_dup (pc' := 69) X9 hx (hb hby at_68) rfl rfl ?_
  refine og_bipush (pc' := 71) (n := 8) X9 hx (hb hby at_69) rfl rfl ?_
  refine og_iload (pc' := 73) X9 hx (hb hby at_71) rfl rfl ?_
  obtain ⟨cl10, Ar10, q10, S10, M10, H10, G10⟩ := id V9
  have hin10 : ¬ ((8 : Int32) < 0 ∨ cl10.slots.size ≤ ((8 : Int32)).toNatClampNeg) := inb_of S10 ⟨by decide, by decide⟩
  obtain ⟨T10, h10, X10, e10, W10, st10⟩ := stB X9 hx hZ e9 Ar10 (j := (8 : Int32)) hin10 (g := (mkF m 73 #[.val (.long x0), .second, .val (.int x1), .val (.int x2), .val (.int x3), .val (.long V), .second, .val (.int (x2 &&& (3 : Int32))), .val (.int sv), .unset, .unset, .unset, .unset] [(.int sv), (.int (8 : Int32)), (.ref b1), (.ref b1)])) rfl rfl (hb hby at_73)
  have V10 : Arv Z h10 b1 k1 .byte (14 : Int32) [(.int (sv.toInt8.toInt32)), (.int (sv.toInt8.toInt32)), (.int (sv.toInt8.toInt32)), (.int (sv.toInt8.toInt32)), (.int (sv.toInt8.toInt32)), (.int (sv.toInt8.toInt32)), (.int (sv.toInt8.toInt32)), (.int (sv.toInt8.toInt32)), (.int (sv.toInt8.toInt32)), (.int (0 : Int32)), (.int (0 : Int32)), (.int (0 : Int32)), (.int (0 : Int32)), (.int (0 : Int32))] (.int (0 : Int32)) := Arv.set Ar10 q10 S10 M10 H10 G10 (fits_nar_byte _) W10 8 rfl (Nat.le_of_ble_eq_true rfl)
  have K10 : Keep h0 h10 [] := K9.wr W10 (Or.inr sz_b1)
  have Z10 : n0 ≤ h10.size := Nat.le_trans Z0 K10.1
  have N10 := Fr.snoc X10 N9 g_b1
  obtain ⟨J10, X10, N10⟩ := own_hide X10 N10
  refine own_Go.of (g' := (mkF m 74 #[.val (.long x0), .second, .val (.int x1), .val (.int x2), .val (.int x3), .val (.long V), .second, .val (.int (x2 &&& (3 : Int32))), .val (.int sv), .unset, .unset, .unset, .unset] [(.ref b1)])) (fun t k => st10 _ k) ?_
  refine og_dup (pc' := 75) X10 hx (hb hby at_74) rfl rfl ?_
  refine og_bipush (pc' := 77) (n := 9) X10 hx (hb hby at_75) rfl rfl ?_
  refine og_iload (pc' := 79) X10 hx (hb hby at_77) rfl rfl ?_
  obtain ⟨cl11, Ar11, q11, S11, M11, H11, G11⟩ := id V10
  have hin11 : ¬ ((9 : Int32) < 0 ∨ cl11.slots.size ≤ ((9 : Int32)).toNatClampNeg) := inb_of S11 ⟨by decide, by decide⟩
  obtain ⟨T11, h11, X11, e11, W11, st11⟩ := stB X10 hx hZ e10 Ar11 (j := (9 : Int32)) hin11 (g := (mkF m 79 #[.val (.long x0), .second, .val (.int x1), .val (.int x2), .val (.int x3), .val (.long V), .second, .val (.int (x2 &&& (3 : Int32))), .val (.int sv), .unset, .unset, .unset, .unset] [(.int sv), (.int (9 : Int32)), (.ref b1), (.ref b1)])) rfl rfl (hb hby at_79)
  have V11 : Arv Z h11 b1 k1 .byte (14 : Int32) [(.int (sv.toInt8.toInt32)), (.int (sv.toInt8.toInt32)), (.int (sv.toInt8.toInt32)), (.int (sv.toInt8.toInt32)), (.int (sv.toInt8.toInt32)), (.int (sv.toInt8.toInt32)), (.int (sv.toInt8.toInt32)), (.int (sv.toInt8.toInt32)), (.int (sv.toInt8.toInt32)), (.int (sv.toInt8.toInt32)), (.int (0 : Int32)), (.int (0 : Int32)), (.int (0 : Int32)), (.int (0 : Int32))] (.int (0 : Int32)) := Arv.set Ar11 q11 S11 M11 H11 G11 (fits_nar_byte _) W11 9 rfl (Nat.le_of_ble_eq_true rfl)
  have K11 : Keep h0 h11 [] := K10.wr W11 (Or.inr sz_b1)
  have Z11 : n0 ≤ h11.size := Nat.le_trans Z0 K11.1
  have N11 := Fr.snoc X11 N10 g_b1
  obtain ⟨J11, X11, N11⟩ := own_hide X11 N11
  refine own_Go.of (g' := (mkF m 80 #[.val (.long x0), .second, .val (.int x1), .val (.int x2), .val (.int x3), .val (.long V), .second, .val (.int (x2 &&& (3 : Int32))), .val (.int sv), .unset, .unset, .unset, .unset] [(.ref b1)])) (fun t k => st11 _ k) ?_
  refine og_dup (pc' := 81) X11 hx (hb hby at_80) rfl rfl ?_
  refine og_bipush (pc' := 83) (n := 10) X11 hx (hb hby at_81) rfl rfl ?_
  refine og_iload (pc' := 85) X11 hx (hb hby at_83) rfl rfl ?_
  obtain ⟨cl12, Ar12, q12, S12, M12, H12, G12⟩ := id V11
  have hin12 : ¬ ((10 : Int32) < 0 ∨ cl12.slots.size ≤ ((10 : Int32)).toNatClampNeg) := inb_of S12 ⟨by decide, by decide⟩
  obtain ⟨T12, h12, X12, e12, W12, st12⟩ := stB X11 hx hZ e11 Ar12 (j := (10 : Int32)) hin12 (g := (mkF m 85 #[.val (.long x0), .second, .val (.int x1), .val (.int x2), .val (.int x3), .val (.long V), .second, .val (.int (x2 &&& (3 : Int32))), .val (.int sv), .unset, .unset, .unset, .unset] [(.int sv), (.int (10 : Int32)), (.ref b1), (.ref b1)])) rfl rfl (hb hby at_85)
  have V12 : Arv Z h12 b1 k1 .byte (14 : Int32) [(.int (sv.toInt8.toInt32)), (.int (sv.toInt8.toInt32)), (.int (sv.toInt8.toInt32)), (.int (sv.toInt8.toInt32)), (.int (sv.toInt8.toInt32)), (.int (sv.toInt8.toInt32)), (.int (sv.toInt8.toInt32)), (.int (sv.toInt8.toInt32)), (.int (sv.toInt8.toInt32)), (.int (sv.toInt8.toInt32)), (.int (sv.toInt8.toInt32)), (.int (0 : Int32)), (.int (0 : Int32)), (.int (0 : Int32))] (.int (0 : Int32)) := Arv.set Ar12 q12 S12 M12 H12 G12 (fits_nar_byte _) W12 10 rfl (Nat.le_of_ble_eq_true rfl)
  have K12 : Keep h0 h12 [] := K11.wr W12 (Or.inr sz_b1)
  have Z12 : n0 ≤ h12.size := Nat.le_trans Z0 K12.1
  have N12 := Fr.snoc X12 N11 g_b1
  obtain ⟨J12, X12, N12⟩ := own_hide X12 N12
  refine own_Go.of (g' := (mkF m 86 #[.val (.long x0), .second, .val (.int x1), .val (.int x2), .val (.int x3), .val (.long V), .second, .val (.int (x2 &&& (3 : Int32))), .val (.int sv), .unset, .unset, .unset, .unset] [(.ref b1)])) (fun t k => st12 _ k) ?_
  refine og_dup (pc' := 87) X12 hx (hb hby at_86) rfl rfl ?_
  refine og_bipush (pc' := 89) (n := 11) X12 hx (hb hby at_87) rfl rfl ?_
  refine og_iload (pc' := 91) X12 hx (hb hby at_89) rfl rfl ?_
  obtain ⟨cl13, Ar13, q13, S13, M13, H13, G13⟩ := id V12
  have hin13 : ¬ ((11 : Int32) < 0 ∨ cl13.slots.size ≤ ((11 : Int32)).toNatClampNeg) := inb_of S13 ⟨by decide, by decide⟩
  obtain ⟨T13, h13, X13, e13, W13, st13⟩ := stB X12 hx hZ e12 Ar13 (j := (11 : Int32)) hin13 (g := (mkF m 91 #[.val (.long x0), .second, .val (.int x1), .val (.int x2), .val (.int x3), .val (.long V), .second, .val (.int (x2 &&& (3 : Int32))), .val (.int sv), .unset, .unset, .unset, .unset] [(.int sv), (.int (11 : Int32)), (.ref b1), (.ref b1)])) rfl rfl (hb hby at_91)
  have V13 : Arv Z h13 b1 k1 .byte (14 : Int32) [(.int (sv.toInt8.toInt32)), (.int (sv.toInt8.toInt32)), (.int (sv.toInt8.toInt32)), (.int (sv.toInt8.toInt32)), (.int (sv.toInt8.toInt32)), (.int (sv.toInt8.toInt32)), (.int (sv.toInt8.toInt32)), (.int (sv.toInt8.toInt32)), (.int (sv.toInt8.toInt32)), (.int (sv.toInt8.toInt32)), (.int (sv.toInt8.toInt32)), (.int (sv.toInt8.toInt32)), (.int (0 : Int32)), (.int (0 : Int32))] (.int (0 : Int32)) := Arv.set Ar13 q13 S13 M13 H13 G13 (fits_nar_byte _) W13 11 rfl (Nat.le_of_ble_eq_true rfl)
  have K13 : Keep h0 h13 [] := K12.wr W13 (Or.inr sz_b1)
  have Z13 : n0 ≤ h13.size := Nat.le_trans Z0 K13.1
  have N13 := Fr.snoc X13 N12 g_b1
  obtain ⟨J13, X13, N13⟩ := own_hide X13 N13
  refine own_Go.of (g' := (mkF m 92 #[.val (.long x0), .second, .val (.int x1), .val (.int x2), .val (.int x3), .val (.long V), .second, .val (.int (x2 &&& (3 : Int32))), .val (.int sv), .unset, .unset, .unset, .unset] [(.ref b1)])) (fun t k => st13 _ k) ?_
  refine og_dup (pc' := 93) X13 hx (hb hby at_92) rfl rfl ?_
  refine og_bipush (pc' := 95) (n := 12) X13 hx (hb hby at_93) rfl rfl ?_
  refine og_iload (pc' := 97) X13 hx (hb hby at_95) rfl rfl ?_
  obtain ⟨cl14, Ar14, q14, S14, M14, H14, G14⟩ := id V13
  have hin14 : ¬ ((12 : Int32) < 0 ∨ cl14.slots.size ≤ ((12 : Int32)).toNatClampNeg) := inb_of S14 ⟨by decide, by decide⟩
  obtain ⟨T14, h14, X14, e14, W14, st14⟩ := stB X13 hx hZ e13 Ar14 (j := (12 : Int32)) hin14 (g := (mkF m 97 #[.val (.long x0), .second, .val (.int x1), .val (.int x2), .val (.int x3), .val (.long V), .second, .val (.int (x2 &&& (3 : Int32))), .val (.int sv), .unset, .unset, .unset, .unset] [(.int sv), (.int (12 : Int32)), (.ref b1), (.ref b1)])) rfl rfl (hb hby at_97)
  have V14 : Arv Z h14 b1 k1 .byte (14 : Int32) [(.int (sv.toInt8.toInt32)), (.int (sv.toInt8.toInt32)), (.int (sv.toInt8.toInt32)), (.int (sv.toInt8.toInt32)), (.int (sv.toInt8.toInt32)), (.int (sv.toInt8.toInt32)), (.int (sv.toInt8.toInt32)), (.int (sv.toInt8.toInt32)), (.int (sv.toInt8.toInt32)), (.int (sv.toInt8.toInt32)), (.int (sv.toInt8.toInt32)), (.int (sv.toInt8.toInt32)), (.int (sv.toInt8.toInt32)), (.int (0 : Int32))] (.int (0 : Int32)) := Arv.set Ar14 q14 S14 M14 H14 G14 (fits_nar_byte _) W14 12 rfl (Nat.le_of_ble_eq_true rfl)
  have K14 : Keep h0 h14 [] := K13.wr W14 (Or.inr sz_b1)
  have Z14 : n0 ≤ h14.size := Nat.le_trans Z0 K14.1
  have N14 := Fr.snoc X14 N13 g_b1
  obtain ⟨J14, X14, N14⟩ := own_hide X14 N14
  refine own_Go.of (g' := (mkF m 98 #[.val (.long x0), .second, .val (.int x1), .val (.int x2), .val (.int x3), .val (.long V), .second, .val (.int (x2 &&& (3 : Int32))), .val (.int sv), .unset, .unset, .unset, .unset] [(.ref b1)])) (fun t k => st14 _ k) ?_
  refine og_dup (pc' := 99) X14 hx (hb hby at_98) rfl rfl ?_
  refine og_bipush (pc' := 101) (n := 13) X14 hx (hb hby at_99) rfl rfl ?_
  refine og_iload (pc' := 103) X14 hx (hb hby at_101) rfl rfl ?_
  obtain ⟨cl15, Ar15, q15, S15, M15, H15, G15⟩ := id V14
  have hin15 : ¬ ((13 : Int32) < 0 ∨ cl15.slots.size ≤ ((13 : Int32)).toNatClampNeg) := inb_of S15 ⟨by decide, by decide⟩
  obtain ⟨T15, h15, X15, e15, W15, st15⟩ := stB X14 hx hZ e14 Ar15 (j := (13 : Int32)) hin15 (g := (mkF m 103 #[.val (.long x0), .second, .val (.int x1), .val (.int x2), .val (.int x3), .val (.long V), .second, .val (.int (x2 &&& (3 : Int32))), .val (.int sv), .unset, .unset, .unset, .unset] [(.int sv), (.int (13 : Int32)), (.ref b1), (.ref b1)])) rfl rfl (hb hby at_103)
  have V15 : Arv Z h15 b1 k1 .byte (14 : Int32) [(.int (sv.toInt8.toInt32)), (.int (sv.toInt8.toInt32)), (.int (sv.toInt8.toInt32)), (.int (sv.toInt8.toInt32)), (.int (sv.toInt8.toInt32)), (.int (sv.toInt8.toInt32)), (.int (sv.toInt8.toInt32)), (.int (sv.toInt8.toInt32)), (.int (sv.toInt8.toInt32)), (.int (sv.toInt8.toInt32)), (.int (sv.toInt8.toInt32)), (.int (sv.toInt8.toInt32)), (.int (sv.toInt8.toInt32)), (.int (sv.toInt8.toInt32))] (.int (0 : Int32)) := Arv.set Ar15 q15 S15 M15 H15 G15 (fits_nar_byte _) W15 13 rfl (Nat.le_of_ble_eq_true rfl)
  have K15 : Keep h0 h15 [] := K14.wr W15 (Or.inr sz_b1)
  have Z15 : n0 ≤ h15.size := Nat.le_trans Z0 K15.1
  have N15 := Fr.snoc X15 N14 g_b1
  obtain ⟨J15, X15, N15⟩ := own_hide X15 N15
  refine own_Go.of (g' := (mkF m 104 #[.val (.long x0), .second, .val (.int x1), .val (.int x2), .val (.int x3), .val (.long V), .second, .val (.int (x2 &&& (3 : Int32))), .val (.int sv), .unset, .unset, .unset, .unset] [(.ref b1)])) (fun t k => st15 _ k) ?_
  refine og_astore (pc' := 106) (L' := #[.val (.long x0), .second, .val (.int x1), .val (.int x2), .val (.int x3), .val (.long V), .second, .val (.int (x2 &&& (3 : Int32))), .val (.int sv), .val (.ref b1), .unset, .unset, .unset]) X15 hx (hb hby at_104) rfl rfl rfl ?_
  have VZ : Arv Z h15 b1 k1 .byte (14 : Int32) [(.int zz), (.int zz), (.int zz), (.int zz), (.int zz), (.int zz), (.int zz), (.int zz), (.int zz), (.int zz), (.int zz), (.int zz), (.int zz), (.int zz)] (.int (0 : Int32)) := hzz.1 ▸ V15
  generalize hof : (x2 &&& (3 : Int32)) = of
  rcases own_off hof with e | e | e | e
  · rw [e]
    refine og_lload (pc' := 108) X15 hx (hb hby at_106) rfl rfl ?_
    obtain ⟨_, _, ⟨T16, L16, k16, n16⟩, -, X16, ⟨Lc16, hQ16, l16, y16, z16⟩, st16⟩ := Jvm.LawKit.callS X15 hx (y := (⟨"com/example/skorr/skorr/index/IndexFormatWriteVarintPinLaw", "length", "(J)I"⟩ : MethodName)) hown (mvT hZ (hw _ (List.mem_of_getElem? (i := 2) rfl))) (mvT hZ (hw _ (List.mem_of_getElem? (i := 3) rfl))) (mvT hZ (hw _ (List.mem_of_getElem? (i := 4) rfl))) (mvT hZ (hw _ (List.mem_of_getElem? (i := 5) rfl))) (by decide) (backOf (W := 0) (rmlen l Z a0 hw [] V h15 n0 Z15 ) hZ (hw _ (List.mem_of_getElem? (i := 5) rfl)) (hw _ (List.mem_of_getElem? (i := 4) rfl)) (by decide) (by decide)) (g := (mkF m 108 #[.val (.long x0), .second, .val (.int x1), .val (.int x2), .val (.int x3), .val (.long V), .second, .val (.int (0 : Int32)), .val (.int sv), .val (.ref b1), .unset, .unset, .unset] [(.long V)])) rfl (by rw [hml]; rfl) (argsL := [(.long V)]) (rest := []) (lenOf pd_0 rfl) rfl (by show 2 * 0 + _ ≤ _; exact Nat.le_of_eq rfl) (hb hby at_108) (fun _ _ => ⟨rfl, e15, (by decide : 1 + 0 ≤ _), (by decide : 14 + 0 ≤ _)⟩)
    dsimp only [Pt.U, Pt.locs, Pt.cells, Pt.slots] at X16 l16 y16 z16 st16 hQ16
    subst l16 y16 z16
    obtain ⟨rfl, N16q, e16⟩ := hQ16
    have N16 := Fr.app N15 N16q
    obtain ⟨J16, X16, N16⟩ := own_hide X16 N16
    refine own_Go.of (g' := (mkF m 111 #[.val (.long x0), .second, .val (.int x1), .val (.int x2), .val (.int x3), .val (.long V), .second, .val (.int (0 : Int32)), .val (.int sv), .val (.ref b1), .unset, .unset, .unset] [(.int (own_len V))])) (fun t k => st16 _ k) ?_
    refine og_istore (pc' := 113) (L' := #[.val (.long x0), .second, .val (.int x1), .val (.int x2), .val (.int x3), .val (.long V), .second, .val (.int (0 : Int32)), .val (.int sv), .val (.ref b1), .val (.int (own_len V)), .unset, .unset]) X16 hx (hb hby at_111) rfl rfl ?_
    refine og_lload (pc' := 115) X16 hx (hb hby at_113) rfl rfl ?_
    refine og_aload (pc' := 117) X16 hx (hb hby at_115) rfl rfl rfl ?_
    refine og_iload (pc' := 119) X16 hx (hb hby at_117) rfl rfl ?_
    obtain ⟨_, _, ⟨T17, L17, k17, n17⟩, -, X17, ⟨Lc17, hQ17, l17, y17, z17⟩, st17⟩ := Jvm.LawKit.callS X16 hx (y := (⟨"com/example/skorr/skorr/index/IndexFormat", "writeVarint", "(J[BI)I"⟩ : MethodName)) hown (mvT hZ (hw _ (List.mem_of_getElem? (i := 7) rfl))) (mvT hZ (hw _ (List.mem_of_getElem? (i := 8) rfl))) (mvT hZ (hw _ (List.mem_of_getElem? (i := 9) rfl))) (mvT hZ (hw _ (List.mem_of_getElem? (i := 10) rfl))) (by decide) (backOf (W := 0) (rmwr0 l Z a0 hw [] V b1 k1 zz h15 n0 Z15 VZ g_b1 hV) hZ (hw _ (List.mem_of_getElem? (i := 10) rfl)) (hw _ (List.mem_of_getElem? (i := 9) rfl)) (by decide) (by decide)) (g := (mkF m 119 #[.val (.long x0), .second, .val (.int x1), .val (.int x2), .val (.int x3), .val (.long V), .second, .val (.int (0 : Int32)), .val (.int sv), .val (.ref b1), .val (.int (own_len V)), .unset, .unset] [(.int (0 : Int32)), (.ref b1), (.long V)])) rfl (by rw [hml]; rfl) (argsL := [(.long V), (.ref b1), (.int (0 : Int32))]) (rest := []) (lenOf pd_1 rfl) rfl (by show 2 * 0 + _ ≤ _; exact Nat.le_of_eq rfl) (hb hby at_119) (fun _ _ => ⟨rfl, e16, (by decide : 1 + 0 ≤ _), (by decide : 14 + 0 ≤ _)⟩)
    dsimp only [Pt.U, Pt.locs, Pt.cells, Pt.slots] at X17 l17 y17 z17 st17 hQ17
    subst l17 y17 z17
    obtain ⟨rfl, N17q, K17q, c17_0⟩ := hQ17
    have N17 := Fr.app N16 N17q
    obtain ⟨J17, X17, N17⟩ := own_hide X17 N17
    have K17 : Keep h0 T17.heap [] := K15.trans K17q (allS (Or.inr sz_b1) all0)
    have Z17 : n0 ≤ T17.heap.size := Nat.le_trans Z0 K17.1
    refine own_Go.of (g' := (mkF m 122 #[.val (.long x0), .second, .val (.int x1), .val (.int x2), .val (.int x3), .val (.long V), .second, .val (.int (0 : Int32)), .val (.int sv), .val (.ref b1), .val (.int (own_len V)), .unset, .unset] [(.int ((0 : Int32) + (own_len V)))])) (fun t k => st17 _ k) ?_
    refine og_istore (pc' := 124) (L' := #[.val (.long x0), .second, .val (.int x1), .val (.int x2), .val (.int x3), .val (.long V), .second, .val (.int (0 : Int32)), .val (.int sv), .val (.ref b1), .val (.int (own_len V)), .val (.int ((0 : Int32) + (own_len V))), .unset]) X17 hx (hb hby at_122) rfl rfl ?_
    refine og_iload (pc' := 126) X17 hx (hb hby at_124) rfl rfl ?_
    refine og_iload (pc' := 128) X17 hx (hb hby at_126) rfl rfl ?_
    refine og_iload (pc' := 130) X17 hx (hb hby at_128) rfl rfl ?_
    refine og_iadd (pc' := 131) X17 hx (hb hby at_130) rfl ?_
    refine og_icmpNo (pc' := 134) X17 hx (hb hby at_131) (teq rfl).2 rfl ?_
    refine og_iconst (pc' := 135) (n := 1) X17 hx (hb hby at_134) rfl rfl ?_
    refine og_goto (pc' := 139) X17 hx (hb hby at_135) (by decide) (by decide) ?_
    refine og_istore (pc' := 141) (L' := #[.val (.long x0), .second, .val (.int x1), .val (.int x2), .val (.int x3), .val (.long V), .second, .val (.int (0 : Int32)), .val (.int sv), .val (.ref b1), .val (.int (own_len V)), .val (.int ((0 : Int32) + (own_len V))), .val (.int (1 : Int32))]) X17 hx (hb hby at_139) rfl rfl ?_
    refine og_iload (pc' := 143) X17 hx (hb hby at_141) rfl rfl ?_
    refine og_aload (pc' := 145) X17 hx (hb hby at_143) rfl rfl rfl ?_
    refine og_iconst (pc' := 146) (n := 0) X17 hx (hb hby at_145) rfl rfl ?_
    refine og_iload (pc' := 148) X17 hx (hb hby at_146) rfl rfl ?_
    refine og_lload (pc' := 150) X17 hx (hb hby at_148) rfl rfl ?_
    refine og_iload (pc' := 152) X17 hx (hb hby at_150) rfl rfl ?_
    refine og_iload (pc' := 154) X17 hx (hb hby at_152) rfl rfl ?_
    obtain ⟨_, _, ⟨T18, L18, k18, n18⟩, -, X18, ⟨Lc18, hQ18, l18, y18, z18⟩, st18⟩ := Jvm.LawKit.callS X17 hx (y := (⟨"com/example/skorr/skorr/index/IndexFormatWriteVarintPinLaw", "check", "([BIIJIB)Z"⟩ : MethodName)) hown (mvT hZ (hw _ (List.mem_of_getElem? (i := 12) rfl))) (mvT hZ (hw _ (List.mem_of_getElem? (i := 13) rfl))) (mvT hZ (hw _ (List.mem_of_getElem? (i := 4) rfl))) (mvT hZ (hw _ (List.mem_of_getElem? (i := 14) rfl))) (by decide) (backOf (W := 1) (rmchk l Z a0 hw [] b1 (0 : Int32) (0 : Int32) V (own_len V) sv k1 (own_lst 0 V zz) (own_at 0 0 V zz) T17.heap n0 Z17 c17_0 ⟨by decide, by decide⟩ (own_hat 0 0 V zz)) hZ (hw _ (List.mem_of_getElem? (i := 14) rfl)) (hw _ (List.mem_of_getElem? (i := 4) rfl)) (by decide) (by decide)) (g := (mkF m 154 #[.val (.long x0), .second, .val (.int x1), .val (.int x2), .val (.int x3), .val (.long V), .second, .val (.int (0 : Int32)), .val (.int sv), .val (.ref b1), .val (.int (own_len V)), .val (.int ((0 : Int32) + (own_len V))), .val (.int (1 : Int32))] [(.int sv), (.int (own_len V)), (.long V), (.int (0 : Int32)), (.int (0 : Int32)), (.ref b1), (.int (1 : Int32))])) rfl (by rw [hml]; rfl) (argsL := [(.ref b1), (.int (0 : Int32)), (.int (0 : Int32)), (.long V), (.int (own_len V)), (.int sv)]) (rest := [(.int (1 : Int32))]) (lenOf pd_2 rfl) rfl (by show 2 * 0 + _ ≤ _; exact Nat.le_of_eq rfl) (hb hby at_154) (fun _ _ => ⟨rfl, rfl, (by decide : 1 + 0 ≤ _), (by decide : 14 + 0 ≤ _)⟩)
    dsimp only [Pt.U, Pt.locs, Pt.cells, Pt.slots] at X18 l18 y18 z18 st18 hQ18
    subst l18 y18 z18
    obtain ⟨rfl, N18q, e18⟩ := hQ18
    have N18 := Fr.app N17 N18q
    obtain ⟨J18, X18, N18⟩ := own_hide X18 N18
    refine own_Go.of (g' := (mkF m 157 #[.val (.long x0), .second, .val (.int x1), .val (.int x2), .val (.int x3), .val (.long V), .second, .val (.int (0 : Int32)), .val (.int sv), .val (.ref b1), .val (.int (own_len V)), .val (.int ((0 : Int32) + (own_len V))), .val (.int (1 : Int32))] [(.int (own_chk (0 : Int32) (0 : Int32) V (own_len V) sv (own_at 0 0 V zz))), (.int (1 : Int32))])) (fun t k => st18 _ k) ?_
    rw [show (own_chk (0 : Int32) (0 : Int32) V (own_len V) sv (own_at 0 0 V zz)) = (1 : Int32) from own_chk_ok hV hzz 0 0 (by decide) (by decide)]
    refine og_iand (pc' := 158) X18 hx (hb hby at_157) rfl ?_
    rw [show ((1 : Int32) &&& (1 : Int32)) = (1 : Int32) from by decide]
    refine og_istore (pc' := 160) (L' := #[.val (.long x0), .second, .val (.int x1), .val (.int x2), .val (.int x3), .val (.long V), .second, .val (.int (0 : Int32)), .val (.int sv), .val (.ref b1), .val (.int (own_len V)), .val (.int ((0 : Int32) + (own_len V))), .val (.int (1 : Int32))]) X18 hx (hb hby at_158) rfl rfl ?_
    refine og_iload (pc' := 162) X18 hx (hb hby at_160) rfl rfl ?_
    refine og_aload (pc' := 164) X18 hx (hb hby at_162) rfl rfl rfl ?_
    refine og_iconst (pc' := 165) (n := 1) X18 hx (hb hby at_164) rfl rfl ?_
    refine og_iload (pc' := 167) X18 hx (hb hby at_165) rfl rfl ?_
    refine og_lload (pc' := 169) X18 hx (hb hby at_167) rfl rfl ?_
    refine og_iload (pc' := 171) X18 hx (hb hby at_169) rfl rfl ?_
    refine og_iload (pc' := 173) X18 hx (hb hby at_171) rfl rfl ?_
    obtain ⟨_, _, ⟨T19, L19, k19, n19⟩, -, X19, ⟨Lc19, hQ19, l19, y19, z19⟩, st19⟩ := Jvm.LawKit.callS X18 hx (y := (⟨"com/example/skorr/skorr/index/IndexFormatWriteVarintPinLaw", "check", "([BIIJIB)Z"⟩ : MethodName)) hown (mvT hZ (hw _ (List.mem_of_getElem? (i := 12) rfl))) (mvT hZ (hw _ (List.mem_of_getElem? (i := 13) rfl))) (mvT hZ (hw _ (List.mem_of_getElem? (i := 4) rfl))) (mvT hZ (hw _ (List.mem_of_getElem? (i := 14) rfl))) (by decide) (backOf (W := 1) (rmchk l Z a0 hw [] b1 (1 : Int32) (0 : Int32) V (own_len V) sv k1 (own_lst 0 V zz) (own_at 0 1 V zz) T17.heap n0 Z17 c17_0 ⟨by decide, by decide⟩ (own_hat 0 1 V zz)) hZ (hw _ (List.mem_of_getElem? (i := 14) rfl)) (hw _ (List.mem_of_getElem? (i := 4) rfl)) (by decide) (by decide)) (g := (mkF m 173 #[.val (.long x0), .second, .val (.int x1), .val (.int x2), .val (.int x3), .val (.long V), .second, .val (.int (0 : Int32)), .val (.int sv), .val (.ref b1), .val (.int (own_len V)), .val (.int ((0 : Int32) + (own_len V))), .val (.int (1 : Int32))] [(.int sv), (.int (own_len V)), (.long V), (.int (0 : Int32)), (.int (1 : Int32)), (.ref b1), (.int (1 : Int32))])) rfl (by rw [hml]; rfl) (argsL := [(.ref b1), (.int (1 : Int32)), (.int (0 : Int32)), (.long V), (.int (own_len V)), (.int sv)]) (rest := [(.int (1 : Int32))]) (lenOf pd_2 rfl) rfl (by show 2 * 0 + _ ≤ _; exact Nat.le_of_eq rfl) (hb hby at_173) (fun _ _ => ⟨rfl, e18, (by decide : 1 + 0 ≤ _), (by decide : 14 + 0 ≤ _)⟩)
    dsimp only [Pt.U, Pt.locs, Pt.cells, Pt.slots] at X19 l19 y19 z19 st19 hQ19
    subst l19 y19 z19
    obtain ⟨rfl, N19q, e19⟩ := hQ19
    have N19 := Fr.app N18 N19q
    obtain ⟨J19, X19, N19⟩ := own_hide X19 N19
    refine own_Go.of (g' := (mkF m 176 #[.val (.long x0), .second, .val (.int x1), .val (.int x2), .val (.int x3), .val (.long V), .second, .val (.int (0 : Int32)), .val (.int sv), .val (.ref b1), .val (.int (own_len V)), .val (.int ((0 : Int32) + (own_len V))), .val (.int (1 : Int32))] [(.int (own_chk (1 : Int32) (0 : Int32) V (own_len V) sv (own_at 0 1 V zz))), (.int (1 : Int32))])) (fun t k => st19 _ k) ?_
    rw [show (own_chk (1 : Int32) (0 : Int32) V (own_len V) sv (own_at 0 1 V zz)) = (1 : Int32) from own_chk_ok hV hzz 0 1 (by decide) (by decide)]
    refine og_iand (pc' := 177) X19 hx (hb hby at_176) rfl ?_
    rw [show ((1 : Int32) &&& (1 : Int32)) = (1 : Int32) from by decide]
    refine og_istore (pc' := 179) (L' := #[.val (.long x0), .second, .val (.int x1), .val (.int x2), .val (.int x3), .val (.long V), .second, .val (.int (0 : Int32)), .val (.int sv), .val (.ref b1), .val (.int (own_len V)), .val (.int ((0 : Int32) + (own_len V))), .val (.int (1 : Int32))]) X19 hx (hb hby at_177) rfl rfl ?_
    refine og_iload (pc' := 181) X19 hx (hb hby at_179) rfl rfl ?_
    refine og_aload (pc' := 183) X19 hx (hb hby at_181) rfl rfl rfl ?_
    refine og_iconst (pc' := 184) (n := 2) X19 hx (hb hby at_183) rfl rfl ?_
    refine og_iload (pc' := 186) X19 hx (hb hby at_184) rfl rfl ?_
    refine og_lload (pc' := 188) X19 hx (hb hby at_186) rfl rfl ?_
    refine og_iload (pc' := 190) X19 hx (hb hby at_188) rfl rfl ?_
    refine og_iload (pc' := 192) X19 hx (hb hby at_190) rfl rfl ?_
    obtain ⟨_, _, ⟨T20, L20, k20, n20⟩, -, X20, ⟨Lc20, hQ20, l20, y20, z20⟩, st20⟩ := Jvm.LawKit.callS X19 hx (y := (⟨"com/example/skorr/skorr/index/IndexFormatWriteVarintPinLaw", "check", "([BIIJIB)Z"⟩ : MethodName)) hown (mvT hZ (hw _ (List.mem_of_getElem? (i := 12) rfl))) (mvT hZ (hw _ (List.mem_of_getElem? (i := 13) rfl))) (mvT hZ (hw _ (List.mem_of_getElem? (i := 4) rfl))) (mvT hZ (hw _ (List.mem_of_getElem? (i := 14) rfl))) (by decide) (backOf (W := 1) (rmchk l Z a0 hw [] b1 (2 : Int32) (0 : Int32) V (own_len V) sv k1 (own_lst 0 V zz) (own_at 0 2 V zz) T17.heap n0 Z17 c17_0 ⟨by decide, by decide⟩ (own_hat 0 2 V zz)) hZ (hw _ (List.mem_of_getElem? (i := 14) rfl)) (hw _ (List.mem_of_getElem? (i := 4) rfl)) (by decide) (by decide)) (g := (mkF m 192 #[.val (.long x0), .second, .val (.int x1), .val (.int x2), .val (.int x3), .val (.long V), .second, .val (.int (0 : Int32)), .val (.int sv), .val (.ref b1), .val (.int (own_len V)), .val (.int ((0 : Int32) + (own_len V))), .val (.int (1 : Int32))] [(.int sv), (.int (own_len V)), (.long V), (.int (0 : Int32)), (.int (2 : Int32)), (.ref b1), (.int (1 : Int32))])) rfl (by rw [hml]; rfl) (argsL := [(.ref b1), (.int (2 : Int32)), (.int (0 : Int32)), (.long V), (.int (own_len V)), (.int sv)]) (rest := [(.int (1 : Int32))]) (lenOf pd_2 rfl) rfl (by show 2 * 0 + _ ≤ _; exact Nat.le_of_eq rfl) (hb hby at_192) (fun _ _ => ⟨rfl, e19, (by decide : 1 + 0 ≤ _), (by decide : 14 + 0 ≤ _)⟩)
    dsimp only [Pt.U, Pt.locs, Pt.cells, Pt.slots] at X20 l20 y20 z20 st20 hQ20
    subst l20 y20 z20
    obtain ⟨rfl, N20q, e20⟩ := hQ20
    have N20 := Fr.app N19 N20q
    obtain ⟨J20, X20, N20⟩ := own_hide X20 N20
    refine own_Go.of (g' := (mkF m 195 #[.val (.long x0), .second, .val (.int x1), .val (.int x2), .val (.int x3), .val (.long V), .second, .val (.int (0 : Int32)), .val (.int sv), .val (.ref b1), .val (.int (own_len V)), .val (.int ((0 : Int32) + (own_len V))), .val (.int (1 : Int32))] [(.int (own_chk (2 : Int32) (0 : Int32) V (own_len V) sv (own_at 0 2 V zz))), (.int (1 : Int32))])) (fun t k => st20 _ k) ?_
    rw [show (own_chk (2 : Int32) (0 : Int32) V (own_len V) sv (own_at 0 2 V zz)) = (1 : Int32) from own_chk_ok hV hzz 0 2 (by decide) (by decide)]
    refine og_iand (pc' := 196) X20 hx (hb hby at_195) rfl ?_
    rw [show ((1 : Int32) &&& (1 : Int32)) = (1 : Int32) from by decide]
    refine og_istore (pc' := 198) (L' := #[.val (.long x0), .second, .val (.int x1), .val (.int x2), .val (.int x3), .val (.long V), .second, .val (.int (0 : Int32)), .val (.int sv), .val (.ref b1), .val (.int (own_len V)), .val (.int ((0 : Int32) + (own_len V))), .val (.int (1 : Int32))]) X20 hx (hb hby at_196) rfl rfl ?_
    refine og_iload (pc' := 200) X20 hx (hb hby at_198) rfl rfl ?_
    refine og_aload (pc' := 202) X20 hx (hb hby at_200) rfl rfl rfl ?_
    refine og_iconst (pc' := 203) (n := 3) X20 hx (hb hby at_202) rfl rfl ?_
    refine og_iload (pc' := 205) X20 hx (hb hby at_203) rfl rfl ?_
    refine og_lload (pc' := 207) X20 hx (hb hby at_205) rfl rfl ?_
    refine og_iload (pc' := 209) X20 hx (hb hby at_207) rfl rfl ?_
    refine og_iload (pc' := 211) X20 hx (hb hby at_209) rfl rfl ?_
    obtain ⟨_, _, ⟨T21, L21, k21, n21⟩, -, X21, ⟨Lc21, hQ21, l21, y21, z21⟩, st21⟩ := Jvm.LawKit.callS X20 hx (y := (⟨"com/example/skorr/skorr/index/IndexFormatWriteVarintPinLaw", "check", "([BIIJIB)Z"⟩ : MethodName)) hown (mvT hZ (hw _ (List.mem_of_getElem? (i := 12) rfl))) (mvT hZ (hw _ (List.mem_of_getElem? (i := 13) rfl))) (mvT hZ (hw _ (List.mem_of_getElem? (i := 4) rfl))) (mvT hZ (hw _ (List.mem_of_getElem? (i := 14) rfl))) (by decide) (backOf (W := 1) (rmchk l Z a0 hw [] b1 (3 : Int32) (0 : Int32) V (own_len V) sv k1 (own_lst 0 V zz) (own_at 0 3 V zz) T17.heap n0 Z17 c17_0 ⟨by decide, by decide⟩ (own_hat 0 3 V zz)) hZ (hw _ (List.mem_of_getElem? (i := 14) rfl)) (hw _ (List.mem_of_getElem? (i := 4) rfl)) (by decide) (by decide)) (g := (mkF m 211 #[.val (.long x0), .second, .val (.int x1), .val (.int x2), .val (.int x3), .val (.long V), .second, .val (.int (0 : Int32)), .val (.int sv), .val (.ref b1), .val (.int (own_len V)), .val (.int ((0 : Int32) + (own_len V))), .val (.int (1 : Int32))] [(.int sv), (.int (own_len V)), (.long V), (.int (0 : Int32)), (.int (3 : Int32)), (.ref b1), (.int (1 : Int32))])) rfl (by rw [hml]; rfl) (argsL := [(.ref b1), (.int (3 : Int32)), (.int (0 : Int32)), (.long V), (.int (own_len V)), (.int sv)]) (rest := [(.int (1 : Int32))]) (lenOf pd_2 rfl) rfl (by show 2 * 0 + _ ≤ _; exact Nat.le_of_eq rfl) (hb hby at_211) (fun _ _ => ⟨rfl, e20, (by decide : 1 + 0 ≤ _), (by decide : 14 + 0 ≤ _)⟩)
    dsimp only [Pt.U, Pt.locs, Pt.cells, Pt.slots] at X21 l21 y21 z21 st21 hQ21
    subst l21 y21 z21
    obtain ⟨rfl, N21q, e21⟩ := hQ21
    have N21 := Fr.app N20 N21q
    obtain ⟨J21, X21, N21⟩ := own_hide X21 N21
    refine own_Go.of (g' := (mkF m 214 #[.val (.long x0), .second, .val (.int x1), .val (.int x2), .val (.int x3), .val (.long V), .second, .val (.int (0 : Int32)), .val (.int sv), .val (.ref b1), .val (.int (own_len V)), .val (.int ((0 : Int32) + (own_len V))), .val (.int (1 : Int32))] [(.int (own_chk (3 : Int32) (0 : Int32) V (own_len V) sv (own_at 0 3 V zz))), (.int (1 : Int32))])) (fun t k => st21 _ k) ?_
    rw [show (own_chk (3 : Int32) (0 : Int32) V (own_len V) sv (own_at 0 3 V zz)) = (1 : Int32) from own_chk_ok hV hzz 0 3 (by decide) (by decide)]
    refine og_iand (pc' := 215) X21 hx (hb hby at_214) rfl ?_
    rw [show ((1 : Int32) &&& (1 : Int32)) = (1 : Int32) from by decide]
    refine og_istore (pc' := 217) (L' := #[.val (.long x0), .second, .val (.int x1), .val (.int x2), .val (.int x3), .val (.long V), .second, .val (.int (0 : Int32)), .val (.int sv), .val (.ref b1), .val (.int (own_len V)), .val (.int ((0 : Int32) + (own_len V))), .val (.int (1 : Int32))]) X21 hx (hb hby at_215) rfl rfl ?_
    refine og_iload (pc' := 219) X21 hx (hb hby at_217) rfl rfl ?_
    refine og_aload (pc' := 221) X21 hx (hb hby at_219) rfl rfl rfl ?_
    refine og_iconst (pc' := 222) (n := 4) X21 hx (hb hby at_221) rfl rfl ?_
    refine og_iload (pc' := 224) X21 hx (hb hby at_222) rfl rfl ?_
    refine og_lload (pc' := 226) X21 hx (hb hby at_224) rfl rfl ?_
    refine og_iload (pc' := 228) X21 hx (hb hby at_226) rfl rfl ?_
    refine og_iload (pc' := 230) X21 hx (hb hby at_228) rfl rfl ?_
    obtain ⟨_, _, ⟨T22, L22, k22, n22⟩, -, X22, ⟨Lc22, hQ22, l22, y22, z22⟩, st22⟩ := Jvm.LawKit.callS X21 hx (y := (⟨"com/example/skorr/skorr/index/IndexFormatWriteVarintPinLaw", "check", "([BIIJIB)Z"⟩ : MethodName)) hown (mvT hZ (hw _ (List.mem_of_getElem? (i := 12) rfl))) (mvT hZ (hw _ (List.mem_of_getElem? (i := 13) rfl))) (mvT hZ (hw _ (List.mem_of_getElem? (i := 4) rfl))) (mvT hZ (hw _ (List.mem_of_getElem? (i := 14) rfl))) (by decide) (backOf (W := 1) (rmchk l Z a0 hw [] b1 (4 : Int32) (0 : Int32) V (own_len V) sv k1 (own_lst 0 V zz) (own_at 0 4 V zz) T17.heap n0 Z17 c17_0 ⟨by decide, by decide⟩ (own_hat 0 4 V zz)) hZ (hw _ (List.mem_of_getElem? (i := 14) rfl)) (hw _ (List.mem_of_getElem? (i := 4) rfl)) (by decide) (by decide)) (g := (mkF m 230 #[.val (.long x0), .second, .val (.int x1), .val (.int x2), .val (.int x3), .val (.long V), .second, .val (.int (0 : Int32)), .val (.int sv), .val (.ref b1), .val (.int (own_len V)), .val (.int ((0 : Int32) + (own_len V))), .val (.int (1 : Int32))] [(.int sv), (.int (own_len V)), (.long V), (.int (0 : Int32)), (.int (4 : Int32)), (.ref b1), (.int (1 : Int32))])) rfl (by rw [hml]; rfl) (argsL := [(.ref b1), (.int (4 : Int32)), (.int (0 : Int32)), (.long V), (.int (own_len V)), (.int sv)]) (rest := [(.int (1 : Int32))]) (lenOf pd_2 rfl) rfl (by show 2 * 0 + _ ≤ _; exact Nat.le_of_eq rfl) (hb hby at_230) (fun _ _ => ⟨rfl, e21, (by decide : 1 + 0 ≤ _), (by decide : 14 + 0 ≤ _)⟩)
    dsimp only [Pt.U, Pt.locs, Pt.cells, Pt.slots] at X22 l22 y22 z22 st22 hQ22
    subst l22 y22 z22
    obtain ⟨rfl, N22q, e22⟩ := hQ22
    have N22 := Fr.app N21 N22q
    obtain ⟨J22, X22, N22⟩ := own_hide X22 N22
    refine own_Go.of (g' := (mkF m 233 #[.val (.long x0), .second, .val (.int x1), .val (.int x2), .val (.int x3), .val (.long V), .second, .val (.int (0 : Int32)), .val (.int sv), .val (.ref b1), .val (.int (own_len V)), .val (.int ((0 : Int32) + (own_len V))), .val (.int (1 : Int32))] [(.int (own_chk (4 : Int32) (0 : Int32) V (own_len V) sv (own_at 0 4 V zz))), (.int (1 : Int32))])) (fun t k => st22 _ k) ?_
    rw [show (own_chk (4 : Int32) (0 : Int32) V (own_len V) sv (own_at 0 4 V zz)) = (1 : Int32) from own_chk_ok hV hzz 0 4 (by decide) (by decide)]
    refine og_iand (pc' := 234) X22 hx (hb hby at_233) rfl ?_
    rw [show ((1 : Int32) &&& (1 : Int32)) = (1 : Int32) from by decide]
    refine og_istore (pc' := 236) (L' := #[.val (.long x0), .second, .val (.int x1), .val (.int x2), .val (.int x3), .val (.long V), .second, .val (.int (0 : Int32)), .val (.int sv), .val (.ref b1), .val (.int (own_len V)), .val (.int ((0 : Int32) + (own_len V))), .val (.int (1 : Int32))]) X22 hx (hb hby at_234) rfl rfl ?_
    refine og_iload (pc' := 238) X22 hx (hb hby at_236) rfl rfl ?_
    refine og_aload (pc' := 240) X22 hx (hb hby at_238) rfl rfl rfl ?_
    refine og_iconst (pc' := 241) (n := 5) X22 hx (hb hby at_240) rfl rfl ?_
    refine og_iload (pc' := 243) X22 hx (hb hby at_241) rfl rfl ?_
    refine og_lload (pc' := 245) X22 hx (hb hby at_243) rfl rfl ?_
    refine og_iload (pc' := 247) X22 hx (hb hby at_245) rfl rfl ?_
    refine og_iload (pc' := 249) X22 hx (hb hby at_247) rfl rfl ?_
    obtain ⟨_, _, ⟨T23, L23, k23, n23⟩, -, X23, ⟨Lc23, hQ23, l23, y23, z23⟩, st23⟩ := Jvm.LawKit.callS X22 hx (y := (⟨"com/example/skorr/skorr/index/IndexFormatWriteVarintPinLaw", "check", "([BIIJIB)Z"⟩ : MethodName)) hown (mvT hZ (hw _ (List.mem_of_getElem? (i := 12) rfl))) (mvT hZ (hw _ (List.mem_of_getElem? (i := 13) rfl))) (mvT hZ (hw _ (List.mem_of_getElem? (i := 4) rfl))) (mvT hZ (hw _ (List.mem_of_getElem? (i := 14) rfl))) (by decide) (backOf (W := 1) (rmchk l Z a0 hw [] b1 (5 : Int32) (0 : Int32) V (own_len V) sv k1 (own_lst 0 V zz) (own_at 0 5 V zz) T17.heap n0 Z17 c17_0 ⟨by decide, by decide⟩ (own_hat 0 5 V zz)) hZ (hw _ (List.mem_of_getElem? (i := 14) rfl)) (hw _ (List.mem_of_getElem? (i := 4) rfl)) (by decide) (by decide)) (g := (mkF m 249 #[.val (.long x0), .second, .val (.int x1), .val (.int x2), .val (.int x3), .val (.long V), .second, .val (.int (0 : Int32)), .val (.int sv), .val (.ref b1), .val (.int (own_len V)), .val (.int ((0 : Int32) + (own_len V))), .val (.int (1 : Int32))] [(.int sv), (.int (own_len V)), (.long V), (.int (0 : Int32)), (.int (5 : Int32)), (.ref b1), (.int (1 : Int32))])) rfl (by rw [hml]; rfl) (argsL := [(.ref b1), (.int (5 : Int32)), (.int (0 : Int32)), (.long V), (.int (own_len V)), (.int sv)]) (rest := [(.int (1 : Int32))]) (lenOf pd_2 rfl) rfl (by show 2 * 0 + _ ≤ _; exact Nat.le_of_eq rfl) (hb hby at_249) (fun _ _ => ⟨rfl, e22, (by decide : 1 + 0 ≤ _), (by decide : 14 + 0 ≤ _)⟩)
    dsimp only [Pt.U, Pt.locs, Pt.cells, Pt.slots] at X23 l23 y23 z23 st23 hQ23
    subst l23 y23 z23
    obtain ⟨rfl, N23q, e23⟩ := hQ23
    have N23 := Fr.app N22 N23q
    obtain ⟨J23, X23, N23⟩ := own_hide X23 N23
    refine own_Go.of (g' := (mkF m 252 #[.val (.long x0), .second, .val (.int x1), .val (.int x2), .val (.int x3), .val (.long V), .second, .val (.int (0 : Int32)), .val (.int sv), .val (.ref b1), .val (.int (own_len V)), .val (.int ((0 : Int32) + (own_len V))), .val (.int (1 : Int32))] [(.int (own_chk (5 : Int32) (0 : Int32) V (own_len V) sv (own_at 0 5 V zz))), (.int (1 : Int32))])) (fun t k => st23 _ k) ?_
    rw [show (own_chk (5 : Int32) (0 : Int32) V (own_len V) sv (own_at 0 5 V zz)) = (1 : Int32) from own_chk_ok hV hzz 0 5 (by decide) (by decide)]
    refine og_iand (pc' := 253) X23 hx (hb hby at_252) rfl ?_
    rw [show ((1 : Int32) &&& (1 : Int32)) = (1 : Int32) from by decide]
    refine og_istore (pc' := 255) (L' := #[.val (.long x0), .second, .val (.int x1), .val (.int x2), .val (.int x3), .val (.long V), .second, .val (.int (0 : Int32)), .val (.int sv), .val (.ref b1), .val (.int (own_len V)), .val (.int ((0 : Int32) + (own_len V))), .val (.int (1 : Int32))]) X23 hx (hb hby at_253) rfl rfl ?_
    refine og_iload (pc' := 257) X23 hx (hb hby at_255) rfl rfl ?_
    refine og_aload (pc' := 259) X23 hx (hb hby at_257) rfl rfl rfl ?_
    refine og_bipush (pc' := 261) (n := 6) X23 hx (hb hby at_259) rfl rfl ?_
    refine og_iload (pc' := 263) X23 hx (hb hby at_261) rfl rfl ?_
    refine og_lload (pc' := 265) X23 hx (hb hby at_263) rfl rfl ?_
    refine og_iload (pc' := 267) X23 hx (hb hby at_265) rfl rfl ?_
    refine og_iload (pc' := 269) X23 hx (hb hby at_267) rfl rfl ?_
    obtain ⟨_, _, ⟨T24, L24, k24, n24⟩, -, X24, ⟨Lc24, hQ24, l24, y24, z24⟩, st24⟩ := Jvm.LawKit.callS X23 hx (y := (⟨"com/example/skorr/skorr/index/IndexFormatWriteVarintPinLaw", "check", "([BIIJIB)Z"⟩ : MethodName)) hown (mvT hZ (hw _ (List.mem_of_getElem? (i := 12) rfl))) (mvT hZ (hw _ (List.mem_of_getElem? (i := 13) rfl))) (mvT hZ (hw _ (List.mem_of_getElem? (i := 4) rfl))) (mvT hZ (hw _ (List.mem_of_getElem? (i := 14) rfl))) (by decide) (backOf (W := 1) (rmchk l Z a0 hw [] b1 (6 : Int32) (0 : Int32) V (own_len V) sv k1 (own_lst 0 V zz) (own_at 0 6 V zz) T17.heap n0 Z17 c17_0 ⟨by decide, by decide⟩ (own_hat 0 6 V zz)) hZ (hw _ (List.mem_of_getElem? (i := 14) rfl)) (hw _ (List.mem_of_getElem? (i := 4) rfl)) (by decide) (by decide)) (g := (mkF m 269 #[.val (.long x0), .second, .val (.int x1), .val (.int x2), .val (.int x3), .val (.long V), .second, .val (.int (0 : Int32)), .val (.int sv), .val (.ref b1), .val (.int (own_len V)), .val (.int ((0 : Int32) + (own_len V))), .val (.int (1 : Int32))] [(.int sv), (.int (own_len V)), (.long V), (.int (0 : Int32)), (.int (6 : Int32)), (.ref b1), (.int (1 : Int32))])) rfl (by rw [hml]; rfl) (argsL := [(.ref b1), (.int (6 : Int32)), (.int (0 : Int32)), (.long V), (.int (own_len V)), (.int sv)]) (rest := [(.int (1 : Int32))]) (lenOf pd_2 rfl) rfl (by show 2 * 0 + _ ≤ _; exact Nat.le_of_eq rfl) (hb hby at_269) (fun _ _ => ⟨rfl, e23, (by decide : 1 + 0 ≤ _), (by decide : 14 + 0 ≤ _)⟩)
    dsimp only [Pt.U, Pt.locs, Pt.cells, Pt.slots] at X24 l24 y24 z24 st24 hQ24
    subst l24 y24 z24
    obtain ⟨rfl, N24q, e24⟩ := hQ24
    have N24 := Fr.app N23 N24q
    obtain ⟨J24, X24, N24⟩ := own_hide X24 N24
    refine own_Go.of (g' := (mkF m 272 #[.val (.long x0), .second, .val (.int x1), .val (.int x2), .val (.int x3), .val (.long V), .second, .val (.int (0 : Int32)), .val (.int sv), .val (.ref b1), .val (.int (own_len V)), .val (.int ((0 : Int32) + (own_len V))), .val (.int (1 : Int32))] [(.int (own_chk (6 : Int32) (0 : Int32) V (own_len V) sv (own_at 0 6 V zz))), (.int (1 : Int32))])) (fun t k => st24 _ k) ?_
    rw [show (own_chk (6 : Int32) (0 : Int32) V (own_len V) sv (own_at 0 6 V zz)) = (1 : Int32) from own_chk_ok hV hzz 0 6 (by decide) (by decide)]
    refine og_iand (pc' := 273) X24 hx (hb hby at_272) rfl ?_
    rw [show ((1 : Int32) &&& (1 : Int32)) = (1 : Int32) from by decide]
    refine og_istore (pc' := 275) (L' := #[.val (.long x0), .second, .val (.int x1), .val (.int x2), .val (.int x3), .val (.long V), .second, .val (.int (0 : Int32)), .val (.int sv), .val (.ref b1), .val (.int (own_len V)), .val (.int ((0 : Int32) + (own_len V))), .val (.int (1 : Int32))]) X24 hx (hb hby at_273) rfl rfl ?_
    refine og_iload (pc' := 277) X24 hx (hb hby at_275) rfl rfl ?_
    refine og_aload (pc' := 279) X24 hx (hb hby at_277) rfl rfl rfl ?_
    refine og_bipush (pc' := 281) (n := 7) X24 hx (hb hby at_279) rfl rfl ?_
    refine og_iload (pc' := 283) X24 hx (hb hby at_281) rfl rfl ?_
    refine og_lload (pc' := 285) X24 hx (hb hby at_283) rfl rfl ?_
    refine og_iload (pc' := 287) X24 hx (hb hby at_285) rfl rfl ?_
    refine og_iload (pc' := 289) X24 hx (hb hby at_287) rfl rfl ?_
    obtain ⟨_, _, ⟨T25, L25, k25, n25⟩, -, X25, ⟨Lc25, hQ25, l25, y25, z25⟩, st25⟩ := Jvm.LawKit.callS X24 hx (y := (⟨"com/example/skorr/skorr/index/IndexFormatWriteVarintPinLaw", "check", "([BIIJIB)Z"⟩ : MethodName)) hown (mvT hZ (hw _ (List.mem_of_getElem? (i := 12) rfl))) (mvT hZ (hw _ (List.mem_of_getElem? (i := 13) rfl))) (mvT hZ (hw _ (List.mem_of_getElem? (i := 4) rfl))) (mvT hZ (hw _ (List.mem_of_getElem? (i := 14) rfl))) (by decide) (backOf (W := 1) (rmchk l Z a0 hw [] b1 (7 : Int32) (0 : Int32) V (own_len V) sv k1 (own_lst 0 V zz) (own_at 0 7 V zz) T17.heap n0 Z17 c17_0 ⟨by decide, by decide⟩ (own_hat 0 7 V zz)) hZ (hw _ (List.mem_of_getElem? (i := 14) rfl)) (hw _ (List.mem_of_getElem? (i := 4) rfl)) (by decide) (by decide)) (g := (mkF m 289 #[.val (.long x0), .second, .val (.int x1), .val (.int x2), .val (.int x3), .val (.long V), .second, .val (.int (0 : Int32)), .val (.int sv), .val (.ref b1), .val (.int (own_len V)), .val (.int ((0 : Int32) + (own_len V))), .val (.int (1 : Int32))] [(.int sv), (.int (own_len V)), (.long V), (.int (0 : Int32)), (.int (7 : Int32)), (.ref b1), (.int (1 : Int32))])) rfl (by rw [hml]; rfl) (argsL := [(.ref b1), (.int (7 : Int32)), (.int (0 : Int32)), (.long V), (.int (own_len V)), (.int sv)]) (rest := [(.int (1 : Int32))]) (lenOf pd_2 rfl) rfl (by show 2 * 0 + _ ≤ _; exact Nat.le_of_eq rfl) (hb hby at_289) (fun _ _ => ⟨rfl, e24, (by decide : 1 + 0 ≤ _), (by decide : 14 + 0 ≤ _)⟩)
    dsimp only [Pt.U, Pt.locs, Pt.cells, Pt.slots] at X25 l25 y25 z25 st25 hQ25
    subst l25 y25 z25
    obtain ⟨rfl, N25q, e25⟩ := hQ25
    have N25 := Fr.app N24 N25q
    obtain ⟨J25, X25, N25⟩ := own_hide X25 N25
    refine own_Go.of (g' := (mkF m 292 #[.val (.long x0), .second, .val (.int x1), .val (.int x2), .val (.int x3), .val (.long V), .second, .val (.int (0 : Int32)), .val (.int sv), .val (.ref b1), .val (.int (own_len V)), .val (.int ((0 : Int32) + (own_len V))), .val (.int (1 : Int32))] [(.int (own_chk (7 : Int32) (0 : Int32) V (own_len V) sv (own_at 0 7 V zz))), (.int (1 : Int32))])) (fun t k => st25 _ k) ?_
    rw [show (own_chk (7 : Int32) (0 : Int32) V (own_len V) sv (own_at 0 7 V zz)) = (1 : Int32) from own_chk_ok hV hzz 0 7 (by decide) (by decide)]
    refine og_iand (pc' := 293) X25 hx (hb hby at_292) rfl ?_
    rw [show ((1 : Int32) &&& (1 : Int32)) = (1 : Int32) from by decide]
    refine og_istore (pc' := 295) (L' := #[.val (.long x0), .second, .val (.int x1), .val (.int x2), .val (.int x3), .val (.long V), .second, .val (.int (0 : Int32)), .val (.int sv), .val (.ref b1), .val (.int (own_len V)), .val (.int ((0 : Int32) + (own_len V))), .val (.int (1 : Int32))]) X25 hx (hb hby at_293) rfl rfl ?_
    refine og_iload (pc' := 297) X25 hx (hb hby at_295) rfl rfl ?_
    refine og_aload (pc' := 299) X25 hx (hb hby at_297) rfl rfl rfl ?_
    refine og_bipush (pc' := 301) (n := 8) X25 hx (hb hby at_299) rfl rfl ?_
    refine og_iload (pc' := 303) X25 hx (hb hby at_301) rfl rfl ?_
    refine og_lload (pc' := 305) X25 hx (hb hby at_303) rfl rfl ?_
    refine og_iload (pc' := 307) X25 hx (hb hby at_305) rfl rfl ?_
    refine og_iload (pc' := 309) X25 hx (hb hby at_307) rfl rfl ?_
    obtain ⟨_, _, ⟨T26, L26, k26, n26⟩, -, X26, ⟨Lc26, hQ26, l26, y26, z26⟩, st26⟩ := Jvm.LawKit.callS X25 hx (y := (⟨"com/example/skorr/skorr/index/IndexFormatWriteVarintPinLaw", "check", "([BIIJIB)Z"⟩ : MethodName)) hown (mvT hZ (hw _ (List.mem_of_getElem? (i := 12) rfl))) (mvT hZ (hw _ (List.mem_of_getElem? (i := 13) rfl))) (mvT hZ (hw _ (List.mem_of_getElem? (i := 4) rfl))) (mvT hZ (hw _ (List.mem_of_getElem? (i := 14) rfl))) (by decide) (backOf (W := 1) (rmchk l Z a0 hw [] b1 (8 : Int32) (0 : Int32) V (own_len V) sv k1 (own_lst 0 V zz) (own_at 0 8 V zz) T17.heap n0 Z17 c17_0 ⟨by decide, by decide⟩ (own_hat 0 8 V zz)) hZ (hw _ (List.mem_of_getElem? (i := 14) rfl)) (hw _ (List.mem_of_getElem? (i := 4) rfl)) (by decide) (by decide)) (g := (mkF m 309 #[.val (.long x0), .second, .val (.int x1), .val (.int x2), .val (.int x3), .val (.long V), .second, .val (.int (0 : Int32)), .val (.int sv), .val (.ref b1), .val (.int (own_len V)), .val (.int ((0 : Int32) + (own_len V))), .val (.int (1 : Int32))] [(.int sv), (.int (own_len V)), (.long V), (.int (0 : Int32)), (.int (8 : Int32)), (.ref b1), (.int (1 : Int32))])) rfl (by rw [hml]; rfl) (argsL := [(.ref b1), (.int (8 : Int32)), (.int (0 : Int32)), (.long V), (.int (own_len V)), (.int sv)]) (rest := [(.int (1 : Int32))]) (lenOf pd_2 rfl) rfl (by show 2 * 0 + _ ≤ _; exact Nat.le_of_eq rfl) (hb hby at_309) (fun _ _ => ⟨rfl, e25, (by decide : 1 + 0 ≤ _), (by decide : 14 + 0 ≤ _)⟩)
    dsimp only [Pt.U, Pt.locs, Pt.cells, Pt.slots] at X26 l26 y26 z26 st26 hQ26
    subst l26 y26 z26
    obtain ⟨rfl, N26q, e26⟩ := hQ26
    have N26 := Fr.app N25 N26q
    obtain ⟨J26, X26, N26⟩ := own_hide X26 N26
    refine own_Go.of (g' := (mkF m 312 #[.val (.long x0), .second, .val (.int x1), .val (.int x2), .val (.int x3), .val (.long V), .second, .val (.int (0 : Int32)), .val (.int sv), .val (.ref b1), .val (.int (own_len V)), .val (.int ((0 : Int32) + (own_len V))), .val (.int (1 : Int32))] [(.int (own_chk (8 : Int32) (0 : Int32) V (own_len V) sv (own_at 0 8 V zz))), (.int (1 : Int32))])) (fun t k => st26 _ k) ?_
    rw [show (own_chk (8 : Int32) (0 : Int32) V (own_len V) sv (own_at 0 8 V zz)) = (1 : Int32) from own_chk_ok hV hzz 0 8 (by decide) (by decide)]
    refine og_iand (pc' := 313) X26 hx (hb hby at_312) rfl ?_
    rw [show ((1 : Int32) &&& (1 : Int32)) = (1 : Int32) from by decide]
    refine og_istore (pc' := 315) (L' := #[.val (.long x0), .second, .val (.int x1), .val (.int x2), .val (.int x3), .val (.long V), .second, .val (.int (0 : Int32)), .val (.int sv), .val (.ref b1), .val (.int (own_len V)), .val (.int ((0 : Int32) + (own_len V))), .val (.int (1 : Int32))]) X26 hx (hb hby at_313) rfl rfl ?_
    refine og_iload (pc' := 317) X26 hx (hb hby at_315) rfl rfl ?_
    refine og_aload (pc' := 319) X26 hx (hb hby at_317) rfl rfl rfl ?_
    refine og_bipush (pc' := 321) (n := 9) X26 hx (hb hby at_319) rfl rfl ?_
    refine og_iload (pc' := 323) X26 hx (hb hby at_321) rfl rfl ?_
    refine og_lload (pc' := 325) X26 hx (hb hby at_323) rfl rfl ?_
    refine og_iload (pc' := 327) X26 hx (hb hby at_325) rfl rfl ?_
    refine og_iload (pc' := 329) X26 hx (hb hby at_327) rfl rfl ?_
    obtain ⟨_, _, ⟨T27, L27, k27, n27⟩, -, X27, ⟨Lc27, hQ27, l27, y27, z27⟩, st27⟩ := Jvm.LawKit.callS X26 hx (y := (⟨"com/example/skorr/skorr/index/IndexFormatWriteVarintPinLaw", "check", "([BIIJIB)Z"⟩ : MethodName)) hown (mvT hZ (hw _ (List.mem_of_getElem? (i := 12) rfl))) (mvT hZ (hw _ (List.mem_of_getElem? (i := 13) rfl))) (mvT hZ (hw _ (List.mem_of_getElem? (i := 4) rfl))) (mvT hZ (hw _ (List.mem_of_getElem? (i := 14) rfl))) (by decide) (backOf (W := 1) (rmchk l Z a0 hw [] b1 (9 : Int32) (0 : Int32) V (own_len V) sv k1 (own_lst 0 V zz) (own_at 0 9 V zz) T17.heap n0 Z17 c17_0 ⟨by decide, by decide⟩ (own_hat 0 9 V zz)) hZ (hw _ (List.mem_of_getElem? (i := 14) rfl)) (hw _ (List.mem_of_getElem? (i := 4) rfl)) (by decide) (by decide)) (g := (mkF m 329 #[.val (.long x0), .second, .val (.int x1), .val (.int x2), .val (.int x3), .val (.long V), .second, .val (.int (0 : Int32)), .val (.int sv), .val (.ref b1), .val (.int (own_len V)), .val (.int ((0 : Int32) + (own_len V))), .val (.int (1 : Int32))] [(.int sv), (.int (own_len V)), (.long V), (.int (0 : Int32)), (.int (9 : Int32)), (.ref b1), (.int (1 : Int32))])) rfl (by rw [hml]; rfl) (argsL := [(.ref b1), (.int (9 : Int32)), (.int (0 : Int32)), (.long V), (.int (own_len V)), (.int sv)]) (rest := [(.int (1 : Int32))]) (lenOf pd_2 rfl) rfl (by show 2 * 0 + _ ≤ _; exact Nat.le_of_eq rfl) (hb hby at_329) (fun _ _ => ⟨rfl, e26, (by decide : 1 + 0 ≤ _), (by decide : 14 + 0 ≤ _)⟩)
    dsimp only [Pt.U, Pt.locs, Pt.cells, Pt.slots] at X27 l27 y27 z27 st27 hQ27
    subst l27 y27 z27
    obtain ⟨rfl, N27q, e27⟩ := hQ27
    have N27 := Fr.app N26 N27q
    obtain ⟨J27, X27, N27⟩ := own_hide X27 N27
    refine own_Go.of (g' := (mkF m 332 #[.val (.long x0), .second, .val (.int x1), .val (.int x2), .val (.int x3), .val (.long V), .second, .val (.int (0 : Int32)), .val (.int sv), .val (.ref b1), .val (.int (own_len V)), .val (.int ((0 : Int32) + (own_len V))), .val (.int (1 : Int32))] [(.int (own_chk (9 : Int32) (0 : Int32) V (own_len V) sv (own_at 0 9 V zz))), (.int (1 : Int32))])) (fun t k => st27 _ k) ?_
    rw [show (own_chk (9 : Int32) (0 : Int32) V (own_len V) sv (own_at 0 9 V zz)) = (1 : Int32) from own_chk_ok hV hzz 0 9 (by decide) (by decide)]
    refine og_iand (pc' := 333) X27 hx (hb hby at_332) rfl ?_
    rw [show ((1 : Int32) &&& (1 : Int32)) = (1 : Int32) from by decide]
    refine og_istore (pc' := 335) (L' := #[.val (.long x0), .second, .val (.int x1), .val (.int x2), .val (.int x3), .val (.long V), .second, .val (.int (0 : Int32)), .val (.int sv), .val (.ref b1), .val (.int (own_len V)), .val (.int ((0 : Int32) + (own_len V))), .val (.int (1 : Int32))]) X27 hx (hb hby at_333) rfl rfl ?_
    refine og_iload (pc' := 337) X27 hx (hb hby at_335) rfl rfl ?_
    refine og_aload (pc' := 339) X27 hx (hb hby at_337) rfl rfl rfl ?_
    refine og_bipush (pc' := 341) (n := 10) X27 hx (hb hby at_339) rfl rfl ?_
    refine og_iload (pc' := 343) X27 hx (hb hby at_341) rfl rfl ?_
    refine og_lload (pc' := 345) X27 hx (hb hby at_343) rfl rfl ?_
    refine og_iload (pc' := 347) X27 hx (hb hby at_345) rfl rfl ?_
    refine og_iload (pc' := 349) X27 hx (hb hby at_347) rfl rfl ?_
    obtain ⟨_, _, ⟨T28, L28, k28, n28⟩, -, X28, ⟨Lc28, hQ28, l28, y28, z28⟩, st28⟩ := Jvm.LawKit.callS X27 hx (y := (⟨"com/example/skorr/skorr/index/IndexFormatWriteVarintPinLaw", "check", "([BIIJIB)Z"⟩ : MethodName)) hown (mvT hZ (hw _ (List.mem_of_getElem? (i := 12) rfl))) (mvT hZ (hw _ (List.mem_of_getElem? (i := 13) rfl))) (mvT hZ (hw _ (List.mem_of_getElem? (i := 4) rfl))) (mvT hZ (hw _ (List.mem_of_getElem? (i := 14) rfl))) (by decide) (backOf (W := 1) (rmchk l Z a0 hw [] b1 (10 : Int32) (0 : Int32) V (own_len V) sv k1 (own_lst 0 V zz) (own_at 0 10 V zz) T17.heap n0 Z17 c17_0 ⟨by decide, by decide⟩ (own_hat 0 10 V zz)) hZ (hw _ (List.mem_of_getElem? (i := 14) rfl)) (hw _ (List.mem_of_getElem? (i := 4) rfl)) (by decide) (by decide)) (g := (mkF m 349 #[.val (.long x0), .second, .val (.int x1), .val (.int x2), .val (.int x3), .val (.long V), .second, .val (.int (0 : Int32)), .val (.int sv), .val (.ref b1), .val (.int (own_len V)), .val (.int ((0 : Int32) + (own_len V))), .val (.int (1 : Int32))] [(.int sv), (.int (own_len V)), (.long V), (.int (0 : Int32)), (.int (10 : Int32)), (.ref b1), (.int (1 : Int32))])) rfl (by rw [hml]; rfl) (argsL := [(.ref b1), (.int (10 : Int32)), (.int (0 : Int32)), (.long V), (.int (own_len V)), (.int sv)]) (rest := [(.int (1 : Int32))]) (lenOf pd_2 rfl) rfl (by show 2 * 0 + _ ≤ _; exact Nat.le_of_eq rfl) (hb hby at_349) (fun _ _ => ⟨rfl, e27, (by decide : 1 + 0 ≤ _), (by decide : 14 + 0 ≤ _)⟩)
    dsimp only [Pt.U, Pt.locs, Pt.cells, Pt.slots] at X28 l28 y28 z28 st28 hQ28
    subst l28 y28 z28
    obtain ⟨rfl, N28q, e28⟩ := hQ28
    have N28 := Fr.app N27 N28q
    obtain ⟨J28, X28, N28⟩ := own_hide X28 N28
    refine own_Go.of (g' := (mkF m 352 #[.val (.long x0), .second, .val (.int x1), .val (.int x2), .val (.int x3), .val (.long V), .second, .val (.int (0 : Int32)), .val (.int sv), .val (.ref b1), .val (.int (own_len V)), .val (.int ((0 : Int32) + (own_len V))), .val (.int (1 : Int32))] [(.int (own_chk (10 : Int32) (0 : Int32) V (own_len V) sv (own_at 0 10 V zz))), (.int (1 : Int32))])) (fun t k => st28 _ k) ?_
    rw [show (own_chk (10 : Int32) (0 : Int32) V (own_len V) sv (own_at 0 10 V zz)) = (1 : Int32) from own_chk_ok hV hzz 0 10 (by decide) (by decide)]
    refine og_iand (pc' := 353) X28 hx (hb hby at_352) rfl ?_
    rw [show ((1 : Int32) &&& (1 : Int32)) = (1 : Int32) from by decide]
    refine og_istore (pc' := 355) (L' := #[.val (.long x0), .second, .val (.int x1), .val (.int x2), .val (.int x3), .val (.long V), .second, .val (.int (0 : Int32)), .val (.int sv), .val (.ref b1), .val (.int (own_len V)), .val (.int ((0 : Int32) + (own_len V))), .val (.int (1 : Int32))]) X28 hx (hb hby at_353) rfl rfl ?_
    refine og_iload (pc' := 357) X28 hx (hb hby at_355) rfl rfl ?_
    refine og_aload (pc' := 359) X28 hx (hb hby at_357) rfl rfl rfl ?_
    refine og_bipush (pc' := 361) (n := 11) X28 hx (hb hby at_359) rfl rfl ?_
    refine og_iload (pc' := 363) X28 hx (hb hby at_361) rfl rfl ?_
    refine og_lload (pc' := 365) X28 hx (hb hby at_363) rfl rfl ?_
    refine og_iload (pc' := 367) X28 hx (hb hby at_365) rfl rfl ?_
    refine og_iload (pc' := 369) X28 hx (hb hby at_367) rfl rfl ?_
    obtain ⟨_, _, ⟨T29, L29, k29, n29⟩, -, X29, ⟨Lc29, hQ29, l29, y29, z29⟩, st29⟩ := Jvm.LawKit.callS X28 hx (y := (⟨"com/example/skorr/skorr/index/IndexFormatWriteVarintPinLaw", "check", "([BIIJIB)Z"⟩ : MethodName)) hown (mvT hZ (hw _ (List.mem_of_getElem? (i := 12) rfl))) (mvT hZ (hw _ (List.mem_of_getElem? (i := 13) rfl))) (mvT hZ (hw _ (List.mem_of_getElem? (i := 4) rfl))) (mvT hZ (hw _ (List.mem_of_getElem? (i := 14) rfl))) (by decide) (backOf (W := 1) (rmchk l Z a0 hw [] b1 (11 : Int32) (0 : Int32) V (own_len V) sv k1 (own_lst 0 V zz) (own_at 0 11 V zz) T17.heap n0 Z17 c17_0 ⟨by decide, by decide⟩ (own_hat 0 11 V zz)) hZ (hw _ (List.mem_of_getElem? (i := 14) rfl)) (hw _ (List.mem_of_getElem? (i := 4) rfl)) (by decide) (by decide)) (g := (mkF m 369 #[.val (.long x0), .second, .val (.int x1), .val (.int x2), .val (.int x3), .val (.long V), .second, .val (.int (0 : Int32)), .val (.int sv), .val (.ref b1), .val (.int (own_len V)), .val (.int ((0 : Int32) + (own_len V))), .val (.int (1 : Int32))] [(.int sv), (.int (own_len V)), (.long V), (.int (0 : Int32)), (.int (11 : Int32)), (.ref b1), (.int (1 : Int32))])) rfl (by rw [hml]; rfl) (argsL := [(.ref b1), (.int (11 : Int32)), (.int (0 : Int32)), (.long V), (.int (own_len V)), (.int sv)]) (rest := [(.int (1 : Int32))]) (lenOf pd_2 rfl) rfl (by show 2 * 0 + _ ≤ _; exact Nat.le_of_eq rfl) (hb hby at_369) (fun _ _ => ⟨rfl, e28, (by decide : 1 + 0 ≤ _), (by decide : 14 + 0 ≤ _)⟩)
    dsimp only [Pt.U, Pt.locs, Pt.cells, Pt.slots] at X29 l29 y29 z29 st29 hQ29
    subst l29 y29 z29
    obtain ⟨rfl, N29q, e29⟩ := hQ29
    have N29 := Fr.app N28 N29q
    obtain ⟨J29, X29, N29⟩ := own_hide X29 N29
    refine own_Go.of (g' := (mkF m 372 #[.val (.long x0), .second, .val (.int x1), .val (.int x2), .val (.int x3), .val (.long V), .second, .val (.int (0 : Int32)), .val (.int sv), .val (.ref b1), .val (.int (own_len V)), .val (.int ((0 : Int32) + (own_len V))), .val (.int (1 : Int32))] [(.int (own_chk (11 : Int32) (0 : Int32) V (own_len V) sv (own_at 0 11 V zz))), (.int (1 : Int32))])) (fun t k => st29 _ k) ?_
    rw [show (own_chk (11 : Int32) (0 : Int32) V (own_len V) sv (own_at 0 11 V zz)) = (1 : Int32) from own_chk_ok hV hzz 0 11 (by decide) (by decide)]
    refine og_iand (pc' := 373) X29 hx (hb hby at_372) rfl ?_
    rw [show ((1 : Int32) &&& (1 : Int32)) = (1 : Int32) from by decide]
    refine og_istore (pc' := 375) (L' := #[.val (.long x0), .second, .val (.int x1), .val (.int x2), .val (.int x3), .val (.long V), .second, .val (.int (0 : Int32)), .val (.int sv), .val (.ref b1), .val (.int (own_len V)), .val (.int ((0 : Int32) + (own_len V))), .val (.int (1 : Int32))]) X29 hx (hb hby at_373) rfl rfl ?_
    refine og_iload (pc' := 377) X29 hx (hb hby at_375) rfl rfl ?_
    refine og_aload (pc' := 379) X29 hx (hb hby at_377) rfl rfl rfl ?_
    refine og_bipush (pc' := 381) (n := 12) X29 hx (hb hby at_379) rfl rfl ?_
    refine og_iload (pc' := 383) X29 hx (hb hby at_381) rfl rfl ?_
    refine og_lload (pc' := 385) X29 hx (hb hby at_383) rfl rfl ?_
    refine og_iload (pc' := 387) X29 hx (hb hby at_385) rfl rfl ?_
    refine og_iload (pc' := 389) X29 hx (hb hby at_387) rfl rfl ?_
    obtain ⟨_, _, ⟨T30, L30, k30, n30⟩, -, X30, ⟨Lc30, hQ30, l30, y30, z30⟩, st30⟩ := Jvm.LawKit.callS X29 hx (y := (⟨"com/example/skorr/skorr/index/IndexFormatWriteVarintPinLaw", "check", "([BIIJIB)Z"⟩ : MethodName)) hown (mvT hZ (hw _ (List.mem_of_getElem? (i := 12) rfl))) (mvT hZ (hw _ (List.mem_of_getElem? (i := 13) rfl))) (mvT hZ (hw _ (List.mem_of_getElem? (i := 4) rfl))) (mvT hZ (hw _ (List.mem_of_getElem? (i := 14) rfl))) (by decide) (backOf (W := 1) (rmchk l Z a0 hw [] b1 (12 : Int32) (0 : Int32) V (own_len V) sv k1 (own_lst 0 V zz) (own_at 0 12 V zz) T17.heap n0 Z17 c17_0 ⟨by decide, by decide⟩ (own_hat 0 12 V zz)) hZ (hw _ (List.mem_of_getElem? (i := 14) rfl)) (hw _ (List.mem_of_getElem? (i := 4) rfl)) (by decide) (by decide)) (g := (mkF m 389 #[.val (.long x0), .second, .val (.int x1), .val (.int x2), .val (.int x3), .val (.long V), .second, .val (.int (0 : Int32)), .val (.int sv), .val (.ref b1), .val (.int (own_len V)), .val (.int ((0 : Int32) + (own_len V))), .val (.int (1 : Int32))] [(.int sv), (.int (own_len V)), (.long V), (.int (0 : Int32)), (.int (12 : Int32)), (.ref b1), (.int (1 : Int32))])) rfl (by rw [hml]; rfl) (argsL := [(.ref b1), (.int (12 : Int32)), (.int (0 : Int32)), (.long V), (.int (own_len V)), (.int sv)]) (rest := [(.int (1 : Int32))]) (lenOf pd_2 rfl) rfl (by show 2 * 0 + _ ≤ _; exact Nat.le_of_eq rfl) (hb hby at_389) (fun _ _ => ⟨rfl, e29, (by decide : 1 + 0 ≤ _), (by decide : 14 + 0 ≤ _)⟩)
    dsimp only [Pt.U, Pt.locs, Pt.cells, Pt.slots] at X30 l30 y30 z30 st30 hQ30
    subst l30 y30 z30
    obtain ⟨rfl, N30q, e30⟩ := hQ30
    have N30 := Fr.app N29 N30q
    obtain ⟨J30, X30, N30⟩ := own_hide X30 N30
    refine own_Go.of (g' := (mkF m 392 #[.val (.long x0), .second, .val (.int x1), .val (.int x2), .val (.int x3), .val (.long V), .second, .val (.int (0 : Int32)), .val (.int sv), .val (.ref b1), .val (.int (own_len V)), .val (.int ((0 : Int32) + (own_len V))), .val (.int (1 : Int32))] [(.int (own_chk (12 : Int32) (0 : Int32) V (own_len V) sv (own_at 0 12 V zz))), (.int (1 : Int32))])) (fun t k => st30 _ k) ?_
    rw [show (own_chk (12 : Int32) (0 : Int32) V (own_len V) sv (own_at 0 12 V zz)) = (1 : Int32) from own_chk_ok hV hzz 0 12 (by decide) (by decide)]
    refine og_iand (pc' := 393) X30 hx (hb hby at_392) rfl ?_
    rw [show ((1 : Int32) &&& (1 : Int32)) = (1 : Int32) from by decide]
    refine og_istore (pc' := 395) (L' := #[.val (.long x0), .second, .val (.int x1), .val (.int x2), .val (.int x3), .val (.long V), .second, .val (.int (0 : Int32)), .val (.int sv), .val (.ref b1), .val (.int (own_len V)), .val (.int ((0 : Int32) + (own_len V))), .val (.int (1 : Int32))]) X30 hx (hb hby at_393) rfl rfl ?_
    refine og_iload (pc' := 397) X30 hx (hb hby at_395) rfl rfl ?_
    refine og_aload (pc' := 399) X30 hx (hb hby at_397) rfl rfl rfl ?_
    refine og_bipush (pc' := 401) (n := 13) X30 hx (hb hby at_399) rfl rfl ?_
    refine og_iload (pc' := 403) X30 hx (hb hby at_401) rfl rfl ?_
    refine og_lload (pc' := 405) X30 hx (hb hby at_403) rfl rfl ?_
    refine og_iload (pc' := 407) X30 hx (hb hby at_405) rfl rfl ?_
    refine og_iload (pc' := 409) X30 hx (hb hby at_407) rfl rfl ?_
    obtain ⟨_, _, ⟨T31, L31, k31, n31⟩, -, X31, ⟨Lc31, hQ31, l31, y31, z31⟩, st31⟩ := Jvm.LawKit.callS X30 hx (y := (⟨"com/example/skorr/skorr/index/IndexFormatWriteVarintPinLaw", "check", "([BIIJIB)Z"⟩ : MethodName)) hown (mvT hZ (hw _ (List.mem_of_getElem? (i := 12) rfl))) (mvT hZ (hw _ (List.mem_of_getElem? (i := 13) rfl))) (mvT hZ (hw _ (List.mem_of_getElem? (i := 4) rfl))) (mvT hZ (hw _ (List.mem_of_getElem? (i := 14) rfl))) (by decide) (backOf (W := 1) (rmchk l Z a0 hw [] b1 (13 : Int32) (0 : Int32) V (own_len V) sv k1 (own_lst 0 V zz) (own_at 0 13 V zz) T17.heap n0 Z17 c17_0 ⟨by decide, by decide⟩ (own_hat 0 13 V zz)) hZ (hw _ (List.mem_of_getElem? (i := 14) rfl)) (hw _ (List.mem_of_getElem? (i := 4) rfl)) (by decide) (by decide)) (g := (mkF m 409 #[.val (.long x0), .second, .val (.int x1), .val (.int x2), .val (.int x3), .val (.long V), .second, .val (.int (0 : Int32)), .val (.int sv), .val (.ref b1), .val (.int (own_len V)), .val (.int ((0 : Int32) + (own_len V))), .val (.int (1 : Int32))] [(.int sv), (.int (own_len V)), (.long V), (.int (0 : Int32)), (.int (13 : Int32)), (.ref b1), (.int (1 : Int32))])) rfl (by rw [hml]; rfl) (argsL := [(.ref b1), (.int (13 : Int32)), (.int (0 : Int32)), (.long V), (.int (own_len V)), (.int sv)]) (rest := [(.int (1 : Int32))]) (lenOf pd_2 rfl) rfl (by show 2 * 0 + _ ≤ _; exact Nat.le_of_eq rfl) (hb hby at_409) (fun _ _ => ⟨rfl, e30, (by decide : 1 + 0 ≤ _), (by decide : 14 + 0 ≤ _)⟩)
    dsimp only [Pt.U, Pt.locs, Pt.cells, Pt.slots] at X31 l31 y31 z31 st31 hQ31
    subst l31 y31 z31
    obtain ⟨rfl, N31q, e31⟩ := hQ31
    have N31 := Fr.app N30 N31q
    obtain ⟨J31, X31, N31⟩ := own_hide X31 N31
    refine own_Go.of (g' := (mkF m 412 #[.val (.long x0), .second, .val (.int x1), .val (.int x2), .val (.int x3), .val (.long V), .second, .val (.int (0 : Int32)), .val (.int sv), .val (.ref b1), .val (.int (own_len V)), .val (.int ((0 : Int32) + (own_len V))), .val (.int (1 : Int32))] [(.int (own_chk (13 : Int32) (0 : Int32) V (own_len V) sv (own_at 0 13 V zz))), (.int (1 : Int32))])) (fun t k => st31 _ k) ?_
    rw [show (own_chk (13 : Int32) (0 : Int32) V (own_len V) sv (own_at 0 13 V zz)) = (1 : Int32) from own_chk_ok hV hzz 0 13 (by decide) (by decide)]
    refine og_iand (pc' := 413) X31 hx (hb hby at_412) rfl ?_
    rw [show ((1 : Int32) &&& (1 : Int32)) = (1 : Int32) from by decide]
    refine og_istore (pc' := 415) (L' := #[.val (.long x0), .second, .val (.int x1), .val (.int x2), .val (.int x3), .val (.long V), .second, .val (.int (0 : Int32)), .val (.int sv), .val (.ref b1), .val (.int (own_len V)), .val (.int ((0 : Int32) + (own_len V))), .val (.int (1 : Int32))]) X31 hx (hb hby at_413) rfl rfl ?_
    refine og_iload (pc' := 417) X31 hx (hb hby at_415) rfl rfl ?_
    obtain ⟨fs, hr, hrun, hended, hW, hsame⟩ := X31.leave (v := some (.int (1 : Int32))) (fun h => by rw [Bd.returns] at h; cases h) (BodyLoose.notSynchronized Bd)
    refine ⟨_, _, retN X31 hx (t := .boolean) Bd.returns (by simp) (hb hby at_417) hr, hrun, hended, some (.int (1 : Int32)), _, rfl, ?_, ⟨_, rfl⟩, hW, hsame.mono (by decide) (by decide)⟩
    show Q0 Z x0 x1 x2 x3 h0 n0 _ T31.heap _
    rw [e31]
    exact ⟨rfl, N31⟩
  · rw [e]
    refine og_lload (pc' := 108) X15 hx (hb hby at_106) rfl rfl ?_
    obtain ⟨_, _, ⟨T32, L32, k32, n32⟩, -, X32, ⟨Lc32, hQ32, l32, y32, z32⟩, st32⟩ := Jvm.LawKit.callS X15 hx (y := (⟨"com/example/skorr/skorr/index/IndexFormatWriteVarintPinLaw", "length", "(J)I"⟩ : MethodName)) hown (mvT hZ (hw _ (List.mem_of_getElem? (i := 2) rfl))) (mvT hZ (hw _ (List.mem_of_getElem? (i := 3) rfl))) (mvT hZ (hw _ (List.mem_of_getElem? (i := 4) rfl))) (mvT hZ (hw _ (List.mem_of_getElem? (i := 5) rfl))) (by decide) (backOf (W := 0) (rmlen l Z a0 hw [] V h15 n0 Z15 ) hZ (hw _ (List.mem_of_getElem? (i := 5) rfl)) (hw _ (List.mem_of_getElem? (i := 4) rfl)) (by decide) (by decide)) (g := (mkF m 108 #[.val (.long x0), .second, .val (.int x1), .val (.int x2), .val (.int x3), .val (.long V), .second, .val (.int (1 : Int32)), .val (.int sv), .val (.ref b1), .unset, .unset, .unset] [(.long V)])) rfl (by rw [hml]; rfl) (argsL := [(.long V)]) (rest := []) (lenOf pd_0 rfl) rfl (by show 2 * 0 + _ ≤ _; exact Nat.le_of_eq rfl) (hb hby at_108) (fun _ _ => ⟨rfl, e15, (by decide : 1 + 0 ≤ _), (by decide : 14 + 0 ≤ _)⟩)
    dsimp only [Pt.U, Pt.locs, Pt.cells, Pt.slots] at X32 l32 y32 z32 st32 hQ32
    subst l32 y32 z32
    obtain ⟨rfl, N32q, e32⟩ := hQ32
    have N32 := Fr.app N15 N32q
    obtain ⟨J32, X32, N32⟩ := own_hide X32 N32
    refine own_Go.of (g' := (mkF m 111 #[.val (.long x0), .second, .val (.int x1), .val (.int x2), .val (.int x3), .val (.long V), .second, .val (.int (1 : Int32)), .val (.int sv), .val (.ref b1), .unset, .unset, .unset] [(.int (own_len V))])) (fun t k => st32 _ k) ?_
    refine og_istore (pc' := 113) (L' := #[.val (.long x0), .second, .val (.int x1), .val (.int x2), .val (.int x3), .val (.long V), .second, .val (.int (1 : Int32)), .val (.int sv), .val (.ref b1), .val (.int (own_len V)), .unset, .unset]) X32 hx (hb hby at_111) rfl rfl ?_
    refine og_lload (pc' := 115) X32 hx (hb hby at_113) rfl rfl ?_
    refine og_aload (pc' := 117) X32 hx (hb hby at_115) rfl rfl rfl ?_
    refine og_iload (pc' := 119) X32 hx (hb hby at_117) rfl rfl ?_
    obtain ⟨_, _, ⟨T33, L33, k33, n33⟩, -, X33, ⟨Lc33, hQ33, l33, y33, z33⟩, st33⟩ := Jvm.LawKit.callS X32 hx (y := (⟨"com/example/skorr/skorr/index/IndexFormat", "writeVarint", "(J[BI)I"⟩ : MethodName)) hown (mvT hZ (hw _ (List.mem_of_getElem? (i := 7) rfl))) (mvT hZ (hw _ (List.mem_of_getElem? (i := 8) rfl))) (mvT hZ (hw _ (List.mem_of_getElem? (i := 9) rfl))) (mvT hZ (hw _ (List.mem_of_getElem? (i := 10) rfl))) (by decide) (backOf (W := 0) (rmwr1 l Z a0 hw [] V b1 k1 zz h15 n0 Z15 VZ g_b1 hV) hZ (hw _ (List.mem_of_getElem? (i := 10) rfl)) (hw _ (List.mem_of_getElem? (i := 9) rfl)) (by decide) (by decide)) (g := (mkF m 119 #[.val (.long x0), .second, .val (.int x1), .val (.int x2), .val (.int x3), .val (.long V), .second, .val (.int (1 : Int32)), .val (.int sv), .val (.ref b1), .val (.int (own_len V)), .unset, .unset] [(.int (1 : Int32)), (.ref b1), (.long V)])) rfl (by rw [hml]; rfl) (argsL := [(.long V), (.ref b1), (.int (1 : Int32))]) (rest := []) (lenOf pd_1 rfl) rfl (by show 2 * 0 + _ ≤ _; exact Nat.le_of_eq rfl) (hb hby at_119) (fun _ _ => ⟨rfl, e32, (by decide : 1 + 0 ≤ _), (by decide : 14 + 0 ≤ _)⟩)
    dsimp only [Pt.U, Pt.locs, Pt.cells, Pt.slots] at X33 l33 y33 z33 st33 hQ33
    subst l33 y33 z33
    obtain ⟨rfl, N33q, K33q, c33_0⟩ := hQ33
    have N33 := Fr.app N32 N33q
    obtain ⟨J33, X33, N33⟩ := own_hide X33 N33
    have K33 : Keep h0 T33.heap [] := K15.trans K33q (allS (Or.inr sz_b1) all0)
    have Z33 : n0 ≤ T33.heap.size := Nat.le_trans Z0 K33.1
    refine own_Go.of (g' := (mkF m 122 #[.val (.long x0), .second, .val (.int x1), .val (.int x2), .val (.int x3), .val (.long V), .second, .val (.int (1 : Int32)), .val (.int sv), .val (.ref b1), .val (.int (own_len V)), .unset, .unset] [(.int ((1 : Int32) + (own_len V)))])) (fun t k => st33 _ k) ?_
    refine og_istore (pc' := 124) (L' := #[.val (.long x0), .second, .val (.int x1), .val (.int x2), .val (.int x3), .val (.long V), .second, .val (.int (1 : Int32)), .val (.int sv), .val (.ref b1), .val (.int (own_len V)), .val (.int ((1 : Int32) + (own_len V))), .unset]) X33 hx (hb hby at_122) rfl rfl ?_
    refine og_iload (pc' := 126) X33 hx (hb hby at_124) rfl rfl ?_
    refine og_iload (pc' := 128) X33 hx (hb hby at_126) rfl rfl ?_
    refine og_iload (pc' := 130) X33 hx (hb hby at_128) rfl rfl ?_
    refine og_iadd (pc' := 131) X33 hx (hb hby at_130) rfl ?_
    refine og_icmpNo (pc' := 134) X33 hx (hb hby at_131) (teq rfl).2 rfl ?_
    refine og_iconst (pc' := 135) (n := 1) X33 hx (hb hby at_134) rfl rfl ?_
    refine og_goto (pc' := 139) X33 hx (hb hby at_135) (by decide) (by decide) ?_
    refine og_istore (pc' := 141) (L' := #[.val (.long x0), .second, .val (.int x1), .val (.int x2), .val (.int x3), .val (.long V), .second, .val (.int (1 : Int32)), .val (.int sv), .val (.ref b1), .val (.int (own_len V)), .val (.int ((1 : Int32) + (own_len V))), .val (.int (1 : Int32))]) X33 hx (hb hby at_139) rfl rfl ?_
    refine og_iload (pc' := 143) X33 hx (hb hby at_141) rfl rfl ?_
    refine og_aload (pc' := 145) X33 hx (hb hby at_143) rfl rfl rfl ?_
    refine og_iconst (pc' := 146) (n := 0) X33 hx (hb hby at_145) rfl rfl ?_
    refine og_iload (pc' := 148) X33 hx (hb hby at_146) rfl rfl ?_
    refine og_lload (pc' := 150) X33 hx (hb hby at_148) rfl rfl ?_
    refine og_iload (pc' := 152) X33 hx (hb hby at_150) rfl rfl ?_
    refine og_iload (pc' := 154) X33 hx (hb hby at_152) rfl rfl ?_
    obtain ⟨_, _, ⟨T34, L34, k34, n34⟩, -, X34, ⟨Lc34, hQ34, l34, y34, z34⟩, st34⟩ := Jvm.LawKit.callS X33 hx (y := (⟨"com/example/skorr/skorr/index/IndexFormatWriteVarintPinLaw", "check", "([BIIJIB)Z"⟩ : MethodName)) hown (mvT hZ (hw _ (List.mem_of_getElem? (i := 12) rfl))) (mvT hZ (hw _ (List.mem_of_getElem? (i := 13) rfl))) (mvT hZ (hw _ (List.mem_of_getElem? (i := 4) rfl))) (mvT hZ (hw _ (List.mem_of_getElem? (i := 14) rfl))) (by decide) (backOf (W := 1) (rmchk l Z a0 hw [] b1 (0 : Int32) (1 : Int32) V (own_len V) sv k1 (own_lst 1 V zz) (own_at 1 0 V zz) T33.heap n0 Z33 c33_0 ⟨by decide, by decide⟩ (own_hat 1 0 V zz)) hZ (hw _ (List.mem_of_getElem? (i := 14) rfl)) (hw _ (List.mem_of_getElem? (i := 4) rfl)) (by decide) (by decide)) (g := (mkF m 154 #[.val (.long x0), .second, .val (.int x1), .val (.int x2), .val (.int x3), .val (.long V), .second, .val (.int (1 : Int32)), .val (.int sv), .val (.ref b1), .val (.int (own_len V)), .val (.int ((1 : Int32) + (own_len V))), .val (.int (1 : Int32))] [(.int sv), (.int (own_len V)), (.long V), (.int (1 : Int32)), (.int (0 : Int32)), (.ref b1), (.int (1 : Int32))])) rfl (by rw [hml]; rfl) (argsL := [(.ref b1), (.int (0 : Int32)), (.int (1 : Int32)), (.long V), (.int (own_len V)), (.int sv)]) (rest := [(.int (1 : Int32))]) (lenOf pd_2 rfl) rfl (by show 2 * 0 + _ ≤ _; exact Nat.le_of_eq rfl) (hb hby at_154) (fun _ _ => ⟨rfl, rfl, (by decide : 1 + 0 ≤ _), (by decide : 14 + 0 ≤ _)⟩)
    dsimp only [Pt.U, Pt.locs, Pt.cells, Pt.slots] at X34 l34 y34 z34 st34 hQ34
    subst l34 y34 z34
    obtain ⟨rfl, N34q, e34⟩ := hQ34
    have N34 := Fr.app N33 N34q
    obtain ⟨J34, X34, N34⟩ := own_hide X34 N34
    refine own_Go.of (g' := (mkF m 157 #[.val (.long x0), .second, .val (.int x1), .val (.int x2), .val (.int x3), .val (.long V), .second, .val (.int (1 : Int32)), .val (.int sv), .val (.ref b1), .val (.int (own_len V)), .val (.int ((1 : Int32) + (own_len V))), .val (.int (1 : Int32))] [(.int (own_chk (0 : Int32) (1 : Int32) V (own_len V) sv (own_at 1 0 V zz))), (.int (1 : Int32))])) (fun t k => st34 _ k) ?_
    rw [show (own_chk (0 : Int32) (1 : Int32) V (own_len V) sv (own_at 1 0 V zz)) = (1 : Int32) from own_chk_ok hV hzz 1 0 (by decide) (by decide)]
    refine og_iand (pc' := 158) X34 hx (hb hby at_157) rfl ?_
    rw [show ((1 : Int32) &&& (1 : Int32)) = (1 : Int32) from by decide]
    refine og_istore (pc' := 160) (L' := #[.val (.long x0), .second, .val (.int x1), .val (.int x2), .val (.int x3), .val (.long V), .second, .val (.int (1 : Int32)), .val (.int sv), .val (.ref b1), .val (.int (own_len V)), .val (.int ((1 : Int32) + (own_len V))), .val (.int (1 : Int32))]) X34 hx (hb hby at_158) rfl rfl ?_
    refine og_iload (pc' := 162) X34 hx (hb hby at_160) rfl rfl ?_
    refine og_aload (pc' := 164) X34 hx (hb hby at_162) rfl rfl rfl ?_
    refine og_iconst (pc' := 165) (n := 1) X34 hx (hb hby at_164) rfl rfl ?_
    refine og_iload (pc' := 167) X34 hx (hb hby at_165) rfl rfl ?_
    refine og_lload (pc' := 169) X34 hx (hb hby at_167) rfl rfl ?_
    refine og_iload (pc' := 171) X34 hx (hb hby at_169) rfl rfl ?_
    refine og_iload (pc' := 173) X34 hx (hb hby at_171) rfl rfl ?_
    obtain ⟨_, _, ⟨T35, L35, k35, n35⟩, -, X35, ⟨Lc35, hQ35, l35, y35, z35⟩, st35⟩ := Jvm.LawKit.callS X34 hx (y := (⟨"com/example/skorr/skorr/index/IndexFormatWriteVarintPinLaw", "check", "([BIIJIB)Z"⟩ : MethodName)) hown (mvT hZ (hw _ (List.mem_of_getElem? (i := 12) rfl))) (mvT hZ (hw _ (List.mem_of_getElem? (i := 13) rfl))) (mvT hZ (hw _ (List.mem_of_getElem? (i := 4) rfl))) (mvT hZ (hw _ (List.mem_of_getElem? (i := 14) rfl))) (by decide) (backOf (W := 1) (rmchk l Z a0 hw [] b1 (1 : Int32) (1 : Int32) V (own_len V) sv k1 (own_lst 1 V zz) (own_at 1 1 V zz) T33.heap n0 Z33 c33_0 ⟨by decide, by decide⟩ (own_hat 1 1 V zz)) hZ (hw _ (List.mem_of_getElem? (i := 14) rfl)) (hw _ (List.mem_of_getElem? (i := 4) rfl)) (by decide) (by decide)) (g := (mkF m 173 #[.val (.long x0), .second, .val (.int x1), .val (.int x2), .val (.int x3), .val (.long V), .second, .val (.int (1 : Int32)), .val (.int sv), .val (.ref b1), .val (.int (own_len V)), .val (.int ((1 : Int32) + (own_len V))), .val (.int (1 : Int32))] [(.int sv), (.int (own_len V)), (.long V), (.int (1 : Int32)), (.int (1 : Int32)), (.ref b1), (.int (1 : Int32))])) rfl (by rw [hml]; rfl) (argsL := [(.ref b1), (.int (1 : Int32)), (.int (1 : Int32)), (.long V), (.int (own_len V)), (.int sv)]) (rest := [(.int (1 : Int32))]) (lenOf pd_2 rfl) rfl (by show 2 * 0 + _ ≤ _; exact Nat.le_of_eq rfl) (hb hby at_173) (fun _ _ => ⟨rfl, e34, (by decide : 1 + 0 ≤ _), (by decide : 14 + 0 ≤ _)⟩)
    dsimp only [Pt.U, Pt.locs, Pt.cells, Pt.slots] at X35 l35 y35 z35 st35 hQ35
    subst l35 y35 z35
    obtain ⟨rfl, N35q, e35⟩ := hQ35
    have N35 := Fr.app N34 N35q
    obtain ⟨J35, X35, N35⟩ := own_hide X35 N35
    refine own_Go.of (g' := (mkF m 176 #[.val (.long x0), .second, .val (.int x1), .val (.int x2), .val (.int x3), .val (.long V), .second, .val (.int (1 : Int32)), .val (.int sv), .val (.ref b1), .val (.int (own_len V)), .val (.int ((1 : Int32) + (own_len V))), .val (.int (1 : Int32))] [(.int (own_chk (1 : Int32) (1 : Int32) V (own_len V) sv (own_at 1 1 V zz))), (.int (1 : Int32))])) (fun t k => st35 _ k) ?_
    rw [show (own_chk (1 : Int32) (1 : Int32) V (own_len V) sv (own_at 1 1 V zz)) = (1 : Int32) from own_chk_ok hV hzz 1 1 (by decide) (by decide)]
    refine og_iand (pc' := 177) X35 hx (hb hby at_176) rfl ?_
    rw [show ((1 : Int32) &&& (1 : Int32)) = (1 : Int32) from by decide]
    refine og_istore (pc' := 179) (L' := #[.val (.long x0), .second, .val (.int x1), .val (.int x2), .val (.int x3), .val (.long V), .second, .val (.int (1 : Int32)), .val (.int sv), .val (.ref b1), .val (.int (own_len V)), .val (.int ((1 : Int32) + (own_len V))), .val (.int (1 : Int32))]) X35 hx (hb hby at_177) rfl rfl ?_
    refine og_iload (pc' := 181) X35 hx (hb hby at_179) rfl rfl ?_
    refine og_aload (pc' := 183) X35 hx (hb hby at_181) rfl rfl rfl ?_
    refine og_iconst (pc' := 184) (n := 2) X35 hx (hb hby at_183) rfl rfl ?_
    refine og_iload (pc' := 186) X35 hx (hb hby at_184) rfl rfl ?_
    refine og_lload (pc' := 188) X35 hx (hb hby at_186) rfl rfl ?_
    refine og_iload (pc' := 190) X35 hx (hb hby at_188) rfl rfl ?_
    refine og_iload (pc' := 192) X35 hx (hb hby at_190) rfl rfl ?_
    obtain ⟨_, _, ⟨T36, L36, k36, n36⟩, -, X36, ⟨Lc36, hQ36, l36, y36, z36⟩, st36⟩ := Jvm.LawKit.callS X35 hx (y := (⟨"com/example/skorr/skorr/index/IndexFormatWriteVarintPinLaw", "check", "([BIIJIB)Z"⟩ : MethodName)) hown (mvT hZ (hw _ (List.mem_of_getElem? (i := 12) rfl))) (mvT hZ (hw _ (List.mem_of_getElem? (i := 13) rfl))) (mvT hZ (hw _ (List.mem_of_getElem? (i := 4) rfl))) (mvT hZ (hw _ (List.mem_of_getElem? (i := 14) rfl))) (by decide) (backOf (W := 1) (rmchk l Z a0 hw [] b1 (2 : Int32) (1 : Int32) V (own_len V) sv k1 (own_lst 1 V zz) (own_at 1 2 V zz) T33.heap n0 Z33 c33_0 ⟨by decide, by decide⟩ (own_hat 1 2 V zz)) hZ (hw _ (List.mem_of_getElem? (i := 14) rfl)) (hw _ (List.mem_of_getElem? (i := 4) rfl)) (by decide) (by decide)) (g := (mkF m 192 #[.val (.long x0), .second, .val (.int x1), .val (.int x2), .val (.int x3), .val (.long V), .second, .val (.int (1 : Int32)), .val (.int sv), .val (.ref b1), .val (.int (own_len V)), .val (.int ((1 : Int32) + (own_len V))), .val (.int (1 : Int32))] [(.int sv), (.int (own_len V)), (.long V), (.int (1 : Int32)), (.int (2 : Int32)), (.ref b1), (.int (1 : Int32))])) rfl (by rw [hml]; rfl) (argsL := [(.ref b1), (.int (2 : Int32)), (.int (1 : Int32)), (.long V), (.int (own_len V)), (.int sv)]) (rest := [(.int (1 : Int32))]) (lenOf pd_2 rfl) rfl (by show 2 * 0 + _ ≤ _; exact Nat.le_of_eq rfl) (hb hby at_192) (fun _ _ => ⟨rfl, e35, (by decide : 1 + 0 ≤ _), (by decide : 14 + 0 ≤ _)⟩)
    dsimp only [Pt.U, Pt.locs, Pt.cells, Pt.slots] at X36 l36 y36 z36 st36 hQ36
    subst l36 y36 z36
    obtain ⟨rfl, N36q, e36⟩ := hQ36
    have N36 := Fr.app N35 N36q
    obtain ⟨J36, X36, N36⟩ := own_hide X36 N36
    refine own_Go.of (g' := (mkF m 195 #[.val (.long x0), .second, .val (.int x1), .val (.int x2), .val (.int x3), .val (.long V), .second, .val (.int (1 : Int32)), .val (.int sv), .val (.ref b1), .val (.int (own_len V)), .val (.int ((1 : Int32) + (own_len V))), .val (.int (1 : Int32))] [(.int (own_chk (2 : Int32) (1 : Int32) V (own_len V) sv (own_at 1 2 V zz))), (.int (1 : Int32))])) (fun t k => st36 _ k) ?_
    rw [show (own_chk (2 : Int32) (1 : Int32) V (own_len V) sv (own_at 1 2 V zz)) = (1 : Int32) from own_chk_ok hV hzz 1 2 (by decide) (by decide)]
    refine og_iand (pc' := 196) X36 hx (hb hby at_195) rfl ?_
    rw [show ((1 : Int32) &&& (1 : Int32)) = (1 : Int32) from by decide]
    refine og_istore (pc' := 198) (L' := #[.val (.long x0), .second, .val (.int x1), .val (.int x2), .val (.int x3), .val (.long V), .second, .val (.int (1 : Int32)), .val (.int sv), .val (.ref b1), .val (.int (own_len V)), .val (.int ((1 : Int32) + (own_len V))), .val (.int (1 : Int32))]) X36 hx (hb hby at_196) rfl rfl ?_
    refine og_iload (pc' := 200) X36 hx (hb hby at_198) rfl rfl ?_
    refine og_aload (pc' := 202) X36 hx (hb hby at_200) rfl rfl rfl ?_
    refine og_iconst (pc' := 203) (n := 3) X36 hx (hb hby at_202) rfl rfl ?_
    refine og_iload (pc' := 205) X36 hx (hb hby at_203) rfl rfl ?_
    refine og_lload (pc' := 207) X36 hx (hb hby at_205) rfl rfl ?_
    refine og_iload (pc' := 209) X36 hx (hb hby at_207) rfl rfl ?_
    refine og_iload (pc' := 211) X36 hx (hb hby at_209) rfl rfl ?_
    obtain ⟨_, _, ⟨T37, L37, k37, n37⟩, -, X37, ⟨Lc37, hQ37, l37, y37, z37⟩, st37⟩ := Jvm.LawKit.callS X36 hx (y := (⟨"com/example/skorr/skorr/index/IndexFormatWriteVarintPinLaw", "check", "([BIIJIB)Z"⟩ : MethodName)) hown (mvT hZ (hw _ (List.mem_of_getElem? (i := 12) rfl))) (mvT hZ (hw _ (List.mem_of_getElem? (i := 13) rfl))) (mvT hZ (hw _ (List.mem_of_getElem? (i := 4) rfl))) (mvT hZ (hw _ (List.mem_of_getElem? (i := 14) rfl))) (by decide) (backOf (W := 1) (rmchk l Z a0 hw [] b1 (3 : Int32) (1 : Int32) V (own_len V) sv k1 (own_lst 1 V zz) (own_at 1 3 V zz) T33.heap n0 Z33 c33_0 ⟨by decide, by decide⟩ (own_hat 1 3 V zz)) hZ (hw _ (List.mem_of_getElem? (i := 14) rfl)) (hw _ (List.mem_of_getElem? (i := 4) rfl)) (by decide) (by decide)) (g := (mkF m 211 #[.val (.long x0), .second, .val (.int x1), .val (.int x2), .val (.int x3), .val (.long V), .second, .val (.int (1 : Int32)), .val (.int sv), .val (.ref b1), .val (.int (own_len V)), .val (.int ((1 : Int32) + (own_len V))), .val (.int (1 : Int32))] [(.int sv), (.int (own_len V)), (.long V), (.int (1 : Int32)), (.int (3 : Int32)), (.ref b1), (.int (1 : Int32))])) rfl (by rw [hml]; rfl) (argsL := [(.ref b1), (.int (3 : Int32)), (.int (1 : Int32)), (.long V), (.int (own_len V)), (.int sv)]) (rest := [(.int (1 : Int32))]) (lenOf pd_2 rfl) rfl (by show 2 * 0 + _ ≤ _; exact Nat.le_of_eq rfl) (hb hby at_211) (fun _ _ => ⟨rfl, e36, (by decide : 1 + 0 ≤ _), (by decide : 14 + 0 ≤ _)⟩)
    dsimp only [Pt.U, Pt.locs, Pt.cells, Pt.slots] at X37 l37 y37 z37 st37 hQ37
    subst l37 y37 z37
    obtain ⟨rfl, N37q, e37⟩ := hQ37
    have N37 := Fr.app N36 N37q
    obtain ⟨J37, X37, N37⟩ := own_hide X37 N37
    refine own_Go.of (g' := (mkF m 214 #[.val (.long x0), .second, .val (.int x1), .val (.int x2), .val (.int x3), .val (.long V), .second, .val (.int (1 : Int32)), .val (.int sv), .val (.ref b1), .val (.int (own_len V)), .val (.int ((1 : Int32) + (own_len V))), .val (.int (1 : Int32))] [(.int (own_chk (3 : Int32) (1 : Int32) V (own_len V) sv (own_at 1 3 V zz))), (.int (1 : Int32))])) (fun t k => st37 _ k) ?_
    rw [show (own_chk (3 : Int32) (1 : Int32) V (own_len V) sv (own_at 1 3 V zz)) = (1 : Int32) from own_chk_ok hV hzz 1 3 (by decide) (by decide)]
    refine og_iand (pc' := 215) X37 hx (hb hby at_214) rfl ?_
    rw [show ((1 : Int32) &&& (1 : Int32)) = (1 : Int32) from by decide]
    refine og_istore (pc' := 217) (L' := #[.val (.long x0), .second, .val (.int x1), .val (.int x2), .val (.int x3), .val (.long V), .second, .val (.int (1 : Int32)), .val (.int sv), .val (.ref b1), .val (.int (own_len V)), .val (.int ((1 : Int32) + (own_len V))), .val (.int (1 : Int32))]) X37 hx (hb hby at_215) rfl rfl ?_
    refine og_iload (pc' := 219) X37 hx (hb hby at_217) rfl rfl ?_
    refine og_aload (pc' := 221) X37 hx (hb hby at_219) rfl rfl rfl ?_
    refine og_iconst (pc' := 222) (n := 4) X37 hx (hb hby at_221) rfl rfl ?_
    refine og_iload (pc' := 224) X37 hx (hb hby at_222) rfl rfl ?_
    refine og_lload (pc' := 226) X37 hx (hb hby at_224) rfl rfl ?_
    refine og_iload (pc' := 228) X37 hx (hb hby at_226) rfl rfl ?_
    refine og_iload (pc' := 230) X37 hx (hb hby at_228) rfl rfl ?_
    obtain ⟨_, _, ⟨T38, L38, k38, n38⟩, -, X38, ⟨Lc38, hQ38, l38, y38, z38⟩, st38⟩ := Jvm.LawKit.callS X37 hx (y := (⟨"com/example/skorr/skorr/index/IndexFormatWriteVarintPinLaw", "check", "([BIIJIB)Z"⟩ : MethodName)) hown (mvT hZ (hw _ (List.mem_of_getElem? (i := 12) rfl))) (mvT hZ (hw _ (List.mem_of_getElem? (i := 13) rfl))) (mvT hZ (hw _ (List.mem_of_getElem? (i := 4) rfl))) (mvT hZ (hw _ (List.mem_of_getElem? (i := 14) rfl))) (by decide) (backOf (W := 1) (rmchk l Z a0 hw [] b1 (4 : Int32) (1 : Int32) V (own_len V) sv k1 (own_lst 1 V zz) (own_at 1 4 V zz) T33.heap n0 Z33 c33_0 ⟨by decide, by decide⟩ (own_hat 1 4 V zz)) hZ (hw _ (List.mem_of_getElem? (i := 14) rfl)) (hw _ (List.mem_of_getElem? (i := 4) rfl)) (by decide) (by decide)) (g := (mkF m 230 #[.val (.long x0), .second, .val (.int x1), .val (.int x2), .val (.int x3), .val (.long V), .second, .val (.int (1 : Int32)), .val (.int sv), .val (.ref b1), .val (.int (own_len V)), .val (.int ((1 : Int32) + (own_len V))), .val (.int (1 : Int32))] [(.int sv), (.int (own_len V)), (.long V), (.int (1 : Int32)), (.int (4 : Int32)), (.ref b1), (.int (1 : Int32))])) rfl (by rw [hml]; rfl) (argsL := [(.ref b1), (.int (4 : Int32)), (.int (1 : Int32)), (.long V), (.int (own_len V)), (.int sv)]) (rest := [(.int (1 : Int32))]) (lenOf pd_2 rfl) rfl (by show 2 * 0 + _ ≤ _; exact Nat.le_of_eq rfl) (hb hby at_230) (fun _ _ => ⟨rfl, e37, (by decide : 1 + 0 ≤ _), (by decide : 14 + 0 ≤ _)⟩)
    dsimp only [Pt.U, Pt.locs, Pt.cells, Pt.slots] at X38 l38 y38 z38 st38 hQ38
    subst l38 y38 z38
    obtain ⟨rfl, N38q, e38⟩ := hQ38
    have N38 := Fr.app N37 N38q
    obtain ⟨J38, X38, N38⟩ := own_hide X38 N38
    refine own_Go.of (g' := (mkF m 233 #[.val (.long x0), .second, .val (.int x1), .val (.int x2), .val (.int x3), .val (.long V), .second, .val (.int (1 : Int32)), .val (.int sv), .val (.ref b1), .val (.int (own_len V)), .val (.int ((1 : Int32) + (own_len V))), .val (.int (1 : Int32))] [(.int (own_chk (4 : Int32) (1 : Int32) V (own_len V) sv (own_at 1 4 V zz))), (.int (1 : Int32))])) (fun t k => st38 _ k) ?_
    rw [show (own_chk (4 : Int32) (1 : Int32) V (own_len V) sv (own_at 1 4 V zz)) = (1 : Int32) from own_chk_ok hV hzz 1 4 (by decide) (by decide)]
    refine og_iand (pc' := 234) X38 hx (hb hby at_233) rfl ?_
    rw [show ((1 : Int32) &&& (1 : Int32)) = (1 : Int32) from by decide]
    refine og_istore (pc' := 236) (L' := #[.val (.long x0), .second, .val (.int x1), .val (.int x2), .val (.int x3), .val (.long V), .second, .val (.int (1 : Int32)), .val (.int sv), .val (.ref b1), .val (.int (own_len V)), .val (.int ((1 : Int32) + (own_len V))), .val (.int (1 : Int32))]) X38 hx (hb hby at_234) rfl rfl ?_
    refine og_iload (pc' := 238) X38 hx (hb hby at_236) rfl rfl ?_
    refine og_aload (pc' := 240) X38 hx (hb hby at_238) rfl rfl rfl ?_
    refine og_iconst (pc' := 241) (n := 5) X38 hx (hb hby at_240) rfl rfl ?_
    refine og_iload (pc' := 243) X38 hx (hb hby at_241) rfl rfl ?_
    refine og_lload (pc' := 245) X38 hx (hb hby at_243) rfl rfl ?_
    refine og_iload (pc' := 247) X38 hx (hb hby at_245) rfl rfl ?_
    refine og_iload (pc' := 249) X38 hx (hb hby at_247) rfl rfl ?_
    obtain ⟨_, _, ⟨T39, L39, k39, n39⟩, -, X39, ⟨Lc39, hQ39, l39, y39, z39⟩, st39⟩ := Jvm.LawKit.callS X38 hx (y := (⟨"com/example/skorr/skorr/index/IndexFormatWriteVarintPinLaw", "check", "([BIIJIB)Z"⟩ : MethodName)) hown (mvT hZ (hw _ (List.mem_of_getElem? (i := 12) rfl))) (mvT hZ (hw _ (List.mem_of_getElem? (i := 13) rfl))) (mvT hZ (hw _ (List.mem_of_getElem? (i := 4) rfl))) (mvT hZ (hw _ (List.mem_of_getElem? (i := 14) rfl))) (by decide) (backOf (W := 1) (rmchk l Z a0 hw [] b1 (5 : Int32) (1 : Int32) V (own_len V) sv k1 (own_lst 1 V zz) (own_at 1 5 V zz) T33.heap n0 Z33 c33_0 ⟨by decide, by decide⟩ (own_hat 1 5 V zz)) hZ (hw _ (List.mem_of_getElem? (i := 14) rfl)) (hw _ (List.mem_of_getElem? (i := 4) rfl)) (by decide) (by decide)) (g := (mkF m 249 #[.val (.long x0), .second, .val (.int x1), .val (.int x2), .val (.int x3), .val (.long V), .second, .val (.int (1 : Int32)), .val (.int sv), .val (.ref b1), .val (.int (own_len V)), .val (.int ((1 : Int32) + (own_len V))), .val (.int (1 : Int32))] [(.int sv), (.int (own_len V)), (.long V), (.int (1 : Int32)), (.int (5 : Int32)), (.ref b1), (.int (1 : Int32))])) rfl (by rw [hml]; rfl) (argsL := [(.ref b1), (.int (5 : Int32)), (.int (1 : Int32)), (.long V), (.int (own_len V)), (.int sv)]) (rest := [(.int (1 : Int32))]) (lenOf pd_2 rfl) rfl (by show 2 * 0 + _ ≤ _; exact Nat.le_of_eq rfl) (hb hby at_249) (fun _ _ => ⟨rfl, e38, (by decide : 1 + 0 ≤ _), (by decide : 14 + 0 ≤ _)⟩)
    dsimp only [Pt.U, Pt.locs, Pt.cells, Pt.slots] at X39 l39 y39 z39 st39 hQ39
    subst l39 y39 z39
    obtain ⟨rfl, N39q, e39⟩ := hQ39
    have N39 := Fr.app N38 N39q
    obtain ⟨J39, X39, N39⟩ := own_hide X39 N39
    refine own_Go.of (g' := (mkF m 252 #[.val (.long x0), .second, .val (.int x1), .val (.int x2), .val (.int x3), .val (.long V), .second, .val (.int (1 : Int32)), .val (.int sv), .val (.ref b1), .val (.int (own_len V)), .val (.int ((1 : Int32) + (own_len V))), .val (.int (1 : Int32))] [(.int (own_chk (5 : Int32) (1 : Int32) V (own_len V) sv (own_at 1 5 V zz))), (.int (1 : Int32))])) (fun t k => st39 _ k) ?_
    rw [show (own_chk (5 : Int32) (1 : Int32) V (own_len V) sv (own_at 1 5 V zz)) = (1 : Int32) from own_chk_ok hV hzz 1 5 (by decide) (by decide)]
    refine og_iand (pc' := 253) X39 hx (hb hby at_252) rfl ?_
    rw [show ((1 : Int32) &&& (1 : Int32)) = (1 : Int32) from by decide]
    refine og_istore (pc' := 255) (L' := #[.val (.long x0), .second, .val (.int x1), .val (.int x2), .val (.int x3), .val (.long V), .second, .val (.int (1 : Int32)), .val (.int sv), .val (.ref b1), .val (.int (own_len V)), .val (.int ((1 : Int32) + (own_len V))), .val (.int (1 : Int32))]) X39 hx (hb hby at_253) rfl rfl ?_
    refine og_iload (pc' := 257) X39 hx (hb hby at_255) rfl rfl ?_
    refine og_aload (pc' := 259) X39 hx (hb hby at_257) rfl rfl rfl ?_
    refine og_bipush (pc' := 261) (n := 6) X39 hx (hb hby at_259) rfl rfl ?_
    refine og_iload (pc' := 263) X39 hx (hb hby at_261) rfl rfl ?_
    refine og_lload (pc' := 265) X39 hx (hb hby at_263) rfl rfl ?_
    refine og_iload (pc' := 267) X39 hx (hb hby at_265) rfl rfl ?_
    refine og_iload (pc' := 269) X39 hx (hb hby at_267) rfl rfl ?_
    obtain ⟨_, _, ⟨T40, L40, k40, n40⟩, -, X40, ⟨Lc40, hQ40, l40, y40, z40⟩, st40⟩ := Jvm.LawKit.callS X39 hx (y := (⟨"com/example/skorr/skorr/index/IndexFormatWriteVarintPinLaw", "check", "([BIIJIB)Z"⟩ : MethodName)) hown (mvT hZ (hw _ (List.mem_of_getElem? (i := 12) rfl))) (mvT hZ (hw _ (List.mem_of_getElem? (i := 13) rfl))) (mvT hZ (hw _ (List.mem_of_getElem? (i := 4) rfl))) (mvT hZ (hw _ (List.mem_of_getElem? (i := 14) rfl))) (by decide) (backOf (W := 1) (rmchk l Z a0 hw [] b1 (6 : Int32) (1 : Int32) V (own_len V) sv k1 (own_lst 1 V zz) (own_at 1 6 V zz) T33.heap n0 Z33 c33_0 ⟨by decide, by decide⟩ (own_hat 1 6 V zz)) hZ (hw _ (List.mem_of_getElem? (i := 14) rfl)) (hw _ (List.mem_of_getElem? (i := 4) rfl)) (by decide) (by decide)) (g := (mkF m 269 #[.val (.long x0), .second, .val (.int x1), .val (.int x2), .val (.int x3), .val (.long V), .second, .val (.int (1 : Int32)), .val (.int sv), .val (.ref b1), .val (.int (own_len V)), .val (.int ((1 : Int32) + (own_len V))), .val (.int (1 : Int32))] [(.int sv), (.int (own_len V)), (.long V), (.int (1 : Int32)), (.int (6 : Int32)), (.ref b1), (.int (1 : Int32))])) rfl (by rw [hml]; rfl) (argsL := [(.ref b1), (.int (6 : Int32)), (.int (1 : Int32)), (.long V), (.int (own_len V)), (.int sv)]) (rest := [(.int (1 : Int32))]) (lenOf pd_2 rfl) rfl (by show 2 * 0 + _ ≤ _; exact Nat.le_of_eq rfl) (hb hby at_269) (fun _ _ => ⟨rfl, e39, (by decide : 1 + 0 ≤ _), (by decide : 14 + 0 ≤ _)⟩)
    dsimp only [Pt.U, Pt.locs, Pt.cells, Pt.slots] at X40 l40 y40 z40 st40 hQ40
    subst l40 y40 z40
    obtain ⟨rfl, N40q, e40⟩ := hQ40
    have N40 := Fr.app N39 N40q
    obtain ⟨J40, X40, N40⟩ := own_hide X40 N40
    refine own_Go.of (g' := (mkF m 272 #[.val (.long x0), .second, .val (.int x1), .val (.int x2), .val (.int x3), .val (.long V), .second, .val (.int (1 : Int32)), .val (.int sv), .val (.ref b1), .val (.int (own_len V)), .val (.int ((1 : Int32) + (own_len V))), .val (.int (1 : Int32))] [(.int (own_chk (6 : Int32) (1 : Int32) V (own_len V) sv (own_at 1 6 V zz))), (.int (1 : Int32))])) (fun t k => st40 _ k) ?_
    rw [show (own_chk (6 : Int32) (1 : Int32) V (own_len V) sv (own_at 1 6 V zz)) = (1 : Int32) from own_chk_ok hV hzz 1 6 (by decide) (by decide)]
    refine og_iand (pc' := 273) X40 hx (hb hby at_272) rfl ?_
    rw [show ((1 : Int32) &&& (1 : Int32)) = (1 : Int32) from by decide]
    refine og_istore (pc' := 275) (L' := #[.val (.long x0), .second, .val (.int x1), .val (.int x2), .val (.int x3), .val (.long V), .second, .val (.int (1 : Int32)), .val (.int sv), .val (.ref b1), .val (.int (own_len V)), .val (.int ((1 : Int32) + (own_len V))), .val (.int (1 : Int32))]) X40 hx (hb hby at_273) rfl rfl ?_
    refine og_iload (pc' := 277) X40 hx (hb hby at_275) rfl rfl ?_
    refine og_aload (pc' := 279) X40 hx (hb hby at_277) rfl rfl rfl ?_
    refine og_bipush (pc' := 281) (n := 7) X40 hx (hb hby at_279) rfl rfl ?_
    refine og_iload (pc' := 283) X40 hx (hb hby at_281) rfl rfl ?_
    refine og_lload (pc' := 285) X40 hx (hb hby at_283) rfl rfl ?_
    refine og_iload (pc' := 287) X40 hx (hb hby at_285) rfl rfl ?_
    refine og_iload (pc' := 289) X40 hx (hb hby at_287) rfl rfl ?_
    obtain ⟨_, _, ⟨T41, L41, k41, n41⟩, -, X41, ⟨Lc41, hQ41, l41, y41, z41⟩, st41⟩ := Jvm.LawKit.callS X40 hx (y := (⟨"com/example/skorr/skorr/index/IndexFormatWriteVarintPinLaw", "check", "([BIIJIB)Z"⟩ : MethodName)) hown (mvT hZ (hw _ (List.mem_of_getElem? (i := 12) rfl))) (mvT hZ (hw _ (List.mem_of_getElem? (i := 13) rfl))) (mvT hZ (hw _ (List.mem_of_getElem? (i := 4) rfl))) (mvT hZ (hw _ (List.mem_of_getElem? (i := 14) rfl))) (by decide) (backOf (W := 1) (rmchk l Z a0 hw [] b1 (7 : Int32) (1 : Int32) V (own_len V) sv k1 (own_lst 1 V zz) (own_at 1 7 V zz) T33.heap n0 Z33 c33_0 ⟨by decide, by decide⟩ (own_hat 1 7 V zz)) hZ (hw _ (List.mem_of_getElem? (i := 14) rfl)) (hw _ (List.mem_of_getElem? (i := 4) rfl)) (by decide) (by decide)) (g := (mkF m 289 #[.val (.long x0), .second, .val (.int x1), .val (.int x2), .val (.int x3), .val (.long V), .second, .val (.int (1 : Int32)), .val (.int sv), .val (.ref b1), .val (.int (own_len V)), .val (.int ((1 : Int32) + (own_len V))), .val (.int (1 : Int32))] [(.int sv), (.int (own_len V)), (.long V), (.int (1 : Int32)), (.int (7 : Int32)), (.ref b1), (.int (1 : Int32))])) rfl (by rw [hml]; rfl) (argsL := [(.ref b1), (.int (7 : Int32)), (.int (1 : Int32)), (.long V), (.int (own_len V)), (.int sv)]) (rest := [(.int (1 : Int32))]) (lenOf pd_2 rfl) rfl (by show 2 * 0 + _ ≤ _; exact Nat.le_of_eq rfl) (hb hby at_289) (fun _ _ => ⟨rfl, e40, (by decide : 1 + 0 ≤ _), (by decide : 14 + 0 ≤ _)⟩)
    dsimp only [Pt.U, Pt.locs, Pt.cells, Pt.slots] at X41 l41 y41 z41 st41 hQ41
    subst l41 y41 z41
    obtain ⟨rfl, N41q, e41⟩ := hQ41
    have N41 := Fr.app N40 N41q
    obtain ⟨J41, X41, N41⟩ := own_hide X41 N41
    refine own_Go.of (g' := (mkF m 292 #[.val (.long x0), .second, .val (.int x1), .val (.int x2), .val (.int x3), .val (.long V), .second, .val (.int (1 : Int32)), .val (.int sv), .val (.ref b1), .val (.int (own_len V)), .val (.int ((1 : Int32) + (own_len V))), .val (.int (1 : Int32))] [(.int (own_chk (7 : Int32) (1 : Int32) V (own_len V) sv (own_at 1 7 V zz))), (.int (1 : Int32))])) (fun t k => st41 _ k) ?_
    rw [show (own_chk (7 : Int32) (1 : Int32) V (own_len V) sv (own_at 1 7 V zz)) = (1 : Int32) from own_chk_ok hV hzz 1 7 (by decide) (by decide)]
    refine og_iand (pc' := 293) X41 hx (hb hby at_292) rfl ?_
    rw [show ((1 : Int32) &&& (1 : Int32)) = (1 : Int32) from by decide]
    refine og_istore (pc' := 295) (L' := #[.val (.long x0), .second, .val (.int x1), .val (.int x2), .val (.int x3), .val (.long V), .second, .val (.int (1 : Int32)), .val (.int sv), .val (.ref b1), .val (.int (own_len V)), .val (.int ((1 : Int32) + (own_len V))), .val (.int (1 : Int32))]) X41 hx (hb hby at_293) rfl rfl ?_
    refine og_iload (pc' := 297) X41 hx (hb hby at_295) rfl rfl ?_
    refine og_aload (pc' := 299) X41 hx (hb hby at_297) rfl rfl rfl ?_
    refine og_bipush (pc' := 301) (n := 8) X41 hx (hb hby at_299) rfl rfl ?_
    refine og_iload (pc' := 303) X41 hx (hb hby at_301) rfl rfl ?_
    refine og_lload (pc' := 305) X41 hx (hb hby at_303) rfl rfl ?_
    refine og_iload (pc' := 307) X41 hx (hb hby at_305) rfl rfl ?_
    refine og_iload (pc' := 309) X41 hx (hb hby at_307) rfl rfl ?_
    obtain ⟨_, _, ⟨T42, L42, k42, n42⟩, -, X42, ⟨Lc42, hQ42, l42, y42, z42⟩, st42⟩ := Jvm.LawKit.callS X41 hx (y := (⟨"com/example/skorr/skorr/index/IndexFormatWriteVarintPinLaw", "check", "([BIIJIB)Z"⟩ : MethodName)) hown (mvT hZ (hw _ (List.mem_of_getElem? (i := 12) rfl))) (mvT hZ (hw _ (List.mem_of_getElem? (i := 13) rfl))) (mvT hZ (hw _ (List.mem_of_getElem? (i := 4) rfl))) (mvT hZ (hw _ (List.mem_of_getElem? (i := 14) rfl))) (by decide) (backOf (W := 1) (rmchk l Z a0 hw [] b1 (8 : Int32) (1 : Int32) V (own_len V) sv k1 (own_lst 1 V zz) (own_at 1 8 V zz) T33.heap n0 Z33 c33_0 ⟨by decide, by decide⟩ (own_hat 1 8 V zz)) hZ (hw _ (List.mem_of_getElem? (i := 14) rfl)) (hw _ (List.mem_of_getElem? (i := 4) rfl)) (by decide) (by decide)) (g := (mkF m 309 #[.val (.long x0), .second, .val (.int x1), .val (.int x2), .val (.int x3), .val (.long V), .second, .val (.int (1 : Int32)), .val (.int sv), .val (.ref b1), .val (.int (own_len V)), .val (.int ((1 : Int32) + (own_len V))), .val (.int (1 : Int32))] [(.int sv), (.int (own_len V)), (.long V), (.int (1 : Int32)), (.int (8 : Int32)), (.ref b1), (.int (1 : Int32))])) rfl (by rw [hml]; rfl) (argsL := [(.ref b1), (.int (8 : Int32)), (.int (1 : Int32)), (.long V), (.int (own_len V)), (.int sv)]) (rest := [(.int (1 : Int32))]) (lenOf pd_2 rfl) rfl (by show 2 * 0 + _ ≤ _; exact Nat.le_of_eq rfl) (hb hby at_309) (fun _ _ => ⟨rfl, e41, (by decide : 1 + 0 ≤ _), (by decide : 14 + 0 ≤ _)⟩)
    dsimp only [Pt.U, Pt.locs, Pt.cells, Pt.slots] at X42 l42 y42 z42 st42 hQ42
    subst l42 y42 z42
    obtain ⟨rfl, N42q, e42⟩ := hQ42
    have N42 := Fr.app N41 N42q
    obtain ⟨J42, X42, N42⟩ := own_hide X42 N42
    refine own_Go.of (g' := (mkF m 312 #[.val (.long x0), .second, .val (.int x1), .val (.int x2), .val (.int x3), .val (.long V), .second, .val (.int (1 : Int32)), .val (.int sv), .val (.ref b1), .val (.int (own_len V)), .val (.int ((1 : Int32) + (own_len V))), .val (.int (1 : Int32))] [(.int (own_chk (8 : Int32) (1 : Int32) V (own_len V) sv (own_at 1 8 V zz))), (.int (1 : Int32))])) (fun t k => st42 _ k) ?_
    rw [show (own_chk (8 : Int32) (1 : Int32) V (own_len V) sv (own_at 1 8 V zz)) = (1 : Int32) from own_chk_ok hV hzz 1 8 (by decide) (by decide)]
    refine og_iand (pc' := 313) X42 hx (hb hby at_312) rfl ?_
    rw [show ((1 : Int32) &&& (1 : Int32)) = (1 : Int32) from by decide]
    refine og_istore (pc' := 315) (L' := #[.val (.long x0), .second, .val (.int x1), .val (.int x2), .val (.int x3), .val (.long V), .second, .val (.int (1 : Int32)), .val (.int sv), .val (.ref b1), .val (.int (own_len V)), .val (.int ((1 : Int32) + (own_len V))), .val (.int (1 : Int32))]) X42 hx (hb hby at_313) rfl rfl ?_
    refine og_iload (pc' := 317) X42 hx (hb hby at_315) rfl rfl ?_
    refine og_aload (pc' := 319) X42 hx (hb hby at_317) rfl rfl rfl ?_
    refine og_bipush (pc' := 321) (n := 9) X42 hx (hb hby at_319) rfl rfl ?_
    refine og_iload (pc' := 323) X42 hx (hb hby at_321) rfl rfl ?_
    refine og_lload (pc' := 325) X42 hx (hb hby at_323) rfl rfl ?_
    refine og_iload (pc' := 327) X42 hx (hb hby at_325) rfl rfl ?_
    refine og_iload (pc' := 329) X42 hx (hb hby at_327) rfl rfl ?_
    obtain ⟨_, _, ⟨T43, L43, k43, n43⟩, -, X43, ⟨Lc43, hQ43, l43, y43, z43⟩, st43⟩ := Jvm.LawKit.callS X42 hx (y := (⟨"com/example/skorr/skorr/index/IndexFormatWriteVarintPinLaw", "check", "([BIIJIB)Z"⟩ : MethodName)) hown (mvT hZ (hw _ (List.mem_of_getElem? (i := 12) rfl))) (mvT hZ (hw _ (List.mem_of_getElem? (i := 13) rfl))) (mvT hZ (hw _ (List.mem_of_getElem? (i := 4) rfl))) (mvT hZ (hw _ (List.mem_of_getElem? (i := 14) rfl))) (by decide) (backOf (W := 1) (rmchk l Z a0 hw [] b1 (9 : Int32) (1 : Int32) V (own_len V) sv k1 (own_lst 1 V zz) (own_at 1 9 V zz) T33.heap n0 Z33 c33_0 ⟨by decide, by decide⟩ (own_hat 1 9 V zz)) hZ (hw _ (List.mem_of_getElem? (i := 14) rfl)) (hw _ (List.mem_of_getElem? (i := 4) rfl)) (by decide) (by decide)) (g := (mkF m 329 #[.val (.long x0), .second, .val (.int x1), .val (.int x2), .val (.int x3), .val (.long V), .second, .val (.int (1 : Int32)), .val (.int sv), .val (.ref b1), .val (.int (own_len V)), .val (.int ((1 : Int32) + (own_len V))), .val (.int (1 : Int32))] [(.int sv), (.int (own_len V)), (.long V), (.int (1 : Int32)), (.int (9 : Int32)), (.ref b1), (.int (1 : Int32))])) rfl (by rw [hml]; rfl) (argsL := [(.ref b1), (.int (9 : Int32)), (.int (1 : Int32)), (.long V), (.int (own_len V)), (.int sv)]) (rest := [(.int (1 : Int32))]) (lenOf pd_2 rfl) rfl (by show 2 * 0 + _ ≤ _; exact Nat.le_of_eq rfl) (hb hby at_329) (fun _ _ => ⟨rfl, e42, (by decide : 1 + 0 ≤ _), (by decide : 14 + 0 ≤ _)⟩)
    dsimp only [Pt.U, Pt.locs, Pt.cells, Pt.slots] at X43 l43 y43 z43 st43 hQ43
    subst l43 y43 z43
    obtain ⟨rfl, N43q, e43⟩ := hQ43
    have N43 := Fr.app N42 N43q
    obtain ⟨J43, X43, N43⟩ := own_hide X43 N43
    refine own_Go.of (g' := (mkF m 332 #[.val (.long x0), .second, .val (.int x1), .val (.int x2), .val (.int x3), .val (.long V), .second, .val (.int (1 : Int32)), .val (.int sv), .val (.ref b1), .val (.int (own_len V)), .val (.int ((1 : Int32) + (own_len V))), .val (.int (1 : Int32))] [(.int (own_chk (9 : Int32) (1 : Int32) V (own_len V) sv (own_at 1 9 V zz))), (.int (1 : Int32))])) (fun t k => st43 _ k) ?_
    rw [show (own_chk (9 : Int32) (1 : Int32) V (own_len V) sv (own_at 1 9 V zz)) = (1 : Int32) from own_chk_ok hV hzz 1 9 (by decide) (by decide)]
    refine og_iand (pc' := 333) X43 hx (hb hby at_332) rfl ?_
    rw [show ((1 : Int32) &&& (1 : Int32)) = (1 : Int32) from by decide]
    refine og_istore (pc' := 335) (L' := #[.val (.long x0), .second, .val (.int x1), .val (.int x2), .val (.int x3), .val (.long V), .second, .val (.int (1 : Int32)), .val (.int sv), .val (.ref b1), .val (.int (own_len V)), .val (.int ((1 : Int32) + (own_len V))), .val (.int (1 : Int32))]) X43 hx (hb hby at_333) rfl rfl ?_
    refine og_iload (pc' := 337) X43 hx (hb hby at_335) rfl rfl ?_
    refine og_aload (pc' := 339) X43 hx (hb hby at_337) rfl rfl rfl ?_
    refine og_bipush (pc' := 341) (n := 10) X43 hx (hb hby at_339) rfl rfl ?_
    refine og_iload (pc' := 343) X43 hx (hb hby at_341) rfl rfl ?_
    refine og_lload (pc' := 345) X43 hx (hb hby at_343) rfl rfl ?_
    refine og_iload (pc' := 347) X43 hx (hb hby at_345) rfl rfl ?_
    refine og_iload (pc' := 349) X43 hx (hb hby at_347) rfl rfl ?_
    obtain ⟨_, _, ⟨T44, L44, k44, n44⟩, -, X44, ⟨Lc44, hQ44, l44, y44, z44⟩, st44⟩ := Jvm.LawKit.callS X43 hx (y := (⟨"com/example/skorr/skorr/index/IndexFormatWriteVarintPinLaw", "check", "([BIIJIB)Z"⟩ : MethodName)) hown (mvT hZ (hw _ (List.mem_of_getElem? (i := 12) rfl))) (mvT hZ (hw _ (List.mem_of_getElem? (i := 13) rfl))) (mvT hZ (hw _ (List.mem_of_getElem? (i := 4) rfl))) (mvT hZ (hw _ (List.mem_of_getElem? (i := 14) rfl))) (by decide) (backOf (W := 1) (rmchk l Z a0 hw [] b1 (10 : Int32) (1 : Int32) V (own_len V) sv k1 (own_lst 1 V zz) (own_at 1 10 V zz) T33.heap n0 Z33 c33_0 ⟨by decide, by decide⟩ (own_hat 1 10 V zz)) hZ (hw _ (List.mem_of_getElem? (i := 14) rfl)) (hw _ (List.mem_of_getElem? (i := 4) rfl)) (by decide) (by decide)) (g := (mkF m 349 #[.val (.long x0), .second, .val (.int x1), .val (.int x2), .val (.int x3), .val (.long V), .second, .val (.int (1 : Int32)), .val (.int sv), .val (.ref b1), .val (.int (own_len V)), .val (.int ((1 : Int32) + (own_len V))), .val (.int (1 : Int32))] [(.int sv), (.int (own_len V)), (.long V), (.int (1 : Int32)), (.int (10 : Int32)), (.ref b1), (.int (1 : Int32))])) rfl (by rw [hml]; rfl) (argsL := [(.ref b1), (.int (10 : Int32)), (.int (1 : Int32)), (.long V), (.int (own_len V)), (.int sv)]) (rest := [(.int (1 : Int32))]) (lenOf pd_2 rfl) rfl (by show 2 * 0 + _ ≤ _; exact Nat.le_of_eq rfl) (hb hby at_349) (fun _ _ => ⟨rfl, e43, (by decide : 1 + 0 ≤ _), (by decide : 14 + 0 ≤ _)⟩)
    dsimp only [Pt.U, Pt.locs, Pt.cells, Pt.slots] at X44 l44 y44 z44 st44 hQ44
    subst l44 y44 z44
    obtain ⟨rfl, N44q, e44⟩ := hQ44
    have N44 := Fr.app N43 N44q
    obtain ⟨J44, X44, N44⟩ := own_hide X44 N44
    refine own_Go.of (g' := (mkF m 352 #[.val (.long x0), .second, .val (.int x1), .val (.int x2), .val (.int x3), .val (.long V), .second, .val (.int (1 : Int32)), .val (.int sv), .val (.ref b1), .val (.int (own_len V)), .val (.int ((1 : Int32) + (own_len V))), .val (.int (1 : Int32))] [(.int (own_chk (10 : Int32) (1 : Int32) V (own_len V) sv (own_at 1 10 V zz))), (.int (1 : Int32))])) (fun t k => st44 _ k) ?_
    rw [show (own_chk (10 : Int32) (1 : Int32) V (own_len V) sv (own_at 1 10 V zz)) = (1 : Int32) from own_chk_ok hV hzz 1 10 (by decide) (by decide)]
    refine og_iand (pc' := 353) X44 hx (hb hby at_352) rfl ?_
    rw [show ((1 : Int32) &&& (1 : Int32)) = (1 : Int32) from by decide]
    refine og_istore (pc' := 355) (L' := #[.val (.long x0), .second, .val (.int x1), .val (.int x2), .val (.int x3), .val (.long V), .second, .val (.int (1 : Int32)), .val (.int sv), .val (.ref b1), .val (.int (own_len V)), .val (.int ((1 : Int32) + (own_len V))), .val (.int (1 : Int32))]) X44 hx (hb hby at_353) rfl rfl ?_
    refine og_iload (pc' := 357) X44 hx (hb hby at_355) rfl rfl ?_
    refine og_aload (pc' := 359) X44 hx (hb hby at_357) rfl rfl rfl ?_
    refine og_bipush (pc' := 361) (n := 11) X44 hx (hb hby at_359) rfl rfl ?_
    refine og_iload (pc' := 363) X44 hx (hb hby at_361) rfl rfl ?_
    refine og_lload (pc' := 365) X44 hx (hb hby at_363) rfl rfl ?_
    refine og_iload (pc' := 367) X44 hx (hb hby at_365) rfl rfl ?_
    refine og_iload (pc' := 369) X44 hx (hb hby at_367) rfl rfl ?_
    obtain ⟨_, _, ⟨T45, L45, k45, n45⟩, -, X45, ⟨Lc45, hQ45, l45, y45, z45⟩, st45⟩ := Jvm.LawKit.callS X44 hx (y := (⟨"com/example/skorr/skorr/index/IndexFormatWriteVarintPinLaw", "check", "([BIIJIB)Z"⟩ : MethodName)) hown (mvT hZ (hw _ (List.mem_of_getElem? (i := 12) rfl))) (mvT hZ (hw _ (List.mem_of_getElem? (i := 13) rfl))) (mvT hZ (hw _ (List.mem_of_getElem? (i := 4) rfl))) (mvT hZ (hw _ (List.mem_of_getElem? (i := 14) rfl))) (by decide) (backOf (W := 1) (rmchk l Z a0 hw [] b1 (11 : Int32) (1 : Int32) V (own_len V) sv k1 (own_lst 1 V zz) (own_at 1 11 V zz) T33.heap n0 Z33 c33_0 ⟨by decide, by decide⟩ (own_hat 1 11 V zz)) hZ (hw _ (List.mem_of_getElem? (i := 14) rfl)) (hw _ (List.mem_of_getElem? (i := 4) rfl)) (by decide) (by decide)) (g := (mkF m 369 #[.val (.long x0), .second, .val (.int x1), .val (.int x2), .val (.int x3), .val (.long V), .second, .val (.int (1 : Int32)), .val (.int sv), .val (.ref b1), .val (.int (own_len V)), .val (.int ((1 : Int32) + (own_len V))), .val (.int (1 : Int32))] [(.int sv), (.int (own_len V)), (.long V), (.int (1 : Int32)), (.int (11 : Int32)), (.ref b1), (.int (1 : Int32))])) rfl (by rw [hml]; rfl) (argsL := [(.ref b1), (.int (11 : Int32)), (.int (1 : Int32)), (.long V), (.int (own_len V)), (.int sv)]) (rest := [(.int (1 : Int32))]) (lenOf pd_2 rfl) rfl (by show 2 * 0 + _ ≤ _; exact Nat.le_of_eq rfl) (hb hby at_369) (fun _ _ => ⟨rfl, e44, (by decide : 1 + 0 ≤ _), (by decide : 14 + 0 ≤ _)⟩)
    dsimp only [Pt.U, Pt.locs, Pt.cells, Pt.slots] at X45 l45 y45 z45 st45 hQ45
    subst l45 y45 z45
    obtain ⟨rfl, N45q, e45⟩ := hQ45
    have N45 := Fr.app N44 N45q
    obtain ⟨J45, X45, N45⟩ := own_hide X45 N45
    refine own_Go.of (g' := (mkF m 372 #[.val (.long x0), .second, .val (.int x1), .val (.int x2), .val (.int x3), .val (.long V), .second, .val (.int (1 : Int32)), .val (.int sv), .val (.ref b1), .val (.int (own_len V)), .val (.int ((1 : Int32) + (own_len V))), .val (.int (1 : Int32))] [(.int (own_chk (11 : Int32) (1 : Int32) V (own_len V) sv (own_at 1 11 V zz))), (.int (1 : Int32))])) (fun t k => st45 _ k) ?_
    rw [show (own_chk (11 : Int32) (1 : Int32) V (own_len V) sv (own_at 1 11 V zz)) = (1 : Int32) from own_chk_ok hV hzz 1 11 (by decide) (by decide)]
    refine og_iand (pc' := 373) X45 hx (hb hby at_372) rfl ?_
    rw [show ((1 : Int32) &&& (1 : Int32)) = (1 : Int32) from by decide]
    refine og_istore (pc' := 375) (L' := #[.val (.long x0), .second, .val (.int x1), .val (.int x2), .val (.int x3), .val (.long V), .second, .val (.int (1 : Int32)), .val (.int sv), .val (.ref b1), .val (.int (own_len V)), .val (.int ((1 : Int32) + (own_len V))), .val (.int (1 : Int32))]) X45 hx (hb hby at_373) rfl rfl ?_
    refine og_iload (pc' := 377) X45 hx (hb hby at_375) rfl rfl ?_
    refine og_aload (pc' := 379) X45 hx (hb hby at_377) rfl rfl rfl ?_
    refine og_bipush (pc' := 381) (n := 12) X45 hx (hb hby at_379) rfl rfl ?_
    refine og_iload (pc' := 383) X45 hx (hb hby at_381) rfl rfl ?_
    refine og_lload (pc' := 385) X45 hx (hb hby at_383) rfl rfl ?_
    refine og_iload (pc' := 387) X45 hx (hb hby at_385) rfl rfl ?_
    refine og_iload (pc' := 389) X45 hx (hb hby at_387) rfl rfl ?_
    obtain ⟨_, _, ⟨T46, L46, k46, n46⟩, -, X46, ⟨Lc46, hQ46, l46, y46, z46⟩, st46⟩ := Jvm.LawKit.callS X45 hx (y := (⟨"com/example/skorr/skorr/index/IndexFormatWriteVarintPinLaw", "check", "([BIIJIB)Z"⟩ : MethodName)) hown (mvT hZ (hw _ (List.mem_of_getElem? (i := 12) rfl))) (mvT hZ (hw _ (List.mem_of_getElem? (i := 13) rfl))) (mvT hZ (hw _ (List.mem_of_getElem? (i := 4) rfl))) (mvT hZ (hw _ (List.mem_of_getElem? (i := 14) rfl))) (by decide) (backOf (W := 1) (rmchk l Z a0 hw [] b1 (12 : Int32) (1 : Int32) V (own_len V) sv k1 (own_lst 1 V zz) (own_at 1 12 V zz) T33.heap n0 Z33 c33_0 ⟨by decide, by decide⟩ (own_hat 1 12 V zz)) hZ (hw _ (List.mem_of_getElem? (i := 14) rfl)) (hw _ (List.mem_of_getElem? (i := 4) rfl)) (by decide) (by decide)) (g := (mkF m 389 #[.val (.long x0), .second, .val (.int x1), .val (.int x2), .val (.int x3), .val (.long V), .second, .val (.int (1 : Int32)), .val (.int sv), .val (.ref b1), .val (.int (own_len V)), .val (.int ((1 : Int32) + (own_len V))), .val (.int (1 : Int32))] [(.int sv), (.int (own_len V)), (.long V), (.int (1 : Int32)), (.int (12 : Int32)), (.ref b1), (.int (1 : Int32))])) rfl (by rw [hml]; rfl) (argsL := [(.ref b1), (.int (12 : Int32)), (.int (1 : Int32)), (.long V), (.int (own_len V)), (.int sv)]) (rest := [(.int (1 : Int32))]) (lenOf pd_2 rfl) rfl (by show 2 * 0 + _ ≤ _; exact Nat.le_of_eq rfl) (hb hby at_389) (fun _ _ => ⟨rfl, e45, (by decide : 1 + 0 ≤ _), (by decide : 14 + 0 ≤ _)⟩)
    dsimp only [Pt.U, Pt.locs, Pt.cells, Pt.slots] at X46 l46 y46 z46 st46 hQ46
    subst l46 y46 z46
    obtain ⟨rfl, N46q, e46⟩ := hQ46
    have N46 := Fr.app N45 N46q
    obtain ⟨J46, X46, N46⟩ := own_hide X46 N46
    refine own_Go.of (g' := (mkF m 392 #[.val (.long x0), .second, .val (.int x1), .val (.int x2), .val (.int x3), .val (.long V), .second, .val (.int (1 : Int32)), .val (.int sv), .val (.ref b1), .val (.int (own_len V)), .val (.int ((1 : Int32) + (own_len V))), .val (.int (1 : Int32))] [(.int (own_chk (12 : Int32) (1 : Int32) V (own_len V) sv (own_at 1 12 V zz))), (.int (1 : Int32))])) (fun t k => st46 _ k) ?_
    rw [show (own_chk (12 : Int32) (1 : Int32) V (own_len V) sv (own_at 1 12 V zz)) = (1 : Int32) from own_chk_ok hV hzz 1 12 (by decide) (by decide)]
    refine og_iand (pc' := 393) X46 hx (hb hby at_392) rfl ?_
    rw [show ((1 : Int32) &&& (1 : Int32)) = (1 : Int32) from by decide]
    refine og_istore (pc' := 395) (L' := #[.val (.long x0), .second, .val (.int x1), .val (.int x2), .val (.int x3), .val (.long V), .second, .val (.int (1 : Int32)), .val (.int sv), .val (.ref b1), .val (.int (own_len V)), .val (.int ((1 : Int32) + (own_len V))), .val (.int (1 : Int32))]) X46 hx (hb hby at_393) rfl rfl ?_
    refine og_iload (pc' := 397) X46 hx (hb hby at_395) rfl rfl ?_
    refine og_aload (pc' := 399) X46 hx (hb hby at_397) rfl rfl rfl ?_
    refine og_bipush (pc' := 401) (n := 13) X46 hx (hb hby at_399) rfl rfl ?_
    refine og_iload (pc' := 403) X46 hx (hb hby at_401) rfl rfl ?_
    refine og_lload (pc' := 405) X46 hx (hb hby at_403) rfl rfl ?_
    refine og_iload (pc' := 407) X46 hx (hb hby at_405) rfl rfl ?_
    refine og_iload (pc' := 409) X46 hx (hb hby at_407) rfl rfl ?_
    obtain ⟨_, _, ⟨T47, L47, k47, n47⟩, -, X47, ⟨Lc47, hQ47, l47, y47, z47⟩, st47⟩ := Jvm.LawKit.callS X46 hx (y := (⟨"com/example/skorr/skorr/index/IndexFormatWriteVarintPinLaw", "check", "([BIIJIB)Z"⟩ : MethodName)) hown (mvT hZ (hw _ (List.mem_of_getElem? (i := 12) rfl))) (mvT hZ (hw _ (List.mem_of_getElem? (i := 13) rfl))) (mvT hZ (hw _ (List.mem_of_getElem? (i := 4) rfl))) (mvT hZ (hw _ (List.mem_of_getElem? (i := 14) rfl))) (by decide) (backOf (W := 1) (rmchk l Z a0 hw [] b1 (13 : Int32) (1 : Int32) V (own_len V) sv k1 (own_lst 1 V zz) (own_at 1 13 V zz) T33.heap n0 Z33 c33_0 ⟨by decide, by decide⟩ (own_hat 1 13 V zz)) hZ (hw _ (List.mem_of_getElem? (i := 14) rfl)) (hw _ (List.mem_of_getElem? (i := 4) rfl)) (by decide) (by decide)) (g := (mkF m 409 #[.val (.long x0), .second, .val (.int x1), .val (.int x2), .val (.int x3), .val (.long V), .second, .val (.int (1 : Int32)), .val (.int sv), .val (.ref b1), .val (.int (own_len V)), .val (.int ((1 : Int32) + (own_len V))), .val (.int (1 : Int32))] [(.int sv), (.int (own_len V)), (.long V), (.int (1 : Int32)), (.int (13 : Int32)), (.ref b1), (.int (1 : Int32))])) rfl (by rw [hml]; rfl) (argsL := [(.ref b1), (.int (13 : Int32)), (.int (1 : Int32)), (.long V), (.int (own_len V)), (.int sv)]) (rest := [(.int (1 : Int32))]) (lenOf pd_2 rfl) rfl (by show 2 * 0 + _ ≤ _; exact Nat.le_of_eq rfl) (hb hby at_409) (fun _ _ => ⟨rfl, e46, (by decide : 1 + 0 ≤ _), (by decide : 14 + 0 ≤ _)⟩)
    dsimp only [Pt.U, Pt.locs, Pt.cells, Pt.slots] at X47 l47 y47 z47 st47 hQ47
    subst l47 y47 z47
    obtain ⟨rfl, N47q, e47⟩ := hQ47
    have N47 := Fr.app N46 N47q
    obtain ⟨J47, X47, N47⟩ := own_hide X47 N47
    refine own_Go.of (g' := (mkF m 412 #[.val (.long x0), .second, .val (.int x1), .val (.int x2), .val (.int x3), .val (.long V), .second, .val (.int (1 : Int32)), .val (.int sv), .val (.ref b1), .val (.int (own_len V)), .val (.int ((1 : Int32) + (own_len V))), .val (.int (1 : Int32))] [(.int (own_chk (13 : Int32) (1 : Int32) V (own_len V) sv (own_at 1 13 V zz))), (.int (1 : Int32))])) (fun t k => st47 _ k) ?_
    rw [show (own_chk (13 : Int32) (1 : Int32) V (own_len V) sv (own_at 1 13 V zz)) = (1 : Int32) from own_chk_ok hV hzz 1 13 (by decide) (by decide)]
    refine og_iand (pc' := 413) X47 hx (hb hby at_412) rfl ?_
    rw [show ((1 : Int32) &&& (1 : Int32)) = (1 : Int32) from by decide]
    refine og_istore (pc' := 415) (L' := #[.val (.long x0), .second, .val (.int x1), .val (.int x2), .val (.int x3), .val (.long V), .second, .val (.int (1 : Int32)), .val (.int sv), .val (.ref b1), .val (.int (own_len V)), .val (.int ((1 : Int32) + (own_len V))), .val (.int (1 : Int32))]) X47 hx (hb hby at_413) rfl rfl ?_
    refine og_iload (pc' := 417) X47 hx (hb hby at_415) rfl rfl ?_
    obtain ⟨fs, hr, hrun, hended, hW, hsame⟩ := X47.leave (v := some (.int (1 : Int32))) (fun h => by rw [Bd.returns] at h; cases h) (BodyLoose.notSynchronized Bd)
    refine ⟨_, _, retN X47 hx (t := .boolean) Bd.returns (by simp) (hb hby at_417) hr, hrun, hended, some (.int (1 : Int32)), _, rfl, ?_, ⟨_, rfl⟩, hW, hsame.mono (by decide) (by decide)⟩
    show Q0 Z x0 x1 x2 x3 h0 n0 _ T47.heap _
    rw [e47]
    exact ⟨rfl, N47⟩
  · rw [e]
    refine og_lload (pc' := 108) X15 hx (hb hby at_106) rfl rfl ?_
    obtain ⟨_, _, ⟨T48, L48, k48, n48⟩, -, X48, ⟨Lc48, hQ48, l48, y48, z48⟩, st48⟩ := Jvm.LawKit.callS X15 hx (y := (⟨"com/example/skorr/skorr/index/IndexFormatWriteVarintPinLaw", "length", "(J)I"⟩ : MethodName)) hown (mvT hZ (hw _ (List.mem_of_getElem? (i := 2) rfl))) (mvT hZ (hw _ (List.mem_of_getElem? (i := 3) rfl))) (mvT hZ (hw _ (List.mem_of_getElem? (i := 4) rfl))) (mvT hZ (hw _ (List.mem_of_getElem? (i := 5) rfl))) (by decide) (backOf (W := 0) (rmlen l Z a0 hw [] V h15 n0 Z15 ) hZ (hw _ (List.mem_of_getElem? (i := 5) rfl)) (hw _ (List.mem_of_getElem? (i := 4) rfl)) (by decide) (by decide)) (g := (mkF m 108 #[.val (.long x0), .second, .val (.int x1), .val (.int x2), .val (.int x3), .val (.long V), .second, .val (.int (2 : Int32)), .val (.int sv), .val (.ref b1), .unset, .unset, .unset] [(.long V)])) rfl (by rw [hml]; rfl) (argsL := [(.long V)]) (rest := []) (lenOf pd_0 rfl) rfl (by show 2 * 0 + _ ≤ _; exact Nat.le_of_eq rfl) (hb hby at_108) (fun _ _ => ⟨rfl, e15, (by decide : 1 + 0 ≤ _), (by decide : 14 + 0 ≤ _)⟩)
    dsimp only [Pt.U, Pt.locs, Pt.cells, Pt.slots] at X48 l48 y48 z48 st48 hQ48
    subst l48 y48 z48
    obtain ⟨rfl, N48q, e48⟩ := hQ48
    have N48 := Fr.app N15 N48q
    obtain ⟨J48, X48, N48⟩ := own_hide X48 N48
    refine own_Go.of (g' := (mkF m 111 #[.val (.long x0), .second, .val (.int x1), .val (.int x2), .val (.int x3), .val (.long V), .second, .val (.int (2 : Int32)), .val (.int sv), .val (.ref b1), .unset, .unset, .unset] [(.int (own_len V))])) (fun t k => st48 _ k) ?_
    refine og_istore (pc' := 113) (L' := #[.val (.long x0), .second, .val (.int x1), .val (.int x2), .val (.int x3), .val (.long V), .second, .val (.int (2 : Int32)), .val (.int sv), .val (.ref b1), .val (.int (own_len V)), .unset, .unset]) X48 hx (hb hby at_111) rfl rfl ?_
    refine og_lload (pc' := 115) X48 hx (hb hby at_113) rfl rfl ?_
    refine og_aload (pc' := 117) X48 hx (hb hby at_115) rfl rfl rfl ?_
    refine og_iload (pc' := 119) X48 hx (hb hby at_117) rfl rfl ?_
    obtain ⟨_, _, ⟨T49, L49, k49, n49⟩, -, X49, ⟨Lc49, hQ49, l49, y49, z49⟩, st49⟩ := Jvm.LawKit.callS X48 hx (y := (⟨"com/example/skorr/skorr/index/IndexFormat", "writeVarint", "(J[BI)I"⟩ : MethodName)) hown (mvT hZ (hw _ (List.mem_of_getElem? (i := 7) rfl))) (mvT hZ (hw _ (List.mem_of_getElem? (i := 8) rfl))) (mvT hZ (hw _ (List.mem_of_getElem? (i := 9) rfl))) (mvT hZ (hw _ (List.mem_of_getElem? (i := 10) rfl))) (by decide) (backOf (W := 0) (rmwr2 l Z a0 hw [] V b1 k1 zz h15 n0 Z15 VZ g_b1 hV) hZ (hw _ (List.mem_of_getElem? (i := 10) rfl)) (hw _ (List.mem_of_getElem? (i := 9) rfl)) (by decide) (by decide)) (g := (mkF m 119 #[.val (.long x0), .second, .val (.int x1), .val (.int x2), .val (.int x3), .val (.long V), .second, .val (.int (2 : Int32)), .val (.int sv), .val (.ref b1), .val (.int (own_len V)), .unset, .unset] [(.int (2 : Int32)), (.ref b1), (.long V)])) rfl (by rw [hml]; rfl) (argsL := [(.long V), (.ref b1), (.int (2 : Int32))]) (rest := []) (lenOf pd_1 rfl) rfl (by show 2 * 0 + _ ≤ _; exact Nat.le_of_eq rfl) (hb hby at_119) (fun _ _ => ⟨rfl, e48, (by decide : 1 + 0 ≤ _), (by decide : 14 + 0 ≤ _)⟩)
    dsimp only [Pt.U, Pt.locs, Pt.cells, Pt.slots] at X49 l49 y49 z49 st49 hQ49
    subst l49 y49 z49
    obtain ⟨rfl, N49q, K49q, c49_0⟩ := hQ49
    have N49 := Fr.app N48 N49q
    obtain ⟨J49, X49, N49⟩ := own_hide X49 N49
    have K49 : Keep h0 T49.heap [] := K15.trans K49q (allS (Or.inr sz_b1) all0)
    have Z49 : n0 ≤ T49.heap.size := Nat.le_trans Z0 K49.1
    refine own_Go.of (g' := (mkF m 122 #[.val (.long x0), .second, .val (.int x1), .val (.int x2), .val (.int x3), .val (.long V), .second, .val (.int (2 : Int32)), .val (.int sv), .val (.ref b1), .val (.int (own_len V)), .unset, .unset] [(.int ((2 : Int32) + (own_len V)))])) (fun t k => st49 _ k) ?_
    refine og_istore (pc' := 124) (L' := #[.val (.long x0), .second, .val (.int x1), .val (.int x2), .val (.int x3), .val (.long V), .second, .val (.int (2 : Int32)), .val (.int sv), .val (.ref b1), .val (.int (own_len V)), .val (.int ((2 : Int32) + (own_len V))), .unset]) X49 hx (hb hby at_122) rfl rfl ?_
    refine og_iload (pc' := 126) X49 hx (hb hby at_124) rfl rfl ?_
    refine og_iload (pc' := 128) X49 hx (hb hby at_126) rfl rfl ?_
    refine og_iload (pc' := 130) X49 hx (hb hby at_128) rfl rfl ?_
    refine og_iadd (pc' := 131) X49 hx (hb hby at_130) rfl ?_
    refine og_icmpNo (pc' := 134) X49 hx (hb hby at_131) (teq rfl).2 rfl ?_
    refine og_iconst (pc' := 135) (n := 1) X49 hx (hb hby at_134) rfl rfl ?_
    refine og_goto (pc' := 139) X49 hx (hb hby at_135) (by decide) (by decide) ?_
    refine og_istore (pc' := 141) (L' := #[.val (.long x0), .second, .val (.int x1), .val (.int x2), .val (.int x3), .val (.long V), .second, .val (.int (2 : Int32)), .val (.int sv), .val (.ref b1), .val (.int (own_len V)), .val (.int ((2 : Int32) + (own_len V))), .val (.int (1 : Int32))]) X49 hx (hb hby at_139) rfl rfl ?_
    refine og_iload (pc' := 143) X49 hx (hb hby at_141) rfl rfl ?_
    refine og_aload (pc' := 145) X49 hx (hb hby at_143) rfl rfl rfl ?_
    refine og_iconst (pc' := 146) (n := 0) X49 hx (hb hby at_145) rfl rfl ?_
    refine og_iload (pc' := 148) X49 hx (hb hby at_146) rfl rfl ?_
    refine og_lload (pc' := 150) X49 hx (hb hby at_148) rfl rfl ?_
    refine og_iload (pc' := 152) X49 hx (hb hby at_150) rfl rfl ?_
    refine og_iload (pc' := 154) X49 hx (hb hby at_152) rfl rfl ?_
    obtain ⟨_, _, ⟨T50, L50, k50, n50⟩, -, X50, ⟨Lc50, hQ50, l50, y50, z50⟩, st50⟩ := Jvm.LawKit.callS X49 hx (y := (⟨"com/example/skorr/skorr/index/IndexFormatWriteVarintPinLaw", "check", "([BIIJIB)Z"⟩ : MethodName)) hown (mvT hZ (hw _ (List.mem_of_getElem? (i := 12) rfl))) (mvT hZ (hw _ (List.mem_of_getElem? (i := 13) rfl))) (mvT hZ (hw _ (List.mem_of_getElem? (i := 4) rfl))) (mvT hZ (hw _ (List.mem_of_getElem? (i := 14) rfl))) (by decide) (backOf (W := 1) (rmchk l Z a0 hw [] b1 (0 : Int32) (2 : Int32) V (own_len V) sv k1 (own_lst 2 V zz) (own_at 2 0 V zz) T49.heap n0 Z49 c49_0 ⟨by decide, by decide⟩ (own_hat 2 0 V zz)) hZ (hw _ (List.mem_of_getElem? (i := 14) rfl)) (hw _ (List.mem_of_getElem? (i := 4) rfl)) (by decide) (by decide)) (g := (mkF m 154 #[.val (.long x0), .second, .val (.int x1), .val (.int x2), .val (.int x3), .val (.long V), .second, .val (.int (2 : Int32)), .val (.int sv), .val (.ref b1), .val (.int (own_len V)), .val (.int ((2 : Int32) + (own_len V))), .val (.int (1 : Int32))] [(.int sv), (.int (own_len V)), (.long V), (.int (2 : Int32)), (.int (0 : Int32)), (.ref b1), (.int (1 : Int32))])) rfl (by rw [hml]; rfl) (argsL := [(.ref b1), (.int (0 : Int32)), (.int (2 : Int32)), (.long V), (.int (own_len V)), (.int sv)]) (rest := [(.int (1 : Int32))]) (lenOf pd_2 rfl) rfl (by show 2 * 0 + _ ≤ _; exact Nat.le_of_eq rfl) (hb hby at_154) (fun _ _ => ⟨rfl, rfl, (by decide : 1 + 0 ≤ _), (by decide : 14 + 0 ≤ _)⟩)
    dsimp only [Pt.U, Pt.locs, Pt.cells, Pt.slots] at X50 l50 y50 z50 st50 hQ50
    subst l50 y50 z50
    obtain ⟨rfl, N50q, e50⟩ := hQ50
    have N50 := Fr.app N49 N50q
    obtain ⟨J50, X50, N50⟩ := own_hide X50 N50
    refine own_Go.of (g' := (mkF m 157 #[.val (.long x0), .second, .val (.int x1), .val (.int x2), .val (.int x3), .val (.long V), .second, .val (.int (2 : Int32)), .val (.int sv), .val (.ref b1), .val (.int (own_len V)), .val (.int ((2 : Int32) + (own_len V))), .val (.int (1 : Int32))] [(.int (own_chk (0 : Int32) (2 : Int32) V (own_len V) sv (own_at 2 0 V zz))), (.int (1 : Int32))])) (fun t k => st50 _ k) ?_
    rw [show (own_chk (0 : Int32) (2 : Int32) V (own_len V) sv (own_at 2 0 V zz)) = (1 : Int32) from own_chk_ok hV hzz 2 0 (by decide) (by decide)]
    refine og_iand (pc' := 158) X50 hx (hb hby at_157) rfl ?_
    rw [show ((1 : Int32) &&& (1 : Int32)) = (1 : Int32) from by decide]
    refine og_istore (pc' := 160) (L' := #[.val (.long x0), .second, .val (.int x1), .val (.int x2), .val (.int x3), .val (.long V), .second, .val (.int (2 : Int32)), .val (.int sv), .val (.ref b1), .val (.int (own_len V)), .val (.int ((2 : Int32) + (own_len V))), .val (.int (1 : Int32))]) X50 hx (hb hby at_158) rfl rfl ?_
    refine og_iload (pc' := 162) X50 hx (hb hby at_160) rfl rfl ?_
    refine og_aload (pc' := 164) X50 hx (hb hby at_162) rfl rfl rfl ?_
    refine og_iconst (pc' := 165) (n := 1) X50 hx (hb hby at_164) rfl rfl ?_
    refine og_iload (pc' := 167) X50 hx (hb hby at_165) rfl rfl ?_
    refine og_lload (pc' := 169) X50 hx (hb hby at_167) rfl rfl ?_
    refine og_iload (pc' := 171) X50 hx (hb hby at_169) rfl rfl ?_
    refine og_iload (pc' := 173) X50 hx (hb hby at_171) rfl rfl ?_
    obtain ⟨_, _, ⟨T51, L51, k51, n51⟩, -, X51, ⟨Lc51, hQ51, l51, y51, z51⟩, st51⟩ := Jvm.LawKit.callS X50 hx (y := (⟨"com/example/skorr/skorr/index/IndexFormatWriteVarintPinLaw", "check", "([BIIJIB)Z"⟩ : MethodName)) hown (mvT hZ (hw _ (List.mem_of_getElem? (i := 12) rfl))) (mvT hZ (hw _ (List.mem_of_getElem? (i := 13) rfl))) (mvT hZ (hw _ (List.mem_of_getElem? (i := 4) rfl))) (mvT hZ (hw _ (List.mem_of_getElem? (i := 14) rfl))) (by decide) (backOf (W := 1) (rmchk l Z a0 hw [] b1 (1 : Int32) (2 : Int32) V (own_len V) sv k1 (own_lst 2 V zz) (own_at 2 1 V zz) T49.heap n0 Z49 c49_0 ⟨by decide, by decide⟩ (own_hat 2 1 V zz)) hZ (hw _ (List.mem_of_getElem? (i := 14) rfl)) (hw _ (List.mem_of_getElem? (i := 4) rfl)) (by decide) (by decide)) (g := (mkF m 173 #[.val (.long x0), .second, .val (.int x1), .val (.int x2), .val (.int x3), .val (.long V), .second, .val (.int (2 : Int32)), .val (.int sv), .val (.ref b1), .val (.int (own_len V)), .val (.int ((2 : Int32) + (own_len V))), .val (.int (1 : Int32))] [(.int sv), (.int (own_len V)), (.long V), (.int (2 : Int32)), (.int (1 : Int32)), (.ref b1), (.int (1 : Int32))])) rfl (by rw [hml]; rfl) (argsL := [(.ref b1), (.int (1 : Int32)), (.int (2 : Int32)), (.long V), (.int (own_len V)), (.int sv)]) (rest := [(.int (1 : Int32))]) (lenOf pd_2 rfl) rfl (by show 2 * 0 + _ ≤ _; exact Nat.le_of_eq rfl) (hb hby at_173) (fun _ _ => ⟨rfl, e50, (by decide : 1 + 0 ≤ _), (by decide : 14 + 0 ≤ _)⟩)
    dsimp only [Pt.U, Pt.locs, Pt.cells, Pt.slots] at X51 l51 y51 z51 st51 hQ51
    subst l51 y51 z51
    obtain ⟨rfl, N51q, e51⟩ := hQ51
    have N51 := Fr.app N50 N51q
    obtain ⟨J51, X51, N51⟩ := own_hide X51 N51
    refine own_Go.of (g' := (mkF m 176 #[.val (.long x0), .second, .val (.int x1), .val (.int x2), .val (.int x3), .val (.long V), .second, .val (.int (2 : Int32)), .val (.int sv), .val (.ref b1), .val (.int (own_len V)), .val (.int ((2 : Int32) + (own_len V))), .val (.int (1 : Int32))] [(.int (own_chk (1 : Int32) (2 : Int32) V (own_len V) sv (own_at 2 1 V zz))), (.int (1 : Int32))])) (fun t k => st51 _ k) ?_
    rw [show (own_chk (1 : Int32) (2 : Int32) V (own_len V) sv (own_at 2 1 V zz)) = (1 : Int32) from own_chk_ok hV hzz 2 1 (by decide) (by decide)]
    refine og_iand (pc' := 177) X51 hx (hb hby at_176) rfl ?_
    rw [show ((1 : Int32) &&& (1 : Int32)) = (1 : Int32) from by decide]
    refine og_istore (pc' := 179) (L' := #[.val (.long x0), .second, .val (.int x1), .val (.int x2), .val (.int x3), .val (.long V), .second, .val (.int (2 : Int32)), .val (.int sv), .val (.ref b1), .val (.int (own_len V)), .val (.int ((2 : Int32) + (own_len V))), .val (.int (1 : Int32))]) X51 hx (hb hby at_177) rfl rfl ?_
    refine og_iload (pc' := 181) X51 hx (hb hby at_179) rfl rfl ?_
    refine og_aload (pc' := 183) X51 hx (hb hby at_181) rfl rfl rfl ?_
    refine og_iconst (pc' := 184) (n := 2) X51 hx (hb hby at_183) rfl rfl ?_
    refine og_iload (pc' := 186) X51 hx (hb hby at_184) rfl rfl ?_
    refine og_lload (pc' := 188) X51 hx (hb hby at_186) rfl rfl ?_
    refine og_iload (pc' := 190) X51 hx (hb hby at_188) rfl rfl ?_
    refine og_iload (pc' := 192) X51 hx (hb hby at_190) rfl rfl ?_
    obtain ⟨_, _, ⟨T52, L52, k52, n52⟩, -, X52, ⟨Lc52, hQ52, l52, y52, z52⟩, st52⟩ := Jvm.LawKit.callS X51 hx (y := (⟨"com/example/skorr/skorr/index/IndexFormatWriteVarintPinLaw", "check", "([BIIJIB)Z"⟩ : MethodName)) hown (mvT hZ (hw _ (List.mem_of_getElem? (i := 12) rfl))) (mvT hZ (hw _ (List.mem_of_getElem? (i := 13) rfl))) (mvT hZ (hw _ (List.mem_of_getElem? (i := 4) rfl))) (mvT hZ (hw _ (List.mem_of_getElem? (i := 14) rfl))) (by decide) (backOf (W := 1) (rmchk l Z a0 hw [] b1 (2 : Int32) (2 : Int32) V (own_len V) sv k1 (own_lst 2 V zz) (own_at 2 2 V zz) T49.heap n0 Z49 c49_0 ⟨by decide, by decide⟩ (own_hat 2 2 V zz)) hZ (hw _ (List.mem_of_getElem? (i := 14) rfl)) (hw _ (List.mem_of_getElem? (i := 4) rfl)) (by decide) (by decide)) (g := (mkF m 192 #[.val (.long x0), .second, .val (.int x1), .val (.int x2), .val (.int x3), .val (.long V), .second, .val (.int (2 : Int32)), .val (.int sv), .val (.ref b1), .val (.int (own_len V)), .val (.int ((2 : Int32) + (own_len V))), .val (.int (1 : Int32))] [(.int sv), (.int (own_len V)), (.long V), (.int (2 : Int32)), (.int (2 : Int32)), (.ref b1), (.int (1 : Int32))])) rfl (by rw [hml]; rfl) (argsL := [(.ref b1), (.int (2 : Int32)), (.int (2 : Int32)), (.long V), (.int (own_len V)), (.int sv)]) (rest := [(.int (1 : Int32))]) (lenOf pd_2 rfl) rfl (by show 2 * 0 + _ ≤ _; exact Nat.le_of_eq rfl) (hb hby at_192) (fun _ _ => ⟨rfl, e51, (by decide : 1 + 0 ≤ _), (by decide : 14 + 0 ≤ _)⟩)
    dsimp only [Pt.U, Pt.locs, Pt.cells, Pt.slots] at X52 l52 y52 z52 st52 hQ52
    subst l52 y52 z52
    obtain ⟨rfl, N52q, e52⟩ := hQ52
    have N52 := Fr.app N51 N52q
    obtain ⟨J52, X52, N52⟩ := own_hide X52 N52
    refine own_Go.of (g' := (mkF m 195 #[.val (.long x0), .second, .val (.int x1), .val (.int x2), .val (.int x3), .val (.long V), .second, .val (.int (2 : Int32)), .val (.int sv), .val (.ref b1), .val (.int (own_len V)), .val (.int ((2 : Int32) + (own_len V))), .val (.int (1 : Int32))] [(.int (own_chk (2 : Int32) (2 : Int32) V (own_len V) sv (own_at 2 2 V zz))), (.int (1 : Int32))])) (fun t k => st52 _ k) ?_
    rw [show (own_chk (2 : Int32) (2 : Int32) V (own_len V) sv (own_at 2 2 V zz)) = (1 : Int32) from own_chk_ok hV hzz 2 2 (by decide) (by decide)]
    refine og_iand (pc' := 196) X52 hx (hb hby at_195) rfl ?_
    rw [show ((1 : Int32) &&& (1 : Int32)) = (1 : Int32) from by decide]
    refine og_istore (pc' := 198) (L' := #[.val (.long x0), .second, .val (.int x1), .val (.int x2), .val (.int x3), .val (.long V), .second, .val (.int (2 : Int32)), .val (.int sv), .val (.ref b1), .val (.int (own_len V)), .val (.int ((2 : Int32) + (own_len V))), .val (.int (1 : Int32))]) X52 hx (hb hby at_196) rfl rfl ?_
    refine og_iload (pc' := 200) X52 hx (hb hby at_198) rfl rfl ?_
    refine og_aload (pc' := 202) X52 hx (hb hby at_200) rfl rfl rfl ?_
    refine og_iconst (pc' := 203) (n := 3) X52 hx (hb hby at_202) rfl rfl ?_
    refine og_iload (pc' := 205) X52 hx (hb hby at_203) rfl rfl ?_
    refine og_lload (pc' := 207) X52 hx (hb hby at_205) rfl rfl ?_
    refine og_iload (pc' := 209) X52 hx (hb hby at_207) rfl rfl ?_
    refine og_iload (pc' := 211) X52 hx (hb hby at_209) rfl rfl ?_
    obtain ⟨_, _, ⟨T53, L53, k53, n53⟩, -, X53, ⟨Lc53, hQ53, l53, y53, z53⟩, st53⟩ := Jvm.LawKit.callS X52 hx (y := (⟨"com/example/skorr/skorr/index/IndexFormatWriteVarintPinLaw", "check", "([BIIJIB)Z"⟩ : MethodName)) hown (mvT hZ (hw _ (List.mem_of_getElem? (i := 12) rfl))) (mvT hZ (hw _ (List.mem_of_getElem? (i := 13) rfl))) (mvT hZ (hw _ (List.mem_of_getElem? (i := 4) rfl))) (mvT hZ (hw _ (List.mem_of_getElem? (i := 14) rfl))) (by decide) (backOf (W := 1) (rmchk l Z a0 hw [] b1 (3 : Int32) (2 : Int32) V (own_len V) sv k1 (own_lst 2 V zz) (own_at 2 3 V zz) T49.heap n0 Z49 c49_0 ⟨by decide, by decide⟩ (own_hat 2 3 V zz)) hZ (hw _ (List.mem_of_getElem? (i := 14) rfl)) (hw _ (List.mem_of_getElem? (i := 4) rfl)) (by decide) (by decide)) (g := (mkF m 211 #[.val (.long x0), .second, .val (.int x1), .val (.int x2), .val (.int x3), .val (.long V), .second, .val (.int (2 : Int32)), .val (.int sv), .val (.ref b1), .val (.int (own_len V)), .val (.int ((2 : Int32) + (own_len V))), .val (.int (1 : Int32))] [(.int sv), (.int (own_len V)), (.long V), (.int (2 : Int32)), (.int (3 : Int32)), (.ref b1), (.int (1 : Int32))])) rfl (by rw [hml]; rfl) (argsL := [(.ref b1), (.int (3 : Int32)), (.int (2 : Int32)), (.long V), (.int (own_len V)), (.int sv)]) (rest := [(.int (1 : Int32))]) (lenOf pd_2 rfl) rfl (by show 2 * 0 + _ ≤ _; exact Nat.le_of_eq rfl) (hb hby at_211) (fun _ _ => ⟨rfl, e52, (by decide : 1 + 0 ≤ _), (by decide : 14 + 0 ≤ _)⟩)
    dsimp only [Pt.U, Pt.locs, Pt.cells, Pt.slots] at X53 l53 y53 z53 st53 hQ53
    subst l53 y53 z53
    obtain ⟨rfl, N53q, e53⟩ := hQ53
    have N53 := Fr.app N52 N53q
    obtain ⟨J53, X53, N53⟩ := own_hide X53 N53
    refine own_Go.of (g' := (mkF m 214 #[.val (.long x0), .second, .val (.int x1), .val (.int x2), .val (.int x3), .val (.long V), .second, .val (.int (2 : Int32)), .val (.int sv), .val (.ref b1), .val (.int (own_len V)), .val (.int ((2 : Int32) + (own_len V))), .val (.int (1 : Int32))] [(.int (own_chk (3 : Int32) (2 : Int32) V (own_len V) sv (own_at 2 3 V zz))), (.int (1 : Int32))])) (fun t k => st53 _ k) ?_
    rw [show (own_chk (3 : Int32) (2 : Int32) V (own_len V) sv (own_at 2 3 V zz)) = (1 : Int32) from own_chk_ok hV hzz 2 3 (by decide) (by decide)]
    refine og_iand (pc' := 215) X53 hx (hb hby at_214) rfl ?_
    rw [show ((1 : Int32) &&& (1 : Int32)) = (1 : Int32) from by decide]
    refine og_istore (pc' := 217) (L' := #[.val (.long x0), .second, .val (.int x1), .val (.int x2), .val (.int x3), .val (.long V), .second, .val (.int (2 : Int32)), .val (.int sv), .val (.ref b1), .val (.int (own_len V)), .val (.int ((2 : Int32) + (own_len V))), .val (.int (1 : Int32))]) X53 hx (hb hby at_215) rfl rfl ?_
    refine og_iload (pc' := 219) X53 hx (hb hby at_217) rfl rfl ?_
    refine og_aload (pc' := 221) X53 hx (hb hby at_219) rfl rfl rfl ?_
    refine og_iconst (pc' := 222) (n := 4) X53 hx (hb hby at_221) rfl rfl ?_
    refine og_iload (pc' := 224) X53 hx (hb hby at_222) rfl rfl ?_
    refine og_lload (pc' := 226) X53 hx (hb hby at_224) rfl rfl ?_
    refine og_iload (pc' := 228) X53 hx (hb hby at_226) rfl rfl ?_
    refine og_iload (pc' := 230) X53 hx (hb hby at_228) rfl rfl ?_
    obtain ⟨_, _, ⟨T54, L54, k54, n54⟩, -, X54, ⟨Lc54, hQ54, l54, y54, z54⟩, st54⟩ := Jvm.LawKit.callS X53 hx (y := (⟨"com/example/skorr/skorr/index/IndexFormatWriteVarintPinLaw", "check", "([BIIJIB)Z"⟩ : MethodName)) hown (mvT hZ (hw _ (List.mem_of_getElem? (i := 12) rfl))) (mvT hZ (hw _ (List.mem_of_getElem? (i := 13) rfl))) (mvT hZ (hw _ (List.mem_of_getElem? (i := 4) rfl))) (mvT hZ (hw _ (List.mem_of_getElem? (i := 14) rfl))) (by decide) (backOf (W := 1) (rmchk l Z a0 hw [] b1 (4 : Int32) (2 : Int32) V (own_len V) sv k1 (own_lst 2 V zz) (own_at 2 4 V zz) T49.heap n0 Z49 c49_0 ⟨by decide, by decide⟩ (own_hat 2 4 V zz)) hZ (hw _ (List.mem_of_getElem? (i := 14) rfl)) (hw _ (List.mem_of_getElem? (i := 4) rfl)) (by decide) (by decide)) (g := (mkF m 230 #[.val (.long x0), .second, .val (.int x1), .val (.int x2), .val (.int x3), .val (.long V), .second, .val (.int (2 : Int32)), .val (.int sv), .val (.ref b1), .val (.int (own_len V)), .val (.int ((2 : Int32) + (own_len V))), .val (.int (1 : Int32))] [(.int sv), (.int (own_len V)), (.long V), (.int (2 : Int32)), (.int (4 : Int32)), (.ref b1), (.int (1 : Int32))])) rfl (by rw [hml]; rfl) (argsL := [(.ref b1), (.int (4 : Int32)), (.int (2 : Int32)), (.long V), (.int (own_len V)), (.int sv)]) (rest := [(.int (1 : Int32))]) (lenOf pd_2 rfl) rfl (by show 2 * 0 + _ ≤ _; exact Nat.le_of_eq rfl) (hb hby at_230) (fun _ _ => ⟨rfl, e53, (by decide : 1 + 0 ≤ _), (by decide : 14 + 0 ≤ _)⟩)
    dsimp only [Pt.U, Pt.locs, Pt.cells, Pt.slots] at X54 l54 y54 z54 st54 hQ54
    subst l54 y54 z54
    obtain ⟨rfl, N54q, e54⟩ := hQ54
    have N54 := Fr.app N53 N54q
    obtain ⟨J54, X54, N54⟩ := own_hide X54 N54
    refine own_Go.of (g' := (mkF m 233 #[.val (.long x0), .second, .val (.int x1), .val (.int x2), .val (.int x3), .val (.long V), .second, .val (.int (2 : Int32)), .val (.int sv), .val (.ref b1), .val (.int (own_len V)), .val (.int ((2 : Int32) + (own_len V))), .val (.int (1 : Int32))] [(.int (own_chk (4 : Int32) (2 : Int32) V (own_len V) sv (own_at 2 4 V zz))), (.int (1 : Int32))])) (fun t k => st54 _ k) ?_
    rw [show (own_chk (4 : Int32) (2 : Int32) V (own_len V) sv (own_at 2 4 V zz)) = (1 : Int32) from own_chk_ok hV hzz 2 4 (by decide) (by decide)]
    refine og_iand (pc' := 234) X54 hx (hb hby at_233) rfl ?_
    rw [show ((1 : Int32) &&& (1 : Int32)) = (1 : Int32) from by decide]
    refine og_istore (pc' := 236) (L' := #[.val (.long x0), .second, .val (.int x1), .val (.int x2), .val (.int x3), .val (.long V), .second, .val (.int (2 : Int32)), .val (.int sv), .val (.ref b1), .val (.int (own_len V)), .val (.int ((2 : Int32) + (own_len V))), .val (.int (1 : Int32))]) X54 hx (hb hby at_234) rfl rfl ?_
    refine og_iload (pc' := 238) X54 hx (hb hby at_236) rfl rfl ?_
    refine og_aload (pc' := 240) X54 hx (hb hby at_238) rfl rfl rfl ?_
    refine og_iconst (pc' := 241) (n := 5) X54 hx (hb hby at_240) rfl rfl ?_
    refine og_iload (pc' := 243) X54 hx (hb hby at_241) rfl rfl ?_
    refine og_lload (pc' := 245) X54 hx (hb hby at_243) rfl rfl ?_
    refine og_iload (pc' := 247) X54 hx (hb hby at_245) rfl rfl ?_
    refine og_iload (pc' := 249) X54 hx (hb hby at_247) rfl rfl ?_
    obtain ⟨_, _, ⟨T55, L55, k55, n55⟩, -, X55, ⟨Lc55, hQ55, l55, y55, z55⟩, st55⟩ := Jvm.LawKit.callS X54 hx (y := (⟨"com/example/skorr/skorr/index/IndexFormatWriteVarintPinLaw", "check", "([BIIJIB)Z"⟩ : MethodName)) hown (mvT hZ (hw _ (List.mem_of_getElem? (i := 12) rfl))) (mvT hZ (hw _ (List.mem_of_getElem? (i := 13) rfl))) (mvT hZ (hw _ (List.mem_of_getElem? (i := 4) rfl))) (mvT hZ (hw _ (List.mem_of_getElem? (i := 14) rfl))) (by decide) (backOf (W := 1) (rmchk l Z a0 hw [] b1 (5 : Int32) (2 : Int32) V (own_len V) sv k1 (own_lst 2 V zz) (own_at 2 5 V zz) T49.heap n0 Z49 c49_0 ⟨by decide, by decide⟩ (own_hat 2 5 V zz)) hZ (hw _ (List.mem_of_getElem? (i := 14) rfl)) (hw _ (List.mem_of_getElem? (i := 4) rfl)) (by decide) (by decide)) (g := (mkF m 249 #[.val (.long x0), .second, .val (.int x1), .val (.int x2), .val (.int x3), .val (.long V), .second, .val (.int (2 : Int32)), .val (.int sv), .val (.ref b1), .val (.int (own_len V)), .val (.int ((2 : Int32) + (own_len V))), .val (.int (1 : Int32))] [(.int sv), (.int (own_len V)), (.long V), (.int (2 : Int32)), (.int (5 : Int32)), (.ref b1), (.int (1 : Int32))])) rfl (by rw [hml]; rfl) (argsL := [(.ref b1), (.int (5 : Int32)), (.int (2 : Int32)), (.long V), (.int (own_len V)), (.int sv)]) (rest := [(.int (1 : Int32))]) (lenOf pd_2 rfl) rfl (by show 2 * 0 + _ ≤ _; exact Nat.le_of_eq rfl) (hb hby at_249) (fun _ _ => ⟨rfl, e54, (by decide : 1 + 0 ≤ _), (by decide : 14 + 0 ≤ _)⟩)
    dsimp only [Pt.U, Pt.locs, Pt.cells, Pt.slots] at X55 l55 y55 z55 st55 hQ55
    subst l55 y55 z55
    obtain ⟨rfl, N55q, e55⟩ := hQ55
    have N55 := Fr.app N54 N55q
    obtain ⟨J55, X55, N55⟩ := own_hide X55 N55
    refine own_Go.of (g' := (mkF m 252 #[.val (.long x0), .second, .val (.int x1), .val (.int x2), .val (.int x3), .val (.long V), .second, .val (.int (2 : Int32)), .val (.int sv), .val (.ref b1), .val (.int (own_len V)), .val (.int ((2 : Int32) + (own_len V))), .val (.int (1 : Int32))] [(.int (own_chk (5 : Int32) (2 : Int32) V (own_len V) sv (own_at 2 5 V zz))), (.int (1 : Int32))])) (fun t k => st55 _ k) ?_
    rw [show (own_chk (5 : Int32) (2 : Int32) V (own_len V) sv (own_at 2 5 V zz)) = (1 : Int32) from own_chk_ok hV hzz 2 5 (by decide) (by decide)]
    refine og_iand (pc' := 253) X55 hx (hb hby at_252) rfl ?_
    rw [show ((1 : Int32) &&& (1 : Int32)) = (1 : Int32) from by decide]
    refine og_istore (pc' := 255) (L' := #[.val (.long x0), .second, .val (.int x1), .val (.int x2), .val (.int x3), .val (.long V), .second, .val (.int (2 : Int32)), .val (.int sv), .val (.ref b1), .val (.int (own_len V)), .val (.int ((2 : Int32) + (own_len V))), .val (.int (1 : Int32))]) X55 hx (hb hby at_253) rfl rfl ?_
    refine og_iload (pc' := 257) X55 hx (hb hby at_255) rfl rfl ?_
    refine og_aload (pc' := 259) X55 hx (hb hby at_257) rfl rfl rfl ?_
    refine og_bipush (pc' := 261) (n := 6) X55 hx (hb hby at_259) rfl rfl ?_
    refine og_iload (pc' := 263) X55 hx (hb hby at_261) rfl rfl ?_
    refine og_lload (pc' := 265) X55 hx (hb hby at_263) rfl rfl ?_
    refine og_iload (pc' := 267) X55 hx (hb hby at_265) rfl rfl ?_
    refine og_iload (pc' := 269) X55 hx (hb hby at_267) rfl rfl ?_
    obtain ⟨_, _, ⟨T56, L56, k56, n56⟩, -, X56, ⟨Lc56, hQ56, l56, y56, z56⟩, st56⟩ := Jvm.LawKit.callS X55 hx (y := (⟨"com/example/skorr/skorr/index/IndexFormatWriteVarintPinLaw", "check", "([BIIJIB)Z"⟩ : MethodName)) hown (mvT hZ (hw _ (List.mem_of_getElem? (i := 12) rfl))) (mvT hZ (hw _ (List.mem_of_getElem? (i := 13) rfl))) (mvT hZ (hw _ (List.mem_of_getElem? (i := 4) rfl))) (mvT hZ (hw _ (List.mem_of_getElem? (i := 14) rfl))) (by decide) (backOf (W := 1) (rmchk l Z a0 hw [] b1 (6 : Int32) (2 : Int32) V (own_len V) sv k1 (own_lst 2 V zz) (own_at 2 6 V zz) T49.heap n0 Z49 c49_0 ⟨by decide, by decide⟩ (own_hat 2 6 V zz)) hZ (hw _ (List.mem_of_getElem? (i := 14) rfl)) (hw _ (List.mem_of_getElem? (i := 4) rfl)) (by decide) (by decide)) (g := (mkF m 269 #[.val (.long x0), .second, .val (.int x1), .val (.int x2), .val (.int x3), .val (.long V), .second, .val (.int (2 : Int32)), .val (.int sv), .val (.ref b1), .val (.int (own_len V)), .val (.int ((2 : Int32) + (own_len V))), .val (.int (1 : Int32))] [(.int sv), (.int (own_len V)), (.long V), (.int (2 : Int32)), (.int (6 : Int32)), (.ref b1), (.int (1 : Int32))])) rfl (by rw [hml]; rfl) (argsL := [(.ref b1), (.int (6 : Int32)), (.int (2 : Int32)), (.long V), (.int (own_len V)), (.int sv)]) (rest := [(.int (1 : Int32))]) (lenOf pd_2 rfl) rfl (by show 2 * 0 + _ ≤ _; exact Nat.le_of_eq rfl) (hb hby at_269) (fun _ _ => ⟨rfl, e55, (by decide : 1 + 0 ≤ _), (by decide : 14 + 0 ≤ _)⟩)
    dsimp only [Pt.U, Pt.locs, Pt.cells, Pt.slots] at X56 l56 y56 z56 st56 hQ56
    subst l56 y56 z56
    obtain ⟨rfl, N56q, e56⟩ := hQ56
    have N56 := Fr.app N55 N56q
    obtain ⟨J56, X56, N56⟩ := own_hide X56 N56
    refine own_Go.of (g' := (mkF m 272 #[.val (.long x0), .second, .val (.int x1), .val (.int x2), .val (.int x3), .val (.long V), .second, .val (.int (2 : Int32)), .val (.int sv), .val (.ref b1), .val (.int (own_len V)), .val (.int ((2 : Int32) + (own_len V))), .val (.int (1 : Int32))] [(.int (own_chk (6 : Int32) (2 : Int32) V (own_len V) sv (own_at 2 6 V zz))), (.int (1 : Int32))])) (fun t k => st56 _ k) ?_
    rw [show (own_chk (6 : Int32) (2 : Int32) V (own_len V) sv (own_at 2 6 V zz)) = (1 : Int32) from own_chk_ok hV hzz 2 6 (by decide) (by decide)]
    refine og_iand (pc' := 273) X56 hx (hb hby at_272) rfl ?_
    rw [show ((1 : Int32) &&& (1 : Int32)) = (1 : Int32) from by decide]
    refine og_istore (pc' := 275) (L' := #[.val (.long x0), .second, .val (.int x1), .val (.int x2), .val (.int x3), .val (.long V), .second, .val (.int (2 : Int32)), .val (.int sv), .val (.ref b1), .val (.int (own_len V)), .val (.int ((2 : Int32) + (own_len V))), .val (.int (1 : Int32))]) X56 hx (hb hby at_273) rfl rfl ?_
    refine og_iload (pc' := 277) X56 hx (hb hby at_275) rfl rfl ?_
    refine og_aload (pc' := 279) X56 hx (hb hby at_277) rfl rfl rfl ?_
    refine og_bipush (pc' := 281) (n := 7) X56 hx (hb hby at_279) rfl rfl ?_
    refine og_iload (pc' := 283) X56 hx (hb hby at_281) rfl rfl ?_
    refine og_lload (pc' := 285) X56 hx (hb hby at_283) rfl rfl ?_
    refine og_iload (pc' := 287) X56 hx (hb hby at_285) rfl rfl ?_
    refine og_iload (pc' := 289) X56 hx (hb hby at_287) rfl rfl ?_
    obtain ⟨_, _, ⟨T57, L57, k57, n57⟩, -, X57, ⟨Lc57, hQ57, l57, y57, z57⟩, st57⟩ := Jvm.LawKit.callS X56 hx (y := (⟨"com/example/skorr/skorr/index/IndexFormatWriteVarintPinLaw", "check", "([BIIJIB)Z"⟩ : MethodName)) hown (mvT hZ (hw _ (List.mem_of_getElem? (i := 12) rfl))) (mvT hZ (hw _ (List.mem_of_getElem? (i := 13) rfl))) (mvT hZ (hw _ (List.mem_of_getElem? (i := 4) rfl))) (mvT hZ (hw _ (List.mem_of_getElem? (i := 14) rfl))) (by decide) (backOf (W := 1) (rmchk l Z a0 hw [] b1 (7 : Int32) (2 : Int32) V (own_len V) sv k1 (own_lst 2 V zz) (own_at 2 7 V zz) T49.heap n0 Z49 c49_0 ⟨by decide, by decide⟩ (own_hat 2 7 V zz)) hZ (hw _ (List.mem_of_getElem? (i := 14) rfl)) (hw _ (List.mem_of_getElem? (i := 4) rfl)) (by decide) (by decide)) (g := (mkF m 289 #[.val (.long x0), .second, .val (.int x1), .val (.int x2), .val (.int x3), .val (.long V), .second, .val (.int (2 : Int32)), .val (.int sv), .val (.ref b1), .val (.int (own_len V)), .val (.int ((2 : Int32) + (own_len V))), .val (.int (1 : Int32))] [(.int sv), (.int (own_len V)), (.long V), (.int (2 : Int32)), (.int (7 : Int32)), (.ref b1), (.int (1 : Int32))])) rfl (by rw [hml]; rfl) (argsL := [(.ref b1), (.int (7 : Int32)), (.int (2 : Int32)), (.long V), (.int (own_len V)), (.int sv)]) (rest := [(.int (1 : Int32))]) (lenOf pd_2 rfl) rfl (by show 2 * 0 + _ ≤ _; exact Nat.le_of_eq rfl) (hb hby at_289) (fun _ _ => ⟨rfl, e56, (by decide : 1 + 0 ≤ _), (by decide : 14 + 0 ≤ _)⟩)
    dsimp only [Pt.U, Pt.locs, Pt.cells, Pt.slots] at X57 l57 y57 z57 st57 hQ57
    subst l57 y57 z57
    obtain ⟨rfl, N57q, e57⟩ := hQ57
    have N57 := Fr.app N56 N57q
    obtain ⟨J57, X57, N57⟩ := own_hide X57 N57
    refine own_Go.of (g' := (mkF m 292 #[.val (.long x0), .second, .val (.int x1), .val (.int x2), .val (.int x3), .val (.long V), .second, .val (.int (2 : Int32)), .val (.int sv), .val (.ref b1), .val (.int (own_len V)), .val (.int ((2 : Int32) + (own_len V))), .val (.int (1 : Int32))] [(.int (own_chk (7 : Int32) (2 : Int32) V (own_len V) sv (own_at 2 7 V zz))), (.int (1 : Int32))])) (fun t k => st57 _ k) ?_
    rw [show (own_chk (7 : Int32) (2 : Int32) V (own_len V) sv (own_at 2 7 V zz)) = (1 : Int32) from own_chk_ok hV hzz 2 7 (by decide) (by decide)]
    refine og_iand (pc' := 293) X57 hx (hb hby at_292) rfl ?_
    rw [show ((1 : Int32) &&& (1 : Int32)) = (1 : Int32) from by decide]
    refine og_istore (pc' := 295) (L' := #[.val (.long x0), .second, .val (.int x1), .val (.int x2), .val (.int x3), .val (.long V), .second, .val (.int (2 : Int32)), .val (.int sv), .val (.ref b1), .val (.int (own_len V)), .val (.int ((2 : Int32) + (own_len V))), .val (.int (1 : Int32))]) X57 hx (hb hby at_293) rfl rfl ?_
    refine og_iload (pc' := 297) X57 hx (hb hby at_295) rfl rfl ?_
    refine og_aload (pc' := 299) X57 hx (hb hby at_297) rfl rfl rfl ?_
    refine og_bipush (pc' := 301) (n := 8) X57 hx (hb hby at_299) rfl rfl ?_
    refine og_iload (pc' := 303) X57 hx (hb hby at_301) rfl rfl ?_
    refine og_lload (pc' := 305) X57 hx (hb hby at_303) rfl rfl ?_
    refine og_iload (pc' := 307) X57 hx (hb hby at_305) rfl rfl ?_
    refine og_iload (pc' := 309) X57 hx (hb hby at_307) rfl rfl ?_
    obtain ⟨_, _, ⟨T58, L58, k58, n58⟩, -, X58, ⟨Lc58, hQ58, l58, y58, z58⟩, st58⟩ := Jvm.LawKit.callS X57 hx (y := (⟨"com/example/skorr/skorr/index/IndexFormatWriteVarintPinLaw", "check", "([BIIJIB)Z"⟩ : MethodName)) hown (mvT hZ (hw _ (List.mem_of_getElem? (i := 12) rfl))) (mvT hZ (hw _ (List.mem_of_getElem? (i := 13) rfl))) (mvT hZ (hw _ (List.mem_of_getElem? (i := 4) rfl))) (mvT hZ (hw _ (List.mem_of_getElem? (i := 14) rfl))) (by decide) (backOf (W := 1) (rmchk l Z a0 hw [] b1 (8 : Int32) (2 : Int32) V (own_len V) sv k1 (own_lst 2 V zz) (own_at 2 8 V zz) T49.heap n0 Z49 c49_0 ⟨by decide, by decide⟩ (own_hat 2 8 V zz)) hZ (hw _ (List.mem_of_getElem? (i := 14) rfl)) (hw _ (List.mem_of_getElem? (i := 4) rfl)) (by decide) (by decide)) (g := (mkF m 309 #[.val (.long x0), .second, .val (.int x1), .val (.int x2), .val (.int x3), .val (.long V), .second, .val (.int (2 : Int32)), .val (.int sv), .val (.ref b1), .val (.int (own_len V)), .val (.int ((2 : Int32) + (own_len V))), .val (.int (1 : Int32))] [(.int sv), (.int (own_len V)), (.long V), (.int (2 : Int32)), (.int (8 : Int32)), (.ref b1), (.int (1 : Int32))])) rfl (by rw [hml]; rfl) (argsL := [(.ref b1), (.int (8 : Int32)), (.int (2 : Int32)), (.long V), (.int (own_len V)), (.int sv)]) (rest := [(.int (1 : Int32))]) (lenOf pd_2 rfl) rfl (by show 2 * 0 + _ ≤ _; exact Nat.le_of_eq rfl) (hb hby at_309) (fun _ _ => ⟨rfl, e57, (by decide : 1 + 0 ≤ _), (by decide : 14 + 0 ≤ _)⟩)
    dsimp only [Pt.U, Pt.locs, Pt.cells, Pt.slots] at X58 l58 y58 z58 st58 hQ58
    subst l58 y58 z58
    obtain ⟨rfl, N58q, e58⟩ := hQ58
    have N58 := Fr.app N57 N58q
    obtain ⟨J58, X58, N58⟩ := own_hide X58 N58
    refine own_Go.of (g' := (mkF m 312 #[.val (.long x0), .second, .val (.int x1), .val (.int x2), .val (.int x3), .val (.long V), .second, .val (.int (2 : Int32)), .val (.int sv), .val (.ref b1), .val (.int (own_len V)), .val (.int ((2 : Int32) + (own_len V))), .val (.int (1 : Int32))] [(.int (own_chk (8 : Int32) (2 : Int32) V (own_len V) sv (own_at 2 8 V zz))), (.int (1 : Int32))])) (fun t k => st58 _ k) ?_
    rw [show (own_chk (8 : Int32) (2 : Int32) V (own_len V) sv (own_at 2 8 V zz)) = (1 : Int32) from own_chk_ok hV hzz 2 8 (by decide) (by decide)]
    refine og_iand (pc' := 313) X58 hx (hb hby at_312) rfl ?_
    rw [show ((1 : Int32) &&& (1 : Int32)) = (1 : Int32) from by decide]
    refine og_istore (pc' := 315) (L' := #[.val (.long x0), .second, .val (.int x1), .val (.int x2), .val (.int x3), .val (.long V), .second, .val (.int (2 : Int32)), .val (.int sv), .val (.ref b1), .val (.int (own_len V)), .val (.int ((2 : Int32) + (own_len V))), .val (.int (1 : Int32))]) X58 hx (hb hby at_313) rfl rfl ?_
    refine og_iload (pc' := 317) X58 hx (hb hby at_315) rfl rfl ?_
    refine og_aload (pc' := 319) X58 hx (hb hby at_317) rfl rfl rfl ?_
    refine og_bipush (pc' := 321) (n := 9) X58 hx (hb hby at_319) rfl rfl ?_
    refine og_iload (pc' := 323) X58 hx (hb hby at_321) rfl rfl ?_
    refine og_lload (pc' := 325) X58 hx (hb hby at_323) rfl rfl ?_
    refine og_iload (pc' := 327) X58 hx (hb hby at_325) rfl rfl ?_
    refine og_iload (pc' := 329) X58 hx (hb hby at_327) rfl rfl ?_
    obtain ⟨_, _, ⟨T59, L59, k59, n59⟩, -, X59, ⟨Lc59, hQ59, l59, y59, z59⟩, st59⟩ := Jvm.LawKit.callS X58 hx (y := (⟨"com/example/skorr/skorr/index/IndexFormatWriteVarintPinLaw", "check", "([BIIJIB)Z"⟩ : MethodName)) hown (mvT hZ (hw _ (List.mem_of_getElem? (i := 12) rfl))) (mvT hZ (hw _ (List.mem_of_getElem? (i := 13) rfl))) (mvT hZ (hw _ (List.mem_of_getElem? (i := 4) rfl))) (mvT hZ (hw _ (List.mem_of_getElem? (i := 14) rfl))) (by decide) (backOf (W := 1) (rmchk l Z a0 hw [] b1 (9 : Int32) (2 : Int32) V (own_len V) sv k1 (own_lst 2 V zz) (own_at 2 9 V zz) T49.heap n0 Z49 c49_0 ⟨by decide, by decide⟩ (own_hat 2 9 V zz)) hZ (hw _ (List.mem_of_getElem? (i := 14) rfl)) (hw _ (List.mem_of_getElem? (i := 4) rfl)) (by decide) (by decide)) (g := (mkF m 329 #[.val (.long x0), .second, .val (.int x1), .val (.int x2), .val (.int x3), .val (.long V), .second, .val (.int (2 : Int32)), .val (.int sv), .val (.ref b1), .val (.int (own_len V)), .val (.int ((2 : Int32) + (own_len V))), .val (.int (1 : Int32))] [(.int sv), (.int (own_len V)), (.long V), (.int (2 : Int32)), (.int (9 : Int32)), (.ref b1), (.int (1 : Int32))])) rfl (by rw [hml]; rfl) (argsL := [(.ref b1), (.int (9 : Int32)), (.int (2 : Int32)), (.long V), (.int (own_len V)), (.int sv)]) (rest := [(.int (1 : Int32))]) (lenOf pd_2 rfl) rfl (by show 2 * 0 + _ ≤ _; exact Nat.le_of_eq rfl) (hb hby at_329) (fun _ _ => ⟨rfl, e58, (by decide : 1 + 0 ≤ _), (by decide : 14 + 0 ≤ _)⟩)
    dsimp only [Pt.U, Pt.locs, Pt.cells, Pt.slots] at X59 l59 y59 z59 st59 hQ59
    subst l59 y59 z59
    obtain ⟨rfl, N59q, e59⟩ := hQ59
    have N59 := Fr.app N58 N59q
    obtain ⟨J59, X59, N59⟩ := own_hide X59 N59
    refine own_Go.of (g' := (mkF m 332 #[.val (.long x0), .second, .val (.int x1), .val (.int x2), .val (.int x3), .val (.long V), .second, .val (.int (2 : Int32)), .val (.int sv), .val (.ref b1), .val (.int (own_len V)), .val (.int ((2 : Int32) + (own_len V))), .val (.int (1 : Int32))] [(.int (own_chk (9 : Int32) (2 : Int32) V (own_len V) sv (own_at 2 9 V zz))), (.int (1 : Int32))])) (fun t k => st59 _ k) ?_
    rw [show (own_chk (9 : Int32) (2 : Int32) V (own_len V) sv (own_at 2 9 V zz)) = (1 : Int32) from own_chk_ok hV hzz 2 9 (by decide) (by decide)]
    refine og_iand (pc' := 333) X59 hx (hb hby at_332) rfl ?_
    rw [show ((1 : Int32) &&& (1 : Int32)) = (1 : Int32) from by decide]
    refine og_istore (pc' := 335) (L' := #[.val (.long x0), .second, .val (.int x1), .val (.int x2), .val (.int x3), .val (.long V), .second, .val (.int (2 : Int32)), .val (.int sv), .val (.ref b1), .val (.int (own_len V)), .val (.int ((2 : Int32) + (own_len V))), .val (.int (1 : Int32))]) X59 hx (hb hby at_333) rfl rfl ?_
    refine og_iload (pc' := 337) X59 hx (hb hby at_335) rfl rfl ?_
    refine og_aload (pc' := 339) X59 hx (hb hby at_337) rfl rfl rfl ?_
    refine og_bipush (pc' := 341) (n := 10) X59 hx (hb hby at_339) rfl rfl ?_
    refine og_iload (pc' := 343) X59 hx (hb hby at_341) rfl rfl ?_
    refine og_lload (pc' := 345) X59 hx (hb hby at_343) rfl rfl ?_
    refine og_iload (pc' := 347) X59 hx (hb hby at_345) rfl rfl ?_
    refine og_iload (pc' := 349) X59 hx (hb hby at_347) rfl rfl ?_
    obtain ⟨_, _, ⟨T60, L60, k60, n60⟩, -, X60, ⟨Lc60, hQ60, l60, y60, z60⟩, st60⟩ := Jvm.LawKit.callS X59 hx (y := (⟨"com/example/skorr/skorr/index/IndexFormatWriteVarintPinLaw", "check", "([BIIJIB)Z"⟩ : MethodName)) hown (mvT hZ (hw _ (List.mem_of_getElem? (i := 12) rfl))) (mvT hZ (hw _ (List.mem_of_getElem? (i := 13) rfl))) (mvT hZ (hw _ (List.mem_of_getElem? (i := 4) rfl))) (mvT hZ (hw _ (List.mem_of_getElem? (i := 14) rfl))) (by decide) (backOf (W := 1) (rmchk l Z a0 hw [] b1 (10 : Int32) (2 : Int32) V (own_len V) sv k1 (own_lst 2 V zz) (own_at 2 10 V zz) T49.heap n0 Z49 c49_0 ⟨by decide, by decide⟩ (own_hat 2 10 V zz)) hZ (hw _ (List.mem_of_getElem? (i := 14) rfl)) (hw _ (List.mem_of_getElem? (i := 4) rfl)) (by decide) (by decide)) (g := (mkF m 349 #[.val (.long x0), .second, .val (.int x1), .val (.int x2), .val (.int x3), .val (.long V), .second, .val (.int (2 : Int32)), .val (.int sv), .val (.ref b1), .val (.int (own_len V)), .val (.int ((2 : Int32) + (own_len V))), .val (.int (1 : Int32))] [(.int sv), (.int (own_len V)), (.long V), (.int (2 : Int32)), (.int (10 : Int32)), (.ref b1), (.int (1 : Int32))])) rfl (by rw [hml]; rfl) (argsL := [(.ref b1), (.int (10 : Int32)), (.int (2 : Int32)), (.long V), (.int (own_len V)), (.int sv)]) (rest := [(.int (1 : Int32))]) (lenOf pd_2 rfl) rfl (by show 2 * 0 + _ ≤ _; exact Nat.le_of_eq rfl) (hb hby at_349) (fun _ _ => ⟨rfl, e59, (by decide : 1 + 0 ≤ _), (by decide : 14 + 0 ≤ _)⟩)
    dsimp only [Pt.U, Pt.locs, Pt.cells, Pt.slots] at X60 l60 y60 z60 st60 hQ60
    subst l60 y60 z60
    obtain ⟨rfl, N60q, e60⟩ := hQ60
    have N60 := Fr.app N59 N60q
    obtain ⟨J60, X60, N60⟩ := own_hide X60 N60
    refine own_Go.of (g' := (mkF m 352 #[.val (.long x0), .second, .val (.int x1), .val (.int x2), .val (.int x3), .val (.long V), .second, .val (.int (2 : Int32)), .val (.int sv), .val (.ref b1), .val (.int (own_len V)), .val (.int ((2 : Int32) + (own_len V))), .val (.int (1 : Int32))] [(.int (own_chk (10 : Int32) (2 : Int32) V (own_len V) sv (own_at 2 10 V zz))), (.int (1 : Int32))])) (fun t k => st60 _ k) ?_
    rw [show (own_chk (10 : Int32) (2 : Int32) V (own_len V) sv (own_at 2 10 V zz)) = (1 : Int32) from own_chk_ok hV hzz 2 10 (by decide) (by decide)]
    refine og_iand (pc' := 353) X60 hx (hb hby at_352) rfl ?_
    rw [show ((1 : Int32) &&& (1 : Int32)) = (1 : Int32) from by decide]
    refine og_istore (pc' := 355) (L' := #[.val (.long x0), .second, .val (.int x1), .val (.int x2), .val (.int x3), .val (.long V), .second, .val (.int (2 : Int32)), .val (.int sv), .val (.ref b1), .val (.int (own_len V)), .val (.int ((2 : Int32) + (own_len V))), .val (.int (1 : Int32))]) X60 hx (hb hby at_353) rfl rfl ?_
    refine og_iload (pc' := 357) X60 hx (hb hby at_355) rfl rfl ?_
    refine og_aload (pc' := 359) X60 hx (hb hby at_357) rfl rfl rfl ?_
    refine og_bipush (pc' := 361) (n := 11) X60 hx (hb hby at_359) rfl rfl ?_
    refine og_iload (pc' := 363) X60 hx (hb hby at_361) rfl rfl ?_
    refine og_lload (pc' := 365) X60 hx (hb hby at_363) rfl rfl ?_
    refine og_iload (pc' := 367) X60 hx (hb hby at_365) rfl rfl ?_
    refine og_iload (pc' := 369) X60 hx (hb hby at_367) rfl rfl ?_
    obtain ⟨_, _, ⟨T61, L61, k61, n61⟩, -, X61, ⟨Lc61, hQ61, l61, y61, z61⟩, st61⟩ := Jvm.LawKit.callS X60 hx (y := (⟨"com/example/skorr/skorr/index/IndexFormatWriteVarintPinLaw", "check", "([BIIJIB)Z"⟩ : MethodName)) hown (mvT hZ (hw _ (List.mem_of_getElem? (i := 12) rfl))) (mvT hZ (hw _ (List.mem_of_getElem? (i := 13) rfl))) (mvT hZ (hw _ (List.mem_of_getElem? (i := 4) rfl))) (mvT hZ (hw _ (List.mem_of_getElem? (i := 14) rfl))) (by decide) (backOf (W := 1) (rmchk l Z a0 hw [] b1 (11 : Int32) (2 : Int32) V (own_len V) sv k1 (own_lst 2 V zz) (own_at 2 11 V zz) T49.heap n0 Z49 c49_0 ⟨by decide, by decide⟩ (own_hat 2 11 V zz)) hZ (hw _ (List.mem_of_getElem? (i := 14) rfl)) (hw _ (List.mem_of_getElem? (i := 4) rfl)) (by decide) (by decide)) (g := (mkF m 369 #[.val (.long x0), .second, .val (.int x1), .val (.int x2), .val (.int x3), .val (.long V), .second, .val (.int (2 : Int32)), .val (.int sv), .val (.ref b1), .val (.int (own_len V)), .val (.int ((2 : Int32) + (own_len V))), .val (.int (1 : Int32))] [(.int sv), (.int (own_len V)), (.long V), (.int (2 : Int32)), (.int (11 : Int32)), (.ref b1), (.int (1 : Int32))])) rfl (by rw [hml]; rfl) (argsL := [(.ref b1), (.int (11 : Int32)), (.int (2 : Int32)), (.long V), (.int (own_len V)), (.int sv)]) (rest := [(.int (1 : Int32))]) (lenOf pd_2 rfl) rfl (by show 2 * 0 + _ ≤ _; exact Nat.le_of_eq rfl) (hb hby at_369) (fun _ _ => ⟨rfl, e60, (by decide : 1 + 0 ≤ _), (by decide : 14 + 0 ≤ _)⟩)
    dsimp only [Pt.U, Pt.locs, Pt.cells, Pt.slots] at X61 l61 y61 z61 st61 hQ61
    subst l61 y61 z61
    obtain ⟨rfl, N61q, e61⟩ := hQ61
    have N61 := Fr.app N60 N61q
    obtain ⟨J61, X61, N61⟩ := own_hide X61 N61
    refine own_Go.of (g' := (mkF m 372 #[.val (.long x0), .second, .val (.int x1), .val (.int x2), .val (.int x3), .val (.long V), .second, .val (.int (2 : Int32)), .val (.int sv), .val (.ref b1), .val (.int (own_len V)), .val (.int ((2 : Int32) + (own_len V))), .val (.int (1 : Int32))] [(.int (own_chk (11 : Int32) (2 : Int32) V (own_len V) sv (own_at 2 11 V zz))), (.int (1 : Int32))])) (fun t k => st61 _ k) ?_
    rw [show (own_chk (11 : Int32) (2 : Int32) V (own_len V) sv (own_at 2 11 V zz)) = (1 : Int32) from own_chk_ok hV hzz 2 11 (by decide) (by decide)]
    refine og_iand (pc' := 373) X61 hx (hb hby at_372) rfl ?_
    rw [show ((1 : Int32) &&& (1 : Int32)) = (1 : Int32) from by decide]
    refine og_istore (pc' := 375) (L' := #[.val (.long x0), .second, .val (.int x1), .val (.int x2), .val (.int x3), .val (.long V), .second, .val (.int (2 : Int32)), .val (.int sv), .val (.ref b1), .val (.int (own_len V)), .val (.int ((2 : Int32) + (own_len V))), .val (.int (1 : Int32))]) X61 hx (hb hby at_373) rfl rfl ?_
    refine og_iload (pc' := 377) X61 hx (hb hby at_375) rfl rfl ?_
    refine og_aload (pc' := 379) X61 hx (hb hby at_377) rfl rfl rfl ?_
    refine og_bipush (pc' := 381) (n := 12) X61 hx (hb hby at_379) rfl rfl ?_
    refine og_iload (pc' := 383) X61 hx (hb hby at_381) rfl rfl ?_
    refine og_lload (pc' := 385) X61 hx (hb hby at_383) rfl rfl ?_
    refine og_iload (pc' := 387) X61 hx (hb hby at_385) rfl rfl ?_
    refine og_iload (pc' := 389) X61 hx (hb hby at_387) rfl rfl ?_
    obtain ⟨_, _, ⟨T62, L62, k62, n62⟩, -, X62, ⟨Lc62, hQ62, l62, y62, z62⟩, st62⟩ := Jvm.LawKit.callS X61 hx (y := (⟨"com/example/skorr/skorr/index/IndexFormatWriteVarintPinLaw", "check", "([BIIJIB)Z"⟩ : MethodName)) hown (mvT hZ (hw _ (List.mem_of_getElem? (i := 12) rfl))) (mvT hZ (hw _ (List.mem_of_getElem? (i := 13) rfl))) (mvT hZ (hw _ (List.mem_of_getElem? (i := 4) rfl))) (mvT hZ (hw _ (List.mem_of_getElem? (i := 14) rfl))) (by decide) (backOf (W := 1) (rmchk l Z a0 hw [] b1 (12 : Int32) (2 : Int32) V (own_len V) sv k1 (own_lst 2 V zz) (own_at 2 12 V zz) T49.heap n0 Z49 c49_0 ⟨by decide, by decide⟩ (own_hat 2 12 V zz)) hZ (hw _ (List.mem_of_getElem? (i := 14) rfl)) (hw _ (List.mem_of_getElem? (i := 4) rfl)) (by decide) (by decide)) (g := (mkF m 389 #[.val (.long x0), .second, .val (.int x1), .val (.int x2), .val (.int x3), .val (.long V), .second, .val (.int (2 : Int32)), .val (.int sv), .val (.ref b1), .val (.int (own_len V)), .val (.int ((2 : Int32) + (own_len V))), .val (.int (1 : Int32))] [(.int sv), (.int (own_len V)), (.long V), (.int (2 : Int32)), (.int (12 : Int32)), (.ref b1), (.int (1 : Int32))])) rfl (by rw [hml]; rfl) (argsL := [(.ref b1), (.int (12 : Int32)), (.int (2 : Int32)), (.long V), (.int (own_len V)), (.int sv)]) (rest := [(.int (1 : Int32))]) (lenOf pd_2 rfl) rfl (by show 2 * 0 + _ ≤ _; exact Nat.le_of_eq rfl) (hb hby at_389) (fun _ _ => ⟨rfl, e61, (by decide : 1 + 0 ≤ _), (by decide : 14 + 0 ≤ _)⟩)
    dsimp only [Pt.U, Pt.locs, Pt.cells, Pt.slots] at X62 l62 y62 z62 st62 hQ62
    subst l62 y62 z62
    obtain ⟨rfl, N62q, e62⟩ := hQ62
    have N62 := Fr.app N61 N62q
    obtain ⟨J62, X62, N62⟩ := own_hide X62 N62
    refine own_Go.of (g' := (mkF m 392 #[.val (.long x0), .second, .val (.int x1), .val (.int x2), .val (.int x3), .val (.long V), .second, .val (.int (2 : Int32)), .val (.int sv), .val (.ref b1), .val (.int (own_len V)), .val (.int ((2 : Int32) + (own_len V))), .val (.int (1 : Int32))] [(.int (own_chk (12 : Int32) (2 : Int32) V (own_len V) sv (own_at 2 12 V zz))), (.int (1 : Int32))])) (fun t k => st62 _ k) ?_
    rw [show (own_chk (12 : Int32) (2 : Int32) V (own_len V) sv (own_at 2 12 V zz)) = (1 : Int32) from own_chk_ok hV hzz 2 12 (by decide) (by decide)]
    refine og_iand (pc' := 393) X62 hx (hb hby at_392) rfl ?_
    rw [show ((1 : Int32) &&& (1 : Int32)) = (1 : Int32) from by decide]
    refine og_istore (pc' := 395) (L' := #[.val (.long x0), .second, .val (.int x1), .val (.int x2), .val (.int x3), .val (.long V), .second, .val (.int (2 : Int32)), .val (.int sv), .val (.ref b1), .val (.int (own_len V)), .val (.int ((2 : Int32) + (own_len V))), .val (.int (1 : Int32))]) X62 hx (hb hby at_393) rfl rfl ?_
    refine og_iload (pc' := 397) X62 hx (hb hby at_395) rfl rfl ?_
    refine og_aload (pc' := 399) X62 hx (hb hby at_397) rfl rfl rfl ?_
    refine og_bipush (pc' := 401) (n := 13) X62 hx (hb hby at_399) rfl rfl ?_
    refine og_iload (pc' := 403) X62 hx (hb hby at_401) rfl rfl ?_
    refine og_lload (pc' := 405) X62 hx (hb hby at_403) rfl rfl ?_
    refine og_iload (pc' := 407) X62 hx (hb hby at_405) rfl rfl ?_
    refine og_iload (pc' := 409) X62 hx (hb hby at_407) rfl rfl ?_
    obtain ⟨_, _, ⟨T63, L63, k63, n63⟩, -, X63, ⟨Lc63, hQ63, l63, y63, z63⟩, st63⟩ := Jvm.LawKit.callS X62 hx (y := (⟨"com/example/skorr/skorr/index/IndexFormatWriteVarintPinLaw", "check", "([BIIJIB)Z"⟩ : MethodName)) hown (mvT hZ (hw _ (List.mem_of_getElem? (i := 12) rfl))) (mvT hZ (hw _ (List.mem_of_getElem? (i := 13) rfl))) (mvT hZ (hw _ (List.mem_of_getElem? (i := 4) rfl))) (mvT hZ (hw _ (List.mem_of_getElem? (i := 14) rfl))) (by decide) (backOf (W := 1) (rmchk l Z a0 hw [] b1 (13 : Int32) (2 : Int32) V (own_len V) sv k1 (own_lst 2 V zz) (own_at 2 13 V zz) T49.heap n0 Z49 c49_0 ⟨by decide, by decide⟩ (own_hat 2 13 V zz)) hZ (hw _ (List.mem_of_getElem? (i := 14) rfl)) (hw _ (List.mem_of_getElem? (i := 4) rfl)) (by decide) (by decide)) (g := (mkF m 409 #[.val (.long x0), .second, .val (.int x1), .val (.int x2), .val (.int x3), .val (.long V), .second, .val (.int (2 : Int32)), .val (.int sv), .val (.ref b1), .val (.int (own_len V)), .val (.int ((2 : Int32) + (own_len V))), .val (.int (1 : Int32))] [(.int sv), (.int (own_len V)), (.long V), (.int (2 : Int32)), (.int (13 : Int32)), (.ref b1), (.int (1 : Int32))])) rfl (by rw [hml]; rfl) (argsL := [(.ref b1), (.int (13 : Int32)), (.int (2 : Int32)), (.long V), (.int (own_len V)), (.int sv)]) (rest := [(.int (1 : Int32))]) (lenOf pd_2 rfl) rfl (by show 2 * 0 + _ ≤ _; exact Nat.le_of_eq rfl) (hb hby at_409) (fun _ _ => ⟨rfl, e62, (by decide : 1 + 0 ≤ _), (by decide : 14 + 0 ≤ _)⟩)
    dsimp only [Pt.U, Pt.locs, Pt.cells, Pt.slots] at X63 l63 y63 z63 st63 hQ63
    subst l63 y63 z63
    obtain ⟨rfl, N63q, e63⟩ := hQ63
    have N63 := Fr.app N62 N63q
    obtain ⟨J63, X63, N63⟩ := own_hide X63 N63
    refine own_Go.of (g' := (mkF m 412 #[.val (.long x0), .second, .val (.int x1), .val (.int x2), .val (.int x3), .val (.long V), .second, .val (.int (2 : Int32)), .val (.int sv), .val (.ref b1), .val (.int (own_len V)), .val (.int ((2 : Int32) + (own_len V))), .val (.int (1 : Int32))] [(.int (own_chk (13 : Int32) (2 : Int32) V (own_len V) sv (own_at 2 13 V zz))), (.int (1 : Int32))])) (fun t k => st63 _ k) ?_
    rw [show (own_chk (13 : Int32) (2 : Int32) V (own_len V) sv (own_at 2 13 V zz)) = (1 : Int32) from own_chk_ok hV hzz 2 13 (by decide) (by decide)]
    refine og_iand (pc' := 413) X63 hx (hb hby at_412) rfl ?_
    rw [show ((1 : Int32) &&& (1 : Int32)) = (1 : Int32) from by decide]
    refine og_istore (pc' := 415) (L' := #[.val (.long x0), .second, .val (.int x1), .val (.int x2), .val (.int x3), .val (.long V), .second, .val (.int (2 : Int32)), .val (.int sv), .val (.ref b1), .val (.int (own_len V)), .val (.int ((2 : Int32) + (own_len V))), .val (.int (1 : Int32))]) X63 hx (hb hby at_413) rfl rfl ?_
    refine og_iload (pc' := 417) X63 hx (hb hby at_415) rfl rfl ?_
    obtain ⟨fs, hr, hrun, hended, hW, hsame⟩ := X63.leave (v := some (.int (1 : Int32))) (fun h => by rw [Bd.returns] at h; cases h) (BodyLoose.notSynchronized Bd)
    refine ⟨_, _, retN X63 hx (t := .boolean) Bd.returns (by simp) (hb hby at_417) hr, hrun, hended, some (.int (1 : Int32)), _, rfl, ?_, ⟨_, rfl⟩, hW, hsame.mono (by decide) (by decide)⟩
    show Q0 Z x0 x1 x2 x3 h0 n0 _ T63.heap _
    rw [e63]
    exact ⟨rfl, N63⟩
  · rw [e]
    refine og_lload (pc' := 108) X15 hx (hb hby at_106) rfl rfl ?_
    obtain ⟨_, _, ⟨T64, L64, k64, n64⟩, -, X64, ⟨Lc64, hQ64, l64, y64, z64⟩, st64⟩ := Jvm.LawKit.callS X15 hx (y := (⟨"com/example/skorr/skorr/index/IndexFormatWriteVarintPinLaw", "length", "(J)I"⟩ : MethodName)) hown (mvT hZ (hw _ (List.mem_of_getElem? (i := 2) rfl))) (mvT hZ (hw _ (List.mem_of_getElem? (i := 3) rfl))) (mvT hZ (hw _ (List.mem_of_getElem? (i := 4) rfl))) (mvT hZ (hw _ (List.mem_of_getElem? (i := 5) rfl))) (by decide) (backOf (W := 0) (rmlen l Z a0 hw [] V h15 n0 Z15 ) hZ (hw _ (List.mem_of_getElem? (i := 5) rfl)) (hw _ (List.mem_of_getElem? (i := 4) rfl)) (by decide) (by decide)) (g := (mkF m 108 #[.val (.long x0), .second, .val (.int x1), .val (.int x2), .val (.int x3), .val (.long V), .second, .val (.int (3 : Int32)), .val (.int sv), .val (.ref b1), .unset, .unset, .unset] [(.long V)])) rfl (by rw [hml]; rfl) (argsL := [(.long V)]) (rest := []) (lenOf pd_0 rfl) rfl (by show 2 * 0 + _ ≤ _; exact Nat.le_of_eq rfl) (hb hby at_108) (fun _ _ => ⟨rfl, e15, (by decide : 1 + 0 ≤ _), (by decide : 14 + 0 ≤ _)⟩)
    dsimp only [Pt.U, Pt.locs, Pt.cells, Pt.slots] at X64 l64 y64 z64 st64 hQ64
    subst l64 y64 z64
    obtain ⟨rfl, N64q, e64⟩ := hQ64
    have N64 := Fr.app N15 N64q
    obtain ⟨J64, X64, N64⟩ := own_hide X64 N64
    refine own_Go.of (g' := (mkF m 111 #[.val (.long x0), .second, .val (.int x1), .val (.int x2), .val (.int x3), .val (.long V), .second, .val (.int (3 : Int32)), .val (.int sv), .val (.ref b1), .unset, .unset, .unset] [(.int (own_len V))])) (fun t k => st64 _ k) ?_
    refine og_istore (pc' := 113) (L' := #[.val (.long x0), .second, .val (.int x1), .val (.int x2), .val (.int x3), .val (.long V), .second, .val (.int (3 : Int32)), .val (.int sv), .val (.ref b1), .val (.int (own_len V)), .unset, .unset]) X64 hx (hb hby at_111) rfl rfl ?_
    refine og_lload (pc' := 115) X64 hx (hb hby at_113) rfl rfl ?_
    refine og_aload (pc' := 117) X64 hx (hb hby at_115) rfl rfl rfl ?_
    refine og_iload (pc' := 119) X64 hx (hb hby at_117) rfl rfl ?_
    obtain ⟨_, _, ⟨T65, L65, k65, n65⟩, -, X65, ⟨Lc65, hQ65, l65, y65, z65⟩, st65⟩ := Jvm.LawKit.callS X64 hx (y := (⟨"com/example/skorr/skorr/index/IndexFormat", "writeVarint", "(J[BI)I"⟩ : MethodName)) hown (mvT hZ (hw _ (List.mem_of_getElem? (i := 7) rfl))) (mvT hZ (hw _ (List.mem_of_getElem? (i := 8) rfl))) (mvT hZ (hw _ (List.mem_of_getElem? (i := 9) rfl))) (mvT hZ (hw _ (List.mem_of_getElem? (i := 10) rfl))) (by decide) (backOf (W := 0) (rmwr3 l Z a0 hw [] V b1 k1 zz h15 n0 Z15 VZ g_b1 hV) hZ (hw _ (List.mem_of_getElem? (i := 10) rfl)) (hw _ (List.mem_of_getElem? (i := 9) rfl)) (by decide) (by decide)) (g := (mkF m 119 #[.val (.long x0), .second, .val (.int x1), .val (.int x2), .val (.int x3), .val (.long V), .second, .val (.int (3 : Int32)), .val (.int sv), .val (.ref b1), .val (.int (own_len V)), .unset, .unset] [(.int (3 : Int32)), (.ref b1), (.long V)])) rfl (by rw [hml]; rfl) (argsL := [(.long V), (.ref b1), (.int (3 : Int32))]) (rest := []) (lenOf pd_1 rfl) rfl (by show 2 * 0 + _ ≤ _; exact Nat.le_of_eq rfl) (hb hby at_119) (fun _ _ => ⟨rfl, e64, (by decide : 1 + 0 ≤ _), (by decide : 14 + 0 ≤ _)⟩)
    dsimp only [Pt.U, Pt.locs, Pt.cells, Pt.slots] at X65 l65 y65 z65 st65 hQ65
    subst l65 y65 z65
    obtain ⟨rfl, N65q, K65q, c65_0⟩ := hQ65
    have N65 := Fr.app N64 N65q
    obtain ⟨J65, X65, N65⟩ := own_hide X65 N65
    have K65 : Keep h0 T65.heap [] := K15.trans K65q (allS (Or.inr sz_b1) all0)
    have Z65 : n0 ≤ T65.heap.size := Nat.le_trans Z0 K65.1
    refine own_Go.of (g' := (mkF m 122 #[.val (.long x0), .second, .val (.int x1), .val (.int x2), .val (.int x3), .val (.long V), .second, .val (.int (3 : Int32)), .val (.int sv), .val (.ref b1), .val (.int (own_len V)), .unset, .unset] [(.int ((3 : Int32) + (own_len V)))])) (fun t k => st65 _ k) ?_
    refine og_istore (pc' := 124) (L' := #[.val (.long x0), .second, .val (.int x1), .val (.int x2), .val (.int x3), .val (.long V), .second, .val (.int (3 : Int32)), .val (.int sv), .val (.ref b1), .val (.int (own_len V)), .val (.int ((3 : Int32) + (own_len V))), .unset]) X65 hx (hb hby at_122) rfl rfl ?_
    refine og_iload (pc' := 126) X65 hx (hb hby at_124) rfl rfl ?_
    refine og_iload (pc' := 128) X65 hx (hb hby at_126) rfl rfl ?_
    refine og_iload (pc' := 130) X65 hx (hb hby at_128) rfl rfl ?_
    refine og_iadd (pc' := 131) X65 hx (hb hby at_130) rfl ?_
    refine og_icmpNo (pc' := 134) X65 hx (hb hby at_131) (teq rfl).2 rfl ?_
    refine og_iconst (pc' := 135) (n := 1) X65 hx (hb hby at_134) rfl rfl ?_
    refine og_goto (pc' := 139) X65 hx (hb hby at_135) (by decide) (by decide) ?_
    refine og_istore (pc' := 141) (L' := #[.val (.long x0), .second, .val (.int x1), .val (.int x2), .val (.int x3), .val (.long V), .second, .val (.int (3 : Int32)), .val (.int sv), .val (.ref b1), .val (.int (own_len V)), .val (.int ((3 : Int32) + (own_len V))), .val (.int (1 : Int32))]) X65 hx (hb hby at_139) rfl rfl ?_
    refine og_iload (pc' := 143) X65 hx (hb hby at_141) rfl rfl ?_
    refine og_aload (pc' := 145) X65 hx (hb hby at_143) rfl rfl rfl ?_
    refine og_iconst (pc' := 146) (n := 0) X65 hx (hb hby at_145) rfl rfl ?_
    refine og_iload (pc' := 148) X65 hx (hb hby at_146) rfl rfl ?_
    refine og_lload (pc' := 150) X65 hx (hb hby at_148) rfl rfl ?_
    refine og_iload (pc' := 152) X65 hx (hb hby at_150) rfl rfl ?_
    refine og_iload (pc' := 154) X65 hx (hb hby at_152) rfl rfl ?_
    obtain ⟨_, _, ⟨T66, L66, k66, n66⟩, -, X66, ⟨Lc66, hQ66, l66, y66, z66⟩, st66⟩ := Jvm.LawKit.callS X65 hx (y := (⟨"com/example/skorr/skorr/index/IndexFormatWriteVarintPinLaw", "check", "([BIIJIB)Z"⟩ : MethodName)) hown (mvT hZ (hw _ (List.mem_of_getElem? (i := 12) rfl))) (mvT hZ (hw _ (List.mem_of_getElem? (i := 13) rfl))) (mvT hZ (hw _ (List.mem_of_getElem? (i := 4) rfl))) (mvT hZ (hw _ (List.mem_of_getElem? (i := 14) rfl))) (by decide) (backOf (W := 1) (rmchk l Z a0 hw [] b1 (0 : Int32) (3 : Int32) V (own_len V) sv k1 (own_lst 3 V zz) (own_at 3 0 V zz) T65.heap n0 Z65 c65_0 ⟨by decide, by decide⟩ (own_hat 3 0 V zz)) hZ (hw _ (List.mem_of_getElem? (i := 14) rfl)) (hw _ (List.mem_of_getElem? (i := 4) rfl)) (by decide) (by decide)) (g := (mkF m 154 #[.val (.long x0), .second, .val (.int x1), .val (.int x2), .val (.int x3), .val (.long V), .second, .val (.int (3 : Int32)), .val (.int sv), .val (.ref b1), .val (.int (own_len V)), .val (.int ((3 : Int32) + (own_len V))), .val (.int (1 : Int32))] [(.int sv), (.int (own_len V)), (.long V), (.int (3 : Int32)), (.int (0 : Int32)), (.ref b1), (.int (1 : Int32))])) rfl (by rw [hml]; rfl) (argsL := [(.ref b1), (.int (0 : Int32)), (.int (3 : Int32)), (.long V), (.int (own_len V)), (.int sv)]) (rest := [(.int (1 : Int32))]) (lenOf pd_2 rfl) rfl (by show 2 * 0 + _ ≤ _; exact Nat.le_of_eq rfl) (hb hby at_154) (fun _ _ => ⟨rfl, rfl, (by decide : 1 + 0 ≤ _), (by decide : 14 + 0 ≤ _)⟩)
    dsimp only [Pt.U, Pt.locs, Pt.cells, Pt.slots] at X66 l66 y66 z66 st66 hQ66
    subst l66 y66 z66
    obtain ⟨rfl, N66q, e66⟩ := hQ66
    have N66 := Fr.app N65 N66q
    obtain ⟨J66, X66, N66⟩ := own_hide X66 N66
    refine own_Go.of (g' := (mkF m 157 #[.val (.long x0), .second, .val (.int x1), .val (.int x2), .val (.int x3), .val (.long V), .second, .val (.int (3 : Int32)), .val (.int sv), .val (.ref b1), .val (.int (own_len V)), .val (.int ((3 : Int32) + (own_len V))), .val (.int (1 : Int32))] [(.int (own_chk (0 : Int32) (3 : Int32) V (own_len V) sv (own_at 3 0 V zz))), (.int (1 : Int32))])) (fun t k => st66 _ k) ?_
    rw [show (own_chk (0 : Int32) (3 : Int32) V (own_len V) sv (own_at 3 0 V zz)) = (1 : Int32) from own_chk_ok hV hzz 3 0 (by decide) (by decide)]
    refine og_iand (pc' := 158) X66 hx (hb hby at_157) rfl ?_
    rw [show ((1 : Int32) &&& (1 : Int32)) = (1 : Int32) from by decide]
    refine og_istore (pc' := 160) (L' := #[.val (.long x0), .second, .val (.int x1), .val (.int x2), .val (.int x3), .val (.long V), .second, .val (.int (3 : Int32)), .val (.int sv), .val (.ref b1), .val (.int (own_len V)), .val (.int ((3 : Int32) + (own_len V))), .val (.int (1 : Int32))]) X66 hx (hb hby at_158) rfl rfl ?_
    refine og_iload (pc' := 162) X66 hx (hb hby at_160) rfl rfl ?_
    refine og_aload (pc' := 164) X66 hx (hb hby at_162) rfl rfl rfl ?_
    refine og_iconst (pc' := 165) (n := 1) X66 hx (hb hby at_164) rfl rfl ?_
    refine og_iload (pc' := 167) X66 hx (hb hby at_165) rfl rfl ?_
    refine og_lload (pc' := 169) X66 hx (hb hby at_167) rfl rfl ?_
    refine og_iload (pc' := 171) X66 hx (hb hby at_169) rfl rfl ?_
    refine og_iload (pc' := 173) X66 hx (hb hby at_171) rfl rfl ?_
    obtain ⟨_, _, ⟨T67, L67, k67, n67⟩, -, X67, ⟨Lc67, hQ67, l67, y67, z67⟩, st67⟩ := Jvm.LawKit.callS X66 hx (y := (⟨"com/example/skorr/skorr/index/IndexFormatWriteVarintPinLaw", "check", "([BIIJIB)Z"⟩ : MethodName)) hown (mvT hZ (hw _ (List.mem_of_getElem? (i := 12) rfl))) (mvT hZ (hw _ (List.mem_of_getElem? (i := 13) rfl))) (mvT hZ (hw _ (List.mem_of_getElem? (i := 4) rfl))) (mvT hZ (hw _ (List.mem_of_getElem? (i := 14) rfl))) (by decide) (backOf (W := 1) (rmchk l Z a0 hw [] b1 (1 : Int32) (3 : Int32) V (own_len V) sv k1 (own_lst 3 V zz) (own_at 3 1 V zz) T65.heap n0 Z65 c65_0 ⟨by decide, by decide⟩ (own_hat 3 1 V zz)) hZ (hw _ (List.mem_of_getElem? (i := 14) rfl)) (hw _ (List.mem_of_getElem? (i := 4) rfl)) (by decide) (by decide)) (g := (mkF m 173 #[.val (.long x0), .second, .val (.int x1), .val (.int x2), .val (.int x3), .val (.long V), .second, .val (.int (3 : Int32)), .val (.int sv), .val (.ref b1), .val (.int (own_len V)), .val (.int ((3 : Int32) + (own_len V))), .val (.int (1 : Int32))] [(.int sv), (.int (own_len V)), (.long V), (.int (3 : Int32)), (.int (1 : Int32)), (.ref b1), (.int (1 : Int32))])) rfl (by rw [hml]; rfl) (argsL := [(.ref b1), (.int (1 : Int32)), (.int (3 : Int32)), (.long V), (.int (own_len V)), (.int sv)]) (rest := [(.int (1 : Int32))]) (lenOf pd_2 rfl) rfl (by show 2 * 0 + _ ≤ _; exact Nat.le_of_eq rfl) (hb hby at_173) (fun _ _ => ⟨rfl, e66, (by decide : 1 + 0 ≤ _), (by decide : 14 + 0 ≤ _)⟩)
    dsimp only [Pt.U, Pt.locs, Pt.cells, Pt.slots] at X67 l67 y67 z67 st67 hQ67
    subst l67 y67 z67
    obtain ⟨rfl, N67q, e67⟩ := hQ67
    have N67 := Fr.app N66 N67q
    obtain ⟨J67, X67, N67⟩ := own_hide X67 N67
    refine own_Go.of (g' := (mkF m 176 #[.val (.long x0), .second, .val (.int x1), .val (.int x2), .val (.int x3), .val (.long V), .second, .val (.int (3 : Int32)), .val (.int sv), .val (.ref b1), .val (.int (own_len V)), .val (.int ((3 : Int32) + (own_len V))), .val (.int (1 : Int32))] [(.int (own_chk (1 : Int32) (3 : Int32) V (own_len V) sv (own_at 3 1 V zz))), (.int (1 : Int32))])) (fun t k => st67 _ k) ?_
    rw [show (own_chk (1 : Int32) (3 : Int32) V (own_len V) sv (own_at 3 1 V zz)) = (1 : Int32) from own_chk_ok hV hzz 3 1 (by decide) (by decide)]
    refine og_iand (pc' := 177) X67 hx (hb hby at_176) rfl ?_
    rw [show ((1 : Int32) &&& (1 : Int32)) = (1 : Int32) from by decide]
    refine og_istore (pc' := 179) (L' := #[.val (.long x0), .second, .val (.int x1), .val (.int x2), .val (.int x3), .val (.long V), .second, .val (.int (3 : Int32)), .val (.int sv), .val (.ref b1), .val (.int (own_len V)), .val (.int ((3 : Int32) + (own_len V))), .val (.int (1 : Int32))]) X67 hx (hb hby at_177) rfl rfl ?_
    refine og_iload (pc' := 181) X67 hx (hb hby at_179) rfl rfl ?_
    refine og_aload (pc' := 183) X67 hx (hb hby at_181) rfl rfl rfl ?_
    refine og_iconst (pc' := 184) (n := 2) X67 hx (hb hby at_183) rfl rfl ?_
    refine og_iload (pc' := 186) X67 hx (hb hby at_184) rfl rfl ?_
    refine og_lload (pc' := 188) X67 hx (hb hby at_186) rfl rfl ?_
    refine og_iload (pc' := 190) X67 hx (hb hby at_188) rfl rfl ?_
    refine og_iload (pc' := 192) X67 hx (hb hby at_190) rfl rfl ?_
    obtain ⟨_, _, ⟨T68, L68, k68, n68⟩, -, X68, ⟨Lc68, hQ68, l68, y68, z68⟩, st68⟩ := Jvm.LawKit.callS X67 hx (y := (⟨"com/example/skorr/skorr/index/IndexFormatWriteVarintPinLaw", "check", "([BIIJIB)Z"⟩ : MethodName)) hown (mvT hZ (hw _ (List.mem_of_getElem? (i := 12) rfl))) (mvT hZ (hw _ (List.mem_of_getElem? (i := 13) rfl))) (mvT hZ (hw _ (List.mem_of_getElem? (i := 4) rfl))) (mvT hZ (hw _ (List.mem_of_getElem? (i := 14) rfl))) (by decide) (backOf (W := 1) (rmchk l Z a0 hw [] b1 (2 : Int32) (3 : Int32) V (own_len V) sv k1 (own_lst 3 V zz) (own_at 3 2 V zz) T65.heap n0 Z65 c65_0 ⟨by decide, by decide⟩ (own_hat 3 2 V zz)) hZ (hw _ (List.mem_of_getElem? (i := 14) rfl)) (hw _ (List.mem_of_getElem? (i := 4) rfl)) (by decide) (by decide)) (g := (mkF m 192 #[.val (.long x0), .second, .val (.int x1), .val (.int x2), .val (.int x3), .val (.long V), .second, .val (.int (3 : Int32)), .val (.int sv), .val (.ref b1), .val (.int (own_len V)), .val (.int ((3 : Int32) + (own_len V))), .val (.int (1 : Int32))] [(.int sv), (.int (own_len V)), (.long V), (.int (3 : Int32)), (.int (2 : Int32)), (.ref b1), (.int (1 : Int32))])) rfl (by rw [hml]; rfl) (argsL := [(.ref b1), (.int (2 : Int32)), (.int (3 : Int32)), (.long V), (.int (own_len V)), (.int sv)]) (rest := [(.int (1 : Int32))]) (lenOf pd_2 rfl) rfl (by show 2 * 0 + _ ≤ _; exact Nat.le_of_eq rfl) (hb hby at_192) (fun _ _ => ⟨rfl, e67, (by decide : 1 + 0 ≤ _), (by decide : 14 + 0 ≤ _)⟩)
    dsimp only [Pt.U, Pt.locs, Pt.cells, Pt.slots] at X68 l68 y68 z68 st68 hQ68
    subst l68 y68 z68
    obtain ⟨rfl, N68q, e68⟩ := hQ68
    have N68 := Fr.app N67 N68q
    obtain ⟨J68, X68, N68⟩ := own_hide X68 N68
    refine own_Go.of (g' := (mkF m 195 #[.val (.long x0), .second, .val (.int x1), .val (.int x2), .val (.int x3), .val (.long V), .second, .val (.int (3 : Int32)), .val (.int sv), .val (.ref b1), .val (.int (own_len V)), .val (.int ((3 : Int32) + (own_len V))), .val (.int (1 : Int32))] [(.int (own_chk (2 : Int32) (3 : Int32) V (own_len V) sv (own_at 3 2 V zz))), (.int (1 : Int32))])) (fun t k => st68 _ k) ?_
    rw [show (own_chk (2 : Int32) (3 : Int32) V (own_len V) sv (own_at 3 2 V zz)) = (1 : Int32) from own_chk_ok hV hzz 3 2 (by decide) (by decide)]
    refine og_iand (pc' := 196) X68 hx (hb hby at_195) rfl ?_
    rw [show ((1 : Int32) &&& (1 : Int32)) = (1 : Int32) from by decide]
    refine og_istore (pc' := 198) (L' := #[.val (.long x0), .second, .val (.int x1), .val (.int x2), .val (.int x3), .val (.long V), .second, .val (.int (3 : Int32)), .val (.int sv), .val (.ref b1), .val (.int (own_len V)), .val (.int ((3 : Int32) + (own_len V))), .val (.int (1 : Int32))]) X68 hx (hb hby at_196) rfl rfl ?_
    refine og_iload (pc' := 200) X68 hx (hb hby at_198) rfl rfl ?_
    refine og_aload (pc' := 202) X68 hx (hb hby at_200) rfl rfl rfl ?_
    refine og_iconst (pc' := 203) (n := 3) X68 hx (hb hby at_202) rfl rfl ?_
    refine og_iload (pc' := 205) X68 hx (hb hby at_203) rfl rfl ?_
    refine og_lload (pc' := 207) X68 hx (hb hby at_205) rfl rfl ?_
    refine og_iload (pc' := 209) X68 hx (hb hby at_207) rfl rfl ?_
    refine og_iload (pc' := 211) X68 hx (hb hby at_209) rfl rfl ?_
    obtain ⟨_, _, ⟨T69, L69, k69, n69⟩, -, X69, ⟨Lc69, hQ69, l69, y69, z69⟩, st69⟩ := Jvm.LawKit.callS X68 hx (y := (⟨"com/example/skorr/skorr/index/IndexFormatWriteVarintPinLaw", "check", "([BIIJIB)Z"⟩ : MethodName)) hown (mvT hZ (hw _ (List.mem_of_getElem? (i := 12) rfl))) (mvT hZ (hw _ (List.mem_of_getElem? (i := 13) rfl))) (mvT hZ (hw _ (List.mem_of_getElem? (i := 4) rfl))) (mvT hZ (hw _ (List.mem_of_getElem? (i := 14) rfl))) (by decide) (backOf (W := 1) (rmchk l Z a0 hw [] b1 (3 : Int32) (3 : Int32) V (own_len V) sv k1 (own_lst 3 V zz) (own_at 3 3 V zz) T65.heap n0 Z65 c65_0 ⟨by decide, by decide⟩ (own_hat 3 3 V zz)) hZ (hw _ (List.mem_of_getElem? (i := 14) rfl)) (hw _ (List.mem_of_getElem? (i := 4) rfl)) (by decide) (by decide)) (g := (mkF m 211 #[.val (.long x0), .second, .val (.int x1), .val (.int x2), .val (.int x3), .val (.long V), .second, .val (.int (3 : Int32)), .val (.int sv), .val (.ref b1), .val (.int (own_len V)), .val (.int ((3 : Int32) + (own_len V))), .val (.int (1 : Int32))] [(.int sv), (.int (own_len V)), (.long V), (.int (3 : Int32)), (.int (3 : Int32)), (.ref b1), (.int (1 : Int32))])) rfl (by rw [hml]; rfl) (argsL := [(.ref b1), (.int (3 : Int32)), (.int (3 : Int32)), (.long V), (.int (own_len V)), (.int sv)]) (rest := [(.int (1 : Int32))]) (lenOf pd_2 rfl) rfl (by show 2 * 0 + _ ≤ _; exact Nat.le_of_eq rfl) (hb hby at_211) (fun _ _ => ⟨rfl, e68, (by decide : 1 + 0 ≤ _), (by decide : 14 + 0 ≤ _)⟩)
    dsimp only [Pt.U, Pt.locs, Pt.cells, Pt.slots] at X69 l69 y69 z69 st69 hQ69
    subst l69 y69 z69
    obtain ⟨rfl, N69q, e69⟩ := hQ69
    have N69 := Fr.app N68 N69q
    obtain ⟨J69, X69, N69⟩ := own_hide X69 N69
    refine own_Go.of (g' := (mkF m 214 #[.val (.long x0), .second, .val (.int x1), .val (.int x2), .val (.int x3), .val (.long V), .second, .val (.int (3 : Int32)), .val (.int sv), .val (.ref b1), .val (.int (own_len V)), .val (.int ((3 : Int32) + (own_len V))), .val (.int (1 : Int32))] [(.int (own_chk (3 : Int32) (3 : Int32) V (own_len V) sv (own_at 3 3 V zz))), (.int (1 : Int32))])) (fun t k => st69 _ k) ?_
    rw [show (own_chk (3 : Int32) (3 : Int32) V (own_len V) sv (own_at 3 3 V zz)) = (1 : Int32) from own_chk_ok hV hzz 3 3 (by decide) (by decide)]
    refine og_iand (pc' := 215) X69 hx (hb hby at_214) rfl ?_
    rw [show ((1 : Int32) &&& (1 : Int32)) = (1 : Int32) from by decide]
    refine og_istore (pc' := 217) (L' := #[.val (.long x0), .second, .val (.int x1), .val (.int x2), .val (.int x3), .val (.long V), .second, .val (.int (3 : Int32)), .val (.int sv), .val (.ref b1), .val (.int (own_len V)), .val (.int ((3 : Int32) + (own_len V))), .val (.int (1 : Int32))]) X69 hx (hb hby at_215) rfl rfl ?_
    refine og_iload (pc' := 219) X69 hx (hb hby at_217) rfl rfl ?_
    refine og_aload (pc' := 221) X69 hx (hb hby at_219) rfl rfl rfl ?_
    refine og_iconst (pc' := 222) (n := 4) X69 hx (hb hby at_221) rfl rfl ?_
    refine og_iload (pc' := 224) X69 hx (hb hby at_222) rfl rfl ?_
    refine og_lload (pc' := 226) X69 hx (hb hby at_224) rfl rfl ?_
    refine og_iload (pc' := 228) X69 hx (hb hby at_226) rfl rfl ?_
    refine og_iload (pc' := 230) X69 hx (hb hby at_228) rfl rfl ?_
    obtain ⟨_, _, ⟨T70, L70, k70, n70⟩, -, X70, ⟨Lc70, hQ70, l70, y70, z70⟩, st70⟩ := Jvm.LawKit.callS X69 hx (y := (⟨"com/example/skorr/skorr/index/IndexFormatWriteVarintPinLaw", "check", "([BIIJIB)Z"⟩ : MethodName)) hown (mvT hZ (hw _ (List.mem_of_getElem? (i := 12) rfl))) (mvT hZ (hw _ (List.mem_of_getElem? (i := 13) rfl))) (mvT hZ (hw _ (List.mem_of_getElem? (i := 4) rfl))) (mvT hZ (hw _ (List.mem_of_getElem? (i := 14) rfl))) (by decide) (backOf (W := 1) (rmchk l Z a0 hw [] b1 (4 : Int32) (3 : Int32) V (own_len V) sv k1 (own_lst 3 V zz) (own_at 3 4 V zz) T65.heap n0 Z65 c65_0 ⟨by decide, by decide⟩ (own_hat 3 4 V zz)) hZ (hw _ (List.mem_of_getElem? (i := 14) rfl)) (hw _ (List.mem_of_getElem? (i := 4) rfl)) (by decide) (by decide)) (g := (mkF m 230 #[.val (.long x0), .second, .val (.int x1), .val (.int x2), .val (.int x3), .val (.long V), .second, .val (.int (3 : Int32)), .val (.int sv), .val (.ref b1), .val (.int (own_len V)), .val (.int ((3 : Int32) + (own_len V))), .val (.int (1 : Int32))] [(.int sv), (.int (own_len V)), (.long V), (.int (3 : Int32)), (.int (4 : Int32)), (.ref b1), (.int (1 : Int32))])) rfl (by rw [hml]; rfl) (argsL := [(.ref b1), (.int (4 : Int32)), (.int (3 : Int32)), (.long V), (.int (own_len V)), (.int sv)]) (rest := [(.int (1 : Int32))]) (lenOf pd_2 rfl) rfl (by show 2 * 0 + _ ≤ _; exact Nat.le_of_eq rfl) (hb hby at_230) (fun _ _ => ⟨rfl, e69, (by decide : 1 + 0 ≤ _), (by decide : 14 + 0 ≤ _)⟩)
    dsimp only [Pt.U, Pt.locs, Pt.cells, Pt.slots] at X70 l70 y70 z70 st70 hQ70
    subst l70 y70 z70
    obtain ⟨rfl, N70q, e70⟩ := hQ70
    have N70 := Fr.app N69 N70q
    obtain ⟨J70, X70, N70⟩ := own_hide X70 N70
    refine own_Go.of (g' := (mkF m 233 #[.val (.long x0), .second, .val (.int x1), .val (.int x2), .val (.int x3), .val (.long V), .second, .val (.int (3 : Int32)), .val (.int sv), .val (.ref b1), .val (.int (own_len V)), .val (.int ((3 : Int32) + (own_len V))), .val (.int (1 : Int32))] [(.int (own_chk (4 : Int32) (3 : Int32) V (own_len V) sv (own_at 3 4 V zz))), (.int (1 : Int32))])) (fun t k => st70 _ k) ?_
    rw [show (own_chk (4 : Int32) (3 : Int32) V (own_len V) sv (own_at 3 4 V zz)) = (1 : Int32) from own_chk_ok hV hzz 3 4 (by decide) (by decide)]
    refine og_iand (pc' := 234) X70 hx (hb hby at_233) rfl ?_
    rw [show ((1 : Int32) &&& (1 : Int32)) = (1 : Int32) from by decide]
    refine og_istore (pc' := 236) (L' := #[.val (.long x0), .second, .val (.int x1), .val (.int x2), .val (.int x3), .val (.long V), .second, .val (.int (3 : Int32)), .val (.int sv), .val (.ref b1), .val (.int (own_len V)), .val (.int ((3 : Int32) + (own_len V))), .val (.int (1 : Int32))]) X70 hx (hb hby at_234) rfl rfl ?_
    refine og_iload (pc' := 238) X70 hx (hb hby at_236) rfl rfl ?_
    refine og_aload (pc' := 240) X70 hx (hb hby at_238) rfl rfl rfl ?_
    refine og_iconst (pc' := 241) (n := 5) X70 hx (hb hby at_240) rfl rfl ?_
    refine og_iload (pc' := 243) X70 hx (hb hby at_241) rfl rfl ?_
    refine og_lload (pc' := 245) X70 hx (hb hby at_243) rfl rfl ?_
    refine og_iload (pc' := 247) X70 hx (hb hby at_245) rfl rfl ?_
    refine og_iload (pc' := 249) X70 hx (hb hby at_247) rfl rfl ?_
    obtain ⟨_, _, ⟨T71, L71, k71, n71⟩, -, X71, ⟨Lc71, hQ71, l71, y71, z71⟩, st71⟩ := Jvm.LawKit.callS X70 hx (y := (⟨"com/example/skorr/skorr/index/IndexFormatWriteVarintPinLaw", "check", "([BIIJIB)Z"⟩ : MethodName)) hown (mvT hZ (hw _ (List.mem_of_getElem? (i := 12) rfl))) (mvT hZ (hw _ (List.mem_of_getElem? (i := 13) rfl))) (mvT hZ (hw _ (List.mem_of_getElem? (i := 4) rfl))) (mvT hZ (hw _ (List.mem_of_getElem? (i := 14) rfl))) (by decide) (backOf (W := 1) (rmchk l Z a0 hw [] b1 (5 : Int32) (3 : Int32) V (own_len V) sv k1 (own_lst 3 V zz) (own_at 3 5 V zz) T65.heap n0 Z65 c65_0 ⟨by decide, by decide⟩ (own_hat 3 5 V zz)) hZ (hw _ (List.mem_of_getElem? (i := 14) rfl)) (hw _ (List.mem_of_getElem? (i := 4) rfl)) (by decide) (by decide)) (g := (mkF m 249 #[.val (.long x0), .second, .val (.int x1), .val (.int x2), .val (.int x3), .val (.long V), .second, .val (.int (3 : Int32)), .val (.int sv), .val (.ref b1), .val (.int (own_len V)), .val (.int ((3 : Int32) + (own_len V))), .val (.int (1 : Int32))] [(.int sv), (.int (own_len V)), (.long V), (.int (3 : Int32)), (.int (5 : Int32)), (.ref b1), (.int (1 : Int32))])) rfl (by rw [hml]; rfl) (argsL := [(.ref b1), (.int (5 : Int32)), (.int (3 : Int32)), (.long V), (.int (own_len V)), (.int sv)]) (rest := [(.int (1 : Int32))]) (lenOf pd_2 rfl) rfl (by show 2 * 0 + _ ≤ _; exact Nat.le_of_eq rfl) (hb hby at_249) (fun _ _ => ⟨rfl, e70, (by decide : 1 + 0 ≤ _), (by decide : 14 + 0 ≤ _)⟩)
    dsimp only [Pt.U, Pt.locs, Pt.cells, Pt.slots] at X71 l71 y71 z71 st71 hQ71
    subst l71 y71 z71
    obtain ⟨rfl, N71q, e71⟩ := hQ71
    have N71 := Fr.app N70 N71q
    obtain ⟨J71, X71, N71⟩ := own_hide X71 N71
    refine own_Go.of (g' := (mkF m 252 #[.val (.long x0), .second, .val (.int x1), .val (.int x2), .val (.int x3), .val (.long V), .second, .val (.int (3 : Int32)), .val (.int sv), .val (.ref b1), .val (.int (own_len V)), .val (.int ((3 : Int32) + (own_len V))), .val (.int (1 : Int32))] [(.int (own_chk (5 : Int32) (3 : Int32) V (own_len V) sv (own_at 3 5 V zz))), (.int (1 : Int32))])) (fun t k => st71 _ k) ?_
    rw [show (own_chk (5 : Int32) (3 : Int32) V (own_len V) sv (own_at 3 5 V zz)) = (1 : Int32) from own_chk_ok hV hzz 3 5 (by decide) (by decide)]
    refine og_iand (pc' := 253) X71 hx (hb hby at_252) rfl ?_
    rw [show ((1 : Int32) &&& (1 : Int32)) = (1 : Int32) from by decide]
    refine og_istore (pc' := 255) (L' := #[.val (.long x0), .second, .val (.int x1), .val (.int x2), .val (.int x3), .val (.long V), .second, .val (.int (3 : Int32)), .val (.int sv), .val (.ref b1), .val (.int (own_len V)), .val (.int ((3 : Int32) + (own_len V))), .val (.int (1 : Int32))]) X71 hx (hb hby at_253) rfl rfl ?_
    refine og_iload (pc' := 257) X71 hx (hb hby at_255) rfl rfl ?_
    refine og_aload (pc' := 259) X71 hx (hb hby at_257) rfl rfl rfl ?_
    refine og_bipush (pc' := 261) (n := 6) X71 hx (hb hby at_259) rfl rfl ?_
    refine og_iload (pc' := 263) X71 hx (hb hby at_261) rfl rfl ?_
    refine og_lload (pc' := 265) X71 hx (hb hby at_263) rfl rfl ?_
    refine og_iload (pc' := 267) X71 hx (hb hby at_265) rfl rfl ?_
    refine og_iload (pc' := 269) X71 hx (hb hby at_267) rfl rfl ?_
    obtain ⟨_, _, ⟨T72, L72, k72, n72⟩, -, X72, ⟨Lc72, hQ72, l72, y72, z72⟩, st72⟩ := Jvm.LawKit.callS X71 hx (y := (⟨"com/example/skorr/skorr/index/IndexFormatWriteVarintPinLaw", "check", "([BIIJIB)Z"⟩ : MethodName)) hown (mvT hZ (hw _ (List.mem_of_getElem? (i := 12) rfl))) (mvT hZ (hw _ (List.mem_of_getElem? (i := 13) rfl))) (mvT hZ (hw _ (List.mem_of_getElem? (i := 4) rfl))) (mvT hZ (hw _ (List.mem_of_getElem? (i := 14) rfl))) (by decide) (backOf (W := 1) (rmchk l Z a0 hw [] b1 (6 : Int32) (3 : Int32) V (own_len V) sv k1 (own_lst 3 V zz) (own_at 3 6 V zz) T65.heap n0 Z65 c65_0 ⟨by decide, by decide⟩ (own_hat 3 6 V zz)) hZ (hw _ (List.mem_of_getElem? (i := 14) rfl)) (hw _ (List.mem_of_getElem? (i := 4) rfl)) (by decide) (by decide)) (g := (mkF m 269 #[.val (.long x0), .second, .val (.int x1), .val (.int x2), .val (.int x3), .val (.long V), .second, .val (.int (3 : Int32)), .val (.int sv), .val (.ref b1), .val (.int (own_len V)), .val (.int ((3 : Int32) + (own_len V))), .val (.int (1 : Int32))] [(.int sv), (.int (own_len V)), (.long V), (.int (3 : Int32)), (.int (6 : Int32)), (.ref b1), (.int (1 : Int32))])) rfl (by rw [hml]; rfl) (argsL := [(.ref b1), (.int (6 : Int32)), (.int (3 : Int32)), (.long V), (.int (own_len V)), (.int sv)]) (rest := [(.int (1 : Int32))]) (lenOf pd_2 rfl) rfl (by show 2 * 0 + _ ≤ _; exact Nat.le_of_eq rfl) (hb hby at_269) (fun _ _ => ⟨rfl, e71, (by decide : 1 + 0 ≤ _), (by decide : 14 + 0 ≤ _)⟩)
    dsimp only [Pt.U, Pt.locs, Pt.cells, Pt.slots] at X72 l72 y72 z72 st72 hQ72
    subst l72 y72 z72
    obtain ⟨rfl, N72q, e72⟩ := hQ72
    have N72 := Fr.app N71 N72q
    obtain ⟨J72, X72, N72⟩ := own_hide X72 N72
    refine own_Go.of (g' := (mkF m 272 #[.val (.long x0), .second, .val (.int x1), .val (.int x2), .val (.int x3), .val (.long V), .second, .val (.int (3 : Int32)), .val (.int sv), .val (.ref b1), .val (.int (own_len V)), .val (.int ((3 : Int32) + (own_len V))), .val (.int (1 : Int32))] [(.int (own_chk (6 : Int32) (3 : Int32) V (own_len V) sv (own_at 3 6 V zz))), (.int (1 : Int32))])) (fun t k => st72 _ k) ?_
    rw [show (own_chk (6 : Int32) (3 : Int32) V (own_len V) sv (own_at 3 6 V zz)) = (1 : Int32) from own_chk_ok hV hzz 3 6 (by decide) (by decide)]
    refine og_iand (pc' := 273) X72 hx (hb hby at_272) rfl ?_
    rw [show ((1 : Int32) &&& (1 : Int32)) = (1 : Int32) from by decide]
    refine og_istore (pc' := 275) (L' := #[.val (.long x0), .second, .val (.int x1), .val (.int x2), .val (.int x3), .val (.long V), .second, .val (.int (3 : Int32)), .val (.int sv), .val (.ref b1), .val (.int (own_len V)), .val (.int ((3 : Int32) + (own_len V))), .val (.int (1 : Int32))]) X72 hx (hb hby at_273) rfl rfl ?_
    refine og_iload (pc' := 277) X72 hx (hb hby at_275) rfl rfl ?_
    refine og_aload (pc' := 279) X72 hx (hb hby at_277) rfl rfl rfl ?_
    refine og_bipush (pc' := 281) (n := 7) X72 hx (hb hby at_279) rfl rfl ?_
    refine og_iload (pc' := 283) X72 hx (hb hby at_281) rfl rfl ?_
    refine og_lload (pc' := 285) X72 hx (hb hby at_283) rfl rfl ?_
    refine og_iload (pc' := 287) X72 hx (hb hby at_285) rfl rfl ?_
    refine og_iload (pc' := 289) X72 hx (hb hby at_287) rfl rfl ?_
    obtain ⟨_, _, ⟨T73, L73, k73, n73⟩, -, X73, ⟨Lc73, hQ73, l73, y73, z73⟩, st73⟩ := Jvm.LawKit.callS X72 hx (y := (⟨"com/example/skorr/skorr/index/IndexFormatWriteVarintPinLaw", "check", "([BIIJIB)Z"⟩ : MethodName)) hown (mvT hZ (hw _ (List.mem_of_getElem? (i := 12) rfl))) (mvT hZ (hw _ (List.mem_of_getElem? (i := 13) rfl))) (mvT hZ (hw _ (List.mem_of_getElem? (i := 4) rfl))) (mvT hZ (hw _ (List.mem_of_getElem? (i := 14) rfl))) (by decide) (backOf (W := 1) (rmchk l Z a0 hw [] b1 (7 : Int32) (3 : Int32) V (own_len V) sv k1 (own_lst 3 V zz) (own_at 3 7 V zz) T65.heap n0 Z65 c65_0 ⟨by decide, by decide⟩ (own_hat 3 7 V zz)) hZ (hw _ (List.mem_of_getElem? (i := 14) rfl)) (hw _ (List.mem_of_getElem? (i := 4) rfl)) (by decide) (by decide)) (g := (mkF m 289 #[.val (.long x0), .second, .val (.int x1), .val (.int x2), .val (.int x3), .val (.long V), .second, .val (.int (3 : Int32)), .val (.int sv), .val (.ref b1), .val (.int (own_len V)), .val (.int ((3 : Int32) + (own_len V))), .val (.int (1 : Int32))] [(.int sv), (.int (own_len V)), (.long V), (.int (3 : Int32)), (.int (7 : Int32)), (.ref b1), (.int (1 : Int32))])) rfl (by rw [hml]; rfl) (argsL := [(.ref b1), (.int (7 : Int32)), (.int (3 : Int32)), (.long V), (.int (own_len V)), (.int sv)]) (rest := [(.int (1 : Int32))]) (lenOf pd_2 rfl) rfl (by show 2 * 0 + _ ≤ _; exact Nat.le_of_eq rfl) (hb hby at_289) (fun _ _ => ⟨rfl, e72, (by decide : 1 + 0 ≤ _), (by decide : 14 + 0 ≤ _)⟩)
    dsimp only [Pt.U, Pt.locs, Pt.cells, Pt.slots] at X73 l73 y73 z73 st73 hQ73
    subst l73 y73 z73
    obtain ⟨rfl, N73q, e73⟩ := hQ73
    have N73 := Fr.app N72 N73q
    obtain ⟨J73, X73, N73⟩ := own_hide X73 N73
    refine own_Go.of (g' := (mkF m 292 #[.val (.long x0), .second, .val (.int x1), .val (.int x2), .val (.int x3), .val (.long V), .second, .val (.int (3 : Int32)), .val (.int sv), .val (.ref b1), .val (.int (own_len V)), .val (.int ((3 : Int32) + (own_len V))), .val (.int (1 : Int32))] [(.int (own_chk (7 : Int32) (3 : Int32) V (own_len V) sv (own_at 3 7 V zz))), (.int (1 : Int32))])) (fun t k => st73 _ k) ?_
    rw [show (own_chk (7 : Int32) (3 : Int32) V (own_len V) sv (own_at 3 7 V zz)) = (1 : Int32) from own_chk_ok hV hzz 3 7 (by decide) (by decide)]
    refine og_iand (pc' := 293) X73 hx (hb hby at_292) rfl ?_
    rw [show ((1 : Int32) &&& (1 : Int32)) = (1 : Int32) from by decide]
    refine og_istore (pc' := 295) (L' := #[.val (.long x0), .second, .val (.int x1), .val (.int x2), .val (.int x3), .val (.long V), .second, .val (.int (3 : Int32)), .val (.int sv), .val (.ref b1), .val (.int (own_len V)), .val (.int ((3 : Int32) + (own_len V))), .val (.int (1 : Int32))]) X73 hx (hb hby at_293) rfl rfl ?_
    refine og_iload (pc' := 297) X73 hx (hb hby at_295) rfl rfl ?_
    refine og_aload (pc' := 299) X73 hx (hb hby at_297) rfl rfl rfl ?_
    refine og_bipush (pc' := 301) (n := 8) X73 hx (hb hby at_299) rfl rfl ?_
    refine og_iload (pc' := 303) X73 hx (hb hby at_301) rfl rfl ?_
    refine og_lload (pc' := 305) X73 hx (hb hby at_303) rfl rfl ?_
    refine og_iload (pc' := 307) X73 hx (hb hby at_305) rfl rfl ?_
    refine og_iload (pc' := 309) X73 hx (hb hby at_307) rfl rfl ?_
    obtain ⟨_, _, ⟨T74, L74, k74, n74⟩, -, X74, ⟨Lc74, hQ74, l74, y74, z74⟩, st74⟩ := Jvm.LawKit.callS X73 hx (y := (⟨"com/example/skorr/skorr/index/IndexFormatWriteVarintPinLaw", "check", "([BIIJIB)Z"⟩ : MethodName)) hown (mvT hZ (hw _ (List.mem_of_getElem? (i := 12) rfl))) (mvT hZ (hw _ (List.mem_of_getElem? (i := 13) rfl))) (mvT hZ (hw _ (List.mem_of_getElem? (i := 4) rfl))) (mvT hZ (hw _ (List.mem_of_getElem? (i := 14) rfl))) (by decide) (backOf (W := 1) (rmchk l Z a0 hw [] b1 (8 : Int32) (3 : Int32) V (own_len V) sv k1 (own_lst 3 V zz) (own_at 3 8 V zz) T65.heap n0 Z65 c65_0 ⟨by decide, by decide⟩ (own_hat 3 8 V zz)) hZ (hw _ (List.mem_of_getElem? (i := 14) rfl)) (hw _ (List.mem_of_getElem? (i := 4) rfl)) (by decide) (by decide)) (g := (mkF m 309 #[.val (.long x0), .second, .val (.int x1), .val (.int x2), .val (.int x3), .val (.long V), .second, .val (.int (3 : Int32)), .val (.int sv), .val (.ref b1), .val (.int (own_len V)), .val (.int ((3 : Int32) + (own_len V))), .val (.int (1 : Int32))] [(.int sv), (.int (own_len V)), (.long V), (.int (3 : Int32)), (.int (8 : Int32)), (.ref b1), (.int (1 : Int32))])) rfl (by rw [hml]; rfl) (argsL := [(.ref b1), (.int (8 : Int32)), (.int (3 : Int32)), (.long V), (.int (own_len V)), (.int sv)]) (rest := [(.int (1 : Int32))]) (lenOf pd_2 rfl) rfl (by show 2 * 0 + _ ≤ _; exact Nat.le_of_eq rfl) (hb hby at_309) (fun _ _ => ⟨rfl, e73, (by decide : 1 + 0 ≤ _), (by decide : 14 + 0 ≤ _)⟩)
    dsimp only [Pt.U, Pt.locs, Pt.cells, Pt.slots] at X74 l74 y74 z74 st74 hQ74
    subst l74 y74 z74
    obtain ⟨rfl, N74q, e74⟩ := hQ74
    have N74 := Fr.app N73 N74q
    obtain ⟨J74, X74, N74⟩ := own_hide X74 N74
    refine own_Go.of (g' := (mkF m 312 #[.val (.long x0), .second, .val (.int x1), .val (.int x2), .val (.int x3), .val (.long V), .second, .val (.int (3 : Int32)), .val (.int sv), .val (.ref b1), .val (.int (own_len V)), .val (.int ((3 : Int32) + (own_len V))), .val (.int (1 : Int32))] [(.int (own_chk (8 : Int32) (3 : Int32) V (own_len V) sv (own_at 3 8 V zz))), (.int (1 : Int32))])) (fun t k => st74 _ k) ?_
    rw [show (own_chk (8 : Int32) (3 : Int32) V (own_len V) sv (own_at 3 8 V zz)) = (1 : Int32) from own_chk_ok hV hzz 3 8 (by decide) (by decide)]
    refine og_iand (pc' := 313) X74 hx (hb hby at_312) rfl ?_
    rw [show ((1 : Int32) &&& (1 : Int32)) = (1 : Int32) from by decide]
    refine og_istore (pc' := 315) (L' := #[.val (.long x0), .second, .val (.int x1), .val (.int x2), .val (.int x3), .val (.long V), .second, .val (.int (3 : Int32)), .val (.int sv), .val (.ref b1), .val (.int (own_len V)), .val (.int ((3 : Int32) + (own_len V))), .val (.int (1 : Int32))]) X74 hx (hb hby at_313) rfl rfl ?_
    refine og_iload (pc' := 317) X74 hx (hb hby at_315) rfl rfl ?_
    refine og_aload (pc' := 319) X74 hx (hb hby at_317) rfl rfl rfl ?_
    refine og_bipush (pc' := 321) (n := 9) X74 hx (hb hby at_319) rfl rfl ?_
    refine og_iload (pc' := 323) X74 hx (hb hby at_321) rfl rfl ?_
    refine og_lload (pc' := 325) X74 hx (hb hby at_323) rfl rfl ?_
    refine og_iload (pc' := 327) X74 hx (hb hby at_325) rfl rfl ?_
    refine og_iload (pc' := 329) X74 hx (hb hby at_327) rfl rfl ?_
    obtain ⟨_, _, ⟨T75, L75, k75, n75⟩, -, X75, ⟨Lc75, hQ75, l75, y75, z75⟩, st75⟩ := Jvm.LawKit.callS X74 hx (y := (⟨"com/example/skorr/skorr/index/IndexFormatWriteVarintPinLaw", "check", "([BIIJIB)Z"⟩ : MethodName)) hown (mvT hZ (hw _ (List.mem_of_getElem? (i := 12) rfl))) (mvT hZ (hw _ (List.mem_of_getElem? (i := 13) rfl))) (mvT hZ (hw _ (List.mem_of_getElem? (i := 4) rfl))) (mvT hZ (hw _ (List.mem_of_getElem? (i := 14) rfl))) (by decide) (backOf (W := 1) (rmchk l Z a0 hw [] b1 (9 : Int32) (3 : Int32) V (own_len V) sv k1 (own_lst 3 V zz) (own_at 3 9 V zz) T65.heap n0 Z65 c65_0 ⟨by decide, by decide⟩ (own_hat 3 9 V zz)) hZ (hw _ (List.mem_of_getElem? (i := 14) rfl)) (hw _ (List.mem_of_getElem? (i := 4) rfl)) (by decide) (by decide)) (g := (mkF m 329 #[.val (.long x0), .second, .val (.int x1), .val (.int x2), .val (.int x3), .val (.long V), .second, .val (.int (3 : Int32)), .val (.int sv), .val (.ref b1), .val (.int (own_len V)), .val (.int ((3 : Int32) + (own_len V))), .val (.int (1 : Int32))] [(.int sv), (.int (own_len V)), (.long V), (.int (3 : Int32)), (.int (9 : Int32)), (.ref b1), (.int (1 : Int32))])) rfl (by rw [hml]; rfl) (argsL := [(.ref b1), (.int (9 : Int32)), (.int (3 : Int32)), (.long V), (.int (own_len V)), (.int sv)]) (rest := [(.int (1 : Int32))]) (lenOf pd_2 rfl) rfl (by show 2 * 0 + _ ≤ _; exact Nat.le_of_eq rfl) (hb hby at_329) (fun _ _ => ⟨rfl, e74, (by decide : 1 + 0 ≤ _), (by decide : 14 + 0 ≤ _)⟩)
    dsimp only [Pt.U, Pt.locs, Pt.cells, Pt.slots] at X75 l75 y75 z75 st75 hQ75
    subst l75 y75 z75
    obtain ⟨rfl, N75q, e75⟩ := hQ75
    have N75 := Fr.app N74 N75q
    obtain ⟨J75, X75, N75⟩ := own_hide X75 N75
    refine own_Go.of (g' := (mkF m 332 #[.val (.long x0), .second, .val (.int x1), .val (.int x2), .val (.int x3), .val (.long V), .second, .val (.int (3 : Int32)), .val (.int sv), .val (.ref b1), .val (.int (own_len V)), .val (.int ((3 : Int32) + (own_len V))), .val (.int (1 : Int32))] [(.int (own_chk (9 : Int32) (3 : Int32) V (own_len V) sv (own_at 3 9 V zz))), (.int (1 : Int32))])) (fun t k => st75 _ k) ?_
    rw [show (own_chk (9 : Int32) (3 : Int32) V (own_len V) sv (own_at 3 9 V zz)) = (1 : Int32) from own_chk_ok hV hzz 3 9 (by decide) (by decide)]
    refine og_iand (pc' := 333) X75 hx (hb hby at_332) rfl ?_
    rw [show ((1 : Int32) &&& (1 : Int32)) = (1 : Int32) from by decide]
    refine og_istore (pc' := 335) (L' := #[.val (.long x0), .second, .val (.int x1), .val (.int x2), .val (.int x3), .val (.long V), .second, .val (.int (3 : Int32)), .val (.int sv), .val (.ref b1), .val (.int (own_len V)), .val (.int ((3 : Int32) + (own_len V))), .val (.int (1 : Int32))]) X75 hx (hb hby at_333) rfl rfl ?_
    refine og_iload (pc' := 337) X75 hx (hb hby at_335) rfl rfl ?_
    refine og_aload (pc' := 339) X75 hx (hb hby at_337) rfl rfl rfl ?_
    refine og_bipush (pc' := 341) (n := 10) X75 hx (hb hby at_339) rfl rfl ?_
    refine og_iload (pc' := 343) X75 hx (hb hby at_341) rfl rfl ?_
    refine og_lload (pc' := 345) X75 hx (hb hby at_343) rfl rfl ?_
    refine og_iload (pc' := 347) X75 hx (hb hby at_345) rfl rfl ?_
    refine og_iload (pc' := 349) X75 hx (hb hby at_347) rfl rfl ?_
    obtain ⟨_, _, ⟨T76, L76, k76, n76⟩, -, X76, ⟨Lc76, hQ76, l76, y76, z76⟩, st76⟩ := Jvm.LawKit.callS X75 hx (y := (⟨"com/example/skorr/skorr/index/IndexFormatWriteVarintPinLaw", "check", "([BIIJIB)Z"⟩ : MethodName)) hown (mvT hZ (hw _ (List.mem_of_getElem? (i := 12) rfl))) (mvT hZ (hw _ (List.mem_of_getElem? (i := 13) rfl))) (mvT hZ (hw _ (List.mem_of_getElem? (i := 4) rfl))) (mvT hZ (hw _ (List.mem_of_getElem? (i := 14) rfl))) (by decide) (backOf (W := 1) (rmchk l Z a0 hw [] b1 (10 : Int32) (3 : Int32) V (own_len V) sv k1 (own_lst 3 V zz) (own_at 3 10 V zz) T65.heap n0 Z65 c65_0 ⟨by decide, by decide⟩ (own_hat 3 10 V zz)) hZ (hw _ (List.mem_of_getElem? (i := 14) rfl)) (hw _ (List.mem_of_getElem? (i := 4) rfl)) (by decide) (by decide)) (g := (mkF m 349 #[.val (.long x0), .second, .val (.int x1), .val (.int x2), .val (.int x3), .val (.long V), .second, .val (.int (3 : Int32)), .val (.int sv), .val (.ref b1), .val (.int (own_len V)), .val (.int ((3 : Int32) + (own_len V))), .val (.int (1 : Int32))] [(.int sv), (.int (own_len V)), (.long V), (.int (3 : Int32)), (.int (10 : Int32)), (.ref b1), (.int (1 : Int32))])) rfl (by rw [hml]; rfl) (argsL := [(.ref b1), (.int (10 : Int32)), (.int (3 : Int32)), (.long V), (.int (own_len V)), (.int sv)]) (rest := [(.int (1 : Int32))]) (lenOf pd_2 rfl) rfl (by show 2 * 0 + _ ≤ _; exact Nat.le_of_eq rfl) (hb hby at_349) (fun _ _ => ⟨rfl, e75, (by decide : 1 + 0 ≤ _), (by decide : 14 + 0 ≤ _)⟩)
    dsimp only [Pt.U, Pt.locs, Pt.cells, Pt.slots] at X76 l76 y76 z76 st76 hQ76
    subst l76 y76 z76
    obtain ⟨rfl, N76q, e76⟩ := hQ76
    have N76 := Fr.app N75 N76q
    obtain ⟨J76, X76, N76⟩ := own_hide X76 N76
    refine own_Go.of (g' := (mkF m 352 #[.val (.long x0), .second, .val (.int x1), .val (.int x2), .val (.int x3), .val (.long V), .second, .val (.int (3 : Int32)), .val (.int sv), .val (.ref b1), .val (.int (own_len V)), .val (.int ((3 : Int32) + (own_len V))), .val (.int (1 : Int32))] [(.int (own_chk (10 : Int32) (3 : Int32) V (own_len V) sv (own_at 3 10 V zz))), (.int (1 : Int32))])) (fun t k => st76 _ k) ?_
    rw [show (own_chk (10 : Int32) (3 : Int32) V (own_len V) sv (own_at 3 10 V zz)) = (1 : Int32) from own_chk_ok hV hzz 3 10 (by decide) (by decide)]
    refine og_iand (pc' := 353) X76 hx (hb hby at_352) rfl ?_
    rw [show ((1 : Int32) &&& (1 : Int32)) = (1 : Int32) from by decide]
    refine og_istore (pc' := 355) (L' := #[.val (.long x0), .second, .val (.int x1), .val (.int x2), .val (.int x3), .val (.long V), .second, .val (.int (3 : Int32)), .val (.int sv), .val (.ref b1), .val (.int (own_len V)), .val (.int ((3 : Int32) + (own_len V))), .val (.int (1 : Int32))]) X76 hx (hb hby at_353) rfl rfl ?_
    refine og_iload (pc' := 357) X76 hx (hb hby at_355) rfl rfl ?_
    refine og_aload (pc' := 359) X76 hx (hb hby at_357) rfl rfl rfl ?_
    refine og_bipush (pc' := 361) (n := 11) X76 hx (hb hby at_359) rfl rfl ?_
    refine og_iload (pc' := 363) X76 hx (hb hby at_361) rfl rfl ?_
    refine og_lload (pc' := 365) X76 hx (hb hby at_363) rfl rfl ?_
    refine og_iload (pc' := 367) X76 hx (hb hby at_365) rfl rfl ?_
    refine og_iload (pc' := 369) X76 hx (hb hby at_367) rfl rfl ?_
    obtain ⟨_, _, ⟨T77, L77, k77, n77⟩, -, X77, ⟨Lc77, hQ77, l77, y77, z77⟩, st77⟩ := Jvm.LawKit.callS X76 hx (y := (⟨"com/example/skorr/skorr/index/IndexFormatWriteVarintPinLaw", "check", "([BIIJIB)Z"⟩ : MethodName)) hown (mvT hZ (hw _ (List.mem_of_getElem? (i := 12) rfl))) (mvT hZ (hw _ (List.mem_of_getElem? (i := 13) rfl))) (mvT hZ (hw _ (List.mem_of_getElem? (i := 4) rfl))) (mvT hZ (hw _ (List.mem_of_getElem? (i := 14) rfl))) (by decide) (backOf (W := 1) (rmchk l Z a0 hw [] b1 (11 : Int32) (3 : Int32) V (own_len V) sv k1 (own_lst 3 V zz) (own_at 3 11 V zz) T65.heap n0 Z65 c65_0 ⟨by decide, by decide⟩ (own_hat 3 11 V zz)) hZ (hw _ (List.mem_of_getElem? (i := 14) rfl)) (hw _ (List.mem_of_getElem? (i := 4) rfl)) (by decide) (by decide)) (g := (mkF m 369 #[.val (.long x0), .second, .val (.int x1), .val (.int x2), .val (.int x3), .val (.long V), .second, .val (.int (3 : Int32)), .val (.int sv), .val (.ref b1), .val (.int (own_len V)), .val (.int ((3 : Int32) + (own_len V))), .val (.int (1 : Int32))] [(.int sv), (.int (own_len V)), (.long V), (.int (3 : Int32)), (.int (11 : Int32)), (.ref b1), (.int (1 : Int32))])) rfl (by rw [hml]; rfl) (argsL := [(.ref b1), (.int (11 : Int32)), (.int (3 : Int32)), (.long V), (.int (own_len V)), (.int sv)]) (rest := [(.int (1 : Int32))]) (lenOf pd_2 rfl) rfl (by show 2 * 0 + _ ≤ _; exact Nat.le_of_eq rfl) (hb hby at_369) (fun _ _ => ⟨rfl, e76, (by decide : 1 + 0 ≤ _), (by decide : 14 + 0 ≤ _)⟩)
    dsimp only [Pt.U, Pt.locs, Pt.cells, Pt.slots] at X77 l77 y77 z77 st77 hQ77
    subst l77 y77 z77
    obtain ⟨rfl, N77q, e77⟩ := hQ77
    have N77 := Fr.app N76 N77q
    obtain ⟨J77, X77, N77⟩ := own_hide X77 N77
    refine own_Go.of (g' := (mkF m 372 #[.val (.long x0), .second, .val (.int x1), .val (.int x2), .val (.int x3), .val (.long V), .second, .val (.int (3 : Int32)), .val (.int sv), .val (.ref b1), .val (.int (own_len V)), .val (.int ((3 : Int32) + (own_len V))), .val (.int (1 : Int32))] [(.int (own_chk (11 : Int32) (3 : Int32) V (own_len V) sv (own_at 3 11 V zz))), (.int (1 : Int32))])) (fun t k => st77 _ k) ?_
    rw [show (own_chk (11 : Int32) (3 : Int32) V (own_len V) sv (own_at 3 11 V zz)) = (1 : Int32) from own_chk_ok hV hzz 3 11 (by decide) (by decide)]
    refine og_iand (pc' := 373) X77 hx (hb hby at_372) rfl ?_
    rw [show ((1 : Int32) &&& (1 : Int32)) = (1 : Int32) from by decide]
    refine og_istore (pc' := 375) (L' := #[.val (.long x0), .second, .val (.int x1), .val (.int x2), .val (.int x3), .val (.long V), .second, .val (.int (3 : Int32)), .val (.int sv), .val (.ref b1), .val (.int (own_len V)), .val (.int ((3 : Int32) + (own_len V))), .val (.int (1 : Int32))]) X77 hx (hb hby at_373) rfl rfl ?_
    refine og_iload (pc' := 377) X77 hx (hb hby at_375) rfl rfl ?_
    refine og_aload (pc' := 379) X77 hx (hb hby at_377) rfl rfl rfl ?_
    refine og_bipush (pc' := 381) (n := 12) X77 hx (hb hby at_379) rfl rfl ?_
    refine og_iload (pc' := 383) X77 hx (hb hby at_381) rfl rfl ?_
    refine og_lload (pc' := 385) X77 hx (hb hby at_383) rfl rfl ?_
    refine og_iload (pc' := 387) X77 hx (hb hby at_385) rfl rfl ?_
    refine og_iload (pc' := 389) X77 hx (hb hby at_387) rfl rfl ?_
    obtain ⟨_, _, ⟨T78, L78, k78, n78⟩, -, X78, ⟨Lc78, hQ78, l78, y78, z78⟩, st78⟩ := Jvm.LawKit.callS X77 hx (y := (⟨"com/example/skorr/skorr/index/IndexFormatWriteVarintPinLaw", "check", "([BIIJIB)Z"⟩ : MethodName)) hown (mvT hZ (hw _ (List.mem_of_getElem? (i := 12) rfl))) (mvT hZ (hw _ (List.mem_of_getElem? (i := 13) rfl))) (mvT hZ (hw _ (List.mem_of_getElem? (i := 4) rfl))) (mvT hZ (hw _ (List.mem_of_getElem? (i := 14) rfl))) (by decide) (backOf (W := 1) (rmchk l Z a0 hw [] b1 (12 : Int32) (3 : Int32) V (own_len V) sv k1 (own_lst 3 V zz) (own_at 3 12 V zz) T65.heap n0 Z65 c65_0 ⟨by decide, by decide⟩ (own_hat 3 12 V zz)) hZ (hw _ (List.mem_of_getElem? (i := 14) rfl)) (hw _ (List.mem_of_getElem? (i := 4) rfl)) (by decide) (by decide)) (g := (mkF m 389 #[.val (.long x0), .second, .val (.int x1), .val (.int x2), .val (.int x3), .val (.long V), .second, .val (.int (3 : Int32)), .val (.int sv), .val (.ref b1), .val (.int (own_len V)), .val (.int ((3 : Int32) + (own_len V))), .val (.int (1 : Int32))] [(.int sv), (.int (own_len V)), (.long V), (.int (3 : Int32)), (.int (12 : Int32)), (.ref b1), (.int (1 : Int32))])) rfl (by rw [hml]; rfl) (argsL := [(.ref b1), (.int (12 : Int32)), (.int (3 : Int32)), (.long V), (.int (own_len V)), (.int sv)]) (rest := [(.int (1 : Int32))]) (lenOf pd_2 rfl) rfl (by show 2 * 0 + _ ≤ _; exact Nat.le_of_eq rfl) (hb hby at_389) (fun _ _ => ⟨rfl, e77, (by decide : 1 + 0 ≤ _), (by decide : 14 + 0 ≤ _)⟩)
    dsimp only [Pt.U, Pt.locs, Pt.cells, Pt.slots] at X78 l78 y78 z78 st78 hQ78
    subst l78 y78 z78
    obtain ⟨rfl, N78q, e78⟩ := hQ78
    have N78 := Fr.app N77 N78q
    obtain ⟨J78, X78, N78⟩ := own_hide X78 N78
    refine own_Go.of (g' := (mkF m 392 #[.val (.long x0), .second, .val (.int x1), .val (.int x2), .val (.int x3), .val (.long V), .second, .val (.int (3 : Int32)), .val (.int sv), .val (.ref b1), .val (.int (own_len V)), .val (.int ((3 : Int32) + (own_len V))), .val (.int (1 : Int32))] [(.int (own_chk (12 : Int32) (3 : Int32) V (own_len V) sv (own_at 3 12 V zz))), (.int (1 : Int32))])) (fun t k => st78 _ k) ?_
    rw [show (own_chk (12 : Int32) (3 : Int32) V (own_len V) sv (own_at 3 12 V zz)) = (1 : Int32) from own_chk_ok hV hzz 3 12 (by decide) (by decide)]
    refine og_iand (pc' := 393) X78 hx (hb hby at_392) rfl ?_
    rw [show ((1 : Int32) &&& (1 : Int32)) = (1 : Int32) from by decide]
    refine og_istore (pc' := 395) (L' := #[.val (.long x0), .second, .val (.int x1), .val (.int x2), .val (.int x3), .val (.long V), .second, .val (.int (3 : Int32)), .val (.int sv), .val (.ref b1), .val (.int (own_len V)), .val (.int ((3 : Int32) + (own_len V))), .val (.int (1 : Int32))]) X78 hx (hb hby at_393) rfl rfl ?_
    refine og_iload (pc' := 397) X78 hx (hb hby at_395) rfl rfl ?_
    refine og_aload (pc' := 399) X78 hx (hb hby at_397) rfl rfl rfl ?_
    refine og_bipush (pc' := 401) (n := 13) X78 hx (hb hby at_399) rfl rfl ?_
    refine og_iload (pc' := 403) X78 hx (hb hby at_401) rfl rfl ?_
    refine og_lload (pc' := 405) X78 hx (hb hby at_403) rfl rfl ?_
    refine og_iload (pc' := 407) X78 hx (hb hby at_405) rfl rfl ?_
    refine og_iload (pc' := 409) X78 hx (hb hby at_407) rfl rfl ?_
    obtain ⟨_, _, ⟨T79, L79, k79, n79⟩, -, X79, ⟨Lc79, hQ79, l79, y79, z79⟩, st79⟩ := Jvm.LawKit.callS X78 hx (y := (⟨"com/example/skorr/skorr/index/IndexFormatWriteVarintPinLaw", "check", "([BIIJIB)Z"⟩ : MethodName)) hown (mvT hZ (hw _ (List.mem_of_getElem? (i := 12) rfl))) (mvT hZ (hw _ (List.mem_of_getElem? (i := 13) rfl))) (mvT hZ (hw _ (List.mem_of_getElem? (i := 4) rfl))) (mvT hZ (hw _ (List.mem_of_getElem? (i := 14) rfl))) (by decide) (backOf (W := 1) (rmchk l Z a0 hw [] b1 (13 : Int32) (3 : Int32) V (own_len V) sv k1 (own_lst 3 V zz) (own_at 3 13 V zz) T65.heap n0 Z65 c65_0 ⟨by decide, by decide⟩ (own_hat 3 13 V zz)) hZ (hw _ (List.mem_of_getElem? (i := 14) rfl)) (hw _ (List.mem_of_getElem? (i := 4) rfl)) (by decide) (by decide)) (g := (mkF m 409 #[.val (.long x0), .second, .val (.int x1), .val (.int x2), .val (.int x3), .val (.long V), .second, .val (.int (3 : Int32)), .val (.int sv), .val (.ref b1), .val (.int (own_len V)), .val (.int ((3 : Int32) + (own_len V))), .val (.int (1 : Int32))] [(.int sv), (.int (own_len V)), (.long V), (.int (3 : Int32)), (.int (13 : Int32)), (.ref b1), (.int (1 : Int32))])) rfl (by rw [hml]; rfl) (argsL := [(.ref b1), (.int (13 : Int32)), (.int (3 : Int32)), (.long V), (.int (own_len V)), (.int sv)]) (rest := [(.int (1 : Int32))]) (lenOf pd_2 rfl) rfl (by show 2 * 0 + _ ≤ _; exact Nat.le_of_eq rfl) (hb hby at_409) (fun _ _ => ⟨rfl, e78, (by decide : 1 + 0 ≤ _), (by decide : 14 + 0 ≤ _)⟩)
    dsimp only [Pt.U, Pt.locs, Pt.cells, Pt.slots] at X79 l79 y79 z79 st79 hQ79
    subst l79 y79 z79
    obtain ⟨rfl, N79q, e79⟩ := hQ79
    have N79 := Fr.app N78 N79q
    obtain ⟨J79, X79, N79⟩ := own_hide X79 N79
    refine own_Go.of (g' := (mkF m 412 #[.val (.long x0), .second, .val (.int x1), .val (.int x2), .val (.int x3), .val (.long V), .second, .val (.int (3 : Int32)), .val (.int sv), .val (.ref b1), .val (.int (own_len V)), .val (.int ((3 : Int32) + (own_len V))), .val (.int (1 : Int32))] [(.int (own_chk (13 : Int32) (3 : Int32) V (own_len V) sv (own_at 3 13 V zz))), (.int (1 : Int32))])) (fun t k => st79 _ k) ?_
    rw [show (own_chk (13 : Int32) (3 : Int32) V (own_len V) sv (own_at 3 13 V zz)) = (1 : Int32) from own_chk_ok hV hzz 3 13 (by decide) (by decide)]
    refine og_iand (pc' := 413) X79 hx (hb hby at_412) rfl ?_
    rw [show ((1 : Int32) &&& (1 : Int32)) = (1 : Int32) from by decide]
    refine og_istore (pc' := 415) (L' := #[.val (.long x0), .second, .val (.int x1), .val (.int x2), .val (.int x3), .val (.long V), .second, .val (.int (3 : Int32)), .val (.int sv), .val (.ref b1), .val (.int (own_len V)), .val (.int ((3 : Int32) + (own_len V))), .val (.int (1 : Int32))]) X79 hx (hb hby at_413) rfl rfl ?_
    refine og_iload (pc' := 417) X79 hx (hb hby at_415) rfl rfl ?_
    obtain ⟨fs, hr, hrun, hended, hW, hsame⟩ := X79.leave (v := some (.int (1 : Int32))) (fun h => by rw [Bd.returns] at h; cases h) (BodyLoose.notSynchronized Bd)
    refine ⟨_, _, retN X79 hx (t := .boolean) Bd.returns (by simp) (hb hby at_417) hr, hrun, hended, some (.int (1 : Int32)), _, rfl, ?_, ⟨_, rfl⟩, hW, hsame.mono (by decide) (by decide)⟩
    show Q0 Z x0 x1 x2 x3 h0 n0 _ T79.heap _
    rw [e79]
    exact ⟨rfl, N79⟩

set_option maxRecDepth 65536 in
set_option maxHeartbeats 40000000 in
theorem comes_1 {Post : Tables → Env → Array Value → State → Outcome → State → Prop} (hpost : ∀ tb e args s v u, (limb_1_1.after args s (.returned v) u = true ∧ limb_1_2.after args s (.returned v) u = true ∧ True) → FrameEnd s (.returned v) u (Jvm.fieldLocs frame_1_writes args s ++ Jvm.arrayLocs frame_1_arrays args s ++ Jvm.staticLocs frame_1_statics s) 16 128 → Post tb e args s (.returned v) u) :
    ArmFor flags0 classFile x code maxLocals ret World_1 tables_1 room_1 Calls_1 rest_1 Pre_1 Post := by
  intro l hfl _ _ p e ha hc hk s m args below hf hA hF happ hP
  obtain ⟨hcalls, hrest, hpre⟩ := hP
  obtain ⟨-, -, -, hnamed, -, -, -, hat⟩ := (Spec.applies_iff hf).mp happ
  obtain ⟨hg, hn⟩ := and_e (Cond.before_iff.mp (show (Jvm.Cond.and given_1 narrow_1).before args s = true from hpre))
  obtain ⟨hcnt, hg0⟩ := and_e hg
  obtain ⟨a0, hg1⟩ := and_e hg0
  obtain ⟨a1, hg2⟩ := and_e hg1
  obtain ⟨a2, hg3⟩ := and_e hg2
  obtain ⟨w0, w1, w2, w3, rfl⟩ : ∃ w0 w1 w2 w3 : Value, args = #[w0, w1, w2, w3] := by
    have hs : args.size = 4 := by simpa [Cond.value, given_1] using hcnt
    obtain ⟨L⟩ := args
    match L, hs with
    | [w0, w1, w2, w3], _ => exact ⟨w0, w1, w2, w3, rfl⟩
  have hw := fun d (hd : d ∈ tables_1) => atoms_spec (ws := Jvm.Cond.code x code maxLocals ret :: tables_1) hat d (List.mem_cons_of_mem _ hd)
  have hfit : Fit s := fun {y c} hc i hi => by
    obtain ⟨ha, rfl⟩ := Array.getElem?_eq_some_iff.mp hc
    have q := List.all_eq_true.mp ((Array.all_eq_true_iff_forall_mem.mp hF) _ (Array.getElem_mem ha)) i (List.mem_range.mpr hi)
    simpa [Array.getElem?_eq_getElem hi] using q
  obtain ⟨i0, ei0⟩ := isL_v a0
  obtain rfl : w0 = (.long i0) := Option.some.inj ei0
  obtain ⟨i1, ei1⟩ := is_v a1
  obtain rfl : w1 = (.int i1) := Option.some.inj ei1
  obtain ⟨i2, ei2⟩ := is_v a2
  obtain rfl : w2 = (.int i2) := Option.some.inj ei2
  obtain ⟨i3, ei3⟩ := is_v hg3
  obtain rfl : w3 = (.int i3) := Option.some.inj ei3
  obtain ⟨n, o, h1, h2, h3, _, L, rfl, ⟨rfl, N⟩, hq⟩ := rm0 l s _ hw tables_1 i0 i1 i2 i3  s.heap s.heap.size (Nat.le_refl _)  p e ha hc hk s m _ below hf ((Spec.applies_iff_loose hf).mp happ).1 ⟨rfl, State.Warmed39.refl s, rfl⟩ trivial
  refine ⟨n, _, h1, h2, h3, hpost _ _ _ _ _ _ ⟨Cond.after_iff.mpr rfl, Cond.after_iff.mpr (eq_i res_at (Term.int_eval (1)) rfl), trivial⟩ ⟨hq.1, hq.2.1, (hq.2.2.sift fun y hy => Or.inr (N y hy)).mono (by decide) (by decide)⟩⟩
theorem main_1_1 : Claimed_1_1 := comes_1 fun _ _ _ _ _ _ h hF => ⟨h.1, hF⟩
theorem main_1_2 : Claimed_1_2 := comes_1 fun _ _ _ _ _ _ h hF => ⟨h.2.1, hF⟩

end Jvm.Pilot.@@N@@
namespace Jvm.Pilot.@@N@@
open Jvm Jvm.ClassFile Sem Op Lib Jvm.Free Jvm.Stand Jvm.Pilot.@@N@@.Jvm.D
/-! MADE BY PROGRAM (witnessworld.py) out of the Statement's table words and the real class files: 9 classes; the members and pool entries that the words name. The judged class is class 1, her method 1. -/
namespace start1
open Jvm.ClassFile
def u (s : String) : CpInfo := .utf8 (stringToUtf16 s)
/-- a pool by its gaps: so many unusable entries, then the entry; so many at the end -/
def gap : Nat → List CpInfo → List CpInfo
  | 0, r => r
  | n + 1, r => .unusable :: gap n r
def poolList (es : List (Nat × CpInfo)) (last : Nat) : List CpInfo := es.foldr (fun e r => gap e.1 (e.2 :: r)) (gap last [])
def pool (es : List (Nat × CpInfo)) (last : Nat) : Array CpInfo := ⟨poolList es last⟩
def fileOf (pool : Array CpInfo) (this : Nat) (attrs : Array Attribute := #[]) (ms : Array MethodInfo := #[]) (fl : Nat := 33) (sup : Nat := 0) (ifs : Array Nat := #[]) (fds : Array FieldInfo := #[]) : ClassFile where
  minorVersion := 0
  majorVersion := 65
  constantPool := pool
  accessFlags := fl
  thisClass := this
  superClass := sup
  interfaces := ifs
  fields := fds
  methods := ms
  attributes := attrs
def plain (name : String) (sup : Option ClassId) : Class where
  name := name
  kind := .ordinary
  loader := none
  accessFlags := 33
  super := sup
  interfaces := #[]
  cf := none
  fields := #[]
  methods := #[]
  instanceTypes := #[]
  staticTypes := #[]
  resolved := #[]
  callSites := []
  init := .initialized
  statics := none
  mirror := none

def pool0 : Array CpInfo := pool [(5, u "<init>"), (0, u "()V"), (1, .class_ 10), (1, u "java/lang/Object")] 113

def k0m0 : Method := { name := "<init>", desc := "()V", sig := { parameters := [], returnType := none }, accessFlags := 1, code := none }
/-- java/lang/Object -/
def k0 : Class := { plain "java/lang/Object" none with
  accessFlags := 33
  interfaces := #[]
  cf := some (fileOf pool0 8 #[] #[{ accessFlags := 1, nameIndex := 5, descriptorIndex := 6, attributes := #[] }] 33 0 #[] #[])
  fields := #[]
  methods := #[k0m0]
  instanceTypes := #[]
  staticTypes := #[]
  resolved := Array.replicate 124 none
  statics := none }

def pool1 : Array CpInfo := pool [(2, .class_ 4), (1, u "java/lang/Object"), (0, u "<init>"), (0, u "()V"), (2, .long 9223372036854775807), (1, .methodref 12 13), (0, .class_ 14), (0, .nameAndType 15 16), (0, u "com/example/skorr/skorr/index/IndexFormatWriteVarintPinLaw"), (0, u "length"), (0, u "(J)I"), (0, .methodref 18 19), (0, .class_ 20), (0, .nameAndType 21 22), (0, u "com/example/skorr/skorr/index/IndexFormat"), (0, u "writeVarint"), (0, u "(J[BI)I"), (0, .methodref 12 24), (0, .nameAndType 25 26), (0, u "check"), (0, u "([BIIJIB)Z"), (0, .long 128), (1, .long 16384), (1, .long 2097152), (1, .long 268435456), (1, .long 34359738368), (1, .long 4398046511104), (1, .long 562949953421312), (1, .long 72057594037927936), (1, .long 127), (3, u "law"), (0, u "(JIII)Z")] 5

def k1m0 : Method := { name := "<init>", desc := "()V", sig := { parameters := [], returnType := none }, accessFlags := 1, code := none }
def k1c1 : Code := { maxStack := 8, maxLocals := 13, code := code, exceptionTable := #[], attributes := #[] }
def k1m1 : Method := { name := "law", desc := "(JIII)Z", sig := { parameters := [.long, .int, .int, .int], returnType := some .boolean }, accessFlags := 9, code := some k1c1 }
def k1c2 : Code := { maxStack := 4, maxLocals := 2, code := method_3_code, exceptionTable := #[], attributes := #[] }
def k1m2 : Method := { name := "length", desc := "(J)I", sig := { parameters := [.long], returnType := some .int }, accessFlags := 10, code := some k1c2 }
def k1c3 : Code := { maxStack := 4, maxLocals := 10, code := method_4_code, exceptionTable := #[], attributes := #[] }
def k1m3 : Method := { name := "check", desc := "([BIIJIB)Z", sig := { parameters := [(.array .byte), .int, .int, .long, .int, .byte], returnType := some .boolean }, accessFlags := 10, code := some k1c3 }
/-- com/example/skorr/skorr/index/IndexFormatWriteVarintPinLaw -/
def k1 : Class := { plain "com/example/skorr/skorr/index/IndexFormatWriteVarintPinLaw" (some 0) with
  accessFlags := 49
  interfaces := #[]
  cf := some (fileOf pool1 12 #[] #[{ accessFlags := 1, nameIndex := 5, descriptorIndex := 6, attributes := #[] }, { accessFlags := 9, nameIndex := 47, descriptorIndex := 48, attributes := #[] }, { accessFlags := 10, nameIndex := 15, descriptorIndex := 16, attributes := #[] }, { accessFlags := 10, nameIndex := 25, descriptorIndex := 26, attributes := #[] }] 49 2 #[] #[])
  fields := #[]
  methods := #[k1m0, k1m1, k1m2, k1m3]
  instanceTypes := #[]
  staticTypes := #[]
  resolved := Array.replicate 54 none
  statics := none }

def pool2 : Array CpInfo := pool [(1, .class_ 2), (0, u "com/example/skorr/skorr/index/IndexFormat"), (1, .class_ 6), (1, u "java/lang/Object"), (0, u "<init>"), (0, u "()V"), (10, .long 128), (17, u "MAGIC"), (0, u "[B"), (2, u "HEADER_SIZE"), (0, u "I"), (0, u "FILE_NAME"), (0, u "Ljava/lang/String;"), (3, u "TEMPORARY_NAME"), (2, u "PARTITION_PREFIX"), (2, u "VERSION"), (1, u "INTS_PER_DOCUMENT"), (1, u "MAX_VARINT_SIZE"), (1, u "POSTINGS_PER_BLOCK"), (1, u "MAX_BLOCK_SIZE"), (6, u "writeVarint"), (0, u "(J[BI)I")] 4

def k2m0 : Method := { name := "<init>", desc := "()V", sig := { parameters := [], returnType := none }, accessFlags := 2, code := none }
def k2c1 : Code := { maxStack := 6, maxLocals := 7, code := prog_13_method_4_code, exceptionTable := #[], attributes := #[] }
def k2m1 : Method := { name := "writeVarint", desc := "(J[BI)I", sig := { parameters := [.long, (.array .byte), .int], returnType := some .int }, accessFlags := 8, code := some k2c1 }
/-- com/example/skorr/skorr/index/IndexFormat -/
def k2 : Class := { plain "com/example/skorr/skorr/index/IndexFormat" (some 0) with
  accessFlags := 32
  interfaces := #[]
  cf := some (fileOf pool2 1 #[] #[{ accessFlags := 2, nameIndex := 7, descriptorIndex := 8, attributes := #[] }, { accessFlags := 8, nameIndex := 69, descriptorIndex := 70, attributes := #[] }] 32 4 #[] #[{ accessFlags := 24, nameIndex := 43, descriptorIndex := 44, attributes := #[] }, { accessFlags := 24, nameIndex := 48, descriptorIndex := 44, attributes := #[] }, { accessFlags := 24, nameIndex := 51, descriptorIndex := 44, attributes := #[] }, { accessFlags := 24, nameIndex := 37, descriptorIndex := 38, attributes := #[] }, { accessFlags := 24, nameIndex := 54, descriptorIndex := 42, attributes := #[] }, { accessFlags := 24, nameIndex := 41, descriptorIndex := 42, attributes := #[] }, { accessFlags := 24, nameIndex := 56, descriptorIndex := 42, attributes := #[] }, { accessFlags := 24, nameIndex := 58, descriptorIndex := 42, attributes := #[] }, { accessFlags := 24, nameIndex := 60, descriptorIndex := 42, attributes := #[] }, { accessFlags := 24, nameIndex := 62, descriptorIndex := 42, attributes := #[] }])
  fields := #[{ name := "FILE_NAME", type := (.object "java/lang/String"), accessFlags := 24, slot := 0, constantValue := 0 }, { name := "TEMPORARY_NAME", type := (.object "java/lang/String"), accessFlags := 24, slot := 1, constantValue := 0 }, { name := "PARTITION_PREFIX", type := (.object "java/lang/String"), accessFlags := 24, slot := 2, constantValue := 0 }, { name := "MAGIC", type := (.array .byte), accessFlags := 24, slot := 3, constantValue := 0 }, { name := "VERSION", type := .int, accessFlags := 24, slot := 4, constantValue := 0 }, { name := "HEADER_SIZE", type := .int, accessFlags := 24, slot := 5, constantValue := 0 }, { name := "INTS_PER_DOCUMENT", type := .int, accessFlags := 24, slot := 6, constantValue := 0 }, { name := "MAX_VARINT_SIZE", type := .int, accessFlags := 24, slot := 7, constantValue := 0 }, { name := "POSTINGS_PER_BLOCK", type := .int, accessFlags := 24, slot := 8, constantValue := 0 }, { name := "MAX_BLOCK_SIZE", type := .int, accessFlags := 24, slot := 9, constantValue := 0 }]
  methods := #[k2m0, k2m1]
  instanceTypes := #[]
  staticTypes := #[(.object "java/lang/String"), (.object "java/lang/String"), (.object "java/lang/String"), (.array .byte), .int, .int, .int, .int, .int, .int]
  resolved := Array.replicate 75 none
  statics := none }

def pool3 : Array CpInfo := pool [(1, u "java/lang/Cloneable"), (0, .class_ 1), (0, u "java/lang/Object"), (0, .class_ 3)] 3

/-- java/lang/Cloneable -/
def k3 : Class := { plain "java/lang/Cloneable" (some 0) with
  accessFlags := 1537
  interfaces := #[]
  cf := some (fileOf pool3 2 #[] #[] 1537 4 #[] #[])
  fields := #[]
  methods := #[]
  instanceTypes := #[]
  staticTypes := #[]
  resolved := Array.replicate 8 none
  statics := none }

def pool4 : Array CpInfo := pool [(1, u "java/io/Serializable"), (0, .class_ 1), (0, u "java/lang/Object"), (0, .class_ 3)] 3

/-- java/io/Serializable -/
def k4 : Class := { plain "java/io/Serializable" (some 0) with
  accessFlags := 1537
  interfaces := #[]
  cf := some (fileOf pool4 2 #[] #[] 1537 4 #[] #[])
  fields := #[]
  methods := #[]
  instanceTypes := #[]
  staticTypes := #[]
  resolved := Array.replicate 8 none
  statics := none }

/-- the primitive byte -/
def k5 : Class := { plain "byte" none with kind := .primitive 'B', accessFlags := 0x411 }
/-- [B -/
def k6 : Class := { plain "[B" (some 0) with kind := .array 5 .byte, interfaces := #[3, 4], accessFlags := 1041 }

/-- the primitive int -/
def k7 : Class := { plain "int" none with kind := .primitive 'I', accessFlags := 0x411 }
/-- [I -/
def k8 : Class := { plain "[I" (some 0) with kind := .array 7 .int, interfaces := #[3, 4], accessFlags := 1041 }

def heap : Heap := #[]
def classes : Array Class := #[k0, k1, k2, k3, k4, k5, k6, k7, k8]
def interned : List (Array UInt16 × Addr) := []
def slotsUsed : Nat := 0
def theMethod : MethodId := ⟨1, 1⟩
def args0 : Array Value := #[.long 5, .int 6, .int 7, .int 8]
def aboutOver (below : List Frame) : State where
  vm := { classes := classes, interned := interned.toArray }
  heap := heap
  slotsUsed := slotsUsed
  threads := #[{ frames := .invoking theMethod args0 :: below }]
def below0 : List Frame := [.native { method := ⟨0, 0⟩, args := #[] }]
def about1 : State := aboutOver below0
def p0 : Program := .bare "" "" ""
def e0 : Env := launch0.env 0 0 0
theorem w_frames : about1.frames = Frame.invoking theMethod args0 :: below0 := rfl
set_option maxRecDepth 65536 in
theorem w_args : argsFit about1.vm theMethod args0 = true := by decide +kernel
set_option maxRecDepth 65536 in
theorem w_heap : heapFits about1 = true := by decide +kernel
set_option maxRecDepth 65536 in
theorem w_runnable : about1.curStatus? = some .runnable := by decide +kernel
set_option maxRecDepth 65536 in
theorem w_alone : about1.alone = true := by decide +kernel
set_option maxRecDepth 65536 in
theorem w_named : about1.methodNamed? x = some theMethod := by decide +kernel
set_option maxRecDepth 65536 in
theorem w_hears : about1.hears theMethod below0 = true := by decide +kernel
set_option maxRecDepth 65536 in
theorem w_ripe : about1.ripe theMethod args0 below0 = true := by decide +kernel
theorem w_running : about1.status = .running := rfl
set_option maxRecDepth 65536 in
theorem w_room : about1.hasRoom e0.platform room_1 = true :=
  launch0.hasRoom_least _ room_1 (by decide +kernel) (by decide +kernel) (by decide +kernel) (by decide +kernel) (by decide +kernel) (by decide +kernel)
theorem allAtoms_all (ts : List Jvm.Cond) (a : Array Jvm.Value) (st : Jvm.State) : (allAtoms ts).before a st = ts.all (fun c => c.before a st) := by
  induction ts with
  | nil => rfl
  | cons c t ih =>
    show (Jvm.Cond.and c (allAtoms t)).before a st = _
    rw [Jvm.Cond.before_and, ih, List.all_cons]
def words1 : List Jvm.Cond := Jvm.Cond.code x code maxLocals ret :: tables_1
/-- a 'code' word, met by the world's own term for the bytes: nothing is compared byte by byte -/
theorem code_word {y : MethodName} {bytes : ByteArray} {mx : Nat} {rt : Option FieldType} {a : Array Value} {s : State} {m : MethodId} {meth : Method} {c : Code} (h1 : s.methodNamed? y = some m) (h2 : s.vm.method? m = some meth) (h3 : meth.code = some c) (h4 : c.code = bytes)
    (h5 : (c.maxLocals == mx && c.exceptionTable.isEmpty && decide (c.maxStack ≤ mostOperands) && decide (meth.sig.returnType = rt) && !meth.locks && decide (parseMethodDescriptor y.desc = some meth.sig)) = true) : (Jvm.Cond.code y bytes mx rt).before a s = true := by
  simp only [Bool.and_eq_true, beq_iff_eq, Bool.not_eq_true', decide_eq_true_eq] at h5
  obtain ⟨⟨⟨⟨⟨g1, g2⟩, g3⟩, g4⟩, g5⟩, g6⟩ := h5
  simp [Cond.before, Cond.holds, Cond.value, h1, h2, h3, h4, g1, g2, g3, g4, g5, g6]
def isCode : Jvm.Cond → Bool
  | .code _ _ _ _ => true
  | _ => false
theorem all_split {L : List Jvm.Cond} {P : Jvm.Cond → Bool} (h1 : L.all (fun c => isCode c || P c) = true) (h2 : ∀ c ∈ L.filter isCode, P c = true) : L.all P = true := by
  refine List.all_eq_true.mpr fun c hc => ?_
  have h := List.all_eq_true.mp h1 c hc
  rcases Bool.eq_false_or_eq_true (isCode c) with hi | hi
  · exact h2 c (List.mem_filter.mpr ⟨hc, hi⟩)
  · simpa [hi] using h
set_option maxRecDepth 65536 in
theorem w_c0 : (Jvm.Cond.code x code maxLocals ret).before args0 about1 = true := code_word (m := ⟨1, 1⟩) (meth := k1m1) (c := k1c1) (by decide +kernel) rfl rfl rfl (by decide +kernel)
set_option maxRecDepth 65536 in
theorem w_c1 : (Jvm.Cond.code ({ cls := "com/example/skorr/skorr/index/IndexFormatWriteVarintPinLaw", name := "length", desc := "(J)I" } : Jvm.MethodName) method_3_code (2 : Nat) (Option.some Jvm.ClassFile.FieldType.int)).before args0 about1 = true := code_word (m := ⟨1, 2⟩) (meth := k1m2) (c := k1c2) (by decide +kernel) rfl rfl rfl (by decide +kernel)
set_option maxRecDepth 65536 in
theorem w_c2 : (Jvm.Cond.code ({ cls := "com/example/skorr/skorr/index/IndexFormat", name := "writeVarint", desc := "(J[BI)I" } : Jvm.MethodName) prog_13_method_4_code (7 : Nat) (Option.some Jvm.ClassFile.FieldType.int)).before args0 about1 = true := code_word (m := ⟨2, 1⟩) (meth := k2m1) (c := k2c1) (by decide +kernel) rfl rfl rfl (by decide +kernel)
set_option maxRecDepth 65536 in
theorem w_c3 : (Jvm.Cond.code ({ cls := "com/example/skorr/skorr/index/IndexFormatWriteVarintPinLaw", name := "check", desc := "([BIIJIB)Z" } : Jvm.MethodName) method_4_code (10 : Nat) (Option.some Jvm.ClassFile.FieldType.boolean)).before args0 about1 = true := code_word (m := ⟨1, 3⟩) (meth := k1m3) (c := k1c3) (by decide +kernel) rfl rfl rfl (by decide +kernel)
def codes1 : List Jvm.Cond := [Jvm.Cond.code x code maxLocals ret, Jvm.Cond.code ({ cls := "com/example/skorr/skorr/index/IndexFormatWriteVarintPinLaw", name := "length", desc := "(J)I" } : Jvm.MethodName) method_3_code (2 : Nat) (Option.some Jvm.ClassFile.FieldType.int), Jvm.Cond.code ({ cls := "com/example/skorr/skorr/index/IndexFormat", name := "writeVarint", desc := "(J[BI)I" } : Jvm.MethodName) prog_13_method_4_code (7 : Nat) (Option.some Jvm.ClassFile.FieldType.int), Jvm.Cond.code ({ cls := "com/example/skorr/skorr/index/IndexFormatWriteVarintPinLaw", name := "check", desc := "([BIIJIB)Z" } : Jvm.MethodName) method_4_code (10 : Nat) (Option.some Jvm.ClassFile.FieldType.boolean)]
set_option maxRecDepth 65536 in
theorem codes_eq : words1.filter isCode = codes1 := rfl
theorem w_codes : ∀ c ∈ words1.filter isCode, c.before args0 about1 = true := by
  rw [codes_eq]
  intro c hc
  simp only [codes1, List.mem_cons, List.not_mem_nil, or_false] at hc
  rcases hc with rfl | rfl | rfl | rfl
  · exact w_c0
  · exact w_c1
  · exact w_c2
  · exact w_c3
set_option maxRecDepth 65536 in
theorem w_t1 : words1.all (fun c => isCode c || c.before args0 about1) = true := by decide +kernel
theorem w_tables : (allAtoms (Jvm.Cond.code x code maxLocals ret :: tables_1)).before args0 about1 = true := by
  rw [allAtoms_all]
  show words1.all (fun c => c.before args0 about1) = true
  refine all_split ?_ w_codes
  rw [w_t1]
set_option maxRecDepth 65536 in
theorem w_case : (Jvm.Cond.and given_1 narrow_1).before args0 about1 = true := by decide +kernel
theorem w_applies : (headSpec (Jvm.Cond.code x code maxLocals ret :: tables_1) room_1).applies x e0.platform about1 = true :=
  (Spec.applies_iff w_frames).mpr ⟨w_running, w_runnable, w_alone, w_named, w_hears, w_ripe, w_room, w_tables⟩
theorem atStart : AtStart classFile x code maxLocals ret World_1 tables_1 room_1 Calls_1 rest_1 Pre_1 launch0 p0 e0 about1 theMethod args0 below0 :=
  ⟨lists_1, trivial, launch0.admits_env _ _ _, launch0.least_env, fairChoices_fair.cas, fairChoices_fair.clock, w_frames, w_args, w_heap, w_applies, trivial, trivial, w_case⟩
end start1
theorem witness_1 : WitnessClaimed_1 := ⟨start1.p0, start1.e0, start1.about1, start1.theMethod, start1.args0, start1.below0, start1.atStart⟩
end Jvm.Pilot.@@N@@
