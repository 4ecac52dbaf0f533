import JvmDerived
import JvmDerived.Pilot.@@N@@Statement
import JvmDerived.Pilot.@@N@@Code
set_option linter.unusedVariables false
set_option linter.unusedSimpArgs false

namespace Jvm.RoadKit
open Sem ClassFile Op Lib Jvm.Stand Jvm.Free Jvm.LawKit
section New
variable {p : Program} {l : Launch} {e : Env} {R : Room} {s : State} {m : MethodId} {args : Array Value} {below : List Frame} {meth : Method} {c : Code} {T : State} {locs : List Loc} {cells slots : Nat}
theorem retI (X : Stand p l e R s m args below meth c T locs cells slots) (hx : p.tables.exec = Jvm.exec) {pc : Nat} {Ls : Array Slot} {z : Int32} {rest : List Value} (hret : meth.sig.returnType = some .int) (hd : decode c.code pc = .ok (.ireturn, 1)) {fs : List Frame}
    (hl : ∀ (f : JFrame) (acts : List Action), f.method = m → f.locked = none → f.entered = [] → (doReturn e (T.setTop f) acts (some (.int z))).1 = T.setFrames fs) : Steps p.tables e below (T.setTop (mkF m pc Ls (.int z :: rest))) (T.setFrames fs) := by
  have hm' : T.vm.method? m = some meth := X.method'
  have hn : narrow .int (.int z) = .int z := rfl
  show Steps p.tables e below (T.setTop { method := m, pc := pc, locals := Ls, stack := _ :: rest, locked := none }) _
  jvm_step X.here [X.here.top, hx, hd, hm', hret, hn]
  first | (intro acts; rw [hl _ acts rfl rfl rfl]) | rw [hl _ _ rfl rfl rfl]
  exact Steps.refl _
theorem retL (X : Stand p l e R s m args below meth c T locs cells slots) (hx : p.tables.exec = Jvm.exec) {pc : Nat} {Ls : Array Slot} {z : Int64} {rest : List Value} (hret : meth.sig.returnType = some .long) (hd : decode c.code pc = .ok (.lreturn, 1)) {fs : List Frame}
    (hl : ∀ (f : JFrame) (acts : List Action), f.method = m → f.locked = none → f.entered = [] → (doReturn e (T.setTop f) acts (some (.long z))).1 = T.setFrames fs) : Steps p.tables e below (T.setTop (mkF m pc Ls (.long z :: rest))) (T.setFrames fs) := by
  have hm' : T.vm.method? m = some meth := X.method'
  have hn : narrow .long (.long z) = .long z := rfl
  show Steps p.tables e below (T.setTop { method := m, pc := pc, locals := Ls, stack := _ :: rest, locked := none }) _
  jvm_step X.here [X.here.top, hx, hd, hm', hret, hn]
  first | (intro acts; rw [hl _ acts rfl rfl rfl]) | rw [hl _ _ rfl rfl rfl]
  exact Steps.refl _
end New
end Jvm.RoadKit
namespace Jvm.Pilot.@@N@@
open Jvm Jvm.ClassFile Sem Op Lib Jvm.Free Jvm.Stand Jvm.LawKit Jvm.RoadKit Bundle Jvm.Pilot.@@N@@.Jvm.D
/-- from here the run comes to an end of which W holds -/
def own_Go (p : Program) (e : Env) (below : List Frame) (W : State → Outcome → Prop) (T : State) (g : JFrame) : Prop :=
  ∃ s₂ o, Steps p.tables e below (T.setTop g) s₂ ∧ s₂.status = .running ∧ Ended s₂ below o ∧ W s₂ o
theorem own_Go.of {p : Program} {e : Env} {below : List Frame} {W : State → Outcome → Prop} {T T' : State} {g g' : JFrame} (f : ∀ t, Steps p.tables e below (T'.setTop g') t → Steps p.tables e below (T.setTop g) t) (k : own_Go p e below W T' g') : own_Go p e below W T g := by
  obtain ⟨s₂, o, h1, h2⟩ := k
  exact ⟨s₂, o, f _ h1, h2⟩
theorem own_hide {p : Program} {l : Launch} {e : Env} {R : Room} {s : State} {m : MethodId} {args : Array Value} {below : List Frame} {meth : Method} {c : Code} {T : State} {locs : List Loc} {cells slots : Nat} (X : Stand p l e R s m args below meth c T locs cells slots) {k : Nat} (N : Fr k locs) : ∃ L, Stand p l e R s m args below meth c T L cells slots ∧ Fr k L := ⟨_, X, N⟩
theorem own_via {G A : Prop} (h1 : A → G) (h2 : A) : G := h1 h2
section OwnSteps
variable {p : Program} {l : Launch} {e : Env} {R : Room} {s : State} {m : MethodId} {args : Array Value} {below : List Frame} {meth : Method} {c : Code} {T : State} {locs : List Loc} {cells slots : Nat} {W : State → Outcome → Prop} {pc pc' : Nat} {L : Array Slot} {S : List Value}
theorem og_iloadN (X : Stand p l e R s m args below meth c T locs cells slots) (hx : p.tables.exec = Jvm.exec) {k : Fin 4} {v : Int32} (hd : decode c.code pc = .ok (.iload_n k, 1)) (hl : L[k.val]? = some (.val (.int v))) (hp : pc + 1 = pc') (h : own_Go p e below W T (mkF m pc' L ((.int v) :: S))) : own_Go p e below W T (mkF m pc L S) := by
  subst hp; exact own_Go.of (fun t q => XS.iloadN X.here hx rfl hd hl q) h
theorem og_iload (X : Stand p l e R s m args below meth c T locs cells slots) (hx : p.tables.exec = Jvm.exec) {k : Nat} {v : Int32} (hd : decode c.code pc = .ok (.iload k, 2)) (hl : L[k]? = some (.val (.int v))) (hp : pc + 2 = pc') (h : own_Go p e below W T (mkF m pc' L ((.int v) :: S))) : own_Go p e below W T (mkF m pc L S) := by
  subst hp; exact own_Go.of (fun t q => XS.iload X.here hx rfl hd hl q) h
theorem og_istoreN (X : Stand p l e R s m args below meth c T locs cells slots) (hx : p.tables.exec = Jvm.exec) {k : Fin 4} {v : Int32} {L' : Array Slot} (hd : decode c.code pc = .ok (.istore_n k, 1)) (hl : storeLocals L k.val (.int v) = some L') (hp : pc + 1 = pc') (h : own_Go p e below W T (mkF m pc' L' S)) : own_Go p e below W T (mkF m pc L ((.int v) :: S)) := by
  subst hp; exact own_Go.of (fun t q => XS.istoreN X.here hx rfl hd rfl hl q) h
theorem og_istore (X : Stand p l e R s m args below meth c T locs cells slots) (hx : p.tables.exec = Jvm.exec) {k : Nat} {v : Int32} {L' : Array Slot} (hd : decode c.code pc = .ok (.istore k, 2)) (hl : storeLocals L k (.int v) = some L') (hp : pc + 2 = pc') (h : own_Go p e below W T (mkF m pc' L' S)) : own_Go p e below W T (mkF m pc L ((.int v) :: S)) := by
  subst hp; exact own_Go.of (fun t q => XS.istore X.here hx rfl hd rfl hl q) h
theorem og_lloadN (X : Stand p l e R s m args below meth c T locs cells slots) (hx : p.tables.exec = Jvm.exec) {k : Fin 4} {v : Int64} (hd : decode c.code pc = .ok (.lload_n k, 1)) (hl : L[k.val]? = some (.val (.long v))) (hp : pc + 1 = pc') (h : own_Go p e below W T (mkF m pc' L ((.long v) :: S))) : own_Go p e below W T (mkF m pc L S) := by
  subst hp; exact own_Go.of (fun t q => XS.lloadN X.here hx rfl hd hl q) h
theorem og_lload (X : Stand p l e R s m args below meth c T locs cells slots) (hx : p.tables.exec = Jvm.exec) {k : Nat} {v : Int64} (hd : decode c.code pc = .ok (.lload k, 2)) (hl : L[k]? = some (.val (.long v))) (hp : pc + 2 = pc') (h : own_Go p e below W T (mkF m pc' L ((.long v) :: S))) : own_Go p e below W T (mkF m pc L S) := by
  subst hp; exact own_Go.of (fun t q => XS.lload X.here hx rfl hd hl q) h
theorem og_lstoreN (X : Stand p l e R s m args below meth c T locs cells slots) (hx : p.tables.exec = Jvm.exec) {k : Fin 4} {v : Int64} {L' : Array Slot} (hd : decode c.code pc = .ok (.lstore_n k, 1)) (hl : storeLocals L k.val (.long v) = some L') (hp : pc + 1 = pc') (h : own_Go p e below W T (mkF m pc' L' S)) : own_Go p e below W T (mkF m pc L ((.long v) :: S)) := by
  subst hp; exact own_Go.of (fun t q => XS.lstoreN X.here hx rfl hd rfl hl q) h
theorem og_lstore (X : Stand p l e R s m args below meth c T locs cells slots) (hx : p.tables.exec = Jvm.exec) {k : Nat} {v : Int64} {L' : Array Slot} (hd : decode c.code pc = .ok (.lstore k, 2)) (hl : storeLocals L k (.long v) = some L') (hp : pc + 2 = pc') (h : own_Go p e below W T (mkF m pc' L' S)) : own_Go p e below W T (mkF m pc L ((.long v) :: S)) := by
  subst hp; exact own_Go.of (fun t q => XS.lstore X.here hx rfl hd rfl hl q) h
theorem og_aloadN (X : Stand p l e R s m args below meth c T locs cells slots) (hx : p.tables.exec = Jvm.exec) {k : Fin 4} {v : Value} (hd : decode c.code pc = .ok (.aload_n k, 1)) (hl : L[k.val]? = some (.val v)) (hv : v.isRef = true) (hp : pc + 1 = pc') (h : own_Go p e below W T (mkF m pc' L (v :: S))) : own_Go p e below W T (mkF m pc L S) := by
  subst hp; exact own_Go.of (fun t q => XS.aloadN X.here hx rfl hd hl hv q) h
theorem og_aload (X : Stand p l e R s m args below meth c T locs cells slots) (hx : p.tables.exec = Jvm.exec) {k : Nat} {v : Value} (hd : decode c.code pc = .ok (.aload k, 2)) (hl : L[k]? = some (.val v)) (hv : v.isRef = true) (hp : pc + 2 = pc') (h : own_Go p e below W T (mkF m pc' L (v :: S))) : own_Go p e below W T (mkF m pc L S) := by
  subst hp; exact own_Go.of (fun t q => XS.aload X.here hx rfl hd hl hv q) h
theorem og_astoreN (X : Stand p l e R s m args below meth c T locs cells slots) (hx : p.tables.exec = Jvm.exec) {k : Fin 4} {v : Value} {L' : Array Slot} (hd : decode c.code pc = .ok (.astore_n k, 1)) (hv : v.isRef = true) (hl : storeLocals L k.val v = some L') (hp : pc + 1 = pc') (h : own_Go p e below W T (mkF m pc' L' S)) : own_Go p e below W T (mkF m pc L (v :: S)) := by
  subst hp; exact own_Go.of (fun t q => XS.astoreN X.here hx rfl hd rfl hv hl q) h
theorem og_astore (X : Stand p l e R s m args below meth c T locs cells slots) (hx : p.tables.exec = Jvm.exec) {k : Nat} {v : Value} {L' : Array Slot} (hd : decode c.code pc = .ok (.astore k, 2)) (hv : v.isRef = true) (hl : storeLocals L k v = some L') (hp : pc + 2 = pc') (h : own_Go p e below W T (mkF m pc' L' S)) : own_Go p e below W T (mkF m pc L (v :: S)) := by
  subst hp; exact own_Go.of (fun t q => XS.astore X.here hx rfl hd rfl hv hl q) h
theorem og_iconst (X : Stand p l e R s m args below meth c T locs cells slots) (hx : p.tables.exec = Jvm.exec) {i : Int} {n : Int32} (hd : decode c.code pc = .ok (.iconst i, 1)) (hn : Int32.ofInt i = n) (hp : pc + 1 = pc') (h : own_Go p e below W T (mkF m pc' L (.int n :: S))) : own_Go p e below W T (mkF m pc L S) := by
  subst hp hn; exact own_Go.of (fun t q => XS.iconst X.here hx rfl hd q) h
theorem og_bipush (X : Stand p l e R s m args below meth c T locs cells slots) (hx : p.tables.exec = Jvm.exec) {i : Int} {n : Int32} (hd : decode c.code pc = .ok (.bipush i, 2)) (hn : (Int8.ofInt i).toInt32 = n) (hp : pc + 2 = pc') (h : own_Go p e below W T (mkF m pc' L (.int n :: S))) : own_Go p e below W T (mkF m pc L S) := by
  subst hp hn; exact own_Go.of (fun t q => XS.bipush X.here hx rfl hd q) h
theorem og_sipush (X : Stand p l e R s m args below meth c T locs cells slots) (hx : p.tables.exec = Jvm.exec) {i : Int} {n : Int32} (hd : decode c.code pc = .ok (.sipush i, 3)) (hn : (Int16.ofInt i).toInt32 = n) (hp : pc + 3 = pc') (h : own_Go p e below W T (mkF m pc' L (.int n :: S))) : own_Go p e below W T (mkF m pc L S) := by
  subst hp hn; exact own_Go.of (fun t q => XS.sipush X.here hx rfl hd q) h
theorem og_lconst0 (X : Stand p l e R s m args below meth c T locs cells slots) (hx : p.tables.exec = Jvm.exec) (hd : decode c.code pc = .ok (.lconst 0, 1)) (hp : pc + 1 = pc') (h : own_Go p e below W T (mkF m pc' L (.long (0 : Int64) :: S))) : own_Go p e below W T (mkF m pc L S) := by
  subst hp; exact own_Go.of (fun t q => XS.lconst X.here hx rfl hd q) h
theorem og_lconst1 (X : Stand p l e R s m args below meth c T locs cells slots) (hx : p.tables.exec = Jvm.exec) (hd : decode c.code pc = .ok (.lconst 1, 1)) (hp : pc + 1 = pc') (h : own_Go p e below W T (mkF m pc' L (.long (1 : Int64) :: S))) : own_Go p e below W T (mkF m pc L S) := by
  subst hp; exact own_Go.of (fun t q => XS.lconst X.here hx rfl hd q) h
theorem og_aconst_null (X : Stand p l e R s m args below meth c T locs cells slots) (hx : p.tables.exec = Jvm.exec)  (hd : decode c.code pc = .ok (.aconst_null, 1)) (hp : pc + 1 = pc') (h : own_Go p e below W T (mkF m pc' L (.null :: S))) : own_Go p e below W T (mkF m pc L S) := by
  subst hp; exact own_Go.of (fun t q => XS.aconstNull X.here hx rfl hd q) h
theorem og_iadd (X : Stand p l e R s m args below meth c T locs cells slots) (hx : p.tables.exec = Jvm.exec) {x y : Int32} (hd : decode c.code pc = .ok (.iadd, 1)) (hp : pc + 1 = pc') (h : own_Go p e below W T (mkF m pc' L (.int (x + y) :: S))) : own_Go p e below W T (mkF m pc L (.int y :: .int x :: S)) := by
  subst hp; exact own_Go.of (fun t q => XS.iadd X.here hx rfl hd rfl q) h
theorem og_ladd (X : Stand p l e R s m args below meth c T locs cells slots) (hx : p.tables.exec = Jvm.exec) {x y : Int64} (hd : decode c.code pc = .ok (.ladd, 1)) (hp : pc + 1 = pc') (h : own_Go p e below W T (mkF m pc' L (.long (x + y) :: S))) : own_Go p e below W T (mkF m pc L (.long y :: .long x :: S)) := by
  subst hp; exact own_Go.of (fun t q => XS.ladd X.here hx rfl hd rfl q) h
theorem og_isub (X : Stand p l e R s m args below meth c T locs cells slots) (hx : p.tables.exec = Jvm.exec) {x y : Int32} (hd : decode c.code pc = .ok (.isub, 1)) (hp : pc + 1 = pc') (h : own_Go p e below W T (mkF m pc' L (.int (x - y) :: S))) : own_Go p e below W T (mkF m pc L (.int y :: .int x :: S)) := by
  subst hp; exact own_Go.of (fun t q => XS.isub X.here hx rfl hd rfl q) h
theorem og_lsub (X : Stand p l e R s m args below meth c T locs cells slots) (hx : p.tables.exec = Jvm.exec) {x y : Int64} (hd : decode c.code pc = .ok (.lsub, 1)) (hp : pc + 1 = pc') (h : own_Go p e below W T (mkF m pc' L (.long (x - y) :: S))) : own_Go p e below W T (mkF m pc L (.long y :: .long x :: S)) := by
  subst hp; exact own_Go.of (fun t q => XS.lsub X.here hx rfl hd rfl q) h
theorem og_imul (X : Stand p l e R s m args below meth c T locs cells slots) (hx : p.tables.exec = Jvm.exec) {x y : Int32} (hd : decode c.code pc = .ok (.imul, 1)) (hp : pc + 1 = pc') (h : own_Go p e below W T (mkF m pc' L (.int (x * y) :: S))) : own_Go p e below W T (mkF m pc L (.int y :: .int x :: S)) := by
  subst hp; exact own_Go.of (fun t q => XS.imul X.here hx rfl hd rfl q) h
theorem og_lmul (X : Stand p l e R s m args below meth c T locs cells slots) (hx : p.tables.exec = Jvm.exec) {x y : Int64} (hd : decode c.code pc = .ok (.lmul, 1)) (hp : pc + 1 = pc') (h : own_Go p e below W T (mkF m pc' L (.long (x * y) :: S))) : own_Go p e below W T (mkF m pc L (.long y :: .long x :: S)) := by
  subst hp; exact own_Go.of (fun t q => XS.lmul X.here hx rfl hd rfl q) h
theorem og_iand (X : Stand p l e R s m args below meth c T locs cells slots) (hx : p.tables.exec = Jvm.exec) {x y : Int32} (hd : decode c.code pc = .ok (.iand, 1)) (hp : pc + 1 = pc') (h : own_Go p e below W T (mkF m pc' L (.int (x &&& y) :: S))) : own_Go p e below W T (mkF m pc L (.int y :: .int x :: S)) := by
  subst hp; exact own_Go.of (fun t q => XS.iand X.here hx rfl hd rfl q) h
theorem og_land (X : Stand p l e R s m args below meth c T locs cells slots) (hx : p.tables.exec = Jvm.exec) {x y : Int64} (hd : decode c.code pc = .ok (.land, 1)) (hp : pc + 1 = pc') (h : own_Go p e below W T (mkF m pc' L (.long (x &&& y) :: S))) : own_Go p e below W T (mkF m pc L (.long y :: .long x :: S)) := by
  subst hp; exact own_Go.of (fun t q => XS.land X.here hx rfl hd rfl q) h
theorem og_ior (X : Stand p l e R s m args below meth c T locs cells slots) (hx : p.tables.exec = Jvm.exec) {x y : Int32} (hd : decode c.code pc = .ok (.ior, 1)) (hp : pc + 1 = pc') (h : own_Go p e below W T (mkF m pc' L (.int (x ||| y) :: S))) : own_Go p e below W T (mkF m pc L (.int y :: .int x :: S)) := by
  subst hp; exact own_Go.of (fun t q => XS.ior X.here hx rfl hd rfl q) h
theorem og_lor (X : Stand p l e R s m args below meth c T locs cells slots) (hx : p.tables.exec = Jvm.exec) {x y : Int64} (hd : decode c.code pc = .ok (.lor, 1)) (hp : pc + 1 = pc') (h : own_Go p e below W T (mkF m pc' L (.long (x ||| y) :: S))) : own_Go p e below W T (mkF m pc L (.long y :: .long x :: S)) := by
  subst hp; exact own_Go.of (fun t q => XS.lor X.here hx rfl hd rfl q) h
theorem og_ixor (X : Stand p l e R s m args below meth c T locs cells slots) (hx : p.tables.exec = Jvm.exec) {x y : Int32} (hd : decode c.code pc = .ok (.ixor, 1)) (hp : pc + 1 = pc') (h : own_Go p e below W T (mkF m pc' L (.int (x ^^^ y) :: S))) : own_Go p e below W T (mkF m pc L (.int y :: .int x :: S)) := by
  subst hp; exact own_Go.of (fun t q => XS.ixor X.here hx rfl hd rfl q) h
theorem og_lxor (X : Stand p l e R s m args below meth c T locs cells slots) (hx : p.tables.exec = Jvm.exec) {x y : Int64} (hd : decode c.code pc = .ok (.lxor, 1)) (hp : pc + 1 = pc') (h : own_Go p e below W T (mkF m pc' L (.long (x ^^^ y) :: S))) : own_Go p e below W T (mkF m pc L (.long y :: .long x :: S)) := by
  subst hp; exact own_Go.of (fun t q => XS.lxor X.here hx rfl hd rfl q) h
theorem og_ineg (X : Stand p l e R s m args below meth c T locs cells slots) (hx : p.tables.exec = Jvm.exec) {x : Int32} (hd : decode c.code pc = .ok (.ineg, 1)) (hp : pc + 1 = pc') (h : own_Go p e below W T (mkF m pc' L (.int (-x) :: S))) : own_Go p e below W T (mkF m pc L (.int x :: S)) := by
  subst hp; exact own_Go.of (fun t q => XS.ineg X.here hx rfl hd rfl q) h
theorem og_lneg (X : Stand p l e R s m args below meth c T locs cells slots) (hx : p.tables.exec = Jvm.exec) {x : Int64} (hd : decode c.code pc = .ok (.lneg, 1)) (hp : pc + 1 = pc') (h : own_Go p e below W T (mkF m pc' L (.long (-x) :: S))) : own_Go p e below W T (mkF m pc L (.long x :: S)) := by
  subst hp; exact own_Go.of (fun t q => XS.lneg X.here hx rfl hd rfl q) h
theorem og_i2l (X : Stand p l e R s m args below meth c T locs cells slots) (hx : p.tables.exec = Jvm.exec) {x : Int32} (hd : decode c.code pc = .ok (.i2l, 1)) (hp : pc + 1 = pc') (h : own_Go p e below W T (mkF m pc' L (.long (x.toInt64) :: S))) : own_Go p e below W T (mkF m pc L (.int x :: S)) := by
  subst hp; exact own_Go.of (fun t q => XS.i2l X.here hx rfl hd rfl q) h
theorem og_l2i (X : Stand p l e R s m args below meth c T locs cells slots) (hx : p.tables.exec = Jvm.exec) {x : Int64} (hd : decode c.code pc = .ok (.l2i, 1)) (hp : pc + 1 = pc') (h : own_Go p e below W T (mkF m pc' L (.int (x.toInt32) :: S))) : own_Go p e below W T (mkF m pc L (.long x :: S)) := by
  subst hp; exact own_Go.of (fun t q => XS.l2i X.here hx rfl hd rfl q) h
theorem og_i2b (X : Stand p l e R s m args below meth c T locs cells slots) (hx : p.tables.exec = Jvm.exec) {x : Int32} (hd : decode c.code pc = .ok (.i2b, 1)) (hp : pc + 1 = pc') (h : own_Go p e below W T (mkF m pc' L (.int (x.toInt8.toInt32) :: S))) : own_Go p e below W T (mkF m pc L (.int x :: S)) := by
  subst hp; exact own_Go.of (fun t q => XS.i2b X.here hx rfl hd rfl q) h
theorem og_i2s (X : Stand p l e R s m args below meth c T locs cells slots) (hx : p.tables.exec = Jvm.exec) {x : Int32} (hd : decode c.code pc = .ok (.i2s, 1)) (hp : pc + 1 = pc') (h : own_Go p e below W T (mkF m pc' L (.int (x.toInt16.toInt32) :: S))) : own_Go p e below W T (mkF m pc L (.int x :: S)) := by
  subst hp; exact own_Go.of (fun t q => XS.i2s X.here hx rfl hd rfl q) h
theorem og_i2c (X : Stand p l e R s m args below meth c T locs cells slots) (hx : p.tables.exec = Jvm.exec) {x : Int32} (hd : decode c.code pc = .ok (.i2c, 1)) (hp : pc + 1 = pc') (h : own_Go p e below W T (mkF m pc' L (.int (x.toUInt32.toUInt16.toUInt32.toInt32) :: S))) : own_Go p e below W T (mkF m pc L (.int x :: S)) := by
  subst hp; exact own_Go.of (fun t q => XS.i2c X.here hx rfl hd rfl q) h
theorem og_ishl (X : Stand p l e R s m args below meth c T locs cells slots) (hx : p.tables.exec = Jvm.exec) {x : Int32} {y : Int32} (hd : decode c.code pc = .ok (.ishl, 1)) (hp : pc + 1 = pc') (h : own_Go p e below W T (mkF m pc' L (.int (x <<< (y &&& 31)) :: S))) : own_Go p e below W T (mkF m pc L (.int y :: .int x :: S)) := by
  subst hp; exact own_Go.of (fun t q => XS.ishl X.here hx rfl hd rfl q) h
theorem og_ishr (X : Stand p l e R s m args below meth c T locs cells slots) (hx : p.tables.exec = Jvm.exec) {x : Int32} {y : Int32} (hd : decode c.code pc = .ok (.ishr, 1)) (hp : pc + 1 = pc') (h : own_Go p e below W T (mkF m pc' L (.int (x >>> (y &&& 31)) :: S))) : own_Go p e below W T (mkF m pc L (.int y :: .int x :: S)) := by
  subst hp; exact own_Go.of (fun t q => XS.ishr X.here hx rfl hd rfl q) h
theorem og_iushr (X : Stand p l e R s m args below meth c T locs cells slots) (hx : p.tables.exec = Jvm.exec) {x : Int32} {y : Int32} (hd : decode c.code pc = .ok (.iushr, 1)) (hp : pc + 1 = pc') (h : own_Go p e below W T (mkF m pc' L (.int ((x.toUInt32 >>> (y &&& 31).toUInt32).toInt32) :: S))) : own_Go p e below W T (mkF m pc L (.int y :: .int x :: S)) := by
  subst hp; exact own_Go.of (fun t q => XS.iushr X.here hx rfl hd rfl q) h
theorem og_lshl (X : Stand p l e R s m args below meth c T locs cells slots) (hx : p.tables.exec = Jvm.exec) {x : Int64} {y : Int32} (hd : decode c.code pc = .ok (.lshl, 1)) (hp : pc + 1 = pc') (h : own_Go p e below W T (mkF m pc' L (.long (x <<< (y &&& 0x3f).toInt64) :: S))) : own_Go p e below W T (mkF m pc L (.int y :: .long x :: S)) := by
  subst hp; exact own_Go.of (fun t q => XS.lshl X.here hx rfl hd rfl q) h
theorem og_lshr (X : Stand p l e R s m args below meth c T locs cells slots) (hx : p.tables.exec = Jvm.exec) {x : Int64} {y : Int32} (hd : decode c.code pc = .ok (.lshr, 1)) (hp : pc + 1 = pc') (h : own_Go p e below W T (mkF m pc' L (.long (x >>> (y &&& 0x3f).toInt64) :: S))) : own_Go p e below W T (mkF m pc L (.int y :: .long x :: S)) := by
  subst hp; exact own_Go.of (fun t q => XS.lshr X.here hx rfl hd rfl q) h
theorem og_lushr (X : Stand p l e R s m args below meth c T locs cells slots) (hx : p.tables.exec = Jvm.exec) {x : Int64} {y : Int32} (hd : decode c.code pc = .ok (.lushr, 1)) (hp : pc + 1 = pc') (h : own_Go p e below W T (mkF m pc' L (.long ((x.toUInt64 >>> (y &&& 0x3f).toInt64.toUInt64).toInt64) :: S))) : own_Go p e below W T (mkF m pc L (.int y :: .long x :: S)) := by
  subst hp; exact own_Go.of (fun t q => XS.lushr X.here hx rfl hd rfl q) h
theorem og_lcmp (X : Stand p l e R s m args below meth c T locs cells slots) (hx : p.tables.exec = Jvm.exec) {x y : Int64} (hd : decode c.code pc = .ok (.lcmp, 1)) (hp : pc + 1 = pc') (h : own_Go p e below W T (mkF m pc' L (.int (lcmpW x y) :: S))) : own_Go p e below W T (mkF m pc L (.long y :: .long x :: S)) := by
  subst hp; exact own_Go.of (fun t q => XS.lcmp X.here hx rfl hd rfl q) h
theorem og_idiv (X : Stand p l e R s m args below meth c T locs cells slots) (hx : p.tables.exec = Jvm.exec) {x y : Int32} (hd : decode c.code pc = .ok (.idiv, 1)) (hy : y ≠ 0) (hp : pc + 1 = pc') (h : own_Go p e below W T (mkF m pc' L (.int (x / y) :: S))) : own_Go p e below W T (mkF m pc L (.int y :: .int x :: S)) := by
  subst hp; exact own_Go.of (fun t q => XS.idiv X.here hx rfl hd rfl hy q) h
theorem og_ldiv (X : Stand p l e R s m args below meth c T locs cells slots) (hx : p.tables.exec = Jvm.exec) {x y : Int64} (hd : decode c.code pc = .ok (.ldiv, 1)) (hy : y ≠ 0) (hp : pc + 1 = pc') (h : own_Go p e below W T (mkF m pc' L (.long (x / y) :: S))) : own_Go p e below W T (mkF m pc L (.long y :: .long x :: S)) := by
  subst hp; exact own_Go.of (fun t q => XS.ldiv X.here hx rfl hd rfl hy q) h
theorem og_irem (X : Stand p l e R s m args below meth c T locs cells slots) (hx : p.tables.exec = Jvm.exec) {x y : Int32} (hd : decode c.code pc = .ok (.irem, 1)) (hy : y ≠ 0) (hp : pc + 1 = pc') (h : own_Go p e below W T (mkF m pc' L (.int (x % y) :: S))) : own_Go p e below W T (mkF m pc L (.int y :: .int x :: S)) := by
  subst hp; exact own_Go.of (fun t q => iremM X hx rfl hd rfl hy q) h
theorem og_lrem (X : Stand p l e R s m args below meth c T locs cells slots) (hx : p.tables.exec = Jvm.exec) {x y : Int64} (hd : decode c.code pc = .ok (.lrem, 1)) (hy : y ≠ 0) (hp : pc + 1 = pc') (h : own_Go p e below W T (mkF m pc' L (.long (x - (x / y) * y) :: S))) : own_Go p e below W T (mkF m pc L (.long y :: .long x :: S)) := by
  subst hp; exact own_Go.of (fun t q => XS.lrem X.here hx rfl hd rfl hy q) h
theorem og_iinc (X : Stand p l e R s m args below meth c T locs cells slots) (hx : p.tables.exec = Jvm.exec) {k : Nat} {z : Int} {v : Int32} {L' : Array Slot} (hd : decode c.code pc = .ok (.iinc k z, 3)) (hl : L[k]? = some (.val (.int v))) (hs : storeLocals L k (.int (v + Int32.ofInt z)) = some L') (hp : pc + 3 = pc') (h : own_Go p e below W T (mkF m pc' L' S)) : own_Go p e below W T (mkF m pc L S) := by
  subst hp; exact own_Go.of (fun t q => XS.iinc X.here hx rfl hd hl hs q) h
theorem og_dup (X : Stand p l e R s m args below meth c T locs cells slots) (hx : p.tables.exec = Jvm.exec) {v : Value} (hd : decode c.code pc = .ok (.dup, 1)) (hc : v.category = 1) (hp : pc + 1 = pc') (h : own_Go p e below W T (mkF m pc' L (v :: v :: S))) : own_Go p e below W T (mkF m pc L (v :: S)) := by
  subst hp; exact own_Go.of (fun t q => XS.dup X.here hx rfl hd rfl hc q) h
theorem og_pop (X : Stand p l e R s m args below meth c T locs cells slots) (hx : p.tables.exec = Jvm.exec) {v : Value} (hd : decode c.code pc = .ok (.pop, 1)) (hc : v.category = 1) (hp : pc + 1 = pc') (h : own_Go p e below W T (mkF m pc' L S)) : own_Go p e below W T (mkF m pc L (v :: S)) := by
  subst hp; exact own_Go.of (fun t q => XS.pop X.here hx rfl hd rfl hc q) h
theorem og_dup_x1 (X : Stand p l e R s m args below meth c T locs cells slots) (hx : p.tables.exec = Jvm.exec) {v w : Value} (hd : decode c.code pc = .ok (.dup_x1, 1)) (hc : v.category = 1) (hc' : w.category = 1) (hp : pc + 1 = pc') (h : own_Go p e below W T (mkF m pc' L (v :: w :: v :: S))) : own_Go p e below W T (mkF m pc L (v :: w :: S)) := by
  subst hp; exact own_Go.of (fun t q => XS.dupX1 X.here hx rfl hd rfl hc hc' q) h
theorem og_goto (X : Stand p l e R s m args below meth c T locs cells slots) (hx : p.tables.exec = Jvm.exec) {o : Int} (hd : decode c.code pc = .ok (.goto o, 3)) (ho : 0 ≤ (pc : Int) + o) (hp : ((pc : Int) + o).toNat = pc') (h : own_Go p e below W T (mkF m pc' L S)) : own_Go p e below W T (mkF m pc L S) := by
  exact own_Go.of (fun t q => XS.goto X.here hx rfl rfl hd ho hp q) h
theorem og_ifYes (X : Stand p l e R s m args below meth c T locs cells slots) (hx : p.tables.exec = Jvm.exec) {cd : ClassFile.Cond} {x : Int32} {o : Int} (hd : decode c.code pc = .ok (.ifCond cd o, 3)) (hc : ifCond.holds cd x = true) (ho : 0 ≤ (pc : Int) + o) (hp : ((pc : Int) + o).toNat = pc') (h : own_Go p e below W T (mkF m pc' L S)) : own_Go p e below W T (mkF m pc L (.int x :: S)) := by
  exact own_Go.of (fun t q => XS.ifYes X.here hx rfl rfl hd rfl hc ho hp q) h
theorem og_ifNo (X : Stand p l e R s m args below meth c T locs cells slots) (hx : p.tables.exec = Jvm.exec) {cd : ClassFile.Cond} {x : Int32} {o : Int} (hd : decode c.code pc = .ok (.ifCond cd o, 3)) (hc : ifCond.holds cd x = false) (hp : pc + 3 = pc') (h : own_Go p e below W T (mkF m pc' L S)) : own_Go p e below W T (mkF m pc L (.int x :: S)) := by
  subst hp; exact own_Go.of (fun t q => XS.ifNo X.here hx rfl hd rfl hc q) h
theorem og_icmpYes (X : Stand p l e R s m args below meth c T locs cells slots) (hx : p.tables.exec = Jvm.exec) {cd : ClassFile.Cond} {x y : Int32} {o : Int} (hd : decode c.code pc = .ok (.if_icmp cd o, 3)) (hc : if_icmp.holds cd x y = true) (ho : 0 ≤ (pc : Int) + o) (hp : ((pc : Int) + o).toNat = pc') (h : own_Go p e below W T (mkF m pc' L S)) : own_Go p e below W T (mkF m pc L (.int y :: .int x :: S)) := by
  exact own_Go.of (fun t q => XS.icmpYes X.here hx rfl rfl hd rfl hc ho hp q) h
theorem og_icmpNo (X : Stand p l e R s m args below meth c T locs cells slots) (hx : p.tables.exec = Jvm.exec) {cd : ClassFile.Cond} {x y : Int32} {o : Int} (hd : decode c.code pc = .ok (.if_icmp cd o, 3)) (hc : if_icmp.holds cd x y = false) (hp : pc + 3 = pc') (h : own_Go p e below W T (mkF m pc' L S)) : own_Go p e below W T (mkF m pc L (.int y :: .int x :: S)) := by
  subst hp; exact own_Go.of (fun t q => XS.icmpNo X.here hx rfl hd rfl hc q) h
theorem og_ifnullYes (X : Stand p l e R s m args below meth c T locs cells slots) (hx : p.tables.exec = Jvm.exec) {o : Int} (hd : decode c.code pc = .ok (.ifnull o, 3)) (ho : 0 ≤ (pc : Int) + o) (hp : ((pc : Int) + o).toNat = pc') (h : own_Go p e below W T (mkF m pc' L S)) : own_Go p e below W T (mkF m pc L (.null :: S)) := by
  exact own_Go.of (fun t q => XS.ifnullYes X.here hx rfl rfl hd rfl ho hp q) h
theorem og_ifnullNo (X : Stand p l e R s m args below meth c T locs cells slots) (hx : p.tables.exec = Jvm.exec) {b : Addr} {o : Int} (hd : decode c.code pc = .ok (.ifnull o, 3)) (hp : pc + 3 = pc') (h : own_Go p e below W T (mkF m pc' L S)) : own_Go p e below W T (mkF m pc L (.ref b :: S)) := by
  subst hp; exact own_Go.of (fun t q => XS.ifnullNo X.here hx rfl hd rfl q) h
theorem og_ifnonnullYes (X : Stand p l e R s m args below meth c T locs cells slots) (hx : p.tables.exec = Jvm.exec) {b : Addr} {o : Int} (hd : decode c.code pc = .ok (.ifnonnull o, 3)) (ho : 0 ≤ (pc : Int) + o) (hp : ((pc : Int) + o).toNat = pc') (h : own_Go p e below W T (mkF m pc' L S)) : own_Go p e below W T (mkF m pc L (.ref b :: S)) := by
  exact own_Go.of (fun t q => XS.ifnonnullYes X.here hx rfl rfl hd rfl ho hp q) h
theorem og_ifnonnullNo (X : Stand p l e R s m args below meth c T locs cells slots) (hx : p.tables.exec = Jvm.exec) {o : Int} (hd : decode c.code pc = .ok (.ifnonnull o, 3)) (hp : pc + 3 = pc') (h : own_Go p e below W T (mkF m pc' L S)) : own_Go p e below W T (mkF m pc L (.null :: S)) := by
  subst hp; exact own_Go.of (fun t q => XS.ifnonnullNo X.here hx rfl hd rfl q) h
theorem og_ldc (X : Stand p l e R s m args below meth c T locs cells slots) (hx : p.tables.exec = Jvm.exec) {own : String} {index : Nat} {v : Int32} (hd : decode c.code pc = .ok (.ldc index, 2)) (hown : s.vm.findClass own = some m.cls) (w : (Jvm.Cond.constant own index v).before args s = true) (hp : pc + 2 = pc') (h : own_Go p e below W T (mkF m pc' L (.int v :: S))) : own_Go p e below W T (mkF m pc L S) := by
  subst hp; exact own_Go.of (fun t q => X.ldcInt hx hown w (g := mkF m pc L S) rfl hd _ q) h
theorem og_ldc2_w (X : Stand p l e R s m args below meth c T locs cells slots) (hx : p.tables.exec = Jvm.exec) {own : String} {index : Nat} {v : Int64} (hd : decode c.code pc = .ok (.ldc2_w index, 3)) (hown : s.vm.findClass own = some m.cls) (w : (Jvm.Cond.constantLong own index v).before args s = true) (hp : pc + 3 = pc') (h : own_Go p e below W T (mkF m pc' L (.long v :: S))) : own_Go p e below W T (mkF m pc L S) := by
  subst hp; exact own_Go.of (fun t q => X.ldc2Long hx hown w (g := mkF m pc L S) rfl hd _ q) h
end OwnSteps
section OwnStepsD
variable {p : Program} {l : Launch} {e : Env} {R : Room} {s : State} {m : MethodId} {args : Array Value} {below : List Frame} {meth : Method} {c : Code} {T : State} {locs : List Loc} {cells slots : Nat} {W : State → Outcome → Prop} {pc pc' : Nat} {L : Array Slot} {S : List Value}
theorem og_dloadN (X : Stand p l e R s m args below meth c T locs cells slots) (hx : p.tables.exec = Jvm.exec) {k : Fin 4} {v : UInt64} (hd : decode c.code pc = .ok (.dload_n k, 1)) (hl : L[k.val]? = some (.val (.double v))) (hp : pc + 1 = pc') (h : own_Go p e below W T (mkF m pc' L (.double v :: S))) : own_Go p e below W T (mkF m pc L S) := by
  subst hp; exact own_Go.of (fun t q => Jvm.Free.XS.dloadN X.here hx rfl hd hl q) h
theorem og_dload (X : Stand p l e R s m args below meth c T locs cells slots) (hx : p.tables.exec = Jvm.exec) {k : Nat} {v : UInt64} (hd : decode c.code pc = .ok (.dload k, 2)) (hl : L[k]? = some (.val (.double v))) (hp : pc + 2 = pc') (h : own_Go p e below W T (mkF m pc' L (.double v :: S))) : own_Go p e below W T (mkF m pc L S) := by
  subst hp; exact own_Go.of (fun t q => Jvm.Free.XS.dload X.here hx rfl hd hl q) h
theorem og_dstoreN (X : Stand p l e R s m args below meth c T locs cells slots) (hx : p.tables.exec = Jvm.exec) {k : Fin 4} {v : UInt64} {L' : Array Slot} (hd : decode c.code pc = .ok (.dstore_n k, 1)) (hl : storeLocals L k.val (.double v) = some L') (hp : pc + 1 = pc') (h : own_Go p e below W T (mkF m pc' L' S)) : own_Go p e below W T (mkF m pc L (.double v :: S)) := by
  subst hp; exact own_Go.of (fun t q => Jvm.Free.XS.dstoreN X.here hx rfl hd rfl hl q) h
theorem og_dstore (X : Stand p l e R s m args below meth c T locs cells slots) (hx : p.tables.exec = Jvm.exec) {k : Nat} {v : UInt64} {L' : Array Slot} (hd : decode c.code pc = .ok (.dstore k, 2)) (hl : storeLocals L k (.double v) = some L') (hp : pc + 2 = pc') (h : own_Go p e below W T (mkF m pc' L' S)) : own_Go p e below W T (mkF m pc L (.double v :: S)) := by
  subst hp; exact own_Go.of (fun t q => Jvm.Free.XS.dstore X.here hx rfl hd rfl hl q) h
theorem og_dconst0 (X : Stand p l e R s m args below meth c T locs cells slots) (hx : p.tables.exec = Jvm.exec) {v : UInt64} (hd : decode c.code pc = .ok (.dconst 0, 1)) (hv : FP.dconst0 = v) (hp : pc + 1 = pc') (h : own_Go p e below W T (mkF m pc' L (.double v :: S))) : own_Go p e below W T (mkF m pc L S) := by
  subst hp; exact own_Go.of (fun t q => Jvm.Free.XS.dconst0 X.here hx rfl hd hv q) h
theorem og_dconst1 (X : Stand p l e R s m args below meth c T locs cells slots) (hx : p.tables.exec = Jvm.exec) {v : UInt64} (hd : decode c.code pc = .ok (.dconst 1, 1)) (hv : FP.dconst1 = v) (hp : pc + 1 = pc') (h : own_Go p e below W T (mkF m pc' L (.double v :: S))) : own_Go p e below W T (mkF m pc L S) := by
  subst hp; exact own_Go.of (fun t q => Jvm.Free.XS.dconst1 X.here hx rfl hd hv q) h
theorem og_dadd (X : Stand p l e R s m args below meth c T locs cells slots) (hx : p.tables.exec = Jvm.exec) {x y v : UInt64} (hd : decode c.code pc = .ok (.dadd, 1)) (hn : Jvm.Free.Fl.NoNaN64 (FP.dadd x y)) (hv : FP.dadd x y = v) (hp : pc + 1 = pc') (h : own_Go p e below W T (mkF m pc' L (.double v :: S))) : own_Go p e below W T (mkF m pc L (.double y :: .double x :: S)) := by
  subst hp; exact own_Go.of (fun t q => Jvm.Free.XS.daddS X.here hx rfl hd rfl hn hv q) h
theorem og_dsub (X : Stand p l e R s m args below meth c T locs cells slots) (hx : p.tables.exec = Jvm.exec) {x y v : UInt64} (hd : decode c.code pc = .ok (.dsub, 1)) (hn : Jvm.Free.Fl.NoNaN64 (FP.dsub x y)) (hv : FP.dsub x y = v) (hp : pc + 1 = pc') (h : own_Go p e below W T (mkF m pc' L (.double v :: S))) : own_Go p e below W T (mkF m pc L (.double y :: .double x :: S)) := by
  subst hp; exact own_Go.of (fun t q => Jvm.Free.XS.dsubS X.here hx rfl hd rfl hn hv q) h
theorem og_dmul (X : Stand p l e R s m args below meth c T locs cells slots) (hx : p.tables.exec = Jvm.exec) {x y v : UInt64} (hd : decode c.code pc = .ok (.dmul, 1)) (hn : Jvm.Free.Fl.NoNaN64 (FP.dmul x y)) (hv : FP.dmul x y = v) (hp : pc + 1 = pc') (h : own_Go p e below W T (mkF m pc' L (.double v :: S))) : own_Go p e below W T (mkF m pc L (.double y :: .double x :: S)) := by
  subst hp; exact own_Go.of (fun t q => Jvm.Free.XS.dmulS X.here hx rfl hd rfl hn hv q) h
theorem og_ddiv (X : Stand p l e R s m args below meth c T locs cells slots) (hx : p.tables.exec = Jvm.exec) {x y v : UInt64} (hd : decode c.code pc = .ok (.ddiv, 1)) (hn : Jvm.Free.Fl.NoNaN64 (FP.ddiv x y)) (hv : FP.ddiv x y = v) (hp : pc + 1 = pc') (h : own_Go p e below W T (mkF m pc' L (.double v :: S))) : own_Go p e below W T (mkF m pc L (.double y :: .double x :: S)) := by
  subst hp; exact own_Go.of (fun t q => Jvm.Free.XS.ddivS X.here hx rfl hd rfl hn hv q) h
theorem og_dcmp (X : Stand p l e R s m args below meth c T locs cells slots) (hx : p.tables.exec = Jvm.exec) {o : CmpOp} {x y : UInt64} {v : Int32} (hd : decode c.code pc = .ok (.dcmp o, 1)) (hv : cmpValue (FP.dcmp x y) o = v) (hp : pc + 1 = pc') (h : own_Go p e below W T (mkF m pc' L (.int v :: S))) : own_Go p e below W T (mkF m pc L (.double y :: .double x :: S)) := by
  subst hp; exact own_Go.of (fun t q => Jvm.Free.XS.dcmpS X.here hx rfl hd rfl hv q) h
end OwnStepsD

theorem own_retD {p : Program} {l : Launch} {e : Env} {R : Room} {s : State} {m : MethodId} {args : Array Value} {below : List Frame} {meth : Method} {c : Code} {T : State} {locs : List Loc} {cells slots : Nat} (X : Stand p l e R s m args below meth c T locs cells slots) (hx : p.tables.exec = Jvm.exec) {pc : Nat} {Ls : Array Slot} {z : UInt64} {rest : List Value} (hret : meth.sig.returnType = some .double) (hd : decode c.code pc = .ok (.dreturn, 1)) {fs : List Frame}
    (hl : ∀ (f : JFrame) (acts : List Action), f.method = m → f.locked = none → f.entered = [] → (doReturn e (T.setTop f) acts (some (.double z))).1 = T.setFrames fs) : Steps p.tables e below (T.setTop (mkF m pc Ls (.double z :: rest))) (T.setFrames fs) := by
  have hm' : T.vm.method? m = some meth := X.method'
  have hn : narrow .double (.double z) = .double z := rfl
  show Steps p.tables e below (T.setTop { method := m, pc := pc, locals := Ls, stack := _ :: rest, locked := none }) _
  jvm_step X.here [X.here.top, hx, hd, hm', hret, hn]
  first | (intro acts; rw [hl _ acts rfl rfl rfl]) | rw [hl _ _ rfl rfl rfl]
  exact Steps.refl _

def own_D (k : Nat) (v : Int) : UInt64 := FP.Core.of64 (FP.Core.round FP.Core.b64 (.fin (decide (v < 0)) v.natAbs (-(k : Int))))
theorem own_D_val (k : Nat) (v : Int) : FP.Core.val64 (own_D k v) = FP.Core.round FP.Core.b64 (.fin (decide (v < 0)) v.natAbs (-(k : Int))) := FP.Core.val64_of64 (FP.Core.round_fits FP.Core.good_b64 _)
theorem own_fit (s : Bool) (k n : Nat) (hn : n ≤ 2 ^ 53) (hk : k ≤ 100) : ∃ c q, FP.Core.round FP.Core.b64 (.fin s n (-(k : Int))) = .fin s c q ∧ c * 2 ^ (q + (k : Int)).toNat = n * 2 ^ (-(q + (k : Int))).toNat := by
  by_cases h0 : n = 0
  · subst h0
    exact ⟨0, FP.Core.b64.qmin, rfl, by rw [Nat.zero_mul, Nat.zero_mul]⟩
  · obtain ⟨c, q, ⟨f1, f2, f3, f4⟩, hv⟩ := FP.Core.natFit FP.Core.good_b64 FP.Core.wide_b64 s (n := n) hn
    have m1 : FP.Core.b64.qmin = -1074 := by decide +kernel
    have hq : -54 ≤ q := by
      refine Int.not_lt.mp fun hlt => ?_
      have e1 : (q - 0).toNat = 0 := by omega
      rw [e1, Nat.pow_zero, Nat.mul_one, Nat.mul_one] at hv
      have e2 : 2 ^ 53 ≤ 2 ^ (0 - q).toNat := Nat.pow_le_pow_right (by decide) (by omega)
      have e3 : 1 * 2 ^ 53 ≤ n * 2 ^ (0 - q).toNat := Nat.mul_le_mul (by omega) e2
      have f1' : c < 2 ^ 53 := f1
      rw [hv] at e3
      omega
    have hfit : FP.Core.fits FP.Core.b64 (.fin s c (q - (k : Int))) := ⟨f1, by omega, by omega, Or.inr (f4.elim (fun q => by omega) id)⟩
    refine ⟨c, q - (k : Int), FP.Core.roundRatio_exact FP.Core.good_b64 (by decide) hfit ?_, ?_⟩
    · rw [show (-(k : Int)) - (q - (k : Int)) = 0 - q by omega, show (q - (k : Int)) - (-(k : Int)) = q - 0 by omega]
      exact hv
    · rw [show q - (k : Int) + (k : Int) = q by omega, show -q = 0 - q by omega, hv, Nat.mul_one, show q - 0 = q by omega]
theorem own_move {c n : Nat} {q e k : Int} (h : c * 2 ^ (q + k).toNat = n * 2 ^ (-(q + k)).toNat) (he : e ≤ q) : (c * 2 ^ (q - e).toNat) * 2 ^ (e + k).toNat = n * 2 ^ (-(e + k)).toNat := by
  by_cases hb : 0 ≤ e + k
  · have a1 : (-(q + k)).toNat = 0 := by omega
    have a2 : (-(e + k)).toNat = 0 := by omega
    rw [a1, Nat.pow_zero, Nat.mul_one] at h
    rw [a2, Nat.pow_zero, Nat.mul_one, Nat.mul_assoc, ← Nat.pow_add, show (q - e).toNat + (e + k).toNat = (q + k).toNat by omega]
    exact h
  · have a2 : (e + k).toNat = 0 := by omega
    rw [a2, Nat.pow_zero, Nat.mul_one]
    by_cases ha : 0 ≤ q + k
    · have a1 : (-(q + k)).toNat = 0 := by omega
      rw [a1, Nat.pow_zero, Nat.mul_one] at h
      rw [← h, Nat.mul_assoc, ← Nat.pow_add, show (q - e).toNat = (q + k).toNat + (-(e + k)).toNat by omega]
    · have a1 : (q + k).toNat = 0 := by omega
      rw [a1, Nat.pow_zero, Nat.mul_one] at h
      rw [h, Nat.mul_assoc, ← Nat.pow_add, show (-(q + k)).toNat + (q - e).toNat = (-(e + k)).toNat by omega]
theorem own_sgn {U Z P R : Int} (hP : 0 < P) (hR : 0 < R) (h : U * P = Z * R) : (U < 0 ↔ Z < 0) ∧ (U = 0 ↔ Z = 0) := by
  refine ⟨⟨fun q => Int.not_le.mp fun r => ?_, fun q => Int.not_le.mp fun r => ?_⟩, ⟨fun q => ?_, fun q => ?_⟩⟩
  · have a := Int.mul_nonneg r (Int.le_of_lt hR)
    have b := Int.mul_neg_of_neg_of_pos q hP
    omega
  · have a := Int.mul_nonneg r (Int.le_of_lt hP)
    have b := Int.mul_neg_of_neg_of_pos q hR
    omega
  · rw [q, Int.zero_mul] at h
    rcases Int.mul_eq_zero.mp h.symm with r | r
    · exact r
    · omega
  · rw [q, Int.zero_mul] at h
    rcases Int.mul_eq_zero.mp h with r | r
    · exact r
    · omega
theorem own_sumc {s t : Bool} {c d n1 n2 : Nat} {q r x y : Int} {k : Nat} (h1 : c * 2 ^ (q + (k : Int)).toNat = n1 * 2 ^ (-(q + (k : Int))).toNat) (h2 : d * 2 ^ (r + (k : Int)).toNat = n2 * 2 ^ (-(r + (k : Int))).toNat)
    (hx : FP.Core.signed s n1 = x) (hy : FP.Core.signed t n2 = y) (hz : x + y = 0 → (s && t) = false) :
    FP.Core.round FP.Core.b64 (FP.Core.exactSum (.fin s c q) (.fin t d r)) = FP.Core.round FP.Core.b64 (.fin (decide (x + y < 0)) (x + y).natAbs (-(k : Int))) := by
  obtain ⟨e, he⟩ : ∃ e, e = min q r := ⟨_, rfl⟩
  have m1 := own_move (e := e) h1 (by omega)
  have m2 := own_move (e := e) h2 (by omega)
  obtain ⟨U, hU⟩ : ∃ U, U = FP.Core.sumUnits s c q t d r e := ⟨_, rfl⟩
  have key : U * ((2 ^ (e + (k : Int)).toNat : Nat) : Int) = (x + y) * ((2 ^ (-(e + (k : Int))).toNat : Nat) : Int) := by
    rw [hU, ← hx, ← hy]
    unfold FP.Core.sumUnits FP.Core.inUnits
    rw [Int.add_mul, Int.add_mul, ← FP.Core.signed_mul, ← FP.Core.signed_mul, ← FP.Core.signed_mul, ← FP.Core.signed_mul, m1, m2]
  have p1 : (0 : Int) < ((2 ^ (e + (k : Int)).toNat : Nat) : Int) := by have := Nat.two_pow_pos (e + (k : Int)).toNat; omega
  have p2 : (0 : Int) < ((2 ^ (-(e + (k : Int))).toNat : Nat) : Int) := by have := Nat.two_pow_pos (-(e + (k : Int))).toNat; omega
  obtain ⟨g1, g2⟩ := own_sgn p1 p2 key
  have ka : U.natAbs * 2 ^ (e + (k : Int)).toNat = (x + y).natAbs * 2 ^ (-(e + (k : Int))).toNat := by
    have w := congrArg Int.natAbs key
    rw [Int.natAbs_mul, Int.natAbs_mul, Int.natAbs_natCast, Int.natAbs_natCast] at w
    exact w
  have es : FP.Core.sumSign s t U = decide (x + y < 0) := by
    unfold FP.Core.sumSign
    by_cases z : U = 0
    · rw [if_pos z, hz (g2.mp z), g2.mp z]; rfl
    · rw [if_neg z]; exact decide_eq_decide.mpr g1
  have ee : FP.Core.exactSum (.fin s c q) (.fin t d r) = .fin (FP.Core.sumSign s t U) U.natAbs e := by rw [hU, he]; rfl
  rw [ee, es]
  refine FP.Core.roundRatio_congr (by decide) (by decide) ?_
  rw [Nat.mul_one, Nat.mul_one, show e - -(k : Int) = e + (k : Int) by omega, show -(k : Int) - e = -(e + (k : Int)) by omega]
  exact ka
theorem own_sg (v : Int) : FP.Core.signed (decide (v < 0)) v.natAbs = v := by
  unfold FP.Core.signed
  by_cases h : v < 0 <;> simp [h] <;> omega
theorem own_sgN (s : Bool) (n : Nat) : FP.Core.signed (!s) n = - FP.Core.signed s n := by
  cases s <;> simp [FP.Core.signed]
theorem own_dadd {k : Nat} {v w : Int} (hk : k ≤ 100) (hv : v.natAbs ≤ 2 ^ 53) (hw : w.natAbs ≤ 2 ^ 53) : FP.dadd (own_D k v) (own_D k w) = own_D k (v + w) := by
  show FP.Core.of64 (FP.Core.round FP.Core.b64 (FP.Core.exactSum (FP.Core.val64 (own_D k v)) (FP.Core.val64 (own_D k w)))) = _
  rw [own_D_val, own_D_val]
  obtain ⟨c, q, e1, h1⟩ := own_fit (decide (v < 0)) k v.natAbs hv hk
  obtain ⟨d, r, e2, h2⟩ := own_fit (decide (w < 0)) k w.natAbs hw hk
  rw [e1, e2, own_sumc h1 h2 (own_sg v) (own_sg w) (fun z => by
    by_cases a : v < 0
    · have b : ¬ w < 0 := by omega
      simp [b]
    · simp [a])]
  rfl
theorem own_dsub {k : Nat} {v w : Int} (hk : k ≤ 100) (hv : v.natAbs ≤ 2 ^ 53) (hw : w.natAbs ≤ 2 ^ 53) : FP.dsub (own_D k v) (own_D k w) = own_D k (v - w) := by
  show FP.Core.of64 (FP.Core.round FP.Core.b64 (FP.Core.exactSum (FP.Core.val64 (own_D k v)) (FP.Core.negate (FP.Core.val64 (own_D k w))))) = _
  rw [own_D_val, own_D_val]
  obtain ⟨c, q, e1, h1⟩ := own_fit (decide (v < 0)) k v.natAbs hv hk
  obtain ⟨d, r, e2, h2⟩ := own_fit (decide (w < 0)) k w.natAbs hw hk
  rw [e1, e2]
  show FP.Core.of64 (FP.Core.round FP.Core.b64 (FP.Core.exactSum (.fin _ c q) (.fin (!(decide (w < 0))) d r))) = _
  rw [own_sumc h1 h2 (own_sg v) ((own_sgN _ _).trans (congrArg Neg.neg (own_sg w))) (fun z => by
    have e : v = w := by omega
    rw [e]; cases decide (w < 0) <;> rfl), ← Int.sub_eq_add_neg]
  rfl
theorem own_mulmove {c d n m : Nat} {a b : Int} (h1 : c * 2 ^ a.toNat = n * 2 ^ (-a).toNat) (h2 : d * 2 ^ b.toNat = m * 2 ^ (-b).toNat) : c * d * 2 ^ (a + b).toNat = n * m * 2 ^ (-(a + b)).toNat := by
  obtain ⟨j, hj⟩ : ∃ j, a.toNat + b.toNat = (a + b).toNat + j := ⟨a.toNat + b.toNat - (a + b).toNat, by omega⟩
  have hj2 : (-a).toNat + (-b).toNat = (-(a + b)).toNat + j := by omega
  have e : c * d * 2 ^ (a.toNat + b.toNat) = n * m * 2 ^ ((-a).toNat + (-b).toNat) := by
    rw [Nat.pow_add, Nat.pow_add, Nat.mul_mul_mul_comm, h1, h2, Nat.mul_mul_mul_comm]
  rw [hj, hj2, Nat.pow_add, Nat.pow_add, ← Nat.mul_assoc, ← Nat.mul_assoc] at e
  exact Nat.eq_of_mul_eq_mul_right (Nat.two_pow_pos j) e
theorem own_dmul {k l : Nat} {v w : Int} (hk : k ≤ 100) (hl : l ≤ 100) (hv : v.natAbs ≤ 2 ^ 53) (hw : w.natAbs ≤ 2 ^ 53) (h0 : 0 ≤ v) (h0' : 0 ≤ w) : FP.dmul (own_D k v) (own_D l w) = own_D (k + l) (v * w) := by
  show FP.Core.of64 (FP.Core.round FP.Core.b64 (FP.Core.exactProduct (FP.Core.val64 (own_D k v)) (FP.Core.val64 (own_D l w)))) = _
  rw [own_D_val, own_D_val]
  obtain ⟨c, q, e1, h1⟩ := own_fit (decide (v < 0)) k v.natAbs hv hk
  obtain ⟨d, r, e2, h2⟩ := own_fit (decide (w < 0)) l w.natAbs hw hl
  rw [e1, e2]
  have s1 : decide (v < 0) = false := by simp; omega
  have s2 : decide (w < 0) = false := by simp; omega
  have p := Int.mul_nonneg h0 h0'
  have s3 : decide (v * w < 0) = false := by simp; omega
  unfold own_D
  rw [s1, s2, s3]
  show FP.Core.of64 (FP.Core.round FP.Core.b64 (.fin false (c * d) (q + r))) = FP.Core.of64 (FP.Core.round FP.Core.b64 (.fin false (v * w).natAbs (-((k + l : Nat) : Int))))
  congr 1
  refine FP.Core.roundRatio_congr (by decide) (by decide) ?_
  rw [Nat.mul_one, Nat.mul_one, Int.natAbs_mul, show q + r - -((k + l : Nat) : Int) = (q + (k : Int)) + (r + (l : Int)) by omega, show -((k + l : Nat) : Int) - (q + r) = -((q + (k : Int)) + (r + (l : Int))) by omega]
  exact own_mulmove h1 h2
theorem own_resc (k : Nat) (v : Int) : own_D k v = own_D (k + 8) (v * 256) := by
  unfold own_D
  have s : decide (v * 256 < 0) = decide (v < 0) := decide_eq_decide.mpr (by omega)
  have n : (v * 256).natAbs = v.natAbs * 256 := by omega
  rw [s, n]
  congr 1
  refine FP.Core.roundRatio_congr (by decide) (by decide) ?_
  rw [Nat.mul_one, Nat.mul_one, show (-(k : Int) - -((k + 8 : Nat) : Int)).toNat = 8 by omega, show (-((k + 8 : Nat) : Int) - -(k : Int)).toNat = 0 by omega]
  omega
theorem own_nn {k : Nat} {v : Int} (hk : k ≤ 100) (hv : v.natAbs ≤ 2 ^ 53) : Jvm.Free.Fl.NoNaN64 (own_D k v) := by
  refine Jvm.Free.Fl.val64_no.mpr ?_
  rw [own_D_val]
  obtain ⟨c, q, e1, -⟩ := own_fit (decide (v < 0)) k v.natAbs hv hk
  rw [e1]
  exact fun q => by cases q
theorem own_xadd {a b : UInt64} {k : Nat} {v w u : Int} (ha : a = own_D k v) (hb : b = own_D k w) (hu : v + w = u) (hk : k ≤ 100) (hv : v.natAbs ≤ 2 ^ 53) (hw : w.natAbs ≤ 2 ^ 53) : FP.dadd a b = own_D k u := by
  rw [ha, hb, ← hu]; exact own_dadd hk hv hw
theorem own_xsub {a b : UInt64} {k : Nat} {v w u : Int} (ha : a = own_D k v) (hb : b = own_D k w) (hu : v - w = u) (hk : k ≤ 100) (hv : v.natAbs ≤ 2 ^ 53) (hw : w.natAbs ≤ 2 ^ 53) : FP.dsub a b = own_D k u := by
  rw [ha, hb, ← hu]; exact own_dsub hk hv hw
theorem own_xmul {a b : UInt64} {k l j : Nat} {v w u : Int} (ha : a = own_D k v) (hb : b = own_D l w) (hu : v * w = u) (hj : k + l = j) (hk : k ≤ 100) (hl : l ≤ 100) (hv : v.natAbs ≤ 2 ^ 53) (hw : w.natAbs ≤ 2 ^ 53) (h0 : 0 ≤ v) (h0' : 0 ≤ w) : FP.dmul a b = own_D j u := by
  rw [ha, hb, ← hu, ← hj]; exact own_dmul hk hl hv hw h0 h0'
theorem own_nnx {a : UInt64} {k : Nat} {v : Int} (h : a = own_D k v) (hk : k ≤ 100) (hv : v.natAbs ≤ 2 ^ 53) : Jvm.Free.Fl.NoNaN64 a := by
  rw [h]; exact own_nn hk hv

theorem own_z0 : own_D 0 0 = (0 : UInt64) := by decide +kernel
theorem own_z8 : FP.dconst0 = own_D 8 0 := by decide +kernel
theorem own_o0 : FP.dconst1 = own_D 0 1 := by decide +kernel
theorem own_o8 : FP.dconst1 = own_D 8 256 := by decide +kernel
theorem own_o16 : FP.dconst1 = own_D 16 65536 := by decide +kernel
theorem own_o24 : FP.dconst1 = own_D 24 16777216 := by decide +kernel
theorem own_o32 : FP.dconst1 = own_D 32 4294967296 := by decide +kernel
def own_fv (x0 x1 x2 : Int32) : Int := if x1 < x2 then 0 else ((x0 &&& (511 : Int32)) % (257 : Int32)).toInt
theorem own_d257 : ∀ n, n < 257 → FP.ddiv (FP.i2d (Int32.ofNat n)) (4643211215818981376 : UInt64) = own_D 8 (n : Int) := by decide +kernel
theorem own_n257 : ∀ n, n < 257 → (Int32.ofNat n).toInt = (n : Int) := by decide +kernel
theorem own_div256 {x : Int32} (h : 0 ≤ x.toInt ∧ x.toInt ≤ 256) : FP.ddiv (FP.i2d x) (4643211215818981376 : UInt64) = own_D 8 x.toInt := by
  obtain ⟨n, hn⟩ : ∃ n : Nat, x.toInt = (n : Int) := ⟨x.toInt.toNat, by omega⟩
  have e : x = Int32.ofNat n := by rw [← Int32.toInt_inj, own_n257 n (by omega)]; exact hn
  rw [hn, e]; exact own_d257 n (by omega)
theorem own_fr (x : Int32) : 0 ≤ ((x &&& (511 : Int32)) % (257 : Int32)).toInt ∧ ((x &&& (511 : Int32)) % (257 : Int32)).toInt ≤ 256 := by
  have q := c_mask x (511 : Int32) 9 (by decide) (by decide)
  have e : ((2 ^ 9 : Nat) : Int) = 512 := by decide
  rw [e] at q
  have q1 := (c_irem (x &&& (511 : Int32)) (257 : Int32) 257 (by decide)).1 (by omega)
  omega
theorem own_fb (x : Int32) : ((x &&& (511 : Int32)) % (257 : Int32)).toInt.natAbs ≤ 2 ^ 53 := by
  have r := own_fr x
  omega
theorem own_fvr (x0 x1 x2 : Int32) : 0 ≤ own_fv x0 x1 x2 ∧ own_fv x0 x1 x2 ≤ 256 := by
  unfold own_fv
  by_cases h : x1 < x2
  · rw [if_pos h]; decide
  · rw [if_neg h]; exact own_fr x0

theorem d1_0 : decode method_2_code 0 = .ok (.iload_n 1, 1) := by decide +kernel
theorem d1_1 : decode method_2_code 1 = .ok (.iload_n 2, 1) := by decide +kernel
theorem d1_2 : decode method_2_code 2 = .ok (.if_icmp .ge 5, 3) := by decide +kernel
theorem d1_5 : decode method_2_code 5 = .ok (.dconst 0, 1) := by decide +kernel
theorem d1_6 : decode method_2_code 6 = .ok (.dreturn, 1) := by decide +kernel
theorem d1_7 : decode method_2_code 7 = .ok (.iload_n 0, 1) := by decide +kernel
theorem d1_8 : decode method_2_code 8 = .ok (.sipush 511, 3) := by decide +kernel
theorem d1_11 : decode method_2_code 11 = .ok (.iand, 1) := by decide +kernel
theorem d1_12 : decode method_2_code 12 = .ok (.sipush 257, 3) := by decide +kernel
theorem d1_15 : decode method_2_code 15 = .ok (.irem, 1) := by decide +kernel
theorem d1_16 : decode method_2_code 16 = .ok (.i2d, 1) := by decide +kernel
theorem d1_17 : decode method_2_code 17 = .ok (.ldc2_w 7, 3) := by decide +kernel
theorem d1_20 : decode method_2_code 20 = .ok (.ddiv, 1) := by decide +kernel
theorem d1_21 : decode method_2_code 21 = .ok (.dreturn, 1) := by decide +kernel
theorem pnfill : plainName "com/example/paranhos/paranhos/MatchRunsAddPinLaw" = true := by first | (simp [plainName, overriddenIn]; done) | decide +kernel
theorem effill (m : MethodId) (z0 : Int32) (z1 : Int32) (z2 : Int32) : entryFrame m #[(.int z0), (.int z1), (.int z2)] 3 = mkF m 0 #[.val (.int z0), .val (.int z1), .val (.int z2)] [] := by first | (simp [entryFrame, mkF, argsToLocals, Value.category]; done) | rfl
def Qfill (Z : State) (x0 : Int32) (x1 : Int32) (x2 : Int32) (h0 : Heap) (n0 : Nat) (v : Option Value) (h : Heap) (L : List Loc) : Prop := v = some (.double (own_D 8 (own_fv x0 x1 x2))) ∧ Fr n0 L ∧ h = h0
set_option maxRecDepth 65536 in
set_option maxHeartbeats 40000000 in
theorem rmfill (l : Launch) (Z : State) (a0 : Array Value) (hw : ∀ d ∈ tables_1, d.before a0 Z = true) (ws : List Jvm.Cond) (x0 : Int32) (x1 : Int32) (x2 : Int32) (h0 : Heap) (n0 : Nat) (Z0 : n0 ≤ h0.size) :
    MetFree l (⟨"com/example/paranhos/paranhos/MatchRunsAddPinLaw", "fill", "(III)D"⟩ : MethodName) (head1 (Jvm.Cond.code (⟨"com/example/paranhos/paranhos/MatchRunsAddPinLaw", "fill", "(III)D"⟩ : MethodName) method_2_code 3 (some .double) :: ws) ({ frames := 0, cells := 0, slots := 0, locals := 0 } : Room)) (fun ag U => ag = #[(.int x0), (.int x1), (.int x2)] ∧ Z.Warmed39 U.vm ∧ U.heap = h0) (fun _ _ _ _ _ => True) (fun _ U oc U' => ∃ v L, oc = .returned v ∧ Qfill Z x0 x1 x2 h0 n0 v U'.heap L ∧ FrameEnd U oc U' L ({ frames := 0, cells := 0, slots := 0, locals := 0 } : Room).cells ({ frames := 0, cells := 0, slots := 0, locals := 0 } : Room).slots) := by
  refine MetFree.of_bodySF (plainFor_of_name pnfill) hisR ?_
  intro p e s m args below meth c s₁ Bd hml0 hP hK
  obtain ⟨rfl, hZ, hh⟩ := hP
  have hx := Bd.exec
  have hby := Bd.bytes
  have hml : c.maxLocals = 3 := hml0
  have hown : s.vm.findClass "com/example/paranhos/paranhos/MatchRunsAddPinLaw" = some m.cls := findClass_of_methodNamed Bd.named
  have hnm := (name_of_methodNamed Bd.named Bd.method).1
  have X0 : Stand p l e ({ frames := 0, cells := 0, slots := 0, locals := 0 } : Room) s m #[(.int x0), (.int x1), (.int x2)] below meth c s₁ [] 0 0 := Stand.of_body Bd
  have e0 : s₁.heap = h0 := by rw [← hh, Bd.state]; rfl
  have N0 := Fr.nil n0
  show own_Go p e below (fun s₂ oc => ∃ v L, oc = .returned v ∧ Qfill Z x0 x1 x2 h0 n0 v s₂.heap L ∧ FrameEnd s oc s₂ L ({ frames := 0, cells := 0, slots := 0, locals := 0 } : Room).cells ({ frames := 0, cells := 0, slots := 0, locals := 0 } : Room).slots) s₁ (entryFrame m #[(.int x0), (.int x1), (.int x2)] 3)
  refine own_Go.of (g' := mkF m 0 #[.val (.int x0), .val (.int x1), .val (.int x2)] []) (fun t k => castTop (effill m x0 x1 x2) k) ?_
  refine og_iloadN (pc' := 1) X0 hx (hb hby d1_0) rfl rfl ?_
  refine og_iloadN (pc' := 2) X0 hx (hb hby d1_1) rfl rfl ?_
  by_cases hc2_1 : x1 < x2
  · refine og_icmpNo (pc' := 5) X0 hx (hb hby d1_2) (tlt hc2_1).2.1 rfl ?_
    refine og_dconst0 (pc' := 6) X0 hx (hb hby d1_5) own_z8 rfl ?_
    obtain ⟨fs, hr, hrun, hended, hW, hsame⟩ := X0.leave (v := some (.double (own_D 8 0))) (fun h => by rw [Bd.returns] at h; cases h) (BodyLoose.notSynchronized Bd)
    refine ⟨_, _, own_retD X0 hx Bd.returns (hb hby d1_6) hr, hrun, hended, some (.double (own_D 8 0)), _, rfl, ?_, ⟨_, rfl⟩, hW, hsame.mono (by decide) (by decide)⟩
    show Qfill Z x0 x1 x2 h0 n0 _ s₁.heap _
    rw [e0]
    exact ⟨(congrArg (fun q => some (Value.double (own_D 8 q))) (if_pos hc2_1).symm), N0, rfl⟩
  · refine og_icmpYes (pc' := 7) X0 hx (hb hby d1_2) (flt hc2_1).2.1 (by decide) (by decide) ?_
    refine og_iloadN (pc' := 8) X0 hx (hb hby d1_7) rfl rfl ?_
    refine og_sipush (pc' := 11) (n := 511) X0 hx (hb hby d1_8) rfl rfl ?_
    refine og_iand (pc' := 12) X0 hx (hb hby d1_11) rfl ?_
    refine og_sipush (pc' := 15) (n := 257) X0 hx (hb hby d1_12) rfl rfl ?_
    refine og_irem (pc' := 16) X0 hx (hb hby d1_15) (by decide) rfl ?_
    refine own_Go.of (g' := (mkF m 17 #[.val (.int x0), .val (.int x1), .val (.int x2)] [(.double (FP.i2d ((x0 &&& (511 : Int32)) % (257 : Int32))))])) (fun t k => Jvm.Free.XS.i2dS X0.here hx rfl (hb hby d1_16) rfl rfl k) ?_
    refine own_Go.of (g' := (mkF m 20 #[.val (.int x0), .val (.int x1), .val (.int x2)] [(.double (4643211215818981376 : UInt64)), (.double (FP.i2d ((x0 &&& (511 : Int32)) % (257 : Int32))))])) (fun t k => X0.ldc2DoubleC hx hown (mvT hZ (hw _ (List.mem_of_getElem? (i := 23) rfl))) (g := (mkF m 17 #[.val (.int x0), .val (.int x1), .val (.int x2)] [(.double (FP.i2d ((x0 &&& (511 : Int32)) % (257 : Int32))))])) rfl (hb hby d1_17) _ k) ?_
    refine og_ddiv (pc' := 21) X0 hx (hb hby d1_20) (own_nnx (own_div256 (own_fr x0)) (by decide) (own_fb x0)) (own_div256 (own_fr x0)) rfl ?_
    obtain ⟨fs, hr, hrun, hended, hW, hsame⟩ := X0.leave (v := some (.double (own_D 8 ((x0 &&& (511 : Int32)) % (257 : Int32)).toInt))) (fun h => by rw [Bd.returns] at h; cases h) (BodyLoose.notSynchronized Bd)
    refine ⟨_, _, own_retD X0 hx Bd.returns (hb hby d1_21) hr, hrun, hended, some (.double (own_D 8 ((x0 &&& (511 : Int32)) % (257 : Int32)).toInt)), _, rfl, ?_, ⟨_, rfl⟩, hW, hsame.mono (by decide) (by decide)⟩
    show Qfill Z x0 x1 x2 h0 n0 _ s₁.heap _
    rw [e0]
    exact ⟨(congrArg (fun q => some (Value.double (own_D 8 q))) (if_neg hc2_1).symm), N0, rfl⟩

theorem d2_0 : decode prog_14_method_1_code 0 = .ok (.aload_n 0, 1) := by decide +kernel
theorem d2_1 : decode prog_14_method_1_code 1 = .ok (.invokespecial 1, 3) := by decide +kernel
theorem d2_4 : decode prog_14_method_1_code 4 = .ok (.aload_n 0, 1) := by decide +kernel
theorem d2_5 : decode prog_14_method_1_code 5 = .ok (.iload_n 1, 1) := by decide +kernel
theorem d2_6 : decode prog_14_method_1_code 6 = .ok (.newarray .double, 2) := by decide +kernel
theorem d2_8 : decode prog_14_method_1_code 8 = .ok (.putfield 7, 3) := by decide +kernel
theorem d2_11 : decode prog_14_method_1_code 11 = .ok (.aload_n 0, 1) := by decide +kernel
theorem d2_12 : decode prog_14_method_1_code 12 = .ok (.getfield 7, 3) := by decide +kernel
theorem d2_15 : decode prog_14_method_1_code 15 = .ok (.iconst 0, 1) := by decide +kernel
theorem d2_16 : decode prog_14_method_1_code 16 = .ok (.dconst 1, 1) := by decide +kernel
theorem d2_17 : decode prog_14_method_1_code 17 = .ok (.dastore, 1) := by decide +kernel
theorem d2_18 : decode prog_14_method_1_code 18 = .ok (.return_, 1) := by decide +kernel
theorem pnini1 : plainName "com/example/paranhos/paranhos/MatchRuns" = true := by first | (simp [plainName, overriddenIn]; done) | decide +kernel
theorem efini1 (m : MethodId) (z0 : Addr) : entryFrame m #[(.ref z0), (.int (1 : Int32))] 2 = mkF m 0 #[.val (.ref z0), .val (.int (1 : Int32))] [] := by first | (simp [entryFrame, mkF, argsToLocals, Value.category]; done) | rfl
def Qini1 (Z : State) (o : Addr) (u0 : Value) (h0 : Heap) (n0 : Nat) (v : Option Value) (h : Heap) (L : List Loc) : Prop := ∃ (b : Addr) (kk : ClassId), v = none ∧ Fr n0 L ∧ Keep h0 h [o] ∧ h0.size ≤ b ∧ Exa Z h o "com/example/paranhos/paranhos/MatchRuns" ∧ Fld Z h o "com/example/paranhos/paranhos/MatchRuns" "run" "[D" (.ref b) ∧ Fld Z h o "com/example/paranhos/paranhos/MatchRuns" "matched" "D" (.double (0 : UInt64)) ∧ Arv Z h b kk .double (1 : Int32) [(.double (own_D 0 1))] (.double (0 : UInt64))
set_option maxRecDepth 65536 in
set_option maxHeartbeats 40000000 in
theorem rmini1 (l : Launch) (Z : State) (a0 : Array Value) (hw : ∀ d ∈ tables_1, d.before a0 Z = true) (ws : List Jvm.Cond) (o : Addr) (u0 : Value) (h0 : Heap) (n0 : Nat) (Z0 : n0 ≤ h0.size) (E_o : Exa Z h0 o "com/example/paranhos/paranhos/MatchRuns") (F0_o : Fld Z h0 o "com/example/paranhos/paranhos/MatchRuns" "run" "[D" u0) (F1_o : Fld Z h0 o "com/example/paranhos/paranhos/MatchRuns" "matched" "D" (.double (0 : UInt64))) (g_o : n0 ≤ o) :
    MetFree l (⟨"com/example/paranhos/paranhos/MatchRuns", "<init>", "(I)V"⟩ : MethodName) (head1 (Jvm.Cond.code (⟨"com/example/paranhos/paranhos/MatchRuns", "<init>", "(I)V"⟩ : MethodName) prog_14_method_1_code 2 none :: ws) ({ frames := 1, cells := 1, slots := 1, locals := 12 } : Room)) (fun ag U => ag = #[(.ref o), (.int (1 : Int32))] ∧ Z.Warmed39 U.vm ∧ U.heap = h0) (fun _ _ _ _ _ => True) (fun _ U oc U' => ∃ v L, oc = .returned v ∧ Qini1 Z o u0 h0 n0 v U'.heap L ∧ FrameEnd U oc U' L ({ frames := 1, cells := 1, slots := 1, locals := 12 } : Room).cells ({ frames := 1, cells := 1, slots := 1, locals := 12 } : Room).slots) := by
  refine MetFree.of_bodySF (plainFor_of_name pnini1) hisR ?_
  intro p e s m args below meth c s₁ Bd hml0 hP hK
  obtain ⟨rfl, hZ, hh⟩ := hP
  have hx := Bd.exec
  have hby := Bd.bytes
  have hml : c.maxLocals = 2 := hml0
  have hown : s.vm.findClass "com/example/paranhos/paranhos/MatchRuns" = some m.cls := findClass_of_methodNamed Bd.named
  have hnm := (name_of_methodNamed Bd.named Bd.method).1
  have X0 : Stand p l e ({ frames := 1, cells := 1, slots := 1, locals := 12 } : Room) s m #[(.ref o), (.int (1 : Int32))] below meth c s₁ [] 0 0 := Stand.of_body Bd
  have e0 : s₁.heap = h0 := by rw [← hh, Bd.state]; rfl
  have N0 := Fr.nil n0
  show own_Go p e below (fun s₂ oc => ∃ v L, oc = .returned v ∧ Qini1 Z o u0 h0 n0 v s₂.heap L ∧ FrameEnd s oc s₂ L ({ frames := 1, cells := 1, slots := 1, locals := 12 } : Room).cells ({ frames := 1, cells := 1, slots := 1, locals := 12 } : Room).slots) s₁ (entryFrame m #[(.ref o), (.int (1 : Int32))] 2)
  refine own_Go.of (g' := mkF m 0 #[.val (.ref o), .val (.int (1 : Int32))] []) (fun t k => castTop (efini1 m o) k) ?_
  refine og_aloadN (pc' := 1) X0 hx (hb hby d2_0) rfl rfl rfl ?_
  obtain ⟨T1, X1, e1, st1⟩ := initO X0 hx hZ hown (hw _ (List.mem_of_getElem? (i := 10) rfl)) (hw _ (List.mem_of_getElem? (i := 11) rfl)) (hw _ (List.mem_of_getElem? (i := 12) rfl)) e0 (g := (mkF m 1 #[.val (.ref o), .val (.int (1 : Int32))] [(.ref o)])) rfl (by rw [hml]; rfl) rfl (hb hby d2_1) (by decide) (W := 0) (by show 2 * 0 + _ ≤ _; exact Nat.le_of_eq rfl) (by decide)
  refine own_Go.of (g' := (mkF m 4 #[.val (.ref o), .val (.int (1 : Int32))] [])) (fun t k => st1 _ k) ?_
  refine og_aloadN (pc' := 5) X1 hx (hb hby d2_4) rfl rfl rfl ?_
  refine og_iloadN (pc' := 6) X1 hx (hb hby d2_5) rfl rfl ?_
  obtain ⟨T2, h2, k2, X2, e2, E2, A2, st2⟩ := newP X1 hx hZ (hw _ (List.mem_of_getElem? (i := 13) rfl)) e1 (g := (mkF m 6 #[.val (.ref o), .val (.int (1 : Int32))] [(.int (1 : Int32)), (.ref o)])) rfl (hb hby d2_6) rfl (by decide) (cap := 1) (by decide) (by decide) (by decide) (by decide)
  obtain ⟨b2, g2⟩ : ∃ z, z = h0.size := ⟨_, rfl⟩
  rw [← g2] at A2 st2
  have ne2_0 : o ≠ b2 := Nat.ne_of_lt (Nat.lt_of_lt_of_le E_o.lt (Nat.le_of_eq g2.symm))
  have g_b2 : n0 ≤ b2 := Nat.le_trans Z0 (Nat.le_of_eq g2.symm)
  have sz_b2 : h0.size ≤ b2 := Nat.le_trans (Keep.refl h0 [o]).1 (Nat.le_of_eq g2.symm)
  have f2_0 := E_o.ext E2
  have f2_1 := F0_o.ext E2
  have f2_2 := F1_o.ext E2
  have V2 : Arv Z h2 b2 k2 .double (1 : Int32) [(.double (0 : UInt64))] (.double (0 : UInt64)) := (Arv.new A2 (by decide)).pad (pad_rep [] (.double (0 : UInt64)) 1)
  have K2 : Keep h0 h2 [o] := (Keep.refl h0 [o]).ext E2
  have Z2 : n0 ≤ h2.size := Nat.le_trans Z0 K2.1
  refine own_Go.of (g' := (mkF m 8 #[.val (.ref o), .val (.int (1 : Int32))] [(.ref b2), (.ref o)])) (fun t k => st2 _ k) ?_
  obtain ⟨T3, h3, X3, e3, W3, st3⟩ := putF X2 hx hZ hown (host := "") (Or.inl (hw _ (List.mem_of_getElem? (i := 14) rfl))) Via.refl e2 f2_1 f2_0 (Or.inr ⟨(hw _ (List.mem_of_getElem? (i := 15) rfl)), rfl, hnm⟩) (hw _ (List.mem_of_getElem? (i := 5) rfl)) (ty := (.array .double)) (by decide) rfl rfl (g := (mkF m 8 #[.val (.ref o), .val (.int (1 : Int32))] [(.ref b2), (.ref o)])) rfl rfl (hb hby d2_8)
  have w3 : Fld Z h3 o "com/example/paranhos/paranhos/MatchRuns" "run" "[D" (.ref b2) := f2_1.same W3
  have f3_0 := f2_0.wr W3
  have f3_1 := f2_2.other W3 (Or.inr (slot_ne (a0 := a0) (C := "com/example/paranhos/paranhos/MatchRuns") (Or.inl (hw _ (List.mem_of_getElem? (i := 22) rfl))) (Or.inr (hw _ (List.mem_of_getElem? (i := 15) rfl))) (by decide) (t := .double) (t' := (.array .double)) (by decide) (by decide)))
  have f3_3 := V2.other W3 (Ne.symm ne2_0)
  have K3 : Keep h0 h3 [o] := K2.wr W3 (Or.inl (List.mem_of_getElem? (i := 0) rfl))
  have Z3 : n0 ≤ h3.size := Nat.le_trans Z0 K3.1
  have N3 := Fr.snoc X3 N0 g_o
  obtain ⟨J3, X3, N3⟩ := own_hide X3 N3
  refine own_Go.of (g' := (mkF m 11 #[.val (.ref o), .val (.int (1 : Int32))] [])) (fun t k => st3 _ k) ?_
  refine og_aloadN (pc' := 12) X3 hx (hb hby d2_11) rfl rfl rfl ?_
  obtain ⟨T4, X4, e4, st4⟩ := getF X3 hx hZ hown (host := "") (Or.inl (hw _ (List.mem_of_getElem? (i := 14) rfl))) Via.refl e3 w3 (g := (mkF m 12 #[.val (.ref o), .val (.int (1 : Int32))] [(.ref o)])) rfl rfl (hb hby d2_12)
  refine own_Go.of (g' := (mkF m 15 #[.val (.ref o), .val (.int (1 : Int32))] [(.ref b2)])) (fun t k => st4 _ k) ?_
  refine og_iconst (pc' := 16) (n := 0) X4 hx (hb hby d2_15) rfl rfl ?_
  refine og_dconst1 (pc' := 17) X4 hx (hb hby d2_16) own_o0 rfl ?_
  obtain ⟨cl5, Ar5, q5, S5, M5, H5, G5⟩ := id f3_3
  have hin5 : ¬ ((0 : Int32) < 0 ∨ cl5.slots.size ≤ ((0 : Int32)).toNatClampNeg) := inb_of S5 ⟨by decide, by decide⟩
  obtain ⟨T5, h5, X5, e5, W5, st5⟩ := stD X4 hx hZ e4 Ar5 (j := (0 : Int32)) hin5 (g := (mkF m 17 #[.val (.ref o), .val (.int (1 : Int32))] [(.double (own_D 0 1)), (.int (0 : Int32)), (.ref b2)])) rfl rfl (hb hby d2_17)
  have V5 : Arv Z h5 b2 k2 .double (1 : Int32) [(.double (own_D 0 1))] (.double (0 : UInt64)) := Arv.set Ar5 q5 S5 M5 H5 G5 rfl W5 0 rfl (Nat.le_of_ble_eq_true rfl)
  have f5_0 := f3_0.wr W5
  have f5_1 := f3_1.other W5 (Or.inl ne2_0)
  have f5_3 := w3.other W5 (Or.inl ne2_0)
  have K5 : Keep h0 h5 [o] := K3.wr W5 (Or.inr sz_b2)
  have Z5 : n0 ≤ h5.size := Nat.le_trans Z0 K5.1
  have N5 := Fr.snoc X5 N3 g_b2
  obtain ⟨J5, X5, N5⟩ := own_hide X5 N5
  refine own_Go.of (g' := (mkF m 18 #[.val (.ref o), .val (.int (1 : Int32))] [])) (fun t k => st5 _ k) ?_
  obtain ⟨fs, hr, hrun, hended, hW, hsame⟩ := X5.leave (v := none) (fun _ => rfl) (BodyLoose.notSynchronized Bd)
  refine ⟨_, _, X5.returnOut hx Bd.returns (hb hby d2_18) hr, hrun, hended, none, _, rfl, ?_, ⟨_, rfl⟩, hW, hsame.mono (by decide) (by decide)⟩
  show Qini1 Z o u0 h0 n0 _ T5.heap _
  rw [e5]
  exact ⟨b2, k2, rfl, N5, K5, sz_b2, f5_0, f5_3, f5_1, V5⟩

theorem pnini2 : plainName "com/example/paranhos/paranhos/MatchRuns" = true := by first | (simp [plainName, overriddenIn]; done) | decide +kernel
theorem efini2 (m : MethodId) (z0 : Addr) : entryFrame m #[(.ref z0), (.int (2 : Int32))] 2 = mkF m 0 #[.val (.ref z0), .val (.int (2 : Int32))] [] := by first | (simp [entryFrame, mkF, argsToLocals, Value.category]; done) | rfl
def Qini2 (Z : State) (o : Addr) (u0 : Value) (h0 : Heap) (n0 : Nat) (v : Option Value) (h : Heap) (L : List Loc) : Prop := ∃ (b : Addr) (kk : ClassId), v = none ∧ Fr n0 L ∧ Keep h0 h [o] ∧ h0.size ≤ b ∧ Exa Z h o "com/example/paranhos/paranhos/MatchRuns" ∧ Fld Z h o "com/example/paranhos/paranhos/MatchRuns" "run" "[D" (.ref b) ∧ Fld Z h o "com/example/paranhos/paranhos/MatchRuns" "matched" "D" (.double (0 : UInt64)) ∧ Arv Z h b kk .double (2 : Int32) [(.double (own_D 0 1)), (.double (0 : UInt64))] (.double (0 : UInt64))
set_option maxRecDepth 65536 in
set_option maxHeartbeats 40000000 in
theorem rmini2 (l : Launch) (Z : State) (a0 : Array Value) (hw : ∀ d ∈ tables_1, d.before a0 Z = true) (ws : List Jvm.Cond) (o : Addr) (u0 : Value) (h0 : Heap) (n0 : Nat) (Z0 : n0 ≤ h0.size) (E_o : Exa Z h0 o "com/example/paranhos/paranhos/MatchRuns") (F0_o : Fld Z h0 o "com/example/paranhos/paranhos/MatchRuns" "run" "[D" u0) (F1_o : Fld Z h0 o "com/example/paranhos/paranhos/MatchRuns" "matched" "D" (.double (0 : UInt64))) (g_o : n0 ≤ o) :
    MetFree l (⟨"com/example/paranhos/paranhos/MatchRuns", "<init>", "(I)V"⟩ : MethodName) (head1 (Jvm.Cond.code (⟨"com/example/paranhos/paranhos/MatchRuns", "<init>", "(I)V"⟩ : MethodName) prog_14_method_1_code 2 none :: ws) ({ frames := 1, cells := 1, slots := 2, locals := 12 } : Room)) (fun ag U => ag = #[(.ref o), (.int (2 : Int32))] ∧ Z.Warmed39 U.vm ∧ U.heap = h0) (fun _ _ _ _ _ => True) (fun _ U oc U' => ∃ v L, oc = .returned v ∧ Qini2 Z o u0 h0 n0 v U'.heap L ∧ FrameEnd U oc U' L ({ frames := 1, cells := 1, slots := 2, locals := 12 } : Room).cells ({ frames := 1, cells := 1, slots := 2, locals := 12 } : Room).slots) := by
  refine MetFree.of_bodySF (plainFor_of_name pnini2) hisR ?_
  intro p e s m args below meth c s₁ Bd hml0 hP hK
  obtain ⟨rfl, hZ, hh⟩ := hP
  have hx := Bd.exec
  have hby := Bd.bytes
  have hml : c.maxLocals = 2 := hml0
  have hown : s.vm.findClass "com/example/paranhos/paranhos/MatchRuns" = some m.cls := findClass_of_methodNamed Bd.named
  have hnm := (name_of_methodNamed Bd.named Bd.method).1
  have X0 : Stand p l e ({ frames := 1, cells := 1, slots := 2, locals := 12 } : Room) s m #[(.ref o), (.int (2 : Int32))] below meth c s₁ [] 0 0 := Stand.of_body Bd
  have e0 : s₁.heap = h0 := by rw [← hh, Bd.state]; rfl
  have N0 := Fr.nil n0
  show own_Go p e below (fun s₂ oc => ∃ v L, oc = .returned v ∧ Qini2 Z o u0 h0 n0 v s₂.heap L ∧ FrameEnd s oc s₂ L ({ frames := 1, cells := 1, slots := 2, locals := 12 } : Room).cells ({ frames := 1, cells := 1, slots := 2, locals := 12 } : Room).slots) s₁ (entryFrame m #[(.ref o), (.int (2 : Int32))] 2)
  refine own_Go.of (g' := mkF m 0 #[.val (.ref o), .val (.int (2 : Int32))] []) (fun t k => castTop (efini2 m o) k) ?_
  refine og_aloadN (pc' := 1) X0 hx (hb hby d2_0) rfl rfl rfl ?_
  obtain ⟨T1, X1, e1, st1⟩ := initO X0 hx hZ hown (hw _ (List.mem_of_getElem? (i := 10) rfl)) (hw _ (List.mem_of_getElem? (i := 11) rfl)) (hw _ (List.mem_of_getElem? (i := 12) rfl)) e0 (g := (mkF m 1 #[.val (.ref o), .val (.int (2 : Int32))] [(.ref o)])) rfl (by rw [hml]; rfl) rfl (hb hby d2_1) (by decide) (W := 0) (by show 2 * 0 + _ ≤ _; exact Nat.le_of_eq rfl) (by decide)
  refine own_Go.of (g' := (mkF m 4 #[.val (.ref o), .val (.int (2 : Int32))] [])) (fun t k => st1 _ k) ?_
  refine og_aloadN (pc' := 5) X1 hx (hb hby d2_4) rfl rfl rfl ?_
  refine og_iloadN (pc' := 6) X1 hx (hb hby d2_5) rfl rfl ?_
  obtain ⟨T2, h2, k2, X2, e2, E2, A2, st2⟩ := newP X1 hx hZ (hw _ (List.mem_of_getElem? (i := 13) rfl)) e1 (g := (mkF m 6 #[.val (.ref o), .val (.int (2 : Int32))] [(.int (2 : Int32)), (.ref o)])) rfl (hb hby d2_6) rfl (by decide) (cap := 2) (by decide) (by decide) (by decide) (by decide)
  obtain ⟨b2, g2⟩ : ∃ z, z = h0.size := ⟨_, rfl⟩
  rw [← g2] at A2 st2
  have ne2_0 : o ≠ b2 := Nat.ne_of_lt (Nat.lt_of_lt_of_le E_o.lt (Nat.le_of_eq g2.symm))
  have g_b2 : n0 ≤ b2 := Nat.le_trans Z0 (Nat.le_of_eq g2.symm)
  have sz_b2 : h0.size ≤ b2 := Nat.le_trans (Keep.refl h0 [o]).1 (Nat.le_of_eq g2.symm)
  have f2_0 := E_o.ext E2
  have f2_1 := F0_o.ext E2
  have f2_2 := F1_o.ext E2
  have V2 : Arv Z h2 b2 k2 .double (2 : Int32) [(.double (0 : UInt64)), (.double (0 : UInt64))] (.double (0 : UInt64)) := (Arv.new A2 (by decide)).pad (pad_rep [] (.double (0 : UInt64)) 2)
  have K2 : Keep h0 h2 [o] := (Keep.refl h0 [o]).ext E2
  have Z2 : n0 ≤ h2.size := Nat.le_trans Z0 K2.1
  refine own_Go.of (g' := (mkF m 8 #[.val (.ref o), .val (.int (2 : Int32))] [(.ref b2), (.ref o)])) (fun t k => st2 _ k) ?_
  obtain ⟨T3, h3, X3, e3, W3, st3⟩ := putF X2 hx hZ hown (host := "") (Or.inl (hw _ (List.mem_of_getElem? (i := 14) rfl))) Via.refl e2 f2_1 f2_0 (Or.inr ⟨(hw _ (List.mem_of_getElem? (i := 15) rfl)), rfl, hnm⟩) (hw _ (List.mem_of_getElem? (i := 5) rfl)) (ty := (.array .double)) (by decide) rfl rfl (g := (mkF m 8 #[.val (.ref o), .val (.int (2 : Int32))] [(.ref b2), (.ref o)])) rfl rfl (hb hby d2_8)
  have w3 : Fld Z h3 o "com/example/paranhos/paranhos/MatchRuns" "run" "[D" (.ref b2) := f2_1.same W3
  have f3_0 := f2_0.wr W3
  have f3_1 := f2_2.other W3 (Or.inr (slot_ne (a0 := a0) (C := "com/example/paranhos/paranhos/MatchRuns") (Or.inl (hw _ (List.mem_of_getElem? (i := 22) rfl))) (Or.inr (hw _ (List.mem_of_getElem? (i := 15) rfl))) (by decide) (t := .double) (t' := (.array .double)) (by decide) (by decide)))
  have f3_3 := V2.other W3 (Ne.symm ne2_0)
  have K3 : Keep h0 h3 [o] := K2.wr W3 (Or.inl (List.mem_of_getElem? (i := 0) rfl))
  have Z3 : n0 ≤ h3.size := Nat.le_trans Z0 K3.1
  have N3 := Fr.snoc X3 N0 g_o
  obtain ⟨J3, X3, N3⟩ := own_hide X3 N3
  refine own_Go.of (g' := (mkF m 11 #[.val (.ref o), .val (.int (2 : Int32))] [])) (fun t k => st3 _ k) ?_
  refine og_aloadN (pc' := 12) X3 hx (hb hby d2_11) rfl rfl rfl ?_
  obtain ⟨T4, X4, e4, st4⟩ := getF X3 hx hZ hown (host := "") (Or.inl (hw _ (List.mem_of_getElem? (i := 14) rfl))) Via.refl e3 w3 (g := (mkF m 12 #[.val (.ref o), .val (.int (2 : Int32))] [(.ref o)])) rfl rfl (hb hby d2_12)
  refine own_Go.of (g' := (mkF m 15 #[.val (.ref o), .val (.int (2 : Int32))] [(.ref b2)])) (fun t k => st4 _ k) ?_
  refine og_iconst (pc' := 16) (n := 0) X4 hx (hb hby d2_15) rfl rfl ?_
  refine og_dconst1 (pc' := 17) X4 hx (hb hby d2_16) own_o0 rfl ?_
  obtain ⟨cl5, Ar5, q5, S5, M5, H5, G5⟩ := id f3_3
  have hin5 : ¬ ((0 : Int32) < 0 ∨ cl5.slots.size ≤ ((0 : Int32)).toNatClampNeg) := inb_of S5 ⟨by decide, by decide⟩
  obtain ⟨T5, h5, X5, e5, W5, st5⟩ := stD X4 hx hZ e4 Ar5 (j := (0 : Int32)) hin5 (g := (mkF m 17 #[.val (.ref o), .val (.int (2 : Int32))] [(.double (own_D 0 1)), (.int (0 : Int32)), (.ref b2)])) rfl rfl (hb hby d2_17)
  have V5 : Arv Z h5 b2 k2 .double (2 : Int32) [(.double (own_D 0 1)), (.double (0 : UInt64))] (.double (0 : UInt64)) := Arv.set Ar5 q5 S5 M5 H5 G5 rfl W5 0 rfl (Nat.le_of_ble_eq_true rfl)
  have f5_0 := f3_0.wr W5
  have f5_1 := f3_1.other W5 (Or.inl ne2_0)
  have f5_3 := w3.other W5 (Or.inl ne2_0)
  have K5 : Keep h0 h5 [o] := K3.wr W5 (Or.inr sz_b2)
  have Z5 : n0 ≤ h5.size := Nat.le_trans Z0 K5.1
  have N5 := Fr.snoc X5 N3 g_b2
  obtain ⟨J5, X5, N5⟩ := own_hide X5 N5
  refine own_Go.of (g' := (mkF m 18 #[.val (.ref o), .val (.int (2 : Int32))] [])) (fun t k => st5 _ k) ?_
  obtain ⟨fs, hr, hrun, hended, hW, hsame⟩ := X5.leave (v := none) (fun _ => rfl) (BodyLoose.notSynchronized Bd)
  refine ⟨_, _, X5.returnOut hx Bd.returns (hb hby d2_18) hr, hrun, hended, none, _, rfl, ?_, ⟨_, rfl⟩, hW, hsame.mono (by decide) (by decide)⟩
  show Qini2 Z o u0 h0 n0 _ T5.heap _
  rw [e5]
  exact ⟨b2, k2, rfl, N5, K5, sz_b2, f5_0, f5_3, f5_1, V5⟩

theorem pnini3 : plainName "com/example/paranhos/paranhos/MatchRuns" = true := by first | (simp [plainName, overriddenIn]; done) | decide +kernel
theorem efini3 (m : MethodId) (z0 : Addr) : entryFrame m #[(.ref z0), (.int (3 : Int32))] 2 = mkF m 0 #[.val (.ref z0), .val (.int (3 : Int32))] [] := by first | (simp [entryFrame, mkF, argsToLocals, Value.category]; done) | rfl
def Qini3 (Z : State) (o : Addr) (u0 : Value) (h0 : Heap) (n0 : Nat) (v : Option Value) (h : Heap) (L : List Loc) : Prop := ∃ (b : Addr) (kk : ClassId), v = none ∧ Fr n0 L ∧ Keep h0 h [o] ∧ h0.size ≤ b ∧ Exa Z h o "com/example/paranhos/paranhos/MatchRuns" ∧ Fld Z h o "com/example/paranhos/paranhos/MatchRuns" "run" "[D" (.ref b) ∧ Fld Z h o "com/example/paranhos/paranhos/MatchRuns" "matched" "D" (.double (0 : UInt64)) ∧ Arv Z h b kk .double (3 : Int32) [(.double (own_D 0 1)), (.double (0 : UInt64)), (.double (0 : UInt64))] (.double (0 : UInt64))
set_option maxRecDepth 65536 in
set_option maxHeartbeats 40000000 in
theorem rmini3 (l : Launch) (Z : State) (a0 : Array Value) (hw : ∀ d ∈ tables_1, d.before a0 Z = true) (ws : List Jvm.Cond) (o : Addr) (u0 : Value) (h0 : Heap) (n0 : Nat) (Z0 : n0 ≤ h0.size) (E_o : Exa Z h0 o "com/example/paranhos/paranhos/MatchRuns") (F0_o : Fld Z h0 o "com/example/paranhos/paranhos/MatchRuns" "run" "[D" u0) (F1_o : Fld Z h0 o "com/example/paranhos/paranhos/MatchRuns" "matched" "D" (.double (0 : UInt64))) (g_o : n0 ≤ o) :
    MetFree l (⟨"com/example/paranhos/paranhos/MatchRuns", "<init>", "(I)V"⟩ : MethodName) (head1 (Jvm.Cond.code (⟨"com/example/paranhos/paranhos/MatchRuns", "<init>", "(I)V"⟩ : MethodName) prog_14_method_1_code 2 none :: ws) ({ frames := 1, cells := 1, slots := 3, locals := 12 } : Room)) (fun ag U => ag = #[(.ref o), (.int (3 : Int32))] ∧ Z.Warmed39 U.vm ∧ U.heap = h0) (fun _ _ _ _ _ => True) (fun _ U oc U' => ∃ v L, oc = .returned v ∧ Qini3 Z o u0 h0 n0 v U'.heap L ∧ FrameEnd U oc U' L ({ frames := 1, cells := 1, slots := 3, locals := 12 } : Room).cells ({ frames := 1, cells := 1, slots := 3, locals := 12 } : Room).slots) := by
  refine MetFree.of_bodySF (plainFor_of_name pnini3) hisR ?_
  intro p e s m args below meth c s₁ Bd hml0 hP hK
  obtain ⟨rfl, hZ, hh⟩ := hP
  have hx := Bd.exec
  have hby := Bd.bytes
  have hml : c.maxLocals = 2 := hml0
  have hown : s.vm.findClass "com/example/paranhos/paranhos/MatchRuns" = some m.cls := findClass_of_methodNamed Bd.named
  have hnm := (name_of_methodNamed Bd.named Bd.method).1
  have X0 : Stand p l e ({ frames := 1, cells := 1, slots := 3, locals := 12 } : Room) s m #[(.ref o), (.int (3 : Int32))] below meth c s₁ [] 0 0 := Stand.of_body Bd
  have e0 : s₁.heap = h0 := by rw [← hh, Bd.state]; rfl
  have N0 := Fr.nil n0
  show own_Go p e below (fun s₂ oc => ∃ v L, oc = .returned v ∧ Qini3 Z o u0 h0 n0 v s₂.heap L ∧ FrameEnd s oc s₂ L ({ frames := 1, cells := 1, slots := 3, locals := 12 } : Room).cells ({ frames := 1, cells := 1, slots := 3, locals := 12 } : Room).slots) s₁ (entryFrame m #[(.ref o), (.int (3 : Int32))] 2)
  refine own_Go.of (g' := mkF m 0 #[.val (.ref o), .val (.int (3 : Int32))] []) (fun t k => castTop (efini3 m o) k) ?_
  refine og_aloadN (pc' := 1) X0 hx (hb hby d2_0) rfl rfl rfl ?_
  obtain ⟨T1, X1, e1, st1⟩ := initO X0 hx hZ hown (hw _ (List.mem_of_getElem? (i := 10) rfl)) (hw _ (List.mem_of_getElem? (i := 11) rfl)) (hw _ (List.mem_of_getElem? (i := 12) rfl)) e0 (g := (mkF m 1 #[.val (.ref o), .val (.int (3 : Int32))] [(.ref o)])) rfl (by rw [hml]; rfl) rfl (hb hby d2_1) (by decide) (W := 0) (by show 2 * 0 + _ ≤ _; exact Nat.le_of_eq rfl) (by decide)
  refine own_Go.of (g' := (mkF m 4 #[.val (.ref o), .val (.int (3 : Int32))] [])) (fun t k => st1 _ k) ?_
  refine og_aloadN (pc' := 5) X1 hx (hb hby d2_4) rfl rfl rfl ?_
  refine og_iloadN (pc' := 6) X1 hx (hb hby d2_5) rfl rfl ?_
  obtain ⟨T2, h2, k2, X2, e2, E2, A2, st2⟩ := newP X1 hx hZ (hw _ (List.mem_of_getElem? (i := 13) rfl)) e1 (g := (mkF m 6 #[.val (.ref o), .val (.int (3 : Int32))] [(.int (3 : Int32)), (.ref o)])) rfl (hb hby d2_6) rfl (by decide) (cap := 3) (by decide) (by decide) (by decide) (by decide)
  obtain ⟨b2, g2⟩ : ∃ z, z = h0.size := ⟨_, rfl⟩
  rw [← g2] at A2 st2
  have ne2_0 : o ≠ b2 := Nat.ne_of_lt (Nat.lt_of_lt_of_le E_o.lt (Nat.le_of_eq g2.symm))
  have g_b2 : n0 ≤ b2 := Nat.le_trans Z0 (Nat.le_of_eq g2.symm)
  have sz_b2 : h0.size ≤ b2 := Nat.le_trans (Keep.refl h0 [o]).1 (Nat.le_of_eq g2.symm)
  have f2_0 := E_o.ext E2
  have f2_1 := F0_o.ext E2
  have f2_2 := F1_o.ext E2
  have V2 : Arv Z h2 b2 k2 .double (3 : Int32) [(.double (0 : UInt64)), (.double (0 : UInt64)), (.double (0 : UInt64))] (.double (0 : UInt64)) := (Arv.new A2 (by decide)).pad (pad_rep [] (.double (0 : UInt64)) 3)
  have K2 : Keep h0 h2 [o] := (Keep.refl h0 [o]).ext E2
  have Z2 : n0 ≤ h2.size := Nat.le_trans Z0 K2.1
  refine own_Go.of (g' := (mkF m 8 #[.val (.ref o), .val (.int (3 : Int32))] [(.ref b2), (.ref o)])) (fun t k => st2 _ k) ?_
  obtain ⟨T3, h3, X3, e3, W3, st3⟩ := putF X2 hx hZ hown (host := "") (Or.inl (hw _ (List.mem_of_getElem? (i := 14) rfl))) Via.refl e2 f2_1 f2_0 (Or.inr ⟨(hw _ (List.mem_of_getElem? (i := 15) rfl)), rfl, hnm⟩) (hw _ (List.mem_of_getElem? (i := 5) rfl)) (ty := (.array .double)) (by decide) rfl rfl (g := (mkF m 8 #[.val (.ref o), .val (.int (3 : Int32))] [(.ref b2), (.ref o)])) rfl rfl (hb hby d2_8)
  have w3 : Fld Z h3 o "com/example/paranhos/paranhos/MatchRuns" "run" "[D" (.ref b2) := f2_1.same W3
  have f3_0 := f2_0.wr W3
  have f3_1 := f2_2.other W3 (Or.inr (slot_ne (a0 := a0) (C := "com/example/paranhos/paranhos/MatchRuns") (Or.inl (hw _ (List.mem_of_getElem? (i := 22) rfl))) (Or.inr (hw _ (List.mem_of_getElem? (i := 15) rfl))) (by decide) (t := .double) (t' := (.array .double)) (by decide) (by decide)))
  have f3_3 := V2.other W3 (Ne.symm ne2_0)
  have K3 : Keep h0 h3 [o] := K2.wr W3 (Or.inl (List.mem_of_getElem? (i := 0) rfl))
  have Z3 : n0 ≤ h3.size := Nat.le_trans Z0 K3.1
  have N3 := Fr.snoc X3 N0 g_o
  obtain ⟨J3, X3, N3⟩ := own_hide X3 N3
  refine own_Go.of (g' := (mkF m 11 #[.val (.ref o), .val (.int (3 : Int32))] [])) (fun t k => st3 _ k) ?_
  refine og_aloadN (pc' := 12) X3 hx (hb hby d2_11) rfl rfl rfl ?_
  obtain ⟨T4, X4, e4, st4⟩ := getF X3 hx hZ hown (host := "") (Or.inl (hw _ (List.mem_of_getElem? (i := 14) rfl))) Via.refl e3 w3 (g := (mkF m 12 #[.val (.ref o), .val (.int (3 : Int32))] [(.ref o)])) rfl rfl (hb hby d2_12)
  refine own_Go.of (g' := (mkF m 15 #[.val (.ref o), .val (.int (3 : Int32))] [(.ref b2)])) (fun t k => st4 _ k) ?_
  refine og_iconst (pc' := 16) (n := 0) X4 hx (hb hby d2_15) rfl rfl ?_
  refine og_dconst1 (pc' := 17) X4 hx (hb hby d2_16) own_o0 rfl ?_
  obtain ⟨cl5, Ar5, q5, S5, M5, H5, G5⟩ := id f3_3
  have hin5 : ¬ ((0 : Int32) < 0 ∨ cl5.slots.size ≤ ((0 : Int32)).toNatClampNeg) := inb_of S5 ⟨by decide, by decide⟩
  obtain ⟨T5, h5, X5, e5, W5, st5⟩ := stD X4 hx hZ e4 Ar5 (j := (0 : Int32)) hin5 (g := (mkF m 17 #[.val (.ref o), .val (.int (3 : Int32))] [(.double (own_D 0 1)), (.int (0 : Int32)), (.ref b2)])) rfl rfl (hb hby d2_17)
  have V5 : Arv Z h5 b2 k2 .double (3 : Int32) [(.double (own_D 0 1)), (.double (0 : UInt64)), (.double (0 : UInt64))] (.double (0 : UInt64)) := Arv.set Ar5 q5 S5 M5 H5 G5 rfl W5 0 rfl (Nat.le_of_ble_eq_true rfl)
  have f5_0 := f3_0.wr W5
  have f5_1 := f3_1.other W5 (Or.inl ne2_0)
  have f5_3 := w3.other W5 (Or.inl ne2_0)
  have K5 : Keep h0 h5 [o] := K3.wr W5 (Or.inr sz_b2)
  have Z5 : n0 ≤ h5.size := Nat.le_trans Z0 K5.1
  have N5 := Fr.snoc X5 N3 g_b2
  obtain ⟨J5, X5, N5⟩ := own_hide X5 N5
  refine own_Go.of (g' := (mkF m 18 #[.val (.ref o), .val (.int (3 : Int32))] [])) (fun t k => st5 _ k) ?_
  obtain ⟨fs, hr, hrun, hended, hW, hsame⟩ := X5.leave (v := none) (fun _ => rfl) (BodyLoose.notSynchronized Bd)
  refine ⟨_, _, X5.returnOut hx Bd.returns (hb hby d2_18) hr, hrun, hended, none, _, rfl, ?_, ⟨_, rfl⟩, hW, hsame.mono (by decide) (by decide)⟩
  show Qini3 Z o u0 h0 n0 _ T5.heap _
  rw [e5]
  exact ⟨b2, k2, rfl, N5, K5, sz_b2, f5_0, f5_3, f5_1, V5⟩

theorem pnini4 : plainName "com/example/paranhos/paranhos/MatchRuns" = true := by first | (simp [plainName, overriddenIn]; done) | decide +kernel
theorem efini4 (m : MethodId) (z0 : Addr) : entryFrame m #[(.ref z0), (.int (4 : Int32))] 2 = mkF m 0 #[.val (.ref z0), .val (.int (4 : Int32))] [] := by first | (simp [entryFrame, mkF, argsToLocals, Value.category]; done) | rfl
def Qini4 (Z : State) (o : Addr) (u0 : Value) (h0 : Heap) (n0 : Nat) (v : Option Value) (h : Heap) (L : List Loc) : Prop := ∃ (b : Addr) (kk : ClassId), v = none ∧ Fr n0 L ∧ Keep h0 h [o] ∧ h0.size ≤ b ∧ Exa Z h o "com/example/paranhos/paranhos/MatchRuns" ∧ Fld Z h o "com/example/paranhos/paranhos/MatchRuns" "run" "[D" (.ref b) ∧ Fld Z h o "com/example/paranhos/paranhos/MatchRuns" "matched" "D" (.double (0 : UInt64)) ∧ Arv Z h b kk .double (4 : Int32) [(.double (own_D 0 1)), (.double (0 : UInt64)), (.double (0 : UInt64)), (.double (0 : UInt64))] (.double (0 : UInt64))
set_option maxRecDepth 65536 in
set_option maxHeartbeats 40000000 in
theorem rmini4 (l : Launch) (Z : State) (a0 : Array Value) (hw : ∀ d ∈ tables_1, d.before a0 Z = true) (ws : List Jvm.Cond) (o : Addr) (u0 : Value) (h0 : Heap) (n0 : Nat) (Z0 : n0 ≤ h0.size) (E_o : Exa Z h0 o "com/example/paranhos/paranhos/MatchRuns") (F0_o : Fld Z h0 o "com/example/paranhos/paranhos/MatchRuns" "run" "[D" u0) (F1_o : Fld Z h0 o "com/example/paranhos/paranhos/MatchRuns" "matched" "D" (.double (0 : UInt64))) (g_o : n0 ≤ o) :
    MetFree l (⟨"com/example/paranhos/paranhos/MatchRuns", "<init>", "(I)V"⟩ : MethodName) (head1 (Jvm.Cond.code (⟨"com/example/paranhos/paranhos/MatchRuns", "<init>", "(I)V"⟩ : MethodName) prog_14_method_1_code 2 none :: ws) ({ frames := 1, cells := 1, slots := 4, locals := 12 } : Room)) (fun ag U => ag = #[(.ref o), (.int (4 : Int32))] ∧ Z.Warmed39 U.vm ∧ U.heap = h0) (fun _ _ _ _ _ => True) (fun _ U oc U' => ∃ v L, oc = .returned v ∧ Qini4 Z o u0 h0 n0 v U'.heap L ∧ FrameEnd U oc U' L ({ frames := 1, cells := 1, slots := 4, locals := 12 } : Room).cells ({ frames := 1, cells := 1, slots := 4, locals := 12 } : Room).slots) := by
  refine MetFree.of_bodySF (plainFor_of_name pnini4) hisR ?_
  intro p e s m args below meth c s₁ Bd hml0 hP hK
  obtain ⟨rfl, hZ, hh⟩ := hP
  have hx := Bd.exec
  have hby := Bd.bytes
  have hml : c.maxLocals = 2 := hml0
  have hown : s.vm.findClass "com/example/paranhos/paranhos/MatchRuns" = some m.cls := findClass_of_methodNamed Bd.named
  have hnm := (name_of_methodNamed Bd.named Bd.method).1
  have X0 : Stand p l e ({ frames := 1, cells := 1, slots := 4, locals := 12 } : Room) s m #[(.ref o), (.int (4 : Int32))] below meth c s₁ [] 0 0 := Stand.of_body Bd
  have e0 : s₁.heap = h0 := by rw [← hh, Bd.state]; rfl
  have N0 := Fr.nil n0
  show own_Go p e below (fun s₂ oc => ∃ v L, oc = .returned v ∧ Qini4 Z o u0 h0 n0 v s₂.heap L ∧ FrameEnd s oc s₂ L ({ frames := 1, cells := 1, slots := 4, locals := 12 } : Room).cells ({ frames := 1, cells := 1, slots := 4, locals := 12 } : Room).slots) s₁ (entryFrame m #[(.ref o), (.int (4 : Int32))] 2)
  refine own_Go.of (g' := mkF m 0 #[.val (.ref o), .val (.int (4 : Int32))] []) (fun t k => castTop (efini4 m o) k) ?_
  refine og_aloadN (pc' := 1) X0 hx (hb hby d2_0) rfl rfl rfl ?_
  obtain ⟨T1, X1, e1, st1⟩ := initO X0 hx hZ hown (hw _ (List.mem_of_getElem? (i := 10) rfl)) (hw _ (List.mem_of_getElem? (i := 11) rfl)) (hw _ (List.mem_of_getElem? (i := 12) rfl)) e0 (g := (mkF m 1 #[.val (.ref o), .val (.int (4 : Int32))] [(.ref o)])) rfl (by rw [hml]; rfl) rfl (hb hby d2_1) (by decide) (W := 0) (by show 2 * 0 + _ ≤ _; exact Nat.le_of_eq rfl) (by decide)
  refine own_Go.of (g' := (mkF m 4 #[.val (.ref o), .val (.int (4 : Int32))] [])) (fun t k => st1 _ k) ?_
  refine og_aloadN (pc' := 5) X1 hx (hb hby d2_4) rfl rfl rfl ?_
  refine og_iloadN (pc' := 6) X1 hx (hb hby d2_5) rfl rfl ?_
  obtain ⟨T2, h2, k2, X2, e2, E2, A2, st2⟩ := newP X1 hx hZ (hw _ (List.mem_of_getElem? (i := 13) rfl)) e1 (g := (mkF m 6 #[.val (.ref o), .val (.int (4 : Int32))] [(.int (4 : Int32)), (.ref o)])) rfl (hb hby d2_6) rfl (by decide) (cap := 4) (by decide) (by decide) (by decide) (by decide)
  obtain ⟨b2, g2⟩ : ∃ z, z = h0.size := ⟨_, rfl⟩
  rw [← g2] at A2 st2
  have ne2_0 : o ≠ b2 := Nat.ne_of_lt (Nat.lt_of_lt_of_le E_o.lt (Nat.le_of_eq g2.symm))
  have g_b2 : n0 ≤ b2 := Nat.le_trans Z0 (Nat.le_of_eq g2.symm)
  have sz_b2 : h0.size ≤ b2 := Nat.le_trans (Keep.refl h0 [o]).1 (Nat.le_of_eq g2.symm)
  have f2_0 := E_o.ext E2
  have f2_1 := F0_o.ext E2
  have f2_2 := F1_o.ext E2
  have V2 : Arv Z h2 b2 k2 .double (4 : Int32) [(.double (0 : UInt64)), (.double (0 : UInt64)), (.double (0 : UInt64)), (.double (0 : UInt64))] (.double (0 : UInt64)) := (Arv.new A2 (by decide)).pad (pad_rep [] (.double (0 : UInt64)) 4)
  have K2 : Keep h0 h2 [o] := (Keep.refl h0 [o]).ext E2
  have Z2 : n0 ≤ h2.size := Nat.le_trans Z0 K2.1
  refine own_Go.of (g' := (mkF m 8 #[.val (.ref o), .val (.int (4 : Int32))] [(.ref b2), (.ref o)])) (fun t k => st2 _ k) ?_
  obtain ⟨T3, h3, X3, e3, W3, st3⟩ := putF X2 hx hZ hown (host := "") (Or.inl (hw _ (List.mem_of_getElem? (i := 14) rfl))) Via.refl e2 f2_1 f2_0 (Or.inr ⟨(hw _ (List.mem_of_getElem? (i := 15) rfl)), rfl, hnm⟩) (hw _ (List.mem_of_getElem? (i := 5) rfl)) (ty := (.array .double)) (by decide) rfl rfl (g := (mkF m 8 #[.val (.ref o), .val (.int (4 : Int32))] [(.ref b2), (.ref o)])) rfl rfl (hb hby d2_8)
  have w3 : Fld Z h3 o "com/example/paranhos/paranhos/MatchRuns" "run" "[D" (.ref b2) := f2_1.same W3
  have f3_0 := f2_0.wr W3
  have f3_1 := f2_2.other W3 (Or.inr (slot_ne (a0 := a0) (C := "com/example/paranhos/paranhos/MatchRuns") (Or.inl (hw _ (List.mem_of_getElem? (i := 22) rfl))) (Or.inr (hw _ (List.mem_of_getElem? (i := 15) rfl))) (by decide) (t := .double) (t' := (.array .double)) (by decide) (by decide)))
  have f3_3 := V2.other W3 (Ne.symm ne2_0)
  have K3 : Keep h0 h3 [o] := K2.wr W3 (Or.inl (List.mem_of_getElem? (i := 0) rfl))
  have Z3 : n0 ≤ h3.size := Nat.le_trans Z0 K3.1
  have N3 := Fr.snoc X3 N0 g_o
  obtain ⟨J3, X3, N3⟩ := own_hide X3 N3
  refine own_Go.of (g' := (mkF m 11 #[.val (.ref o), .val (.int (4 : Int32))] [])) (fun t k => st3 _ k) ?_
  refine og_aloadN (pc' := 12) X3 hx (hb hby d2_11) rfl rfl rfl ?_
  obtain ⟨T4, X4, e4, st4⟩ := getF X3 hx hZ hown (host := "") (Or.inl (hw _ (List.mem_of_getElem? (i := 14) rfl))) Via.refl e3 w3 (g := (mkF m 12 #[.val (.ref o), .val (.int (4 : Int32))] [(.ref o)])) rfl rfl (hb hby d2_12)
  refine own_Go.of (g' := (mkF m 15 #[.val (.ref o), .val (.int (4 : Int32))] [(.ref b2)])) (fun t k => st4 _ k) ?_
  refine og_iconst (pc' := 16) (n := 0) X4 hx (hb hby d2_15) rfl rfl ?_
  refine og_dconst1 (pc' := 17) X4 hx (hb hby d2_16) own_o0 rfl ?_
  obtain ⟨cl5, Ar5, q5, S5, M5, H5, G5⟩ := id f3_3
  have hin5 : ¬ ((0 : Int32) < 0 ∨ cl5.slots.size ≤ ((0 : Int32)).toNatClampNeg) := inb_of S5 ⟨by decide, by decide⟩
  obtain ⟨T5, h5, X5, e5, W5, st5⟩ := stD X4 hx hZ e4 Ar5 (j := (0 : Int32)) hin5 (g := (mkF m 17 #[.val (.ref o), .val (.int (4 : Int32))] [(.double (own_D 0 1)), (.int (0 : Int32)), (.ref b2)])) rfl rfl (hb hby d2_17)
  have V5 : Arv Z h5 b2 k2 .double (4 : Int32) [(.double (own_D 0 1)), (.double (0 : UInt64)), (.double (0 : UInt64)), (.double (0 : UInt64))] (.double (0 : UInt64)) := Arv.set Ar5 q5 S5 M5 H5 G5 rfl W5 0 rfl (Nat.le_of_ble_eq_true rfl)
  have f5_0 := f3_0.wr W5
  have f5_1 := f3_1.other W5 (Or.inl ne2_0)
  have f5_3 := w3.other W5 (Or.inl ne2_0)
  have K5 : Keep h0 h5 [o] := K3.wr W5 (Or.inr sz_b2)
  have Z5 : n0 ≤ h5.size := Nat.le_trans Z0 K5.1
  have N5 := Fr.snoc X5 N3 g_b2
  obtain ⟨J5, X5, N5⟩ := own_hide X5 N5
  refine own_Go.of (g' := (mkF m 18 #[.val (.ref o), .val (.int (4 : Int32))] [])) (fun t k => st5 _ k) ?_
  obtain ⟨fs, hr, hrun, hended, hW, hsame⟩ := X5.leave (v := none) (fun _ => rfl) (BodyLoose.notSynchronized Bd)
  refine ⟨_, _, X5.returnOut hx Bd.returns (hb hby d2_18) hr, hrun, hended, none, _, rfl, ?_, ⟨_, rfl⟩, hW, hsame.mono (by decide) (by decide)⟩
  show Qini4 Z o u0 h0 n0 _ T5.heap _
  rw [e5]
  exact ⟨b2, k2, rfl, N5, K5, sz_b2, f5_0, f5_3, f5_1, V5⟩

theorem pnini5 : plainName "com/example/paranhos/paranhos/MatchRuns" = true := by first | (simp [plainName, overriddenIn]; done) | decide +kernel
theorem efini5 (m : MethodId) (z0 : Addr) : entryFrame m #[(.ref z0), (.int (5 : Int32))] 2 = mkF m 0 #[.val (.ref z0), .val (.int (5 : Int32))] [] := by first | (simp [entryFrame, mkF, argsToLocals, Value.category]; done) | rfl
def Qini5 (Z : State) (o : Addr) (u0 : Value) (h0 : Heap) (n0 : Nat) (v : Option Value) (h : Heap) (L : List Loc) : Prop := ∃ (b : Addr) (kk : ClassId), v = none ∧ Fr n0 L ∧ Keep h0 h [o] ∧ h0.size ≤ b ∧ Exa Z h o "com/example/paranhos/paranhos/MatchRuns" ∧ Fld Z h o "com/example/paranhos/paranhos/MatchRuns" "run" "[D" (.ref b) ∧ Fld Z h o "com/example/paranhos/paranhos/MatchRuns" "matched" "D" (.double (0 : UInt64)) ∧ Arv Z h b kk .double (5 : Int32) [(.double (own_D 0 1)), (.double (0 : UInt64)), (.double (0 : UInt64)), (.double (0 : UInt64)), (.double (0 : UInt64))] (.double (0 : UInt64))
set_option maxRecDepth 65536 in
set_option maxHeartbeats 40000000 in
theorem rmini5 (l : Launch) (Z : State) (a0 : Array Value) (hw : ∀ d ∈ tables_1, d.before a0 Z = true) (ws : List Jvm.Cond) (o : Addr) (u0 : Value) (h0 : Heap) (n0 : Nat) (Z0 : n0 ≤ h0.size) (E_o : Exa Z h0 o "com/example/paranhos/paranhos/MatchRuns") (F0_o : Fld Z h0 o "com/example/paranhos/paranhos/MatchRuns" "run" "[D" u0) (F1_o : Fld Z h0 o "com/example/paranhos/paranhos/MatchRuns" "matched" "D" (.double (0 : UInt64))) (g_o : n0 ≤ o) :
    MetFree l (⟨"com/example/paranhos/paranhos/MatchRuns", "<init>", "(I)V"⟩ : MethodName) (head1 (Jvm.Cond.code (⟨"com/example/paranhos/paranhos/MatchRuns", "<init>", "(I)V"⟩ : MethodName) prog_14_method_1_code 2 none :: ws) ({ frames := 1, cells := 1, slots := 5, locals := 12 } : Room)) (fun ag U => ag = #[(.ref o), (.int (5 : Int32))] ∧ Z.Warmed39 U.vm ∧ U.heap = h0) (fun _ _ _ _ _ => True) (fun _ U oc U' => ∃ v L, oc = .returned v ∧ Qini5 Z o u0 h0 n0 v U'.heap L ∧ FrameEnd U oc U' L ({ frames := 1, cells := 1, slots := 5, locals := 12 } : Room).cells ({ frames := 1, cells := 1, slots := 5, locals := 12 } : Room).slots) := by
  refine MetFree.of_bodySF (plainFor_of_name pnini5) hisR ?_
  intro p e s m args below meth c s₁ Bd hml0 hP hK
  obtain ⟨rfl, hZ, hh⟩ := hP
  have hx := Bd.exec
  have hby := Bd.bytes
  have hml : c.maxLocals = 2 := hml0
  have hown : s.vm.findClass "com/example/paranhos/paranhos/MatchRuns" = some m.cls := findClass_of_methodNamed Bd.named
  have hnm := (name_of_methodNamed Bd.named Bd.method).1
  have X0 : Stand p l e ({ frames := 1, cells := 1, slots := 5, locals := 12 } : Room) s m #[(.ref o), (.int (5 : Int32))] below meth c s₁ [] 0 0 := Stand.of_body Bd
  have e0 : s₁.heap = h0 := by rw [← hh, Bd.state]; rfl
  have N0 := Fr.nil n0
  show own_Go p e below (fun s₂ oc => ∃ v L, oc = .returned v ∧ Qini5 Z o u0 h0 n0 v s₂.heap L ∧ FrameEnd s oc s₂ L ({ frames := 1, cells := 1, slots := 5, locals := 12 } : Room).cells ({ frames := 1, cells := 1, slots := 5, locals := 12 } : Room).slots) s₁ (entryFrame m #[(.ref o), (.int (5 : Int32))] 2)
  refine own_Go.of (g' := mkF m 0 #[.val (.ref o), .val (.int (5 : Int32))] []) (fun t k => castTop (efini5 m o) k) ?_
  refine og_aloadN (pc' := 1) X0 hx (hb hby d2_0) rfl rfl rfl ?_
  obtain ⟨T1, X1, e1, st1⟩ := initO X0 hx hZ hown (hw _ (List.mem_of_getElem? (i := 10) rfl)) (hw _ (List.mem_of_getElem? (i := 11) rfl)) (hw _ (List.mem_of_getElem? (i := 12) rfl)) e0 (g := (mkF m 1 #[.val (.ref o), .val (.int (5 : Int32))] [(.ref o)])) rfl (by rw [hml]; rfl) rfl (hb hby d2_1) (by decide) (W := 0) (by show 2 * 0 + _ ≤ _; exact Nat.le_of_eq rfl) (by decide)
  refine own_Go.of (g' := (mkF m 4 #[.val (.ref o), .val (.int (5 : Int32))] [])) (fun t k => st1 _ k) ?_
  refine og_aloadN (pc' := 5) X1 hx (hb hby d2_4) rfl rfl rfl ?_
  refine og_iloadN (pc' := 6) X1 hx (hb hby d2_5) rfl rfl ?_
  obtain ⟨T2, h2, k2, X2, e2, E2, A2, st2⟩ := newP X1 hx hZ (hw _ (List.mem_of_getElem? (i := 13) rfl)) e1 (g := (mkF m 6 #[.val (.ref o), .val (.int (5 : Int32))] [(.int (5 : Int32)), (.ref o)])) rfl (hb hby d2_6) rfl (by decide) (cap := 5) (by decide) (by decide) (by decide) (by decide)
  obtain ⟨b2, g2⟩ : ∃ z, z = h0.size := ⟨_, rfl⟩
  rw [← g2] at A2 st2
  have ne2_0 : o ≠ b2 := Nat.ne_of_lt (Nat.lt_of_lt_of_le E_o.lt (Nat.le_of_eq g2.symm))
  have g_b2 : n0 ≤ b2 := Nat.le_trans Z0 (Nat.le_of_eq g2.symm)
  have sz_b2 : h0.size ≤ b2 := Nat.le_trans (Keep.refl h0 [o]).1 (Nat.le_of_eq g2.symm)
  have f2_0 := E_o.ext E2
  have f2_1 := F0_o.ext E2
  have f2_2 := F1_o.ext E2
  have V2 : Arv Z h2 b2 k2 .double (5 : Int32) [(.double (0 : UInt64)), (.double (0 : UInt64)), (.double (0 : UInt64)), (.double (0 : UInt64)), (.double (0 : UInt64))] (.double (0 : UInt64)) := (Arv.new A2 (by decide)).pad (pad_rep [] (.double (0 : UInt64)) 5)
  have K2 : Keep h0 h2 [o] := (Keep.refl h0 [o]).ext E2
  have Z2 : n0 ≤ h2.size := Nat.le_trans Z0 K2.1
  refine own_Go.of (g' := (mkF m 8 #[.val (.ref o), .val (.int (5 : Int32))] [(.ref b2), (.ref o)])) (fun t k => st2 _ k) ?_
  obtain ⟨T3, h3, X3, e3, W3, st3⟩ := putF X2 hx hZ hown (host := "") (Or.inl (hw _ (List.mem_of_getElem? (i := 14) rfl))) Via.refl e2 f2_1 f2_0 (Or.inr ⟨(hw _ (List.mem_of_getElem? (i := 15) rfl)), rfl, hnm⟩) (hw _ (List.mem_of_getElem? (i := 5) rfl)) (ty := (.array .double)) (by decide) rfl rfl (g := (mkF m 8 #[.val (.ref o), .val (.int (5 : Int32))] [(.ref b2), (.ref o)])) rfl rfl (hb hby d2_8)
  have w3 : Fld Z h3 o "com/example/paranhos/paranhos/MatchRuns" "run" "[D" (.ref b2) := f2_1.same W3
  have f3_0 := f2_0.wr W3
  have f3_1 := f2_2.other W3 (Or.inr (slot_ne (a0 := a0) (C := "com/example/paranhos/paranhos/MatchRuns") (Or.inl (hw _ (List.mem_of_getElem? (i := 22) rfl))) (Or.inr (hw _ (List.mem_of_getElem? (i := 15) rfl))) (by decide) (t := .double) (t' := (.array .double)) (by decide) (by decide)))
  have f3_3 := V2.other W3 (Ne.symm ne2_0)
  have K3 : Keep h0 h3 [o] := K2.wr W3 (Or.inl (List.mem_of_getElem? (i := 0) rfl))
  have Z3 : n0 ≤ h3.size := Nat.le_trans Z0 K3.1
  have N3 := Fr.snoc X3 N0 g_o
  obtain ⟨J3, X3, N3⟩ := own_hide X3 N3
  refine own_Go.of (g' := (mkF m 11 #[.val (.ref o), .val (.int (5 : Int32))] [])) (fun t k => st3 _ k) ?_
  refine og_aloadN (pc' := 12) X3 hx (hb hby d2_11) rfl rfl rfl ?_
  obtain ⟨T4, X4, e4, st4⟩ := getF X3 hx hZ hown (host := "") (Or.inl (hw _ (List.mem_of_getElem? (i := 14) rfl))) Via.refl e3 w3 (g := (mkF m 12 #[.val (.ref o), .val (.int (5 : Int32))] [(.ref o)])) rfl rfl (hb hby d2_12)
  refine own_Go.of (g' := (mkF m 15 #[.val (.ref o), .val (.int (5 : Int32))] [(.ref b2)])) (fun t k => st4 _ k) ?_
  refine og_iconst (pc' := 16) (n := 0) X4 hx (hb hby d2_15) rfl rfl ?_
  refine og_dconst1 (pc' := 17) X4 hx (hb hby d2_16) own_o0 rfl ?_
  obtain ⟨cl5, Ar5, q5, S5, M5, H5, G5⟩ := id f3_3
  have hin5 : ¬ ((0 : Int32) < 0 ∨ cl5.slots.size ≤ ((0 : Int32)).toNatClampNeg) := inb_of S5 ⟨by decide, by decide⟩
  obtain ⟨T5, h5, X5, e5, W5, st5⟩ := stD X4 hx hZ e4 Ar5 (j := (0 : Int32)) hin5 (g := (mkF m 17 #[.val (.ref o), .val (.int (5 : Int32))] [(.double (own_D 0 1)), (.int (0 : Int32)), (.ref b2)])) rfl rfl (hb hby d2_17)
  have V5 : Arv Z h5 b2 k2 .double (5 : Int32) [(.double (own_D 0 1)), (.double (0 : UInt64)), (.double (0 : UInt64)), (.double (0 : UInt64)), (.double (0 : UInt64))] (.double (0 : UInt64)) := Arv.set Ar5 q5 S5 M5 H5 G5 rfl W5 0 rfl (Nat.le_of_ble_eq_true rfl)
  have f5_0 := f3_0.wr W5
  have f5_1 := f3_1.other W5 (Or.inl ne2_0)
  have f5_3 := w3.other W5 (Or.inl ne2_0)
  have K5 : Keep h0 h5 [o] := K3.wr W5 (Or.inr sz_b2)
  have Z5 : n0 ≤ h5.size := Nat.le_trans Z0 K5.1
  have N5 := Fr.snoc X5 N3 g_b2
  obtain ⟨J5, X5, N5⟩ := own_hide X5 N5
  refine own_Go.of (g' := (mkF m 18 #[.val (.ref o), .val (.int (5 : Int32))] [])) (fun t k => st5 _ k) ?_
  obtain ⟨fs, hr, hrun, hended, hW, hsame⟩ := X5.leave (v := none) (fun _ => rfl) (BodyLoose.notSynchronized Bd)
  refine ⟨_, _, X5.returnOut hx Bd.returns (hb hby d2_18) hr, hrun, hended, none, _, rfl, ?_, ⟨_, rfl⟩, hW, hsame.mono (by decide) (by decide)⟩
  show Qini5 Z o u0 h0 n0 _ T5.heap _
  rw [e5]
  exact ⟨b2, k2, rfl, N5, K5, sz_b2, f5_0, f5_3, f5_1, V5⟩

theorem d4_0 : decode prog_14_method_5_code 0 = .ok (.aload_n 0, 1) := by decide +kernel
theorem d4_1 : decode prog_14_method_5_code 1 = .ok (.getfield 18, 3) := by decide +kernel
theorem d4_4 : decode prog_14_method_5_code 4 = .ok (.dreturn, 1) := by decide +kernel
theorem pnmat : plainName "com/example/paranhos/paranhos/MatchRuns" = true := by first | (simp [plainName, overriddenIn]; done) | decide +kernel
theorem efmat (m : MethodId) (z0 : Addr) : entryFrame m #[(.ref z0)] 1 = mkF m 0 #[.val (.ref z0)] [] := by first | (simp [entryFrame, mkF, argsToLocals, Value.category]; done) | rfl
def Qmat (Z : State) (o : Addr) (mm : UInt64) (h0 : Heap) (n0 : Nat) (v : Option Value) (h : Heap) (L : List Loc) : Prop := v = some (.double mm) ∧ Fr n0 L ∧ h = h0
set_option maxRecDepth 65536 in
set_option maxHeartbeats 40000000 in
theorem rmmat (l : Launch) (Z : State) (a0 : Array Value) (hw : ∀ d ∈ tables_1, d.before a0 Z = true) (ws : List Jvm.Cond) (o : Addr) (mm : UInt64) (h0 : Heap) (n0 : Nat) (Z0 : n0 ≤ h0.size) (F_o : Fld Z h0 o "com/example/paranhos/paranhos/MatchRuns" "matched" "D" (.double mm)) :
    MetFree l (⟨"com/example/paranhos/paranhos/MatchRuns", "matched", "()D"⟩ : MethodName) (head1 (Jvm.Cond.code (⟨"com/example/paranhos/paranhos/MatchRuns", "matched", "()D"⟩ : MethodName) prog_14_method_5_code 1 (some .double) :: ws) ({ frames := 0, cells := 0, slots := 0, locals := 0 } : Room)) (fun ag U => ag = #[(.ref o)] ∧ Z.Warmed39 U.vm ∧ U.heap = h0) (fun _ _ _ _ _ => True) (fun _ U oc U' => ∃ v L, oc = .returned v ∧ Qmat Z o mm h0 n0 v U'.heap L ∧ FrameEnd U oc U' L ({ frames := 0, cells := 0, slots := 0, locals := 0 } : Room).cells ({ frames := 0, cells := 0, slots := 0, locals := 0 } : Room).slots) := by
  refine MetFree.of_bodySF (plainFor_of_name pnmat) hisR ?_
  intro p e s m args below meth c s₁ Bd hml0 hP hK
  obtain ⟨rfl, hZ, hh⟩ := hP
  have hx := Bd.exec
  have hby := Bd.bytes
  have hml : c.maxLocals = 1 := hml0
  have hown : s.vm.findClass "com/example/paranhos/paranhos/MatchRuns" = some m.cls := findClass_of_methodNamed Bd.named
  have hnm := (name_of_methodNamed Bd.named Bd.method).1
  have X0 : Stand p l e ({ frames := 0, cells := 0, slots := 0, locals := 0 } : Room) s m #[(.ref o)] below meth c s₁ [] 0 0 := Stand.of_body Bd
  have e0 : s₁.heap = h0 := by rw [← hh, Bd.state]; rfl
  have N0 := Fr.nil n0
  show own_Go p e below (fun s₂ oc => ∃ v L, oc = .returned v ∧ Qmat Z o mm h0 n0 v s₂.heap L ∧ FrameEnd s oc s₂ L ({ frames := 0, cells := 0, slots := 0, locals := 0 } : Room).cells ({ frames := 0, cells := 0, slots := 0, locals := 0 } : Room).slots) s₁ (entryFrame m #[(.ref o)] 1)
  refine own_Go.of (g' := mkF m 0 #[.val (.ref o)] []) (fun t k => castTop (efmat m o) k) ?_
  refine og_aloadN (pc' := 1) X0 hx (hb hby d4_0) rfl rfl rfl ?_
  obtain ⟨T1, X1, e1, st1⟩ := getF X0 hx hZ hown (host := "") (Or.inl (hw _ (List.mem_of_getElem? (i := 21) rfl))) Via.refl e0 F_o (g := (mkF m 1 #[.val (.ref o)] [(.ref o)])) rfl rfl (hb hby d4_1)
  refine own_Go.of (g' := (mkF m 4 #[.val (.ref o)] [(.double mm)])) (fun t k => st1 _ k) ?_
  obtain ⟨fs, hr, hrun, hended, hW, hsame⟩ := X1.leave (v := some (.double mm)) (fun h => by rw [Bd.returns] at h; cases h) (BodyLoose.notSynchronized Bd)
  refine ⟨_, _, own_retD X1 hx Bd.returns (hb hby d4_4) hr, hrun, hended, some (.double mm), _, rfl, ?_, ⟨_, rfl⟩, hW, hsame.mono (by decide) (by decide)⟩
  show Qmat Z o mm h0 n0 _ T1.heap _
  rw [e1]
  exact ⟨rfl, N0, rfl⟩

theorem d5_0 : decode prog_14_method_4_code 0 = .ok (.aload_n 0, 1) := by decide +kernel
theorem d5_1 : decode prog_14_method_4_code 1 = .ok (.getfield 7, 3) := by decide +kernel
theorem d5_4 : decode prog_14_method_4_code 4 = .ok (.arraylength, 1) := by decide +kernel
theorem d5_5 : decode prog_14_method_4_code 5 = .ok (.istore_n 3, 1) := by decide +kernel
theorem d5_6 : decode prog_14_method_4_code 6 = .ok (.dconst 1, 1) := by decide +kernel
theorem d5_7 : decode prog_14_method_4_code 7 = .ok (.aload_n 0, 1) := by decide +kernel
theorem d5_8 : decode prog_14_method_4_code 8 = .ok (.getfield 18, 3) := by decide +kernel
theorem d5_11 : decode prog_14_method_4_code 11 = .ok (.dsub, 1) := by decide +kernel
theorem d5_12 : decode prog_14_method_4_code 12 = .ok (.dconst 1, 1) := by decide +kernel
theorem d5_13 : decode prog_14_method_4_code 13 = .ok (.dload_n 1, 1) := by decide +kernel
theorem d5_14 : decode prog_14_method_4_code 14 = .ok (.dsub, 1) := by decide +kernel
theorem d5_15 : decode prog_14_method_4_code 15 = .ok (.dmul, 1) := by decide +kernel
theorem d5_16 : decode prog_14_method_4_code 16 = .ok (.dstore 4, 2) := by decide +kernel
theorem d5_18 : decode prog_14_method_4_code 18 = .ok (.aload_n 0, 1) := by decide +kernel
theorem d5_19 : decode prog_14_method_4_code 19 = .ok (.dup, 1) := by decide +kernel
theorem d5_20 : decode prog_14_method_4_code 20 = .ok (.getfield 18, 3) := by decide +kernel
theorem d5_23 : decode prog_14_method_4_code 23 = .ok (.aload_n 0, 1) := by decide +kernel
theorem d5_24 : decode prog_14_method_4_code 24 = .ok (.getfield 7, 3) := by decide +kernel
theorem d5_27 : decode prog_14_method_4_code 27 = .ok (.iload_n 3, 1) := by decide +kernel
theorem d5_28 : decode prog_14_method_4_code 28 = .ok (.iconst 1, 1) := by decide +kernel
theorem d5_29 : decode prog_14_method_4_code 29 = .ok (.isub, 1) := by decide +kernel
theorem d5_30 : decode prog_14_method_4_code 30 = .ok (.daload, 1) := by decide +kernel
theorem d5_31 : decode prog_14_method_4_code 31 = .ok (.dload_n 1, 1) := by decide +kernel
theorem d5_32 : decode prog_14_method_4_code 32 = .ok (.dmul, 1) := by decide +kernel
theorem d5_33 : decode prog_14_method_4_code 33 = .ok (.dadd, 1) := by decide +kernel
theorem d5_34 : decode prog_14_method_4_code 34 = .ok (.putfield 18, 3) := by decide +kernel
theorem d5_37 : decode prog_14_method_4_code 37 = .ok (.iload_n 3, 1) := by decide +kernel
theorem d5_38 : decode prog_14_method_4_code 38 = .ok (.iconst 1, 1) := by decide +kernel
theorem d5_39 : decode prog_14_method_4_code 39 = .ok (.isub, 1) := by decide +kernel
theorem d5_40 : decode prog_14_method_4_code 40 = .ok (.istore 6, 2) := by decide +kernel
theorem d5_42 : decode prog_14_method_4_code 42 = .ok (.iload 6, 2) := by decide +kernel
theorem d5_44 : decode prog_14_method_4_code 44 = .ok (.ifCond .le 27, 3) := by decide +kernel
theorem d5_71 : decode prog_14_method_4_code 71 = .ok (.aload_n 0, 1) := by decide +kernel
theorem d5_72 : decode prog_14_method_4_code 72 = .ok (.getfield 7, 3) := by decide +kernel
theorem d5_75 : decode prog_14_method_4_code 75 = .ok (.iconst 0, 1) := by decide +kernel
theorem d5_76 : decode prog_14_method_4_code 76 = .ok (.dload 4, 2) := by decide +kernel
theorem d5_78 : decode prog_14_method_4_code 78 = .ok (.dastore, 1) := by decide +kernel
theorem d5_79 : decode prog_14_method_4_code 79 = .ok (.return_, 1) := by decide +kernel
theorem pnadd1 : plainName "com/example/paranhos/paranhos/MatchRuns" = true := by first | (simp [plainName, overriddenIn]; done) | decide +kernel
theorem efadd1 (m : MethodId) (z0 : Addr) (z1 : UInt64) : entryFrame m #[(.ref z0), (.double z1)] 7 = mkF m 0 #[.val (.ref z0), .val (.double z1), .second, .unset, .unset, .unset, .unset] [] := by first | (simp [entryFrame, mkF, argsToLocals, Value.category]; done) | rfl
def Qadd1 (Z : State) (o : Addr) (x1 : UInt64) (b : Addr) (kk : ClassId) (sc : Nat) (M : Int) (pv : Int) (mv : Int) (v0 : Int) (h0 : Heap) (n0 : Nat) (v : Option Value) (h : Heap) (L : List Loc) : Prop := ∃ (nm : Int) (w0 : Int), v = none ∧ Fr n0 L ∧ Keep h0 h [o, b] ∧ Exa Z h o "com/example/paranhos/paranhos/MatchRuns" ∧ Fld Z h o "com/example/paranhos/paranhos/MatchRuns" "run" "[D" (.ref b) ∧ Fld Z h o "com/example/paranhos/paranhos/MatchRuns" "matched" "D" (.double (own_D (sc + 8) nm)) ∧ Arv Z h b kk .double (1 : Int32) [(.double (own_D (sc + 8) w0))] (.double (0 : UInt64)) ∧ nm = (mv * 256) + (v0 * pv) ∧ w0 = (M - mv) * (256 - pv)
set_option maxRecDepth 65536 in
set_option maxHeartbeats 40000000 in
theorem rmadd1 (l : Launch) (Z : State) (a0 : Array Value) (hw : ∀ d ∈ tables_1, d.before a0 Z = true) (ws : List Jvm.Cond) (o : Addr) (x1 : UInt64) (b : Addr) (kk : ClassId) (sc : Nat) (M : Int) (pv : Int) (mv : Int) (v0 : Int) (h0 : Heap) (n0 : Nat) (Z0 : n0 ≤ h0.size) (E_o : Exa Z h0 o "com/example/paranhos/paranhos/MatchRuns") (F0_o : Fld Z h0 o "com/example/paranhos/paranhos/MatchRuns" "run" "[D" (.ref b)) (F1_o : Fld Z h0 o "com/example/paranhos/paranhos/MatchRuns" "matched" "D" (.double (own_D sc mv))) (V_b : Arv Z h0 b kk .double (1 : Int32) [(.double (own_D sc v0))] (.double (0 : UInt64))) (g_o : n0 ≤ o) (g_b : n0 ≤ b) (ne_ob : o ≠ b) (hx1 : x1 = own_D 8 pv) (hp : 0 ≤ pv ∧ pv ≤ 256) (hl : 0 ≤ mv ∧ 0 ≤ v0) (hs : mv + v0 = M) (hM : sc ≤ 24 ∧ M ≤ 16777216 ∧ FP.dconst1 = own_D sc M) :
    MetFree l (⟨"com/example/paranhos/paranhos/MatchRuns", "add", "(D)V"⟩ : MethodName) (head1 (Jvm.Cond.code (⟨"com/example/paranhos/paranhos/MatchRuns", "add", "(D)V"⟩ : MethodName) prog_14_method_4_code 7 none :: ws) ({ frames := 0, cells := 0, slots := 0, locals := 0 } : Room)) (fun ag U => ag = #[(.ref o), (.double x1)] ∧ Z.Warmed39 U.vm ∧ U.heap = h0) (fun _ _ _ _ _ => True) (fun _ U oc U' => ∃ v L, oc = .returned v ∧ Qadd1 Z o x1 b kk sc M pv mv v0 h0 n0 v U'.heap L ∧ FrameEnd U oc U' L ({ frames := 0, cells := 0, slots := 0, locals := 0 } : Room).cells ({ frames := 0, cells := 0, slots := 0, locals := 0 } : Room).slots) := by
  refine MetFree.of_bodySF (plainFor_of_name pnadd1) hisR ?_
  intro p e s m args below meth c s₁ Bd hml0 hP hK
  obtain ⟨rfl, hZ, hh⟩ := hP
  have hx := Bd.exec
  have hby := Bd.bytes
  have hml : c.maxLocals = 7 := hml0
  have hown : s.vm.findClass "com/example/paranhos/paranhos/MatchRuns" = some m.cls := findClass_of_methodNamed Bd.named
  have hnm := (name_of_methodNamed Bd.named Bd.method).1
  have X0 : Stand p l e ({ frames := 0, cells := 0, slots := 0, locals := 0 } : Room) s m #[(.ref o), (.double x1)] below meth c s₁ [] 0 0 := Stand.of_body Bd
  have e0 : s₁.heap = h0 := by rw [← hh, Bd.state]; rfl
  have N0 := Fr.nil n0
  show own_Go p e below (fun s₂ oc => ∃ v L, oc = .returned v ∧ Qadd1 Z o x1 b kk sc M pv mv v0 h0 n0 v s₂.heap L ∧ FrameEnd s oc s₂ L ({ frames := 0, cells := 0, slots := 0, locals := 0 } : Room).cells ({ frames := 0, cells := 0, slots := 0, locals := 0 } : Room).slots) s₁ (entryFrame m #[(.ref o), (.double x1)] 7)
  refine own_Go.of (g' := mkF m 0 #[.val (.ref o), .val (.double x1), .second, .unset, .unset, .unset, .unset] []) (fun t k => castTop (efadd1 m o x1) k) ?_
  obtain ⟨a_mv, a_v0⟩ := hl
  obtain ⟨a_pv, z_pv⟩ := hp
  obtain ⟨hsc, z_M, hone⟩ := hM
  have z_mv : mv ≤ 16777216 := by omega
  have z_v0 : v0 ≤ 16777216 := by omega
  have a_M : 0 ≤ M := by omega
  refine og_aloadN (pc' := 1) X0 hx (hb hby d5_0) rfl rfl rfl ?_
  obtain ⟨T1, X1, e1, st1⟩ := getF X0 hx hZ hown (host := "") (Or.inl (hw _ (List.mem_of_getElem? (i := 14) rfl))) Via.refl e0 F0_o (g := (mkF m 1 #[.val (.ref o), .val (.double x1), .second, .unset, .unset, .unset, .unset] [(.ref o)])) rfl rfl (hb hby d5_1)
  refine own_Go.of (g' := (mkF m 4 #[.val (.ref o), .val (.double x1), .second, .unset, .unset, .unset, .unset] [(.ref b)])) (fun t k => st1 _ k) ?_
  obtain ⟨cl2, Ar2, q2, S2, M2, H2, G2⟩ := id V_b
  refine own_Go.of (g' := (mkF m 5 #[.val (.ref o), .val (.double x1), .second, .unset, .unset, .unset, .unset] [(.int (1 : Int32))])) (fun t k => X1.arraylength hx (by rw [e1]; exact Ar2.1) (State.isArrayOf_alike hZ.alike Ar2.2.1) (g := (mkF m 4 #[.val (.ref o), .val (.double x1), .second, .unset, .unset, .unset, .unset] [(.ref b)])) rfl rfl (hb hby d5_4) _ (by rw [len_of S2 M2]; exact k)) ?_
  refine og_istoreN (pc' := 6) (L' := #[.val (.ref o), .val (.double x1), .second, .val (.int (1 : Int32)), .unset, .unset, .unset]) X1 hx (hb hby d5_5) rfl rfl ?_
  refine og_dconst1 (pc' := 7) X1 hx (hb hby d5_6) hone rfl ?_
  refine og_aloadN (pc' := 8) X1 hx (hb hby d5_7) rfl rfl rfl ?_
  obtain ⟨T3, X3, e3, st3⟩ := getF X1 hx hZ hown (host := "") (Or.inl (hw _ (List.mem_of_getElem? (i := 21) rfl))) Via.refl e1 F1_o (g := (mkF m 8 #[.val (.ref o), .val (.double x1), .second, .val (.int (1 : Int32)), .unset, .unset, .unset] [(.ref o), (.double (own_D sc M))])) rfl rfl (hb hby d5_8)
  refine own_Go.of (g' := (mkF m 11 #[.val (.ref o), .val (.double x1), .second, .val (.int (1 : Int32)), .unset, .unset, .unset] [(.double (own_D sc mv)), (.double (own_D sc M))])) (fun t k => st3 _ k) ?_
  obtain ⟨u4, hu4⟩ : ∃ q : Int, q = (M - mv) := ⟨_, rfl⟩
  have a4 : 0 ≤ u4 := by omega
  have z4 : u4 ≤ 16777216 := by omega
  have x4 : FP.dsub (own_D sc M) (own_D sc mv) = own_D sc u4 := own_xsub rfl rfl hu4.symm (by omega) (by omega) (by omega)
  refine og_dsub (pc' := 12) X3 hx (hb hby d5_11) (own_nnx x4 (by omega) (by omega)) x4 rfl ?_
  refine og_dconst1 (pc' := 13) X3 hx (hb hby d5_12) own_o8 rfl ?_
  refine og_dloadN (pc' := 14) X3 hx (hb hby d5_13) rfl rfl ?_
  obtain ⟨u5, hu5⟩ : ∃ q : Int, q = (256 - pv) := ⟨_, rfl⟩
  have a5 : 0 ≤ u5 := by omega
  have z5 : u5 ≤ 256 := by omega
  have x5 : FP.dsub (own_D 8 256) x1 = own_D 8 u5 := own_xsub rfl hx1 hu5.symm (by omega) (by omega) (by omega)
  refine og_dsub (pc' := 15) X3 hx (hb hby d5_14) (own_nnx x5 (by omega) (by omega)) x5 rfl ?_
  obtain ⟨u6, hu6⟩ : ∃ q : Int, q = (u4 * u5) := ⟨_, rfl⟩
  have a6 : 0 ≤ u6 := by rw [hu6]; exact Int.mul_nonneg (by omega) (by omega)
  have z6 : u6 ≤ 4294967296 := by rw [hu6]; exact Int.le_trans (Int.mul_le_mul z4 z5 (by omega) (by omega)) (by decide)
  have x6 : FP.dmul (own_D sc u4) (own_D 8 u5) = own_D (sc + 8) u6 := own_xmul rfl rfl hu6.symm rfl (by omega) (by omega) (by omega) (by omega) (by omega) (by omega)
  refine og_dmul (pc' := 16) X3 hx (hb hby d5_15) (own_nnx x6 (by omega) (by omega)) x6 rfl ?_
  refine og_dstore (pc' := 18) (L' := #[.val (.ref o), .val (.double x1), .second, .val (.int (1 : Int32)), .val (.double (own_D (sc + 8) u6)), .second, .unset]) X3 hx (hb hby d5_16) rfl rfl ?_
  refine og_aloadN (pc' := 19) X3 hx (hb hby d5_18) rfl rfl rfl ?_
  refine og_dup (pc' := 20) X3 hx (hb hby d5_19) rfl rfl ?_
  obtain ⟨T7, X7, e7, st7⟩ := getF X3 hx hZ hown (host := "") (Or.inl (hw _ (List.mem_of_getElem? (i := 21) rfl))) Via.refl e3 F1_o (g := (mkF m 20 #[.val (.ref o), .val (.double x1), .second, .val (.int (1 : Int32)), .val (.double (own_D (sc + 8) u6)), .second, .unset] [(.ref o), (.ref o)])) rfl rfl (hb hby d5_20)
  refine own_Go.of (g' := (mkF m 23 #[.val (.ref o), .val (.double x1), .second, .val (.int (1 : Int32)), .val (.double (own_D (sc + 8) u6)), .second, .unset] [(.double (own_D sc mv)), (.ref o)])) (fun t k => st7 _ k) ?_
  refine og_aloadN (pc' := 24) X7 hx (hb hby d5_23) rfl rfl rfl ?_
  obtain ⟨T8, X8, e8, st8⟩ := getF X7 hx hZ hown (host := "") (Or.inl (hw _ (List.mem_of_getElem? (i := 14) rfl))) Via.refl e7 F0_o (g := (mkF m 24 #[.val (.ref o), .val (.double x1), .second, .val (.int (1 : Int32)), .val (.double (own_D (sc + 8) u6)), .second, .unset] [(.ref o), (.double (own_D sc mv)), (.ref o)])) rfl rfl (hb hby d5_24)
  refine own_Go.of (g' := (mkF m 27 #[.val (.ref o), .val (.double x1), .second, .val (.int (1 : Int32)), .val (.double (own_D (sc + 8) u6)), .second, .unset] [(.ref b), (.double (own_D sc mv)), (.ref o)])) (fun t k => st8 _ k) ?_
  refine og_iloadN (pc' := 28) X8 hx (hb hby d5_27) rfl rfl ?_
  refine og_iconst (pc' := 29) (n := 1) X8 hx (hb hby d5_28) rfl rfl ?_
  refine og_isub (pc' := 30) X8 hx (hb hby d5_29) rfl ?_
  rw [show ((1 : Int32) - (1 : Int32)) = (0 : Int32) from by decide]
  obtain ⟨cl9, Ar9, q9, S9, M9, H9, G9⟩ := id V_b
  have hin9 : ¬ ((0 : Int32) < 0 ∨ cl9.slots.size ≤ ((0 : Int32)).toNatClampNeg) := inb_of S9 ⟨by decide, by decide⟩
  have hat9 : cl9.slots[((0 : Int32)).toNatClampNeg]? = some (.double (own_D sc v0)) := Has.at H9 hin9 rfl
  refine own_Go.of (g' := (mkF m 31 #[.val (.ref o), .val (.double x1), .second, .val (.int (1 : Int32)), .val (.double (own_D (sc + 8) u6)), .second, .unset] [(.double (own_D sc v0)), (.double (own_D sc mv)), (.ref o)])) (fun t k => X8.daload hx (j := (0 : Int32)) (v := (.double (own_D sc v0))) (by rw [e8]; exact Ar9.1) (State.isArrayOf_alike hZ.alike Ar9.2.1) Ar9.2.2 hin9 hat9 (g := (mkF m 30 #[.val (.ref o), .val (.double x1), .second, .val (.int (1 : Int32)), .val (.double (own_D (sc + 8) u6)), .second, .unset] [(.int (0 : Int32)), (.ref b), (.double (own_D sc mv)), (.ref o)])) rfl rfl (hb hby d5_30) _ k) ?_
  refine og_dloadN (pc' := 32) X8 hx (hb hby d5_31) rfl rfl ?_
  obtain ⟨u10, hu10⟩ : ∃ q : Int, q = (v0 * pv) := ⟨_, rfl⟩
  have a10 : 0 ≤ u10 := by rw [hu10]; exact Int.mul_nonneg (by omega) (by omega)
  have z10 : u10 ≤ 4294967296 := by rw [hu10]; exact Int.le_trans (Int.mul_le_mul z_v0 z_pv (by omega) (by omega)) (by decide)
  have x10 : FP.dmul (own_D sc v0) x1 = own_D (sc + 8) u10 := own_xmul rfl hx1 hu10.symm rfl (by omega) (by omega) (by omega) (by omega) (by omega) (by omega)
  refine og_dmul (pc' := 33) X8 hx (hb hby d5_32) (own_nnx x10 (by omega) (by omega)) x10 rfl ?_
  obtain ⟨u11, hu11⟩ : ∃ q : Int, q = (mv * 256) := ⟨_, rfl⟩
  have y11 : _ = own_D (sc + 8) u11 := (rfl : own_D sc mv = own_D sc mv).trans (by rw [hu11]; exact own_resc _ _)
  have a11 : 0 ≤ u11 := by omega
  have z11 : u11 ≤ 4294967296 := by omega
  obtain ⟨u12, hu12⟩ : ∃ q : Int, q = (u11 + u10) := ⟨_, rfl⟩
  have a12 : 0 ≤ u12 := by omega
  have z12 : u12 ≤ 8589934592 := by omega
  have x12 : FP.dadd (own_D sc mv) (own_D (sc + 8) u10) = own_D (sc + 8) u12 := own_xadd y11 rfl hu12.symm (by omega) (by omega) (by omega)
  refine og_dadd (pc' := 34) X8 hx (hb hby d5_33) (own_nnx x12 (by omega) (by omega)) x12 rfl ?_
  obtain ⟨T13, h13, X13, e13, W13, st13⟩ := putF X8 hx hZ hown (host := "") (Or.inl (hw _ (List.mem_of_getElem? (i := 21) rfl))) Via.refl e8 F1_o E_o (Or.inl (hw _ (List.mem_of_getElem? (i := 22) rfl))) (hw _ (List.mem_of_getElem? (i := 5) rfl)) (ty := .double) (by decide) rfl rfl (g := (mkF m 34 #[.val (.ref o), .val (.double x1), .second, .val (.int (1 : Int32)), .val (.double (own_D (sc + 8) u6)), .second, .unset] [(.double (own_D (sc + 8) u12)), (.ref o)])) rfl rfl (hb hby d5_34)
  have w13 : Fld Z h13 o "com/example/paranhos/paranhos/MatchRuns" "matched" "D" (.double (own_D (sc + 8) u12)) := F1_o.same W13
  have f13_0 := E_o.wr W13
  have f13_1 := F0_o.other W13 (Or.inr (slot_ne (a0 := a0) (C := "com/example/paranhos/paranhos/MatchRuns") (Or.inr (hw _ (List.mem_of_getElem? (i := 15) rfl))) (Or.inl (hw _ (List.mem_of_getElem? (i := 22) rfl))) (by decide) (t := (.array .double)) (t' := .double) (by decide) (by decide)))
  have f13_2 := V_b.other W13 (Ne.symm ne_ob)
  have K13 : Keep h0 h13 [o, b] := (Keep.refl h0 [o, b]).wr W13 (Or.inl (List.mem_of_getElem? (i := 0) rfl))
  have Z13 : n0 ≤ h13.size := Nat.le_trans Z0 K13.1
  have N13 := Fr.snoc X13 N0 g_o
  obtain ⟨J13, X13, N13⟩ := own_hide X13 N13
  refine own_Go.of (g' := (mkF m 37 #[.val (.ref o), .val (.double x1), .second, .val (.int (1 : Int32)), .val (.double (own_D (sc + 8) u6)), .second, .unset] [])) (fun t k => st13 _ k) ?_
  refine og_iloadN (pc' := 38) X13 hx (hb hby d5_37) rfl rfl ?_
  refine og_iconst (pc' := 39) (n := 1) X13 hx (hb hby d5_38) rfl rfl ?_
  refine og_isub (pc' := 40) X13 hx (hb hby d5_39) rfl ?_
  rw [show ((1 : Int32) - (1 : Int32)) = (0 : Int32) from by decide]
  refine og_istore (pc' := 42) (L' := #[.val (.ref o), .val (.double x1), .second, .val (.int (1 : Int32)), .val (.double (own_D (sc + 8) u6)), .second, .val (.int (0 : Int32))]) X13 hx (hb hby d5_40) rfl rfl ?_
  refine og_iload (pc' := 44) X13 hx (hb hby d5_42) rfl rfl ?_
  refine og_ifYes (pc' := 71) X13 hx (hb hby d5_44) ((if0 _ _).trans (flt (by decide)).2.2.2) (by decide) (by decide) ?_
  refine og_aloadN (pc' := 72) X13 hx (hb hby d5_71) rfl rfl rfl ?_
  obtain ⟨T14, X14, e14, st14⟩ := getF X13 hx hZ hown (host := "") (Or.inl (hw _ (List.mem_of_getElem? (i := 14) rfl))) Via.refl e13 f13_1 (g := (mkF m 72 #[.val (.ref o), .val (.double x1), .second, .val (.int (1 : Int32)), .val (.double (own_D (sc + 8) u6)), .second, .val (.int (0 : Int32))] [(.ref o)])) rfl rfl (hb hby d5_72)
  refine own_Go.of (g' := (mkF m 75 #[.val (.ref o), .val (.double x1), .second, .val (.int (1 : Int32)), .val (.double (own_D (sc + 8) u6)), .second, .val (.int (0 : Int32))] [(.ref b)])) (fun t k => st14 _ k) ?_
  refine og_iconst (pc' := 76) (n := 0) X14 hx (hb hby d5_75) rfl rfl ?_
  refine og_dload (pc' := 78) X14 hx (hb hby d5_76) rfl rfl ?_
  obtain ⟨cl15, Ar15, q15, S15, M15, H15, G15⟩ := id f13_2
  have hin15 : ¬ ((0 : Int32) < 0 ∨ cl15.slots.size ≤ ((0 : Int32)).toNatClampNeg) := inb_of S15 ⟨by decide, by decide⟩
  obtain ⟨T15, h15, X15, e15, W15, st15⟩ := stD X14 hx hZ e14 Ar15 (j := (0 : Int32)) hin15 (g := (mkF m 78 #[.val (.ref o), .val (.double x1), .second, .val (.int (1 : Int32)), .val (.double (own_D (sc + 8) u6)), .second, .val (.int (0 : Int32))] [(.double (own_D (sc + 8) u6)), (.int (0 : Int32)), (.ref b)])) rfl rfl (hb hby d5_78)
  have V15 : Arv Z h15 b kk .double (1 : Int32) [(.double (own_D (sc + 8) u6))] (.double (0 : UInt64)) := Arv.set Ar15 q15 S15 M15 H15 G15 rfl W15 0 rfl (Nat.le_of_ble_eq_true rfl)
  have f15_0 := f13_0.wr W15
  have f15_1 := f13_1.other W15 (Or.inl ne_ob)
  have f15_10 := w13.other W15 (Or.inl ne_ob)
  have K15 : Keep h0 h15 [o, b] := K13.wr W15 (Or.inl (List.mem_of_getElem? (i := 1) rfl))
  have Z15 : n0 ≤ h15.size := Nat.le_trans Z0 K15.1
  have N15 := Fr.snoc X15 N13 g_b
  obtain ⟨J15, X15, N15⟩ := own_hide X15 N15
  refine own_Go.of (g' := (mkF m 79 #[.val (.ref o), .val (.double x1), .second, .val (.int (1 : Int32)), .val (.double (own_D (sc + 8) u6)), .second, .val (.int (0 : Int32))] [])) (fun t k => st15 _ k) ?_
  obtain ⟨fs, hr, hrun, hended, hW, hsame⟩ := X15.leave (v := none) (fun _ => rfl) (BodyLoose.notSynchronized Bd)
  refine ⟨_, _, X15.returnOut hx Bd.returns (hb hby d5_79) hr, hrun, hended, none, _, rfl, ?_, ⟨_, rfl⟩, hW, hsame.mono (by decide) (by decide)⟩
  show Qadd1 Z o x1 b kk sc M pv mv v0 h0 n0 _ T15.heap _
  rw [e15]
  exact ⟨u12, u6, rfl, N15, K15, f15_0, f15_1, f15_10, V15, (by simp only [hu4, hu5, hu6, hu10, hu11, hu12]), (by simp only [hu4, hu5, hu6, hu10, hu11, hu12])⟩

theorem d5_47 : decode prog_14_method_4_code 47 = .ok (.aload_n 0, 1) := by decide +kernel
theorem d5_48 : decode prog_14_method_4_code 48 = .ok (.getfield 7, 3) := by decide +kernel
theorem d5_51 : decode prog_14_method_4_code 51 = .ok (.iload 6, 2) := by decide +kernel
theorem d5_53 : decode prog_14_method_4_code 53 = .ok (.aload_n 0, 1) := by decide +kernel
theorem d5_54 : decode prog_14_method_4_code 54 = .ok (.getfield 7, 3) := by decide +kernel
theorem d5_57 : decode prog_14_method_4_code 57 = .ok (.iload 6, 2) := by decide +kernel
theorem d5_59 : decode prog_14_method_4_code 59 = .ok (.iconst 1, 1) := by decide +kernel
theorem d5_60 : decode prog_14_method_4_code 60 = .ok (.isub, 1) := by decide +kernel
theorem d5_61 : decode prog_14_method_4_code 61 = .ok (.daload, 1) := by decide +kernel
theorem d5_62 : decode prog_14_method_4_code 62 = .ok (.dload_n 1, 1) := by decide +kernel
theorem d5_63 : decode prog_14_method_4_code 63 = .ok (.dmul, 1) := by decide +kernel
theorem d5_64 : decode prog_14_method_4_code 64 = .ok (.dastore, 1) := by decide +kernel
theorem d5_65 : decode prog_14_method_4_code 65 = .ok (.iinc 6 (-1), 3) := by decide +kernel
theorem d5_68 : decode prog_14_method_4_code 68 = .ok (.goto (-26), 3) := by decide +kernel
theorem pnadd2 : plainName "com/example/paranhos/paranhos/MatchRuns" = true := by first | (simp [plainName, overriddenIn]; done) | decide +kernel
theorem efadd2 (m : MethodId) (z0 : Addr) (z1 : UInt64) : entryFrame m #[(.ref z0), (.double z1)] 7 = mkF m 0 #[.val (.ref z0), .val (.double z1), .second, .unset, .unset, .unset, .unset] [] := by first | (simp [entryFrame, mkF, argsToLocals, Value.category]; done) | rfl
def Qadd2 (Z : State) (o : Addr) (x1 : UInt64) (b : Addr) (kk : ClassId) (sc : Nat) (M : Int) (pv : Int) (mv : Int) (v0 : Int) (v1 : Int) (h0 : Heap) (n0 : Nat) (v : Option Value) (h : Heap) (L : List Loc) : Prop := ∃ (nm : Int) (w0 : Int) (w1 : Int), v = none ∧ Fr n0 L ∧ Keep h0 h [o, b] ∧ Exa Z h o "com/example/paranhos/paranhos/MatchRuns" ∧ Fld Z h o "com/example/paranhos/paranhos/MatchRuns" "run" "[D" (.ref b) ∧ Fld Z h o "com/example/paranhos/paranhos/MatchRuns" "matched" "D" (.double (own_D (sc + 8) nm)) ∧ Arv Z h b kk .double (2 : Int32) [(.double (own_D (sc + 8) w0)), (.double (own_D (sc + 8) w1))] (.double (0 : UInt64)) ∧ nm = (mv * 256) + (v1 * pv) ∧ w0 = (M - mv) * (256 - pv) ∧ w1 = v0 * pv
set_option maxRecDepth 65536 in
set_option maxHeartbeats 40000000 in
theorem rmadd2 (l : Launch) (Z : State) (a0 : Array Value) (hw : ∀ d ∈ tables_1, d.before a0 Z = true) (ws : List Jvm.Cond) (o : Addr) (x1 : UInt64) (b : Addr) (kk : ClassId) (sc : Nat) (M : Int) (pv : Int) (mv : Int) (v0 : Int) (v1 : Int) (h0 : Heap) (n0 : Nat) (Z0 : n0 ≤ h0.size) (E_o : Exa Z h0 o "com/example/paranhos/paranhos/MatchRuns") (F0_o : Fld Z h0 o "com/example/paranhos/paranhos/MatchRuns" "run" "[D" (.ref b)) (F1_o : Fld Z h0 o "com/example/paranhos/paranhos/MatchRuns" "matched" "D" (.double (own_D sc mv))) (V_b : Arv Z h0 b kk .double (2 : Int32) [(.double (own_D sc v0)), (.double (own_D sc v1))] (.double (0 : UInt64))) (g_o : n0 ≤ o) (g_b : n0 ≤ b) (ne_ob : o ≠ b) (hx1 : x1 = own_D 8 pv) (hp : 0 ≤ pv ∧ pv ≤ 256) (hl : 0 ≤ mv ∧ 0 ≤ v0 ∧ 0 ≤ v1) (hs : mv + v0 + v1 = M) (hM : sc ≤ 24 ∧ M ≤ 16777216 ∧ FP.dconst1 = own_D sc M) :
    MetFree l (⟨"com/example/paranhos/paranhos/MatchRuns", "add", "(D)V"⟩ : MethodName) (head1 (Jvm.Cond.code (⟨"com/example/paranhos/paranhos/MatchRuns", "add", "(D)V"⟩ : MethodName) prog_14_method_4_code 7 none :: ws) ({ frames := 0, cells := 0, slots := 0, locals := 0 } : Room)) (fun ag U => ag = #[(.ref o), (.double x1)] ∧ Z.Warmed39 U.vm ∧ U.heap = h0) (fun _ _ _ _ _ => True) (fun _ U oc U' => ∃ v L, oc = .returned v ∧ Qadd2 Z o x1 b kk sc M pv mv v0 v1 h0 n0 v U'.heap L ∧ FrameEnd U oc U' L ({ frames := 0, cells := 0, slots := 0, locals := 0 } : Room).cells ({ frames := 0, cells := 0, slots := 0, locals := 0 } : Room).slots) := by
  refine MetFree.of_bodySF (plainFor_of_name pnadd2) hisR ?_
  intro p e s m args below meth c s₁ Bd hml0 hP hK
  obtain ⟨rfl, hZ, hh⟩ := hP
  have hx := Bd.exec
  have hby := Bd.bytes
  have hml : c.maxLocals = 7 := hml0
  have hown : s.vm.findClass "com/example/paranhos/paranhos/MatchRuns" = some m.cls := findClass_of_methodNamed Bd.named
  have hnm := (name_of_methodNamed Bd.named Bd.method).1
  have X0 : Stand p l e ({ frames := 0, cells := 0, slots := 0, locals := 0 } : Room) s m #[(.ref o), (.double x1)] below meth c s₁ [] 0 0 := Stand.of_body Bd
  have e0 : s₁.heap = h0 := by rw [← hh, Bd.state]; rfl
  have N0 := Fr.nil n0
  show own_Go p e below (fun s₂ oc => ∃ v L, oc = .returned v ∧ Qadd2 Z o x1 b kk sc M pv mv v0 v1 h0 n0 v s₂.heap L ∧ FrameEnd s oc s₂ L ({ frames := 0, cells := 0, slots := 0, locals := 0 } : Room).cells ({ frames := 0, cells := 0, slots := 0, locals := 0 } : Room).slots) s₁ (entryFrame m #[(.ref o), (.double x1)] 7)
  refine own_Go.of (g' := mkF m 0 #[.val (.ref o), .val (.double x1), .second, .unset, .unset, .unset, .unset] []) (fun t k => castTop (efadd2 m o x1) k) ?_
  obtain ⟨a_mv, a_v0, a_v1⟩ := hl
  obtain ⟨a_pv, z_pv⟩ := hp
  obtain ⟨hsc, z_M, hone⟩ := hM
  have z_mv : mv ≤ 16777216 := by omega
  have z_v0 : v0 ≤ 16777216 := by omega
  have z_v1 : v1 ≤ 16777216 := by omega
  have a_M : 0 ≤ M := by omega
  refine og_aloadN (pc' := 1) X0 hx (hb hby d5_0) rfl rfl rfl ?_
  obtain ⟨T1, X1, e1, st1⟩ := getF X0 hx hZ hown (host := "") (Or.inl (hw _ (List.mem_of_getElem? (i := 14) rfl))) Via.refl e0 F0_o (g := (mkF m 1 #[.val (.ref o), .val (.double x1), .second, .unset, .unset, .unset, .unset] [(.ref o)])) rfl rfl (hb hby d5_1)
  refine own_Go.of (g' := (mkF m 4 #[.val (.ref o), .val (.double x1), .second, .unset, .unset, .unset, .unset] [(.ref b)])) (fun t k => st1 _ k) ?_
  obtain ⟨cl2, Ar2, q2, S2, M2, H2, G2⟩ := id V_b
  refine own_Go.of (g' := (mkF m 5 #[.val (.ref o), .val (.double x1), .second, .unset, .unset, .unset, .unset] [(.int (2 : Int32))])) (fun t k => X1.arraylength hx (by rw [e1]; exact Ar2.1) (State.isArrayOf_alike hZ.alike Ar2.2.1) (g := (mkF m 4 #[.val (.ref o), .val (.double x1), .second, .unset, .unset, .unset, .unset] [(.ref b)])) rfl rfl (hb hby d5_4) _ (by rw [len_of S2 M2]; exact k)) ?_
  refine og_istoreN (pc' := 6) (L' := #[.val (.ref o), .val (.double x1), .second, .val (.int (2 : Int32)), .unset, .unset, .unset]) X1 hx (hb hby d5_5) rfl rfl ?_
  refine og_dconst1 (pc' := 7) X1 hx (hb hby d5_6) hone rfl ?_
  refine og_aloadN (pc' := 8) X1 hx (hb hby d5_7) rfl rfl rfl ?_
  obtain ⟨T3, X3, e3, st3⟩ := getF X1 hx hZ hown (host := "") (Or.inl (hw _ (List.mem_of_getElem? (i := 21) rfl))) Via.refl e1 F1_o (g := (mkF m 8 #[.val (.ref o), .val (.double x1), .second, .val (.int (2 : Int32)), .unset, .unset, .unset] [(.ref o), (.double (own_D sc M))])) rfl rfl (hb hby d5_8)
  refine own_Go.of (g' := (mkF m 11 #[.val (.ref o), .val (.double x1), .second, .val (.int (2 : Int32)), .unset, .unset, .unset] [(.double (own_D sc mv)), (.double (own_D sc M))])) (fun t k => st3 _ k) ?_
  obtain ⟨u4, hu4⟩ : ∃ q : Int, q = (M - mv) := ⟨_, rfl⟩
  have a4 : 0 ≤ u4 := by omega
  have z4 : u4 ≤ 16777216 := by omega
  have x4 : FP.dsub (own_D sc M) (own_D sc mv) = own_D sc u4 := own_xsub rfl rfl hu4.symm (by omega) (by omega) (by omega)
  refine og_dsub (pc' := 12) X3 hx (hb hby d5_11) (own_nnx x4 (by omega) (by omega)) x4 rfl ?_
  refine og_dconst1 (pc' := 13) X3 hx (hb hby d5_12) own_o8 rfl ?_
  refine og_dloadN (pc' := 14) X3 hx (hb hby d5_13) rfl rfl ?_
  obtain ⟨u5, hu5⟩ : ∃ q : Int, q = (256 - pv) := ⟨_, rfl⟩
  have a5 : 0 ≤ u5 := by omega
  have z5 : u5 ≤ 256 := by omega
  have x5 : FP.dsub (own_D 8 256) x1 = own_D 8 u5 := own_xsub rfl hx1 hu5.symm (by omega) (by omega) (by omega)
  refine og_dsub (pc' := 15) X3 hx (hb hby d5_14) (own_nnx x5 (by omega) (by omega)) x5 rfl ?_
  obtain ⟨u6, hu6⟩ : ∃ q : Int, q = (u4 * u5) := ⟨_, rfl⟩
  have a6 : 0 ≤ u6 := by rw [hu6]; exact Int.mul_nonneg (by omega) (by omega)
  have z6 : u6 ≤ 4294967296 := by rw [hu6]; exact Int.le_trans (Int.mul_le_mul z4 z5 (by omega) (by omega)) (by decide)
  have x6 : FP.dmul (own_D sc u4) (own_D 8 u5) = own_D (sc + 8) u6 := own_xmul rfl rfl hu6.symm rfl (by omega) (by omega) (by omega) (by omega) (by omega) (by omega)
  refine og_dmul (pc' := 16) X3 hx (hb hby d5_15) (own_nnx x6 (by omega) (by omega)) x6 rfl ?_
  refine og_dstore (pc' := 18) (L' := #[.val (.ref o), .val (.double x1), .second, .val (.int (2 : Int32)), .val (.double (own_D (sc + 8) u6)), .second, .unset]) X3 hx (hb hby d5_16) rfl rfl ?_
  refine og_aloadN (pc' := 19) X3 hx (hb hby d5_18) rfl rfl rfl ?_
  refine og_dup (pc' := 20) X3 hx (hb hby d5_19) rfl rfl ?_
  obtain ⟨T7, X7, e7, st7⟩ := getF X3 hx hZ hown (host := "") (Or.inl (hw _ (List.mem_of_getElem? (i := 21) rfl))) Via.refl e3 F1_o (g := (mkF m 20 #[.val (.ref o), .val (.double x1), .second, .val (.int (2 : Int32)), .val (.double (own_D (sc + 8) u6)), .second, .unset] [(.ref o), (.ref o)])) rfl rfl (hb hby d5_20)
  refine own_Go.of (g' := (mkF m 23 #[.val (.ref o), .val (.double x1), .second, .val (.int (2 : Int32)), .val (.double (own_D (sc + 8) u6)), .second, .unset] [(.double (own_D sc mv)), (.ref o)])) (fun t k => st7 _ k) ?_
  refine og_aloadN (pc' := 24) X7 hx (hb hby d5_23) rfl rfl rfl ?_
  obtain ⟨T8, X8, e8, st8⟩ := getF X7 hx hZ hown (host := "") (Or.inl (hw _ (List.mem_of_getElem? (i := 14) rfl))) Via.refl e7 F0_o (g := (mkF m 24 #[.val (.ref o), .val (.double x1), .second, .val (.int (2 : Int32)), .val (.double (own_D (sc + 8) u6)), .second, .unset] [(.ref o), (.double (own_D sc mv)), (.ref o)])) rfl rfl (hb hby d5_24)
  refine own_Go.of (g' := (mkF m 27 #[.val (.ref o), .val (.double x1), .second, .val (.int (2 : Int32)), .val (.double (own_D (sc + 8) u6)), .second, .unset] [(.ref b), (.double (own_D sc mv)), (.ref o)])) (fun t k => st8 _ k) ?_
  refine og_iloadN (pc' := 28) X8 hx (hb hby d5_27) rfl rfl ?_
  refine og_iconst (pc' := 29) (n := 1) X8 hx (hb hby d5_28) rfl rfl ?_
  refine og_isub (pc' := 30) X8 hx (hb hby d5_29) rfl ?_
  rw [show ((2 : Int32) - (1 : Int32)) = (1 : Int32) from by decide]
  obtain ⟨cl9, Ar9, q9, S9, M9, H9, G9⟩ := id V_b
  have hin9 : ¬ ((1 : Int32) < 0 ∨ cl9.slots.size ≤ ((1 : Int32)).toNatClampNeg) := inb_of S9 ⟨by decide, by decide⟩
  have hat9 : cl9.slots[((1 : Int32)).toNatClampNeg]? = some (.double (own_D sc v1)) := Has.at H9 hin9 rfl
  refine own_Go.of (g' := (mkF m 31 #[.val (.ref o), .val (.double x1), .second, .val (.int (2 : Int32)), .val (.double (own_D (sc + 8) u6)), .second, .unset] [(.double (own_D sc v1)), (.double (own_D sc mv)), (.ref o)])) (fun t k => X8.daload hx (j := (1 : Int32)) (v := (.double (own_D sc v1))) (by rw [e8]; exact Ar9.1) (State.isArrayOf_alike hZ.alike Ar9.2.1) Ar9.2.2 hin9 hat9 (g := (mkF m 30 #[.val (.ref o), .val (.double x1), .second, .val (.int (2 : Int32)), .val (.double (own_D (sc + 8) u6)), .second, .unset] [(.int (1 : Int32)), (.ref b), (.double (own_D sc mv)), (.ref o)])) rfl rfl (hb hby d5_30) _ k) ?_
  refine og_dloadN (pc' := 32) X8 hx (hb hby d5_31) rfl rfl ?_
  obtain ⟨u10, hu10⟩ : ∃ q : Int, q = (v1 * pv) := ⟨_, rfl⟩
  have a10 : 0 ≤ u10 := by rw [hu10]; exact Int.mul_nonneg (by omega) (by omega)
  have z10 : u10 ≤ 4294967296 := by rw [hu10]; exact Int.le_trans (Int.mul_le_mul z_v1 z_pv (by omega) (by omega)) (by decide)
  have x10 : FP.dmul (own_D sc v1) x1 = own_D (sc + 8) u10 := own_xmul rfl hx1 hu10.symm rfl (by omega) (by omega) (by omega) (by omega) (by omega) (by omega)
  refine og_dmul (pc' := 33) X8 hx (hb hby d5_32) (own_nnx x10 (by omega) (by omega)) x10 rfl ?_
  obtain ⟨u11, hu11⟩ : ∃ q : Int, q = (mv * 256) := ⟨_, rfl⟩
  have y11 : _ = own_D (sc + 8) u11 := (rfl : own_D sc mv = own_D sc mv).trans (by rw [hu11]; exact own_resc _ _)
  have a11 : 0 ≤ u11 := by omega
  have z11 : u11 ≤ 4294967296 := by omega
  obtain ⟨u12, hu12⟩ : ∃ q : Int, q = (u11 + u10) := ⟨_, rfl⟩
  have a12 : 0 ≤ u12 := by omega
  have z12 : u12 ≤ 8589934592 := by omega
  have x12 : FP.dadd (own_D sc mv) (own_D (sc + 8) u10) = own_D (sc + 8) u12 := own_xadd y11 rfl hu12.symm (by omega) (by omega) (by omega)
  refine og_dadd (pc' := 34) X8 hx (hb hby d5_33) (own_nnx x12 (by omega) (by omega)) x12 rfl ?_
  obtain ⟨T13, h13, X13, e13, W13, st13⟩ := putF X8 hx hZ hown (host := "") (Or.inl (hw _ (List.mem_of_getElem? (i := 21) rfl))) Via.refl e8 F1_o E_o (Or.inl (hw _ (List.mem_of_getElem? (i := 22) rfl))) (hw _ (List.mem_of_getElem? (i := 5) rfl)) (ty := .double) (by decide) rfl rfl (g := (mkF m 34 #[.val (.ref o), .val (.double x1), .second, .val (.int (2 : Int32)), .val (.double (own_D (sc + 8) u6)), .second, .unset] [(.double (own_D (sc + 8) u12)), (.ref o)])) rfl rfl (hb hby d5_34)
  have w13 : Fld Z h13 o "com/example/paranhos/paranhos/MatchRuns" "matched" "D" (.double (own_D (sc + 8) u12)) := F1_o.same W13
  have f13_0 := E_o.wr W13
  have f13_1 := F0_o.other W13 (Or.inr (slot_ne (a0 := a0) (C := "com/example/paranhos/paranhos/MatchRuns") (Or.inr (hw _ (List.mem_of_getElem? (i := 15) rfl))) (Or.inl (hw _ (List.mem_of_getElem? (i := 22) rfl))) (by decide) (t := (.array .double)) (t' := .double) (by decide) (by decide)))
  have f13_2 := V_b.other W13 (Ne.symm ne_ob)
  have K13 : Keep h0 h13 [o, b] := (Keep.refl h0 [o, b]).wr W13 (Or.inl (List.mem_of_getElem? (i := 0) rfl))
  have Z13 : n0 ≤ h13.size := Nat.le_trans Z0 K13.1
  have N13 := Fr.snoc X13 N0 g_o
  obtain ⟨J13, X13, N13⟩ := own_hide X13 N13
  refine own_Go.of (g' := (mkF m 37 #[.val (.ref o), .val (.double x1), .second, .val (.int (2 : Int32)), .val (.double (own_D (sc + 8) u6)), .second, .unset] [])) (fun t k => st13 _ k) ?_
  refine og_iloadN (pc' := 38) X13 hx (hb hby d5_37) rfl rfl ?_
  refine og_iconst (pc' := 39) (n := 1) X13 hx (hb hby d5_38) rfl rfl ?_
  refine og_isub (pc' := 40) X13 hx (hb hby d5_39) rfl ?_
  rw [show ((2 : Int32) - (1 : Int32)) = (1 : Int32) from by decide]
  refine og_istore (pc' := 42) (L' := #[.val (.ref o), .val (.double x1), .second, .val (.int (2 : Int32)), .val (.double (own_D (sc + 8) u6)), .second, .val (.int (1 : Int32))]) X13 hx (hb hby d5_40) rfl rfl ?_
  refine og_iload (pc' := 44) X13 hx (hb hby d5_42) rfl rfl ?_
  refine og_ifNo (pc' := 47) X13 hx (hb hby d5_44) ((if0 _ _).trans (tlt (by decide)).2.2.2) rfl ?_
  refine og_aloadN (pc' := 48) X13 hx (hb hby d5_47) rfl rfl rfl ?_
  obtain ⟨T14, X14, e14, st14⟩ := getF X13 hx hZ hown (host := "") (Or.inl (hw _ (List.mem_of_getElem? (i := 14) rfl))) Via.refl e13 f13_1 (g := (mkF m 48 #[.val (.ref o), .val (.double x1), .second, .val (.int (2 : Int32)), .val (.double (own_D (sc + 8) u6)), .second, .val (.int (1 : Int32))] [(.ref o)])) rfl rfl (hb hby d5_48)
  refine own_Go.of (g' := (mkF m 51 #[.val (.ref o), .val (.double x1), .second, .val (.int (2 : Int32)), .val (.double (own_D (sc + 8) u6)), .second, .val (.int (1 : Int32))] [(.ref b)])) (fun t k => st14 _ k) ?_
  refine og_iload (pc' := 53) X14 hx (hb hby d5_51) rfl rfl ?_
  refine og_aloadN (pc' := 54) X14 hx (hb hby d5_53) rfl rfl rfl ?_
  obtain ⟨T15, X15, e15, st15⟩ := getF X14 hx hZ hown (host := "") (Or.inl (hw _ (List.mem_of_getElem? (i := 14) rfl))) Via.refl e14 f13_1 (g := (mkF m 54 #[.val (.ref o), .val (.double x1), .second, .val (.int (2 : Int32)), .val (.double (own_D (sc + 8) u6)), .second, .val (.int (1 : Int32))] [(.ref o), (.int (1 : Int32)), (.ref b)])) rfl rfl (hb hby d5_54)
  refine own_Go.of (g' := (mkF m 57 #[.val (.ref o), .val (.double x1), .second, .val (.int (2 : Int32)), .val (.double (own_D (sc + 8) u6)), .second, .val (.int (1 : Int32))] [(.ref b), (.int (1 : Int32)), (.ref b)])) (fun t k => st15 _ k) ?_
  refine og_iload (pc' := 59) X15 hx (hb hby d5_57) rfl rfl ?_
  refine og_iconst (pc' := 60) (n := 1) X15 hx (hb hby d5_59) rfl rfl ?_
  refine og_isub (pc' := 61) X15 hx (hb hby d5_60) rfl ?_
  rw [show ((1 : Int32) - (1 : Int32)) = (0 : Int32) from by decide]
  obtain ⟨cl16, Ar16, q16, S16, M16, H16, G16⟩ := id f13_2
  have hin16 : ¬ ((0 : Int32) < 0 ∨ cl16.slots.size ≤ ((0 : Int32)).toNatClampNeg) := inb_of S16 ⟨by decide, by decide⟩
  have hat16 : cl16.slots[((0 : Int32)).toNatClampNeg]? = some (.double (own_D sc v0)) := Has.at H16 hin16 rfl
  refine own_Go.of (g' := (mkF m 62 #[.val (.ref o), .val (.double x1), .second, .val (.int (2 : Int32)), .val (.double (own_D (sc + 8) u6)), .second, .val (.int (1 : Int32))] [(.double (own_D sc v0)), (.int (1 : Int32)), (.ref b)])) (fun t k => X15.daload hx (j := (0 : Int32)) (v := (.double (own_D sc v0))) (by rw [e15]; exact Ar16.1) (State.isArrayOf_alike hZ.alike Ar16.2.1) Ar16.2.2 hin16 hat16 (g := (mkF m 61 #[.val (.ref o), .val (.double x1), .second, .val (.int (2 : Int32)), .val (.double (own_D (sc + 8) u6)), .second, .val (.int (1 : Int32))] [(.int (0 : Int32)), (.ref b), (.int (1 : Int32)), (.ref b)])) rfl rfl (hb hby d5_61) _ k) ?_
  refine og_dloadN (pc' := 63) X15 hx (hb hby d5_62) rfl rfl ?_
  obtain ⟨u17, hu17⟩ : ∃ q : Int, q = (v0 * pv) := ⟨_, rfl⟩
  have a17 : 0 ≤ u17 := by rw [hu17]; exact Int.mul_nonneg (by omega) (by omega)
  have z17 : u17 ≤ 4294967296 := by rw [hu17]; exact Int.le_trans (Int.mul_le_mul z_v0 z_pv (by omega) (by omega)) (by decide)
  have x17 : FP.dmul (own_D sc v0) x1 = own_D (sc + 8) u17 := own_xmul rfl hx1 hu17.symm rfl (by omega) (by omega) (by omega) (by omega) (by omega) (by omega)
  refine og_dmul (pc' := 64) X15 hx (hb hby d5_63) (own_nnx x17 (by omega) (by omega)) x17 rfl ?_
  obtain ⟨cl18, Ar18, q18, S18, M18, H18, G18⟩ := id f13_2
  have hin18 : ¬ ((1 : Int32) < 0 ∨ cl18.slots.size ≤ ((1 : Int32)).toNatClampNeg) := inb_of S18 ⟨by decide, by decide⟩
  obtain ⟨T18, h18, X18, e18, W18, st18⟩ := stD X15 hx hZ e15 Ar18 (j := (1 : Int32)) hin18 (g := (mkF m 64 #[.val (.ref o), .val (.double x1), .second, .val (.int (2 : Int32)), .val (.double (own_D (sc + 8) u6)), .second, .val (.int (1 : Int32))] [(.double (own_D (sc + 8) u17)), (.int (1 : Int32)), (.ref b)])) rfl rfl (hb hby d5_64)
  have V18 : Arv Z h18 b kk .double (2 : Int32) [(.double (own_D sc v0)), (.double (own_D (sc + 8) u17))] (.double (0 : UInt64)) := Arv.set Ar18 q18 S18 M18 H18 G18 rfl W18 1 rfl (Nat.le_of_ble_eq_true rfl)
  have f18_0 := f13_0.wr W18
  have f18_1 := f13_1.other W18 (Or.inl ne_ob)
  have f18_10 := w13.other W18 (Or.inl ne_ob)
  have K18 : Keep h0 h18 [o, b] := K13.wr W18 (Or.inl (List.mem_of_getElem? (i := 1) rfl))
  have Z18 : n0 ≤ h18.size := Nat.le_trans Z0 K18.1
  have N18 := Fr.snoc X18 N13 g_b
  obtain ⟨J18, X18, N18⟩ := own_hide X18 N18
  refine own_Go.of (g' := (mkF m 65 #[.val (.ref o), .val (.double x1), .second, .val (.int (2 : Int32)), .val (.double (own_D (sc + 8) u6)), .second, .val (.int (1 : Int32))] [])) (fun t k => st18 _ k) ?_
  refine og_iinc (pc' := 68) (L' := #[.val (.ref o), .val (.double x1), .second, .val (.int (2 : Int32)), .val (.double (own_D (sc + 8) u6)), .second, .val (.int ((1 : Int32) + (-1 : Int32)))]) X18 hx (hb hby d5_65) rfl rfl rfl ?_
  rw [show ((1 : Int32) + (-1 : Int32)) = (0 : Int32) from by decide]
  refine og_goto (pc' := 42) X18 hx (hb hby d5_68) (by decide) (by decide) ?_
  refine og_iload (pc' := 44) X18 hx (hb hby d5_42) rfl rfl ?_
  refine og_ifYes (pc' := 71) X18 hx (hb hby d5_44) ((if0 _ _).trans (flt (by decide)).2.2.2) (by decide) (by decide) ?_
  refine og_aloadN (pc' := 72) X18 hx (hb hby d5_71) rfl rfl rfl ?_
  obtain ⟨T19, X19, e19, st19⟩ := getF X18 hx hZ hown (host := "") (Or.inl (hw _ (List.mem_of_getElem? (i := 14) rfl))) Via.refl e18 f18_1 (g := (mkF m 72 #[.val (.ref o), .val (.double x1), .second, .val (.int (2 : Int32)), .val (.double (own_D (sc + 8) u6)), .second, .val (.int (0 : Int32))] [(.ref o)])) rfl rfl (hb hby d5_72)
  refine own_Go.of (g' := (mkF m 75 #[.val (.ref o), .val (.double x1), .second, .val (.int (2 : Int32)), .val (.double (own_D (sc + 8) u6)), .second, .val (.int (0 : Int32))] [(.ref b)])) (fun t k => st19 _ k) ?_
  refine og_iconst (pc' := 76) (n := 0) X19 hx (hb hby d5_75) rfl rfl ?_
  refine og_dload (pc' := 78) X19 hx (hb hby d5_76) rfl rfl ?_
  obtain ⟨cl20, Ar20, q20, S20, M20, H20, G20⟩ := id V18
  have hin20 : ¬ ((0 : Int32) < 0 ∨ cl20.slots.size ≤ ((0 : Int32)).toNatClampNeg) := inb_of S20 ⟨by decide, by decide⟩
  obtain ⟨T20, h20, X20, e20, W20, st20⟩ := stD X19 hx hZ e19 Ar20 (j := (0 : Int32)) hin20 (g := (mkF m 78 #[.val (.ref o), .val (.double x1), .second, .val (.int (2 : Int32)), .val (.double (own_D (sc + 8) u6)), .second, .val (.int (0 : Int32))] [(.double (own_D (sc + 8) u6)), (.int (0 : Int32)), (.ref b)])) rfl rfl (hb hby d5_78)
  have V20 : Arv Z h20 b kk .double (2 : Int32) [(.double (own_D (sc + 8) u6)), (.double (own_D (sc + 8) u17))] (.double (0 : UInt64)) := Arv.set Ar20 q20 S20 M20 H20 G20 rfl W20 0 rfl (Nat.le_of_ble_eq_true rfl)
  have f20_0 := f18_0.wr W20
  have f20_1 := f18_1.other W20 (Or.inl ne_ob)
  have f20_10 := f18_10.other W20 (Or.inl ne_ob)
  have K20 : Keep h0 h20 [o, b] := K18.wr W20 (Or.inl (List.mem_of_getElem? (i := 1) rfl))
  have Z20 : n0 ≤ h20.size := Nat.le_trans Z0 K20.1
  have N20 := Fr.snoc X20 N18 g_b
  obtain ⟨J20, X20, N20⟩ := own_hide X20 N20
  refine own_Go.of (g' := (mkF m 79 #[.val (.ref o), .val (.double x1), .second, .val (.int (2 : Int32)), .val (.double (own_D (sc + 8) u6)), .second, .val (.int (0 : Int32))] [])) (fun t k => st20 _ k) ?_
  obtain ⟨fs, hr, hrun, hended, hW, hsame⟩ := X20.leave (v := none) (fun _ => rfl) (BodyLoose.notSynchronized Bd)
  refine ⟨_, _, X20.returnOut hx Bd.returns (hb hby d5_79) hr, hrun, hended, none, _, rfl, ?_, ⟨_, rfl⟩, hW, hsame.mono (by decide) (by decide)⟩
  show Qadd2 Z o x1 b kk sc M pv mv v0 v1 h0 n0 _ T20.heap _
  rw [e20]
  exact ⟨u12, u6, u17, rfl, N20, K20, f20_0, f20_1, f20_10, V20, (by simp only [hu4, hu5, hu6, hu10, hu11, hu12, hu17]), (by simp only [hu4, hu5, hu6, hu10, hu11, hu12, hu17]), (by simp only [hu4, hu5, hu6, hu10, hu11, hu12, hu17])⟩

theorem pnadd3 : plainName "com/example/paranhos/paranhos/MatchRuns" = true := by first | (simp [plainName, overriddenIn]; done) | decide +kernel
theorem efadd3 (m : MethodId) (z0 : Addr) (z1 : UInt64) : entryFrame m #[(.ref z0), (.double z1)] 7 = mkF m 0 #[.val (.ref z0), .val (.double z1), .second, .unset, .unset, .unset, .unset] [] := by first | (simp [entryFrame, mkF, argsToLocals, Value.category]; done) | rfl
def Qadd3 (Z : State) (o : Addr) (x1 : UInt64) (b : Addr) (kk : ClassId) (sc : Nat) (M : Int) (pv : Int) (mv : Int) (v0 : Int) (v1 : Int) (v2 : Int) (h0 : Heap) (n0 : Nat) (v : Option Value) (h : Heap) (L : List Loc) : Prop := ∃ (nm : Int) (w0 : Int) (w1 : Int) (w2 : Int), v = none ∧ Fr n0 L ∧ Keep h0 h [o, b] ∧ Exa Z h o "com/example/paranhos/paranhos/MatchRuns" ∧ Fld Z h o "com/example/paranhos/paranhos/MatchRuns" "run" "[D" (.ref b) ∧ Fld Z h o "com/example/paranhos/paranhos/MatchRuns" "matched" "D" (.double (own_D (sc + 8) nm)) ∧ Arv Z h b kk .double (3 : Int32) [(.double (own_D (sc + 8) w0)), (.double (own_D (sc + 8) w1)), (.double (own_D (sc + 8) w2))] (.double (0 : UInt64)) ∧ nm = (mv * 256) + (v2 * pv) ∧ w0 = (M - mv) * (256 - pv) ∧ w1 = v0 * pv ∧ w2 = v1 * pv
set_option maxRecDepth 65536 in
set_option maxHeartbeats 40000000 in
theorem rmadd3 (l : Launch) (Z : State) (a0 : Array Value) (hw : ∀ d ∈ tables_1, d.before a0 Z = true) (ws : List Jvm.Cond) (o : Addr) (x1 : UInt64) (b : Addr) (kk : ClassId) (sc : Nat) (M : Int) (pv : Int) (mv : Int) (v0 : Int) (v1 : Int) (v2 : Int) (h0 : Heap) (n0 : Nat) (Z0 : n0 ≤ h0.size) (E_o : Exa Z h0 o "com/example/paranhos/paranhos/MatchRuns") (F0_o : Fld Z h0 o "com/example/paranhos/paranhos/MatchRuns" "run" "[D" (.ref b)) (F1_o : Fld Z h0 o "com/example/paranhos/paranhos/MatchRuns" "matched" "D" (.double (own_D sc mv))) (V_b : Arv Z h0 b kk .double (3 : Int32) [(.double (own_D sc v0)), (.double (own_D sc v1)), (.double (own_D sc v2))] (.double (0 : UInt64))) (g_o : n0 ≤ o) (g_b : n0 ≤ b) (ne_ob : o ≠ b) (hx1 : x1 = own_D 8 pv) (hp : 0 ≤ pv ∧ pv ≤ 256) (hl : 0 ≤ mv ∧ 0 ≤ v0 ∧ 0 ≤ v1 ∧ 0 ≤ v2) (hs : mv + v0 + v1 + v2 = M) (hM : sc ≤ 24 ∧ M ≤ 16777216 ∧ FP.dconst1 = own_D sc M) :
    MetFree l (⟨"com/example/paranhos/paranhos/MatchRuns", "add", "(D)V"⟩ : MethodName) (head1 (Jvm.Cond.code (⟨"com/example/paranhos/paranhos/MatchRuns", "add", "(D)V"⟩ : MethodName) prog_14_method_4_code 7 none :: ws) ({ frames := 0, cells := 0, slots := 0, locals := 0 } : Room)) (fun ag U => ag = #[(.ref o), (.double x1)] ∧ Z.Warmed39 U.vm ∧ U.heap = h0) (fun _ _ _ _ _ => True) (fun _ U oc U' => ∃ v L, oc = .returned v ∧ Qadd3 Z o x1 b kk sc M pv mv v0 v1 v2 h0 n0 v U'.heap L ∧ FrameEnd U oc U' L ({ frames := 0, cells := 0, slots := 0, locals := 0 } : Room).cells ({ frames := 0, cells := 0, slots := 0, locals := 0 } : Room).slots) := by
  refine MetFree.of_bodySF (plainFor_of_name pnadd3) hisR ?_
  intro p e s m args below meth c s₁ Bd hml0 hP hK
  obtain ⟨rfl, hZ, hh⟩ := hP
  have hx := Bd.exec
  have hby := Bd.bytes
  have hml : c.maxLocals = 7 := hml0
  have hown : s.vm.findClass "com/example/paranhos/paranhos/MatchRuns" = some m.cls := findClass_of_methodNamed Bd.named
  have hnm := (name_of_methodNamed Bd.named Bd.method).1
  have X0 : Stand p l e ({ frames := 0, cells := 0, slots := 0, locals := 0 } : Room) s m #[(.ref o), (.double x1)] below meth c s₁ [] 0 0 := Stand.of_body Bd
  have e0 : s₁.heap = h0 := by rw [← hh, Bd.state]; rfl
  have N0 := Fr.nil n0
  show own_Go p e below (fun s₂ oc => ∃ v L, oc = .returned v ∧ Qadd3 Z o x1 b kk sc M pv mv v0 v1 v2 h0 n0 v s₂.heap L ∧ FrameEnd s oc s₂ L ({ frames := 0, cells := 0, slots := 0, locals := 0 } : Room).cells ({ frames := 0, cells := 0, slots := 0, locals := 0 } : Room).slots) s₁ (entryFrame m #[(.ref o), (.double x1)] 7)
  refine own_Go.of (g' := mkF m 0 #[.val (.ref o), .val (.double x1), .second, .unset, .unset, .unset, .unset] []) (fun t k => castTop (efadd3 m o x1) k) ?_
  obtain ⟨a_mv, a_v0, a_v1, a_v2⟩ := hl
  obtain ⟨a_pv, z_pv⟩ := hp
  obtain ⟨hsc, z_M, hone⟩ := hM
  have z_mv : mv ≤ 16777216 := by omega
  have z_v0 : v0 ≤ 16777216 := by omega
  have z_v1 : v1 ≤ 16777216 := by omega
  have z_v2 : v2 ≤ 16777216 := by omega
  have a_M : 0 ≤ M := by omega
  refine og_aloadN (pc' := 1) X0 hx (hb hby d5_0) rfl rfl rfl ?_
  obtain ⟨T1, X1, e1, st1⟩ := getF X0 hx hZ hown (host := "") (Or.inl (hw _ (List.mem_of_getElem? (i := 14) rfl))) Via.refl e0 F0_o (g := (mkF m 1 #[.val (.ref o), .val (.double x1), .second, .unset, .unset, .unset, .unset] [(.ref o)])) rfl rfl (hb hby d5_1)
  refine own_Go.of (g' := (mkF m 4 #[.val (.ref o), .val (.double x1), .second, .unset, .unset, .unset, .unset] [(.ref b)])) (fun t k => st1 _ k) ?_
  obtain ⟨cl2, Ar2, q2, S2, M2, H2, G2⟩ := id V_b
  refine own_Go.of (g' := (mkF m 5 #[.val (.ref o), .val (.double x1), .second, .unset, .unset, .unset, .unset] [(.int (3 : Int32))])) (fun t k => X1.arraylength hx (by rw [e1]; exact Ar2.1) (State.isArrayOf_alike hZ.alike Ar2.2.1) (g := (mkF m 4 #[.val (.ref o), .val (.double x1), .second, .unset, .unset, .unset, .unset] [(.ref b)])) rfl rfl (hb hby d5_4) _ (by rw [len_of S2 M2]; exact k)) ?_
  refine og_istoreN (pc' := 6) (L' := #[.val (.ref o), .val (.double x1), .second, .val (.int (3 : Int32)), .unset, .unset, .unset]) X1 hx (hb hby d5_5) rfl rfl ?_
  refine og_dconst1 (pc' := 7) X1 hx (hb hby d5_6) hone rfl ?_
  refine og_aloadN (pc' := 8) X1 hx (hb hby d5_7) rfl rfl rfl ?_
  obtain ⟨T3, X3, e3, st3⟩ := getF X1 hx hZ hown (host := "") (Or.inl (hw _ (List.mem_of_getElem? (i := 21) rfl))) Via.refl e1 F1_o (g := (mkF m 8 #[.val (.ref o), .val (.double x1), .second, .val (.int (3 : Int32)), .unset, .unset, .unset] [(.ref o), (.double (own_D sc M))])) rfl rfl (hb hby d5_8)
  refine own_Go.of (g' := (mkF m 11 #[.val (.ref o), .val (.double x1), .second, .val (.int (3 : Int32)), .unset, .unset, .unset] [(.double (own_D sc mv)), (.double (own_D sc M))])) (fun t k => st3 _ k) ?_
  obtain ⟨u4, hu4⟩ : ∃ q : Int, q = (M - mv) := ⟨_, rfl⟩
  have a4 : 0 ≤ u4 := by omega
  have z4 : u4 ≤ 16777216 := by omega
  have x4 : FP.dsub (own_D sc M) (own_D sc mv) = own_D sc u4 := own_xsub rfl rfl hu4.symm (by omega) (by omega) (by omega)
  refine og_dsub (pc' := 12) X3 hx (hb hby d5_11) (own_nnx x4 (by omega) (by omega)) x4 rfl ?_
  refine og_dconst1 (pc' := 13) X3 hx (hb hby d5_12) own_o8 rfl ?_
  refine og_dloadN (pc' := 14) X3 hx (hb hby d5_13) rfl rfl ?_
  obtain ⟨u5, hu5⟩ : ∃ q : Int, q = (256 - pv) := ⟨_, rfl⟩
  have a5 : 0 ≤ u5 := by omega
  have z5 : u5 ≤ 256 := by omega
  have x5 : FP.dsub (own_D 8 256) x1 = own_D 8 u5 := own_xsub rfl hx1 hu5.symm (by omega) (by omega) (by omega)
  refine og_dsub (pc' := 15) X3 hx (hb hby d5_14) (own_nnx x5 (by omega) (by omega)) x5 rfl ?_
  obtain ⟨u6, hu6⟩ : ∃ q : Int, q = (u4 * u5) := ⟨_, rfl⟩
  have a6 : 0 ≤ u6 := by rw [hu6]; exact Int.mul_nonneg (by omega) (by omega)
  have z6 : u6 ≤ 4294967296 := by rw [hu6]; exact Int.le_trans (Int.mul_le_mul z4 z5 (by omega) (by omega)) (by decide)
  have x6 : FP.dmul (own_D sc u4) (own_D 8 u5) = own_D (sc + 8) u6 := own_xmul rfl rfl hu6.symm rfl (by omega) (by omega) (by omega) (by omega) (by omega) (by omega)
  refine og_dmul (pc' := 16) X3 hx (hb hby d5_15) (own_nnx x6 (by omega) (by omega)) x6 rfl ?_
  refine og_dstore (pc' := 18) (L' := #[.val (.ref o), .val (.double x1), .second, .val (.int (3 : Int32)), .val (.double (own_D (sc + 8) u6)), .second, .unset]) X3 hx (hb hby d5_16) rfl rfl ?_
  refine og_aloadN (pc' := 19) X3 hx (hb hby d5_18) rfl rfl rfl ?_
  refine og_dup (pc' := 20) X3 hx (hb hby d5_19) rfl rfl ?_
  obtain ⟨T7, X7, e7, st7⟩ := getF X3 hx hZ hown (host := "") (Or.inl (hw _ (List.mem_of_getElem? (i := 21) rfl))) Via.refl e3 F1_o (g := (mkF m 20 #[.val (.ref o), .val (.double x1), .second, .val (.int (3 : Int32)), .val (.double (own_D (sc + 8) u6)), .second, .unset] [(.ref o), (.ref o)])) rfl rfl (hb hby d5_20)
  refine own_Go.of (g' := (mkF m 23 #[.val (.ref o), .val (.double x1), .second, .val (.int (3 : Int32)), .val (.double (own_D (sc + 8) u6)), .second, .unset] [(.double (own_D sc mv)), (.ref o)])) (fun t k => st7 _ k) ?_
  refine og_aloadN (pc' := 24) X7 hx (hb hby d5_23) rfl rfl rfl ?_
  obtain ⟨T8, X8, e8, st8⟩ := getF X7 hx hZ hown (host := "") (Or.inl (hw _ (List.mem_of_getElem? (i := 14) rfl))) Via.refl e7 F0_o (g := (mkF m 24 #[.val (.ref o), .val (.double x1), .second, .val (.int (3 : Int32)), .val (.double (own_D (sc + 8) u6)), .second, .unset] [(.ref o), (.double (own_D sc mv)), (.ref o)])) rfl rfl (hb hby d5_24)
  refine own_Go.of (g' := (mkF m 27 #[.val (.ref o), .val (.double x1), .second, .val (.int (3 : Int32)), .val (.double (own_D (sc + 8) u6)), .second, .unset] [(.ref b), (.double (own_D sc mv)), (.ref o)])) (fun t k => st8 _ k) ?_
  refine og_iloadN (pc' := 28) X8 hx (hb hby d5_27) rfl rfl ?_
  refine og_iconst (pc' := 29) (n := 1) X8 hx (hb hby d5_28) rfl rfl ?_
  refine og_isub (pc' := 30) X8 hx (hb hby d5_29) rfl ?_
  rw [show ((3 : Int32) - (1 : Int32)) = (2 : Int32) from by decide]
  obtain ⟨cl9, Ar9, q9, S9, M9, H9, G9⟩ := id V_b
  have hin9 : ¬ ((2 : Int32) < 0 ∨ cl9.slots.size ≤ ((2 : Int32)).toNatClampNeg) := inb_of S9 ⟨by decide, by decide⟩
  have hat9 : cl9.slots[((2 : Int32)).toNatClampNeg]? = some (.double (own_D sc v2)) := Has.at H9 hin9 rfl
  refine own_Go.of (g' := (mkF m 31 #[.val (.ref o), .val (.double x1), .second, .val (.int (3 : Int32)), .val (.double (own_D (sc + 8) u6)), .second, .unset] [(.double (own_D sc v2)), (.double (own_D sc mv)), (.ref o)])) (fun t k => X8.daload hx (j := (2 : Int32)) (v := (.double (own_D sc v2))) (by rw [e8]; exact Ar9.1) (State.isArrayOf_alike hZ.alike Ar9.2.1) Ar9.2.2 hin9 hat9 (g := (mkF m 30 #[.val (.ref o), .val (.double x1), .second, .val (.int (3 : Int32)), .val (.double (own_D (sc + 8) u6)), .second, .unset] [(.int (2 : Int32)), (.ref b), (.double (own_D sc mv)), (.ref o)])) rfl rfl (hb hby d5_30) _ k) ?_
  refine og_dloadN (pc' := 32) X8 hx (hb hby d5_31) rfl rfl ?_
  obtain ⟨u10, hu10⟩ : ∃ q : Int, q = (v2 * pv) := ⟨_, rfl⟩
  have a10 : 0 ≤ u10 := by rw [hu10]; exact Int.mul_nonneg (by omega) (by omega)
  have z10 : u10 ≤ 4294967296 := by rw [hu10]; exact Int.le_trans (Int.mul_le_mul z_v2 z_pv (by omega) (by omega)) (by decide)
  have x10 : FP.dmul (own_D sc v2) x1 = own_D (sc + 8) u10 := own_xmul rfl hx1 hu10.symm rfl (by omega) (by omega) (by omega) (by omega) (by omega) (by omega)
  refine og_dmul (pc' := 33) X8 hx (hb hby d5_32) (own_nnx x10 (by omega) (by omega)) x10 rfl ?_
  obtain ⟨u11, hu11⟩ : ∃ q : Int, q = (mv * 256) := ⟨_, rfl⟩
  have y11 : _ = own_D (sc + 8) u11 := (rfl : own_D sc mv = own_D sc mv).trans (by rw [hu11]; exact own_resc _ _)
  have a11 : 0 ≤ u11 := by omega
  have z11 : u11 ≤ 4294967296 := by omega
  obtain ⟨u12, hu12⟩ : ∃ q : Int, q = (u11 + u10) := ⟨_, rfl⟩
  have a12 : 0 ≤ u12 := by omega
  have z12 : u12 ≤ 8589934592 := by omega
  have x12 : FP.dadd (own_D sc mv) (own_D (sc + 8) u10) = own_D (sc + 8) u12 := own_xadd y11 rfl hu12.symm (by omega) (by omega) (by omega)
  refine og_dadd (pc' := 34) X8 hx (hb hby d5_33) (own_nnx x12 (by omega) (by omega)) x12 rfl ?_
  obtain ⟨T13, h13, X13, e13, W13, st13⟩ := putF X8 hx hZ hown (host := "") (Or.inl (hw _ (List.mem_of_getElem? (i := 21) rfl))) Via.refl e8 F1_o E_o (Or.inl (hw _ (List.mem_of_getElem? (i := 22) rfl))) (hw _ (List.mem_of_getElem? (i := 5) rfl)) (ty := .double) (by decide) rfl rfl (g := (mkF m 34 #[.val (.ref o), .val (.double x1), .second, .val (.int (3 : Int32)), .val (.double (own_D (sc + 8) u6)), .second, .unset] [(.double (own_D (sc + 8) u12)), (.ref o)])) rfl rfl (hb hby d5_34)
  have w13 : Fld Z h13 o "com/example/paranhos/paranhos/MatchRuns" "matched" "D" (.double (own_D (sc + 8) u12)) := F1_o.same W13
  have f13_0 := E_o.wr W13
  have f13_1 := F0_o.other W13 (Or.inr (slot_ne (a0 := a0) (C := "com/example/paranhos/paranhos/MatchRuns") (Or.inr (hw _ (List.mem_of_getElem? (i := 15) rfl))) (Or.inl (hw _ (List.mem_of_getElem? (i := 22) rfl))) (by decide) (t := (.array .double)) (t' := .double) (by decide) (by decide)))
  have f13_2 := V_b.other W13 (Ne.symm ne_ob)
  have K13 : Keep h0 h13 [o, b] := (Keep.refl h0 [o, b]).wr W13 (Or.inl (List.mem_of_getElem? (i := 0) rfl))
  have Z13 : n0 ≤ h13.size := Nat.le_trans Z0 K13.1
  have N13 := Fr.snoc X13 N0 g_o
  obtain ⟨J13, X13, N13⟩ := own_hide X13 N13
  refine own_Go.of (g' := (mkF m 37 #[.val (.ref o), .val (.double x1), .second, .val (.int (3 : Int32)), .val (.double (own_D (sc + 8) u6)), .second, .unset] [])) (fun t k => st13 _ k) ?_
  refine og_iloadN (pc' := 38) X13 hx (hb hby d5_37) rfl rfl ?_
  refine og_iconst (pc' := 39) (n := 1) X13 hx (hb hby d5_38) rfl rfl ?_
  refine og_isub (pc' := 40) X13 hx (hb hby d5_39) rfl ?_
  rw [show ((3 : Int32) - (1 : Int32)) = (2 : Int32) from by decide]
  refine og_istore (pc' := 42) (L' := #[.val (.ref o), .val (.double x1), .second, .val (.int (3 : Int32)), .val (.double (own_D (sc + 8) u6)), .second, .val (.int (2 : Int32))]) X13 hx (hb hby d5_40) rfl rfl ?_
  refine og_iload (pc' := 44) X13 hx (hb hby d5_42) rfl rfl ?_
  refine og_ifNo (pc' := 47) X13 hx (hb hby d5_44) ((if0 _ _).trans (tlt (by decide)).2.2.2) rfl ?_
  refine og_aloadN (pc' := 48) X13 hx (hb hby d5_47) rfl rfl rfl ?_
  obtain ⟨T14, X14, e14, st14⟩ := getF X13 hx hZ hown (host := "") (Or.inl (hw _ (List.mem_of_getElem? (i := 14) rfl))) Via.refl e13 f13_1 (g := (mkF m 48 #[.val (.ref o), .val (.double x1), .second, .val (.int (3 : Int32)), .val (.double (own_D (sc + 8) u6)), .second, .val (.int (2 : Int32))] [(.ref o)])) rfl rfl (hb hby d5_48)
  refine own_Go.of (g' := (mkF m 51 #[.val (.ref o), .val (.double x1), .second, .val (.int (3 : Int32)), .val (.double (own_D (sc + 8) u6)), .second, .val (.int (2 : Int32))] [(.ref b)])) (fun t k => st14 _ k) ?_
  refine og_iload (pc' := 53) X14 hx (hb hby d5_51) rfl rfl ?_
  refine og_aloadN (pc' := 54) X14 hx (hb hby d5_53) rfl rfl rfl ?_
  obtain ⟨T15, X15, e15, st15⟩ := getF X14 hx hZ hown (host := "") (Or.inl (hw _ (List.mem_of_getElem? (i := 14) rfl))) Via.refl e14 f13_1 (g := (mkF m 54 #[.val (.ref o), .val (.double x1), .second, .val (.int (3 : Int32)), .val (.double (own_D (sc + 8) u6)), .second, .val (.int (2 : Int32))] [(.ref o), (.int (2 : Int32)), (.ref b)])) rfl rfl (hb hby d5_54)
  refine own_Go.of (g' := (mkF m 57 #[.val (.ref o), .val (.double x1), .second, .val (.int (3 : Int32)), .val (.double (own_D (sc + 8) u6)), .second, .val (.int (2 : Int32))] [(.ref b), (.int (2 : Int32)), (.ref b)])) (fun t k => st15 _ k) ?_
  refine og_iload (pc' := 59) X15 hx (hb hby d5_57) rfl rfl ?_
  refine og_iconst (pc' := 60) (n := 1) X15 hx (hb hby d5_59) rfl rfl ?_
  refine og_isub (pc' := 61) X15 hx (hb hby d5_60) rfl ?_
  rw [show ((2 : Int32) - (1 : Int32)) = (1 : Int32) from by decide]
  obtain ⟨cl16, Ar16, q16, S16, M16, H16, G16⟩ := id f13_2
  have hin16 : ¬ ((1 : Int32) < 0 ∨ cl16.slots.size ≤ ((1 : Int32)).toNatClampNeg) := inb_of S16 ⟨by decide, by decide⟩
  have hat16 : cl16.slots[((1 : Int32)).toNatClampNeg]? = some (.double (own_D sc v1)) := Has.at H16 hin16 rfl
  refine own_Go.of (g' := (mkF m 62 #[.val (.ref o), .val (.double x1), .second, .val (.int (3 : Int32)), .val (.double (own_D (sc + 8) u6)), .second, .val (.int (2 : Int32))] [(.double (own_D sc v1)), (.int (2 : Int32)), (.ref b)])) (fun t k => X15.daload hx (j := (1 : Int32)) (v := (.double (own_D sc v1))) (by rw [e15]; exact Ar16.1) (State.isArrayOf_alike hZ.alike Ar16.2.1) Ar16.2.2 hin16 hat16 (g := (mkF m 61 #[.val (.ref o), .val (.double x1), .second, .val (.int (3 : Int32)), .val (.double (own_D (sc + 8) u6)), .second, .val (.int (2 : Int32))] [(.int (1 : Int32)), (.ref b), (.int (2 : Int32)), (.ref b)])) rfl rfl (hb hby d5_61) _ k) ?_
  refine og_dloadN (pc' := 63) X15 hx (hb hby d5_62) rfl rfl ?_
  obtain ⟨u17, hu17⟩ : ∃ q : Int, q = (v1 * pv) := ⟨_, rfl⟩
  have a17 : 0 ≤ u17 := by rw [hu17]; exact Int.mul_nonneg (by omega) (by omega)
  have z17 : u17 ≤ 4294967296 := by rw [hu17]; exact Int.le_trans (Int.mul_le_mul z_v1 z_pv (by omega) (by omega)) (by decide)
  have x17 : FP.dmul (own_D sc v1) x1 = own_D (sc + 8) u17 := own_xmul rfl hx1 hu17.symm rfl (by omega) (by omega) (by omega) (by omega) (by omega) (by omega)
  refine og_dmul (pc' := 64) X15 hx (hb hby d5_63) (own_nnx x17 (by omega) (by omega)) x17 rfl ?_
  obtain ⟨cl18, Ar18, q18, S18, M18, H18, G18⟩ := id f13_2
  have hin18 : ¬ ((2 : Int32) < 0 ∨ cl18.slots.size ≤ ((2 : Int32)).toNatClampNeg) := inb_of S18 ⟨by decide, by decide⟩
  obtain ⟨T18, h18, X18, e18, W18, st18⟩ := stD X15 hx hZ e15 Ar18 (j := (2 : Int32)) hin18 (g := (mkF m 64 #[.val (.ref o), .val (.double x1), .second, .val (.int (3 : Int32)), .val (.double (own_D (sc + 8) u6)), .second, .val (.int (2 : Int32))] [(.double (own_D (sc + 8) u17)), (.int (2 : Int32)), (.ref b)])) rfl rfl (hb hby d5_64)
  have V18 : Arv Z h18 b kk .double (3 : Int32) [(.double (own_D sc v0)), (.double (own_D sc v1)), (.double (own_D (sc + 8) u17))] (.double (0 : UInt64)) := Arv.set Ar18 q18 S18 M18 H18 G18 rfl W18 2 rfl (Nat.le_of_ble_eq_true rfl)
  have f18_0 := f13_0.wr W18
  have f18_1 := f13_1.other W18 (Or.inl ne_ob)
  have f18_10 := w13.other W18 (Or.inl ne_ob)
  have K18 : Keep h0 h18 [o, b] := K13.wr W18 (Or.inl (List.mem_of_getElem? (i := 1) rfl))
  have Z18 : n0 ≤ h18.size := Nat.le_trans Z0 K18.1
  have N18 := Fr.snoc X18 N13 g_b
  obtain ⟨J18, X18, N18⟩ := own_hide X18 N18
  refine own_Go.of (g' := (mkF m 65 #[.val (.ref o), .val (.double x1), .second, .val (.int (3 : Int32)), .val (.double (own_D (sc + 8) u6)), .second, .val (.int (2 : Int32))] [])) (fun t k => st18 _ k) ?_
  refine og_iinc (pc' := 68) (L' := #[.val (.ref o), .val (.double x1), .second, .val (.int (3 : Int32)), .val (.double (own_D (sc + 8) u6)), .second, .val (.int ((2 : Int32) + (-1 : Int32)))]) X18 hx (hb hby d5_65) rfl rfl rfl ?_
  rw [show ((2 : Int32) + (-1 : Int32)) = (1 : Int32) from by decide]
  refine og_goto (pc' := 42) X18 hx (hb hby d5_68) (by decide) (by decide) ?_
  refine og_iload (pc' := 44) X18 hx (hb hby d5_42) rfl rfl ?_
  refine og_ifNo (pc' := 47) X18 hx (hb hby d5_44) ((if0 _ _).trans (tlt (by decide)).2.2.2) rfl ?_
  refine og_aloadN (pc' := 48) X18 hx (hb hby d5_47) rfl rfl rfl ?_
  obtain ⟨T19, X19, e19, st19⟩ := getF X18 hx hZ hown (host := "") (Or.inl (hw _ (List.mem_of_getElem? (i := 14) rfl))) Via.refl e18 f18_1 (g := (mkF m 48 #[.val (.ref o), .val (.double x1), .second, .val (.int (3 : Int32)), .val (.double (own_D (sc + 8) u6)), .second, .val (.int (1 : Int32))] [(.ref o)])) rfl rfl (hb hby d5_48)
  refine own_Go.of (g' := (mkF m 51 #[.val (.ref o), .val (.double x1), .second, .val (.int (3 : Int32)), .val (.double (own_D (sc + 8) u6)), .second, .val (.int (1 : Int32))] [(.ref b)])) (fun t k => st19 _ k) ?_
  refine og_iload (pc' := 53) X19 hx (hb hby d5_51) rfl rfl ?_
  refine og_aloadN (pc' := 54) X19 hx (hb hby d5_53) rfl rfl rfl ?_
  obtain ⟨T20, X20, e20, st20⟩ := getF X19 hx hZ hown (host := "") (Or.inl (hw _ (List.mem_of_getElem? (i := 14) rfl))) Via.refl e19 f18_1 (g := (mkF m 54 #[.val (.ref o), .val (.double x1), .second, .val (.int (3 : Int32)), .val (.double (own_D (sc + 8) u6)), .second, .val (.int (1 : Int32))] [(.ref o), (.int (1 : Int32)), (.ref b)])) rfl rfl (hb hby d5_54)
  refine own_Go.of (g' := (mkF m 57 #[.val (.ref o), .val (.double x1), .second, .val (.int (3 : Int32)), .val (.double (own_D (sc + 8) u6)), .second, .val (.int (1 : Int32))] [(.ref b), (.int (1 : Int32)), (.ref b)])) (fun t k => st20 _ k) ?_
  refine og_iload (pc' := 59) X20 hx (hb hby d5_57) rfl rfl ?_
  refine og_iconst (pc' := 60) (n := 1) X20 hx (hb hby d5_59) rfl rfl ?_
  refine og_isub (pc' := 61) X20 hx (hb hby d5_60) rfl ?_
  rw [show ((1 : Int32) - (1 : Int32)) = (0 : Int32) from by decide]
  obtain ⟨cl21, Ar21, q21, S21, M21, H21, G21⟩ := id V18
  have hin21 : ¬ ((0 : Int32) < 0 ∨ cl21.slots.size ≤ ((0 : Int32)).toNatClampNeg) := inb_of S21 ⟨by decide, by decide⟩
  have hat21 : cl21.slots[((0 : Int32)).toNatClampNeg]? = some (.double (own_D sc v0)) := Has.at H21 hin21 rfl
  refine own_Go.of (g' := (mkF m 62 #[.val (.ref o), .val (.double x1), .second, .val (.int (3 : Int32)), .val (.double (own_D (sc + 8) u6)), .second, .val (.int (1 : Int32))] [(.double (own_D sc v0)), (.int (1 : Int32)), (.ref b)])) (fun t k => X20.daload hx (j := (0 : Int32)) (v := (.double (own_D sc v0))) (by rw [e20]; exact Ar21.1) (State.isArrayOf_alike hZ.alike Ar21.2.1) Ar21.2.2 hin21 hat21 (g := (mkF m 61 #[.val (.ref o), .val (.double x1), .second, .val (.int (3 : Int32)), .val (.double (own_D (sc + 8) u6)), .second, .val (.int (1 : Int32))] [(.int (0 : Int32)), (.ref b), (.int (1 : Int32)), (.ref b)])) rfl rfl (hb hby d5_61) _ k) ?_
  refine og_dloadN (pc' := 63) X20 hx (hb hby d5_62) rfl rfl ?_
  obtain ⟨u22, hu22⟩ : ∃ q : Int, q = (v0 * pv) := ⟨_, rfl⟩
  have a22 : 0 ≤ u22 := by rw [hu22]; exact Int.mul_nonneg (by omega) (by omega)
  have z22 : u22 ≤ 4294967296 := by rw [hu22]; exact Int.le_trans (Int.mul_le_mul z_v0 z_pv (by omega) (by omega)) (by decide)
  have x22 : FP.dmul (own_D sc v0) x1 = own_D (sc + 8) u22 := own_xmul rfl hx1 hu22.symm rfl (by omega) (by omega) (by omega) (by omega) (by omega) (by omega)
  refine og_dmul (pc' := 64) X20 hx (hb hby d5_63) (own_nnx x22 (by omega) (by omega)) x22 rfl ?_
  obtain ⟨cl23, Ar23, q23, S23, M23, H23, G23⟩ := id V18
  have hin23 : ¬ ((1 : Int32) < 0 ∨ cl23.slots.size ≤ ((1 : Int32)).toNatClampNeg) := inb_of S23 ⟨by decide, by decide⟩
  obtain ⟨T23, h23, X23, e23, W23, st23⟩ := stD X20 hx hZ e20 Ar23 (j := (1 : Int32)) hin23 (g := (mkF m 64 #[.val (.ref o), .val (.double x1), .second, .val (.int (3 : Int32)), .val (.double (own_D (sc + 8) u6)), .second, .val (.int (1 : Int32))] [(.double (own_D (sc + 8) u22)), (.int (1 : Int32)), (.ref b)])) rfl rfl (hb hby d5_64)
  have V23 : Arv Z h23 b kk .double (3 : Int32) [(.double (own_D sc v0)), (.double (own_D (sc + 8) u22)), (.double (own_D (sc + 8) u17))] (.double (0 : UInt64)) := Arv.set Ar23 q23 S23 M23 H23 G23 rfl W23 1 rfl (Nat.le_of_ble_eq_true rfl)
  have f23_0 := f18_0.wr W23
  have f23_1 := f18_1.other W23 (Or.inl ne_ob)
  have f23_10 := f18_10.other W23 (Or.inl ne_ob)
  have K23 : Keep h0 h23 [o, b] := K18.wr W23 (Or.inl (List.mem_of_getElem? (i := 1) rfl))
  have Z23 : n0 ≤ h23.size := Nat.le_trans Z0 K23.1
  have N23 := Fr.snoc X23 N18 g_b
  obtain ⟨J23, X23, N23⟩ := own_hide X23 N23
  refine own_Go.of (g' := (mkF m 65 #[.val (.ref o), .val (.double x1), .second, .val (.int (3 : Int32)), .val (.double (own_D (sc + 8) u6)), .second, .val (.int (1 : Int32))] [])) (fun t k => st23 _ k) ?_
  refine og_iinc (pc' := 68) (L' := #[.val (.ref o), .val (.double x1), .second, .val (.int (3 : Int32)), .val (.double (own_D (sc + 8) u6)), .second, .val (.int ((1 : Int32) + (-1 : Int32)))]) X23 hx (hb hby d5_65) rfl rfl rfl ?_
  rw [show ((1 : Int32) + (-1 : Int32)) = (0 : Int32) from by decide]
  refine og_goto (pc' := 42) X23 hx (hb hby d5_68) (by decide) (by decide) ?_
  refine og_iload (pc' := 44) X23 hx (hb hby d5_42) rfl rfl ?_
  refine og_ifYes (pc' := 71) X23 hx (hb hby d5_44) ((if0 _ _).trans (flt (by decide)).2.2.2) (by decide) (by decide) ?_
  refine og_aloadN (pc' := 72) X23 hx (hb hby d5_71) rfl rfl rfl ?_
  obtain ⟨T24, X24, e24, st24⟩ := getF X23 hx hZ hown (host := "") (Or.inl (hw _ (List.mem_of_getElem? (i := 14) rfl))) Via.refl e23 f23_1 (g := (mkF m 72 #[.val (.ref o), .val (.double x1), .second, .val (.int (3 : Int32)), .val (.double (own_D (sc + 8) u6)), .second, .val (.int (0 : Int32))] [(.ref o)])) rfl rfl (hb hby d5_72)
  refine own_Go.of (g' := (mkF m 75 #[.val (.ref o), .val (.double x1), .second, .val (.int (3 : Int32)), .val (.double (own_D (sc + 8) u6)), .second, .val (.int (0 : Int32))] [(.ref b)])) (fun t k => st24 _ k) ?_
  refine og_iconst (pc' := 76) (n := 0) X24 hx (hb hby d5_75) rfl rfl ?_
  refine og_dload (pc' := 78) X24 hx (hb hby d5_76) rfl rfl ?_
  obtain ⟨cl25, Ar25, q25, S25, M25, H25, G25⟩ := id V23
  have hin25 : ¬ ((0 : Int32) < 0 ∨ cl25.slots.size ≤ ((0 : Int32)).toNatClampNeg) := inb_of S25 ⟨by decide, by decide⟩
  obtain ⟨T25, h25, X25, e25, W25, st25⟩ := stD X24 hx hZ e24 Ar25 (j := (0 : Int32)) hin25 (g := (mkF m 78 #[.val (.ref o), .val (.double x1), .second, .val (.int (3 : Int32)), .val (.double (own_D (sc + 8) u6)), .second, .val (.int (0 : Int32))] [(.double (own_D (sc + 8) u6)), (.int (0 : Int32)), (.ref b)])) rfl rfl (hb hby d5_78)
  have V25 : Arv Z h25 b kk .double (3 : Int32) [(.double (own_D (sc + 8) u6)), (.double (own_D (sc + 8) u22)), (.double (own_D (sc + 8) u17))] (.double (0 : UInt64)) := Arv.set Ar25 q25 S25 M25 H25 G25 rfl W25 0 rfl (Nat.le_of_ble_eq_true rfl)
  have f25_0 := f23_0.wr W25
  have f25_1 := f23_1.other W25 (Or.inl ne_ob)
  have f25_10 := f23_10.other W25 (Or.inl ne_ob)
  have K25 : Keep h0 h25 [o, b] := K23.wr W25 (Or.inl (List.mem_of_getElem? (i := 1) rfl))
  have Z25 : n0 ≤ h25.size := Nat.le_trans Z0 K25.1
  have N25 := Fr.snoc X25 N23 g_b
  obtain ⟨J25, X25, N25⟩ := own_hide X25 N25
  refine own_Go.of (g' := (mkF m 79 #[.val (.ref o), .val (.double x1), .second, .val (.int (3 : Int32)), .val (.double (own_D (sc + 8) u6)), .second, .val (.int (0 : Int32))] [])) (fun t k => st25 _ k) ?_
  obtain ⟨fs, hr, hrun, hended, hW, hsame⟩ := X25.leave (v := none) (fun _ => rfl) (BodyLoose.notSynchronized Bd)
  refine ⟨_, _, X25.returnOut hx Bd.returns (hb hby d5_79) hr, hrun, hended, none, _, rfl, ?_, ⟨_, rfl⟩, hW, hsame.mono (by decide) (by decide)⟩
  show Qadd3 Z o x1 b kk sc M pv mv v0 v1 v2 h0 n0 _ T25.heap _
  rw [e25]
  exact ⟨u12, u6, u22, u17, rfl, N25, K25, f25_0, f25_1, f25_10, V25, (by simp only [hu4, hu5, hu6, hu10, hu11, hu12, hu17, hu22]), (by simp only [hu4, hu5, hu6, hu10, hu11, hu12, hu17, hu22]), (by simp only [hu4, hu5, hu6, hu10, hu11, hu12, hu17, hu22]), (by simp only [hu4, hu5, hu6, hu10, hu11, hu12, hu17, hu22])⟩

theorem pnadd4 : plainName "com/example/paranhos/paranhos/MatchRuns" = true := by first | (simp [plainName, overriddenIn]; done) | decide +kernel
theorem efadd4 (m : MethodId) (z0 : Addr) (z1 : UInt64) : entryFrame m #[(.ref z0), (.double z1)] 7 = mkF m 0 #[.val (.ref z0), .val (.double z1), .second, .unset, .unset, .unset, .unset] [] := by first | (simp [entryFrame, mkF, argsToLocals, Value.category]; done) | rfl
def Qadd4 (Z : State) (o : Addr) (x1 : UInt64) (b : Addr) (kk : ClassId) (sc : Nat) (M : Int) (pv : Int) (mv : Int) (v0 : Int) (v1 : Int) (v2 : Int) (v3 : Int) (h0 : Heap) (n0 : Nat) (v : Option Value) (h : Heap) (L : List Loc) : Prop := ∃ (nm : Int) (w0 : Int) (w1 : Int) (w2 : Int) (w3 : Int), v = none ∧ Fr n0 L ∧ Keep h0 h [o, b] ∧ Exa Z h o "com/example/paranhos/paranhos/MatchRuns" ∧ Fld Z h o "com/example/paranhos/paranhos/MatchRuns" "run" "[D" (.ref b) ∧ Fld Z h o "com/example/paranhos/paranhos/MatchRuns" "matched" "D" (.double (own_D (sc + 8) nm)) ∧ Arv Z h b kk .double (4 : Int32) [(.double (own_D (sc + 8) w0)), (.double (own_D (sc + 8) w1)), (.double (own_D (sc + 8) w2)), (.double (own_D (sc + 8) w3))] (.double (0 : UInt64)) ∧ nm = (mv * 256) + (v3 * pv) ∧ w0 = (M - mv) * (256 - pv) ∧ w1 = v0 * pv ∧ w2 = v1 * pv ∧ w3 = v2 * pv
set_option maxRecDepth 65536 in
set_option maxHeartbeats 40000000 in
theorem rmadd4 (l : Launch) (Z : State) (a0 : Array Value) (hw : ∀ d ∈ tables_1, d.before a0 Z = true) (ws : List Jvm.Cond) (o : Addr) (x1 : UInt64) (b : Addr) (kk : ClassId) (sc : Nat) (M : Int) (pv : Int) (mv : Int) (v0 : Int) (v1 : Int) (v2 : Int) (v3 : Int) (h0 : Heap) (n0 : Nat) (Z0 : n0 ≤ h0.size) (E_o : Exa Z h0 o "com/example/paranhos/paranhos/MatchRuns") (F0_o : Fld Z h0 o "com/example/paranhos/paranhos/MatchRuns" "run" "[D" (.ref b)) (F1_o : Fld Z h0 o "com/example/paranhos/paranhos/MatchRuns" "matched" "D" (.double (own_D sc mv))) (V_b : Arv Z h0 b kk .double (4 : Int32) [(.double (own_D sc v0)), (.double (own_D sc v1)), (.double (own_D sc v2)), (.double (own_D sc v3))] (.double (0 : UInt64))) (g_o : n0 ≤ o) (g_b : n0 ≤ b) (ne_ob : o ≠ b) (hx1 : x1 = own_D 8 pv) (hp : 0 ≤ pv ∧ pv ≤ 256) (hl : 0 ≤ mv ∧ 0 ≤ v0 ∧ 0 ≤ v1 ∧ 0 ≤ v2 ∧ 0 ≤ v3) (hs : mv + v0 + v1 + v2 + v3 = M) (hM : sc ≤ 24 ∧ M ≤ 16777216 ∧ FP.dconst1 = own_D sc M) :
    MetFree l (⟨"com/example/paranhos/paranhos/MatchRuns", "add", "(D)V"⟩ : MethodName) (head1 (Jvm.Cond.code (⟨"com/example/paranhos/paranhos/MatchRuns", "add", "(D)V"⟩ : MethodName) prog_14_method_4_code 7 none :: ws) ({ frames := 0, cells := 0, slots := 0, locals := 0 } : Room)) (fun ag U => ag = #[(.ref o), (.double x1)] ∧ Z.Warmed39 U.vm ∧ U.heap = h0) (fun _ _ _ _ _ => True) (fun _ U oc U' => ∃ v L, oc = .returned v ∧ Qadd4 Z o x1 b kk sc M pv mv v0 v1 v2 v3 h0 n0 v U'.heap L ∧ FrameEnd U oc U' L ({ frames := 0, cells := 0, slots := 0, locals := 0 } : Room).cells ({ frames := 0, cells := 0, slots := 0, locals := 0 } : Room).slots) := by
  refine MetFree.of_bodySF (plainFor_of_name pnadd4) hisR ?_
  intro p e s m args below meth c s₁ Bd hml0 hP hK
  obtain ⟨rfl, hZ, hh⟩ := hP
  have hx := Bd.exec
  have hby := Bd.bytes
  have hml : c.maxLocals = 7 := hml0
  have hown : s.vm.findClass "com/example/paranhos/paranhos/MatchRuns" = some m.cls := findClass_of_methodNamed Bd.named
  have hnm := (name_of_methodNamed Bd.named Bd.method).1
  have X0 : Stand p l e ({ frames := 0, cells := 0, slots := 0, locals := 0 } : Room) s m #[(.ref o), (.double x1)] below meth c s₁ [] 0 0 := Stand.of_body Bd
  have e0 : s₁.heap = h0 := by rw [← hh, Bd.state]; rfl
  have N0 := Fr.nil n0
  show own_Go p e below (fun s₂ oc => ∃ v L, oc = .returned v ∧ Qadd4 Z o x1 b kk sc M pv mv v0 v1 v2 v3 h0 n0 v s₂.heap L ∧ FrameEnd s oc s₂ L ({ frames := 0, cells := 0, slots := 0, locals := 0 } : Room).cells ({ frames := 0, cells := 0, slots := 0, locals := 0 } : Room).slots) s₁ (entryFrame m #[(.ref o), (.double x1)] 7)
  refine own_Go.of (g' := mkF m 0 #[.val (.ref o), .val (.double x1), .second, .unset, .unset, .unset, .unset] []) (fun t k => castTop (efadd4 m o x1) k) ?_
  obtain ⟨a_mv, a_v0, a_v1, a_v2, a_v3⟩ := hl
  obtain ⟨a_pv, z_pv⟩ := hp
  obtain ⟨hsc, z_M, hone⟩ := hM
  have z_mv : mv ≤ 16777216 := by omega
  have z_v0 : v0 ≤ 16777216 := by omega
  have z_v1 : v1 ≤ 16777216 := by omega
  have z_v2 : v2 ≤ 16777216 := by omega
  have z_v3 : v3 ≤ 16777216 := by omega
  have a_M : 0 ≤ M := by omega
  refine og_aloadN (pc' := 1) X0 hx (hb hby d5_0) rfl rfl rfl ?_
  obtain ⟨T1, X1, e1, st1⟩ := getF X0 hx hZ hown (host := "") (Or.inl (hw _ (List.mem_of_getElem? (i := 14) rfl))) Via.refl e0 F0_o (g := (mkF m 1 #[.val (.ref o), .val (.double x1), .second, .unset, .unset, .unset, .unset] [(.ref o)])) rfl rfl (hb hby d5_1)
  refine own_Go.of (g' := (mkF m 4 #[.val (.ref o), .val (.double x1), .second, .unset, .unset, .unset, .unset] [(.ref b)])) (fun t k => st1 _ k) ?_
  obtain ⟨cl2, Ar2, q2, S2, M2, H2, G2⟩ := id V_b
  refine own_Go.of (g' := (mkF m 5 #[.val (.ref o), .val (.double x1), .second, .unset, .unset, .unset, .unset] [(.int (4 : Int32))])) (fun t k => X1.arraylength hx (by rw [e1]; exact Ar2.1) (State.isArrayOf_alike hZ.alike Ar2.2.1) (g := (mkF m 4 #[.val (.ref o), .val (.double x1), .second, .unset, .unset, .unset, .unset] [(.ref b)])) rfl rfl (hb hby d5_4) _ (by rw [len_of S2 M2]; exact k)) ?_
  refine og_istoreN (pc' := 6) (L' := #[.val (.ref o), .val (.double x1), .second, .val (.int (4 : Int32)), .unset, .unset, .unset]) X1 hx (hb hby d5_5) rfl rfl ?_
  refine og_dconst1 (pc' := 7) X1 hx (hb hby d5_6) hone rfl ?_
  refine og_aloadN (pc' := 8) X1 hx (hb hby d5_7) rfl rfl rfl ?_
  obtain ⟨T3, X3, e3, st3⟩ := getF X1 hx hZ hown (host := "") (Or.inl (hw _ (List.mem_of_getElem? (i := 21) rfl))) Via.refl e1 F1_o (g := (mkF m 8 #[.val (.ref o), .val (.double x1), .second, .val (.int (4 : Int32)), .unset, .unset, .unset] [(.ref o), (.double (own_D sc M))])) rfl rfl (hb hby d5_8)
  refine own_Go.of (g' := (mkF m 11 #[.val (.ref o), .val (.double x1), .second, .val (.int (4 : Int32)), .unset, .unset, .unset] [(.double (own_D sc mv)), (.double (own_D sc M))])) (fun t k => st3 _ k) ?_
  obtain ⟨u4, hu4⟩ : ∃ q : Int, q = (M - mv) := ⟨_, rfl⟩
  have a4 : 0 ≤ u4 := by omega
  have z4 : u4 ≤ 16777216 := by omega
  have x4 : FP.dsub (own_D sc M) (own_D sc mv) = own_D sc u4 := own_xsub rfl rfl hu4.symm (by omega) (by omega) (by omega)
  refine og_dsub (pc' := 12) X3 hx (hb hby d5_11) (own_nnx x4 (by omega) (by omega)) x4 rfl ?_
  refine og_dconst1 (pc' := 13) X3 hx (hb hby d5_12) own_o8 rfl ?_
  refine og_dloadN (pc' := 14) X3 hx (hb hby d5_13) rfl rfl ?_
  obtain ⟨u5, hu5⟩ : ∃ q : Int, q = (256 - pv) := ⟨_, rfl⟩
  have a5 : 0 ≤ u5 := by omega
  have z5 : u5 ≤ 256 := by omega
  have x5 : FP.dsub (own_D 8 256) x1 = own_D 8 u5 := own_xsub rfl hx1 hu5.symm (by omega) (by omega) (by omega)
  refine og_dsub (pc' := 15) X3 hx (hb hby d5_14) (own_nnx x5 (by omega) (by omega)) x5 rfl ?_
  obtain ⟨u6, hu6⟩ : ∃ q : Int, q = (u4 * u5) := ⟨_, rfl⟩
  have a6 : 0 ≤ u6 := by rw [hu6]; exact Int.mul_nonneg (by omega) (by omega)
  have z6 : u6 ≤ 4294967296 := by rw [hu6]; exact Int.le_trans (Int.mul_le_mul z4 z5 (by omega) (by omega)) (by decide)
  have x6 : FP.dmul (own_D sc u4) (own_D 8 u5) = own_D (sc + 8) u6 := own_xmul rfl rfl hu6.symm rfl (by omega) (by omega) (by omega) (by omega) (by omega) (by omega)
  refine og_dmul (pc' := 16) X3 hx (hb hby d5_15) (own_nnx x6 (by omega) (by omega)) x6 rfl ?_
  refine og_dstore (pc' := 18) (L' := #[.val (.ref o), .val (.double x1), .second, .val (.int (4 : Int32)), .val (.double (own_D (sc + 8) u6)), .second, .unset]) X3 hx (hb hby d5_16) rfl rfl ?_
  refine og_aloadN (pc' := 19) X3 hx (hb hby d5_18) rfl rfl rfl ?_
  refine og_dup (pc' := 20) X3 hx (hb hby d5_19) rfl rfl ?_
  obtain ⟨T7, X7, e7, st7⟩ := getF X3 hx hZ hown (host := "") (Or.inl (hw _ (List.mem_of_getElem? (i := 21) rfl))) Via.refl e3 F1_o (g := (mkF m 20 #[.val (.ref o), .val (.double x1), .second, .val (.int (4 : Int32)), .val (.double (own_D (sc + 8) u6)), .second, .unset] [(.ref o), (.ref o)])) rfl rfl (hb hby d5_20)
  refine own_Go.of (g' := (mkF m 23 #[.val (.ref o), .val (.double x1), .second, .val (.int (4 : Int32)), .val (.double (own_D (sc + 8) u6)), .second, .unset] [(.double (own_D sc mv)), (.ref o)])) (fun t k => st7 _ k) ?_
  refine og_aloadN (pc' := 24) X7 hx (hb hby d5_23) rfl rfl rfl ?_
  obtain ⟨T8, X8, e8, st8⟩ := getF X7 hx hZ hown (host := "") (Or.inl (hw _ (List.mem_of_getElem? (i := 14) rfl))) Via.refl e7 F0_o (g := (mkF m 24 #[.val (.ref o), .val (.double x1), .second, .val (.int (4 : Int32)), .val (.double (own_D (sc + 8) u6)), .second, .unset] [(.ref o), (.double (own_D sc mv)), (.ref o)])) rfl rfl (hb hby d5_24)
  refine own_Go.of (g' := (mkF m 27 #[.val (.ref o), .val (.double x1), .second, .val (.int (4 : Int32)), .val (.double (own_D (sc + 8) u6)), .second, .unset] [(.ref b), (.double (own_D sc mv)), (.ref o)])) (fun t k => st8 _ k) ?_
  refine og_iloadN (pc' := 28) X8 hx (hb hby d5_27) rfl rfl ?_
  refine og_iconst (pc' := 29) (n := 1) X8 hx (hb hby d5_28) rfl rfl ?_
  refine og_isub (pc' := 30) X8 hx (hb hby d5_29) rfl ?_
  rw [show ((4 : Int32) - (1 : Int32)) = (3 : Int32) from by decide]
  obtain ⟨cl9, Ar9, q9, S9, M9, H9, G9⟩ := id V_b
  have hin9 : ¬ ((3 : Int32) < 0 ∨ cl9.slots.size ≤ ((3 : Int32)).toNatClampNeg) := inb_of S9 ⟨by decide, by decide⟩
  have hat9 : cl9.slots[((3 : Int32)).toNatClampNeg]? = some (.double (own_D sc v3)) := Has.at H9 hin9 rfl
  refine own_Go.of (g' := (mkF m 31 #[.val (.ref o), .val (.double x1), .second, .val (.int (4 : Int32)), .val (.double (own_D (sc + 8) u6)), .second, .unset] [(.double (own_D sc v3)), (.double (own_D sc mv)), (.ref o)])) (fun t k => X8.daload hx (j := (3 : Int32)) (v := (.double (own_D sc v3))) (by rw [e8]; exact Ar9.1) (State.isArrayOf_alike hZ.alike Ar9.2.1) Ar9.2.2 hin9 hat9 (g := (mkF m 30 #[.val (.ref o), .val (.double x1), .second, .val (.int (4 : Int32)), .val (.double (own_D (sc + 8) u6)), .second, .unset] [(.int (3 : Int32)), (.ref b), (.double (own_D sc mv)), (.ref o)])) rfl rfl (hb hby d5_30) _ k) ?_
  refine og_dloadN (pc' := 32) X8 hx (hb hby d5_31) rfl rfl ?_
  obtain ⟨u10, hu10⟩ : ∃ q : Int, q = (v3 * pv) := ⟨_, rfl⟩
  have a10 : 0 ≤ u10 := by rw [hu10]; exact Int.mul_nonneg (by omega) (by omega)
  have z10 : u10 ≤ 4294967296 := by rw [hu10]; exact Int.le_trans (Int.mul_le_mul z_v3 z_pv (by omega) (by omega)) (by decide)
  have x10 : FP.dmul (own_D sc v3) x1 = own_D (sc + 8) u10 := own_xmul rfl hx1 hu10.symm rfl (by omega) (by omega) (by omega) (by omega) (by omega) (by omega)
  refine og_dmul (pc' := 33) X8 hx (hb hby d5_32) (own_nnx x10 (by omega) (by omega)) x10 rfl ?_
  obtain ⟨u11, hu11⟩ : ∃ q : Int, q = (mv * 256) := ⟨_, rfl⟩
  have y11 : _ = own_D (sc + 8) u11 := (rfl : own_D sc mv = own_D sc mv).trans (by rw [hu11]; exact own_resc _ _)
  have a11 : 0 ≤ u11 := by omega
  have z11 : u11 ≤ 4294967296 := by omega
  obtain ⟨u12, hu12⟩ : ∃ q : Int, q = (u11 + u10) := ⟨_, rfl⟩
  have a12 : 0 ≤ u12 := by omega
  have z12 : u12 ≤ 8589934592 := by omega
  have x12 : FP.dadd (own_D sc mv) (own_D (sc + 8) u10) = own_D (sc + 8) u12 := own_xadd y11 rfl hu12.symm (by omega) (by omega) (by omega)
  refine og_dadd (pc' := 34) X8 hx (hb hby d5_33) (own_nnx x12 (by omega) (by omega)) x12 rfl ?_
  obtain ⟨T13, h13, X13, e13, W13, st13⟩ := putF X8 hx hZ hown (host := "") (Or.inl (hw _ (List.mem_of_getElem? (i := 21) rfl))) Via.refl e8 F1_o E_o (Or.inl (hw _ (List.mem_of_getElem? (i := 22) rfl))) (hw _ (List.mem_of_getElem? (i := 5) rfl)) (ty := .double) (by decide) rfl rfl (g := (mkF m 34 #[.val (.ref o), .val (.double x1), .second, .val (.int (4 : Int32)), .val (.double (own_D (sc + 8) u6)), .second, .unset] [(.double (own_D (sc + 8) u12)), (.ref o)])) rfl rfl (hb hby d5_34)
  have w13 : Fld Z h13 o "com/example/paranhos/paranhos/MatchRuns" "matched" "D" (.double (own_D (sc + 8) u12)) := F1_o.same W13
  have f13_0 := E_o.wr W13
  have f13_1 := F0_o.other W13 (Or.inr (slot_ne (a0 := a0) (C := "com/example/paranhos/paranhos/MatchRuns") (Or.inr (hw _ (List.mem_of_getElem? (i := 15) rfl))) (Or.inl (hw _ (List.mem_of_getElem? (i := 22) rfl))) (by decide) (t := (.array .double)) (t' := .double) (by decide) (by decide)))
  have f13_2 := V_b.other W13 (Ne.symm ne_ob)
  have K13 : Keep h0 h13 [o, b] := (Keep.refl h0 [o, b]).wr W13 (Or.inl (List.mem_of_getElem? (i := 0) rfl))
  have Z13 : n0 ≤ h13.size := Nat.le_trans Z0 K13.1
  have N13 := Fr.snoc X13 N0 g_o
  obtain ⟨J13, X13, N13⟩ := own_hide X13 N13
  refine own_Go.of (g' := (mkF m 37 #[.val (.ref o), .val (.double x1), .second, .val (.int (4 : Int32)), .val (.double (own_D (sc + 8) u6)), .second, .unset] [])) (fun t k => st13 _ k) ?_
  refine og_iloadN (pc' := 38) X13 hx (hb hby d5_37) rfl rfl ?_
  refine og_iconst (pc' := 39) (n := 1) X13 hx (hb hby d5_38) rfl rfl ?_
  refine og_isub (pc' := 40) X13 hx (hb hby d5_39) rfl ?_
  rw [show ((4 : Int32) - (1 : Int32)) = (3 : Int32) from by decide]
  refine og_istore (pc' := 42) (L' := #[.val (.ref o), .val (.double x1), .second, .val (.int (4 : Int32)), .val (.double (own_D (sc + 8) u6)), .second, .val (.int (3 : Int32))]) X13 hx (hb hby d5_40) rfl rfl ?_
  refine og_iload (pc' := 44) X13 hx (hb hby d5_42) rfl rfl ?_
  refine og_ifNo (pc' := 47) X13 hx (hb hby d5_44) ((if0 _ _).trans (tlt (by decide)).2.2.2) rfl ?_
  refine og_aloadN (pc' := 48) X13 hx (hb hby d5_47) rfl rfl rfl ?_
  obtain ⟨T14, X14, e14, st14⟩ := getF X13 hx hZ hown (host := "") (Or.inl (hw _ (List.mem_of_getElem? (i := 14) rfl))) Via.refl e13 f13_1 (g := (mkF m 48 #[.val (.ref o), .val (.double x1), .second, .val (.int (4 : Int32)), .val (.double (own_D (sc + 8) u6)), .second, .val (.int (3 : Int32))] [(.ref o)])) rfl rfl (hb hby d5_48)
  refine own_Go.of (g' := (mkF m 51 #[.val (.ref o), .val (.double x1), .second, .val (.int (4 : Int32)), .val (.double (own_D (sc + 8) u6)), .second, .val (.int (3 : Int32))] [(.ref b)])) (fun t k => st14 _ k) ?_
  refine og_iload (pc' := 53) X14 hx (hb hby d5_51) rfl rfl ?_
  refine og_aloadN (pc' := 54) X14 hx (hb hby d5_53) rfl rfl rfl ?_
  obtain ⟨T15, X15, e15, st15⟩ := getF X14 hx hZ hown (host := "") (Or.inl (hw _ (List.mem_of_getElem? (i := 14) rfl))) Via.refl e14 f13_1 (g := (mkF m 54 #[.val (.ref o), .val (.double x1), .second, .val (.int (4 : Int32)), .val (.double (own_D (sc + 8) u6)), .second, .val (.int (3 : Int32))] [(.ref o), (.int (3 : Int32)), (.ref b)])) rfl rfl (hb hby d5_54)
  refine own_Go.of (g' := (mkF m 57 #[.val (.ref o), .val (.double x1), .second, .val (.int (4 : Int32)), .val (.double (own_D (sc + 8) u6)), .second, .val (.int (3 : Int32))] [(.ref b), (.int (3 : Int32)), (.ref b)])) (fun t k => st15 _ k) ?_
  refine og_iload (pc' := 59) X15 hx (hb hby d5_57) rfl rfl ?_
  refine og_iconst (pc' := 60) (n := 1) X15 hx (hb hby d5_59) rfl rfl ?_
  refine og_isub (pc' := 61) X15 hx (hb hby d5_60) rfl ?_
  rw [show ((3 : Int32) - (1 : Int32)) = (2 : Int32) from by decide]
  obtain ⟨cl16, Ar16, q16, S16, M16, H16, G16⟩ := id f13_2
  have hin16 : ¬ ((2 : Int32) < 0 ∨ cl16.slots.size ≤ ((2 : Int32)).toNatClampNeg) := inb_of S16 ⟨by decide, by decide⟩
  have hat16 : cl16.slots[((2 : Int32)).toNatClampNeg]? = some (.double (own_D sc v2)) := Has.at H16 hin16 rfl
  refine own_Go.of (g' := (mkF m 62 #[.val (.ref o), .val (.double x1), .second, .val (.int (4 : Int32)), .val (.double (own_D (sc + 8) u6)), .second, .val (.int (3 : Int32))] [(.double (own_D sc v2)), (.int (3 : Int32)), (.ref b)])) (fun t k => X15.daload hx (j := (2 : Int32)) (v := (.double (own_D sc v2))) (by rw [e15]; exact Ar16.1) (State.isArrayOf_alike hZ.alike Ar16.2.1) Ar16.2.2 hin16 hat16 (g := (mkF m 61 #[.val (.ref o), .val (.double x1), .second, .val (.int (4 : Int32)), .val (.double (own_D (sc + 8) u6)), .second, .val (.int (3 : Int32))] [(.int (2 : Int32)), (.ref b), (.int (3 : Int32)), (.ref b)])) rfl rfl (hb hby d5_61) _ k) ?_
  refine og_dloadN (pc' := 63) X15 hx (hb hby d5_62) rfl rfl ?_
  obtain ⟨u17, hu17⟩ : ∃ q : Int, q = (v2 * pv) := ⟨_, rfl⟩
  have a17 : 0 ≤ u17 := by rw [hu17]; exact Int.mul_nonneg (by omega) (by omega)
  have z17 : u17 ≤ 4294967296 := by rw [hu17]; exact Int.le_trans (Int.mul_le_mul z_v2 z_pv (by omega) (by omega)) (by decide)
  have x17 : FP.dmul (own_D sc v2) x1 = own_D (sc + 8) u17 := own_xmul rfl hx1 hu17.symm rfl (by omega) (by omega) (by omega) (by omega) (by omega) (by omega)
  refine og_dmul (pc' := 64) X15 hx (hb hby d5_63) (own_nnx x17 (by omega) (by omega)) x17 rfl ?_
  obtain ⟨cl18, Ar18, q18, S18, M18, H18, G18⟩ := id f13_2
  have hin18 : ¬ ((3 : Int32) < 0 ∨ cl18.slots.size ≤ ((3 : Int32)).toNatClampNeg) := inb_of S18 ⟨by decide, by decide⟩
  obtain ⟨T18, h18, X18, e18, W18, st18⟩ := stD X15 hx hZ e15 Ar18 (j := (3 : Int32)) hin18 (g := (mkF m 64 #[.val (.ref o), .val (.double x1), .second, .val (.int (4 : Int32)), .val (.double (own_D (sc + 8) u6)), .second, .val (.int (3 : Int32))] [(.double (own_D (sc + 8) u17)), (.int (3 : Int32)), (.ref b)])) rfl rfl (hb hby d5_64)
  have V18 : Arv Z h18 b kk .double (4 : Int32) [(.double (own_D sc v0)), (.double (own_D sc v1)), (.double (own_D sc v2)), (.double (own_D (sc + 8) u17))] (.double (0 : UInt64)) := Arv.set Ar18 q18 S18 M18 H18 G18 rfl W18 3 rfl (Nat.le_of_ble_eq_true rfl)
  have f18_0 := f13_0.wr W18
  have f18_1 := f13_1.other W18 (Or.inl ne_ob)
  have f18_10 := w13.other W18 (Or.inl ne_ob)
  have K18 : Keep h0 h18 [o, b] := K13.wr W18 (Or.inl (List.mem_of_getElem? (i := 1) rfl))
  have Z18 : n0 ≤ h18.size := Nat.le_trans Z0 K18.1
  have N18 := Fr.snoc X18 N13 g_b
  obtain ⟨J18, X18, N18⟩ := own_hide X18 N18
  refine own_Go.of (g' := (mkF m 65 #[.val (.ref o), .val (.double x1), .second, .val (.int (4 : Int32)), .val (.double (own_D (sc + 8) u6)), .second, .val (.int (3 : Int32))] [])) (fun t k => st18 _ k) ?_
  refine og_iinc (pc' := 68) (L' := #[.val (.ref o), .val (.double x1), .second, .val (.int (4 : Int32)), .val (.double (own_D (sc + 8) u6)), .second, .val (.int ((3 : Int32) + (-1 : Int32)))]) X18 hx (hb hby d5_65) rfl rfl rfl ?_
  rw [show ((3 : Int32) + (-1 : Int32)) = (2 : Int32) from by decide]
  refine og_goto (pc' := 42) X18 hx (hb hby d5_68) (by decide) (by decide) ?_
  refine og_iload (pc' := 44) X18 hx (hb hby d5_42) rfl rfl ?_
  refine og_ifNo (pc' := 47) X18 hx (hb hby d5_44) ((if0 _ _).trans (tlt (by decide)).2.2.2) rfl ?_
  refine og_aloadN (pc' := 48) X18 hx (hb hby d5_47) rfl rfl rfl ?_
  obtain ⟨T19, X19, e19, st19⟩ := getF X18 hx hZ hown (host := "") (Or.inl (hw _ (List.mem_of_getElem? (i := 14) rfl))) Via.refl e18 f18_1 (g := (mkF m 48 #[.val (.ref o), .val (.double x1), .second, .val (.int (4 : Int32)), .val (.double (own_D (sc + 8) u6)), .second, .val (.int (2 : Int32))] [(.ref o)])) rfl rfl (hb hby d5_48)
  refine own_Go.of (g' := (mkF m 51 #[.val (.ref o), .val (.double x1), .second, .val (.int (4 : Int32)), .val (.double (own_D (sc + 8) u6)), .second, .val (.int (2 : Int32))] [(.ref b)])) (fun t k => st19 _ k) ?_
  refine og_iload (pc' := 53) X19 hx (hb hby d5_51) rfl rfl ?_
  refine og_aloadN (pc' := 54) X19 hx (hb hby d5_53) rfl rfl rfl ?_
  obtain ⟨T20, X20, e20, st20⟩ := getF X19 hx hZ hown (host := "") (Or.inl (hw _ (List.mem_of_getElem? (i := 14) rfl))) Via.refl e19 f18_1 (g := (mkF m 54 #[.val (.ref o), .val (.double x1), .second, .val (.int (4 : Int32)), .val (.double (own_D (sc + 8) u6)), .second, .val (.int (2 : Int32))] [(.ref o), (.int (2 : Int32)), (.ref b)])) rfl rfl (hb hby d5_54)
  refine own_Go.of (g' := (mkF m 57 #[.val (.ref o), .val (.double x1), .second, .val (.int (4 : Int32)), .val (.double (own_D (sc + 8) u6)), .second, .val (.int (2 : Int32))] [(.ref b), (.int (2 : Int32)), (.ref b)])) (fun t k => st20 _ k) ?_
  refine og_iload (pc' := 59) X20 hx (hb hby d5_57) rfl rfl ?_
  refine og_iconst (pc' := 60) (n := 1) X20 hx (hb hby d5_59) rfl rfl ?_
  refine og_isub (pc' := 61) X20 hx (hb hby d5_60) rfl ?_
  rw [show ((2 : Int32) - (1 : Int32)) = (1 : Int32) from by decide]
  obtain ⟨cl21, Ar21, q21, S21, M21, H21, G21⟩ := id V18
  have hin21 : ¬ ((1 : Int32) < 0 ∨ cl21.slots.size ≤ ((1 : Int32)).toNatClampNeg) := inb_of S21 ⟨by decide, by decide⟩
  have hat21 : cl21.slots[((1 : Int32)).toNatClampNeg]? = some (.double (own_D sc v1)) := Has.at H21 hin21 rfl
  refine own_Go.of (g' := (mkF m 62 #[.val (.ref o), .val (.double x1), .second, .val (.int (4 : Int32)), .val (.double (own_D (sc + 8) u6)), .second, .val (.int (2 : Int32))] [(.double (own_D sc v1)), (.int (2 : Int32)), (.ref b)])) (fun t k => X20.daload hx (j := (1 : Int32)) (v := (.double (own_D sc v1))) (by rw [e20]; exact Ar21.1) (State.isArrayOf_alike hZ.alike Ar21.2.1) Ar21.2.2 hin21 hat21 (g := (mkF m 61 #[.val (.ref o), .val (.double x1), .second, .val (.int (4 : Int32)), .val (.double (own_D (sc + 8) u6)), .second, .val (.int (2 : Int32))] [(.int (1 : Int32)), (.ref b), (.int (2 : Int32)), (.ref b)])) rfl rfl (hb hby d5_61) _ k) ?_
  refine og_dloadN (pc' := 63) X20 hx (hb hby d5_62) rfl rfl ?_
  obtain ⟨u22, hu22⟩ : ∃ q : Int, q = (v1 * pv) := ⟨_, rfl⟩
  have a22 : 0 ≤ u22 := by rw [hu22]; exact Int.mul_nonneg (by omega) (by omega)
  have z22 : u22 ≤ 4294967296 := by rw [hu22]; exact Int.le_trans (Int.mul_le_mul z_v1 z_pv (by omega) (by omega)) (by decide)
  have x22 : FP.dmul (own_D sc v1) x1 = own_D (sc + 8) u22 := own_xmul rfl hx1 hu22.symm rfl (by omega) (by omega) (by omega) (by omega) (by omega) (by omega)
  refine og_dmul (pc' := 64) X20 hx (hb hby d5_63) (own_nnx x22 (by omega) (by omega)) x22 rfl ?_
  obtain ⟨cl23, Ar23, q23, S23, M23, H23, G23⟩ := id V18
  have hin23 : ¬ ((2 : Int32) < 0 ∨ cl23.slots.size ≤ ((2 : Int32)).toNatClampNeg) := inb_of S23 ⟨by decide, by decide⟩
  obtain ⟨T23, h23, X23, e23, W23, st23⟩ := stD X20 hx hZ e20 Ar23 (j := (2 : Int32)) hin23 (g := (mkF m 64 #[.val (.ref o), .val (.double x1), .second, .val (.int (4 : Int32)), .val (.double (own_D (sc + 8) u6)), .second, .val (.int (2 : Int32))] [(.double (own_D (sc + 8) u22)), (.int (2 : Int32)), (.ref b)])) rfl rfl (hb hby d5_64)
  have V23 : Arv Z h23 b kk .double (4 : Int32) [(.double (own_D sc v0)), (.double (own_D sc v1)), (.double (own_D (sc + 8) u22)), (.double (own_D (sc + 8) u17))] (.double (0 : UInt64)) := Arv.set Ar23 q23 S23 M23 H23 G23 rfl W23 2 rfl (Nat.le_of_ble_eq_true rfl)
  have f23_0 := f18_0.wr W23
  have f23_1 := f18_1.other W23 (Or.inl ne_ob)
  have f23_10 := f18_10.other W23 (Or.inl ne_ob)
  have K23 : Keep h0 h23 [o, b] := K18.wr W23 (Or.inl (List.mem_of_getElem? (i := 1) rfl))
  have Z23 : n0 ≤ h23.size := Nat.le_trans Z0 K23.1
  have N23 := Fr.snoc X23 N18 g_b
  obtain ⟨J23, X23, N23⟩ := own_hide X23 N23
  refine own_Go.of (g' := (mkF m 65 #[.val (.ref o), .val (.double x1), .second, .val (.int (4 : Int32)), .val (.double (own_D (sc + 8) u6)), .second, .val (.int (2 : Int32))] [])) (fun t k => st23 _ k) ?_
  refine og_iinc (pc' := 68) (L' := #[.val (.ref o), .val (.double x1), .second, .val (.int (4 : Int32)), .val (.double (own_D (sc + 8) u6)), .second, .val (.int ((2 : Int32) + (-1 : Int32)))]) X23 hx (hb hby d5_65) rfl rfl rfl ?_
  rw [show ((2 : Int32) + (-1 : Int32)) = (1 : Int32) from by decide]
  refine og_goto (pc' := 42) X23 hx (hb hby d5_68) (by decide) (by decide) ?_
  refine og_iload (pc' := 44) X23 hx (hb hby d5_42) rfl rfl ?_
  refine og_ifNo (pc' := 47) X23 hx (hb hby d5_44) ((if0 _ _).trans (tlt (by decide)).2.2.2) rfl ?_
  refine og_aloadN (pc' := 48) X23 hx (hb hby d5_47) rfl rfl rfl ?_
  obtain ⟨T24, X24, e24, st24⟩ := getF X23 hx hZ hown (host := "") (Or.inl (hw _ (List.mem_of_getElem? (i := 14) rfl))) Via.refl e23 f23_1 (g := (mkF m 48 #[.val (.ref o), .val (.double x1), .second, .val (.int (4 : Int32)), .val (.double (own_D (sc + 8) u6)), .second, .val (.int (1 : Int32))] [(.ref o)])) rfl rfl (hb hby d5_48)
  refine own_Go.of (g' := (mkF m 51 #[.val (.ref o), .val (.double x1), .second, .val (.int (4 : Int32)), .val (.double (own_D (sc + 8) u6)), .second, .val (.int (1 : Int32))] [(.ref b)])) (fun t k => st24 _ k) ?_
  refine og_iload (pc' := 53) X24 hx (hb hby d5_51) rfl rfl ?_
  refine og_aloadN (pc' := 54) X24 hx (hb hby d5_53) rfl rfl rfl ?_
  obtain ⟨T25, X25, e25, st25⟩ := getF X24 hx hZ hown (host := "") (Or.inl (hw _ (List.mem_of_getElem? (i := 14) rfl))) Via.refl e24 f23_1 (g := (mkF m 54 #[.val (.ref o), .val (.double x1), .second, .val (.int (4 : Int32)), .val (.double (own_D (sc + 8) u6)), .second, .val (.int (1 : Int32))] [(.ref o), (.int (1 : Int32)), (.ref b)])) rfl rfl (hb hby d5_54)
  refine own_Go.of (g' := (mkF m 57 #[.val (.ref o), .val (.double x1), .second, .val (.int (4 : Int32)), .val (.double (own_D (sc + 8) u6)), .second, .val (.int (1 : Int32))] [(.ref b), (.int (1 : Int32)), (.ref b)])) (fun t k => st25 _ k) ?_
  refine og_iload (pc' := 59) X25 hx (hb hby d5_57) rfl rfl ?_
  refine og_iconst (pc' := 60) (n := 1) X25 hx (hb hby d5_59) rfl rfl ?_
  refine og_isub (pc' := 61) X25 hx (hb hby d5_60) rfl ?_
  rw [show ((1 : Int32) - (1 : Int32)) = (0 : Int32) from by decide]
  obtain ⟨cl26, Ar26, q26, S26, M26, H26, G26⟩ := id V23
  have hin26 : ¬ ((0 : Int32) < 0 ∨ cl26.slots.size ≤ ((0 : Int32)).toNatClampNeg) := inb_of S26 ⟨by decide, by decide⟩
  have hat26 : cl26.slots[((0 : Int32)).toNatClampNeg]? = some (.double (own_D sc v0)) := Has.at H26 hin26 rfl
  refine own_Go.of (g' := (mkF m 62 #[.val (.ref o), .val (.double x1), .second, .val (.int (4 : Int32)), .val (.double (own_D (sc + 8) u6)), .second, .val (.int (1 : Int32))] [(.double (own_D sc v0)), (.int (1 : Int32)), (.ref b)])) (fun t k => X25.daload hx (j := (0 : Int32)) (v := (.double (own_D sc v0))) (by rw [e25]; exact Ar26.1) (State.isArrayOf_alike hZ.alike Ar26.2.1) Ar26.2.2 hin26 hat26 (g := (mkF m 61 #[.val (.ref o), .val (.double x1), .second, .val (.int (4 : Int32)), .val (.double (own_D (sc + 8) u6)), .second, .val (.int (1 : Int32))] [(.int (0 : Int32)), (.ref b), (.int (1 : Int32)), (.ref b)])) rfl rfl (hb hby d5_61) _ k) ?_
  refine og_dloadN (pc' := 63) X25 hx (hb hby d5_62) rfl rfl ?_
  obtain ⟨u27, hu27⟩ : ∃ q : Int, q = (v0 * pv) := ⟨_, rfl⟩
  have a27 : 0 ≤ u27 := by rw [hu27]; exact Int.mul_nonneg (by omega) (by omega)
  have z27 : u27 ≤ 4294967296 := by rw [hu27]; exact Int.le_trans (Int.mul_le_mul z_v0 z_pv (by omega) (by omega)) (by decide)
  have x27 : FP.dmul (own_D sc v0) x1 = own_D (sc + 8) u27 := own_xmul rfl hx1 hu27.symm rfl (by omega) (by omega) (by omega) (by omega) (by omega) (by omega)
  refine og_dmul (pc' := 64) X25 hx (hb hby d5_63) (own_nnx x27 (by omega) (by omega)) x27 rfl ?_
  obtain ⟨cl28, Ar28, q28, S28, M28, H28, G28⟩ := id V23
  have hin28 : ¬ ((1 : Int32) < 0 ∨ cl28.slots.size ≤ ((1 : Int32)).toNatClampNeg) := inb_of S28 ⟨by decide, by decide⟩
  obtain ⟨T28, h28, X28, e28, W28, st28⟩ := stD X25 hx hZ e25 Ar28 (j := (1 : Int32)) hin28 (g := (mkF m 64 #[.val (.ref o), .val (.double x1), .second, .val (.int (4 : Int32)), .val (.double (own_D (sc + 8) u6)), .second, .val (.int (1 : Int32))] [(.double (own_D (sc + 8) u27)), (.int (1 : Int32)), (.ref b)])) rfl rfl (hb hby d5_64)
  have V28 : Arv Z h28 b kk .double (4 : Int32) [(.double (own_D sc v0)), (.double (own_D (sc + 8) u27)), (.double (own_D (sc + 8) u22)), (.double (own_D (sc + 8) u17))] (.double (0 : UInt64)) := Arv.set Ar28 q28 S28 M28 H28 G28 rfl W28 1 rfl (Nat.le_of_ble_eq_true rfl)
  have f28_0 := f23_0.wr W28
  have f28_1 := f23_1.other W28 (Or.inl ne_ob)
  have f28_10 := f23_10.other W28 (Or.inl ne_ob)
  have K28 : Keep h0 h28 [o, b] := K23.wr W28 (Or.inl (List.mem_of_getElem? (i := 1) rfl))
  have Z28 : n0 ≤ h28.size := Nat.le_trans Z0 K28.1
  have N28 := Fr.snoc X28 N23 g_b
  obtain ⟨J28, X28, N28⟩ := own_hide X28 N28
  refine own_Go.of (g' := (mkF m 65 #[.val (.ref o), .val (.double x1), .second, .val (.int (4 : Int32)), .val (.double (own_D (sc + 8) u6)), .second, .val (.int (1 : Int32))] [])) (fun t k => st28 _ k) ?_
  refine og_iinc (pc' := 68) (L' := #[.val (.ref o), .val (.double x1), .second, .val (.int (4 : Int32)), .val (.double (own_D (sc + 8) u6)), .second, .val (.int ((1 : Int32) + (-1 : Int32)))]) X28 hx (hb hby d5_65) rfl rfl rfl ?_
  rw [show ((1 : Int32) + (-1 : Int32)) = (0 : Int32) from by decide]
  refine og_goto (pc' := 42) X28 hx (hb hby d5_68) (by decide) (by decide) ?_
  refine og_iload (pc' := 44) X28 hx (hb hby d5_42) rfl rfl ?_
  refine og_ifYes (pc' := 71) X28 hx (hb hby d5_44) ((if0 _ _).trans (flt (by decide)).2.2.2) (by decide) (by decide) ?_
  refine og_aloadN (pc' := 72) X28 hx (hb hby d5_71) rfl rfl rfl ?_
  obtain ⟨T29, X29, e29, st29⟩ := getF X28 hx hZ hown (host := "") (Or.inl (hw _ (List.mem_of_getElem? (i := 14) rfl))) Via.refl e28 f28_1 (g := (mkF m 72 #[.val (.ref o), .val (.double x1), .second, .val (.int (4 : Int32)), .val (.double (own_D (sc + 8) u6)), .second, .val (.int (0 : Int32))] [(.ref o)])) rfl rfl (hb hby d5_72)
  refine own_Go.of (g' := (mkF m 75 #[.val (.ref o), .val (.double x1), .second, .val (.int (4 : Int32)), .val (.double (own_D (sc + 8) u6)), .second, .val (.int (0 : Int32))] [(.ref b)])) (fun t k => st29 _ k) ?_
  refine og_iconst (pc' := 76) (n := 0) X29 hx (hb hby d5_75) rfl rfl ?_
  refine og_dload (pc' := 78) X29 hx (hb hby d5_76) rfl rfl ?_
  obtain ⟨cl30, Ar30, q30, S30, M30, H30, G30⟩ := id V28
  have hin30 : ¬ ((0 : Int32) < 0 ∨ cl30.slots.size ≤ ((0 : Int32)).toNatClampNeg) := inb_of S30 ⟨by decide, by decide⟩
  obtain ⟨T30, h30, X30, e30, W30, st30⟩ := stD X29 hx hZ e29 Ar30 (j := (0 : Int32)) hin30 (g := (mkF m 78 #[.val (.ref o), .val (.double x1), .second, .val (.int (4 : Int32)), .val (.double (own_D (sc + 8) u6)), .second, .val (.int (0 : Int32))] [(.double (own_D (sc + 8) u6)), (.int (0 : Int32)), (.ref b)])) rfl rfl (hb hby d5_78)
  have V30 : Arv Z h30 b kk .double (4 : Int32) [(.double (own_D (sc + 8) u6)), (.double (own_D (sc + 8) u27)), (.double (own_D (sc + 8) u22)), (.double (own_D (sc + 8) u17))] (.double (0 : UInt64)) := Arv.set Ar30 q30 S30 M30 H30 G30 rfl W30 0 rfl (Nat.le_of_ble_eq_true rfl)
  have f30_0 := f28_0.wr W30
  have f30_1 := f28_1.other W30 (Or.inl ne_ob)
  have f30_10 := f28_10.other W30 (Or.inl ne_ob)
  have K30 : Keep h0 h30 [o, b] := K28.wr W30 (Or.inl (List.mem_of_getElem? (i := 1) rfl))
  have Z30 : n0 ≤ h30.size := Nat.le_trans Z0 K30.1
  have N30 := Fr.snoc X30 N28 g_b
  obtain ⟨J30, X30, N30⟩ := own_hide X30 N30
  refine own_Go.of (g' := (mkF m 79 #[.val (.ref o), .val (.double x1), .second, .val (.int (4 : Int32)), .val (.double (own_D (sc + 8) u6)), .second, .val (.int (0 : Int32))] [])) (fun t k => st30 _ k) ?_
  obtain ⟨fs, hr, hrun, hended, hW, hsame⟩ := X30.leave (v := none) (fun _ => rfl) (BodyLoose.notSynchronized Bd)
  refine ⟨_, _, X30.returnOut hx Bd.returns (hb hby d5_79) hr, hrun, hended, none, _, rfl, ?_, ⟨_, rfl⟩, hW, hsame.mono (by decide) (by decide)⟩
  show Qadd4 Z o x1 b kk sc M pv mv v0 v1 v2 v3 h0 n0 _ T30.heap _
  rw [e30]
  exact ⟨u12, u6, u27, u22, u17, rfl, N30, K30, f30_0, f30_1, f30_10, V30, (by simp only [hu4, hu5, hu6, hu10, hu11, hu12, hu17, hu22, hu27]), (by simp only [hu4, hu5, hu6, hu10, hu11, hu12, hu17, hu22, hu27]), (by simp only [hu4, hu5, hu6, hu10, hu11, hu12, hu17, hu22, hu27]), (by simp only [hu4, hu5, hu6, hu10, hu11, hu12, hu17, hu22, hu27]), (by simp only [hu4, hu5, hu6, hu10, hu11, hu12, hu17, hu22, hu27])⟩

theorem pnadd5 : plainName "com/example/paranhos/paranhos/MatchRuns" = true := by first | (simp [plainName, overriddenIn]; done) | decide +kernel
theorem efadd5 (m : MethodId) (z0 : Addr) (z1 : UInt64) : entryFrame m #[(.ref z0), (.double z1)] 7 = mkF m 0 #[.val (.ref z0), .val (.double z1), .second, .unset, .unset, .unset, .unset] [] := by first | (simp [entryFrame, mkF, argsToLocals, Value.category]; done) | rfl
def Qadd5 (Z : State) (o : Addr) (x1 : UInt64) (b : Addr) (kk : ClassId) (sc : Nat) (M : Int) (pv : Int) (mv : Int) (v0 : Int) (v1 : Int) (v2 : Int) (v3 : Int) (v4 : Int) (h0 : Heap) (n0 : Nat) (v : Option Value) (h : Heap) (L : List Loc) : Prop := ∃ (nm : Int) (w0 : Int) (w1 : Int) (w2 : Int) (w3 : Int) (w4 : Int), v = none ∧ Fr n0 L ∧ Keep h0 h [o, b] ∧ Exa Z h o "com/example/paranhos/paranhos/MatchRuns" ∧ Fld Z h o "com/example/paranhos/paranhos/MatchRuns" "run" "[D" (.ref b) ∧ Fld Z h o "com/example/paranhos/paranhos/MatchRuns" "matched" "D" (.double (own_D (sc + 8) nm)) ∧ Arv Z h b kk .double (5 : Int32) [(.double (own_D (sc + 8) w0)), (.double (own_D (sc + 8) w1)), (.double (own_D (sc + 8) w2)), (.double (own_D (sc + 8) w3)), (.double (own_D (sc + 8) w4))] (.double (0 : UInt64)) ∧ nm = (mv * 256) + (v4 * pv) ∧ w0 = (M - mv) * (256 - pv) ∧ w1 = v0 * pv ∧ w2 = v1 * pv ∧ w3 = v2 * pv ∧ w4 = v3 * pv
set_option maxRecDepth 65536 in
set_option maxHeartbeats 40000000 in
theorem rmadd5 (l : Launch) (Z : State) (a0 : Array Value) (hw : ∀ d ∈ tables_1, d.before a0 Z = true) (ws : List Jvm.Cond) (o : Addr) (x1 : UInt64) (b : Addr) (kk : ClassId) (sc : Nat) (M : Int) (pv : Int) (mv : Int) (v0 : Int) (v1 : Int) (v2 : Int) (v3 : Int) (v4 : Int) (h0 : Heap) (n0 : Nat) (Z0 : n0 ≤ h0.size) (E_o : Exa Z h0 o "com/example/paranhos/paranhos/MatchRuns") (F0_o : Fld Z h0 o "com/example/paranhos/paranhos/MatchRuns" "run" "[D" (.ref b)) (F1_o : Fld Z h0 o "com/example/paranhos/paranhos/MatchRuns" "matched" "D" (.double (own_D sc mv))) (V_b : Arv Z h0 b kk .double (5 : Int32) [(.double (own_D sc v0)), (.double (own_D sc v1)), (.double (own_D sc v2)), (.double (own_D sc v3)), (.double (own_D sc v4))] (.double (0 : UInt64))) (g_o : n0 ≤ o) (g_b : n0 ≤ b) (ne_ob : o ≠ b) (hx1 : x1 = own_D 8 pv) (hp : 0 ≤ pv ∧ pv ≤ 256) (hl : 0 ≤ mv ∧ 0 ≤ v0 ∧ 0 ≤ v1 ∧ 0 ≤ v2 ∧ 0 ≤ v3 ∧ 0 ≤ v4) (hs : mv + v0 + v1 + v2 + v3 + v4 = M) (hM : sc ≤ 24 ∧ M ≤ 16777216 ∧ FP.dconst1 = own_D sc M) :
    MetFree l (⟨"com/example/paranhos/paranhos/MatchRuns", "add", "(D)V"⟩ : MethodName) (head1 (Jvm.Cond.code (⟨"com/example/paranhos/paranhos/MatchRuns", "add", "(D)V"⟩ : MethodName) prog_14_method_4_code 7 none :: ws) ({ frames := 0, cells := 0, slots := 0, locals := 0 } : Room)) (fun ag U => ag = #[(.ref o), (.double x1)] ∧ Z.Warmed39 U.vm ∧ U.heap = h0) (fun _ _ _ _ _ => True) (fun _ U oc U' => ∃ v L, oc = .returned v ∧ Qadd5 Z o x1 b kk sc M pv mv v0 v1 v2 v3 v4 h0 n0 v U'.heap L ∧ FrameEnd U oc U' L ({ frames := 0, cells := 0, slots := 0, locals := 0 } : Room).cells ({ frames := 0, cells := 0, slots := 0, locals := 0 } : Room).slots) := by
  refine MetFree.of_bodySF (plainFor_of_name pnadd5) hisR ?_
  intro p e s m args below meth c s₁ Bd hml0 hP hK
  obtain ⟨rfl, hZ, hh⟩ := hP
  have hx := Bd.exec
  have hby := Bd.bytes
  have hml : c.maxLocals = 7 := hml0
  have hown : s.vm.findClass "com/example/paranhos/paranhos/MatchRuns" = some m.cls := findClass_of_methodNamed Bd.named
  have hnm := (name_of_methodNamed Bd.named Bd.method).1
  have X0 : Stand p l e ({ frames := 0, cells := 0, slots := 0, locals := 0 } : Room) s m #[(.ref o), (.double x1)] below meth c s₁ [] 0 0 := Stand.of_body Bd
  have e0 : s₁.heap = h0 := by rw [← hh, Bd.state]; rfl
  have N0 := Fr.nil n0
  show own_Go p e below (fun s₂ oc => ∃ v L, oc = .returned v ∧ Qadd5 Z o x1 b kk sc M pv mv v0 v1 v2 v3 v4 h0 n0 v s₂.heap L ∧ FrameEnd s oc s₂ L ({ frames := 0, cells := 0, slots := 0, locals := 0 } : Room).cells ({ frames := 0, cells := 0, slots := 0, locals := 0 } : Room).slots) s₁ (entryFrame m #[(.ref o), (.double x1)] 7)
  refine own_Go.of (g' := mkF m 0 #[.val (.ref o), .val (.double x1), .second, .unset, .unset, .unset, .unset] []) (fun t k => castTop (efadd5 m o x1) k) ?_
  obtain ⟨a_mv, a_v0, a_v1, a_v2, a_v3, a_v4⟩ := hl
  obtain ⟨a_pv, z_pv⟩ := hp
  obtain ⟨hsc, z_M, hone⟩ := hM
  have z_mv : mv ≤ 16777216 := by omega
  have z_v0 : v0 ≤ 16777216 := by omega
  have z_v1 : v1 ≤ 16777216 := by omega
  have z_v2 : v2 ≤ 16777216 := by omega
  have z_v3 : v3 ≤ 16777216 := by omega
  have z_v4 : v4 ≤ 16777216 := by omega
  have a_M : 0 ≤ M := by omega
  refine og_aloadN (pc' := 1) X0 hx (hb hby d5_0) rfl rfl rfl ?_
  obtain ⟨T1, X1, e1, st1⟩ := getF X0 hx hZ hown (host := "") (Or.inl (hw _ (List.mem_of_getElem? (i := 14) rfl))) Via.refl e0 F0_o (g := (mkF m 1 #[.val (.ref o), .val (.double x1), .second, .unset, .unset, .unset, .unset] [(.ref o)])) rfl rfl (hb hby d5_1)
  refine own_Go.of (g' := (mkF m 4 #[.val (.ref o), .val (.double x1), .second, .unset, .unset, .unset, .unset] [(.ref b)])) (fun t k => st1 _ k) ?_
  obtain ⟨cl2, Ar2, q2, S2, M2, H2, G2⟩ := id V_b
  refine own_Go.of (g' := (mkF m 5 #[.val (.ref o), .val (.double x1), .second, .unset, .unset, .unset, .unset] [(.int (5 : Int32))])) (fun t k => X1.arraylength hx (by rw [e1]; exact Ar2.1) (State.isArrayOf_alike hZ.alike Ar2.2.1) (g := (mkF m 4 #[.val (.ref o), .val (.double x1), .second, .unset, .unset, .unset, .unset] [(.ref b)])) rfl rfl (hb hby d5_4) _ (by rw [len_of S2 M2]; exact k)) ?_
  refine og_istoreN (pc' := 6) (L' := #[.val (.ref o), .val (.double x1), .second, .val (.int (5 : Int32)), .unset, .unset, .unset]) X1 hx (hb hby d5_5) rfl rfl ?_
  refine og_dconst1 (pc' := 7) X1 hx (hb hby d5_6) hone rfl ?_
  refine og_aloadN (pc' := 8) X1 hx (hb hby d5_7) rfl rfl rfl ?_
  obtain ⟨T3, X3, e3, st3⟩ := getF X1 hx hZ hown (host := "") (Or.inl (hw _ (List.mem_of_getElem? (i := 21) rfl))) Via.refl e1 F1_o (g := (mkF m 8 #[.val (.ref o), .val (.double x1), .second, .val (.int (5 : Int32)), .unset, .unset, .unset] [(.ref o), (.double (own_D sc M))])) rfl rfl (hb hby d5_8)
  refine own_Go.of (g' := (mkF m 11 #[.val (.ref o), .val (.double x1), .second, .val (.int (5 : Int32)), .unset, .unset, .unset] [(.double (own_D sc mv)), (.double (own_D sc M))])) (fun t k => st3 _ k) ?_
  obtain ⟨u4, hu4⟩ : ∃ q : Int, q = (M - mv) := ⟨_, rfl⟩
  have a4 : 0 ≤ u4 := by omega
  have z4 : u4 ≤ 16777216 := by omega
  have x4 : FP.dsub (own_D sc M) (own_D sc mv) = own_D sc u4 := own_xsub rfl rfl hu4.symm (by omega) (by omega) (by omega)
  refine og_dsub (pc' := 12) X3 hx (hb hby d5_11) (own_nnx x4 (by omega) (by omega)) x4 rfl ?_
  refine og_dconst1 (pc' := 13) X3 hx (hb hby d5_12) own_o8 rfl ?_
  refine og_dloadN (pc' := 14) X3 hx (hb hby d5_13) rfl rfl ?_
  obtain ⟨u5, hu5⟩ : ∃ q : Int, q = (256 - pv) := ⟨_, rfl⟩
  have a5 : 0 ≤ u5 := by omega
  have z5 : u5 ≤ 256 := by omega
  have x5 : FP.dsub (own_D 8 256) x1 = own_D 8 u5 := own_xsub rfl hx1 hu5.symm (by omega) (by omega) (by omega)
  refine og_dsub (pc' := 15) X3 hx (hb hby d5_14) (own_nnx x5 (by omega) (by omega)) x5 rfl ?_
  obtain ⟨u6, hu6⟩ : ∃ q : Int, q = (u4 * u5) := ⟨_, rfl⟩
  have a6 : 0 ≤ u6 := by rw [hu6]; exact Int.mul_nonneg (by omega) (by omega)
  have z6 : u6 ≤ 4294967296 := by rw [hu6]; exact Int.le_trans (Int.mul_le_mul z4 z5 (by omega) (by omega)) (by decide)
  have x6 : FP.dmul (own_D sc u4) (own_D 8 u5) = own_D (sc + 8) u6 := own_xmul rfl rfl hu6.symm rfl (by omega) (by omega) (by omega) (by omega) (by omega) (by omega)
  refine og_dmul (pc' := 16) X3 hx (hb hby d5_15) (own_nnx x6 (by omega) (by omega)) x6 rfl ?_
  refine og_dstore (pc' := 18) (L' := #[.val (.ref o), .val (.double x1), .second, .val (.int (5 : Int32)), .val (.double (own_D (sc + 8) u6)), .second, .unset]) X3 hx (hb hby d5_16) rfl rfl ?_
  refine og_aloadN (pc' := 19) X3 hx (hb hby d5_18) rfl rfl rfl ?_
  refine og_dup (pc' := 20) X3 hx (hb hby d5_19) rfl rfl ?_
  obtain ⟨T7, X7, e7, st7⟩ := getF X3 hx hZ hown (host := "") (Or.inl (hw _ (List.mem_of_getElem? (i := 21) rfl))) Via.refl e3 F1_o (g := (mkF m 20 #[.val (.ref o), .val (.double x1), .second, .val (.int (5 : Int32)), .val (.double (own_D (sc + 8) u6)), .second, .unset] [(.ref o), (.ref o)])) rfl rfl (hb hby d5_20)
  refine own_Go.of (g' := (mkF m 23 #[.val (.ref o), .val (.double x1), .second, .val (.int (5 : Int32)), .val (.double (own_D (sc + 8) u6)), .second, .unset] [(.double (own_D sc mv)), (.ref o)])) (fun t k => st7 _ k) ?_
  refine og_aloadN (pc' := 24) X7 hx (hb hby d5_23) rfl rfl rfl ?_
  obtain ⟨T8, X8, e8, st8⟩ := getF X7 hx hZ hown (host := "") (Or.inl (hw _ (List.mem_of_getElem? (i := 14) rfl))) Via.refl e7 F0_o (g := (mkF m 24 #[.val (.ref o), .val (.double x1), .second, .val (.int (5 : Int32)), .val (.double (own_D (sc + 8) u6)), .second, .unset] [(.ref o), (.double (own_D sc mv)), (.ref o)])) rfl rfl (hb hby d5_24)
  refine own_Go.of (g' := (mkF m 27 #[.val (.ref o), .val (.double x1), .second, .val (.int (5 : Int32)), .val (.double (own_D (sc + 8) u6)), .second, .unset] [(.ref b), (.double (own_D sc mv)), (.ref o)])) (fun t k => st8 _ k) ?_
  refine og_iloadN (pc' := 28) X8 hx (hb hby d5_27) rfl rfl ?_
  refine og_iconst (pc' := 29) (n := 1) X8 hx (hb hby d5_28) rfl rfl ?_
  refine og_isub (pc' := 30) X8 hx (hb hby d5_29) rfl ?_
  rw [show ((5 : Int32) - (1 : Int32)) = (4 : Int32) from by decide]
  obtain ⟨cl9, Ar9, q9, S9, M9, H9, G9⟩ := id V_b
  have hin9 : ¬ ((4 : Int32) < 0 ∨ cl9.slots.size ≤ ((4 : Int32)).toNatClampNeg) := inb_of S9 ⟨by decide, by decide⟩
  have hat9 : cl9.slots[((4 : Int32)).toNatClampNeg]? = some (.double (own_D sc v4)) := Has.at H9 hin9 rfl
  refine own_Go.of (g' := (mkF m 31 #[.val (.ref o), .val (.double x1), .second, .val (.int (5 : Int32)), .val (.double (own_D (sc + 8) u6)), .second, .unset] [(.double (own_D sc v4)), (.double (own_D sc mv)), (.ref o)])) (fun t k => X8.daload hx (j := (4 : Int32)) (v := (.double (own_D sc v4))) (by rw [e8]; exact Ar9.1) (State.isArrayOf_alike hZ.alike Ar9.2.1) Ar9.2.2 hin9 hat9 (g := (mkF m 30 #[.val (.ref o), .val (.double x1), .second, .val (.int (5 : Int32)), .val (.double (own_D (sc + 8) u6)), .second, .unset] [(.int (4 : Int32)), (.ref b), (.double (own_D sc mv)), (.ref o)])) rfl rfl (hb hby d5_30) _ k) ?_
  refine og_dloadN (pc' := 32) X8 hx (hb hby d5_31) rfl rfl ?_
  obtain ⟨u10, hu10⟩ : ∃ q : Int, q = (v4 * pv) := ⟨_, rfl⟩
  have a10 : 0 ≤ u10 := by rw [hu10]; exact Int.mul_nonneg (by omega) (by omega)
  have z10 : u10 ≤ 4294967296 := by rw [hu10]; exact Int.le_trans (Int.mul_le_mul z_v4 z_pv (by omega) (by omega)) (by decide)
  have x10 : FP.dmul (own_D sc v4) x1 = own_D (sc + 8) u10 := own_xmul rfl hx1 hu10.symm rfl (by omega) (by omega) (by omega) (by omega) (by omega) (by omega)
  refine og_dmul (pc' := 33) X8 hx (hb hby d5_32) (own_nnx x10 (by omega) (by omega)) x10 rfl ?_
  obtain ⟨u11, hu11⟩ : ∃ q : Int, q = (mv * 256) := ⟨_, rfl⟩
  have y11 : _ = own_D (sc + 8) u11 := (rfl : own_D sc mv = own_D sc mv).trans (by rw [hu11]; exact own_resc _ _)
  have a11 : 0 ≤ u11 := by omega
  have z11 : u11 ≤ 4294967296 := by omega
  obtain ⟨u12, hu12⟩ : ∃ q : Int, q = (u11 + u10) := ⟨_, rfl⟩
  have a12 : 0 ≤ u12 := by omega
  have z12 : u12 ≤ 8589934592 := by omega
  have x12 : FP.dadd (own_D sc mv) (own_D (sc + 8) u10) = own_D (sc + 8) u12 := own_xadd y11 rfl hu12.symm (by omega) (by omega) (by omega)
  refine og_dadd (pc' := 34) X8 hx (hb hby d5_33) (own_nnx x12 (by omega) (by omega)) x12 rfl ?_
  obtain ⟨T13, h13, X13, e13, W13, st13⟩ := putF X8 hx hZ hown (host := "") (Or.inl (hw _ (List.mem_of_getElem? (i := 21) rfl))) Via.refl e8 F1_o E_o (Or.inl (hw _ (List.mem_of_getElem? (i := 22) rfl))) (hw _ (List.mem_of_getElem? (i := 5) rfl)) (ty := .double) (by decide) rfl rfl (g := (mkF m 34 #[.val (.ref o), .val (.double x1), .second, .val (.int (5 : Int32)), .val (.double (own_D (sc + 8) u6)), .second, .unset] [(.double (own_D (sc + 8) u12)), (.ref o)])) rfl rfl (hb hby d5_34)
  have w13 : Fld Z h13 o "com/example/paranhos/paranhos/MatchRuns" "matched" "D" (.double (own_D (sc + 8) u12)) := F1_o.same W13
  have f13_0 := E_o.wr W13
  have f13_1 := F0_o.other W13 (Or.inr (slot_ne (a0 := a0) (C := "com/example/paranhos/paranhos/MatchRuns") (Or.inr (hw _ (List.mem_of_getElem? (i := 15) rfl))) (Or.inl (hw _ (List.mem_of_getElem? (i := 22) rfl))) (by decide) (t := (.array .double)) (t' := .double) (by decide) (by decide)))
  have f13_2 := V_b.other W13 (Ne.symm ne_ob)
  have K13 : Keep h0 h13 [o, b] := (Keep.refl h0 [o, b]).wr W13 (Or.inl (List.mem_of_getElem? (i := 0) rfl))
  have Z13 : n0 ≤ h13.size := Nat.le_trans Z0 K13.1
  have N13 := Fr.snoc X13 N0 g_o
  obtain ⟨J13, X13, N13⟩ := own_hide X13 N13
  refine own_Go.of (g' := (mkF m 37 #[.val (.ref o), .val (.double x1), .second, .val (.int (5 : Int32)), .val (.double (own_D (sc + 8) u6)), .second, .unset] [])) (fun t k => st13 _ k) ?_
  refine og_iloadN (pc' := 38) X13 hx (hb hby d5_37) rfl rfl ?_
  refine og_iconst (pc' := 39) (n := 1) X13 hx (hb hby d5_38) rfl rfl ?_
  refine og_isub (pc' := 40) X13 hx (hb hby d5_39) rfl ?_
  rw [show ((5 : Int32) - (1 : Int32)) = (4 : Int32) from by decide]
  refine og_istore (pc' := 42) (L' := #[.val (.ref o), .val (.double x1), .second, .val (.int (5 : Int32)), .val (.double (own_D (sc + 8) u6)), .second, .val (.int (4 : Int32))]) X13 hx (hb hby d5_40) rfl rfl ?_
  refine og_iload (pc' := 44) X13 hx (hb hby d5_42) rfl rfl ?_
  refine og_ifNo (pc' := 47) X13 hx (hb hby d5_44) ((if0 _ _).trans (tlt (by decide)).2.2.2) rfl ?_
  refine og_aloadN (pc' := 48) X13 hx (hb hby d5_47) rfl rfl rfl ?_
  obtain ⟨T14, X14, e14, st14⟩ := getF X13 hx hZ hown (host := "") (Or.inl (hw _ (List.mem_of_getElem? (i := 14) rfl))) Via.refl e13 f13_1 (g := (mkF m 48 #[.val (.ref o), .val (.double x1), .second, .val (.int (5 : Int32)), .val (.double (own_D (sc + 8) u6)), .second, .val (.int (4 : Int32))] [(.ref o)])) rfl rfl (hb hby d5_48)
  refine own_Go.of (g' := (mkF m 51 #[.val (.ref o), .val (.double x1), .second, .val (.int (5 : Int32)), .val (.double (own_D (sc + 8) u6)), .second, .val (.int (4 : Int32))] [(.ref b)])) (fun t k => st14 _ k) ?_
  refine og_iload (pc' := 53) X14 hx (hb hby d5_51) rfl rfl ?_
  refine og_aloadN (pc' := 54) X14 hx (hb hby d5_53) rfl rfl rfl ?_
  obtain ⟨T15, X15, e15, st15⟩ := getF X14 hx hZ hown (host := "") (Or.inl (hw _ (List.mem_of_getElem? (i := 14) rfl))) Via.refl e14 f13_1 (g := (mkF m 54 #[.val (.ref o), .val (.double x1), .second, .val (.int (5 : Int32)), .val (.double (own_D (sc + 8) u6)), .second, .val (.int (4 : Int32))] [(.ref o), (.int (4 : Int32)), (.ref b)])) rfl rfl (hb hby d5_54)
  refine own_Go.of (g' := (mkF m 57 #[.val (.ref o), .val (.double x1), .second, .val (.int (5 : Int32)), .val (.double (own_D (sc + 8) u6)), .second, .val (.int (4 : Int32))] [(.ref b), (.int (4 : Int32)), (.ref b)])) (fun t k => st15 _ k) ?_
  refine og_iload (pc' := 59) X15 hx (hb hby d5_57) rfl rfl ?_
  refine og_iconst (pc' := 60) (n := 1) X15 hx (hb hby d5_59) rfl rfl ?_
  refine og_isub (pc' := 61) X15 hx (hb hby d5_60) rfl ?_
  rw [show ((4 : Int32) - (1 : Int32)) = (3 : Int32) from by decide]
  obtain ⟨cl16, Ar16, q16, S16, M16, H16, G16⟩ := id f13_2
  have hin16 : ¬ ((3 : Int32) < 0 ∨ cl16.slots.size ≤ ((3 : Int32)).toNatClampNeg) := inb_of S16 ⟨by decide, by decide⟩
  have hat16 : cl16.slots[((3 : Int32)).toNatClampNeg]? = some (.double (own_D sc v3)) := Has.at H16 hin16 rfl
  refine own_Go.of (g' := (mkF m 62 #[.val (.ref o), .val (.double x1), .second, .val (.int (5 : Int32)), .val (.double (own_D (sc + 8) u6)), .second, .val (.int (4 : Int32))] [(.double (own_D sc v3)), (.int (4 : Int32)), (.ref b)])) (fun t k => X15.daload hx (j := (3 : Int32)) (v := (.double (own_D sc v3))) (by rw [e15]; exact Ar16.1) (State.isArrayOf_alike hZ.alike Ar16.2.1) Ar16.2.2 hin16 hat16 (g := (mkF m 61 #[.val (.ref o), .val (.double x1), .second, .val (.int (5 : Int32)), .val (.double (own_D (sc + 8) u6)), .second, .val (.int (4 : Int32))] [(.int (3 : Int32)), (.ref b), (.int (4 : Int32)), (.ref b)])) rfl rfl (hb hby d5_61) _ k) ?_
  refine og_dloadN (pc' := 63) X15 hx (hb hby d5_62) rfl rfl ?_
  obtain ⟨u17, hu17⟩ : ∃ q : Int, q = (v3 * pv) := ⟨_, rfl⟩
  have a17 : 0 ≤ u17 := by rw [hu17]; exact Int.mul_nonneg (by omega) (by omega)
  have z17 : u17 ≤ 4294967296 := by rw [hu17]; exact Int.le_trans (Int.mul_le_mul z_v3 z_pv (by omega) (by omega)) (by decide)
  have x17 : FP.dmul (own_D sc v3) x1 = own_D (sc + 8) u17 := own_xmul rfl hx1 hu17.symm rfl (by omega) (by omega) (by omega) (by omega) (by omega) (by omega)
  refine og_dmul (pc' := 64) X15 hx (hb hby d5_63) (own_nnx x17 (by omega) (by omega)) x17 rfl ?_
  obtain ⟨cl18, Ar18, q18, S18, M18, H18, G18⟩ := id f13_2
  have hin18 : ¬ ((4 : Int32) < 0 ∨ cl18.slots.size ≤ ((4 : Int32)).toNatClampNeg) := inb_of S18 ⟨by decide, by decide⟩
  obtain ⟨T18, h18, X18, e18, W18, st18⟩ := stD X15 hx hZ e15 Ar18 (j := (4 : Int32)) hin18 (g := (mkF m 64 #[.val (.ref o), .val (.double x1), .second, .val (.int (5 : Int32)), .val (.double (own_D (sc + 8) u6)), .second, .val (.int (4 : Int32))] [(.double (own_D (sc + 8) u17)), (.int (4 : Int32)), (.ref b)])) rfl rfl (hb hby d5_64)
  have V18 : Arv Z h18 b kk .double (5 : Int32) [(.double (own_D sc v0)), (.double (own_D sc v1)), (.double (own_D sc v2)), (.double (own_D sc v3)), (.double (own_D (sc + 8) u17))] (.double (0 : UInt64)) := Arv.set Ar18 q18 S18 M18 H18 G18 rfl W18 4 rfl (Nat.le_of_ble_eq_true rfl)
  have f18_0 := f13_0.wr W18
  have f18_1 := f13_1.other W18 (Or.inl ne_ob)
  have f18_10 := w13.other W18 (Or.inl ne_ob)
  have K18 : Keep h0 h18 [o, b] := K13.wr W18 (Or.inl (List.mem_of_getElem? (i := 1) rfl))
  have Z18 : n0 ≤ h18.size := Nat.le_trans Z0 K18.1
  have N18 := Fr.snoc X18 N13 g_b
  obtain ⟨J18, X18, N18⟩ := own_hide X18 N18
  refine own_Go.of (g' := (mkF m 65 #[.val (.ref o), .val (.double x1), .second, .val (.int (5 : Int32)), .val (.double (own_D (sc + 8) u6)), .second, .val (.int (4 : Int32))] [])) (fun t k => st18 _ k) ?_
  refine og_iinc (pc' := 68) (L' := #[.val (.ref o), .val (.double x1), .second, .val (.int (5 : Int32)), .val (.double (own_D (sc + 8) u6)), .second, .val (.int ((4 : Int32) + (-1 : Int32)))]) X18 hx (hb hby d5_65) rfl rfl rfl ?_
  rw [show ((4 : Int32) + (-1 : Int32)) = (3 : Int32) from by decide]
  refine og_goto (pc' := 42) X18 hx (hb hby d5_68) (by decide) (by decide) ?_
  refine og_iload (pc' := 44) X18 hx (hb hby d5_42) rfl rfl ?_
  refine og_ifNo (pc' := 47) X18 hx (hb hby d5_44) ((if0 _ _).trans (tlt (by decide)).2.2.2) rfl ?_
  refine og_aloadN (pc' := 48) X18 hx (hb hby d5_47) rfl rfl rfl ?_
  obtain ⟨T19, X19, e19, st19⟩ := getF X18 hx hZ hown (host := "") (Or.inl (hw _ (List.mem_of_getElem? (i := 14) rfl))) Via.refl e18 f18_1 (g := (mkF m 48 #[.val (.ref o), .val (.double x1), .second, .val (.int (5 : Int32)), .val (.double (own_D (sc + 8) u6)), .second, .val (.int (3 : Int32))] [(.ref o)])) rfl rfl (hb hby d5_48)
  refine own_Go.of (g' := (mkF m 51 #[.val (.ref o), .val (.double x1), .second, .val (.int (5 : Int32)), .val (.double (own_D (sc + 8) u6)), .second, .val (.int (3 : Int32))] [(.ref b)])) (fun t k => st19 _ k) ?_
  refine og_iload (pc' := 53) X19 hx (hb hby d5_51) rfl rfl ?_
  refine og_aloadN (pc' := 54) X19 hx (hb hby d5_53) rfl rfl rfl ?_
  obtain ⟨T20, X20, e20, st20⟩ := getF X19 hx hZ hown (host := "") (Or.inl (hw _ (List.mem_of_getElem? (i := 14) rfl))) Via.refl e19 f18_1 (g := (mkF m 54 #[.val (.ref o), .val (.double x1), .second, .val (.int (5 : Int32)), .val (.double (own_D (sc + 8) u6)), .second, .val (.int (3 : Int32))] [(.ref o), (.int (3 : Int32)), (.ref b)])) rfl rfl (hb hby d5_54)
  refine own_Go.of (g' := (mkF m 57 #[.val (.ref o), .val (.double x1), .second, .val (.int (5 : Int32)), .val (.double (own_D (sc + 8) u6)), .second, .val (.int (3 : Int32))] [(.ref b), (.int (3 : Int32)), (.ref b)])) (fun t k => st20 _ k) ?_
  refine og_iload (pc' := 59) X20 hx (hb hby d5_57) rfl rfl ?_
  refine og_iconst (pc' := 60) (n := 1) X20 hx (hb hby d5_59) rfl rfl ?_
  refine og_isub (pc' := 61) X20 hx (hb hby d5_60) rfl ?_
  rw [show ((3 : Int32) - (1 : Int32)) = (2 : Int32) from by decide]
  obtain ⟨cl21, Ar21, q21, S21, M21, H21, G21⟩ := id V18
  have hin21 : ¬ ((2 : Int32) < 0 ∨ cl21.slots.size ≤ ((2 : Int32)).toNatClampNeg) := inb_of S21 ⟨by decide, by decide⟩
  have hat21 : cl21.slots[((2 : Int32)).toNatClampNeg]? = some (.double (own_D sc v2)) := Has.at H21 hin21 rfl
  refine own_Go.of (g' := (mkF m 62 #[.val (.ref o), .val (.double x1), .second, .val (.int (5 : Int32)), .val (.double (own_D (sc + 8) u6)), .second, .val (.int (3 : Int32))] [(.double (own_D sc v2)), (.int (3 : Int32)), (.ref b)])) (fun t k => X20.daload hx (j := (2 : Int32)) (v := (.double (own_D sc v2))) (by rw [e20]; exact Ar21.1) (State.isArrayOf_alike hZ.alike Ar21.2.1) Ar21.2.2 hin21 hat21 (g := (mkF m 61 #[.val (.ref o), .val (.double x1), .second, .val (.int (5 : Int32)), .val (.double (own_D (sc + 8) u6)), .second, .val (.int (3 : Int32))] [(.int (2 : Int32)), (.ref b), (.int (3 : Int32)), (.ref b)])) rfl rfl (hb hby d5_61) _ k) ?_
  refine og_dloadN (pc' := 63) X20 hx (hb hby d5_62) rfl rfl ?_
  obtain ⟨u22, hu22⟩ : ∃ q : Int, q = (v2 * pv) := ⟨_, rfl⟩
  have a22 : 0 ≤ u22 := by rw [hu22]; exact Int.mul_nonneg (by omega) (by omega)
  have z22 : u22 ≤ 4294967296 := by rw [hu22]; exact Int.le_trans (Int.mul_le_mul z_v2 z_pv (by omega) (by omega)) (by decide)
  have x22 : FP.dmul (own_D sc v2) x1 = own_D (sc + 8) u22 := own_xmul rfl hx1 hu22.symm rfl (by omega) (by omega) (by omega) (by omega) (by omega) (by omega)
  refine og_dmul (pc' := 64) X20 hx (hb hby d5_63) (own_nnx x22 (by omega) (by omega)) x22 rfl ?_
  obtain ⟨cl23, Ar23, q23, S23, M23, H23, G23⟩ := id V18
  have hin23 : ¬ ((3 : Int32) < 0 ∨ cl23.slots.size ≤ ((3 : Int32)).toNatClampNeg) := inb_of S23 ⟨by decide, by decide⟩
  obtain ⟨T23, h23, X23, e23, W23, st23⟩ := stD X20 hx hZ e20 Ar23 (j := (3 : Int32)) hin23 (g := (mkF m 64 #[.val (.ref o), .val (.double x1), .second, .val (.int (5 : Int32)), .val (.double (own_D (sc + 8) u6)), .second, .val (.int (3 : Int32))] [(.double (own_D (sc + 8) u22)), (.int (3 : Int32)), (.ref b)])) rfl rfl (hb hby d5_64)
  have V23 : Arv Z h23 b kk .double (5 : Int32) [(.double (own_D sc v0)), (.double (own_D sc v1)), (.double (own_D sc v2)), (.double (own_D (sc + 8) u22)), (.double (own_D (sc + 8) u17))] (.double (0 : UInt64)) := Arv.set Ar23 q23 S23 M23 H23 G23 rfl W23 3 rfl (Nat.le_of_ble_eq_true rfl)
  have f23_0 := f18_0.wr W23
  have f23_1 := f18_1.other W23 (Or.inl ne_ob)
  have f23_10 := f18_10.other W23 (Or.inl ne_ob)
  have K23 : Keep h0 h23 [o, b] := K18.wr W23 (Or.inl (List.mem_of_getElem? (i := 1) rfl))
  have Z23 : n0 ≤ h23.size := Nat.le_trans Z0 K23.1
  have N23 := Fr.snoc X23 N18 g_b
  obtain ⟨J23, X23, N23⟩ := own_hide X23 N23
  refine own_Go.of (g' := (mkF m 65 #[.val (.ref o), .val (.double x1), .second, .val (.int (5 : Int32)), .val (.double (own_D (sc + 8) u6)), .second, .val (.int (3 : Int32))] [])) (fun t k => st23 _ k) ?_
  refine og_iinc (pc' := 68) (L' := #[.val (.ref o), .val (.double x1), .second, .val (.int (5 : Int32)), .val (.double (own_D (sc + 8) u6)), .second, .val (.int ((3 : Int32) + (-1 : Int32)))]) X23 hx (hb hby d5_65) rfl rfl rfl ?_
  rw [show ((3 : Int32) + (-1 : Int32)) = (2 : Int32) from by decide]
  refine og_goto (pc' := 42) X23 hx (hb hby d5_68) (by decide) (by decide) ?_
  refine og_iload (pc' := 44) X23 hx (hb hby d5_42) rfl rfl ?_
  refine og_ifNo (pc' := 47) X23 hx (hb hby d5_44) ((if0 _ _).trans (tlt (by decide)).2.2.2) rfl ?_
  refine og_aloadN (pc' := 48) X23 hx (hb hby d5_47) rfl rfl rfl ?_
  obtain ⟨T24, X24, e24, st24⟩ := getF X23 hx hZ hown (host := "") (Or.inl (hw _ (List.mem_of_getElem? (i := 14) rfl))) Via.refl e23 f23_1 (g := (mkF m 48 #[.val (.ref o), .val (.double x1), .second, .val (.int (5 : Int32)), .val (.double (own_D (sc + 8) u6)), .second, .val (.int (2 : Int32))] [(.ref o)])) rfl rfl (hb hby d5_48)
  refine own_Go.of (g' := (mkF m 51 #[.val (.ref o), .val (.double x1), .second, .val (.int (5 : Int32)), .val (.double (own_D (sc + 8) u6)), .second, .val (.int (2 : Int32))] [(.ref b)])) (fun t k => st24 _ k) ?_
  refine og_iload (pc' := 53) X24 hx (hb hby d5_51) rfl rfl ?_
  refine og_aloadN (pc' := 54) X24 hx (hb hby d5_53) rfl rfl rfl ?_
  obtain ⟨T25, X25, e25, st25⟩ := getF X24 hx hZ hown (host := "") (Or.inl (hw _ (List.mem_of_getElem? (i := 14) rfl))) Via.refl e24 f23_1 (g := (mkF m 54 #[.val (.ref o), .val (.double x1), .second, .val (.int (5 : Int32)), .val (.double (own_D (sc + 8) u6)), .second, .val (.int (2 : Int32))] [(.ref o), (.int (2 : Int32)), (.ref b)])) rfl rfl (hb hby d5_54)
  refine own_Go.of (g' := (mkF m 57 #[.val (.ref o), .val (.double x1), .second, .val (.int (5 : Int32)), .val (.double (own_D (sc + 8) u6)), .second, .val (.int (2 : Int32))] [(.ref b), (.int (2 : Int32)), (.ref b)])) (fun t k => st25 _ k) ?_
  refine og_iload (pc' := 59) X25 hx (hb hby d5_57) rfl rfl ?_
  refine og_iconst (pc' := 60) (n := 1) X25 hx (hb hby d5_59) rfl rfl ?_
  refine og_isub (pc' := 61) X25 hx (hb hby d5_60) rfl ?_
  rw [show ((2 : Int32) - (1 : Int32)) = (1 : Int32) from by decide]
  obtain ⟨cl26, Ar26, q26, S26, M26, H26, G26⟩ := id V23
  have hin26 : ¬ ((1 : Int32) < 0 ∨ cl26.slots.size ≤ ((1 : Int32)).toNatClampNeg) := inb_of S26 ⟨by decide, by decide⟩
  have hat26 : cl26.slots[((1 : Int32)).toNatClampNeg]? = some (.double (own_D sc v1)) := Has.at H26 hin26 rfl
  refine own_Go.of (g' := (mkF m 62 #[.val (.ref o), .val (.double x1), .second, .val (.int (5 : Int32)), .val (.double (own_D (sc + 8) u6)), .second, .val (.int (2 : Int32))] [(.double (own_D sc v1)), (.int (2 : Int32)), (.ref b)])) (fun t k => X25.daload hx (j := (1 : Int32)) (v := (.double (own_D sc v1))) (by rw [e25]; exact Ar26.1) (State.isArrayOf_alike hZ.alike Ar26.2.1) Ar26.2.2 hin26 hat26 (g := (mkF m 61 #[.val (.ref o), .val (.double x1), .second, .val (.int (5 : Int32)), .val (.double (own_D (sc + 8) u6)), .second, .val (.int (2 : Int32))] [(.int (1 : Int32)), (.ref b), (.int (2 : Int32)), (.ref b)])) rfl rfl (hb hby d5_61) _ k) ?_
  refine og_dloadN (pc' := 63) X25 hx (hb hby d5_62) rfl rfl ?_
  obtain ⟨u27, hu27⟩ : ∃ q : Int, q = (v1 * pv) := ⟨_, rfl⟩
  have a27 : 0 ≤ u27 := by rw [hu27]; exact Int.mul_nonneg (by omega) (by omega)
  have z27 : u27 ≤ 4294967296 := by rw [hu27]; exact Int.le_trans (Int.mul_le_mul z_v1 z_pv (by omega) (by omega)) (by decide)
  have x27 : FP.dmul (own_D sc v1) x1 = own_D (sc + 8) u27 := own_xmul rfl hx1 hu27.symm rfl (by omega) (by omega) (by omega) (by omega) (by omega) (by omega)
  refine og_dmul (pc' := 64) X25 hx (hb hby d5_63) (own_nnx x27 (by omega) (by omega)) x27 rfl ?_
  obtain ⟨cl28, Ar28, q28, S28, M28, H28, G28⟩ := id V23
  have hin28 : ¬ ((2 : Int32) < 0 ∨ cl28.slots.size ≤ ((2 : Int32)).toNatClampNeg) := inb_of S28 ⟨by decide, by decide⟩
  obtain ⟨T28, h28, X28, e28, W28, st28⟩ := stD X25 hx hZ e25 Ar28 (j := (2 : Int32)) hin28 (g := (mkF m 64 #[.val (.ref o), .val (.double x1), .second, .val (.int (5 : Int32)), .val (.double (own_D (sc + 8) u6)), .second, .val (.int (2 : Int32))] [(.double (own_D (sc + 8) u27)), (.int (2 : Int32)), (.ref b)])) rfl rfl (hb hby d5_64)
  have V28 : Arv Z h28 b kk .double (5 : Int32) [(.double (own_D sc v0)), (.double (own_D sc v1)), (.double (own_D (sc + 8) u27)), (.double (own_D (sc + 8) u22)), (.double (own_D (sc + 8) u17))] (.double (0 : UInt64)) := Arv.set Ar28 q28 S28 M28 H28 G28 rfl W28 2 rfl (Nat.le_of_ble_eq_true rfl)
  have f28_0 := f23_0.wr W28
  have f28_1 := f23_1.other W28 (Or.inl ne_ob)
  have f28_10 := f23_10.other W28 (Or.inl ne_ob)
  have K28 : Keep h0 h28 [o, b] := K23.wr W28 (Or.inl (List.mem_of_getElem? (i := 1) rfl))
  have Z28 : n0 ≤ h28.size := Nat.le_trans Z0 K28.1
  have N28 := Fr.snoc X28 N23 g_b
  obtain ⟨J28, X28, N28⟩ := own_hide X28 N28
  refine own_Go.of (g' := (mkF m 65 #[.val (.ref o), .val (.double x1), .second, .val (.int (5 : Int32)), .val (.double (own_D (sc + 8) u6)), .second, .val (.int (2 : Int32))] [])) (fun t k => st28 _ k) ?_
  refine og_iinc (pc' := 68) (L' := #[.val (.ref o), .val (.double x1), .second, .val (.int (5 : Int32)), .val (.double (own_D (sc + 8) u6)), .second, .val (.int ((2 : Int32) + (-1 : Int32)))]) X28 hx (hb hby d5_65) rfl rfl rfl ?_
  rw [show ((2 : Int32) + (-1 : Int32)) = (1 : Int32) from by decide]
  refine og_goto (pc' := 42) X28 hx (hb hby d5_68) (by decide) (by decide) ?_
  refine og_iload (pc' := 44) X28 hx (hb hby d5_42) rfl rfl ?_
  refine og_ifNo (pc' := 47) X28 hx (hb hby d5_44) ((if0 _ _).trans (tlt (by decide)).2.2.2) rfl ?_
  refine og_aloadN (pc' := 48) X28 hx (hb hby d5_47) rfl rfl rfl ?_
  obtain ⟨T29, X29, e29, st29⟩ := getF X28 hx hZ hown (host := "") (Or.inl (hw _ (List.mem_of_getElem? (i := 14) rfl))) Via.refl e28 f28_1 (g := (mkF m 48 #[.val (.ref o), .val (.double x1), .second, .val (.int (5 : Int32)), .val (.double (own_D (sc + 8) u6)), .second, .val (.int (1 : Int32))] [(.ref o)])) rfl rfl (hb hby d5_48)
  refine own_Go.of (g' := (mkF m 51 #[.val (.ref o), .val (.double x1), .second, .val (.int (5 : Int32)), .val (.double (own_D (sc + 8) u6)), .second, .val (.int (1 : Int32))] [(.ref b)])) (fun t k => st29 _ k) ?_
  refine og_iload (pc' := 53) X29 hx (hb hby d5_51) rfl rfl ?_
  refine og_aloadN (pc' := 54) X29 hx (hb hby d5_53) rfl rfl rfl ?_
  obtain ⟨T30, X30, e30, st30⟩ := getF X29 hx hZ hown (host := "") (Or.inl (hw _ (List.mem_of_getElem? (i := 14) rfl))) Via.refl e29 f28_1 (g := (mkF m 54 #[.val (.ref o), .val (.double x1), .second, .val (.int (5 : Int32)), .val (.double (own_D (sc + 8) u6)), .second, .val (.int (1 : Int32))] [(.ref o), (.int (1 : Int32)), (.ref b)])) rfl rfl (hb hby d5_54)
  refine own_Go.of (g' := (mkF m 57 #[.val (.ref o), .val (.double x1), .second, .val (.int (5 : Int32)), .val (.double (own_D (sc + 8) u6)), .second, .val (.int (1 : Int32))] [(.ref b), (.int (1 : Int32)), (.ref b)])) (fun t k => st30 _ k) ?_
  refine og_iload (pc' := 59) X30 hx (hb hby d5_57) rfl rfl ?_
  refine og_iconst (pc' := 60) (n := 1) X30 hx (hb hby d5_59) rfl rfl ?_
  refine og_isub (pc' := 61) X30 hx (hb hby d5_60) rfl ?_
  rw [show ((1 : Int32) - (1 : Int32)) = (0 : Int32) from by decide]
  obtain ⟨cl31, Ar31, q31, S31, M31, H31, G31⟩ := id V28
  have hin31 : ¬ ((0 : Int32) < 0 ∨ cl31.slots.size ≤ ((0 : Int32)).toNatClampNeg) := inb_of S31 ⟨by decide, by decide⟩
  have hat31 : cl31.slots[((0 : Int32)).toNatClampNeg]? = some (.double (own_D sc v0)) := Has.at H31 hin31 rfl
  refine own_Go.of (g' := (mkF m 62 #[.val (.ref o), .val (.double x1), .second, .val (.int (5 : Int32)), .val (.double (own_D (sc + 8) u6)), .second, .val (.int (1 : Int32))] [(.double (own_D sc v0)), (.int (1 : Int32)), (.ref b)])) (fun t k => X30.daload hx (j := (0 : Int32)) (v := (.double (own_D sc v0))) (by rw [e30]; exact Ar31.1) (State.isArrayOf_alike hZ.alike Ar31.2.1) Ar31.2.2 hin31 hat31 (g := (mkF m 61 #[.val (.ref o), .val (.double x1), .second, .val (.int (5 : Int32)), .val (.double (own_D (sc + 8) u6)), .second, .val (.int (1 : Int32))] [(.int (0 : Int32)), (.ref b), (.int (1 : Int32)), (.ref b)])) rfl rfl (hb hby d5_61) _ k) ?_
  refine og_dloadN (pc' := 63) X30 hx (hb hby d5_62) rfl rfl ?_
  obtain ⟨u32, hu32⟩ : ∃ q : Int, q = (v0 * pv) := ⟨_, rfl⟩
  have a32 : 0 ≤ u32 := by rw [hu32]; exact Int.mul_nonneg (by omega) (by omega)
  have z32 : u32 ≤ 4294967296 := by rw [hu32]; exact Int.le_trans (Int.mul_le_mul z_v0 z_pv (by omega) (by omega)) (by decide)
  have x32 : FP.dmul (own_D sc v0) x1 = own_D (sc + 8) u32 := own_xmul rfl hx1 hu32.symm rfl (by omega) (by omega) (by omega) (by omega) (by omega) (by omega)
  refine og_dmul (pc' := 64) X30 hx (hb hby d5_63) (own_nnx x32 (by omega) (by omega)) x32 rfl ?_
  obtain ⟨cl33, Ar33, q33, S33, M33, H33, G33⟩ := id V28
  have hin33 : ¬ ((1 : Int32) < 0 ∨ cl33.slots.size ≤ ((1 : Int32)).toNatClampNeg) := inb_of S33 ⟨by decide, by decide⟩
  obtain ⟨T33, h33, X33, e33, W33, st33⟩ := stD X30 hx hZ e30 Ar33 (j := (1 : Int32)) hin33 (g := (mkF m 64 #[.val (.ref o), .val (.double x1), .second, .val (.int (5 : Int32)), .val (.double (own_D (sc + 8) u6)), .second, .val (.int (1 : Int32))] [(.double (own_D (sc + 8) u32)), (.int (1 : Int32)), (.ref b)])) rfl rfl (hb hby d5_64)
  have V33 : Arv Z h33 b kk .double (5 : Int32) [(.double (own_D sc v0)), (.double (own_D (sc + 8) u32)), (.double (own_D (sc + 8) u27)), (.double (own_D (sc + 8) u22)), (.double (own_D (sc + 8) u17))] (.double (0 : UInt64)) := Arv.set Ar33 q33 S33 M33 H33 G33 rfl W33 1 rfl (Nat.le_of_ble_eq_true rfl)
  have f33_0 := f28_0.wr W33
  have f33_1 := f28_1.other W33 (Or.inl ne_ob)
  have f33_10 := f28_10.other W33 (Or.inl ne_ob)
  have K33 : Keep h0 h33 [o, b] := K28.wr W33 (Or.inl (List.mem_of_getElem? (i := 1) rfl))
  have Z33 : n0 ≤ h33.size := Nat.le_trans Z0 K33.1
  have N33 := Fr.snoc X33 N28 g_b
  obtain ⟨J33, X33, N33⟩ := own_hide X33 N33
  refine own_Go.of (g' := (mkF m 65 #[.val (.ref o), .val (.double x1), .second, .val (.int (5 : Int32)), .val (.double (own_D (sc + 8) u6)), .second, .val (.int (1 : Int32))] [])) (fun t k => st33 _ k) ?_
  refine og_iinc (pc' := 68) (L' := #[.val (.ref o), .val (.double x1), .second, .val (.int (5 : Int32)), .val (.double (own_D (sc + 8) u6)), .second, .val (.int ((1 : Int32) + (-1 : Int32)))]) X33 hx (hb hby d5_65) rfl rfl rfl ?_
  rw [show ((1 : Int32) + (-1 : Int32)) = (0 : Int32) from by decide]
  refine og_goto (pc' := 42) X33 hx (hb hby d5_68) (by decide) (by decide) ?_
  refine og_iload (pc' := 44) X33 hx (hb hby d5_42) rfl rfl ?_
  refine og_ifYes (pc' := 71) X33 hx (hb hby d5_44) ((if0 _ _).trans (flt (by decide)).2.2.2) (by decide) (by decide) ?_
  refine og_aloadN (pc' := 72) X33 hx (hb hby d5_71) rfl rfl rfl ?_
  obtain ⟨T34, X34, e34, st34⟩ := getF X33 hx hZ hown (host := "") (Or.inl (hw _ (List.mem_of_getElem? (i := 14) rfl))) Via.refl e33 f33_1 (g := (mkF m 72 #[.val (.ref o), .val (.double x1), .second, .val (.int (5 : Int32)), .val (.double (own_D (sc + 8) u6)), .second, .val (.int (0 : Int32))] [(.ref o)])) rfl rfl (hb hby d5_72)
  refine own_Go.of (g' := (mkF m 75 #[.val (.ref o), .val (.double x1), .second, .val (.int (5 : Int32)), .val (.double (own_D (sc + 8) u6)), .second, .val (.int (0 : Int32))] [(.ref b)])) (fun t k => st34 _ k) ?_
  refine og_iconst (pc' := 76) (n := 0) X34 hx (hb hby d5_75) rfl rfl ?_
  refine og_dload (pc' := 78) X34 hx (hb hby d5_76) rfl rfl ?_
  obtain ⟨cl35, Ar35, q35, S35, M35, H35, G35⟩ := id V33
  have hin35 : ¬ ((0 : Int32) < 0 ∨ cl35.slots.size ≤ ((0 : Int32)).toNatClampNeg) := inb_of S35 ⟨by decide, by decide⟩
  obtain ⟨T35, h35, X35, e35, W35, st35⟩ := stD X34 hx hZ e34 Ar35 (j := (0 : Int32)) hin35 (g := (mkF m 78 #[.val (.ref o), .val (.double x1), .second, .val (.int (5 : Int32)), .val (.double (own_D (sc + 8) u6)), .second, .val (.int (0 : Int32))] [(.double (own_D (sc + 8) u6)), (.int (0 : Int32)), (.ref b)])) rfl rfl (hb hby d5_78)
  have V35 : Arv Z h35 b kk .double (5 : Int32) [(.double (own_D (sc + 8) u6)), (.double (own_D (sc + 8) u32)), (.double (own_D (sc + 8) u27)), (.double (own_D (sc + 8) u22)), (.double (own_D (sc + 8) u17))] (.double (0 : UInt64)) := Arv.set Ar35 q35 S35 M35 H35 G35 rfl W35 0 rfl (Nat.le_of_ble_eq_true rfl)
  have f35_0 := f33_0.wr W35
  have f35_1 := f33_1.other W35 (Or.inl ne_ob)
  have f35_10 := f33_10.other W35 (Or.inl ne_ob)
  have K35 : Keep h0 h35 [o, b] := K33.wr W35 (Or.inl (List.mem_of_getElem? (i := 1) rfl))
  have Z35 : n0 ≤ h35.size := Nat.le_trans Z0 K35.1
  have N35 := Fr.snoc X35 N33 g_b
  obtain ⟨J35, X35, N35⟩ := own_hide X35 N35
  refine own_Go.of (g' := (mkF m 79 #[.val (.ref o), .val (.double x1), .second, .val (.int (5 : Int32)), .val (.double (own_D (sc + 8) u6)), .second, .val (.int (0 : Int32))] [])) (fun t k => st35 _ k) ?_
  obtain ⟨fs, hr, hrun, hended, hW, hsame⟩ := X35.leave (v := none) (fun _ => rfl) (BodyLoose.notSynchronized Bd)
  refine ⟨_, _, X35.returnOut hx Bd.returns (hb hby d5_79) hr, hrun, hended, none, _, rfl, ?_, ⟨_, rfl⟩, hW, hsame.mono (by decide) (by decide)⟩
  show Qadd5 Z o x1 b kk sc M pv mv v0 v1 v2 v3 v4 h0 n0 _ T35.heap _
  rw [e35]
  exact ⟨u12, u6, u32, u27, u22, u17, rfl, N35, K35, f35_0, f35_1, f35_10, V35, (by simp only [hu4, hu5, hu6, hu10, hu11, hu12, hu17, hu22, hu27, hu32]), (by simp only [hu4, hu5, hu6, hu10, hu11, hu12, hu17, hu22, hu27, hu32]), (by simp only [hu4, hu5, hu6, hu10, hu11, hu12, hu17, hu22, hu27, hu32]), (by simp only [hu4, hu5, hu6, hu10, hu11, hu12, hu17, hu22, hu27, hu32]), (by simp only [hu4, hu5, hu6, hu10, hu11, hu12, hu17, hu22, hu27, hu32]), (by simp only [hu4, hu5, hu6, hu10, hu11, hu12, hu17, hu22, hu27, hu32])⟩

theorem own_inv1 {M mv pv nm v0 w0 : Int} (hp : 0 ≤ pv ∧ pv ≤ 256) (hl : 0 ≤ mv ∧ 0 ≤ v0) (hs : mv + v0 = M) (e : nm = (mv * 256) + (v0 * pv)) (f0 : w0 = (M - mv) * (256 - pv)) : (0 ≤ nm ∧ 0 ≤ w0) ∧ nm + w0 = M * 256 := by
  obtain ⟨l0, l1⟩ := hl
  have t1 := Int.mul_nonneg l1 hp.1
  have c0 : 0 ≤ (M - mv) * (256 - pv) := Int.mul_nonneg (by omega) (by omega)
  refine ⟨⟨by omega, by omega⟩, ?_⟩
  rw [e, f0, ← hs]
  grind
theorem own_inv2 {M mv pv nm v0 v1 w0 w1 : Int} (hp : 0 ≤ pv ∧ pv ≤ 256) (hl : 0 ≤ mv ∧ 0 ≤ v0 ∧ 0 ≤ v1) (hs : mv + v0 + v1 = M) (e : nm = (mv * 256) + (v1 * pv)) (f0 : w0 = (M - mv) * (256 - pv)) (f1 : w1 = v0 * pv) : (0 ≤ nm ∧ 0 ≤ w0 ∧ 0 ≤ w1) ∧ nm + w0 + w1 = M * 256 := by
  obtain ⟨l0, l1, l2⟩ := hl
  have t2 := Int.mul_nonneg l2 hp.1
  have t1 := Int.mul_nonneg l1 hp.1
  have c0 : 0 ≤ (M - mv) * (256 - pv) := Int.mul_nonneg (by omega) (by omega)
  refine ⟨⟨by omega, by omega, by omega⟩, ?_⟩
  rw [e, f0, f1, ← hs]
  grind
theorem own_inv3 {M mv pv nm v0 v1 v2 w0 w1 w2 : Int} (hp : 0 ≤ pv ∧ pv ≤ 256) (hl : 0 ≤ mv ∧ 0 ≤ v0 ∧ 0 ≤ v1 ∧ 0 ≤ v2) (hs : mv + v0 + v1 + v2 = M) (e : nm = (mv * 256) + (v2 * pv)) (f0 : w0 = (M - mv) * (256 - pv)) (f1 : w1 = v0 * pv) (f2 : w2 = v1 * pv) : (0 ≤ nm ∧ 0 ≤ w0 ∧ 0 ≤ w1 ∧ 0 ≤ w2) ∧ nm + w0 + w1 + w2 = M * 256 := by
  obtain ⟨l0, l1, l2, l3⟩ := hl
  have t3 := Int.mul_nonneg l3 hp.1
  have t1 := Int.mul_nonneg l1 hp.1
  have t2 := Int.mul_nonneg l2 hp.1
  have c0 : 0 ≤ (M - mv) * (256 - pv) := Int.mul_nonneg (by omega) (by omega)
  refine ⟨⟨by omega, by omega, by omega, by omega⟩, ?_⟩
  rw [e, f0, f1, f2, ← hs]
  grind
theorem own_inv4 {M mv pv nm v0 v1 v2 v3 w0 w1 w2 w3 : Int} (hp : 0 ≤ pv ∧ pv ≤ 256) (hl : 0 ≤ mv ∧ 0 ≤ v0 ∧ 0 ≤ v1 ∧ 0 ≤ v2 ∧ 0 ≤ v3) (hs : mv + v0 + v1 + v2 + v3 = M) (e : nm = (mv * 256) + (v3 * pv)) (f0 : w0 = (M - mv) * (256 - pv)) (f1 : w1 = v0 * pv) (f2 : w2 = v1 * pv) (f3 : w3 = v2 * pv) : (0 ≤ nm ∧ 0 ≤ w0 ∧ 0 ≤ w1 ∧ 0 ≤ w2 ∧ 0 ≤ w3) ∧ nm + w0 + w1 + w2 + w3 = M * 256 := by
  obtain ⟨l0, l1, l2, l3, l4⟩ := hl
  have t4 := Int.mul_nonneg l4 hp.1
  have t1 := Int.mul_nonneg l1 hp.1
  have t2 := Int.mul_nonneg l2 hp.1
  have t3 := Int.mul_nonneg l3 hp.1
  have c0 : 0 ≤ (M - mv) * (256 - pv) := Int.mul_nonneg (by omega) (by omega)
  refine ⟨⟨by omega, by omega, by omega, by omega, by omega⟩, ?_⟩
  rw [e, f0, f1, f2, f3, ← hs]
  grind
theorem own_inv5 {M mv pv nm v0 v1 v2 v3 v4 w0 w1 w2 w3 w4 : Int} (hp : 0 ≤ pv ∧ pv ≤ 256) (hl : 0 ≤ mv ∧ 0 ≤ v0 ∧ 0 ≤ v1 ∧ 0 ≤ v2 ∧ 0 ≤ v3 ∧ 0 ≤ v4) (hs : mv + v0 + v1 + v2 + v3 + v4 = M) (e : nm = (mv * 256) + (v4 * pv)) (f0 : w0 = (M - mv) * (256 - pv)) (f1 : w1 = v0 * pv) (f2 : w2 = v1 * pv) (f3 : w3 = v2 * pv) (f4 : w4 = v3 * pv) : (0 ≤ nm ∧ 0 ≤ w0 ∧ 0 ≤ w1 ∧ 0 ≤ w2 ∧ 0 ≤ w3 ∧ 0 ≤ w4) ∧ nm + w0 + w1 + w2 + w3 + w4 = M * 256 := by
  obtain ⟨l0, l1, l2, l3, l4, l5⟩ := hl
  have t5 := Int.mul_nonneg l5 hp.1
  have t1 := Int.mul_nonneg l1 hp.1
  have t2 := Int.mul_nonneg l2 hp.1
  have t3 := Int.mul_nonneg l3 hp.1
  have t4 := Int.mul_nonneg l4 hp.1
  have c0 : 0 ≤ (M - mv) * (256 - pv) := Int.mul_nonneg (by omega) (by omega)
  refine ⟨⟨by omega, by omega, by omega, by omega, by omega, by omega⟩, ?_⟩
  rw [e, f0, f1, f2, f3, f4, ← hs]
  grind
theorem own_res0 (k : Nat) (v : Int) : own_D k v = own_D (k + 0) (v * 1) := by
  rw [Int.mul_one, Nat.add_zero]
theorem own_res1 (k : Nat) (v : Int) : own_D k v = own_D (k + 8) (v * 256) := by
  rw [own_res0 k v, own_resc, Int.mul_assoc]; rfl
theorem own_res2 (k : Nat) (v : Int) : own_D k v = own_D (k + 16) (v * 65536) := by
  rw [own_res1 k v, own_resc, Int.mul_assoc]; rfl
theorem own_res3 (k : Nat) (v : Int) : own_D k v = own_D (k + 24) (v * 16777216) := by
  rw [own_res2 k v, own_resc, Int.mul_assoc]; rfl
theorem own_res4 (k : Nat) (v : Int) : own_D k v = own_D (k + 32) (v * 4294967296) := by
  rw [own_res3 k v, own_resc, Int.mul_assoc]; rfl
theorem own_cmpE {a b : UInt64} {k l : Nat} {v w : Int} (ha : a = own_D k v) (hb : b = own_D l w) (e : v = w) (hk : k = l ∧ k ≤ 100) (hv : v.natAbs ≤ 2 ^ 53) : cmpValue (FP.dcmp a b) .l = 0 := by
  obtain ⟨rfl, hk⟩ := hk
  subst e
  rw [ha, hb]
  exact dcmpV_self (own_nn hk hv) _
theorem own_c8 {x k : Int32} (h : (((x &&& (7 : Int32)) % (5 : Int32)) + (1 : Int32)) = k) : 1 ≤ k.toInt ∧ k.toInt ≤ 5 := by
  have q := c_mask x (7 : Int32) 3 (by decide) (by decide)
  have e : ((2 ^ 3 : Nat) : Int) = 8 := by decide
  have e1 : (1 : Int32).toInt = 1 := by decide
  rw [e] at q
  have q1 := (c_irem (x &&& (7 : Int32)) (5 : Int32) 5 (by decide)).1 (by omega)
  have q2 := c_iadd ((x &&& (7 : Int32)) % (5 : Int32)) (1 : Int32)
  have r := rng32 (((x &&& (7 : Int32)) % (5 : Int32)) + (1 : Int32))
  rw [e1] at q2
  rw [← h]
  omega
theorem own_kr {x k : Int32} (h : (((x &&& (7 : Int32)) % (5 : Int32)) + (1 : Int32)) = k) : k = (1 : Int32) ∨ k = (2 : Int32) ∨ k = (3 : Int32) ∨ k = (4 : Int32) ∨ k = (5 : Int32) := by
  have r := own_c8 h
  have e1 : (1 : Int32).toInt = 1 := by decide
  have e2 : (2 : Int32).toInt = 2 := by decide
  have e3 : (3 : Int32).toInt = 3 := by decide
  have e4 : (4 : Int32).toInt = 4 := by decide
  have e5 : (5 : Int32).toInt = 5 := by decide
  simp only [← Int32.toInt_inj, e1, e2, e3, e4, e5]
  omega
theorem own_ltt {n a b : Int32} (h : n < a) (q : a.toInt ≤ b.toInt) : n < b := by
  rw [Int32.lt_iff_toInt_lt] at h ⊢
  omega

theorem pn0 : plainName "com/example/paranhos/paranhos/MatchRunsAddPinLaw" = true := by first | (simp [plainName, overriddenIn]; done) | decide +kernel
theorem pd_0 : parseMethodDescriptor "(III)D" = some ⟨[.int, .int, .int], some .double⟩ := by decide +kernel
theorem pd_1 : parseMethodDescriptor "(I)V" = some ⟨[.int], none⟩ := by decide +kernel
theorem pd_2 : parseMethodDescriptor "()D" = some ⟨[], some .double⟩ := by decide +kernel
theorem pd_3 : parseMethodDescriptor "(D)V" = some ⟨[.double], none⟩ := by decide +kernel
theorem ef0 (m : MethodId) (z0 : Int32) (z1 : Int32) (z2 : Int32) (z3 : Int32) (z4 : Int32) : entryFrame m #[(.int z0), (.int z1), (.int z2), (.int z3), (.int z4)] maxLocals = mkF m 0 #[.val (.int z0), .val (.int z1), .val (.int z2), .val (.int z3), .val (.int z4), .unset, .unset, .unset, .unset, .unset, .unset, .unset, .unset, .unset, .unset, .unset, .unset, .unset] [] := by first | (simp [entryFrame, mkF, argsToLocals, Value.category, maxLocals]; done) | rfl
def Q0 (Z : State) (x0 : Int32) (x1 : Int32) (x2 : Int32) (x3 : Int32) (x4 : Int32) (h0 : Heap) (n0 : Nat) (v : Option Value) (h : Heap) (L : List Loc) : Prop := v = some (.int 1) ∧ Fr n0 L
set_option maxRecDepth 65536 in
set_option maxHeartbeats 40000000 in
theorem rm0 (l : Launch) (Z : State) (a0 : Array Value) (hw : ∀ d ∈ tables_1, d.before a0 Z = true) (ws : List Jvm.Cond) (x0 : Int32) (x1 : Int32) (x2 : Int32) (x3 : Int32) (x4 : Int32) (h0 : Heap) (n0 : Nat) (Z0 : n0 ≤ h0.size) :
    MetFree l x (head1 (Jvm.Cond.code x code maxLocals ret :: ws) room_1) (fun ag U => ag = #[(.int x0), (.int x1), (.int x2), (.int x3), (.int x4)] ∧ Z.Warmed39 U.vm ∧ U.heap = h0) (fun _ _ _ _ _ => True) (fun _ U oc U' => ∃ v L, oc = .returned v ∧ Q0 Z x0 x1 x2 x3 x4 h0 n0 v U'.heap L ∧ FrameEnd U oc U' L room_1.cells room_1.slots) := by
  refine MetFree.of_bodySF (plainFor_of_name pn0) hisR ?_
  intro p e s m args below meth c s₁ Bd hml0 hP hK
  obtain ⟨rfl, hZ, hh⟩ := hP
  have hx := Bd.exec
  have hby := Bd.bytes
  have hml : c.maxLocals = 18 := hml0
  have hown : s.vm.findClass "com/example/paranhos/paranhos/MatchRunsAddPinLaw" = some m.cls := findClass_of_methodNamed Bd.named
  have hnm := (name_of_methodNamed Bd.named Bd.method).1
  have X0 : Stand p l e room_1 s m #[(.int x0), (.int x1), (.int x2), (.int x3), (.int x4)] below meth c s₁ [] 0 0 := Stand.of_body Bd
  have e0 : s₁.heap = h0 := by rw [← hh, Bd.state]; rfl
  have N0 := Fr.nil n0
  show own_Go p e below (fun s₂ oc => ∃ v L, oc = .returned v ∧ Q0 Z x0 x1 x2 x3 x4 h0 n0 v s₂.heap L ∧ FrameEnd s oc s₂ L room_1.cells room_1.slots) s₁ (entryFrame m #[(.int x0), (.int x1), (.int x2), (.int x3), (.int x4)] maxLocals)
  refine own_Go.of (g' := mkF m 0 #[.val (.int x0), .val (.int x1), .val (.int x2), .val (.int x3), .val (.int x4), .unset, .unset, .unset, .unset, .unset, .unset, .unset, .unset, .unset, .unset, .unset, .unset, .unset] []) (fun t k => castTop (ef0 m x0 x1 x2 x3 x4) k) ?_
  refine og_iloadN (pc' := 1) X0 hx (hb hby at_0) rfl rfl ?_
  refine og_bipush (pc' := 3) (n := 7) X0 hx (hb hby at_1) rfl rfl ?_
  refine og_iand (pc' := 4) X0 hx (hb hby at_3) rfl ?_
  refine og_iconst (pc' := 5) (n := 5) X0 hx (hb hby at_4) rfl rfl ?_
  refine og_irem (pc' := 6) X0 hx (hb hby at_5) (by decide) rfl ?_
  refine og_iconst (pc' := 7) (n := 1) X0 hx (hb hby at_6) rfl rfl ?_
  refine og_iadd (pc' := 8) X0 hx (hb hby at_7) rfl ?_
  generalize hkv : (((x0 &&& (7 : Int32)) % (5 : Int32)) + (1 : Int32)) = kv
  refine og_istore (pc' := 10) (L' := #[.val (.int x0), .val (.int x1), .val (.int x2), .val (.int x3), .val (.int x4), .val (.int kv), .unset, .unset, .unset, .unset, .unset, .unset, .unset, .unset, .unset, .unset, .unset, .unset]) X0 hx (hb hby at_8) rfl rfl ?_
  refine og_iloadN (pc' := 11) X0 hx (hb hby at_10) rfl rfl ?_
  refine og_iconst (pc' := 12) (n := 3) X0 hx (hb hby at_11) rfl rfl ?_
  refine og_iushr (pc' := 13) X0 hx (hb hby at_12) rfl ?_
  refine og_bipush (pc' := 15) (n := 7) X0 hx (hb hby at_13) rfl rfl ?_
  refine og_iand (pc' := 16) X0 hx (hb hby at_15) rfl ?_
  refine og_iconst (pc' := 17) (n := 5) X0 hx (hb hby at_16) rfl rfl ?_
  refine og_irem (pc' := 18) X0 hx (hb hby at_17) (by decide) rfl ?_
  generalize hnv : ((((x0.toUInt32 >>> ((3 : Int32) &&& 31).toUInt32).toInt32) &&& (7 : Int32)) % (5 : Int32)) = nv
  refine og_istore (pc' := 20) (L' := #[.val (.int x0), .val (.int x1), .val (.int x2), .val (.int x3), .val (.int x4), .val (.int kv), .val (.int nv), .unset, .unset, .unset, .unset, .unset, .unset, .unset, .unset, .unset, .unset, .unset]) X0 hx (hb hby at_18) rfl rfl ?_
  refine og_iloadN (pc' := 21) X0 hx (hb hby at_20) rfl rfl ?_
  refine og_iload (pc' := 23) X0 hx (hb hby at_21) rfl rfl ?_
  refine og_iconst (pc' := 24) (n := 1) X0 hx (hb hby at_23) rfl rfl ?_
  obtain ⟨_, _, ⟨T1, L1, k1, n1⟩, -, X1, ⟨Lc1, hQ1, l1, y1, z1⟩, st1⟩ := Jvm.LawKit.callS X0 hx (y := (⟨"com/example/paranhos/paranhos/MatchRunsAddPinLaw", "fill", "(III)D"⟩ : MethodName)) hown (mvT hZ (hw _ (List.mem_of_getElem? (i := 0) rfl))) (mvT hZ (hw _ (List.mem_of_getElem? (i := 1) rfl))) (mvT hZ (hw _ (List.mem_of_getElem? (i := 2) rfl))) (mvT hZ (hw _ (List.mem_of_getElem? (i := 3) rfl))) (by decide) (backOf (W := 0) (rmfill l Z a0 hw [] x1 nv (1 : Int32) h0 n0 Z0 ) hZ (hw _ (List.mem_of_getElem? (i := 3) rfl)) (hw _ (List.mem_of_getElem? (i := 2) rfl)) (by decide) (by decide)) (g := (mkF m 24 #[.val (.int x0), .val (.int x1), .val (.int x2), .val (.int x3), .val (.int x4), .val (.int kv), .val (.int nv), .unset, .unset, .unset, .unset, .unset, .unset, .unset, .unset, .unset, .unset, .unset] [(.int (1 : Int32)), (.int nv), (.int x1)])) rfl (by rw [hml]; rfl) (argsL := [(.int x1), (.int nv), (.int (1 : Int32))]) (rest := []) (lenOf pd_0 rfl) rfl (by show 2 * 0 + _ ≤ _; exact Nat.le_of_eq rfl) (hb hby at_24) (fun _ _ => ⟨rfl, e0, (by decide : 0 + 0 ≤ _), (by decide : 0 + 0 ≤ _)⟩)
  dsimp only [Pt.U, Pt.locs, Pt.cells, Pt.slots] at X1 l1 y1 z1 st1 hQ1
  subst l1 y1 z1
  obtain ⟨rfl, N1q, e1⟩ := hQ1
  have N1 := Fr.app N0 N1q
  obtain ⟨J1, X1, N1⟩ := own_hide X1 N1
  refine own_Go.of (g' := (mkF m 27 #[.val (.int x0), .val (.int x1), .val (.int x2), .val (.int x3), .val (.int x4), .val (.int kv), .val (.int nv), .unset, .unset, .unset, .unset, .unset, .unset, .unset, .unset, .unset, .unset, .unset] [(.double (own_D 8 (own_fv x1 nv (1 : Int32))))])) (fun t k => st1 _ k) ?_
  obtain ⟨q1, hq1⟩ : ∃ z : Int, z = (own_fv x1 nv (1 : Int32)) := ⟨_, rfl⟩
  rw [← hq1]
  have r_q1 := own_fvr x1 nv (1 : Int32)
  rw [← hq1] at r_q1
  obtain ⟨a_q1, z_q1⟩ := r_q1
  refine og_dstore (pc' := 29) (L' := #[.val (.int x0), .val (.int x1), .val (.int x2), .val (.int x3), .val (.int x4), .val (.int kv), .val (.int nv), .val (.double (own_D 8 q1)), .second, .unset, .unset, .unset, .unset, .unset, .unset, .unset, .unset, .unset]) X1 hx (hb hby at_27) rfl rfl ?_
  refine og_iloadN (pc' := 30) X1 hx (hb hby at_29) rfl rfl ?_
  refine og_iload (pc' := 32) X1 hx (hb hby at_30) rfl rfl ?_
  refine og_iconst (pc' := 33) (n := 2) X1 hx (hb hby at_32) rfl rfl ?_
  obtain ⟨_, _, ⟨T2, L2, k2, n2⟩, -, X2, ⟨Lc2, hQ2, l2, y2, z2⟩, st2⟩ := Jvm.LawKit.callS X1 hx (y := (⟨"com/example/paranhos/paranhos/MatchRunsAddPinLaw", "fill", "(III)D"⟩ : MethodName)) hown (mvT hZ (hw _ (List.mem_of_getElem? (i := 0) rfl))) (mvT hZ (hw _ (List.mem_of_getElem? (i := 1) rfl))) (mvT hZ (hw _ (List.mem_of_getElem? (i := 2) rfl))) (mvT hZ (hw _ (List.mem_of_getElem? (i := 3) rfl))) (by decide) (backOf (W := 0) (rmfill l Z a0 hw [] x2 nv (2 : Int32) h0 n0 Z0 ) hZ (hw _ (List.mem_of_getElem? (i := 3) rfl)) (hw _ (List.mem_of_getElem? (i := 2) rfl)) (by decide) (by decide)) (g := (mkF m 33 #[.val (.int x0), .val (.int x1), .val (.int x2), .val (.int x3), .val (.int x4), .val (.int kv), .val (.int nv), .val (.double (own_D 8 q1)), .second, .unset, .unset, .unset, .unset, .unset, .unset, .unset, .unset, .unset] [(.int (2 : Int32)), (.int nv), (.int x2)])) rfl (by rw [hml]; rfl) (argsL := [(.int x2), (.int nv), (.int (2 : Int32))]) (rest := []) (lenOf pd_0 rfl) rfl (by show 2 * 0 + _ ≤ _; exact Nat.le_of_eq rfl) (hb hby at_33) (fun _ _ => ⟨rfl, e1, (by decide : 0 + 0 ≤ _), (by decide : 0 + 0 ≤ _)⟩)
  dsimp only [Pt.U, Pt.locs, Pt.cells, Pt.slots] at X2 l2 y2 z2 st2 hQ2
  subst l2 y2 z2
  obtain ⟨rfl, N2q, e2⟩ := hQ2
  have N2 := Fr.app N1 N2q
  obtain ⟨J2, X2, N2⟩ := own_hide X2 N2
  refine own_Go.of (g' := (mkF m 36 #[.val (.int x0), .val (.int x1), .val (.int x2), .val (.int x3), .val (.int x4), .val (.int kv), .val (.int nv), .val (.double (own_D 8 q1)), .second, .unset, .unset, .unset, .unset, .unset, .unset, .unset, .unset, .unset] [(.double (own_D 8 (own_fv x2 nv (2 : Int32))))])) (fun t k => st2 _ k) ?_
  obtain ⟨q2, hq2⟩ : ∃ z : Int, z = (own_fv x2 nv (2 : Int32)) := ⟨_, rfl⟩
  rw [← hq2]
  have r_q2 := own_fvr x2 nv (2 : Int32)
  rw [← hq2] at r_q2
  obtain ⟨a_q2, z_q2⟩ := r_q2
  refine og_dstore (pc' := 38) (L' := #[.val (.int x0), .val (.int x1), .val (.int x2), .val (.int x3), .val (.int x4), .val (.int kv), .val (.int nv), .val (.double (own_D 8 q1)), .second, .val (.double (own_D 8 q2)), .second, .unset, .unset, .unset, .unset, .unset, .unset, .unset]) X2 hx (hb hby at_36) rfl rfl ?_
  refine og_iloadN (pc' := 39) X2 hx (hb hby at_38) rfl rfl ?_
  refine og_iload (pc' := 41) X2 hx (hb hby at_39) rfl rfl ?_
  refine og_iconst (pc' := 42) (n := 3) X2 hx (hb hby at_41) rfl rfl ?_
  obtain ⟨_, _, ⟨T3, L3, k3, n3⟩, -, X3, ⟨Lc3, hQ3, l3, y3, z3⟩, st3⟩ := Jvm.LawKit.callS X2 hx (y := (⟨"com/example/paranhos/paranhos/MatchRunsAddPinLaw", "fill", "(III)D"⟩ : MethodName)) hown (mvT hZ (hw _ (List.mem_of_getElem? (i := 0) rfl))) (mvT hZ (hw _ (List.mem_of_getElem? (i := 1) rfl))) (mvT hZ (hw _ (List.mem_of_getElem? (i := 2) rfl))) (mvT hZ (hw _ (List.mem_of_getElem? (i := 3) rfl))) (by decide) (backOf (W := 0) (rmfill l Z a0 hw [] x3 nv (3 : Int32) h0 n0 Z0 ) hZ (hw _ (List.mem_of_getElem? (i := 3) rfl)) (hw _ (List.mem_of_getElem? (i := 2) rfl)) (by decide) (by decide)) (g := (mkF m 42 #[.val (.int x0), .val (.int x1), .val (.int x2), .val (.int x3), .val (.int x4), .val (.int kv), .val (.int nv), .val (.double (own_D 8 q1)), .second, .val (.double (own_D 8 q2)), .second, .unset, .unset, .unset, .unset, .unset, .unset, .unset] [(.int (3 : Int32)), (.int nv), (.int x3)])) rfl (by rw [hml]; rfl) (argsL := [(.int x3), (.int nv), (.int (3 : Int32))]) (rest := []) (lenOf pd_0 rfl) rfl (by show 2 * 0 + _ ≤ _; exact Nat.le_of_eq rfl) (hb hby at_42) (fun _ _ => ⟨rfl, e2, (by decide : 0 + 0 ≤ _), (by decide : 0 + 0 ≤ _)⟩)
  dsimp only [Pt.U, Pt.locs, Pt.cells, Pt.slots] at X3 l3 y3 z3 st3 hQ3
  subst l3 y3 z3
  obtain ⟨rfl, N3q, e3⟩ := hQ3
  have N3 := Fr.app N2 N3q
  obtain ⟨J3, X3, N3⟩ := own_hide X3 N3
  refine own_Go.of (g' := (mkF m 45 #[.val (.int x0), .val (.int x1), .val (.int x2), .val (.int x3), .val (.int x4), .val (.int kv), .val (.int nv), .val (.double (own_D 8 q1)), .second, .val (.double (own_D 8 q2)), .second, .unset, .unset, .unset, .unset, .unset, .unset, .unset] [(.double (own_D 8 (own_fv x3 nv (3 : Int32))))])) (fun t k => st3 _ k) ?_
  obtain ⟨q3, hq3⟩ : ∃ z : Int, z = (own_fv x3 nv (3 : Int32)) := ⟨_, rfl⟩
  rw [← hq3]
  have r_q3 := own_fvr x3 nv (3 : Int32)
  rw [← hq3] at r_q3
  obtain ⟨a_q3, z_q3⟩ := r_q3
  refine og_dstore (pc' := 47) (L' := #[.val (.int x0), .val (.int x1), .val (.int x2), .val (.int x3), .val (.int x4), .val (.int kv), .val (.int nv), .val (.double (own_D 8 q1)), .second, .val (.double (own_D 8 q2)), .second, .val (.double (own_D 8 q3)), .second, .unset, .unset, .unset, .unset, .unset]) X3 hx (hb hby at_45) rfl rfl ?_
  refine og_iload (pc' := 49) X3 hx (hb hby at_47) rfl rfl ?_
  refine og_iload (pc' := 51) X3 hx (hb hby at_49) rfl rfl ?_
  refine og_iconst (pc' := 52) (n := 4) X3 hx (hb hby at_51) rfl rfl ?_
  obtain ⟨_, _, ⟨T4, L4, k4, n4⟩, -, X4, ⟨Lc4, hQ4, l4, y4, z4⟩, st4⟩ := Jvm.LawKit.callS X3 hx (y := (⟨"com/example/paranhos/paranhos/MatchRunsAddPinLaw", "fill", "(III)D"⟩ : MethodName)) hown (mvT hZ (hw _ (List.mem_of_getElem? (i := 0) rfl))) (mvT hZ (hw _ (List.mem_of_getElem? (i := 1) rfl))) (mvT hZ (hw _ (List.mem_of_getElem? (i := 2) rfl))) (mvT hZ (hw _ (List.mem_of_getElem? (i := 3) rfl))) (by decide) (backOf (W := 0) (rmfill l Z a0 hw [] x4 nv (4 : Int32) h0 n0 Z0 ) hZ (hw _ (List.mem_of_getElem? (i := 3) rfl)) (hw _ (List.mem_of_getElem? (i := 2) rfl)) (by decide) (by decide)) (g := (mkF m 52 #[.val (.int x0), .val (.int x1), .val (.int x2), .val (.int x3), .val (.int x4), .val (.int kv), .val (.int nv), .val (.double (own_D 8 q1)), .second, .val (.double (own_D 8 q2)), .second, .val (.double (own_D 8 q3)), .second, .unset, .unset, .unset, .unset, .unset] [(.int (4 : Int32)), (.int nv), (.int x4)])) rfl (by rw [hml]; rfl) (argsL := [(.int x4), (.int nv), (.int (4 : Int32))]) (rest := []) (lenOf pd_0 rfl) rfl (by show 2 * 0 + _ ≤ _; exact Nat.le_of_eq rfl) (hb hby at_52) (fun _ _ => ⟨rfl, e3, (by decide : 0 + 0 ≤ _), (by decide : 0 + 0 ≤ _)⟩)
  dsimp only [Pt.U, Pt.locs, Pt.cells, Pt.slots] at X4 l4 y4 z4 st4 hQ4
  subst l4 y4 z4
  obtain ⟨rfl, N4q, e4⟩ := hQ4
  have N4 := Fr.app N3 N4q
  obtain ⟨J4, X4, N4⟩ := own_hide X4 N4
  refine own_Go.of (g' := (mkF m 55 #[.val (.int x0), .val (.int x1), .val (.int x2), .val (.int x3), .val (.int x4), .val (.int kv), .val (.int nv), .val (.double (own_D 8 q1)), .second, .val (.double (own_D 8 q2)), .second, .val (.double (own_D 8 q3)), .second, .unset, .unset, .unset, .unset, .unset] [(.double (own_D 8 (own_fv x4 nv (4 : Int32))))])) (fun t k => st4 _ k) ?_
  obtain ⟨q4, hq4⟩ : ∃ z : Int, z = (own_fv x4 nv (4 : Int32)) := ⟨_, rfl⟩
  rw [← hq4]
  have r_q4 := own_fvr x4 nv (4 : Int32)
  rw [← hq4] at r_q4
  obtain ⟨a_q4, z_q4⟩ := r_q4
  refine og_dstore (pc' := 57) (L' := #[.val (.int x0), .val (.int x1), .val (.int x2), .val (.int x3), .val (.int x4), .val (.int kv), .val (.int nv), .val (.double (own_D 8 q1)), .second, .val (.double (own_D 8 q2)), .second, .val (.double (own_D 8 q3)), .second, .val (.double (own_D 8 q4)), .second, .unset, .unset, .unset]) X4 hx (hb hby at_55) rfl rfl ?_
  have rk := own_kr hkv
  rcases rk with ek | ek | ek | ek | ek
  · rw [ek]
    obtain ⟨T5, h5, X5, e5, E5, A5, D5, -, st5⟩ := newO X4 hx hZ hown (hw _ (List.mem_of_getElem? (i := 4) rfl)) (hw _ (List.mem_of_getElem? (i := 5) rfl)) (hw _ (List.mem_of_getElem? (i := 6) rfl)) e4 (g := (mkF m 57 #[.val (.int x0), .val (.int x1), .val (.int x2), .val (.int x3), .val (.int x4), .val (.int (1 : Int32)), .val (.int nv), .val (.double (own_D 8 q1)), .second, .val (.double (own_D 8 q2)), .second, .val (.double (own_D 8 q3)), .second, .val (.double (own_D 8 q4)), .second, .unset, .unset, .unset] [])) rfl (hb hby at_57) (by decide) (by decide)
    obtain ⟨b5, g5⟩ : ∃ z, z = h0.size := ⟨_, rfl⟩
    rw [← g5] at A5 D5 st5
    have g_b5 : n0 ≤ b5 := Nat.le_trans Z0 (Nat.le_of_eq g5.symm)
    have sz_b5 : h0.size ≤ b5 := Nat.le_trans (Keep.refl h0 []).1 (Nat.le_of_eq g5.symm)
    have F5_run : Fld Z h5 b5 "com/example/paranhos/paranhos/MatchRuns" "run" "[D" .null := D5 (Or.inr (hw _ (List.mem_of_getElem? (i := 15) rfl))) (ty := (.array .double)) (by decide)
    have F5_matched : Fld Z h5 b5 "com/example/paranhos/paranhos/MatchRuns" "matched" "D" (.double (0 : UInt64)) := D5 (Or.inl (hw _ (List.mem_of_getElem? (i := 22) rfl))) (ty := .double) (by decide)
    have K5 : Keep h0 h5 [] := (Keep.refl h0 []).ext E5
    have Z5 : n0 ≤ h5.size := Nat.le_trans Z0 K5.1
    refine own_Go.of (g' := (mkF m 60 #[.val (.int x0), .val (.int x1), .val (.int x2), .val (.int x3), .val (.int x4), .val (.int (1 : Int32)), .val (.int nv), .val (.double (own_D 8 q1)), .second, .val (.double (own_D 8 q2)), .second, .val (.double (own_D 8 q3)), .second, .val (.double (own_D 8 q4)), .second, .unset, .unset, .unset] [(.ref b5)])) (fun t k => st5 _ k) ?_
    refine og_dup (pc' := 61) X5 hx (hb hby at_60) rfl rfl ?_
    refine og_iload (pc' := 63) X5 hx (hb hby at_61) rfl rfl ?_
    obtain ⟨_, _, ⟨T6, L6, k6, n6⟩, -, X6, ⟨Lc6, hQ6, l6, y6, z6⟩, st6⟩ := X5.specialBack hx (y := (⟨"com/example/paranhos/paranhos/MatchRuns", "<init>", "(I)V"⟩ : MethodName)) rfl hown (mvT hZ (hw _ (List.mem_of_getElem? (i := 7) rfl))) (mvT hZ (hw _ (List.mem_of_getElem? (i := 8) rfl))) (mvT hZ (hw _ (List.mem_of_getElem? (i := 9) rfl))) (by decide) (backOf (W := 1) (rmini1 l Z a0 hw [] b5 .null h5 n0 Z5 A5 F5_run F5_matched g_b5) hZ (hw _ (List.mem_of_getElem? (i := 9) rfl)) (hw _ (List.mem_of_getElem? (i := 6) rfl)) (by decide) (by decide)) (g := (mkF m 63 #[.val (.int x0), .val (.int x1), .val (.int x2), .val (.int x3), .val (.int x4), .val (.int (1 : Int32)), .val (.int nv), .val (.double (own_D 8 q1)), .second, .val (.double (own_D 8 q2)), .second, .val (.double (own_D 8 q3)), .second, .val (.double (own_D 8 q4)), .second, .unset, .unset, .unset] [(.int (1 : Int32)), (.ref b5), (.ref b5)])) rfl (by rw [hml]; rfl) (Steps.refl _) (a := b5) (argsL := [(.int (1 : Int32))]) (rest := [(.ref b5)]) (lenOf pd_1 rfl) rfl (by show 2 * 0 + _ ≤ _; exact Nat.le_of_eq rfl) (hb hby at_63) (fun _ _ => ⟨rfl, e5, (by decide : 1 + 1 ≤ _), (by decide : 2 + 1 ≤ _)⟩)
    dsimp only [Pt.U, Pt.locs, Pt.cells, Pt.slots] at X6 l6 y6 z6 st6 hQ6
    subst l6 y6 z6
    obtain ⟨b_6, kk_6, rfl, N6q, K6q, zz6_b, c6_0, c6_1, c6_2, c6_3⟩ := hQ6
    have N6 := Fr.app N4 N6q
    obtain ⟨J6, X6, N6⟩ := own_hide X6 N6
    have g_b_6 : n0 ≤ b_6 := Nat.le_trans Z5 zz6_b
    have sz_b_6 : h0.size ≤ b_6 := Nat.le_trans K5.1 zz6_b
    have ne6_0 : b5 ≠ b_6 := Nat.ne_of_lt (Nat.lt_of_lt_of_le A5.lt zz6_b)
    have f6_0 := A5.keep K6q
    have K6 : Keep h0 T6.heap [] := K5.trans K6q (allS (Or.inr sz_b5) all0)
    have Z6 : n0 ≤ T6.heap.size := Nat.le_trans Z0 K6.1
    refine own_Go.of (g' := (mkF m 66 #[.val (.int x0), .val (.int x1), .val (.int x2), .val (.int x3), .val (.int x4), .val (.int (1 : Int32)), .val (.int nv), .val (.double (own_D 8 q1)), .second, .val (.double (own_D 8 q2)), .second, .val (.double (own_D 8 q3)), .second, .val (.double (own_D 8 q4)), .second, .unset, .unset, .unset] [(.ref b5)])) (fun t k => st6.trans k) ?_
    have FM0 : Fld Z T6.heap b5 "com/example/paranhos/paranhos/MatchRuns" "matched" "D" (.double (own_D 0 0)) := by rw [own_z0]; exact c6_2
    have VM0 : Arv Z T6.heap b_6 kk_6 .double (1 : Int32) [(.double (own_D 0 1))] (.double (0 : UInt64)) := by exact c6_3
    have hl0 : (0 : Int) ≤ 0 ∧ (0 : Int) ≤ 1 := ⟨by decide, by decide⟩
    have hs0 : (0 + 1 : Int) = 1 := by decide
    refine og_astore (pc' := 68) (L' := #[.val (.int x0), .val (.int x1), .val (.int x2), .val (.int x3), .val (.int x4), .val (.int (1 : Int32)), .val (.int nv), .val (.double (own_D 8 q1)), .second, .val (.double (own_D 8 q2)), .second, .val (.double (own_D 8 q3)), .second, .val (.double (own_D 8 q4)), .second, .val (.ref b5), .unset, .unset]) X6 hx (hb hby at_66) rfl rfl rfl ?_
    refine og_iload (pc' := 70) X6 hx (hb hby at_68) rfl rfl ?_
    refine og_iconst (pc' := 71) (n := 1) X6 hx (hb hby at_70) rfl rfl ?_
    by_cases hc71_1 : nv < (1 : Int32)
    · refine og_icmpYes (pc' := 81) X6 hx (hb hby at_71) (tlt hc71_1).1 (by decide) (by decide) ?_
      refine og_iload (pc' := 83) X6 hx (hb hby at_81) rfl rfl ?_
      refine og_iconst (pc' := 84) (n := 2) X6 hx (hb hby at_83) rfl rfl ?_
      refine og_icmpYes (pc' := 94) X6 hx (hb hby at_84) (tlt (own_ltt hc71_1 (by decide))).1 (by decide) (by decide) ?_
      refine og_iload (pc' := 96) X6 hx (hb hby at_94) rfl rfl ?_
      refine og_iconst (pc' := 97) (n := 3) X6 hx (hb hby at_96) rfl rfl ?_
      refine og_icmpYes (pc' := 107) X6 hx (hb hby at_97) (tlt (own_ltt hc71_1 (by decide))).1 (by decide) (by decide) ?_
      refine og_iload (pc' := 109) X6 hx (hb hby at_107) rfl rfl ?_
      refine og_iconst (pc' := 110) (n := 4) X6 hx (hb hby at_109) rfl rfl ?_
      refine og_icmpYes (pc' := 120) X6 hx (hb hby at_110) (tlt (own_ltt hc71_1 (by decide))).1 (by decide) (by decide) ?_
      have hq1 : q1 = 0 := hq1.trans (if_pos hc71_1)
      have hq2 : q2 = 0 := hq2.trans (if_pos (own_ltt hc71_1 (by decide)))
      have hq3 : q3 = 0 := hq3.trans (if_pos (own_ltt hc71_1 (by decide)))
      have hq4 : q4 = 0 := hq4.trans (if_pos (own_ltt hc71_1 (by decide)))
      refine og_iload (pc' := 122) X6 hx (hb hby at_120) rfl rfl ?_
      refine og_iconst (pc' := 123) (n := 1) X6 hx (hb hby at_122) rfl rfl ?_
      refine og_icmpNo (pc' := 126) X6 hx (hb hby at_123) (teq (by decide)).2 rfl ?_
      refine og_dconst1 (pc' := 127) X6 hx (hb hby at_126) own_o32 rfl ?_
      refine og_dconst1 (pc' := 128) X6 hx (hb hby at_127) own_o8 rfl ?_
      refine og_dload (pc' := 130) X6 hx (hb hby at_128) rfl rfl ?_
      obtain ⟨u7, hu7⟩ : ∃ q : Int, q = (256 - q1) := ⟨_, rfl⟩
      have a7 : 0 ≤ u7 := by omega
      have z7 : u7 ≤ 256 := by omega
      have x7 : FP.dsub (own_D 8 256) (own_D 8 q1) = own_D 8 u7 := own_xsub rfl rfl hu7.symm (by omega) (by omega) (by omega)
      refine og_dsub (pc' := 131) X6 hx (hb hby at_130) (own_nnx x7 (by omega) (by omega)) x7 rfl ?_
      refine og_dconst1 (pc' := 132) X6 hx (hb hby at_131) own_o8 rfl ?_
      refine og_dload (pc' := 134) X6 hx (hb hby at_132) rfl rfl ?_
      obtain ⟨u8, hu8⟩ : ∃ q : Int, q = (256 - q2) := ⟨_, rfl⟩
      have a8 : 0 ≤ u8 := by omega
      have z8 : u8 ≤ 256 := by omega
      have x8 : FP.dsub (own_D 8 256) (own_D 8 q2) = own_D 8 u8 := own_xsub rfl rfl hu8.symm (by omega) (by omega) (by omega)
      refine og_dsub (pc' := 135) X6 hx (hb hby at_134) (own_nnx x8 (by omega) (by omega)) x8 rfl ?_
      obtain ⟨u9, hu9⟩ : ∃ q : Int, q = (u7 * u8) := ⟨_, rfl⟩
      have a9 : 0 ≤ u9 := by rw [hu9]; exact Int.mul_nonneg (by omega) (by omega)
      have z9 : u9 ≤ 65536 := by rw [hu9]; exact Int.le_trans (Int.mul_le_mul z7 z8 (by omega) (by omega)) (by decide)
      have x9 : FP.dmul (own_D 8 u7) (own_D 8 u8) = own_D 16 u9 := own_xmul rfl rfl hu9.symm rfl (by omega) (by omega) (by omega) (by omega) (by omega) (by omega)
      refine og_dmul (pc' := 136) X6 hx (hb hby at_135) (own_nnx x9 (by omega) (by omega)) x9 rfl ?_
      refine og_dconst1 (pc' := 137) X6 hx (hb hby at_136) own_o8 rfl ?_
      refine og_dload (pc' := 139) X6 hx (hb hby at_137) rfl rfl ?_
      obtain ⟨u10, hu10⟩ : ∃ q : Int, q = (256 - q3) := ⟨_, rfl⟩
      have a10 : 0 ≤ u10 := by omega
      have z10 : u10 ≤ 256 := by omega
      have x10 : FP.dsub (own_D 8 256) (own_D 8 q3) = own_D 8 u10 := own_xsub rfl rfl hu10.symm (by omega) (by omega) (by omega)
      refine og_dsub (pc' := 140) X6 hx (hb hby at_139) (own_nnx x10 (by omega) (by omega)) x10 rfl ?_
      obtain ⟨u11, hu11⟩ : ∃ q : Int, q = (u9 * u10) := ⟨_, rfl⟩
      have a11 : 0 ≤ u11 := by rw [hu11]; exact Int.mul_nonneg (by omega) (by omega)
      have z11 : u11 ≤ 16777216 := by rw [hu11]; exact Int.le_trans (Int.mul_le_mul z9 z10 (by omega) (by omega)) (by decide)
      have x11 : FP.dmul (own_D 16 u9) (own_D 8 u10) = own_D 24 u11 := own_xmul rfl rfl hu11.symm rfl (by omega) (by omega) (by omega) (by omega) (by omega) (by omega)
      refine og_dmul (pc' := 141) X6 hx (hb hby at_140) (own_nnx x11 (by omega) (by omega)) x11 rfl ?_
      refine og_dconst1 (pc' := 142) X6 hx (hb hby at_141) own_o8 rfl ?_
      refine og_dload (pc' := 144) X6 hx (hb hby at_142) rfl rfl ?_
      obtain ⟨u12, hu12⟩ : ∃ q : Int, q = (256 - q4) := ⟨_, rfl⟩
      have a12 : 0 ≤ u12 := by omega
      have z12 : u12 ≤ 256 := by omega
      have x12 : FP.dsub (own_D 8 256) (own_D 8 q4) = own_D 8 u12 := own_xsub rfl rfl hu12.symm (by omega) (by omega) (by omega)
      refine og_dsub (pc' := 145) X6 hx (hb hby at_144) (own_nnx x12 (by omega) (by omega)) x12 rfl ?_
      obtain ⟨u13, hu13⟩ : ∃ q : Int, q = (u11 * u12) := ⟨_, rfl⟩
      have a13 : 0 ≤ u13 := by rw [hu13]; exact Int.mul_nonneg (by omega) (by omega)
      have z13 : u13 ≤ 4294967296 := by rw [hu13]; exact Int.le_trans (Int.mul_le_mul z11 z12 (by omega) (by omega)) (by decide)
      have x13 : FP.dmul (own_D 24 u11) (own_D 8 u12) = own_D 32 u13 := own_xmul rfl rfl hu13.symm rfl (by omega) (by omega) (by omega) (by omega) (by omega) (by omega)
      refine og_dmul (pc' := 146) X6 hx (hb hby at_145) (own_nnx x13 (by omega) (by omega)) x13 rfl ?_
      obtain ⟨u14, hu14⟩ : ∃ q : Int, q = (4294967296 - u13) := ⟨_, rfl⟩
      have a14 : 0 ≤ u14 := by omega
      have z14 : u14 ≤ 4294967296 := by omega
      have x14 : FP.dsub (own_D 32 4294967296) (own_D 32 u13) = own_D 32 u14 := own_xsub rfl rfl hu14.symm (by omega) (by omega) (by omega)
      refine og_dsub (pc' := 147) X6 hx (hb hby at_146) (own_nnx x14 (by omega) (by omega)) x14 rfl ?_
      refine og_dstore (pc' := 149) (L' := #[.val (.int x0), .val (.int x1), .val (.int x2), .val (.int x3), .val (.int x4), .val (.int (1 : Int32)), .val (.int nv), .val (.double (own_D 8 q1)), .second, .val (.double (own_D 8 q2)), .second, .val (.double (own_D 8 q3)), .second, .val (.double (own_D 8 q4)), .second, .val (.ref b5), .val (.double (own_D 32 u14)), .second]) X6 hx (hb hby at_147) rfl rfl ?_
      refine og_goto (pc' := 263) X6 hx (hb hby at_149) (by decide) (by decide) ?_
      refine og_aload (pc' := 265) X6 hx (hb hby at_263) rfl rfl rfl ?_
      obtain ⟨cq15, kq15, q15a, q15b, q15c⟩ := isOf hZ rfl c6_0
      obtain ⟨_, _, ⟨T15, L15, k15, n15⟩, -, X15, ⟨Lc15, hQ15, l15, y15, z15⟩, st15⟩ := X6.virtualBack hx (y := (⟨"com/example/paranhos/paranhos/MatchRuns", "matched", "()D"⟩ : MethodName)) (z := (⟨"com/example/paranhos/paranhos/MatchRuns", "matched", "()D"⟩ : MethodName)) hown (mvT hZ (hw _ (List.mem_of_getElem? (i := 16) rfl))) (mvT hZ (hw _ (List.mem_of_getElem? (i := 17) rfl))) (notFace_of_selects (args := #[]) (mvT hZ (hw _ (List.mem_of_getElem? (i := 19) rfl)))) (mvT hZ (hw _ (List.mem_of_getElem? (i := 19) rfl))) (mvT hZ (hw _ (List.mem_of_getElem? (i := 18) rfl))) (by decide) (backOf (W := 0) (rmmat l Z a0 hw [] b5 (own_D 0 0) T6.heap n0 Z6 FM0) hZ (hw _ (List.mem_of_getElem? (i := 20) rfl)) (hw _ (List.mem_of_getElem? (i := 6) rfl)) (by decide) (by decide)) q15a q15c (g := (mkF m 265 #[.val (.int x0), .val (.int x1), .val (.int x2), .val (.int x3), .val (.int x4), .val (.int (1 : Int32)), .val (.int nv), .val (.double (own_D 8 q1)), .second, .val (.double (own_D 8 q2)), .second, .val (.double (own_D 8 q3)), .second, .val (.double (own_D 8 q4)), .second, .val (.ref b5), .val (.double (own_D 32 u14)), .second] [(.ref b5)])) rfl (by rw [hml]; rfl) (Steps.refl _) (argsL := []) (rest := []) (lenOf pd_2 rfl) rfl (by show 2 * 0 + _ ≤ _; exact Nat.le_of_eq rfl) (hb hby at_265) (fun _ _ => ⟨rfl, rfl, (by decide : 2 + 0 ≤ _), (by decide : 3 + 0 ≤ _)⟩)
      dsimp only [Pt.U, Pt.locs, Pt.cells, Pt.slots] at X15 l15 y15 z15 st15 hQ15
      subst l15 y15 z15
      obtain ⟨rfl, N15q, e15⟩ := hQ15
      have N15 := Fr.app N6 N15q
      obtain ⟨J15, X15, N15⟩ := own_hide X15 N15
      refine own_Go.of (g' := (mkF m 268 #[.val (.int x0), .val (.int x1), .val (.int x2), .val (.int x3), .val (.int x4), .val (.int (1 : Int32)), .val (.int nv), .val (.double (own_D 8 q1)), .second, .val (.double (own_D 8 q2)), .second, .val (.double (own_D 8 q3)), .second, .val (.double (own_D 8 q4)), .second, .val (.ref b5), .val (.double (own_D 32 u14)), .second] [(.double (own_D 0 0))])) (fun t k => st15.trans k) ?_
      refine og_dload (pc' := 270) X15 hx (hb hby at_268) rfl rfl ?_
      have hcmp : cmpValue (FP.dcmp (own_D 0 0) (own_D 32 u14)) .l = 0 := own_cmpE (own_res4 0 0) (own_res0 32 u14) (by first | (simp only [hq1, hq2, hq3, hq4, hu7, hu8, hu9, hu10, hu11, hu12, hu13, hu14]; done) | (simp only [hq1, hq2, hq3, hq4, hu7, hu8, hu9, hu10, hu11, hu12, hu13, hu14]; grind) | decide) (by decide) (by omega)
      refine og_dcmp (pc' := 271) X15 hx (hb hby at_270) hcmp rfl ?_
      refine og_ifNo (pc' := 274) X15 hx (hb hby at_271) ((if0 _ _).trans (teq (by decide)).2) rfl ?_
      refine og_iconst (pc' := 275) (n := 1) X15 hx (hb hby at_274) rfl rfl ?_
      refine og_goto (pc' := 279) X15 hx (hb hby at_275) (by decide) (by decide) ?_
      obtain ⟨fs, hr, hrun, hended, hW, hsame⟩ := X15.leave (v := some (.int (1 : Int32))) (fun h => by rw [Bd.returns] at h; cases h) (BodyLoose.notSynchronized Bd)
      refine ⟨_, _, retN X15 hx (t := .boolean) Bd.returns (by simp) (hb hby at_279) hr, hrun, hended, some (.int (1 : Int32)), _, rfl, ?_, ⟨_, rfl⟩, hW, hsame.mono (by decide) (by decide)⟩
      show Q0 Z x0 x1 x2 x3 x4 h0 n0 _ T15.heap _
      rw [e15]
      exact ⟨rfl, N15⟩
    · refine og_icmpNo (pc' := 74) X6 hx (hb hby at_71) (flt hc71_1).1 rfl ?_
      refine og_aload (pc' := 76) X6 hx (hb hby at_74) rfl rfl rfl ?_
      refine og_dload (pc' := 78) X6 hx (hb hby at_76) rfl rfl ?_
      obtain ⟨cq16, kq16, q16a, q16b, q16c⟩ := isOf hZ rfl c6_0
      obtain ⟨_, _, ⟨T16, L16, k16, n16⟩, -, X16, ⟨Lc16, hQ16, l16, y16, z16⟩, st16⟩ := X6.virtualBack hx (y := (⟨"com/example/paranhos/paranhos/MatchRuns", "add", "(D)V"⟩ : MethodName)) (z := (⟨"com/example/paranhos/paranhos/MatchRuns", "add", "(D)V"⟩ : MethodName)) hown (mvT hZ (hw _ (List.mem_of_getElem? (i := 24) rfl))) (mvT hZ (hw _ (List.mem_of_getElem? (i := 25) rfl))) (notFace_of_selects (args := #[]) (mvT hZ (hw _ (List.mem_of_getElem? (i := 27) rfl)))) (mvT hZ (hw _ (List.mem_of_getElem? (i := 27) rfl))) (mvT hZ (hw _ (List.mem_of_getElem? (i := 26) rfl))) (by decide) (backOf (W := 0) (rmadd1 l Z a0 hw [] b5 (own_D 8 q1) b_6 kk_6 0 1 q1 0 1 T6.heap n0 Z6 c6_0 c6_1 FM0 VM0 g_b5 g_b_6 ne6_0 rfl ⟨a_q1, z_q1⟩ hl0 hs0 ⟨by decide, by decide, own_o0⟩) hZ (hw _ (List.mem_of_getElem? (i := 28) rfl)) (hw _ (List.mem_of_getElem? (i := 6) rfl)) (by decide) (by decide)) q16a q16c (g := (mkF m 78 #[.val (.int x0), .val (.int x1), .val (.int x2), .val (.int x3), .val (.int x4), .val (.int (1 : Int32)), .val (.int nv), .val (.double (own_D 8 q1)), .second, .val (.double (own_D 8 q2)), .second, .val (.double (own_D 8 q3)), .second, .val (.double (own_D 8 q4)), .second, .val (.ref b5), .unset, .unset] [(.double (own_D 8 q1)), (.ref b5)])) rfl (by rw [hml]; rfl) (Steps.refl _) (argsL := [(.double (own_D 8 q1))]) (rest := []) (lenOf pd_3 rfl) rfl (by show 2 * 0 + _ ≤ _; exact Nat.le_of_eq rfl) (hb hby at_78) (fun _ _ => ⟨rfl, rfl, (by decide : 2 + 0 ≤ _), (by decide : 3 + 0 ≤ _)⟩)
      dsimp only [Pt.U, Pt.locs, Pt.cells, Pt.slots] at X16 l16 y16 z16 st16 hQ16
      subst l16 y16 z16
      obtain ⟨nm_16, w0_16, rfl, N16q, K16q, c16_0, c16_1, c16_2, c16_3, c16_4, c16_5⟩ := hQ16
      have N16 := Fr.app N6 N16q
      obtain ⟨J16, X16, N16⟩ := own_hide X16 N16
      have f16_0 := c6_0.keep K16q
      have K16 : Keep h0 T16.heap [] := K6.trans K16q (allS (Or.inr sz_b5) (allS (Or.inr sz_b_6) all0))
      have Z16 : n0 ≤ T16.heap.size := Nat.le_trans Z0 K16.1
      refine own_Go.of (g' := (mkF m 81 #[.val (.int x0), .val (.int x1), .val (.int x2), .val (.int x3), .val (.int x4), .val (.int (1 : Int32)), .val (.int nv), .val (.double (own_D 8 q1)), .second, .val (.double (own_D 8 q2)), .second, .val (.double (own_D 8 q3)), .second, .val (.double (own_D 8 q4)), .second, .val (.ref b5), .unset, .unset] [])) (fun t k => st16.trans k) ?_
      obtain ⟨hl1, hs1⟩ := own_inv1 (M := 1) ⟨a_q1, z_q1⟩ hl0 hs0 c16_4 c16_5 
      have hs1 : nm_16 + w0_16 = 256 := hs1
      have FM1 : Fld Z T16.heap b5 "com/example/paranhos/paranhos/MatchRuns" "matched" "D" (.double (own_D 8 nm_16)) := c16_2
      have VM1 : Arv Z T16.heap b_6 kk_6 .double (1 : Int32) [(.double (own_D 8 w0_16))] (.double (0 : UInt64)) := c16_3
      refine og_iload (pc' := 83) X16 hx (hb hby at_81) rfl rfl ?_
      refine og_iconst (pc' := 84) (n := 2) X16 hx (hb hby at_83) rfl rfl ?_
      by_cases hc84_2 : nv < (2 : Int32)
      · refine og_icmpYes (pc' := 94) X16 hx (hb hby at_84) (tlt hc84_2).1 (by decide) (by decide) ?_
        refine og_iload (pc' := 96) X16 hx (hb hby at_94) rfl rfl ?_
        refine og_iconst (pc' := 97) (n := 3) X16 hx (hb hby at_96) rfl rfl ?_
        refine og_icmpYes (pc' := 107) X16 hx (hb hby at_97) (tlt (own_ltt hc84_2 (by decide))).1 (by decide) (by decide) ?_
        refine og_iload (pc' := 109) X16 hx (hb hby at_107) rfl rfl ?_
        refine og_iconst (pc' := 110) (n := 4) X16 hx (hb hby at_109) rfl rfl ?_
        refine og_icmpYes (pc' := 120) X16 hx (hb hby at_110) (tlt (own_ltt hc84_2 (by decide))).1 (by decide) (by decide) ?_
        have hq2 : q2 = 0 := hq2.trans (if_pos hc84_2)
        have hq3 : q3 = 0 := hq3.trans (if_pos (own_ltt hc84_2 (by decide)))
        have hq4 : q4 = 0 := hq4.trans (if_pos (own_ltt hc84_2 (by decide)))
        refine og_iload (pc' := 122) X16 hx (hb hby at_120) rfl rfl ?_
        refine og_iconst (pc' := 123) (n := 1) X16 hx (hb hby at_122) rfl rfl ?_
        refine og_icmpNo (pc' := 126) X16 hx (hb hby at_123) (teq (by decide)).2 rfl ?_
        refine og_dconst1 (pc' := 127) X16 hx (hb hby at_126) own_o32 rfl ?_
        refine og_dconst1 (pc' := 128) X16 hx (hb hby at_127) own_o8 rfl ?_
        refine og_dload (pc' := 130) X16 hx (hb hby at_128) rfl rfl ?_
        obtain ⟨u17, hu17⟩ : ∃ q : Int, q = (256 - q1) := ⟨_, rfl⟩
        have a17 : 0 ≤ u17 := by omega
        have z17 : u17 ≤ 256 := by omega
        have x17 : FP.dsub (own_D 8 256) (own_D 8 q1) = own_D 8 u17 := own_xsub rfl rfl hu17.symm (by omega) (by omega) (by omega)
        refine og_dsub (pc' := 131) X16 hx (hb hby at_130) (own_nnx x17 (by omega) (by omega)) x17 rfl ?_
        refine og_dconst1 (pc' := 132) X16 hx (hb hby at_131) own_o8 rfl ?_
        refine og_dload (pc' := 134) X16 hx (hb hby at_132) rfl rfl ?_
        obtain ⟨u18, hu18⟩ : ∃ q : Int, q = (256 - q2) := ⟨_, rfl⟩
        have a18 : 0 ≤ u18 := by omega
        have z18 : u18 ≤ 256 := by omega
        have x18 : FP.dsub (own_D 8 256) (own_D 8 q2) = own_D 8 u18 := own_xsub rfl rfl hu18.symm (by omega) (by omega) (by omega)
        refine og_dsub (pc' := 135) X16 hx (hb hby at_134) (own_nnx x18 (by omega) (by omega)) x18 rfl ?_
        obtain ⟨u19, hu19⟩ : ∃ q : Int, q = (u17 * u18) := ⟨_, rfl⟩
        have a19 : 0 ≤ u19 := by rw [hu19]; exact Int.mul_nonneg (by omega) (by omega)
        have z19 : u19 ≤ 65536 := by rw [hu19]; exact Int.le_trans (Int.mul_le_mul z17 z18 (by omega) (by omega)) (by decide)
        have x19 : FP.dmul (own_D 8 u17) (own_D 8 u18) = own_D 16 u19 := own_xmul rfl rfl hu19.symm rfl (by omega) (by omega) (by omega) (by omega) (by omega) (by omega)
        refine og_dmul (pc' := 136) X16 hx (hb hby at_135) (own_nnx x19 (by omega) (by omega)) x19 rfl ?_
        refine og_dconst1 (pc' := 137) X16 hx (hb hby at_136) own_o8 rfl ?_
        refine og_dload (pc' := 139) X16 hx (hb hby at_137) rfl rfl ?_
        obtain ⟨u20, hu20⟩ : ∃ q : Int, q = (256 - q3) := ⟨_, rfl⟩
        have a20 : 0 ≤ u20 := by omega
        have z20 : u20 ≤ 256 := by omega
        have x20 : FP.dsub (own_D 8 256) (own_D 8 q3) = own_D 8 u20 := own_xsub rfl rfl hu20.symm (by omega) (by omega) (by omega)
        refine og_dsub (pc' := 140) X16 hx (hb hby at_139) (own_nnx x20 (by omega) (by omega)) x20 rfl ?_
        obtain ⟨u21, hu21⟩ : ∃ q : Int, q = (u19 * u20) := ⟨_, rfl⟩
        have a21 : 0 ≤ u21 := by rw [hu21]; exact Int.mul_nonneg (by omega) (by omega)
        have z21 : u21 ≤ 16777216 := by rw [hu21]; exact Int.le_trans (Int.mul_le_mul z19 z20 (by omega) (by omega)) (by decide)
        have x21 : FP.dmul (own_D 16 u19) (own_D 8 u20) = own_D 24 u21 := own_xmul rfl rfl hu21.symm rfl (by omega) (by omega) (by omega) (by omega) (by omega) (by omega)
        refine og_dmul (pc' := 141) X16 hx (hb hby at_140) (own_nnx x21 (by omega) (by omega)) x21 rfl ?_
        refine og_dconst1 (pc' := 142) X16 hx (hb hby at_141) own_o8 rfl ?_
        refine og_dload (pc' := 144) X16 hx (hb hby at_142) rfl rfl ?_
        obtain ⟨u22, hu22⟩ : ∃ q : Int, q = (256 - q4) := ⟨_, rfl⟩
        have a22 : 0 ≤ u22 := by omega
        have z22 : u22 ≤ 256 := by omega
        have x22 : FP.dsub (own_D 8 256) (own_D 8 q4) = own_D 8 u22 := own_xsub rfl rfl hu22.symm (by omega) (by omega) (by omega)
        refine og_dsub (pc' := 145) X16 hx (hb hby at_144) (own_nnx x22 (by omega) (by omega)) x22 rfl ?_
        obtain ⟨u23, hu23⟩ : ∃ q : Int, q = (u21 * u22) := ⟨_, rfl⟩
        have a23 : 0 ≤ u23 := by rw [hu23]; exact Int.mul_nonneg (by omega) (by omega)
        have z23 : u23 ≤ 4294967296 := by rw [hu23]; exact Int.le_trans (Int.mul_le_mul z21 z22 (by omega) (by omega)) (by decide)
        have x23 : FP.dmul (own_D 24 u21) (own_D 8 u22) = own_D 32 u23 := own_xmul rfl rfl hu23.symm rfl (by omega) (by omega) (by omega) (by omega) (by omega) (by omega)
        refine og_dmul (pc' := 146) X16 hx (hb hby at_145) (own_nnx x23 (by omega) (by omega)) x23 rfl ?_
        obtain ⟨u24, hu24⟩ : ∃ q : Int, q = (4294967296 - u23) := ⟨_, rfl⟩
        have a24 : 0 ≤ u24 := by omega
        have z24 : u24 ≤ 4294967296 := by omega
        have x24 : FP.dsub (own_D 32 4294967296) (own_D 32 u23) = own_D 32 u24 := own_xsub rfl rfl hu24.symm (by omega) (by omega) (by omega)
        refine og_dsub (pc' := 147) X16 hx (hb hby at_146) (own_nnx x24 (by omega) (by omega)) x24 rfl ?_
        refine og_dstore (pc' := 149) (L' := #[.val (.int x0), .val (.int x1), .val (.int x2), .val (.int x3), .val (.int x4), .val (.int (1 : Int32)), .val (.int nv), .val (.double (own_D 8 q1)), .second, .val (.double (own_D 8 q2)), .second, .val (.double (own_D 8 q3)), .second, .val (.double (own_D 8 q4)), .second, .val (.ref b5), .val (.double (own_D 32 u24)), .second]) X16 hx (hb hby at_147) rfl rfl ?_
        refine og_goto (pc' := 263) X16 hx (hb hby at_149) (by decide) (by decide) ?_
        refine og_aload (pc' := 265) X16 hx (hb hby at_263) rfl rfl rfl ?_
        obtain ⟨cq25, kq25, q25a, q25b, q25c⟩ := isOf hZ rfl c16_0
        obtain ⟨_, _, ⟨T25, L25, k25, n25⟩, -, X25, ⟨Lc25, hQ25, l25, y25, z25⟩, st25⟩ := X16.virtualBack hx (y := (⟨"com/example/paranhos/paranhos/MatchRuns", "matched", "()D"⟩ : MethodName)) (z := (⟨"com/example/paranhos/paranhos/MatchRuns", "matched", "()D"⟩ : MethodName)) hown (mvT hZ (hw _ (List.mem_of_getElem? (i := 16) rfl))) (mvT hZ (hw _ (List.mem_of_getElem? (i := 17) rfl))) (notFace_of_selects (args := #[]) (mvT hZ (hw _ (List.mem_of_getElem? (i := 19) rfl)))) (mvT hZ (hw _ (List.mem_of_getElem? (i := 19) rfl))) (mvT hZ (hw _ (List.mem_of_getElem? (i := 18) rfl))) (by decide) (backOf (W := 0) (rmmat l Z a0 hw [] b5 (own_D 8 nm_16) T16.heap n0 Z16 FM1) hZ (hw _ (List.mem_of_getElem? (i := 20) rfl)) (hw _ (List.mem_of_getElem? (i := 6) rfl)) (by decide) (by decide)) q25a q25c (g := (mkF m 265 #[.val (.int x0), .val (.int x1), .val (.int x2), .val (.int x3), .val (.int x4), .val (.int (1 : Int32)), .val (.int nv), .val (.double (own_D 8 q1)), .second, .val (.double (own_D 8 q2)), .second, .val (.double (own_D 8 q3)), .second, .val (.double (own_D 8 q4)), .second, .val (.ref b5), .val (.double (own_D 32 u24)), .second] [(.ref b5)])) rfl (by rw [hml]; rfl) (Steps.refl _) (argsL := []) (rest := []) (lenOf pd_2 rfl) rfl (by show 2 * 0 + _ ≤ _; exact Nat.le_of_eq rfl) (hb hby at_265) (fun _ _ => ⟨rfl, rfl, (by decide : 2 + 0 ≤ _), (by decide : 3 + 0 ≤ _)⟩)
        dsimp only [Pt.U, Pt.locs, Pt.cells, Pt.slots] at X25 l25 y25 z25 st25 hQ25
        subst l25 y25 z25
        obtain ⟨rfl, N25q, e25⟩ := hQ25
        have N25 := Fr.app N16 N25q
        obtain ⟨J25, X25, N25⟩ := own_hide X25 N25
        refine own_Go.of (g' := (mkF m 268 #[.val (.int x0), .val (.int x1), .val (.int x2), .val (.int x3), .val (.int x4), .val (.int (1 : Int32)), .val (.int nv), .val (.double (own_D 8 q1)), .second, .val (.double (own_D 8 q2)), .second, .val (.double (own_D 8 q3)), .second, .val (.double (own_D 8 q4)), .second, .val (.ref b5), .val (.double (own_D 32 u24)), .second] [(.double (own_D 8 nm_16))])) (fun t k => st25.trans k) ?_
        refine og_dload (pc' := 270) X25 hx (hb hby at_268) rfl rfl ?_
        have hcmp : cmpValue (FP.dcmp (own_D 8 nm_16) (own_D 32 u24)) .l = 0 := own_cmpE (own_res3 8 nm_16) (own_res0 32 u24) (by first | (simp only [c16_4, c16_5, hq2, hq3, hq4, hu17, hu18, hu19, hu20, hu21, hu22, hu23, hu24]; done) | (simp only [c16_4, c16_5, hq2, hq3, hq4, hu17, hu18, hu19, hu20, hu21, hu22, hu23, hu24]; grind) | decide) (by decide) (by omega)
        refine og_dcmp (pc' := 271) X25 hx (hb hby at_270) hcmp rfl ?_
        refine og_ifNo (pc' := 274) X25 hx (hb hby at_271) ((if0 _ _).trans (teq (by decide)).2) rfl ?_
        refine og_iconst (pc' := 275) (n := 1) X25 hx (hb hby at_274) rfl rfl ?_
        refine og_goto (pc' := 279) X25 hx (hb hby at_275) (by decide) (by decide) ?_
        obtain ⟨fs, hr, hrun, hended, hW, hsame⟩ := X25.leave (v := some (.int (1 : Int32))) (fun h => by rw [Bd.returns] at h; cases h) (BodyLoose.notSynchronized Bd)
        refine ⟨_, _, retN X25 hx (t := .boolean) Bd.returns (by simp) (hb hby at_279) hr, hrun, hended, some (.int (1 : Int32)), _, rfl, ?_, ⟨_, rfl⟩, hW, hsame.mono (by decide) (by decide)⟩
        show Q0 Z x0 x1 x2 x3 x4 h0 n0 _ T25.heap _
        rw [e25]
        exact ⟨rfl, N25⟩
      · refine og_icmpNo (pc' := 87) X16 hx (hb hby at_84) (flt hc84_2).1 rfl ?_
        refine og_aload (pc' := 89) X16 hx (hb hby at_87) rfl rfl rfl ?_
        refine og_dload (pc' := 91) X16 hx (hb hby at_89) rfl rfl ?_
        obtain ⟨cq26, kq26, q26a, q26b, q26c⟩ := isOf hZ rfl c16_0
        obtain ⟨_, _, ⟨T26, L26, k26, n26⟩, -, X26, ⟨Lc26, hQ26, l26, y26, z26⟩, st26⟩ := X16.virtualBack hx (y := (⟨"com/example/paranhos/paranhos/MatchRuns", "add", "(D)V"⟩ : MethodName)) (z := (⟨"com/example/paranhos/paranhos/MatchRuns", "add", "(D)V"⟩ : MethodName)) hown (mvT hZ (hw _ (List.mem_of_getElem? (i := 24) rfl))) (mvT hZ (hw _ (List.mem_of_getElem? (i := 25) rfl))) (notFace_of_selects (args := #[]) (mvT hZ (hw _ (List.mem_of_getElem? (i := 27) rfl)))) (mvT hZ (hw _ (List.mem_of_getElem? (i := 27) rfl))) (mvT hZ (hw _ (List.mem_of_getElem? (i := 26) rfl))) (by decide) (backOf (W := 0) (rmadd1 l Z a0 hw [] b5 (own_D 8 q2) b_6 kk_6 8 256 q2 nm_16 w0_16 T16.heap n0 Z16 c16_0 c16_1 FM1 VM1 g_b5 g_b_6 ne6_0 rfl ⟨a_q2, z_q2⟩ hl1 hs1 ⟨by decide, by decide, own_o8⟩) hZ (hw _ (List.mem_of_getElem? (i := 28) rfl)) (hw _ (List.mem_of_getElem? (i := 6) rfl)) (by decide) (by decide)) q26a q26c (g := (mkF m 91 #[.val (.int x0), .val (.int x1), .val (.int x2), .val (.int x3), .val (.int x4), .val (.int (1 : Int32)), .val (.int nv), .val (.double (own_D 8 q1)), .second, .val (.double (own_D 8 q2)), .second, .val (.double (own_D 8 q3)), .second, .val (.double (own_D 8 q4)), .second, .val (.ref b5), .unset, .unset] [(.double (own_D 8 q2)), (.ref b5)])) rfl (by rw [hml]; rfl) (Steps.refl _) (argsL := [(.double (own_D 8 q2))]) (rest := []) (lenOf pd_3 rfl) rfl (by show 2 * 0 + _ ≤ _; exact Nat.le_of_eq rfl) (hb hby at_91) (fun _ _ => ⟨rfl, rfl, (by decide : 2 + 0 ≤ _), (by decide : 3 + 0 ≤ _)⟩)
        dsimp only [Pt.U, Pt.locs, Pt.cells, Pt.slots] at X26 l26 y26 z26 st26 hQ26
        subst l26 y26 z26
        obtain ⟨nm_26, w0_26, rfl, N26q, K26q, c26_0, c26_1, c26_2, c26_3, c26_4, c26_5⟩ := hQ26
        have N26 := Fr.app N16 N26q
        obtain ⟨J26, X26, N26⟩ := own_hide X26 N26
        have f26_0 := c16_0.keep K26q
        have K26 : Keep h0 T26.heap [] := K16.trans K26q (allS (Or.inr sz_b5) (allS (Or.inr sz_b_6) all0))
        have Z26 : n0 ≤ T26.heap.size := Nat.le_trans Z0 K26.1
        refine own_Go.of (g' := (mkF m 94 #[.val (.int x0), .val (.int x1), .val (.int x2), .val (.int x3), .val (.int x4), .val (.int (1 : Int32)), .val (.int nv), .val (.double (own_D 8 q1)), .second, .val (.double (own_D 8 q2)), .second, .val (.double (own_D 8 q3)), .second, .val (.double (own_D 8 q4)), .second, .val (.ref b5), .unset, .unset] [])) (fun t k => st26.trans k) ?_
        obtain ⟨hl2, hs2⟩ := own_inv1 (M := 256) ⟨a_q2, z_q2⟩ hl1 hs1 c26_4 c26_5 
        have hs2 : nm_26 + w0_26 = 65536 := hs2
        have FM2 : Fld Z T26.heap b5 "com/example/paranhos/paranhos/MatchRuns" "matched" "D" (.double (own_D 16 nm_26)) := c26_2
        have VM2 : Arv Z T26.heap b_6 kk_6 .double (1 : Int32) [(.double (own_D 16 w0_26))] (.double (0 : UInt64)) := c26_3
        refine og_iload (pc' := 96) X26 hx (hb hby at_94) rfl rfl ?_
        refine og_iconst (pc' := 97) (n := 3) X26 hx (hb hby at_96) rfl rfl ?_
        by_cases hc97_3 : nv < (3 : Int32)
        · refine og_icmpYes (pc' := 107) X26 hx (hb hby at_97) (tlt hc97_3).1 (by decide) (by decide) ?_
          refine og_iload (pc' := 109) X26 hx (hb hby at_107) rfl rfl ?_
          refine og_iconst (pc' := 110) (n := 4) X26 hx (hb hby at_109) rfl rfl ?_
          refine og_icmpYes (pc' := 120) X26 hx (hb hby at_110) (tlt (own_ltt hc97_3 (by decide))).1 (by decide) (by decide) ?_
          have hq3 : q3 = 0 := hq3.trans (if_pos hc97_3)
          have hq4 : q4 = 0 := hq4.trans (if_pos (own_ltt hc97_3 (by decide)))
          refine og_iload (pc' := 122) X26 hx (hb hby at_120) rfl rfl ?_
          refine og_iconst (pc' := 123) (n := 1) X26 hx (hb hby at_122) rfl rfl ?_
          refine og_icmpNo (pc' := 126) X26 hx (hb hby at_123) (teq (by decide)).2 rfl ?_
          refine og_dconst1 (pc' := 127) X26 hx (hb hby at_126) own_o32 rfl ?_
          refine og_dconst1 (pc' := 128) X26 hx (hb hby at_127) own_o8 rfl ?_
          refine og_dload (pc' := 130) X26 hx (hb hby at_128) rfl rfl ?_
          obtain ⟨u27, hu27⟩ : ∃ q : Int, q = (256 - q1) := ⟨_, rfl⟩
          have a27 : 0 ≤ u27 := by omega
          have z27 : u27 ≤ 256 := by omega
          have x27 : FP.dsub (own_D 8 256) (own_D 8 q1) = own_D 8 u27 := own_xsub rfl rfl hu27.symm (by omega) (by omega) (by omega)
          refine og_dsub (pc' := 131) X26 hx (hb hby at_130) (own_nnx x27 (by omega) (by omega)) x27 rfl ?_
          refine og_dconst1 (pc' := 132) X26 hx (hb hby at_131) own_o8 rfl ?_
          refine og_dload (pc' := 134) X26 hx (hb hby at_132) rfl rfl ?_
          obtain ⟨u28, hu28⟩ : ∃ q : Int, q = (256 - q2) := ⟨_, rfl⟩
          have a28 : 0 ≤ u28 := by omega
          have z28 : u28 ≤ 256 := by omega
          have x28 : FP.dsub (own_D 8 256) (own_D 8 q2) = own_D 8 u28 := own_xsub rfl rfl hu28.symm (by omega) (by omega) (by omega)
          refine og_dsub (pc' := 135) X26 hx (hb hby at_134) (own_nnx x28 (by omega) (by omega)) x28 rfl ?_
          obtain ⟨u29, hu29⟩ : ∃ q : Int, q = (u27 * u28) := ⟨_, rfl⟩
          have a29 : 0 ≤ u29 := by rw [hu29]; exact Int.mul_nonneg (by omega) (by omega)
          have z29 : u29 ≤ 65536 := by rw [hu29]; exact Int.le_trans (Int.mul_le_mul z27 z28 (by omega) (by omega)) (by decide)
          have x29 : FP.dmul (own_D 8 u27) (own_D 8 u28) = own_D 16 u29 := own_xmul rfl rfl hu29.symm rfl (by omega) (by omega) (by omega) (by omega) (by omega) (by omega)
          refine og_dmul (pc' := 136) X26 hx (hb hby at_135) (own_nnx x29 (by omega) (by omega)) x29 rfl ?_
          refine og_dconst1 (pc' := 137) X26 hx (hb hby at_136) own_o8 rfl ?_
          refine og_dload (pc' := 139) X26 hx (hb hby at_137) rfl rfl ?_
          obtain ⟨u30, hu30⟩ : ∃ q : Int, q = (256 - q3) := ⟨_, rfl⟩
          have a30 : 0 ≤ u30 := by omega
          have z30 : u30 ≤ 256 := by omega
          have x30 : FP.dsub (own_D 8 256) (own_D 8 q3) = own_D 8 u30 := own_xsub rfl rfl hu30.symm (by omega) (by omega) (by omega)
          refine og_dsub (pc' := 140) X26 hx (hb hby at_139) (own_nnx x30 (by omega) (by omega)) x30 rfl ?_
          obtain ⟨u31, hu31⟩ : ∃ q : Int, q = (u29 * u30) := ⟨_, rfl⟩
          have a31 : 0 ≤ u31 := by rw [hu31]; exact Int.mul_nonneg (by omega) (by omega)
          have z31 : u31 ≤ 16777216 := by rw [hu31]; exact Int.le_trans (Int.mul_le_mul z29 z30 (by omega) (by omega)) (by decide)
          have x31 : FP.dmul (own_D 16 u29) (own_D 8 u30) = own_D 24 u31 := own_xmul rfl rfl hu31.symm rfl (by omega) (by omega) (by omega) (by omega) (by omega) (by omega)
          refine og_dmul (pc' := 141) X26 hx (hb hby at_140) (own_nnx x31 (by omega) (by omega)) x31 rfl ?_
          refine og_dconst1 (pc' := 142) X26 hx (hb hby at_141) own_o8 rfl ?_
          refine og_dload (pc' := 144) X26 hx (hb hby at_142) rfl rfl ?_
          obtain ⟨u32, hu32⟩ : ∃ q : Int, q = (256 - q4) := ⟨_, rfl⟩
          have a32 : 0 ≤ u32 := by omega
          have z32 : u32 ≤ 256 := by omega
          have x32 : FP.dsub (own_D 8 256) (own_D 8 q4) = own_D 8 u32 := own_xsub rfl rfl hu32.symm (by omega) (by omega) (by omega)
          refine og_dsub (pc' := 145) X26 hx (hb hby at_144) (own_nnx x32 (by omega) (by omega)) x32 rfl ?_
          obtain ⟨u33, hu33⟩ : ∃ q : Int, q = (u31 * u32) := ⟨_, rfl⟩
          have a33 : 0 ≤ u33 := by rw [hu33]; exact Int.mul_nonneg (by omega) (by omega)
          have z33 : u33 ≤ 4294967296 := by rw [hu33]; exact Int.le_trans (Int.mul_le_mul z31 z32 (by omega) (by omega)) (by decide)
          have x33 : FP.dmul (own_D 24 u31) (own_D 8 u32) = own_D 32 u33 := own_xmul rfl rfl hu33.symm rfl (by omega) (by omega) (by omega) (by omega) (by omega) (by omega)
          refine og_dmul (pc' := 146) X26 hx (hb hby at_145) (own_nnx x33 (by omega) (by omega)) x33 rfl ?_
          obtain ⟨u34, hu34⟩ : ∃ q : Int, q = (4294967296 - u33) := ⟨_, rfl⟩
          have a34 : 0 ≤ u34 := by omega
          have z34 : u34 ≤ 4294967296 := by omega
          have x34 : FP.dsub (own_D 32 4294967296) (own_D 32 u33) = own_D 32 u34 := own_xsub rfl rfl hu34.symm (by omega) (by omega) (by omega)
          refine og_dsub (pc' := 147) X26 hx (hb hby at_146) (own_nnx x34 (by omega) (by omega)) x34 rfl ?_
          refine og_dstore (pc' := 149) (L' := #[.val (.int x0), .val (.int x1), .val (.int x2), .val (.int x3), .val (.int x4), .val (.int (1 : Int32)), .val (.int nv), .val (.double (own_D 8 q1)), .second, .val (.double (own_D 8 q2)), .second, .val (.double (own_D 8 q3)), .second, .val (.double (own_D 8 q4)), .second, .val (.ref b5), .val (.double (own_D 32 u34)), .second]) X26 hx (hb hby at_147) rfl rfl ?_
          refine og_goto (pc' := 263) X26 hx (hb hby at_149) (by decide) (by decide) ?_
          refine og_aload (pc' := 265) X26 hx (hb hby at_263) rfl rfl rfl ?_
          obtain ⟨cq35, kq35, q35a, q35b, q35c⟩ := isOf hZ rfl c26_0
          obtain ⟨_, _, ⟨T35, L35, k35, n35⟩, -, X35, ⟨Lc35, hQ35, l35, y35, z35⟩, st35⟩ := X26.virtualBack hx (y := (⟨"com/example/paranhos/paranhos/MatchRuns", "matched", "()D"⟩ : MethodName)) (z := (⟨"com/example/paranhos/paranhos/MatchRuns", "matched", "()D"⟩ : MethodName)) hown (mvT hZ (hw _ (List.mem_of_getElem? (i := 16) rfl))) (mvT hZ (hw _ (List.mem_of_getElem? (i := 17) rfl))) (notFace_of_selects (args := #[]) (mvT hZ (hw _ (List.mem_of_getElem? (i := 19) rfl)))) (mvT hZ (hw _ (List.mem_of_getElem? (i := 19) rfl))) (mvT hZ (hw _ (List.mem_of_getElem? (i := 18) rfl))) (by decide) (backOf (W := 0) (rmmat l Z a0 hw [] b5 (own_D 16 nm_26) T26.heap n0 Z26 FM2) hZ (hw _ (List.mem_of_getElem? (i := 20) rfl)) (hw _ (List.mem_of_getElem? (i := 6) rfl)) (by decide) (by decide)) q35a q35c (g := (mkF m 265 #[.val (.int x0), .val (.int x1), .val (.int x2), .val (.int x3), .val (.int x4), .val (.int (1 : Int32)), .val (.int nv), .val (.double (own_D 8 q1)), .second, .val (.double (own_D 8 q2)), .second, .val (.double (own_D 8 q3)), .second, .val (.double (own_D 8 q4)), .second, .val (.ref b5), .val (.double (own_D 32 u34)), .second] [(.ref b5)])) rfl (by rw [hml]; rfl) (Steps.refl _) (argsL := []) (rest := []) (lenOf pd_2 rfl) rfl (by show 2 * 0 + _ ≤ _; exact Nat.le_of_eq rfl) (hb hby at_265) (fun _ _ => ⟨rfl, rfl, (by decide : 2 + 0 ≤ _), (by decide : 3 + 0 ≤ _)⟩)
          dsimp only [Pt.U, Pt.locs, Pt.cells, Pt.slots] at X35 l35 y35 z35 st35 hQ35
          subst l35 y35 z35
          obtain ⟨rfl, N35q, e35⟩ := hQ35
          have N35 := Fr.app N26 N35q
          obtain ⟨J35, X35, N35⟩ := own_hide X35 N35
          refine own_Go.of (g' := (mkF m 268 #[.val (.int x0), .val (.int x1), .val (.int x2), .val (.int x3), .val (.int x4), .val (.int (1 : Int32)), .val (.int nv), .val (.double (own_D 8 q1)), .second, .val (.double (own_D 8 q2)), .second, .val (.double (own_D 8 q3)), .second, .val (.double (own_D 8 q4)), .second, .val (.ref b5), .val (.double (own_D 32 u34)), .second] [(.double (own_D 16 nm_26))])) (fun t k => st35.trans k) ?_
          refine og_dload (pc' := 270) X35 hx (hb hby at_268) rfl rfl ?_
          have hcmp : cmpValue (FP.dcmp (own_D 16 nm_26) (own_D 32 u34)) .l = 0 := own_cmpE (own_res2 16 nm_26) (own_res0 32 u34) (by first | (simp only [c16_4, c16_5, c26_4, c26_5, hq3, hq4, hu27, hu28, hu29, hu30, hu31, hu32, hu33, hu34]; done) | (simp only [c16_4, c16_5, c26_4, c26_5, hq3, hq4, hu27, hu28, hu29, hu30, hu31, hu32, hu33, hu34]; grind) | decide) (by decide) (by omega)
          refine og_dcmp (pc' := 271) X35 hx (hb hby at_270) hcmp rfl ?_
          refine og_ifNo (pc' := 274) X35 hx (hb hby at_271) ((if0 _ _).trans (teq (by decide)).2) rfl ?_
          refine og_iconst (pc' := 275) (n := 1) X35 hx (hb hby at_274) rfl rfl ?_
          refine og_goto (pc' := 279) X35 hx (hb hby at_275) (by decide) (by decide) ?_
          obtain ⟨fs, hr, hrun, hended, hW, hsame⟩ := X35.leave (v := some (.int (1 : Int32))) (fun h => by rw [Bd.returns] at h; cases h) (BodyLoose.notSynchronized Bd)
          refine ⟨_, _, retN X35 hx (t := .boolean) Bd.returns (by simp) (hb hby at_279) hr, hrun, hended, some (.int (1 : Int32)), _, rfl, ?_, ⟨_, rfl⟩, hW, hsame.mono (by decide) (by decide)⟩
          show Q0 Z x0 x1 x2 x3 x4 h0 n0 _ T35.heap _
          rw [e35]
          exact ⟨rfl, N35⟩
        · refine og_icmpNo (pc' := 100) X26 hx (hb hby at_97) (flt hc97_3).1 rfl ?_
          refine og_aload (pc' := 102) X26 hx (hb hby at_100) rfl rfl rfl ?_
          refine og_dload (pc' := 104) X26 hx (hb hby at_102) rfl rfl ?_
          obtain ⟨cq36, kq36, q36a, q36b, q36c⟩ := isOf hZ rfl c26_0
          obtain ⟨_, _, ⟨T36, L36, k36, n36⟩, -, X36, ⟨Lc36, hQ36, l36, y36, z36⟩, st36⟩ := X26.virtualBack hx (y := (⟨"com/example/paranhos/paranhos/MatchRuns", "add", "(D)V"⟩ : MethodName)) (z := (⟨"com/example/paranhos/paranhos/MatchRuns", "add", "(D)V"⟩ : MethodName)) hown (mvT hZ (hw _ (List.mem_of_getElem? (i := 24) rfl))) (mvT hZ (hw _ (List.mem_of_getElem? (i := 25) rfl))) (notFace_of_selects (args := #[]) (mvT hZ (hw _ (List.mem_of_getElem? (i := 27) rfl)))) (mvT hZ (hw _ (List.mem_of_getElem? (i := 27) rfl))) (mvT hZ (hw _ (List.mem_of_getElem? (i := 26) rfl))) (by decide) (backOf (W := 0) (rmadd1 l Z a0 hw [] b5 (own_D 8 q3) b_6 kk_6 16 65536 q3 nm_26 w0_26 T26.heap n0 Z26 c26_0 c26_1 FM2 VM2 g_b5 g_b_6 ne6_0 rfl ⟨a_q3, z_q3⟩ hl2 hs2 ⟨by decide, by decide, own_o16⟩) hZ (hw _ (List.mem_of_getElem? (i := 28) rfl)) (hw _ (List.mem_of_getElem? (i := 6) rfl)) (by decide) (by decide)) q36a q36c (g := (mkF m 104 #[.val (.int x0), .val (.int x1), .val (.int x2), .val (.int x3), .val (.int x4), .val (.int (1 : Int32)), .val (.int nv), .val (.double (own_D 8 q1)), .second, .val (.double (own_D 8 q2)), .second, .val (.double (own_D 8 q3)), .second, .val (.double (own_D 8 q4)), .second, .val (.ref b5), .unset, .unset] [(.double (own_D 8 q3)), (.ref b5)])) rfl (by rw [hml]; rfl) (Steps.refl _) (argsL := [(.double (own_D 8 q3))]) (rest := []) (lenOf pd_3 rfl) rfl (by show 2 * 0 + _ ≤ _; exact Nat.le_of_eq rfl) (hb hby at_104) (fun _ _ => ⟨rfl, rfl, (by decide : 2 + 0 ≤ _), (by decide : 3 + 0 ≤ _)⟩)
          dsimp only [Pt.U, Pt.locs, Pt.cells, Pt.slots] at X36 l36 y36 z36 st36 hQ36
          subst l36 y36 z36
          obtain ⟨nm_36, w0_36, rfl, N36q, K36q, c36_0, c36_1, c36_2, c36_3, c36_4, c36_5⟩ := hQ36
          have N36 := Fr.app N26 N36q
          obtain ⟨J36, X36, N36⟩ := own_hide X36 N36
          have f36_0 := c26_0.keep K36q
          have K36 : Keep h0 T36.heap [] := K26.trans K36q (allS (Or.inr sz_b5) (allS (Or.inr sz_b_6) all0))
          have Z36 : n0 ≤ T36.heap.size := Nat.le_trans Z0 K36.1
          refine own_Go.of (g' := (mkF m 107 #[.val (.int x0), .val (.int x1), .val (.int x2), .val (.int x3), .val (.int x4), .val (.int (1 : Int32)), .val (.int nv), .val (.double (own_D 8 q1)), .second, .val (.double (own_D 8 q2)), .second, .val (.double (own_D 8 q3)), .second, .val (.double (own_D 8 q4)), .second, .val (.ref b5), .unset, .unset] [])) (fun t k => st36.trans k) ?_
          obtain ⟨hl3, hs3⟩ := own_inv1 (M := 65536) ⟨a_q3, z_q3⟩ hl2 hs2 c36_4 c36_5 
          have hs3 : nm_36 + w0_36 = 16777216 := hs3
          have FM3 : Fld Z T36.heap b5 "com/example/paranhos/paranhos/MatchRuns" "matched" "D" (.double (own_D 24 nm_36)) := c36_2
          have VM3 : Arv Z T36.heap b_6 kk_6 .double (1 : Int32) [(.double (own_D 24 w0_36))] (.double (0 : UInt64)) := c36_3
          refine og_iload (pc' := 109) X36 hx (hb hby at_107) rfl rfl ?_
          refine og_iconst (pc' := 110) (n := 4) X36 hx (hb hby at_109) rfl rfl ?_
          by_cases hc110_4 : nv < (4 : Int32)
          · refine og_icmpYes (pc' := 120) X36 hx (hb hby at_110) (tlt hc110_4).1 (by decide) (by decide) ?_
            have hq4 : q4 = 0 := hq4.trans (if_pos hc110_4)
            refine og_iload (pc' := 122) X36 hx (hb hby at_120) rfl rfl ?_
            refine og_iconst (pc' := 123) (n := 1) X36 hx (hb hby at_122) rfl rfl ?_
            refine og_icmpNo (pc' := 126) X36 hx (hb hby at_123) (teq (by decide)).2 rfl ?_
            refine og_dconst1 (pc' := 127) X36 hx (hb hby at_126) own_o32 rfl ?_
            refine og_dconst1 (pc' := 128) X36 hx (hb hby at_127) own_o8 rfl ?_
            refine og_dload (pc' := 130) X36 hx (hb hby at_128) rfl rfl ?_
            obtain ⟨u37, hu37⟩ : ∃ q : Int, q = (256 - q1) := ⟨_, rfl⟩
            have a37 : 0 ≤ u37 := by omega
            have z37 : u37 ≤ 256 := by omega
            have x37 : FP.dsub (own_D 8 256) (own_D 8 q1) = own_D 8 u37 := own_xsub rfl rfl hu37.symm (by omega) (by omega) (by omega)
            refine og_dsub (pc' := 131) X36 hx (hb hby at_130) (own_nnx x37 (by omega) (by omega)) x37 rfl ?_
            refine og_dconst1 (pc' := 132) X36 hx (hb hby at_131) own_o8 rfl ?_
            refine og_dload (pc' := 134) X36 hx (hb hby at_132) rfl rfl ?_
            obtain ⟨u38, hu38⟩ : ∃ q : Int, q = (256 - q2) := ⟨_, rfl⟩
            have a38 : 0 ≤ u38 := by omega
            have z38 : u38 ≤ 256 := by omega
            have x38 : FP.dsub (own_D 8 256) (own_D 8 q2) = own_D 8 u38 := own_xsub rfl rfl hu38.symm (by omega) (by omega) (by omega)
            refine og_dsub (pc' := 135) X36 hx (hb hby at_134) (own_nnx x38 (by omega) (by omega)) x38 rfl ?_
            obtain ⟨u39, hu39⟩ : ∃ q : Int, q = (u37 * u38) := ⟨_, rfl⟩
            have a39 : 0 ≤ u39 := by rw [hu39]; exact Int.mul_nonneg (by omega) (by omega)
            have z39 : u39 ≤ 65536 := by rw [hu39]; exact Int.le_trans (Int.mul_le_mul z37 z38 (by omega) (by omega)) (by decide)
            have x39 : FP.dmul (own_D 8 u37) (own_D 8 u38) = own_D 16 u39 := own_xmul rfl rfl hu39.symm rfl (by omega) (by omega) (by omega) (by omega) (by omega) (by omega)
            refine og_dmul (pc' := 136) X36 hx (hb hby at_135) (own_nnx x39 (by omega) (by omega)) x39 rfl ?_
            refine og_dconst1 (pc' := 137) X36 hx (hb hby at_136) own_o8 rfl ?_
            refine og_dload (pc' := 139) X36 hx (hb hby at_137) rfl rfl ?_
            obtain ⟨u40, hu40⟩ : ∃ q : Int, q = (256 - q3) := ⟨_, rfl⟩
            have a40 : 0 ≤ u40 := by omega
            have z40 : u40 ≤ 256 := by omega
            have x40 : FP.dsub (own_D 8 256) (own_D 8 q3) = own_D 8 u40 := own_xsub rfl rfl hu40.symm (by omega) (by omega) (by omega)
            refine og_dsub (pc' := 140) X36 hx (hb hby at_139) (own_nnx x40 (by omega) (by omega)) x40 rfl ?_
            obtain ⟨u41, hu41⟩ : ∃ q : Int, q = (u39 * u40) := ⟨_, rfl⟩
            have a41 : 0 ≤ u41 := by rw [hu41]; exact Int.mul_nonneg (by omega) (by omega)
            have z41 : u41 ≤ 16777216 := by rw [hu41]; exact Int.le_trans (Int.mul_le_mul z39 z40 (by omega) (by omega)) (by decide)
            have x41 : FP.dmul (own_D 16 u39) (own_D 8 u40) = own_D 24 u41 := own_xmul rfl rfl hu41.symm rfl (by omega) (by omega) (by omega) (by omega) (by omega) (by omega)
            refine og_dmul (pc' := 141) X36 hx (hb hby at_140) (own_nnx x41 (by omega) (by omega)) x41 rfl ?_
            refine og_dconst1 (pc' := 142) X36 hx (hb hby at_141) own_o8 rfl ?_
            refine og_dload (pc' := 144) X36 hx (hb hby at_142) rfl rfl ?_
            obtain ⟨u42, hu42⟩ : ∃ q : Int, q = (256 - q4) := ⟨_, rfl⟩
            have a42 : 0 ≤ u42 := by omega
            have z42 : u42 ≤ 256 := by omega
            have x42 : FP.dsub (own_D 8 256) (own_D 8 q4) = own_D 8 u42 := own_xsub rfl rfl hu42.symm (by omega) (by omega) (by omega)
            refine og_dsub (pc' := 145) X36 hx (hb hby at_144) (own_nnx x42 (by omega) (by omega)) x42 rfl ?_
            obtain ⟨u43, hu43⟩ : ∃ q : Int, q = (u41 * u42) := ⟨_, rfl⟩
            have a43 : 0 ≤ u43 := by rw [hu43]; exact Int.mul_nonneg (by omega) (by omega)
            have z43 : u43 ≤ 4294967296 := by rw [hu43]; exact Int.le_trans (Int.mul_le_mul z41 z42 (by omega) (by omega)) (by decide)
            have x43 : FP.dmul (own_D 24 u41) (own_D 8 u42) = own_D 32 u43 := own_xmul rfl rfl hu43.symm rfl (by omega) (by omega) (by omega) (by omega) (by omega) (by omega)
            refine og_dmul (pc' := 146) X36 hx (hb hby at_145) (own_nnx x43 (by omega) (by omega)) x43 rfl ?_
            obtain ⟨u44, hu44⟩ : ∃ q : Int, q = (4294967296 - u43) := ⟨_, rfl⟩
            have a44 : 0 ≤ u44 := by omega
            have z44 : u44 ≤ 4294967296 := by omega
            have x44 : FP.dsub (own_D 32 4294967296) (own_D 32 u43) = own_D 32 u44 := own_xsub rfl rfl hu44.symm (by omega) (by omega) (by omega)
            refine og_dsub (pc' := 147) X36 hx (hb hby at_146) (own_nnx x44 (by omega) (by omega)) x44 rfl ?_
            refine og_dstore (pc' := 149) (L' := #[.val (.int x0), .val (.int x1), .val (.int x2), .val (.int x3), .val (.int x4), .val (.int (1 : Int32)), .val (.int nv), .val (.double (own_D 8 q1)), .second, .val (.double (own_D 8 q2)), .second, .val (.double (own_D 8 q3)), .second, .val (.double (own_D 8 q4)), .second, .val (.ref b5), .val (.double (own_D 32 u44)), .second]) X36 hx (hb hby at_147) rfl rfl ?_
            refine og_goto (pc' := 263) X36 hx (hb hby at_149) (by decide) (by decide) ?_
            refine og_aload (pc' := 265) X36 hx (hb hby at_263) rfl rfl rfl ?_
            obtain ⟨cq45, kq45, q45a, q45b, q45c⟩ := isOf hZ rfl c36_0
            obtain ⟨_, _, ⟨T45, L45, k45, n45⟩, -, X45, ⟨Lc45, hQ45, l45, y45, z45⟩, st45⟩ := X36.virtualBack hx (y := (⟨"com/example/paranhos/paranhos/MatchRuns", "matched", "()D"⟩ : MethodName)) (z := (⟨"com/example/paranhos/paranhos/MatchRuns", "matched", "()D"⟩ : MethodName)) hown (mvT hZ (hw _ (List.mem_of_getElem? (i := 16) rfl))) (mvT hZ (hw _ (List.mem_of_getElem? (i := 17) rfl))) (notFace_of_selects (args := #[]) (mvT hZ (hw _ (List.mem_of_getElem? (i := 19) rfl)))) (mvT hZ (hw _ (List.mem_of_getElem? (i := 19) rfl))) (mvT hZ (hw _ (List.mem_of_getElem? (i := 18) rfl))) (by decide) (backOf (W := 0) (rmmat l Z a0 hw [] b5 (own_D 24 nm_36) T36.heap n0 Z36 FM3) hZ (hw _ (List.mem_of_getElem? (i := 20) rfl)) (hw _ (List.mem_of_getElem? (i := 6) rfl)) (by decide) (by decide)) q45a q45c (g := (mkF m 265 #[.val (.int x0), .val (.int x1), .val (.int x2), .val (.int x3), .val (.int x4), .val (.int (1 : Int32)), .val (.int nv), .val (.double (own_D 8 q1)), .second, .val (.double (own_D 8 q2)), .second, .val (.double (own_D 8 q3)), .second, .val (.double (own_D 8 q4)), .second, .val (.ref b5), .val (.double (own_D 32 u44)), .second] [(.ref b5)])) rfl (by rw [hml]; rfl) (Steps.refl _) (argsL := []) (rest := []) (lenOf pd_2 rfl) rfl (by show 2 * 0 + _ ≤ _; exact Nat.le_of_eq rfl) (hb hby at_265) (fun _ _ => ⟨rfl, rfl, (by decide : 2 + 0 ≤ _), (by decide : 3 + 0 ≤ _)⟩)
            dsimp only [Pt.U, Pt.locs, Pt.cells, Pt.slots] at X45 l45 y45 z45 st45 hQ45
            subst l45 y45 z45
            obtain ⟨rfl, N45q, e45⟩ := hQ45
            have N45 := Fr.app N36 N45q
            obtain ⟨J45, X45, N45⟩ := own_hide X45 N45
            refine own_Go.of (g' := (mkF m 268 #[.val (.int x0), .val (.int x1), .val (.int x2), .val (.int x3), .val (.int x4), .val (.int (1 : Int32)), .val (.int nv), .val (.double (own_D 8 q1)), .second, .val (.double (own_D 8 q2)), .second, .val (.double (own_D 8 q3)), .second, .val (.double (own_D 8 q4)), .second, .val (.ref b5), .val (.double (own_D 32 u44)), .second] [(.double (own_D 24 nm_36))])) (fun t k => st45.trans k) ?_
            refine og_dload (pc' := 270) X45 hx (hb hby at_268) rfl rfl ?_
            have hcmp : cmpValue (FP.dcmp (own_D 24 nm_36) (own_D 32 u44)) .l = 0 := own_cmpE (own_res1 24 nm_36) (own_res0 32 u44) (by first | (simp only [c16_4, c16_5, c26_4, c26_5, c36_4, c36_5, hq4, hu37, hu38, hu39, hu40, hu41, hu42, hu43, hu44]; done) | (simp only [c16_4, c16_5, c26_4, c26_5, c36_4, c36_5, hq4, hu37, hu38, hu39, hu40, hu41, hu42, hu43, hu44]; grind) | decide) (by decide) (by omega)
            refine og_dcmp (pc' := 271) X45 hx (hb hby at_270) hcmp rfl ?_
            refine og_ifNo (pc' := 274) X45 hx (hb hby at_271) ((if0 _ _).trans (teq (by decide)).2) rfl ?_
            refine og_iconst (pc' := 275) (n := 1) X45 hx (hb hby at_274) rfl rfl ?_
            refine og_goto (pc' := 279) X45 hx (hb hby at_275) (by decide) (by decide) ?_
            obtain ⟨fs, hr, hrun, hended, hW, hsame⟩ := X45.leave (v := some (.int (1 : Int32))) (fun h => by rw [Bd.returns] at h; cases h) (BodyLoose.notSynchronized Bd)
            refine ⟨_, _, retN X45 hx (t := .boolean) Bd.returns (by simp) (hb hby at_279) hr, hrun, hended, some (.int (1 : Int32)), _, rfl, ?_, ⟨_, rfl⟩, hW, hsame.mono (by decide) (by decide)⟩
            show Q0 Z x0 x1 x2 x3 x4 h0 n0 _ T45.heap _
            rw [e45]
            exact ⟨rfl, N45⟩
          · refine og_icmpNo (pc' := 113) X36 hx (hb hby at_110) (flt hc110_4).1 rfl ?_
            refine og_aload (pc' := 115) X36 hx (hb hby at_113) rfl rfl rfl ?_
            refine og_dload (pc' := 117) X36 hx (hb hby at_115) rfl rfl ?_
            obtain ⟨cq46, kq46, q46a, q46b, q46c⟩ := isOf hZ rfl c36_0
            obtain ⟨_, _, ⟨T46, L46, k46, n46⟩, -, X46, ⟨Lc46, hQ46, l46, y46, z46⟩, st46⟩ := X36.virtualBack hx (y := (⟨"com/example/paranhos/paranhos/MatchRuns", "add", "(D)V"⟩ : MethodName)) (z := (⟨"com/example/paranhos/paranhos/MatchRuns", "add", "(D)V"⟩ : MethodName)) hown (mvT hZ (hw _ (List.mem_of_getElem? (i := 24) rfl))) (mvT hZ (hw _ (List.mem_of_getElem? (i := 25) rfl))) (notFace_of_selects (args := #[]) (mvT hZ (hw _ (List.mem_of_getElem? (i := 27) rfl)))) (mvT hZ (hw _ (List.mem_of_getElem? (i := 27) rfl))) (mvT hZ (hw _ (List.mem_of_getElem? (i := 26) rfl))) (by decide) (backOf (W := 0) (rmadd1 l Z a0 hw [] b5 (own_D 8 q4) b_6 kk_6 24 16777216 q4 nm_36 w0_36 T36.heap n0 Z36 c36_0 c36_1 FM3 VM3 g_b5 g_b_6 ne6_0 rfl ⟨a_q4, z_q4⟩ hl3 hs3 ⟨by decide, by decide, own_o24⟩) hZ (hw _ (List.mem_of_getElem? (i := 28) rfl)) (hw _ (List.mem_of_getElem? (i := 6) rfl)) (by decide) (by decide)) q46a q46c (g := (mkF m 117 #[.val (.int x0), .val (.int x1), .val (.int x2), .val (.int x3), .val (.int x4), .val (.int (1 : Int32)), .val (.int nv), .val (.double (own_D 8 q1)), .second, .val (.double (own_D 8 q2)), .second, .val (.double (own_D 8 q3)), .second, .val (.double (own_D 8 q4)), .second, .val (.ref b5), .unset, .unset] [(.double (own_D 8 q4)), (.ref b5)])) rfl (by rw [hml]; rfl) (Steps.refl _) (argsL := [(.double (own_D 8 q4))]) (rest := []) (lenOf pd_3 rfl) rfl (by show 2 * 0 + _ ≤ _; exact Nat.le_of_eq rfl) (hb hby at_117) (fun _ _ => ⟨rfl, rfl, (by decide : 2 + 0 ≤ _), (by decide : 3 + 0 ≤ _)⟩)
            dsimp only [Pt.U, Pt.locs, Pt.cells, Pt.slots] at X46 l46 y46 z46 st46 hQ46
            subst l46 y46 z46
            obtain ⟨nm_46, w0_46, rfl, N46q, K46q, c46_0, c46_1, c46_2, c46_3, c46_4, c46_5⟩ := hQ46
            have N46 := Fr.app N36 N46q
            obtain ⟨J46, X46, N46⟩ := own_hide X46 N46
            have f46_0 := c36_0.keep K46q
            have K46 : Keep h0 T46.heap [] := K36.trans K46q (allS (Or.inr sz_b5) (allS (Or.inr sz_b_6) all0))
            have Z46 : n0 ≤ T46.heap.size := Nat.le_trans Z0 K46.1
            refine own_Go.of (g' := (mkF m 120 #[.val (.int x0), .val (.int x1), .val (.int x2), .val (.int x3), .val (.int x4), .val (.int (1 : Int32)), .val (.int nv), .val (.double (own_D 8 q1)), .second, .val (.double (own_D 8 q2)), .second, .val (.double (own_D 8 q3)), .second, .val (.double (own_D 8 q4)), .second, .val (.ref b5), .unset, .unset] [])) (fun t k => st46.trans k) ?_
            obtain ⟨hl4, hs4⟩ := own_inv1 (M := 16777216) ⟨a_q4, z_q4⟩ hl3 hs3 c46_4 c46_5 
            have hs4 : nm_46 + w0_46 = 4294967296 := hs4
            have FM4 : Fld Z T46.heap b5 "com/example/paranhos/paranhos/MatchRuns" "matched" "D" (.double (own_D 32 nm_46)) := c46_2
            have VM4 : Arv Z T46.heap b_6 kk_6 .double (1 : Int32) [(.double (own_D 32 w0_46))] (.double (0 : UInt64)) := c46_3
            refine og_iload (pc' := 122) X46 hx (hb hby at_120) rfl rfl ?_
            refine og_iconst (pc' := 123) (n := 1) X46 hx (hb hby at_122) rfl rfl ?_
            refine og_icmpNo (pc' := 126) X46 hx (hb hby at_123) (teq (by decide)).2 rfl ?_
            refine og_dconst1 (pc' := 127) X46 hx (hb hby at_126) own_o32 rfl ?_
            refine og_dconst1 (pc' := 128) X46 hx (hb hby at_127) own_o8 rfl ?_
            refine og_dload (pc' := 130) X46 hx (hb hby at_128) rfl rfl ?_
            obtain ⟨u47, hu47⟩ : ∃ q : Int, q = (256 - q1) := ⟨_, rfl⟩
            have a47 : 0 ≤ u47 := by omega
            have z47 : u47 ≤ 256 := by omega
            have x47 : FP.dsub (own_D 8 256) (own_D 8 q1) = own_D 8 u47 := own_xsub rfl rfl hu47.symm (by omega) (by omega) (by omega)
            refine og_dsub (pc' := 131) X46 hx (hb hby at_130) (own_nnx x47 (by omega) (by omega)) x47 rfl ?_
            refine og_dconst1 (pc' := 132) X46 hx (hb hby at_131) own_o8 rfl ?_
            refine og_dload (pc' := 134) X46 hx (hb hby at_132) rfl rfl ?_
            obtain ⟨u48, hu48⟩ : ∃ q : Int, q = (256 - q2) := ⟨_, rfl⟩
            have a48 : 0 ≤ u48 := by omega
            have z48 : u48 ≤ 256 := by omega
            have x48 : FP.dsub (own_D 8 256) (own_D 8 q2) = own_D 8 u48 := own_xsub rfl rfl hu48.symm (by omega) (by omega) (by omega)
            refine og_dsub (pc' := 135) X46 hx (hb hby at_134) (own_nnx x48 (by omega) (by omega)) x48 rfl ?_
            obtain ⟨u49, hu49⟩ : ∃ q : Int, q = (u47 * u48) := ⟨_, rfl⟩
            have a49 : 0 ≤ u49 := by rw [hu49]; exact Int.mul_nonneg (by omega) (by omega)
            have z49 : u49 ≤ 65536 := by rw [hu49]; exact Int.le_trans (Int.mul_le_mul z47 z48 (by omega) (by omega)) (by decide)
            have x49 : FP.dmul (own_D 8 u47) (own_D 8 u48) = own_D 16 u49 := own_xmul rfl rfl hu49.symm rfl (by omega) (by omega) (by omega) (by omega) (by omega) (by omega)
            refine og_dmul (pc' := 136) X46 hx (hb hby at_135) (own_nnx x49 (by omega) (by omega)) x49 rfl ?_
            refine og_dconst1 (pc' := 137) X46 hx (hb hby at_136) own_o8 rfl ?_
            refine og_dload (pc' := 139) X46 hx (hb hby at_137) rfl rfl ?_
            obtain ⟨u50, hu50⟩ : ∃ q : Int, q = (256 - q3) := ⟨_, rfl⟩
            have a50 : 0 ≤ u50 := by omega
            have z50 : u50 ≤ 256 := by omega
            have x50 : FP.dsub (own_D 8 256) (own_D 8 q3) = own_D 8 u50 := own_xsub rfl rfl hu50.symm (by omega) (by omega) (by omega)
            refine og_dsub (pc' := 140) X46 hx (hb hby at_139) (own_nnx x50 (by omega) (by omega)) x50 rfl ?_
            obtain ⟨u51, hu51⟩ : ∃ q : Int, q = (u49 * u50) := ⟨_, rfl⟩
            have a51 : 0 ≤ u51 := by rw [hu51]; exact Int.mul_nonneg (by omega) (by omega)
            have z51 : u51 ≤ 16777216 := by rw [hu51]; exact Int.le_trans (Int.mul_le_mul z49 z50 (by omega) (by omega)) (by decide)
            have x51 : FP.dmul (own_D 16 u49) (own_D 8 u50) = own_D 24 u51 := own_xmul rfl rfl hu51.symm rfl (by omega) (by omega) (by omega) (by omega) (by omega) (by omega)
            refine og_dmul (pc' := 141) X46 hx (hb hby at_140) (own_nnx x51 (by omega) (by omega)) x51 rfl ?_
            refine og_dconst1 (pc' := 142) X46 hx (hb hby at_141) own_o8 rfl ?_
            refine og_dload (pc' := 144) X46 hx (hb hby at_142) rfl rfl ?_
            obtain ⟨u52, hu52⟩ : ∃ q : Int, q = (256 - q4) := ⟨_, rfl⟩
            have a52 : 0 ≤ u52 := by omega
            have z52 : u52 ≤ 256 := by omega
            have x52 : FP.dsub (own_D 8 256) (own_D 8 q4) = own_D 8 u52 := own_xsub rfl rfl hu52.symm (by omega) (by omega) (by omega)
            refine og_dsub (pc' := 145) X46 hx (hb hby at_144) (own_nnx x52 (by omega) (by omega)) x52 rfl ?_
            obtain ⟨u53, hu53⟩ : ∃ q : Int, q = (u51 * u52) := ⟨_, rfl⟩
            have a53 : 0 ≤ u53 := by rw [hu53]; exact Int.mul_nonneg (by omega) (by omega)
            have z53 : u53 ≤ 4294967296 := by rw [hu53]; exact Int.le_trans (Int.mul_le_mul z51 z52 (by omega) (by omega)) (by decide)
            have x53 : FP.dmul (own_D 24 u51) (own_D 8 u52) = own_D 32 u53 := own_xmul rfl rfl hu53.symm rfl (by omega) (by omega) (by omega) (by omega) (by omega) (by omega)
            refine og_dmul (pc' := 146) X46 hx (hb hby at_145) (own_nnx x53 (by omega) (by omega)) x53 rfl ?_
            obtain ⟨u54, hu54⟩ : ∃ q : Int, q = (4294967296 - u53) := ⟨_, rfl⟩
            have a54 : 0 ≤ u54 := by omega
            have z54 : u54 ≤ 4294967296 := by omega
            have x54 : FP.dsub (own_D 32 4294967296) (own_D 32 u53) = own_D 32 u54 := own_xsub rfl rfl hu54.symm (by omega) (by omega) (by omega)
            refine og_dsub (pc' := 147) X46 hx (hb hby at_146) (own_nnx x54 (by omega) (by omega)) x54 rfl ?_
            refine og_dstore (pc' := 149) (L' := #[.val (.int x0), .val (.int x1), .val (.int x2), .val (.int x3), .val (.int x4), .val (.int (1 : Int32)), .val (.int nv), .val (.double (own_D 8 q1)), .second, .val (.double (own_D 8 q2)), .second, .val (.double (own_D 8 q3)), .second, .val (.double (own_D 8 q4)), .second, .val (.ref b5), .val (.double (own_D 32 u54)), .second]) X46 hx (hb hby at_147) rfl rfl ?_
            refine og_goto (pc' := 263) X46 hx (hb hby at_149) (by decide) (by decide) ?_
            refine og_aload (pc' := 265) X46 hx (hb hby at_263) rfl rfl rfl ?_
            obtain ⟨cq55, kq55, q55a, q55b, q55c⟩ := isOf hZ rfl c46_0
            obtain ⟨_, _, ⟨T55, L55, k55, n55⟩, -, X55, ⟨Lc55, hQ55, l55, y55, z55⟩, st55⟩ := X46.virtualBack hx (y := (⟨"com/example/paranhos/paranhos/MatchRuns", "matched", "()D"⟩ : MethodName)) (z := (⟨"com/example/paranhos/paranhos/MatchRuns", "matched", "()D"⟩ : MethodName)) hown (mvT hZ (hw _ (List.mem_of_getElem? (i := 16) rfl))) (mvT hZ (hw _ (List.mem_of_getElem? (i := 17) rfl))) (notFace_of_selects (args := #[]) (mvT hZ (hw _ (List.mem_of_getElem? (i := 19) rfl)))) (mvT hZ (hw _ (List.mem_of_getElem? (i := 19) rfl))) (mvT hZ (hw _ (List.mem_of_getElem? (i := 18) rfl))) (by decide) (backOf (W := 0) (rmmat l Z a0 hw [] b5 (own_D 32 nm_46) T46.heap n0 Z46 FM4) hZ (hw _ (List.mem_of_getElem? (i := 20) rfl)) (hw _ (List.mem_of_getElem? (i := 6) rfl)) (by decide) (by decide)) q55a q55c (g := (mkF m 265 #[.val (.int x0), .val (.int x1), .val (.int x2), .val (.int x3), .val (.int x4), .val (.int (1 : Int32)), .val (.int nv), .val (.double (own_D 8 q1)), .second, .val (.double (own_D 8 q2)), .second, .val (.double (own_D 8 q3)), .second, .val (.double (own_D 8 q4)), .second, .val (.ref b5), .val (.double (own_D 32 u54)), .second] [(.ref b5)])) rfl (by rw [hml]; rfl) (Steps.refl _) (argsL := []) (rest := []) (lenOf pd_2 rfl) rfl (by show 2 * 0 + _ ≤ _; exact Nat.le_of_eq rfl) (hb hby at_265) (fun _ _ => ⟨rfl, rfl, (by decide : 2 + 0 ≤ _), (by decide : 3 + 0 ≤ _)⟩)
            dsimp only [Pt.U, Pt.locs, Pt.cells, Pt.slots] at X55 l55 y55 z55 st55 hQ55
            subst l55 y55 z55
            obtain ⟨rfl, N55q, e55⟩ := hQ55
            have N55 := Fr.app N46 N55q
            obtain ⟨J55, X55, N55⟩ := own_hide X55 N55
            refine own_Go.of (g' := (mkF m 268 #[.val (.int x0), .val (.int x1), .val (.int x2), .val (.int x3), .val (.int x4), .val (.int (1 : Int32)), .val (.int nv), .val (.double (own_D 8 q1)), .second, .val (.double (own_D 8 q2)), .second, .val (.double (own_D 8 q3)), .second, .val (.double (own_D 8 q4)), .second, .val (.ref b5), .val (.double (own_D 32 u54)), .second] [(.double (own_D 32 nm_46))])) (fun t k => st55.trans k) ?_
            refine og_dload (pc' := 270) X55 hx (hb hby at_268) rfl rfl ?_
            have hcmp : cmpValue (FP.dcmp (own_D 32 nm_46) (own_D 32 u54)) .l = 0 := own_cmpE (own_res0 32 nm_46) (own_res0 32 u54) (by first | (simp only [c16_4, c16_5, c26_4, c26_5, c36_4, c36_5, c46_4, c46_5, hu47, hu48, hu49, hu50, hu51, hu52, hu53, hu54]; done) | (simp only [c16_4, c16_5, c26_4, c26_5, c36_4, c36_5, c46_4, c46_5, hu47, hu48, hu49, hu50, hu51, hu52, hu53, hu54]; grind) | decide) (by decide) (by omega)
            refine og_dcmp (pc' := 271) X55 hx (hb hby at_270) hcmp rfl ?_
            refine og_ifNo (pc' := 274) X55 hx (hb hby at_271) ((if0 _ _).trans (teq (by decide)).2) rfl ?_
            refine og_iconst (pc' := 275) (n := 1) X55 hx (hb hby at_274) rfl rfl ?_
            refine og_goto (pc' := 279) X55 hx (hb hby at_275) (by decide) (by decide) ?_
            obtain ⟨fs, hr, hrun, hended, hW, hsame⟩ := X55.leave (v := some (.int (1 : Int32))) (fun h => by rw [Bd.returns] at h; cases h) (BodyLoose.notSynchronized Bd)
            refine ⟨_, _, retN X55 hx (t := .boolean) Bd.returns (by simp) (hb hby at_279) hr, hrun, hended, some (.int (1 : Int32)), _, rfl, ?_, ⟨_, rfl⟩, hW, hsame.mono (by decide) (by decide)⟩
            show Q0 Z x0 x1 x2 x3 x4 h0 n0 _ T55.heap _
            rw [e55]
            exact ⟨rfl, N55⟩
  · rw [ek]
    obtain ⟨T56, h56, X56, e56, E56, A56, D56, -, st56⟩ := newO X4 hx hZ hown (hw _ (List.mem_of_getElem? (i := 4) rfl)) (hw _ (List.mem_of_getElem? (i := 5) rfl)) (hw _ (List.mem_of_getElem? (i := 6) rfl)) e4 (g := (mkF m 57 #[.val (.int x0), .val (.int x1), .val (.int x2), .val (.int x3), .val (.int x4), .val (.int (2 : Int32)), .val (.int nv), .val (.double (own_D 8 q1)), .second, .val (.double (own_D 8 q2)), .second, .val (.double (own_D 8 q3)), .second, .val (.double (own_D 8 q4)), .second, .unset, .unset, .unset] [])) rfl (hb hby at_57) (by decide) (by decide)
    obtain ⟨b56, g56⟩ : ∃ z, z = h0.size := ⟨_, rfl⟩
    rw [← g56] at A56 D56 st56
    have g_b56 : n0 ≤ b56 := Nat.le_trans Z0 (Nat.le_of_eq g56.symm)
    have sz_b56 : h0.size ≤ b56 := Nat.le_trans (Keep.refl h0 []).1 (Nat.le_of_eq g56.symm)
    have F56_run : Fld Z h56 b56 "com/example/paranhos/paranhos/MatchRuns" "run" "[D" .null := D56 (Or.inr (hw _ (List.mem_of_getElem? (i := 15) rfl))) (ty := (.array .double)) (by decide)
    have F56_matched : Fld Z h56 b56 "com/example/paranhos/paranhos/MatchRuns" "matched" "D" (.double (0 : UInt64)) := D56 (Or.inl (hw _ (List.mem_of_getElem? (i := 22) rfl))) (ty := .double) (by decide)
    have K56 : Keep h0 h56 [] := (Keep.refl h0 []).ext E56
    have Z56 : n0 ≤ h56.size := Nat.le_trans Z0 K56.1
    refine own_Go.of (g' := (mkF m 60 #[.val (.int x0), .val (.int x1), .val (.int x2), .val (.int x3), .val (.int x4), .val (.int (2 : Int32)), .val (.int nv), .val (.double (own_D 8 q1)), .second, .val (.double (own_D 8 q2)), .second, .val (.double (own_D 8 q3)), .second, .val (.double (own_D 8 q4)), .second, .unset, .unset, .unset] [(.ref b56)])) (fun t k => st56 _ k) ?_
    refine og_dup (pc' := 61) X56 hx (hb hby at_60) rfl rfl ?_
    refine og_iload (pc' := 63) X56 hx (hb hby at_61) rfl rfl ?_
    obtain ⟨_, _, ⟨T57, L57, k57, n57⟩, -, X57, ⟨Lc57, hQ57, l57, y57, z57⟩, st57⟩ := X56.specialBack hx (y := (⟨"com/example/paranhos/paranhos/MatchRuns", "<init>", "(I)V"⟩ : MethodName)) rfl hown (mvT hZ (hw _ (List.mem_of_getElem? (i := 7) rfl))) (mvT hZ (hw _ (List.mem_of_getElem? (i := 8) rfl))) (mvT hZ (hw _ (List.mem_of_getElem? (i := 9) rfl))) (by decide) (backOf (W := 1) (rmini2 l Z a0 hw [] b56 .null h56 n0 Z56 A56 F56_run F56_matched g_b56) hZ (hw _ (List.mem_of_getElem? (i := 9) rfl)) (hw _ (List.mem_of_getElem? (i := 6) rfl)) (by decide) (by decide)) (g := (mkF m 63 #[.val (.int x0), .val (.int x1), .val (.int x2), .val (.int x3), .val (.int x4), .val (.int (2 : Int32)), .val (.int nv), .val (.double (own_D 8 q1)), .second, .val (.double (own_D 8 q2)), .second, .val (.double (own_D 8 q3)), .second, .val (.double (own_D 8 q4)), .second, .unset, .unset, .unset] [(.int (2 : Int32)), (.ref b56), (.ref b56)])) rfl (by rw [hml]; rfl) (Steps.refl _) (a := b56) (argsL := [(.int (2 : Int32))]) (rest := [(.ref b56)]) (lenOf pd_1 rfl) rfl (by show 2 * 0 + _ ≤ _; exact Nat.le_of_eq rfl) (hb hby at_63) (fun _ _ => ⟨rfl, e56, (by decide : 1 + 1 ≤ _), (by decide : 2 + 2 ≤ _)⟩)
    dsimp only [Pt.U, Pt.locs, Pt.cells, Pt.slots] at X57 l57 y57 z57 st57 hQ57
    subst l57 y57 z57
    obtain ⟨b_57, kk_57, rfl, N57q, K57q, zz57_b, c57_0, c57_1, c57_2, c57_3⟩ := hQ57
    have N57 := Fr.app N4 N57q
    obtain ⟨J57, X57, N57⟩ := own_hide X57 N57
    have g_b_57 : n0 ≤ b_57 := Nat.le_trans Z56 zz57_b
    have sz_b_57 : h0.size ≤ b_57 := Nat.le_trans K56.1 zz57_b
    have ne57_0 : b56 ≠ b_57 := Nat.ne_of_lt (Nat.lt_of_lt_of_le A56.lt zz57_b)
    have f57_0 := A56.keep K57q
    have K57 : Keep h0 T57.heap [] := K56.trans K57q (allS (Or.inr sz_b56) all0)
    have Z57 : n0 ≤ T57.heap.size := Nat.le_trans Z0 K57.1
    refine own_Go.of (g' := (mkF m 66 #[.val (.int x0), .val (.int x1), .val (.int x2), .val (.int x3), .val (.int x4), .val (.int (2 : Int32)), .val (.int nv), .val (.double (own_D 8 q1)), .second, .val (.double (own_D 8 q2)), .second, .val (.double (own_D 8 q3)), .second, .val (.double (own_D 8 q4)), .second, .unset, .unset, .unset] [(.ref b56)])) (fun t k => st57.trans k) ?_
    have FM0 : Fld Z T57.heap b56 "com/example/paranhos/paranhos/MatchRuns" "matched" "D" (.double (own_D 0 0)) := by rw [own_z0]; exact c57_2
    have VM0 : Arv Z T57.heap b_57 kk_57 .double (2 : Int32) [(.double (own_D 0 1)), (.double (own_D 0 0))] (.double (0 : UInt64)) := by rw [own_z0]; exact c57_3
    have hl0 : (0 : Int) ≤ 0 ∧ (0 : Int) ≤ 1 ∧ (0 : Int) ≤ 0 := ⟨by decide, by decide, by decide⟩
    have hs0 : (0 + 1 + 0 : Int) = 1 := by decide
    refine og_astore (pc' := 68) (L' := #[.val (.int x0), .val (.int x1), .val (.int x2), .val (.int x3), .val (.int x4), .val (.int (2 : Int32)), .val (.int nv), .val (.double (own_D 8 q1)), .second, .val (.double (own_D 8 q2)), .second, .val (.double (own_D 8 q3)), .second, .val (.double (own_D 8 q4)), .second, .val (.ref b56), .unset, .unset]) X57 hx (hb hby at_66) rfl rfl rfl ?_
    refine og_iload (pc' := 70) X57 hx (hb hby at_68) rfl rfl ?_
    refine og_iconst (pc' := 71) (n := 1) X57 hx (hb hby at_70) rfl rfl ?_
    by_cases hc71_5 : nv < (1 : Int32)
    · refine og_icmpYes (pc' := 81) X57 hx (hb hby at_71) (tlt hc71_5).1 (by decide) (by decide) ?_
      refine og_iload (pc' := 83) X57 hx (hb hby at_81) rfl rfl ?_
      refine og_iconst (pc' := 84) (n := 2) X57 hx (hb hby at_83) rfl rfl ?_
      refine og_icmpYes (pc' := 94) X57 hx (hb hby at_84) (tlt (own_ltt hc71_5 (by decide))).1 (by decide) (by decide) ?_
      refine og_iload (pc' := 96) X57 hx (hb hby at_94) rfl rfl ?_
      refine og_iconst (pc' := 97) (n := 3) X57 hx (hb hby at_96) rfl rfl ?_
      refine og_icmpYes (pc' := 107) X57 hx (hb hby at_97) (tlt (own_ltt hc71_5 (by decide))).1 (by decide) (by decide) ?_
      refine og_iload (pc' := 109) X57 hx (hb hby at_107) rfl rfl ?_
      refine og_iconst (pc' := 110) (n := 4) X57 hx (hb hby at_109) rfl rfl ?_
      refine og_icmpYes (pc' := 120) X57 hx (hb hby at_110) (tlt (own_ltt hc71_5 (by decide))).1 (by decide) (by decide) ?_
      have hq1 : q1 = 0 := hq1.trans (if_pos hc71_5)
      have hq2 : q2 = 0 := hq2.trans (if_pos (own_ltt hc71_5 (by decide)))
      have hq3 : q3 = 0 := hq3.trans (if_pos (own_ltt hc71_5 (by decide)))
      have hq4 : q4 = 0 := hq4.trans (if_pos (own_ltt hc71_5 (by decide)))
      refine og_iload (pc' := 122) X57 hx (hb hby at_120) rfl rfl ?_
      refine og_iconst (pc' := 123) (n := 1) X57 hx (hb hby at_122) rfl rfl ?_
      refine og_icmpYes (pc' := 152) X57 hx (hb hby at_123) (feq (by decide)).2 (by decide) (by decide) ?_
      refine og_iload (pc' := 154) X57 hx (hb hby at_152) rfl rfl ?_
      refine og_iconst (pc' := 155) (n := 2) X57 hx (hb hby at_154) rfl rfl ?_
      refine og_icmpNo (pc' := 158) X57 hx (hb hby at_155) (teq (by decide)).2 rfl ?_
      refine og_dload (pc' := 160) X57 hx (hb hby at_158) rfl rfl ?_
      refine og_dload (pc' := 162) X57 hx (hb hby at_160) rfl rfl ?_
      obtain ⟨u58, hu58⟩ : ∃ q : Int, q = (q1 * q2) := ⟨_, rfl⟩
      have a58 : 0 ≤ u58 := by rw [hu58]; exact Int.mul_nonneg (by omega) (by omega)
      have z58 : u58 ≤ 65536 := by rw [hu58]; exact Int.le_trans (Int.mul_le_mul z_q1 z_q2 (by omega) (by omega)) (by decide)
      have x58 : FP.dmul (own_D 8 q1) (own_D 8 q2) = own_D 16 u58 := own_xmul rfl rfl hu58.symm rfl (by omega) (by omega) (by omega) (by omega) (by omega) (by omega)
      refine og_dmul (pc' := 163) X57 hx (hb hby at_162) (own_nnx x58 (by omega) (by omega)) x58 rfl ?_
      refine og_dload (pc' := 165) X57 hx (hb hby at_163) rfl rfl ?_
      refine og_dload (pc' := 167) X57 hx (hb hby at_165) rfl rfl ?_
      obtain ⟨u59, hu59⟩ : ∃ q : Int, q = (q2 * q3) := ⟨_, rfl⟩
      have a59 : 0 ≤ u59 := by rw [hu59]; exact Int.mul_nonneg (by omega) (by omega)
      have z59 : u59 ≤ 65536 := by rw [hu59]; exact Int.le_trans (Int.mul_le_mul z_q2 z_q3 (by omega) (by omega)) (by decide)
      have x59 : FP.dmul (own_D 8 q2) (own_D 8 q3) = own_D 16 u59 := own_xmul rfl rfl hu59.symm rfl (by omega) (by omega) (by omega) (by omega) (by omega) (by omega)
      refine og_dmul (pc' := 168) X57 hx (hb hby at_167) (own_nnx x59 (by omega) (by omega)) x59 rfl ?_
      obtain ⟨u60, hu60⟩ : ∃ q : Int, q = (u58 + u59) := ⟨_, rfl⟩
      have a60 : 0 ≤ u60 := by omega
      have z60 : u60 ≤ 131072 := by omega
      have x60 : FP.dadd (own_D 16 u58) (own_D 16 u59) = own_D 16 u60 := own_xadd rfl rfl hu60.symm (by omega) (by omega) (by omega)
      refine og_dadd (pc' := 169) X57 hx (hb hby at_168) (own_nnx x60 (by omega) (by omega)) x60 rfl ?_
      refine og_dload (pc' := 171) X57 hx (hb hby at_169) rfl rfl ?_
      refine og_dload (pc' := 173) X57 hx (hb hby at_171) rfl rfl ?_
      obtain ⟨u61, hu61⟩ : ∃ q : Int, q = (q3 * q4) := ⟨_, rfl⟩
      have a61 : 0 ≤ u61 := by rw [hu61]; exact Int.mul_nonneg (by omega) (by omega)
      have z61 : u61 ≤ 65536 := by rw [hu61]; exact Int.le_trans (Int.mul_le_mul z_q3 z_q4 (by omega) (by omega)) (by decide)
      have x61 : FP.dmul (own_D 8 q3) (own_D 8 q4) = own_D 16 u61 := own_xmul rfl rfl hu61.symm rfl (by omega) (by omega) (by omega) (by omega) (by omega) (by omega)
      refine og_dmul (pc' := 174) X57 hx (hb hby at_173) (own_nnx x61 (by omega) (by omega)) x61 rfl ?_
      obtain ⟨u62, hu62⟩ : ∃ q : Int, q = (u60 + u61) := ⟨_, rfl⟩
      have a62 : 0 ≤ u62 := by omega
      have z62 : u62 ≤ 196608 := by omega
      have x62 : FP.dadd (own_D 16 u60) (own_D 16 u61) = own_D 16 u62 := own_xadd rfl rfl hu62.symm (by omega) (by omega) (by omega)
      refine og_dadd (pc' := 175) X57 hx (hb hby at_174) (own_nnx x62 (by omega) (by omega)) x62 rfl ?_
      refine og_dload (pc' := 177) X57 hx (hb hby at_175) rfl rfl ?_
      refine og_dload (pc' := 179) X57 hx (hb hby at_177) rfl rfl ?_
      obtain ⟨u63, hu63⟩ : ∃ q : Int, q = (q1 * q2) := ⟨_, rfl⟩
      have a63 : 0 ≤ u63 := by rw [hu63]; exact Int.mul_nonneg (by omega) (by omega)
      have z63 : u63 ≤ 65536 := by rw [hu63]; exact Int.le_trans (Int.mul_le_mul z_q1 z_q2 (by omega) (by omega)) (by decide)
      have x63 : FP.dmul (own_D 8 q1) (own_D 8 q2) = own_D 16 u63 := own_xmul rfl rfl hu63.symm rfl (by omega) (by omega) (by omega) (by omega) (by omega) (by omega)
      refine og_dmul (pc' := 180) X57 hx (hb hby at_179) (own_nnx x63 (by omega) (by omega)) x63 rfl ?_
      refine og_dload (pc' := 182) X57 hx (hb hby at_180) rfl rfl ?_
      obtain ⟨u64, hu64⟩ : ∃ q : Int, q = (u63 * q3) := ⟨_, rfl⟩
      have a64 : 0 ≤ u64 := by rw [hu64]; exact Int.mul_nonneg (by omega) (by omega)
      have z64 : u64 ≤ 16777216 := by rw [hu64]; exact Int.le_trans (Int.mul_le_mul z63 z_q3 (by omega) (by omega)) (by decide)
      have x64 : FP.dmul (own_D 16 u63) (own_D 8 q3) = own_D 24 u64 := own_xmul rfl rfl hu64.symm rfl (by omega) (by omega) (by omega) (by omega) (by omega) (by omega)
      refine og_dmul (pc' := 183) X57 hx (hb hby at_182) (own_nnx x64 (by omega) (by omega)) x64 rfl ?_
      obtain ⟨u65, hu65⟩ : ∃ q : Int, q = (u62 * 256) := ⟨_, rfl⟩
      have y65 : _ = own_D 24 u65 := (rfl : own_D 16 u62 = own_D 16 u62).trans (by rw [hu65]; exact own_resc _ _)
      have a65 : 0 ≤ u65 := by omega
      have z65 : u65 ≤ 50331648 := by omega
      obtain ⟨u66, hu66⟩ : ∃ q : Int, q = (u65 - u64) := ⟨_, rfl⟩
      have a66 : -16777216 ≤ u66 := by omega
      have z66 : u66 ≤ 50331648 := by omega
      have x66 : FP.dsub (own_D 16 u62) (own_D 24 u64) = own_D 24 u66 := own_xsub y65 rfl hu66.symm (by omega) (by omega) (by omega)
      refine og_dsub (pc' := 184) X57 hx (hb hby at_183) (own_nnx x66 (by omega) (by omega)) x66 rfl ?_
      refine og_dload (pc' := 186) X57 hx (hb hby at_184) rfl rfl ?_
      refine og_dload (pc' := 188) X57 hx (hb hby at_186) rfl rfl ?_
      obtain ⟨u67, hu67⟩ : ∃ q : Int, q = (q2 * q3) := ⟨_, rfl⟩
      have a67 : 0 ≤ u67 := by rw [hu67]; exact Int.mul_nonneg (by omega) (by omega)
      have z67 : u67 ≤ 65536 := by rw [hu67]; exact Int.le_trans (Int.mul_le_mul z_q2 z_q3 (by omega) (by omega)) (by decide)
      have x67 : FP.dmul (own_D 8 q2) (own_D 8 q3) = own_D 16 u67 := own_xmul rfl rfl hu67.symm rfl (by omega) (by omega) (by omega) (by omega) (by omega) (by omega)
      refine og_dmul (pc' := 189) X57 hx (hb hby at_188) (own_nnx x67 (by omega) (by omega)) x67 rfl ?_
      refine og_dload (pc' := 191) X57 hx (hb hby at_189) rfl rfl ?_
      obtain ⟨u68, hu68⟩ : ∃ q : Int, q = (u67 * q4) := ⟨_, rfl⟩
      have a68 : 0 ≤ u68 := by rw [hu68]; exact Int.mul_nonneg (by omega) (by omega)
      have z68 : u68 ≤ 16777216 := by rw [hu68]; exact Int.le_trans (Int.mul_le_mul z67 z_q4 (by omega) (by omega)) (by decide)
      have x68 : FP.dmul (own_D 16 u67) (own_D 8 q4) = own_D 24 u68 := own_xmul rfl rfl hu68.symm rfl (by omega) (by omega) (by omega) (by omega) (by omega) (by omega)
      refine og_dmul (pc' := 192) X57 hx (hb hby at_191) (own_nnx x68 (by omega) (by omega)) x68 rfl ?_
      obtain ⟨u69, hu69⟩ : ∃ q : Int, q = (u66 - u68) := ⟨_, rfl⟩
      have a69 : -33554432 ≤ u69 := by omega
      have z69 : u69 ≤ 50331648 := by omega
      have x69 : FP.dsub (own_D 24 u66) (own_D 24 u68) = own_D 24 u69 := own_xsub rfl rfl hu69.symm (by omega) (by omega) (by omega)
      refine og_dsub (pc' := 193) X57 hx (hb hby at_192) (own_nnx x69 (by omega) (by omega)) x69 rfl ?_
      refine og_dstore (pc' := 195) (L' := #[.val (.int x0), .val (.int x1), .val (.int x2), .val (.int x3), .val (.int x4), .val (.int (2 : Int32)), .val (.int nv), .val (.double (own_D 8 q1)), .second, .val (.double (own_D 8 q2)), .second, .val (.double (own_D 8 q3)), .second, .val (.double (own_D 8 q4)), .second, .val (.ref b56), .val (.double (own_D 24 u69)), .second]) X57 hx (hb hby at_193) rfl rfl ?_
      refine og_goto (pc' := 263) X57 hx (hb hby at_195) (by decide) (by decide) ?_
      refine og_aload (pc' := 265) X57 hx (hb hby at_263) rfl rfl rfl ?_
      obtain ⟨cq70, kq70, q70a, q70b, q70c⟩ := isOf hZ rfl c57_0
      obtain ⟨_, _, ⟨T70, L70, k70, n70⟩, -, X70, ⟨Lc70, hQ70, l70, y70, z70⟩, st70⟩ := X57.virtualBack hx (y := (⟨"com/example/paranhos/paranhos/MatchRuns", "matched", "()D"⟩ : MethodName)) (z := (⟨"com/example/paranhos/paranhos/MatchRuns", "matched", "()D"⟩ : MethodName)) hown (mvT hZ (hw _ (List.mem_of_getElem? (i := 16) rfl))) (mvT hZ (hw _ (List.mem_of_getElem? (i := 17) rfl))) (notFace_of_selects (args := #[]) (mvT hZ (hw _ (List.mem_of_getElem? (i := 19) rfl)))) (mvT hZ (hw _ (List.mem_of_getElem? (i := 19) rfl))) (mvT hZ (hw _ (List.mem_of_getElem? (i := 18) rfl))) (by decide) (backOf (W := 0) (rmmat l Z a0 hw [] b56 (own_D 0 0) T57.heap n0 Z57 FM0) hZ (hw _ (List.mem_of_getElem? (i := 20) rfl)) (hw _ (List.mem_of_getElem? (i := 6) rfl)) (by decide) (by decide)) q70a q70c (g := (mkF m 265 #[.val (.int x0), .val (.int x1), .val (.int x2), .val (.int x3), .val (.int x4), .val (.int (2 : Int32)), .val (.int nv), .val (.double (own_D 8 q1)), .second, .val (.double (own_D 8 q2)), .second, .val (.double (own_D 8 q3)), .second, .val (.double (own_D 8 q4)), .second, .val (.ref b56), .val (.double (own_D 24 u69)), .second] [(.ref b56)])) rfl (by rw [hml]; rfl) (Steps.refl _) (argsL := []) (rest := []) (lenOf pd_2 rfl) rfl (by show 2 * 0 + _ ≤ _; exact Nat.le_of_eq rfl) (hb hby at_265) (fun _ _ => ⟨rfl, rfl, (by decide : 2 + 0 ≤ _), (by decide : 4 + 0 ≤ _)⟩)
      dsimp only [Pt.U, Pt.locs, Pt.cells, Pt.slots] at X70 l70 y70 z70 st70 hQ70
      subst l70 y70 z70
      obtain ⟨rfl, N70q, e70⟩ := hQ70
      have N70 := Fr.app N57 N70q
      obtain ⟨J70, X70, N70⟩ := own_hide X70 N70
      refine own_Go.of (g' := (mkF m 268 #[.val (.int x0), .val (.int x1), .val (.int x2), .val (.int x3), .val (.int x4), .val (.int (2 : Int32)), .val (.int nv), .val (.double (own_D 8 q1)), .second, .val (.double (own_D 8 q2)), .second, .val (.double (own_D 8 q3)), .second, .val (.double (own_D 8 q4)), .second, .val (.ref b56), .val (.double (own_D 24 u69)), .second] [(.double (own_D 0 0))])) (fun t k => st70.trans k) ?_
      refine og_dload (pc' := 270) X70 hx (hb hby at_268) rfl rfl ?_
      have hcmp : cmpValue (FP.dcmp (own_D 0 0) (own_D 24 u69)) .l = 0 := own_cmpE (own_res3 0 0) (own_res0 24 u69) (by first | (simp only [hq1, hq2, hq3, hq4, hu58, hu59, hu60, hu61, hu62, hu63, hu64, hu65, hu66, hu67, hu68, hu69]; done) | (simp only [hq1, hq2, hq3, hq4, hu58, hu59, hu60, hu61, hu62, hu63, hu64, hu65, hu66, hu67, hu68, hu69]; grind) | decide) (by decide) (by omega)
      refine og_dcmp (pc' := 271) X70 hx (hb hby at_270) hcmp rfl ?_
      refine og_ifNo (pc' := 274) X70 hx (hb hby at_271) ((if0 _ _).trans (teq (by decide)).2) rfl ?_
      refine og_iconst (pc' := 275) (n := 1) X70 hx (hb hby at_274) rfl rfl ?_
      refine og_goto (pc' := 279) X70 hx (hb hby at_275) (by decide) (by decide) ?_
      obtain ⟨fs, hr, hrun, hended, hW, hsame⟩ := X70.leave (v := some (.int (1 : Int32))) (fun h => by rw [Bd.returns] at h; cases h) (BodyLoose.notSynchronized Bd)
      refine ⟨_, _, retN X70 hx (t := .boolean) Bd.returns (by simp) (hb hby at_279) hr, hrun, hended, some (.int (1 : Int32)), _, rfl, ?_, ⟨_, rfl⟩, hW, hsame.mono (by decide) (by decide)⟩
      show Q0 Z x0 x1 x2 x3 x4 h0 n0 _ T70.heap _
      rw [e70]
      exact ⟨rfl, N70⟩
    · refine og_icmpNo (pc' := 74) X57 hx (hb hby at_71) (flt hc71_5).1 rfl ?_
      refine og_aload (pc' := 76) X57 hx (hb hby at_74) rfl rfl rfl ?_
      refine og_dload (pc' := 78) X57 hx (hb hby at_76) rfl rfl ?_
      obtain ⟨cq71, kq71, q71a, q71b, q71c⟩ := isOf hZ rfl c57_0
      obtain ⟨_, _, ⟨T71, L71, k71, n71⟩, -, X71, ⟨Lc71, hQ71, l71, y71, z71⟩, st71⟩ := X57.virtualBack hx (y := (⟨"com/example/paranhos/paranhos/MatchRuns", "add", "(D)V"⟩ : MethodName)) (z := (⟨"com/example/paranhos/paranhos/MatchRuns", "add", "(D)V"⟩ : MethodName)) hown (mvT hZ (hw _ (List.mem_of_getElem? (i := 24) rfl))) (mvT hZ (hw _ (List.mem_of_getElem? (i := 25) rfl))) (notFace_of_selects (args := #[]) (mvT hZ (hw _ (List.mem_of_getElem? (i := 27) rfl)))) (mvT hZ (hw _ (List.mem_of_getElem? (i := 27) rfl))) (mvT hZ (hw _ (List.mem_of_getElem? (i := 26) rfl))) (by decide) (backOf (W := 0) (rmadd2 l Z a0 hw [] b56 (own_D 8 q1) b_57 kk_57 0 1 q1 0 1 0 T57.heap n0 Z57 c57_0 c57_1 FM0 VM0 g_b56 g_b_57 ne57_0 rfl ⟨a_q1, z_q1⟩ hl0 hs0 ⟨by decide, by decide, own_o0⟩) hZ (hw _ (List.mem_of_getElem? (i := 28) rfl)) (hw _ (List.mem_of_getElem? (i := 6) rfl)) (by decide) (by decide)) q71a q71c (g := (mkF m 78 #[.val (.int x0), .val (.int x1), .val (.int x2), .val (.int x3), .val (.int x4), .val (.int (2 : Int32)), .val (.int nv), .val (.double (own_D 8 q1)), .second, .val (.double (own_D 8 q2)), .second, .val (.double (own_D 8 q3)), .second, .val (.double (own_D 8 q4)), .second, .val (.ref b56), .unset, .unset] [(.double (own_D 8 q1)), (.ref b56)])) rfl (by rw [hml]; rfl) (Steps.refl _) (argsL := [(.double (own_D 8 q1))]) (rest := []) (lenOf pd_3 rfl) rfl (by show 2 * 0 + _ ≤ _; exact Nat.le_of_eq rfl) (hb hby at_78) (fun _ _ => ⟨rfl, rfl, (by decide : 2 + 0 ≤ _), (by decide : 4 + 0 ≤ _)⟩)
      dsimp only [Pt.U, Pt.locs, Pt.cells, Pt.slots] at X71 l71 y71 z71 st71 hQ71
      subst l71 y71 z71
      obtain ⟨nm_71, w0_71, w1_71, rfl, N71q, K71q, c71_0, c71_1, c71_2, c71_3, c71_4, c71_5, c71_6⟩ := hQ71
      have N71 := Fr.app N57 N71q
      obtain ⟨J71, X71, N71⟩ := own_hide X71 N71
      have f71_0 := c57_0.keep K71q
      have K71 : Keep h0 T71.heap [] := K57.trans K71q (allS (Or.inr sz_b56) (allS (Or.inr sz_b_57) all0))
      have Z71 : n0 ≤ T71.heap.size := Nat.le_trans Z0 K71.1
      refine own_Go.of (g' := (mkF m 81 #[.val (.int x0), .val (.int x1), .val (.int x2), .val (.int x3), .val (.int x4), .val (.int (2 : Int32)), .val (.int nv), .val (.double (own_D 8 q1)), .second, .val (.double (own_D 8 q2)), .second, .val (.double (own_D 8 q3)), .second, .val (.double (own_D 8 q4)), .second, .val (.ref b56), .unset, .unset] [])) (fun t k => st71.trans k) ?_
      obtain ⟨hl1, hs1⟩ := own_inv2 (M := 1) ⟨a_q1, z_q1⟩ hl0 hs0 c71_4 c71_5 c71_6
      have hs1 : nm_71 + w0_71 + w1_71 = 256 := hs1
      have FM1 : Fld Z T71.heap b56 "com/example/paranhos/paranhos/MatchRuns" "matched" "D" (.double (own_D 8 nm_71)) := c71_2
      have VM1 : Arv Z T71.heap b_57 kk_57 .double (2 : Int32) [(.double (own_D 8 w0_71)), (.double (own_D 8 w1_71))] (.double (0 : UInt64)) := c71_3
      refine og_iload (pc' := 83) X71 hx (hb hby at_81) rfl rfl ?_
      refine og_iconst (pc' := 84) (n := 2) X71 hx (hb hby at_83) rfl rfl ?_
      by_cases hc84_6 : nv < (2 : Int32)
      · refine og_icmpYes (pc' := 94) X71 hx (hb hby at_84) (tlt hc84_6).1 (by decide) (by decide) ?_
        refine og_iload (pc' := 96) X71 hx (hb hby at_94) rfl rfl ?_
        refine og_iconst (pc' := 97) (n := 3) X71 hx (hb hby at_96) rfl rfl ?_
        refine og_icmpYes (pc' := 107) X71 hx (hb hby at_97) (tlt (own_ltt hc84_6 (by decide))).1 (by decide) (by decide) ?_
        refine og_iload (pc' := 109) X71 hx (hb hby at_107) rfl rfl ?_
        refine og_iconst (pc' := 110) (n := 4) X71 hx (hb hby at_109) rfl rfl ?_
        refine og_icmpYes (pc' := 120) X71 hx (hb hby at_110) (tlt (own_ltt hc84_6 (by decide))).1 (by decide) (by decide) ?_
        have hq2 : q2 = 0 := hq2.trans (if_pos hc84_6)
        have hq3 : q3 = 0 := hq3.trans (if_pos (own_ltt hc84_6 (by decide)))
        have hq4 : q4 = 0 := hq4.trans (if_pos (own_ltt hc84_6 (by decide)))
        refine og_iload (pc' := 122) X71 hx (hb hby at_120) rfl rfl ?_
        refine og_iconst (pc' := 123) (n := 1) X71 hx (hb hby at_122) rfl rfl ?_
        refine og_icmpYes (pc' := 152) X71 hx (hb hby at_123) (feq (by decide)).2 (by decide) (by decide) ?_
        refine og_iload (pc' := 154) X71 hx (hb hby at_152) rfl rfl ?_
        refine og_iconst (pc' := 155) (n := 2) X71 hx (hb hby at_154) rfl rfl ?_
        refine og_icmpNo (pc' := 158) X71 hx (hb hby at_155) (teq (by decide)).2 rfl ?_
        refine og_dload (pc' := 160) X71 hx (hb hby at_158) rfl rfl ?_
        refine og_dload (pc' := 162) X71 hx (hb hby at_160) rfl rfl ?_
        obtain ⟨u72, hu72⟩ : ∃ q : Int, q = (q1 * q2) := ⟨_, rfl⟩
        have a72 : 0 ≤ u72 := by rw [hu72]; exact Int.mul_nonneg (by omega) (by omega)
        have z72 : u72 ≤ 65536 := by rw [hu72]; exact Int.le_trans (Int.mul_le_mul z_q1 z_q2 (by omega) (by omega)) (by decide)
        have x72 : FP.dmul (own_D 8 q1) (own_D 8 q2) = own_D 16 u72 := own_xmul rfl rfl hu72.symm rfl (by omega) (by omega) (by omega) (by omega) (by omega) (by omega)
        refine og_dmul (pc' := 163) X71 hx (hb hby at_162) (own_nnx x72 (by omega) (by omega)) x72 rfl ?_
        refine og_dload (pc' := 165) X71 hx (hb hby at_163) rfl rfl ?_
        refine og_dload (pc' := 167) X71 hx (hb hby at_165) rfl rfl ?_
        obtain ⟨u73, hu73⟩ : ∃ q : Int, q = (q2 * q3) := ⟨_, rfl⟩
        have a73 : 0 ≤ u73 := by rw [hu73]; exact Int.mul_nonneg (by omega) (by omega)
        have z73 : u73 ≤ 65536 := by rw [hu73]; exact Int.le_trans (Int.mul_le_mul z_q2 z_q3 (by omega) (by omega)) (by decide)
        have x73 : FP.dmul (own_D 8 q2) (own_D 8 q3) = own_D 16 u73 := own_xmul rfl rfl hu73.symm rfl (by omega) (by omega) (by omega) (by omega) (by omega) (by omega)
        refine og_dmul (pc' := 168) X71 hx (hb hby at_167) (own_nnx x73 (by omega) (by omega)) x73 rfl ?_
        obtain ⟨u74, hu74⟩ : ∃ q : Int, q = (u72 + u73) := ⟨_, rfl⟩
        have a74 : 0 ≤ u74 := by omega
        have z74 : u74 ≤ 131072 := by omega
        have x74 : FP.dadd (own_D 16 u72) (own_D 16 u73) = own_D 16 u74 := own_xadd rfl rfl hu74.symm (by omega) (by omega) (by omega)
        refine og_dadd (pc' := 169) X71 hx (hb hby at_168) (own_nnx x74 (by omega) (by omega)) x74 rfl ?_
        refine og_dload (pc' := 171) X71 hx (hb hby at_169) rfl rfl ?_
        refine og_dload (pc' := 173) X71 hx (hb hby at_171) rfl rfl ?_
        obtain ⟨u75, hu75⟩ : ∃ q : Int, q = (q3 * q4) := ⟨_, rfl⟩
        have a75 : 0 ≤ u75 := by rw [hu75]; exact Int.mul_nonneg (by omega) (by omega)
        have z75 : u75 ≤ 65536 := by rw [hu75]; exact Int.le_trans (Int.mul_le_mul z_q3 z_q4 (by omega) (by omega)) (by decide)
        have x75 : FP.dmul (own_D 8 q3) (own_D 8 q4) = own_D 16 u75 := own_xmul rfl rfl hu75.symm rfl (by omega) (by omega) (by omega) (by omega) (by omega) (by omega)
        refine og_dmul (pc' := 174) X71 hx (hb hby at_173) (own_nnx x75 (by omega) (by omega)) x75 rfl ?_
        obtain ⟨u76, hu76⟩ : ∃ q : Int, q = (u74 + u75) := ⟨_, rfl⟩
        have a76 : 0 ≤ u76 := by omega
        have z76 : u76 ≤ 196608 := by omega
        have x76 : FP.dadd (own_D 16 u74) (own_D 16 u75) = own_D 16 u76 := own_xadd rfl rfl hu76.symm (by omega) (by omega) (by omega)
        refine og_dadd (pc' := 175) X71 hx (hb hby at_174) (own_nnx x76 (by omega) (by omega)) x76 rfl ?_
        refine og_dload (pc' := 177) X71 hx (hb hby at_175) rfl rfl ?_
        refine og_dload (pc' := 179) X71 hx (hb hby at_177) rfl rfl ?_
        obtain ⟨u77, hu77⟩ : ∃ q : Int, q = (q1 * q2) := ⟨_, rfl⟩
        have a77 : 0 ≤ u77 := by rw [hu77]; exact Int.mul_nonneg (by omega) (by omega)
        have z77 : u77 ≤ 65536 := by rw [hu77]; exact Int.le_trans (Int.mul_le_mul z_q1 z_q2 (by omega) (by omega)) (by decide)
        have x77 : FP.dmul (own_D 8 q1) (own_D 8 q2) = own_D 16 u77 := own_xmul rfl rfl hu77.symm rfl (by omega) (by omega) (by omega) (by omega) (by omega) (by omega)
        refine og_dmul (pc' := 180) X71 hx (hb hby at_179) (own_nnx x77 (by omega) (by omega)) x77 rfl ?_
        refine og_dload (pc' := 182) X71 hx (hb hby at_180) rfl rfl ?_
        obtain ⟨u78, hu78⟩ : ∃ q : Int, q = (u77 * q3) := ⟨_, rfl⟩
        have a78 : 0 ≤ u78 := by rw [hu78]; exact Int.mul_nonneg (by omega) (by omega)
        have z78 : u78 ≤ 16777216 := by rw [hu78]; exact Int.le_trans (Int.mul_le_mul z77 z_q3 (by omega) (by omega)) (by decide)
        have x78 : FP.dmul (own_D 16 u77) (own_D 8 q3) = own_D 24 u78 := own_xmul rfl rfl hu78.symm rfl (by omega) (by omega) (by omega) (by omega) (by omega) (by omega)
        refine og_dmul (pc' := 183) X71 hx (hb hby at_182) (own_nnx x78 (by omega) (by omega)) x78 rfl ?_
        obtain ⟨u79, hu79⟩ : ∃ q : Int, q = (u76 * 256) := ⟨_, rfl⟩
        have y79 : _ = own_D 24 u79 := (rfl : own_D 16 u76 = own_D 16 u76).trans (by rw [hu79]; exact own_resc _ _)
        have a79 : 0 ≤ u79 := by omega
        have z79 : u79 ≤ 50331648 := by omega
        obtain ⟨u80, hu80⟩ : ∃ q : Int, q = (u79 - u78) := ⟨_, rfl⟩
        have a80 : -16777216 ≤ u80 := by omega
        have z80 : u80 ≤ 50331648 := by omega
        have x80 : FP.dsub (own_D 16 u76) (own_D 24 u78) = own_D 24 u80 := own_xsub y79 rfl hu80.symm (by omega) (by omega) (by omega)
        refine og_dsub (pc' := 184) X71 hx (hb hby at_183) (own_nnx x80 (by omega) (by omega)) x80 rfl ?_
        refine og_dload (pc' := 186) X71 hx (hb hby at_184) rfl rfl ?_
        refine og_dload (pc' := 188) X71 hx (hb hby at_186) rfl rfl ?_
        obtain ⟨u81, hu81⟩ : ∃ q : Int, q = (q2 * q3) := ⟨_, rfl⟩
        have a81 : 0 ≤ u81 := by rw [hu81]; exact Int.mul_nonneg (by omega) (by omega)
        have z81 : u81 ≤ 65536 := by rw [hu81]; exact Int.le_trans (Int.mul_le_mul z_q2 z_q3 (by omega) (by omega)) (by decide)
        have x81 : FP.dmul (own_D 8 q2) (own_D 8 q3) = own_D 16 u81 := own_xmul rfl rfl hu81.symm rfl (by omega) (by omega) (by omega) (by omega) (by omega) (by omega)
        refine og_dmul (pc' := 189) X71 hx (hb hby at_188) (own_nnx x81 (by omega) (by omega)) x81 rfl ?_
        refine og_dload (pc' := 191) X71 hx (hb hby at_189) rfl rfl ?_
        obtain ⟨u82, hu82⟩ : ∃ q : Int, q = (u81 * q4) := ⟨_, rfl⟩
        have a82 : 0 ≤ u82 := by rw [hu82]; exact Int.mul_nonneg (by omega) (by omega)
        have z82 : u82 ≤ 16777216 := by rw [hu82]; exact Int.le_trans (Int.mul_le_mul z81 z_q4 (by omega) (by omega)) (by decide)
        have x82 : FP.dmul (own_D 16 u81) (own_D 8 q4) = own_D 24 u82 := own_xmul rfl rfl hu82.symm rfl (by omega) (by omega) (by omega) (by omega) (by omega) (by omega)
        refine og_dmul (pc' := 192) X71 hx (hb hby at_191) (own_nnx x82 (by omega) (by omega)) x82 rfl ?_
        obtain ⟨u83, hu83⟩ : ∃ q : Int, q = (u80 - u82) := ⟨_, rfl⟩
        have a83 : -33554432 ≤ u83 := by omega
        have z83 : u83 ≤ 50331648 := by omega
        have x83 : FP.dsub (own_D 24 u80) (own_D 24 u82) = own_D 24 u83 := own_xsub rfl rfl hu83.symm (by omega) (by omega) (by omega)
        refine og_dsub (pc' := 193) X71 hx (hb hby at_192) (own_nnx x83 (by omega) (by omega)) x83 rfl ?_
        refine og_dstore (pc' := 195) (L' := #[.val (.int x0), .val (.int x1), .val (.int x2), .val (.int x3), .val (.int x4), .val (.int (2 : Int32)), .val (.int nv), .val (.double (own_D 8 q1)), .second, .val (.double (own_D 8 q2)), .second, .val (.double (own_D 8 q3)), .second, .val (.double (own_D 8 q4)), .second, .val (.ref b56), .val (.double (own_D 24 u83)), .second]) X71 hx (hb hby at_193) rfl rfl ?_
        refine og_goto (pc' := 263) X71 hx (hb hby at_195) (by decide) (by decide) ?_
        refine og_aload (pc' := 265) X71 hx (hb hby at_263) rfl rfl rfl ?_
        obtain ⟨cq84, kq84, q84a, q84b, q84c⟩ := isOf hZ rfl c71_0
        obtain ⟨_, _, ⟨T84, L84, k84, n84⟩, -, X84, ⟨Lc84, hQ84, l84, y84, z84⟩, st84⟩ := X71.virtualBack hx (y := (⟨"com/example/paranhos/paranhos/MatchRuns", "matched", "()D"⟩ : MethodName)) (z := (⟨"com/example/paranhos/paranhos/MatchRuns", "matched", "()D"⟩ : MethodName)) hown (mvT hZ (hw _ (List.mem_of_getElem? (i := 16) rfl))) (mvT hZ (hw _ (List.mem_of_getElem? (i := 17) rfl))) (notFace_of_selects (args := #[]) (mvT hZ (hw _ (List.mem_of_getElem? (i := 19) rfl)))) (mvT hZ (hw _ (List.mem_of_getElem? (i := 19) rfl))) (mvT hZ (hw _ (List.mem_of_getElem? (i := 18) rfl))) (by decide) (backOf (W := 0) (rmmat l Z a0 hw [] b56 (own_D 8 nm_71) T71.heap n0 Z71 FM1) hZ (hw _ (List.mem_of_getElem? (i := 20) rfl)) (hw _ (List.mem_of_getElem? (i := 6) rfl)) (by decide) (by decide)) q84a q84c (g := (mkF m 265 #[.val (.int x0), .val (.int x1), .val (.int x2), .val (.int x3), .val (.int x4), .val (.int (2 : Int32)), .val (.int nv), .val (.double (own_D 8 q1)), .second, .val (.double (own_D 8 q2)), .second, .val (.double (own_D 8 q3)), .second, .val (.double (own_D 8 q4)), .second, .val (.ref b56), .val (.double (own_D 24 u83)), .second] [(.ref b56)])) rfl (by rw [hml]; rfl) (Steps.refl _) (argsL := []) (rest := []) (lenOf pd_2 rfl) rfl (by show 2 * 0 + _ ≤ _; exact Nat.le_of_eq rfl) (hb hby at_265) (fun _ _ => ⟨rfl, rfl, (by decide : 2 + 0 ≤ _), (by decide : 4 + 0 ≤ _)⟩)
        dsimp only [Pt.U, Pt.locs, Pt.cells, Pt.slots] at X84 l84 y84 z84 st84 hQ84
        subst l84 y84 z84
        obtain ⟨rfl, N84q, e84⟩ := hQ84
        have N84 := Fr.app N71 N84q
        obtain ⟨J84, X84, N84⟩ := own_hide X84 N84
        refine own_Go.of (g' := (mkF m 268 #[.val (.int x0), .val (.int x1), .val (.int x2), .val (.int x3), .val (.int x4), .val (.int (2 : Int32)), .val (.int nv), .val (.double (own_D 8 q1)), .second, .val (.double (own_D 8 q2)), .second, .val (.double (own_D 8 q3)), .second, .val (.double (own_D 8 q4)), .second, .val (.ref b56), .val (.double (own_D 24 u83)), .second] [(.double (own_D 8 nm_71))])) (fun t k => st84.trans k) ?_
        refine og_dload (pc' := 270) X84 hx (hb hby at_268) rfl rfl ?_
        have hcmp : cmpValue (FP.dcmp (own_D 8 nm_71) (own_D 24 u83)) .l = 0 := own_cmpE (own_res2 8 nm_71) (own_res0 24 u83) (by first | (simp only [c71_4, c71_5, c71_6, hq2, hq3, hq4, hu72, hu73, hu74, hu75, hu76, hu77, hu78, hu79, hu80, hu81, hu82, hu83]; done) | (simp only [c71_4, c71_5, c71_6, hq2, hq3, hq4, hu72, hu73, hu74, hu75, hu76, hu77, hu78, hu79, hu80, hu81, hu82, hu83]; grind) | decide) (by decide) (by omega)
        refine og_dcmp (pc' := 271) X84 hx (hb hby at_270) hcmp rfl ?_
        refine og_ifNo (pc' := 274) X84 hx (hb hby at_271) ((if0 _ _).trans (teq (by decide)).2) rfl ?_
        refine og_iconst (pc' := 275) (n := 1) X84 hx (hb hby at_274) rfl rfl ?_
        refine og_goto (pc' := 279) X84 hx (hb hby at_275) (by decide) (by decide) ?_
        obtain ⟨fs, hr, hrun, hended, hW, hsame⟩ := X84.leave (v := some (.int (1 : Int32))) (fun h => by rw [Bd.returns] at h; cases h) (BodyLoose.notSynchronized Bd)
        refine ⟨_, _, retN X84 hx (t := .boolean) Bd.returns (by simp) (hb hby at_279) hr, hrun, hended, some (.int (1 : Int32)), _, rfl, ?_, ⟨_, rfl⟩, hW, hsame.mono (by decide) (by decide)⟩
        show Q0 Z x0 x1 x2 x3 x4 h0 n0 _ T84.heap _
        rw [e84]
        exact ⟨rfl, N84⟩
      · refine og_icmpNo (pc' := 87) X71 hx (hb hby at_84) (flt hc84_6).1 rfl ?_
        refine og_aload (pc' := 89) X71 hx (hb hby at_87) rfl rfl rfl ?_
        refine og_dload (pc' := 91) X71 hx (hb hby at_89) rfl rfl ?_
        obtain ⟨cq85, kq85, q85a, q85b, q85c⟩ := isOf hZ rfl c71_0
        obtain ⟨_, _, ⟨T85, L85, k85, n85⟩, -, X85, ⟨Lc85, hQ85, l85, y85, z85⟩, st85⟩ := X71.virtualBack hx (y := (⟨"com/example/paranhos/paranhos/MatchRuns", "add", "(D)V"⟩ : MethodName)) (z := (⟨"com/example/paranhos/paranhos/MatchRuns", "add", "(D)V"⟩ : MethodName)) hown (mvT hZ (hw _ (List.mem_of_getElem? (i := 24) rfl))) (mvT hZ (hw _ (List.mem_of_getElem? (i := 25) rfl))) (notFace_of_selects (args := #[]) (mvT hZ (hw _ (List.mem_of_getElem? (i := 27) rfl)))) (mvT hZ (hw _ (List.mem_of_getElem? (i := 27) rfl))) (mvT hZ (hw _ (List.mem_of_getElem? (i := 26) rfl))) (by decide) (backOf (W := 0) (rmadd2 l Z a0 hw [] b56 (own_D 8 q2) b_57 kk_57 8 256 q2 nm_71 w0_71 w1_71 T71.heap n0 Z71 c71_0 c71_1 FM1 VM1 g_b56 g_b_57 ne57_0 rfl ⟨a_q2, z_q2⟩ hl1 hs1 ⟨by decide, by decide, own_o8⟩) hZ (hw _ (List.mem_of_getElem? (i := 28) rfl)) (hw _ (List.mem_of_getElem? (i := 6) rfl)) (by decide) (by decide)) q85a q85c (g := (mkF m 91 #[.val (.int x0), .val (.int x1), .val (.int x2), .val (.int x3), .val (.int x4), .val (.int (2 : Int32)), .val (.int nv), .val (.double (own_D 8 q1)), .second, .val (.double (own_D 8 q2)), .second, .val (.double (own_D 8 q3)), .second, .val (.double (own_D 8 q4)), .second, .val (.ref b56), .unset, .unset] [(.double (own_D 8 q2)), (.ref b56)])) rfl (by rw [hml]; rfl) (Steps.refl _) (argsL := [(.double (own_D 8 q2))]) (rest := []) (lenOf pd_3 rfl) rfl (by show 2 * 0 + _ ≤ _; exact Nat.le_of_eq rfl) (hb hby at_91) (fun _ _ => ⟨rfl, rfl, (by decide : 2 + 0 ≤ _), (by decide : 4 + 0 ≤ _)⟩)
        dsimp only [Pt.U, Pt.locs, Pt.cells, Pt.slots] at X85 l85 y85 z85 st85 hQ85
        subst l85 y85 z85
        obtain ⟨nm_85, w0_85, w1_85, rfl, N85q, K85q, c85_0, c85_1, c85_2, c85_3, c85_4, c85_5, c85_6⟩ := hQ85
        have N85 := Fr.app N71 N85q
        obtain ⟨J85, X85, N85⟩ := own_hide X85 N85
        have f85_0 := c71_0.keep K85q
        have K85 : Keep h0 T85.heap [] := K71.trans K85q (allS (Or.inr sz_b56) (allS (Or.inr sz_b_57) all0))
        have Z85 : n0 ≤ T85.heap.size := Nat.le_trans Z0 K85.1
        refine own_Go.of (g' := (mkF m 94 #[.val (.int x0), .val (.int x1), .val (.int x2), .val (.int x3), .val (.int x4), .val (.int (2 : Int32)), .val (.int nv), .val (.double (own_D 8 q1)), .second, .val (.double (own_D 8 q2)), .second, .val (.double (own_D 8 q3)), .second, .val (.double (own_D 8 q4)), .second, .val (.ref b56), .unset, .unset] [])) (fun t k => st85.trans k) ?_
        obtain ⟨hl2, hs2⟩ := own_inv2 (M := 256) ⟨a_q2, z_q2⟩ hl1 hs1 c85_4 c85_5 c85_6
        have hs2 : nm_85 + w0_85 + w1_85 = 65536 := hs2
        have FM2 : Fld Z T85.heap b56 "com/example/paranhos/paranhos/MatchRuns" "matched" "D" (.double (own_D 16 nm_85)) := c85_2
        have VM2 : Arv Z T85.heap b_57 kk_57 .double (2 : Int32) [(.double (own_D 16 w0_85)), (.double (own_D 16 w1_85))] (.double (0 : UInt64)) := c85_3
        refine og_iload (pc' := 96) X85 hx (hb hby at_94) rfl rfl ?_
        refine og_iconst (pc' := 97) (n := 3) X85 hx (hb hby at_96) rfl rfl ?_
        by_cases hc97_7 : nv < (3 : Int32)
        · refine og_icmpYes (pc' := 107) X85 hx (hb hby at_97) (tlt hc97_7).1 (by decide) (by decide) ?_
          refine og_iload (pc' := 109) X85 hx (hb hby at_107) rfl rfl ?_
          refine og_iconst (pc' := 110) (n := 4) X85 hx (hb hby at_109) rfl rfl ?_
          refine og_icmpYes (pc' := 120) X85 hx (hb hby at_110) (tlt (own_ltt hc97_7 (by decide))).1 (by decide) (by decide) ?_
          have hq3 : q3 = 0 := hq3.trans (if_pos hc97_7)
          have hq4 : q4 = 0 := hq4.trans (if_pos (own_ltt hc97_7 (by decide)))
          refine og_iload (pc' := 122) X85 hx (hb hby at_120) rfl rfl ?_
          refine og_iconst (pc' := 123) (n := 1) X85 hx (hb hby at_122) rfl rfl ?_
          refine og_icmpYes (pc' := 152) X85 hx (hb hby at_123) (feq (by decide)).2 (by decide) (by decide) ?_
          refine og_iload (pc' := 154) X85 hx (hb hby at_152) rfl rfl ?_
          refine og_iconst (pc' := 155) (n := 2) X85 hx (hb hby at_154) rfl rfl ?_
          refine og_icmpNo (pc' := 158) X85 hx (hb hby at_155) (teq (by decide)).2 rfl ?_
          refine og_dload (pc' := 160) X85 hx (hb hby at_158) rfl rfl ?_
          refine og_dload (pc' := 162) X85 hx (hb hby at_160) rfl rfl ?_
          obtain ⟨u86, hu86⟩ : ∃ q : Int, q = (q1 * q2) := ⟨_, rfl⟩
          have a86 : 0 ≤ u86 := by rw [hu86]; exact Int.mul_nonneg (by omega) (by omega)
          have z86 : u86 ≤ 65536 := by rw [hu86]; exact Int.le_trans (Int.mul_le_mul z_q1 z_q2 (by omega) (by omega)) (by decide)
          have x86 : FP.dmul (own_D 8 q1) (own_D 8 q2) = own_D 16 u86 := own_xmul rfl rfl hu86.symm rfl (by omega) (by omega) (by omega) (by omega) (by omega) (by omega)
          refine og_dmul (pc' := 163) X85 hx (hb hby at_162) (own_nnx x86 (by omega) (by omega)) x86 rfl ?_
          refine og_dload (pc' := 165) X85 hx (hb hby at_163) rfl rfl ?_
          refine og_dload (pc' := 167) X85 hx (hb hby at_165) rfl rfl ?_
          obtain ⟨u87, hu87⟩ : ∃ q : Int, q = (q2 * q3) := ⟨_, rfl⟩
          have a87 : 0 ≤ u87 := by rw [hu87]; exact Int.mul_nonneg (by omega) (by omega)
          have z87 : u87 ≤ 65536 := by rw [hu87]; exact Int.le_trans (Int.mul_le_mul z_q2 z_q3 (by omega) (by omega)) (by decide)
          have x87 : FP.dmul (own_D 8 q2) (own_D 8 q3) = own_D 16 u87 := own_xmul rfl rfl hu87.symm rfl (by omega) (by omega) (by omega) (by omega) (by omega) (by omega)
          refine og_dmul (pc' := 168) X85 hx (hb hby at_167) (own_nnx x87 (by omega) (by omega)) x87 rfl ?_
          obtain ⟨u88, hu88⟩ : ∃ q : Int, q = (u86 + u87) := ⟨_, rfl⟩
          have a88 : 0 ≤ u88 := by omega
          have z88 : u88 ≤ 131072 := by omega
          have x88 : FP.dadd (own_D 16 u86) (own_D 16 u87) = own_D 16 u88 := own_xadd rfl rfl hu88.symm (by omega) (by omega) (by omega)
          refine og_dadd (pc' := 169) X85 hx (hb hby at_168) (own_nnx x88 (by omega) (by omega)) x88 rfl ?_
          refine og_dload (pc' := 171) X85 hx (hb hby at_169) rfl rfl ?_
          refine og_dload (pc' := 173) X85 hx (hb hby at_171) rfl rfl ?_
          obtain ⟨u89, hu89⟩ : ∃ q : Int, q = (q3 * q4) := ⟨_, rfl⟩
          have a89 : 0 ≤ u89 := by rw [hu89]; exact Int.mul_nonneg (by omega) (by omega)
          have z89 : u89 ≤ 65536 := by rw [hu89]; exact Int.le_trans (Int.mul_le_mul z_q3 z_q4 (by omega) (by omega)) (by decide)
          have x89 : FP.dmul (own_D 8 q3) (own_D 8 q4) = own_D 16 u89 := own_xmul rfl rfl hu89.symm rfl (by omega) (by omega) (by omega) (by omega) (by omega) (by omega)
          refine og_dmul (pc' := 174) X85 hx (hb hby at_173) (own_nnx x89 (by omega) (by omega)) x89 rfl ?_
          obtain ⟨u90, hu90⟩ : ∃ q : Int, q = (u88 + u89) := ⟨_, rfl⟩
          have a90 : 0 ≤ u90 := by omega
          have z90 : u90 ≤ 196608 := by omega
          have x90 : FP.dadd (own_D 16 u88) (own_D 16 u89) = own_D 16 u90 := own_xadd rfl rfl hu90.symm (by omega) (by omega) (by omega)
          refine og_dadd (pc' := 175) X85 hx (hb hby at_174) (own_nnx x90 (by omega) (by omega)) x90 rfl ?_
          refine og_dload (pc' := 177) X85 hx (hb hby at_175) rfl rfl ?_
          refine og_dload (pc' := 179) X85 hx (hb hby at_177) rfl rfl ?_
          obtain ⟨u91, hu91⟩ : ∃ q : Int, q = (q1 * q2) := ⟨_, rfl⟩
          have a91 : 0 ≤ u91 := by rw [hu91]; exact Int.mul_nonneg (by omega) (by omega)
          have z91 : u91 ≤ 65536 := by rw [hu91]; exact Int.le_trans (Int.mul_le_mul z_q1 z_q2 (by omega) (by omega)) (by decide)
          have x91 : FP.dmul (own_D 8 q1) (own_D 8 q2) = own_D 16 u91 := own_xmul rfl rfl hu91.symm rfl (by omega) (by omega) (by omega) (by omega) (by omega) (by omega)
          refine og_dmul (pc' := 180) X85 hx (hb hby at_179) (own_nnx x91 (by omega) (by omega)) x91 rfl ?_
          refine og_dload (pc' := 182) X85 hx (hb hby at_180) rfl rfl ?_
          obtain ⟨u92, hu92⟩ : ∃ q : Int, q = (u91 * q3) := ⟨_, rfl⟩
          have a92 : 0 ≤ u92 := by rw [hu92]; exact Int.mul_nonneg (by omega) (by omega)
          have z92 : u92 ≤ 16777216 := by rw [hu92]; exact Int.le_trans (Int.mul_le_mul z91 z_q3 (by omega) (by omega)) (by decide)
          have x92 : FP.dmul (own_D 16 u91) (own_D 8 q3) = own_D 24 u92 := own_xmul rfl rfl hu92.symm rfl (by omega) (by omega) (by omega) (by omega) (by omega) (by omega)
          refine og_dmul (pc' := 183) X85 hx (hb hby at_182) (own_nnx x92 (by omega) (by omega)) x92 rfl ?_
          obtain ⟨u93, hu93⟩ : ∃ q : Int, q = (u90 * 256) := ⟨_, rfl⟩
          have y93 : _ = own_D 24 u93 := (rfl : own_D 16 u90 = own_D 16 u90).trans (by rw [hu93]; exact own_resc _ _)
          have a93 : 0 ≤ u93 := by omega
          have z93 : u93 ≤ 50331648 := by omega
          obtain ⟨u94, hu94⟩ : ∃ q : Int, q = (u93 - u92) := ⟨_, rfl⟩
          have a94 : -16777216 ≤ u94 := by omega
          have z94 : u94 ≤ 50331648 := by omega
          have x94 : FP.dsub (own_D 16 u90) (own_D 24 u92) = own_D 24 u94 := own_xsub y93 rfl hu94.symm (by omega) (by omega) (by omega)
          refine og_dsub (pc' := 184) X85 hx (hb hby at_183) (own_nnx x94 (by omega) (by omega)) x94 rfl ?_
          refine og_dload (pc' := 186) X85 hx (hb hby at_184) rfl rfl ?_
          refine og_dload (pc' := 188) X85 hx (hb hby at_186) rfl rfl ?_
          obtain ⟨u95, hu95⟩ : ∃ q : Int, q = (q2 * q3) := ⟨_, rfl⟩
          have a95 : 0 ≤ u95 := by rw [hu95]; exact Int.mul_nonneg (by omega) (by omega)
          have z95 : u95 ≤ 65536 := by rw [hu95]; exact Int.le_trans (Int.mul_le_mul z_q2 z_q3 (by omega) (by omega)) (by decide)
          have x95 : FP.dmul (own_D 8 q2) (own_D 8 q3) = own_D 16 u95 := own_xmul rfl rfl hu95.symm rfl (by omega) (by omega) (by omega) (by omega) (by omega) (by omega)
          refine og_dmul (pc' := 189) X85 hx (hb hby at_188) (own_nnx x95 (by omega) (by omega)) x95 rfl ?_
          refine og_dload (pc' := 191) X85 hx (hb hby at_189) rfl rfl ?_
          obtain ⟨u96, hu96⟩ : ∃ q : Int, q = (u95 * q4) := ⟨_, rfl⟩
          have a96 : 0 ≤ u96 := by rw [hu96]; exact Int.mul_nonneg (by omega) (by omega)
          have z96 : u96 ≤ 16777216 := by rw [hu96]; exact Int.le_trans (Int.mul_le_mul z95 z_q4 (by omega) (by omega)) (by decide)
          have x96 : FP.dmul (own_D 16 u95) (own_D 8 q4) = own_D 24 u96 := own_xmul rfl rfl hu96.symm rfl (by omega) (by omega) (by omega) (by omega) (by omega) (by omega)
          refine og_dmul (pc' := 192) X85 hx (hb hby at_191) (own_nnx x96 (by omega) (by omega)) x96 rfl ?_
          obtain ⟨u97, hu97⟩ : ∃ q : Int, q = (u94 - u96) := ⟨_, rfl⟩
          have a97 : -33554432 ≤ u97 := by omega
          have z97 : u97 ≤ 50331648 := by omega
          have x97 : FP.dsub (own_D 24 u94) (own_D 24 u96) = own_D 24 u97 := own_xsub rfl rfl hu97.symm (by omega) (by omega) (by omega)
          refine og_dsub (pc' := 193) X85 hx (hb hby at_192) (own_nnx x97 (by omega) (by omega)) x97 rfl ?_
          refine og_dstore (pc' := 195) (L' := #[.val (.int x0), .val (.int x1), .val (.int x2), .val (.int x3), .val (.int x4), .val (.int (2 : Int32)), .val (.int nv), .val (.double (own_D 8 q1)), .second, .val (.double (own_D 8 q2)), .second, .val (.double (own_D 8 q3)), .second, .val (.double (own_D 8 q4)), .second, .val (.ref b56), .val (.double (own_D 24 u97)), .second]) X85 hx (hb hby at_193) rfl rfl ?_
          refine og_goto (pc' := 263) X85 hx (hb hby at_195) (by decide) (by decide) ?_
          refine og_aload (pc' := 265) X85 hx (hb hby at_263) rfl rfl rfl ?_
          obtain ⟨cq98, kq98, q98a, q98b, q98c⟩ := isOf hZ rfl c85_0
          obtain ⟨_, _, ⟨T98, L98, k98, n98⟩, -, X98, ⟨Lc98, hQ98, l98, y98, z98⟩, st98⟩ := X85.virtualBack hx (y := (⟨"com/example/paranhos/paranhos/MatchRuns", "matched", "()D"⟩ : MethodName)) (z := (⟨"com/example/paranhos/paranhos/MatchRuns", "matched", "()D"⟩ : MethodName)) hown (mvT hZ (hw _ (List.mem_of_getElem? (i := 16) rfl))) (mvT hZ (hw _ (List.mem_of_getElem? (i := 17) rfl))) (notFace_of_selects (args := #[]) (mvT hZ (hw _ (List.mem_of_getElem? (i := 19) rfl)))) (mvT hZ (hw _ (List.mem_of_getElem? (i := 19) rfl))) (mvT hZ (hw _ (List.mem_of_getElem? (i := 18) rfl))) (by decide) (backOf (W := 0) (rmmat l Z a0 hw [] b56 (own_D 16 nm_85) T85.heap n0 Z85 FM2) hZ (hw _ (List.mem_of_getElem? (i := 20) rfl)) (hw _ (List.mem_of_getElem? (i := 6) rfl)) (by decide) (by decide)) q98a q98c (g := (mkF m 265 #[.val (.int x0), .val (.int x1), .val (.int x2), .val (.int x3), .val (.int x4), .val (.int (2 : Int32)), .val (.int nv), .val (.double (own_D 8 q1)), .second, .val (.double (own_D 8 q2)), .second, .val (.double (own_D 8 q3)), .second, .val (.double (own_D 8 q4)), .second, .val (.ref b56), .val (.double (own_D 24 u97)), .second] [(.ref b56)])) rfl (by rw [hml]; rfl) (Steps.refl _) (argsL := []) (rest := []) (lenOf pd_2 rfl) rfl (by show 2 * 0 + _ ≤ _; exact Nat.le_of_eq rfl) (hb hby at_265) (fun _ _ => ⟨rfl, rfl, (by decide : 2 + 0 ≤ _), (by decide : 4 + 0 ≤ _)⟩)
          dsimp only [Pt.U, Pt.locs, Pt.cells, Pt.slots] at X98 l98 y98 z98 st98 hQ98
          subst l98 y98 z98
          obtain ⟨rfl, N98q, e98⟩ := hQ98
          have N98 := Fr.app N85 N98q
          obtain ⟨J98, X98, N98⟩ := own_hide X98 N98
          refine own_Go.of (g' := (mkF m 268 #[.val (.int x0), .val (.int x1), .val (.int x2), .val (.int x3), .val (.int x4), .val (.int (2 : Int32)), .val (.int nv), .val (.double (own_D 8 q1)), .second, .val (.double (own_D 8 q2)), .second, .val (.double (own_D 8 q3)), .second, .val (.double (own_D 8 q4)), .second, .val (.ref b56), .val (.double (own_D 24 u97)), .second] [(.double (own_D 16 nm_85))])) (fun t k => st98.trans k) ?_
          refine og_dload (pc' := 270) X98 hx (hb hby at_268) rfl rfl ?_
          have hcmp : cmpValue (FP.dcmp (own_D 16 nm_85) (own_D 24 u97)) .l = 0 := own_cmpE (own_res1 16 nm_85) (own_res0 24 u97) (by first | (simp only [c71_4, c71_5, c71_6, c85_4, c85_5, c85_6, hq3, hq4, hu86, hu87, hu88, hu89, hu90, hu91, hu92, hu93, hu94, hu95, hu96, hu97]; done) | (simp only [c71_4, c71_5, c71_6, c85_4, c85_5, c85_6, hq3, hq4, hu86, hu87, hu88, hu89, hu90, hu91, hu92, hu93, hu94, hu95, hu96, hu97]; grind) | decide) (by decide) (by omega)
          refine og_dcmp (pc' := 271) X98 hx (hb hby at_270) hcmp rfl ?_
          refine og_ifNo (pc' := 274) X98 hx (hb hby at_271) ((if0 _ _).trans (teq (by decide)).2) rfl ?_
          refine og_iconst (pc' := 275) (n := 1) X98 hx (hb hby at_274) rfl rfl ?_
          refine og_goto (pc' := 279) X98 hx (hb hby at_275) (by decide) (by decide) ?_
          obtain ⟨fs, hr, hrun, hended, hW, hsame⟩ := X98.leave (v := some (.int (1 : Int32))) (fun h => by rw [Bd.returns] at h; cases h) (BodyLoose.notSynchronized Bd)
          refine ⟨_, _, retN X98 hx (t := .boolean) Bd.returns (by simp) (hb hby at_279) hr, hrun, hended, some (.int (1 : Int32)), _, rfl, ?_, ⟨_, rfl⟩, hW, hsame.mono (by decide) (by decide)⟩
          show Q0 Z x0 x1 x2 x3 x4 h0 n0 _ T98.heap _
          rw [e98]
          exact ⟨rfl, N98⟩
        · refine og_icmpNo (pc' := 100) X85 hx (hb hby at_97) (flt hc97_7).1 rfl ?_
          refine og_aload (pc' := 102) X85 hx (hb hby at_100) rfl rfl rfl ?_
          refine og_dload (pc' := 104) X85 hx (hb hby at_102) rfl rfl ?_
          obtain ⟨cq99, kq99, q99a, q99b, q99c⟩ := isOf hZ rfl c85_0
          obtain ⟨_, _, ⟨T99, L99, k99, n99⟩, -, X99, ⟨Lc99, hQ99, l99, y99, z99⟩, st99⟩ := X85.virtualBack hx (y := (⟨"com/example/paranhos/paranhos/MatchRuns", "add", "(D)V"⟩ : MethodName)) (z := (⟨"com/example/paranhos/paranhos/MatchRuns", "add", "(D)V"⟩ : MethodName)) hown (mvT hZ (hw _ (List.mem_of_getElem? (i := 24) rfl))) (mvT hZ (hw _ (List.mem_of_getElem? (i := 25) rfl))) (notFace_of_selects (args := #[]) (mvT hZ (hw _ (List.mem_of_getElem? (i := 27) rfl)))) (mvT hZ (hw _ (List.mem_of_getElem? (i := 27) rfl))) (mvT hZ (hw _ (List.mem_of_getElem? (i := 26) rfl))) (by decide) (backOf (W := 0) (rmadd2 l Z a0 hw [] b56 (own_D 8 q3) b_57 kk_57 16 65536 q3 nm_85 w0_85 w1_85 T85.heap n0 Z85 c85_0 c85_1 FM2 VM2 g_b56 g_b_57 ne57_0 rfl ⟨a_q3, z_q3⟩ hl2 hs2 ⟨by decide, by decide, own_o16⟩) hZ (hw _ (List.mem_of_getElem? (i := 28) rfl)) (hw _ (List.mem_of_getElem? (i := 6) rfl)) (by decide) (by decide)) q99a q99c (g := (mkF m 104 #[.val (.int x0), .val (.int x1), .val (.int x2), .val (.int x3), .val (.int x4), .val (.int (2 : Int32)), .val (.int nv), .val (.double (own_D 8 q1)), .second, .val (.double (own_D 8 q2)), .second, .val (.double (own_D 8 q3)), .second, .val (.double (own_D 8 q4)), .second, .val (.ref b56), .unset, .unset] [(.double (own_D 8 q3)), (.ref b56)])) rfl (by rw [hml]; rfl) (Steps.refl _) (argsL := [(.double (own_D 8 q3))]) (rest := []) (lenOf pd_3 rfl) rfl (by show 2 * 0 + _ ≤ _; exact Nat.le_of_eq rfl) (hb hby at_104) (fun _ _ => ⟨rfl, rfl, (by decide : 2 + 0 ≤ _), (by decide : 4 + 0 ≤ _)⟩)
          dsimp only [Pt.U, Pt.locs, Pt.cells, Pt.slots] at X99 l99 y99 z99 st99 hQ99
          subst l99 y99 z99
          obtain ⟨nm_99, w0_99, w1_99, rfl, N99q, K99q, c99_0, c99_1, c99_2, c99_3, c99_4, c99_5, c99_6⟩ := hQ99
          have N99 := Fr.app N85 N99q
          obtain ⟨J99, X99, N99⟩ := own_hide X99 N99
          have f99_0 := c85_0.keep K99q
          have K99 : Keep h0 T99.heap [] := K85.trans K99q (allS (Or.inr sz_b56) (allS (Or.inr sz_b_57) all0))
          have Z99 : n0 ≤ T99.heap.size := Nat.le_trans Z0 K99.1
          refine own_Go.of (g' := (mkF m 107 #[.val (.int x0), .val (.int x1), .val (.int x2), .val (.int x3), .val (.int x4), .val (.int (2 : Int32)), .val (.int nv), .val (.double (own_D 8 q1)), .second, .val (.double (own_D 8 q2)), .second, .val (.double (own_D 8 q3)), .second, .val (.double (own_D 8 q4)), .second, .val (.ref b56), .unset, .unset] [])) (fun t k => st99.trans k) ?_
          obtain ⟨hl3, hs3⟩ := own_inv2 (M := 65536) ⟨a_q3, z_q3⟩ hl2 hs2 c99_4 c99_5 c99_6
          have hs3 : nm_99 + w0_99 + w1_99 = 16777216 := hs3
          have FM3 : Fld Z T99.heap b56 "com/example/paranhos/paranhos/MatchRuns" "matched" "D" (.double (own_D 24 nm_99)) := c99_2
          have VM3 : Arv Z T99.heap b_57 kk_57 .double (2 : Int32) [(.double (own_D 24 w0_99)), (.double (own_D 24 w1_99))] (.double (0 : UInt64)) := c99_3
          refine og_iload (pc' := 109) X99 hx (hb hby at_107) rfl rfl ?_
          refine og_iconst (pc' := 110) (n := 4) X99 hx (hb hby at_109) rfl rfl ?_
          by_cases hc110_8 : nv < (4 : Int32)
          · refine og_icmpYes (pc' := 120) X99 hx (hb hby at_110) (tlt hc110_8).1 (by decide) (by decide) ?_
            have hq4 : q4 = 0 := hq4.trans (if_pos hc110_8)
            refine og_iload (pc' := 122) X99 hx (hb hby at_120) rfl rfl ?_
            refine og_iconst (pc' := 123) (n := 1) X99 hx (hb hby at_122) rfl rfl ?_
            refine og_icmpYes (pc' := 152) X99 hx (hb hby at_123) (feq (by decide)).2 (by decide) (by decide) ?_
            refine og_iload (pc' := 154) X99 hx (hb hby at_152) rfl rfl ?_
            refine og_iconst (pc' := 155) (n := 2) X99 hx (hb hby at_154) rfl rfl ?_
            refine og_icmpNo (pc' := 158) X99 hx (hb hby at_155) (teq (by decide)).2 rfl ?_
            refine og_dload (pc' := 160) X99 hx (hb hby at_158) rfl rfl ?_
            refine og_dload (pc' := 162) X99 hx (hb hby at_160) rfl rfl ?_
            obtain ⟨u100, hu100⟩ : ∃ q : Int, q = (q1 * q2) := ⟨_, rfl⟩
            have a100 : 0 ≤ u100 := by rw [hu100]; exact Int.mul_nonneg (by omega) (by omega)
            have z100 : u100 ≤ 65536 := by rw [hu100]; exact Int.le_trans (Int.mul_le_mul z_q1 z_q2 (by omega) (by omega)) (by decide)
            have x100 : FP.dmul (own_D 8 q1) (own_D 8 q2) = own_D 16 u100 := own_xmul rfl rfl hu100.symm rfl (by omega) (by omega) (by omega) (by omega) (by omega) (by omega)
            refine og_dmul (pc' := 163) X99 hx (hb hby at_162) (own_nnx x100 (by omega) (by omega)) x100 rfl ?_
            refine og_dload (pc' := 165) X99 hx (hb hby at_163) rfl rfl ?_
            refine og_dload (pc' := 167) X99 hx (hb hby at_165) rfl rfl ?_
            obtain ⟨u101, hu101⟩ : ∃ q : Int, q = (q2 * q3) := ⟨_, rfl⟩
            have a101 : 0 ≤ u101 := by rw [hu101]; exact Int.mul_nonneg (by omega) (by omega)
            have z101 : u101 ≤ 65536 := by rw [hu101]; exact Int.le_trans (Int.mul_le_mul z_q2 z_q3 (by omega) (by omega)) (by decide)
            have x101 : FP.dmul (own_D 8 q2) (own_D 8 q3) = own_D 16 u101 := own_xmul rfl rfl hu101.symm rfl (by omega) (by omega) (by omega) (by omega) (by omega) (by omega)
            refine og_dmul (pc' := 168) X99 hx (hb hby at_167) (own_nnx x101 (by omega) (by omega)) x101 rfl ?_
            obtain ⟨u102, hu102⟩ : ∃ q : Int, q = (u100 + u101) := ⟨_, rfl⟩
            have a102 : 0 ≤ u102 := by omega
            have z102 : u102 ≤ 131072 := by omega
            have x102 : FP.dadd (own_D 16 u100) (own_D 16 u101) = own_D 16 u102 := own_xadd rfl rfl hu102.symm (by omega) (by omega) (by omega)
            refine og_dadd (pc' := 169) X99 hx (hb hby at_168) (own_nnx x102 (by omega) (by omega)) x102 rfl ?_
            refine og_dload (pc' := 171) X99 hx (hb hby at_169) rfl rfl ?_
            refine og_dload (pc' := 173) X99 hx (hb hby at_171) rfl rfl ?_
            obtain ⟨u103, hu103⟩ : ∃ q : Int, q = (q3 * q4) := ⟨_, rfl⟩
            have a103 : 0 ≤ u103 := by rw [hu103]; exact Int.mul_nonneg (by omega) (by omega)
            have z103 : u103 ≤ 65536 := by rw [hu103]; exact Int.le_trans (Int.mul_le_mul z_q3 z_q4 (by omega) (by omega)) (by decide)
            have x103 : FP.dmul (own_D 8 q3) (own_D 8 q4) = own_D 16 u103 := own_xmul rfl rfl hu103.symm rfl (by omega) (by omega) (by omega) (by omega) (by omega) (by omega)
            refine og_dmul (pc' := 174) X99 hx (hb hby at_173) (own_nnx x103 (by omega) (by omega)) x103 rfl ?_
            obtain ⟨u104, hu104⟩ : ∃ q : Int, q = (u102 + u103) := ⟨_, rfl⟩
            have a104 : 0 ≤ u104 := by omega
            have z104 : u104 ≤ 196608 := by omega
            have x104 : FP.dadd (own_D 16 u102) (own_D 16 u103) = own_D 16 u104 := own_xadd rfl rfl hu104.symm (by omega) (by omega) (by omega)
            refine og_dadd (pc' := 175) X99 hx (hb hby at_174) (own_nnx x104 (by omega) (by omega)) x104 rfl ?_
            refine og_dload (pc' := 177) X99 hx (hb hby at_175) rfl rfl ?_
            refine og_dload (pc' := 179) X99 hx (hb hby at_177) rfl rfl ?_
            obtain ⟨u105, hu105⟩ : ∃ q : Int, q = (q1 * q2) := ⟨_, rfl⟩
            have a105 : 0 ≤ u105 := by rw [hu105]; exact Int.mul_nonneg (by omega) (by omega)
            have z105 : u105 ≤ 65536 := by rw [hu105]; exact Int.le_trans (Int.mul_le_mul z_q1 z_q2 (by omega) (by omega)) (by decide)
            have x105 : FP.dmul (own_D 8 q1) (own_D 8 q2) = own_D 16 u105 := own_xmul rfl rfl hu105.symm rfl (by omega) (by omega) (by omega) (by omega) (by omega) (by omega)
            refine og_dmul (pc' := 180) X99 hx (hb hby at_179) (own_nnx x105 (by omega) (by omega)) x105 rfl ?_
            refine og_dload (pc' := 182) X99 hx (hb hby at_180) rfl rfl ?_
            obtain ⟨u106, hu106⟩ : ∃ q : Int, q = (u105 * q3) := ⟨_, rfl⟩
            have a106 : 0 ≤ u106 := by rw [hu106]; exact Int.mul_nonneg (by omega) (by omega)
            have z106 : u106 ≤ 16777216 := by rw [hu106]; exact Int.le_trans (Int.mul_le_mul z105 z_q3 (by omega) (by omega)) (by decide)
            have x106 : FP.dmul (own_D 16 u105) (own_D 8 q3) = own_D 24 u106 := own_xmul rfl rfl hu106.symm rfl (by omega) (by omega) (by omega) (by omega) (by omega) (by omega)
            refine og_dmul (pc' := 183) X99 hx (hb hby at_182) (own_nnx x106 (by omega) (by omega)) x106 rfl ?_
            obtain ⟨u107, hu107⟩ : ∃ q : Int, q = (u104 * 256) := ⟨_, rfl⟩
            have y107 : _ = own_D 24 u107 := (rfl : own_D 16 u104 = own_D 16 u104).trans (by rw [hu107]; exact own_resc _ _)
            have a107 : 0 ≤ u107 := by omega
            have z107 : u107 ≤ 50331648 := by omega
            obtain ⟨u108, hu108⟩ : ∃ q : Int, q = (u107 - u106) := ⟨_, rfl⟩
            have a108 : -16777216 ≤ u108 := by omega
            have z108 : u108 ≤ 50331648 := by omega
            have x108 : FP.dsub (own_D 16 u104) (own_D 24 u106) = own_D 24 u108 := own_xsub y107 rfl hu108.symm (by omega) (by omega) (by omega)
            refine og_dsub (pc' := 184) X99 hx (hb hby at_183) (own_nnx x108 (by omega) (by omega)) x108 rfl ?_
            refine og_dload (pc' := 186) X99 hx (hb hby at_184) rfl rfl ?_
            refine og_dload (pc' := 188) X99 hx (hb hby at_186) rfl rfl ?_
            obtain ⟨u109, hu109⟩ : ∃ q : Int, q = (q2 * q3) := ⟨_, rfl⟩
            have a109 : 0 ≤ u109 := by rw [hu109]; exact Int.mul_nonneg (by omega) (by omega)
            have z109 : u109 ≤ 65536 := by rw [hu109]; exact Int.le_trans (Int.mul_le_mul z_q2 z_q3 (by omega) (by omega)) (by decide)
            have x109 : FP.dmul (own_D 8 q2) (own_D 8 q3) = own_D 16 u109 := own_xmul rfl rfl hu109.symm rfl (by omega) (by omega) (by omega) (by omega) (by omega) (by omega)
            refine og_dmul (pc' := 189) X99 hx (hb hby at_188) (own_nnx x109 (by omega) (by omega)) x109 rfl ?_
            refine og_dload (pc' := 191) X99 hx (hb hby at_189) rfl rfl ?_
            obtain ⟨u110, hu110⟩ : ∃ q : Int, q = (u109 * q4) := ⟨_, rfl⟩
            have a110 : 0 ≤ u110 := by rw [hu110]; exact Int.mul_nonneg (by omega) (by omega)
            have z110 : u110 ≤ 16777216 := by rw [hu110]; exact Int.le_trans (Int.mul_le_mul z109 z_q4 (by omega) (by omega)) (by decide)
            have x110 : FP.dmul (own_D 16 u109) (own_D 8 q4) = own_D 24 u110 := own_xmul rfl rfl hu110.symm rfl (by omega) (by omega) (by omega) (by omega) (by omega) (by omega)
            refine og_dmul (pc' := 192) X99 hx (hb hby at_191) (own_nnx x110 (by omega) (by omega)) x110 rfl ?_
            obtain ⟨u111, hu111⟩ : ∃ q : Int, q = (u108 - u110) := ⟨_, rfl⟩
            have a111 : -33554432 ≤ u111 := by omega
            have z111 : u111 ≤ 50331648 := by omega
            have x111 : FP.dsub (own_D 24 u108) (own_D 24 u110) = own_D 24 u111 := own_xsub rfl rfl hu111.symm (by omega) (by omega) (by omega)
            refine og_dsub (pc' := 193) X99 hx (hb hby at_192) (own_nnx x111 (by omega) (by omega)) x111 rfl ?_
            refine og_dstore (pc' := 195) (L' := #[.val (.int x0), .val (.int x1), .val (.int x2), .val (.int x3), .val (.int x4), .val (.int (2 : Int32)), .val (.int nv), .val (.double (own_D 8 q1)), .second, .val (.double (own_D 8 q2)), .second, .val (.double (own_D 8 q3)), .second, .val (.double (own_D 8 q4)), .second, .val (.ref b56), .val (.double (own_D 24 u111)), .second]) X99 hx (hb hby at_193) rfl rfl ?_
            refine og_goto (pc' := 263) X99 hx (hb hby at_195) (by decide) (by decide) ?_
            refine og_aload (pc' := 265) X99 hx (hb hby at_263) rfl rfl rfl ?_
            obtain ⟨cq112, kq112, q112a, q112b, q112c⟩ := isOf hZ rfl c99_0
            obtain ⟨_, _, ⟨T112, L112, k112, n112⟩, -, X112, ⟨Lc112, hQ112, l112, y112, z112⟩, st112⟩ := X99.virtualBack hx (y := (⟨"com/example/paranhos/paranhos/MatchRuns", "matched", "()D"⟩ : MethodName)) (z := (⟨"com/example/paranhos/paranhos/MatchRuns", "matched", "()D"⟩ : MethodName)) hown (mvT hZ (hw _ (List.mem_of_getElem? (i := 16) rfl))) (mvT hZ (hw _ (List.mem_of_getElem? (i := 17) rfl))) (notFace_of_selects (args := #[]) (mvT hZ (hw _ (List.mem_of_getElem? (i := 19) rfl)))) (mvT hZ (hw _ (List.mem_of_getElem? (i := 19) rfl))) (mvT hZ (hw _ (List.mem_of_getElem? (i := 18) rfl))) (by decide) (backOf (W := 0) (rmmat l Z a0 hw [] b56 (own_D 24 nm_99) T99.heap n0 Z99 FM3) hZ (hw _ (List.mem_of_getElem? (i := 20) rfl)) (hw _ (List.mem_of_getElem? (i := 6) rfl)) (by decide) (by decide)) q112a q112c (g := (mkF m 265 #[.val (.int x0), .val (.int x1), .val (.int x2), .val (.int x3), .val (.int x4), .val (.int (2 : Int32)), .val (.int nv), .val (.double (own_D 8 q1)), .second, .val (.double (own_D 8 q2)), .second, .val (.double (own_D 8 q3)), .second, .val (.double (own_D 8 q4)), .second, .val (.ref b56), .val (.double (own_D 24 u111)), .second] [(.ref b56)])) rfl (by rw [hml]; rfl) (Steps.refl _) (argsL := []) (rest := []) (lenOf pd_2 rfl) rfl (by show 2 * 0 + _ ≤ _; exact Nat.le_of_eq rfl) (hb hby at_265) (fun _ _ => ⟨rfl, rfl, (by decide : 2 + 0 ≤ _), (by decide : 4 + 0 ≤ _)⟩)
            dsimp only [Pt.U, Pt.locs, Pt.cells, Pt.slots] at X112 l112 y112 z112 st112 hQ112
            subst l112 y112 z112
            obtain ⟨rfl, N112q, e112⟩ := hQ112
            have N112 := Fr.app N99 N112q
            obtain ⟨J112, X112, N112⟩ := own_hide X112 N112
            refine own_Go.of (g' := (mkF m 268 #[.val (.int x0), .val (.int x1), .val (.int x2), .val (.int x3), .val (.int x4), .val (.int (2 : Int32)), .val (.int nv), .val (.double (own_D 8 q1)), .second, .val (.double (own_D 8 q2)), .second, .val (.double (own_D 8 q3)), .second, .val (.double (own_D 8 q4)), .second, .val (.ref b56), .val (.double (own_D 24 u111)), .second] [(.double (own_D 24 nm_99))])) (fun t k => st112.trans k) ?_
            refine og_dload (pc' := 270) X112 hx (hb hby at_268) rfl rfl ?_
            have hcmp : cmpValue (FP.dcmp (own_D 24 nm_99) (own_D 24 u111)) .l = 0 := own_cmpE (own_res0 24 nm_99) (own_res0 24 u111) (by first | (simp only [c71_4, c71_5, c71_6, c85_4, c85_5, c85_6, c99_4, c99_5, c99_6, hq4, hu100, hu101, hu102, hu103, hu104, hu105, hu106, hu107, hu108, hu109, hu110, hu111]; done) | (simp only [c71_4, c71_5, c71_6, c85_4, c85_5, c85_6, c99_4, c99_5, c99_6, hq4, hu100, hu101, hu102, hu103, hu104, hu105, hu106, hu107, hu108, hu109, hu110, hu111]; grind) | decide) (by decide) (by omega)
            refine og_dcmp (pc' := 271) X112 hx (hb hby at_270) hcmp rfl ?_
            refine og_ifNo (pc' := 274) X112 hx (hb hby at_271) ((if0 _ _).trans (teq (by decide)).2) rfl ?_
            refine og_iconst (pc' := 275) (n := 1) X112 hx (hb hby at_274) rfl rfl ?_
            refine og_goto (pc' := 279) X112 hx (hb hby at_275) (by decide) (by decide) ?_
            obtain ⟨fs, hr, hrun, hended, hW, hsame⟩ := X112.leave (v := some (.int (1 : Int32))) (fun h => by rw [Bd.returns] at h; cases h) (BodyLoose.notSynchronized Bd)
            refine ⟨_, _, retN X112 hx (t := .boolean) Bd.returns (by simp) (hb hby at_279) hr, hrun, hended, some (.int (1 : Int32)), _, rfl, ?_, ⟨_, rfl⟩, hW, hsame.mono (by decide) (by decide)⟩
            show Q0 Z x0 x1 x2 x3 x4 h0 n0 _ T112.heap _
            rw [e112]
            exact ⟨rfl, N112⟩
          · refine og_icmpNo (pc' := 113) X99 hx (hb hby at_110) (flt hc110_8).1 rfl ?_
            refine og_aload (pc' := 115) X99 hx (hb hby at_113) rfl rfl rfl ?_
            refine og_dload (pc' := 117) X99 hx (hb hby at_115) rfl rfl ?_
            obtain ⟨cq113, kq113, q113a, q113b, q113c⟩ := isOf hZ rfl c99_0
            obtain ⟨_, _, ⟨T113, L113, k113, n113⟩, -, X113, ⟨Lc113, hQ113, l113, y113, z113⟩, st113⟩ := X99.virtualBack hx (y := (⟨"com/example/paranhos/paranhos/MatchRuns", "add", "(D)V"⟩ : MethodName)) (z := (⟨"com/example/paranhos/paranhos/MatchRuns", "add", "(D)V"⟩ : MethodName)) hown (mvT hZ (hw _ (List.mem_of_getElem? (i := 24) rfl))) (mvT hZ (hw _ (List.mem_of_getElem? (i := 25) rfl))) (notFace_of_selects (args := #[]) (mvT hZ (hw _ (List.mem_of_getElem? (i := 27) rfl)))) (mvT hZ (hw _ (List.mem_of_getElem? (i := 27) rfl))) (mvT hZ (hw _ (List.mem_of_getElem? (i := 26) rfl))) (by decide) (backOf (W := 0) (rmadd2 l Z a0 hw [] b56 (own_D 8 q4) b_57 kk_57 24 16777216 q4 nm_99 w0_99 w1_99 T99.heap n0 Z99 c99_0 c99_1 FM3 VM3 g_b56 g_b_57 ne57_0 rfl ⟨a_q4, z_q4⟩ hl3 hs3 ⟨by decide, by decide, own_o24⟩) hZ (hw _ (List.mem_of_getElem? (i := 28) rfl)) (hw _ (List.mem_of_getElem? (i := 6) rfl)) (by decide) (by decide)) q113a q113c (g := (mkF m 117 #[.val (.int x0), .val (.int x1), .val (.int x2), .val (.int x3), .val (.int x4), .val (.int (2 : Int32)), .val (.int nv), .val (.double (own_D 8 q1)), .second, .val (.double (own_D 8 q2)), .second, .val (.double (own_D 8 q3)), .second, .val (.double (own_D 8 q4)), .second, .val (.ref b56), .unset, .unset] [(.double (own_D 8 q4)), (.ref b56)])) rfl (by rw [hml]; rfl) (Steps.refl _) (argsL := [(.double (own_D 8 q4))]) (rest := []) (lenOf pd_3 rfl) rfl (by show 2 * 0 + _ ≤ _; exact Nat.le_of_eq rfl) (hb hby at_117) (fun _ _ => ⟨rfl, rfl, (by decide : 2 + 0 ≤ _), (by decide : 4 + 0 ≤ _)⟩)
            dsimp only [Pt.U, Pt.locs, Pt.cells, Pt.slots] at X113 l113 y113 z113 st113 hQ113
            subst l113 y113 z113
            obtain ⟨nm_113, w0_113, w1_113, rfl, N113q, K113q, c113_0, c113_1, c113_2, c113_3, c113_4, c113_5, c113_6⟩ := hQ113
            have N113 := Fr.app N99 N113q
            obtain ⟨J113, X113, N113⟩ := own_hide X113 N113
            have f113_0 := c99_0.keep K113q
            have K113 : Keep h0 T113.heap [] := K99.trans K113q (allS (Or.inr sz_b56) (allS (Or.inr sz_b_57) all0))
            have Z113 : n0 ≤ T113.heap.size := Nat.le_trans Z0 K113.1
            refine own_Go.of (g' := (mkF m 120 #[.val (.int x0), .val (.int x1), .val (.int x2), .val (.int x3), .val (.int x4), .val (.int (2 : Int32)), .val (.int nv), .val (.double (own_D 8 q1)), .second, .val (.double (own_D 8 q2)), .second, .val (.double (own_D 8 q3)), .second, .val (.double (own_D 8 q4)), .second, .val (.ref b56), .unset, .unset] [])) (fun t k => st113.trans k) ?_
            obtain ⟨hl4, hs4⟩ := own_inv2 (M := 16777216) ⟨a_q4, z_q4⟩ hl3 hs3 c113_4 c113_5 c113_6
            have hs4 : nm_113 + w0_113 + w1_113 = 4294967296 := hs4
            have FM4 : Fld Z T113.heap b56 "com/example/paranhos/paranhos/MatchRuns" "matched" "D" (.double (own_D 32 nm_113)) := c113_2
            have VM4 : Arv Z T113.heap b_57 kk_57 .double (2 : Int32) [(.double (own_D 32 w0_113)), (.double (own_D 32 w1_113))] (.double (0 : UInt64)) := c113_3
            refine og_iload (pc' := 122) X113 hx (hb hby at_120) rfl rfl ?_
            refine og_iconst (pc' := 123) (n := 1) X113 hx (hb hby at_122) rfl rfl ?_
            refine og_icmpYes (pc' := 152) X113 hx (hb hby at_123) (feq (by decide)).2 (by decide) (by decide) ?_
            refine og_iload (pc' := 154) X113 hx (hb hby at_152) rfl rfl ?_
            refine og_iconst (pc' := 155) (n := 2) X113 hx (hb hby at_154) rfl rfl ?_
            refine og_icmpNo (pc' := 158) X113 hx (hb hby at_155) (teq (by decide)).2 rfl ?_
            refine og_dload (pc' := 160) X113 hx (hb hby at_158) rfl rfl ?_
            refine og_dload (pc' := 162) X113 hx (hb hby at_160) rfl rfl ?_
            obtain ⟨u114, hu114⟩ : ∃ q : Int, q = (q1 * q2) := ⟨_, rfl⟩
            have a114 : 0 ≤ u114 := by rw [hu114]; exact Int.mul_nonneg (by omega) (by omega)
            have z114 : u114 ≤ 65536 := by rw [hu114]; exact Int.le_trans (Int.mul_le_mul z_q1 z_q2 (by omega) (by omega)) (by decide)
            have x114 : FP.dmul (own_D 8 q1) (own_D 8 q2) = own_D 16 u114 := own_xmul rfl rfl hu114.symm rfl (by omega) (by omega) (by omega) (by omega) (by omega) (by omega)
            refine og_dmul (pc' := 163) X113 hx (hb hby at_162) (own_nnx x114 (by omega) (by omega)) x114 rfl ?_
            refine og_dload (pc' := 165) X113 hx (hb hby at_163) rfl rfl ?_
            refine og_dload (pc' := 167) X113 hx (hb hby at_165) rfl rfl ?_
            obtain ⟨u115, hu115⟩ : ∃ q : Int, q = (q2 * q3) := ⟨_, rfl⟩
            have a115 : 0 ≤ u115 := by rw [hu115]; exact Int.mul_nonneg (by omega) (by omega)
            have z115 : u115 ≤ 65536 := by rw [hu115]; exact Int.le_trans (Int.mul_le_mul z_q2 z_q3 (by omega) (by omega)) (by decide)
            have x115 : FP.dmul (own_D 8 q2) (own_D 8 q3) = own_D 16 u115 := own_xmul rfl rfl hu115.symm rfl (by omega) (by omega) (by omega) (by omega) (by omega) (by omega)
            refine og_dmul (pc' := 168) X113 hx (hb hby at_167) (own_nnx x115 (by omega) (by omega)) x115 rfl ?_
            obtain ⟨u116, hu116⟩ : ∃ q : Int, q = (u114 + u115) := ⟨_, rfl⟩
            have a116 : 0 ≤ u116 := by omega
            have z116 : u116 ≤ 131072 := by omega
            have x116 : FP.dadd (own_D 16 u114) (own_D 16 u115) = own_D 16 u116 := own_xadd rfl rfl hu116.symm (by omega) (by omega) (by omega)
            refine og_dadd (pc' := 169) X113 hx (hb hby at_168) (own_nnx x116 (by omega) (by omega)) x116 rfl ?_
            refine og_dload (pc' := 171) X113 hx (hb hby at_169) rfl rfl ?_
            refine og_dload (pc' := 173) X113 hx (hb hby at_171) rfl rfl ?_
            obtain ⟨u117, hu117⟩ : ∃ q : Int, q = (q3 * q4) := ⟨_, rfl⟩
            have a117 : 0 ≤ u117 := by rw [hu117]; exact Int.mul_nonneg (by omega) (by omega)
            have z117 : u117 ≤ 65536 := by rw [hu117]; exact Int.le_trans (Int.mul_le_mul z_q3 z_q4 (by omega) (by omega)) (by decide)
            have x117 : FP.dmul (own_D 8 q3) (own_D 8 q4) = own_D 16 u117 := own_xmul rfl rfl hu117.symm rfl (by omega) (by omega) (by omega) (by omega) (by omega) (by omega)
            refine og_dmul (pc' := 174) X113 hx (hb hby at_173) (own_nnx x117 (by omega) (by omega)) x117 rfl ?_
            obtain ⟨u118, hu118⟩ : ∃ q : Int, q = (u116 + u117) := ⟨_, rfl⟩
            have a118 : 0 ≤ u118 := by omega
            have z118 : u118 ≤ 196608 := by omega
            have x118 : FP.dadd (own_D 16 u116) (own_D 16 u117) = own_D 16 u118 := own_xadd rfl rfl hu118.symm (by omega) (by omega) (by omega)
            refine og_dadd (pc' := 175) X113 hx (hb hby at_174) (own_nnx x118 (by omega) (by omega)) x118 rfl ?_
            refine og_dload (pc' := 177) X113 hx (hb hby at_175) rfl rfl ?_
            refine og_dload (pc' := 179) X113 hx (hb hby at_177) rfl rfl ?_
            obtain ⟨u119, hu119⟩ : ∃ q : Int, q = (q1 * q2) := ⟨_, rfl⟩
            have a119 : 0 ≤ u119 := by rw [hu119]; exact Int.mul_nonneg (by omega) (by omega)
            have z119 : u119 ≤ 65536 := by rw [hu119]; exact Int.le_trans (Int.mul_le_mul z_q1 z_q2 (by omega) (by omega)) (by decide)
            have x119 : FP.dmul (own_D 8 q1) (own_D 8 q2) = own_D 16 u119 := own_xmul rfl rfl hu119.symm rfl (by omega) (by omega) (by omega) (by omega) (by omega) (by omega)
            refine og_dmul (pc' := 180) X113 hx (hb hby at_179) (own_nnx x119 (by omega) (by omega)) x119 rfl ?_
            refine og_dload (pc' := 182) X113 hx (hb hby at_180) rfl rfl ?_
            obtain ⟨u120, hu120⟩ : ∃ q : Int, q = (u119 * q3) := ⟨_, rfl⟩
            have a120 : 0 ≤ u120 := by rw [hu120]; exact Int.mul_nonneg (by omega) (by omega)
            have z120 : u120 ≤ 16777216 := by rw [hu120]; exact Int.le_trans (Int.mul_le_mul z119 z_q3 (by omega) (by omega)) (by decide)
            have x120 : FP.dmul (own_D 16 u119) (own_D 8 q3) = own_D 24 u120 := own_xmul rfl rfl hu120.symm rfl (by omega) (by omega) (by omega) (by omega) (by omega) (by omega)
            refine og_dmul (pc' := 183) X113 hx (hb hby at_182) (own_nnx x120 (by omega) (by omega)) x120 rfl ?_
            obtain ⟨u121, hu121⟩ : ∃ q : Int, q = (u118 * 256) := ⟨_, rfl⟩
            have y121 : _ = own_D 24 u121 := (rfl : own_D 16 u118 = own_D 16 u118).trans (by rw [hu121]; exact own_resc _ _)
            have a121 : 0 ≤ u121 := by omega
            have z121 : u121 ≤ 50331648 := by omega
            obtain ⟨u122, hu122⟩ : ∃ q : Int, q = (u121 - u120) := ⟨_, rfl⟩
            have a122 : -16777216 ≤ u122 := by omega
            have z122 : u122 ≤ 50331648 := by omega
            have x122 : FP.dsub (own_D 16 u118) (own_D 24 u120) = own_D 24 u122 := own_xsub y121 rfl hu122.symm (by omega) (by omega) (by omega)
            refine og_dsub (pc' := 184) X113 hx (hb hby at_183) (own_nnx x122 (by omega) (by omega)) x122 rfl ?_
            refine og_dload (pc' := 186) X113 hx (hb hby at_184) rfl rfl ?_
            refine og_dload (pc' := 188) X113 hx (hb hby at_186) rfl rfl ?_
            obtain ⟨u123, hu123⟩ : ∃ q : Int, q = (q2 * q3) := ⟨_, rfl⟩
            have a123 : 0 ≤ u123 := by rw [hu123]; exact Int.mul_nonneg (by omega) (by omega)
            have z123 : u123 ≤ 65536 := by rw [hu123]; exact Int.le_trans (Int.mul_le_mul z_q2 z_q3 (by omega) (by omega)) (by decide)
            have x123 : FP.dmul (own_D 8 q2) (own_D 8 q3) = own_D 16 u123 := own_xmul rfl rfl hu123.symm rfl (by omega) (by omega) (by omega) (by omega) (by omega) (by omega)
            refine og_dmul (pc' := 189) X113 hx (hb hby at_188) (own_nnx x123 (by omega) (by omega)) x123 rfl ?_
            refine og_dload (pc' := 191) X113 hx (hb hby at_189) rfl rfl ?_
            obtain ⟨u124, hu124⟩ : ∃ q : Int, q = (u123 * q4) := ⟨_, rfl⟩
            have a124 : 0 ≤ u124 := by rw [hu124]; exact Int.mul_nonneg (by omega) (by omega)
            have z124 : u124 ≤ 16777216 := by rw [hu124]; exact Int.le_trans (Int.mul_le_mul z123 z_q4 (by omega) (by omega)) (by decide)
            have x124 : FP.dmul (own_D 16 u123) (own_D 8 q4) = own_D 24 u124 := own_xmul rfl rfl hu124.symm rfl (by omega) (by omega) (by omega) (by omega) (by omega) (by omega)
            refine og_dmul (pc' := 192) X113 hx (hb hby at_191) (own_nnx x124 (by omega) (by omega)) x124 rfl ?_
            obtain ⟨u125, hu125⟩ : ∃ q : Int, q = (u122 - u124) := ⟨_, rfl⟩
            have a125 : -33554432 ≤ u125 := by omega
            have z125 : u125 ≤ 50331648 := by omega
            have x125 : FP.dsub (own_D 24 u122) (own_D 24 u124) = own_D 24 u125 := own_xsub rfl rfl hu125.symm (by omega) (by omega) (by omega)
            refine og_dsub (pc' := 193) X113 hx (hb hby at_192) (own_nnx x125 (by omega) (by omega)) x125 rfl ?_
            refine og_dstore (pc' := 195) (L' := #[.val (.int x0), .val (.int x1), .val (.int x2), .val (.int x3), .val (.int x4), .val (.int (2 : Int32)), .val (.int nv), .val (.double (own_D 8 q1)), .second, .val (.double (own_D 8 q2)), .second, .val (.double (own_D 8 q3)), .second, .val (.double (own_D 8 q4)), .second, .val (.ref b56), .val (.double (own_D 24 u125)), .second]) X113 hx (hb hby at_193) rfl rfl ?_
            refine og_goto (pc' := 263) X113 hx (hb hby at_195) (by decide) (by decide) ?_
            refine og_aload (pc' := 265) X113 hx (hb hby at_263) rfl rfl rfl ?_
            obtain ⟨cq126, kq126, q126a, q126b, q126c⟩ := isOf hZ rfl c113_0
            obtain ⟨_, _, ⟨T126, L126, k126, n126⟩, -, X126, ⟨Lc126, hQ126, l126, y126, z126⟩, st126⟩ := X113.virtualBack hx (y := (⟨"com/example/paranhos/paranhos/MatchRuns", "matched", "()D"⟩ : MethodName)) (z := (⟨"com/example/paranhos/paranhos/MatchRuns", "matched", "()D"⟩ : MethodName)) hown (mvT hZ (hw _ (List.mem_of_getElem? (i := 16) rfl))) (mvT hZ (hw _ (List.mem_of_getElem? (i := 17) rfl))) (notFace_of_selects (args := #[]) (mvT hZ (hw _ (List.mem_of_getElem? (i := 19) rfl)))) (mvT hZ (hw _ (List.mem_of_getElem? (i := 19) rfl))) (mvT hZ (hw _ (List.mem_of_getElem? (i := 18) rfl))) (by decide) (backOf (W := 0) (rmmat l Z a0 hw [] b56 (own_D 32 nm_113) T113.heap n0 Z113 FM4) hZ (hw _ (List.mem_of_getElem? (i := 20) rfl)) (hw _ (List.mem_of_getElem? (i := 6) rfl)) (by decide) (by decide)) q126a q126c (g := (mkF m 265 #[.val (.int x0), .val (.int x1), .val (.int x2), .val (.int x3), .val (.int x4), .val (.int (2 : Int32)), .val (.int nv), .val (.double (own_D 8 q1)), .second, .val (.double (own_D 8 q2)), .second, .val (.double (own_D 8 q3)), .second, .val (.double (own_D 8 q4)), .second, .val (.ref b56), .val (.double (own_D 24 u125)), .second] [(.ref b56)])) rfl (by rw [hml]; rfl) (Steps.refl _) (argsL := []) (rest := []) (lenOf pd_2 rfl) rfl (by show 2 * 0 + _ ≤ _; exact Nat.le_of_eq rfl) (hb hby at_265) (fun _ _ => ⟨rfl, rfl, (by decide : 2 + 0 ≤ _), (by decide : 4 + 0 ≤ _)⟩)
            dsimp only [Pt.U, Pt.locs, Pt.cells, Pt.slots] at X126 l126 y126 z126 st126 hQ126
            subst l126 y126 z126
            obtain ⟨rfl, N126q, e126⟩ := hQ126
            have N126 := Fr.app N113 N126q
            obtain ⟨J126, X126, N126⟩ := own_hide X126 N126
            refine own_Go.of (g' := (mkF m 268 #[.val (.int x0), .val (.int x1), .val (.int x2), .val (.int x3), .val (.int x4), .val (.int (2 : Int32)), .val (.int nv), .val (.double (own_D 8 q1)), .second, .val (.double (own_D 8 q2)), .second, .val (.double (own_D 8 q3)), .second, .val (.double (own_D 8 q4)), .second, .val (.ref b56), .val (.double (own_D 24 u125)), .second] [(.double (own_D 32 nm_113))])) (fun t k => st126.trans k) ?_
            refine og_dload (pc' := 270) X126 hx (hb hby at_268) rfl rfl ?_
            have hcmp : cmpValue (FP.dcmp (own_D 32 nm_113) (own_D 24 u125)) .l = 0 := own_cmpE (own_res0 32 nm_113) (own_res1 24 u125) (by first | (simp only [c71_4, c71_5, c71_6, c85_4, c85_5, c85_6, c99_4, c99_5, c99_6, c113_4, c113_5, c113_6, hu114, hu115, hu116, hu117, hu118, hu119, hu120, hu121, hu122, hu123, hu124, hu125]; done) | (simp only [c71_4, c71_5, c71_6, c85_4, c85_5, c85_6, c99_4, c99_5, c99_6, c113_4, c113_5, c113_6, hu114, hu115, hu116, hu117, hu118, hu119, hu120, hu121, hu122, hu123, hu124, hu125]; grind) | decide) (by decide) (by omega)
            refine og_dcmp (pc' := 271) X126 hx (hb hby at_270) hcmp rfl ?_
            refine og_ifNo (pc' := 274) X126 hx (hb hby at_271) ((if0 _ _).trans (teq (by decide)).2) rfl ?_
            refine og_iconst (pc' := 275) (n := 1) X126 hx (hb hby at_274) rfl rfl ?_
            refine og_goto (pc' := 279) X126 hx (hb hby at_275) (by decide) (by decide) ?_
            obtain ⟨fs, hr, hrun, hended, hW, hsame⟩ := X126.leave (v := some (.int (1 : Int32))) (fun h => by rw [Bd.returns] at h; cases h) (BodyLoose.notSynchronized Bd)
            refine ⟨_, _, retN X126 hx (t := .boolean) Bd.returns (by simp) (hb hby at_279) hr, hrun, hended, some (.int (1 : Int32)), _, rfl, ?_, ⟨_, rfl⟩, hW, hsame.mono (by decide) (by decide)⟩
            show Q0 Z x0 x1 x2 x3 x4 h0 n0 _ T126.heap _
            rw [e126]
            exact ⟨rfl, N126⟩
  · rw [ek]
    obtain ⟨T127, h127, X127, e127, E127, A127, D127, -, st127⟩ := newO X4 hx hZ hown (hw _ (List.mem_of_getElem? (i := 4) rfl)) (hw _ (List.mem_of_getElem? (i := 5) rfl)) (hw _ (List.mem_of_getElem? (i := 6) rfl)) e4 (g := (mkF m 57 #[.val (.int x0), .val (.int x1), .val (.int x2), .val (.int x3), .val (.int x4), .val (.int (3 : Int32)), .val (.int nv), .val (.double (own_D 8 q1)), .second, .val (.double (own_D 8 q2)), .second, .val (.double (own_D 8 q3)), .second, .val (.double (own_D 8 q4)), .second, .unset, .unset, .unset] [])) rfl (hb hby at_57) (by decide) (by decide)
    obtain ⟨b127, g127⟩ : ∃ z, z = h0.size := ⟨_, rfl⟩
    rw [← g127] at A127 D127 st127
    have g_b127 : n0 ≤ b127 := Nat.le_trans Z0 (Nat.le_of_eq g127.symm)
    have sz_b127 : h0.size ≤ b127 := Nat.le_trans (Keep.refl h0 []).1 (Nat.le_of_eq g127.symm)
    have F127_run : Fld Z h127 b127 "com/example/paranhos/paranhos/MatchRuns" "run" "[D" .null := D127 (Or.inr (hw _ (List.mem_of_getElem? (i := 15) rfl))) (ty := (.array .double)) (by decide)
    have F127_matched : Fld Z h127 b127 "com/example/paranhos/paranhos/MatchRuns" "matched" "D" (.double (0 : UInt64)) := D127 (Or.inl (hw _ (List.mem_of_getElem? (i := 22) rfl))) (ty := .double) (by decide)
    have K127 : Keep h0 h127 [] := (Keep.refl h0 []).ext E127
    have Z127 : n0 ≤ h127.size := Nat.le_trans Z0 K127.1
    refine own_Go.of (g' := (mkF m 60 #[.val (.int x0), .val (.int x1), .val (.int x2), .val (.int x3), .val (.int x4), .val (.int (3 : Int32)), .val (.int nv), .val (.double (own_D 8 q1)), .second, .val (.double (own_D 8 q2)), .second, .val (.double (own_D 8 q3)), .second, .val (.double (own_D 8 q4)), .second, .unset, .unset, .unset] [(.ref b127)])) (fun t k => st127 _ k) ?_
    refine og_dup (pc' := 61) X127 hx (hb hby at_60) rfl rfl ?_
    refine og_iload (pc' := 63) X127 hx (hb hby at_61) rfl rfl ?_
    obtain ⟨_, _, ⟨T128, L128, k128, n128⟩, -, X128, ⟨Lc128, hQ128, l128, y128, z128⟩, st128⟩ := X127.specialBack hx (y := (⟨"com/example/paranhos/paranhos/MatchRuns", "<init>", "(I)V"⟩ : MethodName)) rfl hown (mvT hZ (hw _ (List.mem_of_getElem? (i := 7) rfl))) (mvT hZ (hw _ (List.mem_of_getElem? (i := 8) rfl))) (mvT hZ (hw _ (List.mem_of_getElem? (i := 9) rfl))) (by decide) (backOf (W := 1) (rmini3 l Z a0 hw [] b127 .null h127 n0 Z127 A127 F127_run F127_matched g_b127) hZ (hw _ (List.mem_of_getElem? (i := 9) rfl)) (hw _ (List.mem_of_getElem? (i := 6) rfl)) (by decide) (by decide)) (g := (mkF m 63 #[.val (.int x0), .val (.int x1), .val (.int x2), .val (.int x3), .val (.int x4), .val (.int (3 : Int32)), .val (.int nv), .val (.double (own_D 8 q1)), .second, .val (.double (own_D 8 q2)), .second, .val (.double (own_D 8 q3)), .second, .val (.double (own_D 8 q4)), .second, .unset, .unset, .unset] [(.int (3 : Int32)), (.ref b127), (.ref b127)])) rfl (by rw [hml]; rfl) (Steps.refl _) (a := b127) (argsL := [(.int (3 : Int32))]) (rest := [(.ref b127)]) (lenOf pd_1 rfl) rfl (by show 2 * 0 + _ ≤ _; exact Nat.le_of_eq rfl) (hb hby at_63) (fun _ _ => ⟨rfl, e127, (by decide : 1 + 1 ≤ _), (by decide : 2 + 3 ≤ _)⟩)
    dsimp only [Pt.U, Pt.locs, Pt.cells, Pt.slots] at X128 l128 y128 z128 st128 hQ128
    subst l128 y128 z128
    obtain ⟨b_128, kk_128, rfl, N128q, K128q, zz128_b, c128_0, c128_1, c128_2, c128_3⟩ := hQ128
    have N128 := Fr.app N4 N128q
    obtain ⟨J128, X128, N128⟩ := own_hide X128 N128
    have g_b_128 : n0 ≤ b_128 := Nat.le_trans Z127 zz128_b
    have sz_b_128 : h0.size ≤ b_128 := Nat.le_trans K127.1 zz128_b
    have ne128_0 : b127 ≠ b_128 := Nat.ne_of_lt (Nat.lt_of_lt_of_le A127.lt zz128_b)
    have f128_0 := A127.keep K128q
    have K128 : Keep h0 T128.heap [] := K127.trans K128q (allS (Or.inr sz_b127) all0)
    have Z128 : n0 ≤ T128.heap.size := Nat.le_trans Z0 K128.1
    refine own_Go.of (g' := (mkF m 66 #[.val (.int x0), .val (.int x1), .val (.int x2), .val (.int x3), .val (.int x4), .val (.int (3 : Int32)), .val (.int nv), .val (.double (own_D 8 q1)), .second, .val (.double (own_D 8 q2)), .second, .val (.double (own_D 8 q3)), .second, .val (.double (own_D 8 q4)), .second, .unset, .unset, .unset] [(.ref b127)])) (fun t k => st128.trans k) ?_
    have FM0 : Fld Z T128.heap b127 "com/example/paranhos/paranhos/MatchRuns" "matched" "D" (.double (own_D 0 0)) := by rw [own_z0]; exact c128_2
    have VM0 : Arv Z T128.heap b_128 kk_128 .double (3 : Int32) [(.double (own_D 0 1)), (.double (own_D 0 0)), (.double (own_D 0 0))] (.double (0 : UInt64)) := by rw [own_z0]; exact c128_3
    have hl0 : (0 : Int) ≤ 0 ∧ (0 : Int) ≤ 1 ∧ (0 : Int) ≤ 0 ∧ (0 : Int) ≤ 0 := ⟨by decide, by decide, by decide, by decide⟩
    have hs0 : (0 + 1 + 0 + 0 : Int) = 1 := by decide
    refine og_astore (pc' := 68) (L' := #[.val (.int x0), .val (.int x1), .val (.int x2), .val (.int x3), .val (.int x4), .val (.int (3 : Int32)), .val (.int nv), .val (.double (own_D 8 q1)), .second, .val (.double (own_D 8 q2)), .second, .val (.double (own_D 8 q3)), .second, .val (.double (own_D 8 q4)), .second, .val (.ref b127), .unset, .unset]) X128 hx (hb hby at_66) rfl rfl rfl ?_
    refine og_iload (pc' := 70) X128 hx (hb hby at_68) rfl rfl ?_
    refine og_iconst (pc' := 71) (n := 1) X128 hx (hb hby at_70) rfl rfl ?_
    by_cases hc71_9 : nv < (1 : Int32)
    · refine og_icmpYes (pc' := 81) X128 hx (hb hby at_71) (tlt hc71_9).1 (by decide) (by decide) ?_
      refine og_iload (pc' := 83) X128 hx (hb hby at_81) rfl rfl ?_
      refine og_iconst (pc' := 84) (n := 2) X128 hx (hb hby at_83) rfl rfl ?_
      refine og_icmpYes (pc' := 94) X128 hx (hb hby at_84) (tlt (own_ltt hc71_9 (by decide))).1 (by decide) (by decide) ?_
      refine og_iload (pc' := 96) X128 hx (hb hby at_94) rfl rfl ?_
      refine og_iconst (pc' := 97) (n := 3) X128 hx (hb hby at_96) rfl rfl ?_
      refine og_icmpYes (pc' := 107) X128 hx (hb hby at_97) (tlt (own_ltt hc71_9 (by decide))).1 (by decide) (by decide) ?_
      refine og_iload (pc' := 109) X128 hx (hb hby at_107) rfl rfl ?_
      refine og_iconst (pc' := 110) (n := 4) X128 hx (hb hby at_109) rfl rfl ?_
      refine og_icmpYes (pc' := 120) X128 hx (hb hby at_110) (tlt (own_ltt hc71_9 (by decide))).1 (by decide) (by decide) ?_
      have hq1 : q1 = 0 := hq1.trans (if_pos hc71_9)
      have hq2 : q2 = 0 := hq2.trans (if_pos (own_ltt hc71_9 (by decide)))
      have hq3 : q3 = 0 := hq3.trans (if_pos (own_ltt hc71_9 (by decide)))
      have hq4 : q4 = 0 := hq4.trans (if_pos (own_ltt hc71_9 (by decide)))
      refine og_iload (pc' := 122) X128 hx (hb hby at_120) rfl rfl ?_
      refine og_iconst (pc' := 123) (n := 1) X128 hx (hb hby at_122) rfl rfl ?_
      refine og_icmpYes (pc' := 152) X128 hx (hb hby at_123) (feq (by decide)).2 (by decide) (by decide) ?_
      refine og_iload (pc' := 154) X128 hx (hb hby at_152) rfl rfl ?_
      refine og_iconst (pc' := 155) (n := 2) X128 hx (hb hby at_154) rfl rfl ?_
      refine og_icmpYes (pc' := 198) X128 hx (hb hby at_155) (feq (by decide)).2 (by decide) (by decide) ?_
      refine og_iload (pc' := 200) X128 hx (hb hby at_198) rfl rfl ?_
      refine og_iconst (pc' := 201) (n := 3) X128 hx (hb hby at_200) rfl rfl ?_
      refine og_icmpNo (pc' := 204) X128 hx (hb hby at_201) (teq (by decide)).2 rfl ?_
      refine og_dload (pc' := 206) X128 hx (hb hby at_204) rfl rfl ?_
      refine og_dload (pc' := 208) X128 hx (hb hby at_206) rfl rfl ?_
      obtain ⟨u129, hu129⟩ : ∃ q : Int, q = (q1 * q2) := ⟨_, rfl⟩
      have a129 : 0 ≤ u129 := by rw [hu129]; exact Int.mul_nonneg (by omega) (by omega)
      have z129 : u129 ≤ 65536 := by rw [hu129]; exact Int.le_trans (Int.mul_le_mul z_q1 z_q2 (by omega) (by omega)) (by decide)
      have x129 : FP.dmul (own_D 8 q1) (own_D 8 q2) = own_D 16 u129 := own_xmul rfl rfl hu129.symm rfl (by omega) (by omega) (by omega) (by omega) (by omega) (by omega)
      refine og_dmul (pc' := 209) X128 hx (hb hby at_208) (own_nnx x129 (by omega) (by omega)) x129 rfl ?_
      refine og_dload (pc' := 211) X128 hx (hb hby at_209) rfl rfl ?_
      obtain ⟨u130, hu130⟩ : ∃ q : Int, q = (u129 * q3) := ⟨_, rfl⟩
      have a130 : 0 ≤ u130 := by rw [hu130]; exact Int.mul_nonneg (by omega) (by omega)
      have z130 : u130 ≤ 16777216 := by rw [hu130]; exact Int.le_trans (Int.mul_le_mul z129 z_q3 (by omega) (by omega)) (by decide)
      have x130 : FP.dmul (own_D 16 u129) (own_D 8 q3) = own_D 24 u130 := own_xmul rfl rfl hu130.symm rfl (by omega) (by omega) (by omega) (by omega) (by omega) (by omega)
      refine og_dmul (pc' := 212) X128 hx (hb hby at_211) (own_nnx x130 (by omega) (by omega)) x130 rfl ?_
      refine og_dload (pc' := 214) X128 hx (hb hby at_212) rfl rfl ?_
      refine og_dload (pc' := 216) X128 hx (hb hby at_214) rfl rfl ?_
      obtain ⟨u131, hu131⟩ : ∃ q : Int, q = (q2 * q3) := ⟨_, rfl⟩
      have a131 : 0 ≤ u131 := by rw [hu131]; exact Int.mul_nonneg (by omega) (by omega)
      have z131 : u131 ≤ 65536 := by rw [hu131]; exact Int.le_trans (Int.mul_le_mul z_q2 z_q3 (by omega) (by omega)) (by decide)
      have x131 : FP.dmul (own_D 8 q2) (own_D 8 q3) = own_D 16 u131 := own_xmul rfl rfl hu131.symm rfl (by omega) (by omega) (by omega) (by omega) (by omega) (by omega)
      refine og_dmul (pc' := 217) X128 hx (hb hby at_216) (own_nnx x131 (by omega) (by omega)) x131 rfl ?_
      refine og_dload (pc' := 219) X128 hx (hb hby at_217) rfl rfl ?_
      obtain ⟨u132, hu132⟩ : ∃ q : Int, q = (u131 * q4) := ⟨_, rfl⟩
      have a132 : 0 ≤ u132 := by rw [hu132]; exact Int.mul_nonneg (by omega) (by omega)
      have z132 : u132 ≤ 16777216 := by rw [hu132]; exact Int.le_trans (Int.mul_le_mul z131 z_q4 (by omega) (by omega)) (by decide)
      have x132 : FP.dmul (own_D 16 u131) (own_D 8 q4) = own_D 24 u132 := own_xmul rfl rfl hu132.symm rfl (by omega) (by omega) (by omega) (by omega) (by omega) (by omega)
      refine og_dmul (pc' := 220) X128 hx (hb hby at_219) (own_nnx x132 (by omega) (by omega)) x132 rfl ?_
      obtain ⟨u133, hu133⟩ : ∃ q : Int, q = (u130 + u132) := ⟨_, rfl⟩
      have a133 : 0 ≤ u133 := by omega
      have z133 : u133 ≤ 33554432 := by omega
      have x133 : FP.dadd (own_D 24 u130) (own_D 24 u132) = own_D 24 u133 := own_xadd rfl rfl hu133.symm (by omega) (by omega) (by omega)
      refine og_dadd (pc' := 221) X128 hx (hb hby at_220) (own_nnx x133 (by omega) (by omega)) x133 rfl ?_
      refine og_dload (pc' := 223) X128 hx (hb hby at_221) rfl rfl ?_
      refine og_dload (pc' := 225) X128 hx (hb hby at_223) rfl rfl ?_
      obtain ⟨u134, hu134⟩ : ∃ q : Int, q = (q1 * q2) := ⟨_, rfl⟩
      have a134 : 0 ≤ u134 := by rw [hu134]; exact Int.mul_nonneg (by omega) (by omega)
      have z134 : u134 ≤ 65536 := by rw [hu134]; exact Int.le_trans (Int.mul_le_mul z_q1 z_q2 (by omega) (by omega)) (by decide)
      have x134 : FP.dmul (own_D 8 q1) (own_D 8 q2) = own_D 16 u134 := own_xmul rfl rfl hu134.symm rfl (by omega) (by omega) (by omega) (by omega) (by omega) (by omega)
      refine og_dmul (pc' := 226) X128 hx (hb hby at_225) (own_nnx x134 (by omega) (by omega)) x134 rfl ?_
      refine og_dload (pc' := 228) X128 hx (hb hby at_226) rfl rfl ?_
      obtain ⟨u135, hu135⟩ : ∃ q : Int, q = (u134 * q3) := ⟨_, rfl⟩
      have a135 : 0 ≤ u135 := by rw [hu135]; exact Int.mul_nonneg (by omega) (by omega)
      have z135 : u135 ≤ 16777216 := by rw [hu135]; exact Int.le_trans (Int.mul_le_mul z134 z_q3 (by omega) (by omega)) (by decide)
      have x135 : FP.dmul (own_D 16 u134) (own_D 8 q3) = own_D 24 u135 := own_xmul rfl rfl hu135.symm rfl (by omega) (by omega) (by omega) (by omega) (by omega) (by omega)
      refine og_dmul (pc' := 229) X128 hx (hb hby at_228) (own_nnx x135 (by omega) (by omega)) x135 rfl ?_
      refine og_dload (pc' := 231) X128 hx (hb hby at_229) rfl rfl ?_
      obtain ⟨u136, hu136⟩ : ∃ q : Int, q = (u135 * q4) := ⟨_, rfl⟩
      have a136 : 0 ≤ u136 := by rw [hu136]; exact Int.mul_nonneg (by omega) (by omega)
      have z136 : u136 ≤ 4294967296 := by rw [hu136]; exact Int.le_trans (Int.mul_le_mul z135 z_q4 (by omega) (by omega)) (by decide)
      have x136 : FP.dmul (own_D 24 u135) (own_D 8 q4) = own_D 32 u136 := own_xmul rfl rfl hu136.symm rfl (by omega) (by omega) (by omega) (by omega) (by omega) (by omega)
      refine og_dmul (pc' := 232) X128 hx (hb hby at_231) (own_nnx x136 (by omega) (by omega)) x136 rfl ?_
      obtain ⟨u137, hu137⟩ : ∃ q : Int, q = (u133 * 256) := ⟨_, rfl⟩
      have y137 : _ = own_D 32 u137 := (rfl : own_D 24 u133 = own_D 24 u133).trans (by rw [hu137]; exact own_resc _ _)
      have a137 : 0 ≤ u137 := by omega
      have z137 : u137 ≤ 8589934592 := by omega
      obtain ⟨u138, hu138⟩ : ∃ q : Int, q = (u137 - u136) := ⟨_, rfl⟩
      have a138 : -4294967296 ≤ u138 := by omega
      have z138 : u138 ≤ 8589934592 := by omega
      have x138 : FP.dsub (own_D 24 u133) (own_D 32 u136) = own_D 32 u138 := own_xsub y137 rfl hu138.symm (by omega) (by omega) (by omega)
      refine og_dsub (pc' := 233) X128 hx (hb hby at_232) (own_nnx x138 (by omega) (by omega)) x138 rfl ?_
      refine og_dstore (pc' := 235) (L' := #[.val (.int x0), .val (.int x1), .val (.int x2), .val (.int x3), .val (.int x4), .val (.int (3 : Int32)), .val (.int nv), .val (.double (own_D 8 q1)), .second, .val (.double (own_D 8 q2)), .second, .val (.double (own_D 8 q3)), .second, .val (.double (own_D 8 q4)), .second, .val (.ref b127), .val (.double (own_D 32 u138)), .second]) X128 hx (hb hby at_233) rfl rfl ?_
      refine og_goto (pc' := 263) X128 hx (hb hby at_235) (by decide) (by decide) ?_
      refine og_aload (pc' := 265) X128 hx (hb hby at_263) rfl rfl rfl ?_
      obtain ⟨cq139, kq139, q139a, q139b, q139c⟩ := isOf hZ rfl c128_0
      obtain ⟨_, _, ⟨T139, L139, k139, n139⟩, -, X139, ⟨Lc139, hQ139, l139, y139, z139⟩, st139⟩ := X128.virtualBack hx (y := (⟨"com/example/paranhos/paranhos/MatchRuns", "matched", "()D"⟩ : MethodName)) (z := (⟨"com/example/paranhos/paranhos/MatchRuns", "matched", "()D"⟩ : MethodName)) hown (mvT hZ (hw _ (List.mem_of_getElem? (i := 16) rfl))) (mvT hZ (hw _ (List.mem_of_getElem? (i := 17) rfl))) (notFace_of_selects (args := #[]) (mvT hZ (hw _ (List.mem_of_getElem? (i := 19) rfl)))) (mvT hZ (hw _ (List.mem_of_getElem? (i := 19) rfl))) (mvT hZ (hw _ (List.mem_of_getElem? (i := 18) rfl))) (by decide) (backOf (W := 0) (rmmat l Z a0 hw [] b127 (own_D 0 0) T128.heap n0 Z128 FM0) hZ (hw _ (List.mem_of_getElem? (i := 20) rfl)) (hw _ (List.mem_of_getElem? (i := 6) rfl)) (by decide) (by decide)) q139a q139c (g := (mkF m 265 #[.val (.int x0), .val (.int x1), .val (.int x2), .val (.int x3), .val (.int x4), .val (.int (3 : Int32)), .val (.int nv), .val (.double (own_D 8 q1)), .second, .val (.double (own_D 8 q2)), .second, .val (.double (own_D 8 q3)), .second, .val (.double (own_D 8 q4)), .second, .val (.ref b127), .val (.double (own_D 32 u138)), .second] [(.ref b127)])) rfl (by rw [hml]; rfl) (Steps.refl _) (argsL := []) (rest := []) (lenOf pd_2 rfl) rfl (by show 2 * 0 + _ ≤ _; exact Nat.le_of_eq rfl) (hb hby at_265) (fun _ _ => ⟨rfl, rfl, (by decide : 2 + 0 ≤ _), (by decide : 5 + 0 ≤ _)⟩)
      dsimp only [Pt.U, Pt.locs, Pt.cells, Pt.slots] at X139 l139 y139 z139 st139 hQ139
      subst l139 y139 z139
      obtain ⟨rfl, N139q, e139⟩ := hQ139
      have N139 := Fr.app N128 N139q
      obtain ⟨J139, X139, N139⟩ := own_hide X139 N139
      refine own_Go.of (g' := (mkF m 268 #[.val (.int x0), .val (.int x1), .val (.int x2), .val (.int x3), .val (.int x4), .val (.int (3 : Int32)), .val (.int nv), .val (.double (own_D 8 q1)), .second, .val (.double (own_D 8 q2)), .second, .val (.double (own_D 8 q3)), .second, .val (.double (own_D 8 q4)), .second, .val (.ref b127), .val (.double (own_D 32 u138)), .second] [(.double (own_D 0 0))])) (fun t k => st139.trans k) ?_
      refine og_dload (pc' := 270) X139 hx (hb hby at_268) rfl rfl ?_
      have hcmp : cmpValue (FP.dcmp (own_D 0 0) (own_D 32 u138)) .l = 0 := own_cmpE (own_res4 0 0) (own_res0 32 u138) (by first | (simp only [hq1, hq2, hq3, hq4, hu129, hu130, hu131, hu132, hu133, hu134, hu135, hu136, hu137, hu138]; done) | (simp only [hq1, hq2, hq3, hq4, hu129, hu130, hu131, hu132, hu133, hu134, hu135, hu136, hu137, hu138]; grind) | decide) (by decide) (by omega)
      refine og_dcmp (pc' := 271) X139 hx (hb hby at_270) hcmp rfl ?_
      refine og_ifNo (pc' := 274) X139 hx (hb hby at_271) ((if0 _ _).trans (teq (by decide)).2) rfl ?_
      refine og_iconst (pc' := 275) (n := 1) X139 hx (hb hby at_274) rfl rfl ?_
      refine og_goto (pc' := 279) X139 hx (hb hby at_275) (by decide) (by decide) ?_
      obtain ⟨fs, hr, hrun, hended, hW, hsame⟩ := X139.leave (v := some (.int (1 : Int32))) (fun h => by rw [Bd.returns] at h; cases h) (BodyLoose.notSynchronized Bd)
      refine ⟨_, _, retN X139 hx (t := .boolean) Bd.returns (by simp) (hb hby at_279) hr, hrun, hended, some (.int (1 : Int32)), _, rfl, ?_, ⟨_, rfl⟩, hW, hsame.mono (by decide) (by decide)⟩
      show Q0 Z x0 x1 x2 x3 x4 h0 n0 _ T139.heap _
      rw [e139]
      exact ⟨rfl, N139⟩
    · refine og_icmpNo (pc' := 74) X128 hx (hb hby at_71) (flt hc71_9).1 rfl ?_
      refine og_aload (pc' := 76) X128 hx (hb hby at_74) rfl rfl rfl ?_
      refine og_dload (pc' := 78) X128 hx (hb hby at_76) rfl rfl ?_
      obtain ⟨cq140, kq140, q140a, q140b, q140c⟩ := isOf hZ rfl c128_0
      obtain ⟨_, _, ⟨T140, L140, k140, n140⟩, -, X140, ⟨Lc140, hQ140, l140, y140, z140⟩, st140⟩ := X128.virtualBack hx (y := (⟨"com/example/paranhos/paranhos/MatchRuns", "add", "(D)V"⟩ : MethodName)) (z := (⟨"com/example/paranhos/paranhos/MatchRuns", "add", "(D)V"⟩ : MethodName)) hown (mvT hZ (hw _ (List.mem_of_getElem? (i := 24) rfl))) (mvT hZ (hw _ (List.mem_of_getElem? (i := 25) rfl))) (notFace_of_selects (args := #[]) (mvT hZ (hw _ (List.mem_of_getElem? (i := 27) rfl)))) (mvT hZ (hw _ (List.mem_of_getElem? (i := 27) rfl))) (mvT hZ (hw _ (List.mem_of_getElem? (i := 26) rfl))) (by decide) (backOf (W := 0) (rmadd3 l Z a0 hw [] b127 (own_D 8 q1) b_128 kk_128 0 1 q1 0 1 0 0 T128.heap n0 Z128 c128_0 c128_1 FM0 VM0 g_b127 g_b_128 ne128_0 rfl ⟨a_q1, z_q1⟩ hl0 hs0 ⟨by decide, by decide, own_o0⟩) hZ (hw _ (List.mem_of_getElem? (i := 28) rfl)) (hw _ (List.mem_of_getElem? (i := 6) rfl)) (by decide) (by decide)) q140a q140c (g := (mkF m 78 #[.val (.int x0), .val (.int x1), .val (.int x2), .val (.int x3), .val (.int x4), .val (.int (3 : Int32)), .val (.int nv), .val (.double (own_D 8 q1)), .second, .val (.double (own_D 8 q2)), .second, .val (.double (own_D 8 q3)), .second, .val (.double (own_D 8 q4)), .second, .val (.ref b127), .unset, .unset] [(.double (own_D 8 q1)), (.ref b127)])) rfl (by rw [hml]; rfl) (Steps.refl _) (argsL := [(.double (own_D 8 q1))]) (rest := []) (lenOf pd_3 rfl) rfl (by show 2 * 0 + _ ≤ _; exact Nat.le_of_eq rfl) (hb hby at_78) (fun _ _ => ⟨rfl, rfl, (by decide : 2 + 0 ≤ _), (by decide : 5 + 0 ≤ _)⟩)
      dsimp only [Pt.U, Pt.locs, Pt.cells, Pt.slots] at X140 l140 y140 z140 st140 hQ140
      subst l140 y140 z140
      obtain ⟨nm_140, w0_140, w1_140, w2_140, rfl, N140q, K140q, c140_0, c140_1, c140_2, c140_3, c140_4, c140_5, c140_6, c140_7⟩ := hQ140
      have N140 := Fr.app N128 N140q
      obtain ⟨J140, X140, N140⟩ := own_hide X140 N140
      have f140_0 := c128_0.keep K140q
      have K140 : Keep h0 T140.heap [] := K128.trans K140q (allS (Or.inr sz_b127) (allS (Or.inr sz_b_128) all0))
      have Z140 : n0 ≤ T140.heap.size := Nat.le_trans Z0 K140.1
      refine own_Go.of (g' := (mkF m 81 #[.val (.int x0), .val (.int x1), .val (.int x2), .val (.int x3), .val (.int x4), .val (.int (3 : Int32)), .val (.int nv), .val (.double (own_D 8 q1)), .second, .val (.double (own_D 8 q2)), .second, .val (.double (own_D 8 q3)), .second, .val (.double (own_D 8 q4)), .second, .val (.ref b127), .unset, .unset] [])) (fun t k => st140.trans k) ?_
      obtain ⟨hl1, hs1⟩ := own_inv3 (M := 1) ⟨a_q1, z_q1⟩ hl0 hs0 c140_4 c140_5 c140_6 c140_7
      have hs1 : nm_140 + w0_140 + w1_140 + w2_140 = 256 := hs1
      have FM1 : Fld Z T140.heap b127 "com/example/paranhos/paranhos/MatchRuns" "matched" "D" (.double (own_D 8 nm_140)) := c140_2
      have VM1 : Arv Z T140.heap b_128 kk_128 .double (3 : Int32) [(.double (own_D 8 w0_140)), (.double (own_D 8 w1_140)), (.double (own_D 8 w2_140))] (.double (0 : UInt64)) := c140_3
      refine og_iload (pc' := 83) X140 hx (hb hby at_81) rfl rfl ?_
      refine og_iconst (pc' := 84) (n := 2) X140 hx (hb hby at_83) rfl rfl ?_
      by_cases hc84_10 : nv < (2 : Int32)
      · refine og_icmpYes (pc' := 94) X140 hx (hb hby at_84) (tlt hc84_10).1 (by decide) (by decide) ?_
        refine og_iload (pc' := 96) X140 hx (hb hby at_94) rfl rfl ?_
        refine og_iconst (pc' := 97) (n := 3) X140 hx (hb hby at_96) rfl rfl ?_
        refine og_icmpYes (pc' := 107) X140 hx (hb hby at_97) (tlt (own_ltt hc84_10 (by decide))).1 (by decide) (by decide) ?_
        refine og_iload (pc' := 109) X140 hx (hb hby at_107) rfl rfl ?_
        refine og_iconst (pc' := 110) (n := 4) X140 hx (hb hby at_109) rfl rfl ?_
        refine og_icmpYes (pc' := 120) X140 hx (hb hby at_110) (tlt (own_ltt hc84_10 (by decide))).1 (by decide) (by decide) ?_
        have hq2 : q2 = 0 := hq2.trans (if_pos hc84_10)
        have hq3 : q3 = 0 := hq3.trans (if_pos (own_ltt hc84_10 (by decide)))
        have hq4 : q4 = 0 := hq4.trans (if_pos (own_ltt hc84_10 (by decide)))
        refine og_iload (pc' := 122) X140 hx (hb hby at_120) rfl rfl ?_
        refine og_iconst (pc' := 123) (n := 1) X140 hx (hb hby at_122) rfl rfl ?_
        refine og_icmpYes (pc' := 152) X140 hx (hb hby at_123) (feq (by decide)).2 (by decide) (by decide) ?_
        refine og_iload (pc' := 154) X140 hx (hb hby at_152) rfl rfl ?_
        refine og_iconst (pc' := 155) (n := 2) X140 hx (hb hby at_154) rfl rfl ?_
        refine og_icmpYes (pc' := 198) X140 hx (hb hby at_155) (feq (by decide)).2 (by decide) (by decide) ?_
        refine og_iload (pc' := 200) X140 hx (hb hby at_198) rfl rfl ?_
        refine og_iconst (pc' := 201) (n := 3) X140 hx (hb hby at_200) rfl rfl ?_
        refine og_icmpNo (pc' := 204) X140 hx (hb hby at_201) (teq (by decide)).2 rfl ?_
        refine og_dload (pc' := 206) X140 hx (hb hby at_204) rfl rfl ?_
        refine og_dload (pc' := 208) X140 hx (hb hby at_206) rfl rfl ?_
        obtain ⟨u141, hu141⟩ : ∃ q : Int, q = (q1 * q2) := ⟨_, rfl⟩
        have a141 : 0 ≤ u141 := by rw [hu141]; exact Int.mul_nonneg (by omega) (by omega)
        have z141 : u141 ≤ 65536 := by rw [hu141]; exact Int.le_trans (Int.mul_le_mul z_q1 z_q2 (by omega) (by omega)) (by decide)
        have x141 : FP.dmul (own_D 8 q1) (own_D 8 q2) = own_D 16 u141 := own_xmul rfl rfl hu141.symm rfl (by omega) (by omega) (by omega) (by omega) (by omega) (by omega)
        refine og_dmul (pc' := 209) X140 hx (hb hby at_208) (own_nnx x141 (by omega) (by omega)) x141 rfl ?_
        refine og_dload (pc' := 211) X140 hx (hb hby at_209) rfl rfl ?_
        obtain ⟨u142, hu142⟩ : ∃ q : Int, q = (u141 * q3) := ⟨_, rfl⟩
        have a142 : 0 ≤ u142 := by rw [hu142]; exact Int.mul_nonneg (by omega) (by omega)
        have z142 : u142 ≤ 16777216 := by rw [hu142]; exact Int.le_trans (Int.mul_le_mul z141 z_q3 (by omega) (by omega)) (by decide)
        have x142 : FP.dmul (own_D 16 u141) (own_D 8 q3) = own_D 24 u142 := own_xmul rfl rfl hu142.symm rfl (by omega) (by omega) (by omega) (by omega) (by omega) (by omega)
        refine og_dmul (pc' := 212) X140 hx (hb hby at_211) (own_nnx x142 (by omega) (by omega)) x142 rfl ?_
        refine og_dload (pc' := 214) X140 hx (hb hby at_212) rfl rfl ?_
        refine og_dload (pc' := 216) X140 hx (hb hby at_214) rfl rfl ?_
        obtain ⟨u143, hu143⟩ : ∃ q : Int, q = (q2 * q3) := ⟨_, rfl⟩
        have a143 : 0 ≤ u143 := by rw [hu143]; exact Int.mul_nonneg (by omega) (by omega)
        have z143 : u143 ≤ 65536 := by rw [hu143]; exact Int.le_trans (Int.mul_le_mul z_q2 z_q3 (by omega) (by omega)) (by decide)
        have x143 : FP.dmul (own_D 8 q2) (own_D 8 q3) = own_D 16 u143 := own_xmul rfl rfl hu143.symm rfl (by omega) (by omega) (by omega) (by omega) (by omega) (by omega)
        refine og_dmul (pc' := 217) X140 hx (hb hby at_216) (own_nnx x143 (by omega) (by omega)) x143 rfl ?_
        refine og_dload (pc' := 219) X140 hx (hb hby at_217) rfl rfl ?_
        obtain ⟨u144, hu144⟩ : ∃ q : Int, q = (u143 * q4) := ⟨_, rfl⟩
        have a144 : 0 ≤ u144 := by rw [hu144]; exact Int.mul_nonneg (by omega) (by omega)
        have z144 : u144 ≤ 16777216 := by rw [hu144]; exact Int.le_trans (Int.mul_le_mul z143 z_q4 (by omega) (by omega)) (by decide)
        have x144 : FP.dmul (own_D 16 u143) (own_D 8 q4) = own_D 24 u144 := own_xmul rfl rfl hu144.symm rfl (by omega) (by omega) (by omega) (by omega) (by omega) (by omega)
        refine og_dmul (pc' := 220) X140 hx (hb hby at_219) (own_nnx x144 (by omega) (by omega)) x144 rfl ?_
        obtain ⟨u145, hu145⟩ : ∃ q : Int, q = (u142 + u144) := ⟨_, rfl⟩
        have a145 : 0 ≤ u145 := by omega
        have z145 : u145 ≤ 33554432 := by omega
        have x145 : FP.dadd (own_D 24 u142) (own_D 24 u144) = own_D 24 u145 := own_xadd rfl rfl hu145.symm (by omega) (by omega) (by omega)
        refine og_dadd (pc' := 221) X140 hx (hb hby at_220) (own_nnx x145 (by omega) (by omega)) x145 rfl ?_
        refine og_dload (pc' := 223) X140 hx (hb hby at_221) rfl rfl ?_
        refine og_dload (pc' := 225) X140 hx (hb hby at_223) rfl rfl ?_
        obtain ⟨u146, hu146⟩ : ∃ q : Int, q = (q1 * q2) := ⟨_, rfl⟩
        have a146 : 0 ≤ u146 := by rw [hu146]; exact Int.mul_nonneg (by omega) (by omega)
        have z146 : u146 ≤ 65536 := by rw [hu146]; exact Int.le_trans (Int.mul_le_mul z_q1 z_q2 (by omega) (by omega)) (by decide)
        have x146 : FP.dmul (own_D 8 q1) (own_D 8 q2) = own_D 16 u146 := own_xmul rfl rfl hu146.symm rfl (by omega) (by omega) (by omega) (by omega) (by omega) (by omega)
        refine og_dmul (pc' := 226) X140 hx (hb hby at_225) (own_nnx x146 (by omega) (by omega)) x146 rfl ?_
        refine og_dload (pc' := 228) X140 hx (hb hby at_226) rfl rfl ?_
        obtain ⟨u147, hu147⟩ : ∃ q : Int, q = (u146 * q3) := ⟨_, rfl⟩
        have a147 : 0 ≤ u147 := by rw [hu147]; exact Int.mul_nonneg (by omega) (by omega)
        have z147 : u147 ≤ 16777216 := by rw [hu147]; exact Int.le_trans (Int.mul_le_mul z146 z_q3 (by omega) (by omega)) (by decide)
        have x147 : FP.dmul (own_D 16 u146) (own_D 8 q3) = own_D 24 u147 := own_xmul rfl rfl hu147.symm rfl (by omega) (by omega) (by omega) (by omega) (by omega) (by omega)
        refine og_dmul (pc' := 229) X140 hx (hb hby at_228) (own_nnx x147 (by omega) (by omega)) x147 rfl ?_
        refine og_dload (pc' := 231) X140 hx (hb hby at_229) rfl rfl ?_
        obtain ⟨u148, hu148⟩ : ∃ q : Int, q = (u147 * q4) := ⟨_, rfl⟩
        have a148 : 0 ≤ u148 := by rw [hu148]; exact Int.mul_nonneg (by omega) (by omega)
        have z148 : u148 ≤ 4294967296 := by rw [hu148]; exact Int.le_trans (Int.mul_le_mul z147 z_q4 (by omega) (by omega)) (by decide)
        have x148 : FP.dmul (own_D 24 u147) (own_D 8 q4) = own_D 32 u148 := own_xmul rfl rfl hu148.symm rfl (by omega) (by omega) (by omega) (by omega) (by omega) (by omega)
        refine og_dmul (pc' := 232) X140 hx (hb hby at_231) (own_nnx x148 (by omega) (by omega)) x148 rfl ?_
        obtain ⟨u149, hu149⟩ : ∃ q : Int, q = (u145 * 256) := ⟨_, rfl⟩
        have y149 : _ = own_D 32 u149 := (rfl : own_D 24 u145 = own_D 24 u145).trans (by rw [hu149]; exact own_resc _ _)
        have a149 : 0 ≤ u149 := by omega
        have z149 : u149 ≤ 8589934592 := by omega
        obtain ⟨u150, hu150⟩ : ∃ q : Int, q = (u149 - u148) := ⟨_, rfl⟩
        have a150 : -4294967296 ≤ u150 := by omega
        have z150 : u150 ≤ 8589934592 := by omega
        have x150 : FP.dsub (own_D 24 u145) (own_D 32 u148) = own_D 32 u150 := own_xsub y149 rfl hu150.symm (by omega) (by omega) (by omega)
        refine og_dsub (pc' := 233) X140 hx (hb hby at_232) (own_nnx x150 (by omega) (by omega)) x150 rfl ?_
        refine og_dstore (pc' := 235) (L' := #[.val (.int x0), .val (.int x1), .val (.int x2), .val (.int x3), .val (.int x4), .val (.int (3 : Int32)), .val (.int nv), .val (.double (own_D 8 q1)), .second, .val (.double (own_D 8 q2)), .second, .val (.double (own_D 8 q3)), .second, .val (.double (own_D 8 q4)), .second, .val (.ref b127), .val (.double (own_D 32 u150)), .second]) X140 hx (hb hby at_233) rfl rfl ?_
        refine og_goto (pc' := 263) X140 hx (hb hby at_235) (by decide) (by decide) ?_
        refine og_aload (pc' := 265) X140 hx (hb hby at_263) rfl rfl rfl ?_
        obtain ⟨cq151, kq151, q151a, q151b, q151c⟩ := isOf hZ rfl c140_0
        obtain ⟨_, _, ⟨T151, L151, k151, n151⟩, -, X151, ⟨Lc151, hQ151, l151, y151, z151⟩, st151⟩ := X140.virtualBack hx (y := (⟨"com/example/paranhos/paranhos/MatchRuns", "matched", "()D"⟩ : MethodName)) (z := (⟨"com/example/paranhos/paranhos/MatchRuns", "matched", "()D"⟩ : MethodName)) hown (mvT hZ (hw _ (List.mem_of_getElem? (i := 16) rfl))) (mvT hZ (hw _ (List.mem_of_getElem? (i := 17) rfl))) (notFace_of_selects (args := #[]) (mvT hZ (hw _ (List.mem_of_getElem? (i := 19) rfl)))) (mvT hZ (hw _ (List.mem_of_getElem? (i := 19) rfl))) (mvT hZ (hw _ (List.mem_of_getElem? (i := 18) rfl))) (by decide) (backOf (W := 0) (rmmat l Z a0 hw [] b127 (own_D 8 nm_140) T140.heap n0 Z140 FM1) hZ (hw _ (List.mem_of_getElem? (i := 20) rfl)) (hw _ (List.mem_of_getElem? (i := 6) rfl)) (by decide) (by decide)) q151a q151c (g := (mkF m 265 #[.val (.int x0), .val (.int x1), .val (.int x2), .val (.int x3), .val (.int x4), .val (.int (3 : Int32)), .val (.int nv), .val (.double (own_D 8 q1)), .second, .val (.double (own_D 8 q2)), .second, .val (.double (own_D 8 q3)), .second, .val (.double (own_D 8 q4)), .second, .val (.ref b127), .val (.double (own_D 32 u150)), .second] [(.ref b127)])) rfl (by rw [hml]; rfl) (Steps.refl _) (argsL := []) (rest := []) (lenOf pd_2 rfl) rfl (by show 2 * 0 + _ ≤ _; exact Nat.le_of_eq rfl) (hb hby at_265) (fun _ _ => ⟨rfl, rfl, (by decide : 2 + 0 ≤ _), (by decide : 5 + 0 ≤ _)⟩)
        dsimp only [Pt.U, Pt.locs, Pt.cells, Pt.slots] at X151 l151 y151 z151 st151 hQ151
        subst l151 y151 z151
        obtain ⟨rfl, N151q, e151⟩ := hQ151
        have N151 := Fr.app N140 N151q
        obtain ⟨J151, X151, N151⟩ := own_hide X151 N151
        refine own_Go.of (g' := (mkF m 268 #[.val (.int x0), .val (.int x1), .val (.int x2), .val (.int x3), .val (.int x4), .val (.int (3 : Int32)), .val (.int nv), .val (.double (own_D 8 q1)), .second, .val (.double (own_D 8 q2)), .second, .val (.double (own_D 8 q3)), .second, .val (.double (own_D 8 q4)), .second, .val (.ref b127), .val (.double (own_D 32 u150)), .second] [(.double (own_D 8 nm_140))])) (fun t k => st151.trans k) ?_
        refine og_dload (pc' := 270) X151 hx (hb hby at_268) rfl rfl ?_
        have hcmp : cmpValue (FP.dcmp (own_D 8 nm_140) (own_D 32 u150)) .l = 0 := own_cmpE (own_res3 8 nm_140) (own_res0 32 u150) (by first | (simp only [c140_4, c140_5, c140_6, c140_7, hq2, hq3, hq4, hu141, hu142, hu143, hu144, hu145, hu146, hu147, hu148, hu149, hu150]; done) | (simp only [c140_4, c140_5, c140_6, c140_7, hq2, hq3, hq4, hu141, hu142, hu143, hu144, hu145, hu146, hu147, hu148, hu149, hu150]; grind) | decide) (by decide) (by omega)
        refine og_dcmp (pc' := 271) X151 hx (hb hby at_270) hcmp rfl ?_
        refine og_ifNo (pc' := 274) X151 hx (hb hby at_271) ((if0 _ _).trans (teq (by decide)).2) rfl ?_
        refine og_iconst (pc' := 275) (n := 1) X151 hx (hb hby at_274) rfl rfl ?_
        refine og_goto (pc' := 279) X151 hx (hb hby at_275) (by decide) (by decide) ?_
        obtain ⟨fs, hr, hrun, hended, hW, hsame⟩ := X151.leave (v := some (.int (1 : Int32))) (fun h => by rw [Bd.returns] at h; cases h) (BodyLoose.notSynchronized Bd)
        refine ⟨_, _, retN X151 hx (t := .boolean) Bd.returns (by simp) (hb hby at_279) hr, hrun, hended, some (.int (1 : Int32)), _, rfl, ?_, ⟨_, rfl⟩, hW, hsame.mono (by decide) (by decide)⟩
        show Q0 Z x0 x1 x2 x3 x4 h0 n0 _ T151.heap _
        rw [e151]
        exact ⟨rfl, N151⟩
      · refine og_icmpNo (pc' := 87) X140 hx (hb hby at_84) (flt hc84_10).1 rfl ?_
        refine og_aload (pc' := 89) X140 hx (hb hby at_87) rfl rfl rfl ?_
        refine og_dload (pc' := 91) X140 hx (hb hby at_89) rfl rfl ?_
        obtain ⟨cq152, kq152, q152a, q152b, q152c⟩ := isOf hZ rfl c140_0
        obtain ⟨_, _, ⟨T152, L152, k152, n152⟩, -, X152, ⟨Lc152, hQ152, l152, y152, z152⟩, st152⟩ := X140.virtualBack hx (y := (⟨"com/example/paranhos/paranhos/MatchRuns", "add", "(D)V"⟩ : MethodName)) (z := (⟨"com/example/paranhos/paranhos/MatchRuns", "add", "(D)V"⟩ : MethodName)) hown (mvT hZ (hw _ (List.mem_of_getElem? (i := 24) rfl))) (mvT hZ (hw _ (List.mem_of_getElem? (i := 25) rfl))) (notFace_of_selects (args := #[]) (mvT hZ (hw _ (List.mem_of_getElem? (i := 27) rfl)))) (mvT hZ (hw _ (List.mem_of_getElem? (i := 27) rfl))) (mvT hZ (hw _ (List.mem_of_getElem? (i := 26) rfl))) (by decide) (backOf (W := 0) (rmadd3 l Z a0 hw [] b127 (own_D 8 q2) b_128 kk_128 8 256 q2 nm_140 w0_140 w1_140 w2_140 T140.heap n0 Z140 c140_0 c140_1 FM1 VM1 g_b127 g_b_128 ne128_0 rfl ⟨a_q2, z_q2⟩ hl1 hs1 ⟨by decide, by decide, own_o8⟩) hZ (hw _ (List.mem_of_getElem? (i := 28) rfl)) (hw _ (List.mem_of_getElem? (i := 6) rfl)) (by decide) (by decide)) q152a q152c (g := (mkF m 91 #[.val (.int x0), .val (.int x1), .val (.int x2), .val (.int x3), .val (.int x4), .val (.int (3 : Int32)), .val (.int nv), .val (.double (own_D 8 q1)), .second, .val (.double (own_D 8 q2)), .second, .val (.double (own_D 8 q3)), .second, .val (.double (own_D 8 q4)), .second, .val (.ref b127), .unset, .unset] [(.double (own_D 8 q2)), (.ref b127)])) rfl (by rw [hml]; rfl) (Steps.refl _) (argsL := [(.double (own_D 8 q2))]) (rest := []) (lenOf pd_3 rfl) rfl (by show 2 * 0 + _ ≤ _; exact Nat.le_of_eq rfl) (hb hby at_91) (fun _ _ => ⟨rfl, rfl, (by decide : 2 + 0 ≤ _), (by decide : 5 + 0 ≤ _)⟩)
        dsimp only [Pt.U, Pt.locs, Pt.cells, Pt.slots] at X152 l152 y152 z152 st152 hQ152
        subst l152 y152 z152
        obtain ⟨nm_152, w0_152, w1_152, w2_152, rfl, N152q, K152q, c152_0, c152_1, c152_2, c152_3, c152_4, c152_5, c152_6, c152_7⟩ := hQ152
        have N152 := Fr.app N140 N152q
        obtain ⟨J152, X152, N152⟩ := own_hide X152 N152
        have f152_0 := c140_0.keep K152q
        have K152 : Keep h0 T152.heap [] := K140.trans K152q (allS (Or.inr sz_b127) (allS (Or.inr sz_b_128) all0))
        have Z152 : n0 ≤ T152.heap.size := Nat.le_trans Z0 K152.1
        refine own_Go.of (g' := (mkF m 94 #[.val (.int x0), .val (.int x1), .val (.int x2), .val (.int x3), .val (.int x4), .val (.int (3 : Int32)), .val (.int nv), .val (.double (own_D 8 q1)), .second, .val (.double (own_D 8 q2)), .second, .val (.double (own_D 8 q3)), .second, .val (.double (own_D 8 q4)), .second, .val (.ref b127), .unset, .unset] [])) (fun t k => st152.trans k) ?_
        obtain ⟨hl2, hs2⟩ := own_inv3 (M := 256) ⟨a_q2, z_q2⟩ hl1 hs1 c152_4 c152_5 c152_6 c152_7
        have hs2 : nm_152 + w0_152 + w1_152 + w2_152 = 65536 := hs2
        have FM2 : Fld Z T152.heap b127 "com/example/paranhos/paranhos/MatchRuns" "matched" "D" (.double (own_D 16 nm_152)) := c152_2
        have VM2 : Arv Z T152.heap b_128 kk_128 .double (3 : Int32) [(.double (own_D 16 w0_152)), (.double (own_D 16 w1_152)), (.double (own_D 16 w2_152))] (.double (0 : UInt64)) := c152_3
        refine og_iload (pc' := 96) X152 hx (hb hby at_94) rfl rfl ?_
        refine og_iconst (pc' := 97) (n := 3) X152 hx (hb hby at_96) rfl rfl ?_
        by_cases hc97_11 : nv < (3 : Int32)
        · refine og_icmpYes (pc' := 107) X152 hx (hb hby at_97) (tlt hc97_11).1 (by decide) (by decide) ?_
          refine og_iload (pc' := 109) X152 hx (hb hby at_107) rfl rfl ?_
          refine og_iconst (pc' := 110) (n := 4) X152 hx (hb hby at_109) rfl rfl ?_
          refine og_icmpYes (pc' := 120) X152 hx (hb hby at_110) (tlt (own_ltt hc97_11 (by decide))).1 (by decide) (by decide) ?_
          have hq3 : q3 = 0 := hq3.trans (if_pos hc97_11)
          have hq4 : q4 = 0 := hq4.trans (if_pos (own_ltt hc97_11 (by decide)))
          refine og_iload (pc' := 122) X152 hx (hb hby at_120) rfl rfl ?_
          refine og_iconst (pc' := 123) (n := 1) X152 hx (hb hby at_122) rfl rfl ?_
          refine og_icmpYes (pc' := 152) X152 hx (hb hby at_123) (feq (by decide)).2 (by decide) (by decide) ?_
          refine og_iload (pc' := 154) X152 hx (hb hby at_152) rfl rfl ?_
          refine og_iconst (pc' := 155) (n := 2) X152 hx (hb hby at_154) rfl rfl ?_
          refine og_icmpYes (pc' := 198) X152 hx (hb hby at_155) (feq (by decide)).2 (by decide) (by decide) ?_
          refine og_iload (pc' := 200) X152 hx (hb hby at_198) rfl rfl ?_
          refine og_iconst (pc' := 201) (n := 3) X152 hx (hb hby at_200) rfl rfl ?_
          refine og_icmpNo (pc' := 204) X152 hx (hb hby at_201) (teq (by decide)).2 rfl ?_
          refine og_dload (pc' := 206) X152 hx (hb hby at_204) rfl rfl ?_
          refine og_dload (pc' := 208) X152 hx (hb hby at_206) rfl rfl ?_
          obtain ⟨u153, hu153⟩ : ∃ q : Int, q = (q1 * q2) := ⟨_, rfl⟩
          have a153 : 0 ≤ u153 := by rw [hu153]; exact Int.mul_nonneg (by omega) (by omega)
          have z153 : u153 ≤ 65536 := by rw [hu153]; exact Int.le_trans (Int.mul_le_mul z_q1 z_q2 (by omega) (by omega)) (by decide)
          have x153 : FP.dmul (own_D 8 q1) (own_D 8 q2) = own_D 16 u153 := own_xmul rfl rfl hu153.symm rfl (by omega) (by omega) (by omega) (by omega) (by omega) (by omega)
          refine og_dmul (pc' := 209) X152 hx (hb hby at_208) (own_nnx x153 (by omega) (by omega)) x153 rfl ?_
          refine og_dload (pc' := 211) X152 hx (hb hby at_209) rfl rfl ?_
          obtain ⟨u154, hu154⟩ : ∃ q : Int, q = (u153 * q3) := ⟨_, rfl⟩
          have a154 : 0 ≤ u154 := by rw [hu154]; exact Int.mul_nonneg (by omega) (by omega)
          have z154 : u154 ≤ 16777216 := by rw [hu154]; exact Int.le_trans (Int.mul_le_mul z153 z_q3 (by omega) (by omega)) (by decide)
          have x154 : FP.dmul (own_D 16 u153) (own_D 8 q3) = own_D 24 u154 := own_xmul rfl rfl hu154.symm rfl (by omega) (by omega) (by omega) (by omega) (by omega) (by omega)
          refine og_dmul (pc' := 212) X152 hx (hb hby at_211) (own_nnx x154 (by omega) (by omega)) x154 rfl ?_
          refine og_dload (pc' := 214) X152 hx (hb hby at_212) rfl rfl ?_
          refine og_dload (pc' := 216) X152 hx (hb hby at_214) rfl rfl ?_
          obtain ⟨u155, hu155⟩ : ∃ q : Int, q = (q2 * q3) := ⟨_, rfl⟩
          have a155 : 0 ≤ u155 := by rw [hu155]; exact Int.mul_nonneg (by omega) (by omega)
          have z155 : u155 ≤ 65536 := by rw [hu155]; exact Int.le_trans (Int.mul_le_mul z_q2 z_q3 (by omega) (by omega)) (by decide)
          have x155 : FP.dmul (own_D 8 q2) (own_D 8 q3) = own_D 16 u155 := own_xmul rfl rfl hu155.symm rfl (by omega) (by omega) (by omega) (by omega) (by omega) (by omega)
          refine og_dmul (pc' := 217) X152 hx (hb hby at_216) (own_nnx x155 (by omega) (by omega)) x155 rfl ?_
          refine og_dload (pc' := 219) X152 hx (hb hby at_217) rfl rfl ?_
          obtain ⟨u156, hu156⟩ : ∃ q : Int, q = (u155 * q4) := ⟨_, rfl⟩
          have a156 : 0 ≤ u156 := by rw [hu156]; exact Int.mul_nonneg (by omega) (by omega)
          have z156 : u156 ≤ 16777216 := by rw [hu156]; exact Int.le_trans (Int.mul_le_mul z155 z_q4 (by omega) (by omega)) (by decide)
          have x156 : FP.dmul (own_D 16 u155) (own_D 8 q4) = own_D 24 u156 := own_xmul rfl rfl hu156.symm rfl (by omega) (by omega) (by omega) (by omega) (by omega) (by omega)
          refine og_dmul (pc' := 220) X152 hx (hb hby at_219) (own_nnx x156 (by omega) (by omega)) x156 rfl ?_
          obtain ⟨u157, hu157⟩ : ∃ q : Int, q = (u154 + u156) := ⟨_, rfl⟩
          have a157 : 0 ≤ u157 := by omega
          have z157 : u157 ≤ 33554432 := by omega
          have x157 : FP.dadd (own_D 24 u154) (own_D 24 u156) = own_D 24 u157 := own_xadd rfl rfl hu157.symm (by omega) (by omega) (by omega)
          refine og_dadd (pc' := 221) X152 hx (hb hby at_220) (own_nnx x157 (by omega) (by omega)) x157 rfl ?_
          refine og_dload (pc' := 223) X152 hx (hb hby at_221) rfl rfl ?_
          refine og_dload (pc' := 225) X152 hx (hb hby at_223) rfl rfl ?_
          obtain ⟨u158, hu158⟩ : ∃ q : Int, q = (q1 * q2) := ⟨_, rfl⟩
          have a158 : 0 ≤ u158 := by rw [hu158]; exact Int.mul_nonneg (by omega) (by omega)
          have z158 : u158 ≤ 65536 := by rw [hu158]; exact Int.le_trans (Int.mul_le_mul z_q1 z_q2 (by omega) (by omega)) (by decide)
          have x158 : FP.dmul (own_D 8 q1) (own_D 8 q2) = own_D 16 u158 := own_xmul rfl rfl hu158.symm rfl (by omega) (by omega) (by omega) (by omega) (by omega) (by omega)
          refine og_dmul (pc' := 226) X152 hx (hb hby at_225) (own_nnx x158 (by omega) (by omega)) x158 rfl ?_
          refine og_dload (pc' := 228) X152 hx (hb hby at_226) rfl rfl ?_
          obtain ⟨u159, hu159⟩ : ∃ q : Int, q = (u158 * q3) := ⟨_, rfl⟩
          have a159 : 0 ≤ u159 := by rw [hu159]; exact Int.mul_nonneg (by omega) (by omega)
          have z159 : u159 ≤ 16777216 := by rw [hu159]; exact Int.le_trans (Int.mul_le_mul z158 z_q3 (by omega) (by omega)) (by decide)
          have x159 : FP.dmul (own_D 16 u158) (own_D 8 q3) = own_D 24 u159 := own_xmul rfl rfl hu159.symm rfl (by omega) (by omega) (by omega) (by omega) (by omega) (by omega)
          refine og_dmul (pc' := 229) X152 hx (hb hby at_228) (own_nnx x159 (by omega) (by omega)) x159 rfl ?_
          refine og_dload (pc' := 231) X152 hx (hb hby at_229) rfl rfl ?_
          obtain ⟨u160, hu160⟩ : ∃ q : Int, q = (u159 * q4) := ⟨_, rfl⟩
          have a160 : 0 ≤ u160 := by rw [hu160]; exact Int.mul_nonneg (by omega) (by omega)
          have z160 : u160 ≤ 4294967296 := by rw [hu160]; exact Int.le_trans (Int.mul_le_mul z159 z_q4 (by omega) (by omega)) (by decide)
          have x160 : FP.dmul (own_D 24 u159) (own_D 8 q4) = own_D 32 u160 := own_xmul rfl rfl hu160.symm rfl (by omega) (by omega) (by omega) (by omega) (by omega) (by omega)
          refine og_dmul (pc' := 232) X152 hx (hb hby at_231) (own_nnx x160 (by omega) (by omega)) x160 rfl ?_
          obtain ⟨u161, hu161⟩ : ∃ q : Int, q = (u157 * 256) := ⟨_, rfl⟩
          have y161 : _ = own_D 32 u161 := (rfl : own_D 24 u157 = own_D 24 u157).trans (by rw [hu161]; exact own_resc _ _)
          have a161 : 0 ≤ u161 := by omega
          have z161 : u161 ≤ 8589934592 := by omega
          obtain ⟨u162, hu162⟩ : ∃ q : Int, q = (u161 - u160) := ⟨_, rfl⟩
          have a162 : -4294967296 ≤ u162 := by omega
          have z162 : u162 ≤ 8589934592 := by omega
          have x162 : FP.dsub (own_D 24 u157) (own_D 32 u160) = own_D 32 u162 := own_xsub y161 rfl hu162.symm (by omega) (by omega) (by omega)
          refine og_dsub (pc' := 233) X152 hx (hb hby at_232) (own_nnx x162 (by omega) (by omega)) x162 rfl ?_
          refine og_dstore (pc' := 235) (L' := #[.val (.int x0), .val (.int x1), .val (.int x2), .val (.int x3), .val (.int x4), .val (.int (3 : Int32)), .val (.int nv), .val (.double (own_D 8 q1)), .second, .val (.double (own_D 8 q2)), .second, .val (.double (own_D 8 q3)), .second, .val (.double (own_D 8 q4)), .second, .val (.ref b127), .val (.double (own_D 32 u162)), .second]) X152 hx (hb hby at_233) rfl rfl ?_
          refine og_goto (pc' := 263) X152 hx (hb hby at_235) (by decide) (by decide) ?_
          refine og_aload (pc' := 265) X152 hx (hb hby at_263) rfl rfl rfl ?_
          obtain ⟨cq163, kq163, q163a, q163b, q163c⟩ := isOf hZ rfl c152_0
          obtain ⟨_, _, ⟨T163, L163, k163, n163⟩, -, X163, ⟨Lc163, hQ163, l163, y163, z163⟩, st163⟩ := X152.virtualBack hx (y := (⟨"com/example/paranhos/paranhos/MatchRuns", "matched", "()D"⟩ : MethodName)) (z := (⟨"com/example/paranhos/paranhos/MatchRuns", "matched", "()D"⟩ : MethodName)) hown (mvT hZ (hw _ (List.mem_of_getElem? (i := 16) rfl))) (mvT hZ (hw _ (List.mem_of_getElem? (i := 17) rfl))) (notFace_of_selects (args := #[]) (mvT hZ (hw _ (List.mem_of_getElem? (i := 19) rfl)))) (mvT hZ (hw _ (List.mem_of_getElem? (i := 19) rfl))) (mvT hZ (hw _ (List.mem_of_getElem? (i := 18) rfl))) (by decide) (backOf (W := 0) (rmmat l Z a0 hw [] b127 (own_D 16 nm_152) T152.heap n0 Z152 FM2) hZ (hw _ (List.mem_of_getElem? (i := 20) rfl)) (hw _ (List.mem_of_getElem? (i := 6) rfl)) (by decide) (by decide)) q163a q163c (g := (mkF m 265 #[.val (.int x0), .val (.int x1), .val (.int x2), .val (.int x3), .val (.int x4), .val (.int (3 : Int32)), .val (.int nv), .val (.double (own_D 8 q1)), .second, .val (.double (own_D 8 q2)), .second, .val (.double (own_D 8 q3)), .second, .val (.double (own_D 8 q4)), .second, .val (.ref b127), .val (.double (own_D 32 u162)), .second] [(.ref b127)])) rfl (by rw [hml]; rfl) (Steps.refl _) (argsL := []) (rest := []) (lenOf pd_2 rfl) rfl (by show 2 * 0 + _ ≤ _; exact Nat.le_of_eq rfl) (hb hby at_265) (fun _ _ => ⟨rfl, rfl, (by decide : 2 + 0 ≤ _), (by decide : 5 + 0 ≤ _)⟩)
          dsimp only [Pt.U, Pt.locs, Pt.cells, Pt.slots] at X163 l163 y163 z163 st163 hQ163
          subst l163 y163 z163
          obtain ⟨rfl, N163q, e163⟩ := hQ163
          have N163 := Fr.app N152 N163q
          obtain ⟨J163, X163, N163⟩ := own_hide X163 N163
          refine own_Go.of (g' := (mkF m 268 #[.val (.int x0), .val (.int x1), .val (.int x2), .val (.int x3), .val (.int x4), .val (.int (3 : Int32)), .val (.int nv), .val (.double (own_D 8 q1)), .second, .val (.double (own_D 8 q2)), .second, .val (.double (own_D 8 q3)), .second, .val (.double (own_D 8 q4)), .second, .val (.ref b127), .val (.double (own_D 32 u162)), .second] [(.double (own_D 16 nm_152))])) (fun t k => st163.trans k) ?_
          refine og_dload (pc' := 270) X163 hx (hb hby at_268) rfl rfl ?_
          have hcmp : cmpValue (FP.dcmp (own_D 16 nm_152) (own_D 32 u162)) .l = 0 := own_cmpE (own_res2 16 nm_152) (own_res0 32 u162) (by first | (simp only [c140_4, c140_5, c140_6, c140_7, c152_4, c152_5, c152_6, c152_7, hq3, hq4, hu153, hu154, hu155, hu156, hu157, hu158, hu159, hu160, hu161, hu162]; done) | (simp only [c140_4, c140_5, c140_6, c140_7, c152_4, c152_5, c152_6, c152_7, hq3, hq4, hu153, hu154, hu155, hu156, hu157, hu158, hu159, hu160, hu161, hu162]; grind) | decide) (by decide) (by omega)
          refine og_dcmp (pc' := 271) X163 hx (hb hby at_270) hcmp rfl ?_
          refine og_ifNo (pc' := 274) X163 hx (hb hby at_271) ((if0 _ _).trans (teq (by decide)).2) rfl ?_
          refine og_iconst (pc' := 275) (n := 1) X163 hx (hb hby at_274) rfl rfl ?_
          refine og_goto (pc' := 279) X163 hx (hb hby at_275) (by decide) (by decide) ?_
          obtain ⟨fs, hr, hrun, hended, hW, hsame⟩ := X163.leave (v := some (.int (1 : Int32))) (fun h => by rw [Bd.returns] at h; cases h) (BodyLoose.notSynchronized Bd)
          refine ⟨_, _, retN X163 hx (t := .boolean) Bd.returns (by simp) (hb hby at_279) hr, hrun, hended, some (.int (1 : Int32)), _, rfl, ?_, ⟨_, rfl⟩, hW, hsame.mono (by decide) (by decide)⟩
          show Q0 Z x0 x1 x2 x3 x4 h0 n0 _ T163.heap _
          rw [e163]
          exact ⟨rfl, N163⟩
        · refine og_icmpNo (pc' := 100) X152 hx (hb hby at_97) (flt hc97_11).1 rfl ?_
          refine og_aload (pc' := 102) X152 hx (hb hby at_100) rfl rfl rfl ?_
          refine og_dload (pc' := 104) X152 hx (hb hby at_102) rfl rfl ?_
          obtain ⟨cq164, kq164, q164a, q164b, q164c⟩ := isOf hZ rfl c152_0
          obtain ⟨_, _, ⟨T164, L164, k164, n164⟩, -, X164, ⟨Lc164, hQ164, l164, y164, z164⟩, st164⟩ := X152.virtualBack hx (y := (⟨"com/example/paranhos/paranhos/MatchRuns", "add", "(D)V"⟩ : MethodName)) (z := (⟨"com/example/paranhos/paranhos/MatchRuns", "add", "(D)V"⟩ : MethodName)) hown (mvT hZ (hw _ (List.mem_of_getElem? (i := 24) rfl))) (mvT hZ (hw _ (List.mem_of_getElem? (i := 25) rfl))) (notFace_of_selects (args := #[]) (mvT hZ (hw _ (List.mem_of_getElem? (i := 27) rfl)))) (mvT hZ (hw _ (List.mem_of_getElem? (i := 27) rfl))) (mvT hZ (hw _ (List.mem_of_getElem? (i := 26) rfl))) (by decide) (backOf (W := 0) (rmadd3 l Z a0 hw [] b127 (own_D 8 q3) b_128 kk_128 16 65536 q3 nm_152 w0_152 w1_152 w2_152 T152.heap n0 Z152 c152_0 c152_1 FM2 VM2 g_b127 g_b_128 ne128_0 rfl ⟨a_q3, z_q3⟩ hl2 hs2 ⟨by decide, by decide, own_o16⟩) hZ (hw _ (List.mem_of_getElem? (i := 28) rfl)) (hw _ (List.mem_of_getElem? (i := 6) rfl)) (by decide) (by decide)) q164a q164c (g := (mkF m 104 #[.val (.int x0), .val (.int x1), .val (.int x2), .val (.int x3), .val (.int x4), .val (.int (3 : Int32)), .val (.int nv), .val (.double (own_D 8 q1)), .second, .val (.double (own_D 8 q2)), .second, .val (.double (own_D 8 q3)), .second, .val (.double (own_D 8 q4)), .second, .val (.ref b127), .unset, .unset] [(.double (own_D 8 q3)), (.ref b127)])) rfl (by rw [hml]; rfl) (Steps.refl _) (argsL := [(.double (own_D 8 q3))]) (rest := []) (lenOf pd_3 rfl) rfl (by show 2 * 0 + _ ≤ _; exact Nat.le_of_eq rfl) (hb hby at_104) (fun _ _ => ⟨rfl, rfl, (by decide : 2 + 0 ≤ _), (by decide : 5 + 0 ≤ _)⟩)
          dsimp only [Pt.U, Pt.locs, Pt.cells, Pt.slots] at X164 l164 y164 z164 st164 hQ164
          subst l164 y164 z164
          obtain ⟨nm_164, w0_164, w1_164, w2_164, rfl, N164q, K164q, c164_0, c164_1, c164_2, c164_3, c164_4, c164_5, c164_6, c164_7⟩ := hQ164
          have N164 := Fr.app N152 N164q
          obtain ⟨J164, X164, N164⟩ := own_hide X164 N164
          have f164_0 := c152_0.keep K164q
          have K164 : Keep h0 T164.heap [] := K152.trans K164q (allS (Or.inr sz_b127) (allS (Or.inr sz_b_128) all0))
          have Z164 : n0 ≤ T164.heap.size := Nat.le_trans Z0 K164.1
          refine own_Go.of (g' := (mkF m 107 #[.val (.int x0), .val (.int x1), .val (.int x2), .val (.int x3), .val (.int x4), .val (.int (3 : Int32)), .val (.int nv), .val (.double (own_D 8 q1)), .second, .val (.double (own_D 8 q2)), .second, .val (.double (own_D 8 q3)), .second, .val (.double (own_D 8 q4)), .second, .val (.ref b127), .unset, .unset] [])) (fun t k => st164.trans k) ?_
          obtain ⟨hl3, hs3⟩ := own_inv3 (M := 65536) ⟨a_q3, z_q3⟩ hl2 hs2 c164_4 c164_5 c164_6 c164_7
          have hs3 : nm_164 + w0_164 + w1_164 + w2_164 = 16777216 := hs3
          have FM3 : Fld Z T164.heap b127 "com/example/paranhos/paranhos/MatchRuns" "matched" "D" (.double (own_D 24 nm_164)) := c164_2
          have VM3 : Arv Z T164.heap b_128 kk_128 .double (3 : Int32) [(.double (own_D 24 w0_164)), (.double (own_D 24 w1_164)), (.double (own_D 24 w2_164))] (.double (0 : UInt64)) := c164_3
          refine og_iload (pc' := 109) X164 hx (hb hby at_107) rfl rfl ?_
          refine og_iconst (pc' := 110) (n := 4) X164 hx (hb hby at_109) rfl rfl ?_
          by_cases hc110_12 : nv < (4 : Int32)
          · refine og_icmpYes (pc' := 120) X164 hx (hb hby at_110) (tlt hc110_12).1 (by decide) (by decide) ?_
            have hq4 : q4 = 0 := hq4.trans (if_pos hc110_12)
            refine og_iload (pc' := 122) X164 hx (hb hby at_120) rfl rfl ?_
            refine og_iconst (pc' := 123) (n := 1) X164 hx (hb hby at_122) rfl rfl ?_
            refine og_icmpYes (pc' := 152) X164 hx (hb hby at_123) (feq (by decide)).2 (by decide) (by decide) ?_
            refine og_iload (pc' := 154) X164 hx (hb hby at_152) rfl rfl ?_
            refine og_iconst (pc' := 155) (n := 2) X164 hx (hb hby at_154) rfl rfl ?_
            refine og_icmpYes (pc' := 198) X164 hx (hb hby at_155) (feq (by decide)).2 (by decide) (by decide) ?_
            refine og_iload (pc' := 200) X164 hx (hb hby at_198) rfl rfl ?_
            refine og_iconst (pc' := 201) (n := 3) X164 hx (hb hby at_200) rfl rfl ?_
            refine og_icmpNo (pc' := 204) X164 hx (hb hby at_201) (teq (by decide)).2 rfl ?_
            refine og_dload (pc' := 206) X164 hx (hb hby at_204) rfl rfl ?_
            refine og_dload (pc' := 208) X164 hx (hb hby at_206) rfl rfl ?_
            obtain ⟨u165, hu165⟩ : ∃ q : Int, q = (q1 * q2) := ⟨_, rfl⟩
            have a165 : 0 ≤ u165 := by rw [hu165]; exact Int.mul_nonneg (by omega) (by omega)
            have z165 : u165 ≤ 65536 := by rw [hu165]; exact Int.le_trans (Int.mul_le_mul z_q1 z_q2 (by omega) (by omega)) (by decide)
            have x165 : FP.dmul (own_D 8 q1) (own_D 8 q2) = own_D 16 u165 := own_xmul rfl rfl hu165.symm rfl (by omega) (by omega) (by omega) (by omega) (by omega) (by omega)
            refine og_dmul (pc' := 209) X164 hx (hb hby at_208) (own_nnx x165 (by omega) (by omega)) x165 rfl ?_
            refine og_dload (pc' := 211) X164 hx (hb hby at_209) rfl rfl ?_
            obtain ⟨u166, hu166⟩ : ∃ q : Int, q = (u165 * q3) := ⟨_, rfl⟩
            have a166 : 0 ≤ u166 := by rw [hu166]; exact Int.mul_nonneg (by omega) (by omega)
            have z166 : u166 ≤ 16777216 := by rw [hu166]; exact Int.le_trans (Int.mul_le_mul z165 z_q3 (by omega) (by omega)) (by decide)
            have x166 : FP.dmul (own_D 16 u165) (own_D 8 q3) = own_D 24 u166 := own_xmul rfl rfl hu166.symm rfl (by omega) (by omega) (by omega) (by omega) (by omega) (by omega)
            refine og_dmul (pc' := 212) X164 hx (hb hby at_211) (own_nnx x166 (by omega) (by omega)) x166 rfl ?_
            refine og_dload (pc' := 214) X164 hx (hb hby at_212) rfl rfl ?_
            refine og_dload (pc' := 216) X164 hx (hb hby at_214) rfl rfl ?_
            obtain ⟨u167, hu167⟩ : ∃ q : Int, q = (q2 * q3) := ⟨_, rfl⟩
            have a167 : 0 ≤ u167 := by rw [hu167]; exact Int.mul_nonneg (by omega) (by omega)
            have z167 : u167 ≤ 65536 := by rw [hu167]; exact Int.le_trans (Int.mul_le_mul z_q2 z_q3 (by omega) (by omega)) (by decide)
            have x167 : FP.dmul (own_D 8 q2) (own_D 8 q3) = own_D 16 u167 := own_xmul rfl rfl hu167.symm rfl (by omega) (by omega) (by omega) (by omega) (by omega) (by omega)
            refine og_dmul (pc' := 217) X164 hx (hb hby at_216) (own_nnx x167 (by omega) (by omega)) x167 rfl ?_
            refine og_dload (pc' := 219) X164 hx (hb hby at_217) rfl rfl ?_
            obtain ⟨u168, hu168⟩ : ∃ q : Int, q = (u167 * q4) := ⟨_, rfl⟩
            have a168 : 0 ≤ u168 := by rw [hu168]; exact Int.mul_nonneg (by omega) (by omega)
            have z168 : u168 ≤ 16777216 := by rw [hu168]; exact Int.le_trans (Int.mul_le_mul z167 z_q4 (by omega) (by omega)) (by decide)
            have x168 : FP.dmul (own_D 16 u167) (own_D 8 q4) = own_D 24 u168 := own_xmul rfl rfl hu168.symm rfl (by omega) (by omega) (by omega) (by omega) (by omega) (by omega)
            refine og_dmul (pc' := 220) X164 hx (hb hby at_219) (own_nnx x168 (by omega) (by omega)) x168 rfl ?_
            obtain ⟨u169, hu169⟩ : ∃ q : Int, q = (u166 + u168) := ⟨_, rfl⟩
            have a169 : 0 ≤ u169 := by omega
            have z169 : u169 ≤ 33554432 := by omega
            have x169 : FP.dadd (own_D 24 u166) (own_D 24 u168) = own_D 24 u169 := own_xadd rfl rfl hu169.symm (by omega) (by omega) (by omega)
            refine og_dadd (pc' := 221) X164 hx (hb hby at_220) (own_nnx x169 (by omega) (by omega)) x169 rfl ?_
            refine og_dload (pc' := 223) X164 hx (hb hby at_221) rfl rfl ?_
            refine og_dload (pc' := 225) X164 hx (hb hby at_223) rfl rfl ?_
            obtain ⟨u170, hu170⟩ : ∃ q : Int, q = (q1 * q2) := ⟨_, rfl⟩
            have a170 : 0 ≤ u170 := by rw [hu170]; exact Int.mul_nonneg (by omega) (by omega)
            have z170 : u170 ≤ 65536 := by rw [hu170]; exact Int.le_trans (Int.mul_le_mul z_q1 z_q2 (by omega) (by omega)) (by decide)
            have x170 : FP.dmul (own_D 8 q1) (own_D 8 q2) = own_D 16 u170 := own_xmul rfl rfl hu170.symm rfl (by omega) (by omega) (by omega) (by omega) (by omega) (by omega)
            refine og_dmul (pc' := 226) X164 hx (hb hby at_225) (own_nnx x170 (by omega) (by omega)) x170 rfl ?_
            refine og_dload (pc' := 228) X164 hx (hb hby at_226) rfl rfl ?_
            obtain ⟨u171, hu171⟩ : ∃ q : Int, q = (u170 * q3) := ⟨_, rfl⟩
            have a171 : 0 ≤ u171 := by rw [hu171]; exact Int.mul_nonneg (by omega) (by omega)
            have z171 : u171 ≤ 16777216 := by rw [hu171]; exact Int.le_trans (Int.mul_le_mul z170 z_q3 (by omega) (by omega)) (by decide)
            have x171 : FP.dmul (own_D 16 u170) (own_D 8 q3) = own_D 24 u171 := own_xmul rfl rfl hu171.symm rfl (by omega) (by omega) (by omega) (by omega) (by omega) (by omega)
            refine og_dmul (pc' := 229) X164 hx (hb hby at_228) (own_nnx x171 (by omega) (by omega)) x171 rfl ?_
            refine og_dload (pc' := 231) X164 hx (hb hby at_229) rfl rfl ?_
            obtain ⟨u172, hu172⟩ : ∃ q : Int, q = (u171 * q4) := ⟨_, rfl⟩
            have a172 : 0 ≤ u172 := by rw [hu172]; exact Int.mul_nonneg (by omega) (by omega)
            have z172 : u172 ≤ 4294967296 := by rw [hu172]; exact Int.le_trans (Int.mul_le_mul z171 z_q4 (by omega) (by omega)) (by decide)
            have x172 : FP.dmul (own_D 24 u171) (own_D 8 q4) = own_D 32 u172 := own_xmul rfl rfl hu172.symm rfl (by omega) (by omega) (by omega) (by omega) (by omega) (by omega)
            refine og_dmul (pc' := 232) X164 hx (hb hby at_231) (own_nnx x172 (by omega) (by omega)) x172 rfl ?_
            obtain ⟨u173, hu173⟩ : ∃ q : Int, q = (u169 * 256) := ⟨_, rfl⟩
            have y173 : _ = own_D 32 u173 := (rfl : own_D 24 u169 = own_D 24 u169).trans (by rw [hu173]; exact own_resc _ _)
            have a173 : 0 ≤ u173 := by omega
            have z173 : u173 ≤ 8589934592 := by omega
            obtain ⟨u174, hu174⟩ : ∃ q : Int, q = (u173 - u172) := ⟨_, rfl⟩
            have a174 : -4294967296 ≤ u174 := by omega
            have z174 : u174 ≤ 8589934592 := by omega
            have x174 : FP.dsub (own_D 24 u169) (own_D 32 u172) = own_D 32 u174 := own_xsub y173 rfl hu174.symm (by omega) (by omega) (by omega)
            refine og_dsub (pc' := 233) X164 hx (hb hby at_232) (own_nnx x174 (by omega) (by omega)) x174 rfl ?_
            refine og_dstore (pc' := 235) (L' := #[.val (.int x0), .val (.int x1), .val (.int x2), .val (.int x3), .val (.int x4), .val (.int (3 : Int32)), .val (.int nv), .val (.double (own_D 8 q1)), .second, .val (.double (own_D 8 q2)), .second, .val (.double (own_D 8 q3)), .second, .val (.double (own_D 8 q4)), .second, .val (.ref b127), .val (.double (own_D 32 u174)), .second]) X164 hx (hb hby at_233) rfl rfl ?_
            refine og_goto (pc' := 263) X164 hx (hb hby at_235) (by decide) (by decide) ?_
            refine og_aload (pc' := 265) X164 hx (hb hby at_263) rfl rfl rfl ?_
            obtain ⟨cq175, kq175, q175a, q175b, q175c⟩ := isOf hZ rfl c164_0
            obtain ⟨_, _, ⟨T175, L175, k175, n175⟩, -, X175, ⟨Lc175, hQ175, l175, y175, z175⟩, st175⟩ := X164.virtualBack hx (y := (⟨"com/example/paranhos/paranhos/MatchRuns", "matched", "()D"⟩ : MethodName)) (z := (⟨"com/example/paranhos/paranhos/MatchRuns", "matched", "()D"⟩ : MethodName)) hown (mvT hZ (hw _ (List.mem_of_getElem? (i := 16) rfl))) (mvT hZ (hw _ (List.mem_of_getElem? (i := 17) rfl))) (notFace_of_selects (args := #[]) (mvT hZ (hw _ (List.mem_of_getElem? (i := 19) rfl)))) (mvT hZ (hw _ (List.mem_of_getElem? (i := 19) rfl))) (mvT hZ (hw _ (List.mem_of_getElem? (i := 18) rfl))) (by decide) (backOf (W := 0) (rmmat l Z a0 hw [] b127 (own_D 24 nm_164) T164.heap n0 Z164 FM3) hZ (hw _ (List.mem_of_getElem? (i := 20) rfl)) (hw _ (List.mem_of_getElem? (i := 6) rfl)) (by decide) (by decide)) q175a q175c (g := (mkF m 265 #[.val (.int x0), .val (.int x1), .val (.int x2), .val (.int x3), .val (.int x4), .val (.int (3 : Int32)), .val (.int nv), .val (.double (own_D 8 q1)), .second, .val (.double (own_D 8 q2)), .second, .val (.double (own_D 8 q3)), .second, .val (.double (own_D 8 q4)), .second, .val (.ref b127), .val (.double (own_D 32 u174)), .second] [(.ref b127)])) rfl (by rw [hml]; rfl) (Steps.refl _) (argsL := []) (rest := []) (lenOf pd_2 rfl) rfl (by show 2 * 0 + _ ≤ _; exact Nat.le_of_eq rfl) (hb hby at_265) (fun _ _ => ⟨rfl, rfl, (by decide : 2 + 0 ≤ _), (by decide : 5 + 0 ≤ _)⟩)
            dsimp only [Pt.U, Pt.locs, Pt.cells, Pt.slots] at X175 l175 y175 z175 st175 hQ175
            subst l175 y175 z175
            obtain ⟨rfl, N175q, e175⟩ := hQ175
            have N175 := Fr.app N164 N175q
            obtain ⟨J175, X175, N175⟩ := own_hide X175 N175
            refine own_Go.of (g' := (mkF m 268 #[.val (.int x0), .val (.int x1), .val (.int x2), .val (.int x3), .val (.int x4), .val (.int (3 : Int32)), .val (.int nv), .val (.double (own_D 8 q1)), .second, .val (.double (own_D 8 q2)), .second, .val (.double (own_D 8 q3)), .second, .val (.double (own_D 8 q4)), .second, .val (.ref b127), .val (.double (own_D 32 u174)), .second] [(.double (own_D 24 nm_164))])) (fun t k => st175.trans k) ?_
            refine og_dload (pc' := 270) X175 hx (hb hby at_268) rfl rfl ?_
            have hcmp : cmpValue (FP.dcmp (own_D 24 nm_164) (own_D 32 u174)) .l = 0 := own_cmpE (own_res1 24 nm_164) (own_res0 32 u174) (by first | (simp only [c140_4, c140_5, c140_6, c140_7, c152_4, c152_5, c152_6, c152_7, c164_4, c164_5, c164_6, c164_7, hq4, hu165, hu166, hu167, hu168, hu169, hu170, hu171, hu172, hu173, hu174]; done) | (simp only [c140_4, c140_5, c140_6, c140_7, c152_4, c152_5, c152_6, c152_7, c164_4, c164_5, c164_6, c164_7, hq4, hu165, hu166, hu167, hu168, hu169, hu170, hu171, hu172, hu173, hu174]; grind) | decide) (by decide) (by omega)
            refine og_dcmp (pc' := 271) X175 hx (hb hby at_270) hcmp rfl ?_
            refine og_ifNo (pc' := 274) X175 hx (hb hby at_271) ((if0 _ _).trans (teq (by decide)).2) rfl ?_
            refine og_iconst (pc' := 275) (n := 1) X175 hx (hb hby at_274) rfl rfl ?_
            refine og_goto (pc' := 279) X175 hx (hb hby at_275) (by decide) (by decide) ?_
            obtain ⟨fs, hr, hrun, hended, hW, hsame⟩ := X175.leave (v := some (.int (1 : Int32))) (fun h => by rw [Bd.returns] at h; cases h) (BodyLoose.notSynchronized Bd)
            refine ⟨_, _, retN X175 hx (t := .boolean) Bd.returns (by simp) (hb hby at_279) hr, hrun, hended, some (.int (1 : Int32)), _, rfl, ?_, ⟨_, rfl⟩, hW, hsame.mono (by decide) (by decide)⟩
            show Q0 Z x0 x1 x2 x3 x4 h0 n0 _ T175.heap _
            rw [e175]
            exact ⟨rfl, N175⟩
          · refine og_icmpNo (pc' := 113) X164 hx (hb hby at_110) (flt hc110_12).1 rfl ?_
            refine og_aload (pc' := 115) X164 hx (hb hby at_113) rfl rfl rfl ?_
            refine og_dload (pc' := 117) X164 hx (hb hby at_115) rfl rfl ?_
            obtain ⟨cq176, kq176, q176a, q176b, q176c⟩ := isOf hZ rfl c164_0
            obtain ⟨_, _, ⟨T176, L176, k176, n176⟩, -, X176, ⟨Lc176, hQ176, l176, y176, z176⟩, st176⟩ := X164.virtualBack hx (y := (⟨"com/example/paranhos/paranhos/MatchRuns", "add", "(D)V"⟩ : MethodName)) (z := (⟨"com/example/paranhos/paranhos/MatchRuns", "add", "(D)V"⟩ : MethodName)) hown (mvT hZ (hw _ (List.mem_of_getElem? (i := 24) rfl))) (mvT hZ (hw _ (List.mem_of_getElem? (i := 25) rfl))) (notFace_of_selects (args := #[]) (mvT hZ (hw _ (List.mem_of_getElem? (i := 27) rfl)))) (mvT hZ (hw _ (List.mem_of_getElem? (i := 27) rfl))) (mvT hZ (hw _ (List.mem_of_getElem? (i := 26) rfl))) (by decide) (backOf (W := 0) (rmadd3 l Z a0 hw [] b127 (own_D 8 q4) b_128 kk_128 24 16777216 q4 nm_164 w0_164 w1_164 w2_164 T164.heap n0 Z164 c164_0 c164_1 FM3 VM3 g_b127 g_b_128 ne128_0 rfl ⟨a_q4, z_q4⟩ hl3 hs3 ⟨by decide, by decide, own_o24⟩) hZ (hw _ (List.mem_of_getElem? (i := 28) rfl)) (hw _ (List.mem_of_getElem? (i := 6) rfl)) (by decide) (by decide)) q176a q176c (g := (mkF m 117 #[.val (.int x0), .val (.int x1), .val (.int x2), .val (.int x3), .val (.int x4), .val (.int (3 : Int32)), .val (.int nv), .val (.double (own_D 8 q1)), .second, .val (.double (own_D 8 q2)), .second, .val (.double (own_D 8 q3)), .second, .val (.double (own_D 8 q4)), .second, .val (.ref b127), .unset, .unset] [(.double (own_D 8 q4)), (.ref b127)])) rfl (by rw [hml]; rfl) (Steps.refl _) (argsL := [(.double (own_D 8 q4))]) (rest := []) (lenOf pd_3 rfl) rfl (by show 2 * 0 + _ ≤ _; exact Nat.le_of_eq rfl) (hb hby at_117) (fun _ _ => ⟨rfl, rfl, (by decide : 2 + 0 ≤ _), (by decide : 5 + 0 ≤ _)⟩)
            dsimp only [Pt.U, Pt.locs, Pt.cells, Pt.slots] at X176 l176 y176 z176 st176 hQ176
            subst l176 y176 z176
            obtain ⟨nm_176, w0_176, w1_176, w2_176, rfl, N176q, K176q, c176_0, c176_1, c176_2, c176_3, c176_4, c176_5, c176_6, c176_7⟩ := hQ176
            have N176 := Fr.app N164 N176q
            obtain ⟨J176, X176, N176⟩ := own_hide X176 N176
            have f176_0 := c164_0.keep K176q
            have K176 : Keep h0 T176.heap [] := K164.trans K176q (allS (Or.inr sz_b127) (allS (Or.inr sz_b_128) all0))
            have Z176 : n0 ≤ T176.heap.size := Nat.le_trans Z0 K176.1
            refine own_Go.of (g' := (mkF m 120 #[.val (.int x0), .val (.int x1), .val (.int x2), .val (.int x3), .val (.int x4), .val (.int (3 : Int32)), .val (.int nv), .val (.double (own_D 8 q1)), .second, .val (.double (own_D 8 q2)), .second, .val (.double (own_D 8 q3)), .second, .val (.double (own_D 8 q4)), .second, .val (.ref b127), .unset, .unset] [])) (fun t k => st176.trans k) ?_
            obtain ⟨hl4, hs4⟩ := own_inv3 (M := 16777216) ⟨a_q4, z_q4⟩ hl3 hs3 c176_4 c176_5 c176_6 c176_7
            have hs4 : nm_176 + w0_176 + w1_176 + w2_176 = 4294967296 := hs4
            have FM4 : Fld Z T176.heap b127 "com/example/paranhos/paranhos/MatchRuns" "matched" "D" (.double (own_D 32 nm_176)) := c176_2
            have VM4 : Arv Z T176.heap b_128 kk_128 .double (3 : Int32) [(.double (own_D 32 w0_176)), (.double (own_D 32 w1_176)), (.double (own_D 32 w2_176))] (.double (0 : UInt64)) := c176_3
            refine og_iload (pc' := 122) X176 hx (hb hby at_120) rfl rfl ?_
            refine og_iconst (pc' := 123) (n := 1) X176 hx (hb hby at_122) rfl rfl ?_
            refine og_icmpYes (pc' := 152) X176 hx (hb hby at_123) (feq (by decide)).2 (by decide) (by decide) ?_
            refine og_iload (pc' := 154) X176 hx (hb hby at_152) rfl rfl ?_
            refine og_iconst (pc' := 155) (n := 2) X176 hx (hb hby at_154) rfl rfl ?_
            refine og_icmpYes (pc' := 198) X176 hx (hb hby at_155) (feq (by decide)).2 (by decide) (by decide) ?_
            refine og_iload (pc' := 200) X176 hx (hb hby at_198) rfl rfl ?_
            refine og_iconst (pc' := 201) (n := 3) X176 hx (hb hby at_200) rfl rfl ?_
            refine og_icmpNo (pc' := 204) X176 hx (hb hby at_201) (teq (by decide)).2 rfl ?_
            refine og_dload (pc' := 206) X176 hx (hb hby at_204) rfl rfl ?_
            refine og_dload (pc' := 208) X176 hx (hb hby at_206) rfl rfl ?_
            obtain ⟨u177, hu177⟩ : ∃ q : Int, q = (q1 * q2) := ⟨_, rfl⟩
            have a177 : 0 ≤ u177 := by rw [hu177]; exact Int.mul_nonneg (by omega) (by omega)
            have z177 : u177 ≤ 65536 := by rw [hu177]; exact Int.le_trans (Int.mul_le_mul z_q1 z_q2 (by omega) (by omega)) (by decide)
            have x177 : FP.dmul (own_D 8 q1) (own_D 8 q2) = own_D 16 u177 := own_xmul rfl rfl hu177.symm rfl (by omega) (by omega) (by omega) (by omega) (by omega) (by omega)
            refine og_dmul (pc' := 209) X176 hx (hb hby at_208) (own_nnx x177 (by omega) (by omega)) x177 rfl ?_
            refine og_dload (pc' := 211) X176 hx (hb hby at_209) rfl rfl ?_
            obtain ⟨u178, hu178⟩ : ∃ q : Int, q = (u177 * q3) := ⟨_, rfl⟩
            have a178 : 0 ≤ u178 := by rw [hu178]; exact Int.mul_nonneg (by omega) (by omega)
            have z178 : u178 ≤ 16777216 := by rw [hu178]; exact Int.le_trans (Int.mul_le_mul z177 z_q3 (by omega) (by omega)) (by decide)
            have x178 : FP.dmul (own_D 16 u177) (own_D 8 q3) = own_D 24 u178 := own_xmul rfl rfl hu178.symm rfl (by omega) (by omega) (by omega) (by omega) (by omega) (by omega)
            refine og_dmul (pc' := 212) X176 hx (hb hby at_211) (own_nnx x178 (by omega) (by omega)) x178 rfl ?_
            refine og_dload (pc' := 214) X176 hx (hb hby at_212) rfl rfl ?_
            refine og_dload (pc' := 216) X176 hx (hb hby at_214) rfl rfl ?_
            obtain ⟨u179, hu179⟩ : ∃ q : Int, q = (q2 * q3) := ⟨_, rfl⟩
            have a179 : 0 ≤ u179 := by rw [hu179]; exact Int.mul_nonneg (by omega) (by omega)
            have z179 : u179 ≤ 65536 := by rw [hu179]; exact Int.le_trans (Int.mul_le_mul z_q2 z_q3 (by omega) (by omega)) (by decide)
            have x179 : FP.dmul (own_D 8 q2) (own_D 8 q3) = own_D 16 u179 := own_xmul rfl rfl hu179.symm rfl (by omega) (by omega) (by omega) (by omega) (by omega) (by omega)
            refine og_dmul (pc' := 217) X176 hx (hb hby at_216) (own_nnx x179 (by omega) (by omega)) x179 rfl ?_
            refine og_dload (pc' := 219) X176 hx (hb hby at_217) rfl rfl ?_
            obtain ⟨u180, hu180⟩ : ∃ q : Int, q = (u179 * q4) := ⟨_, rfl⟩
            have a180 : 0 ≤ u180 := by rw [hu180]; exact Int.mul_nonneg (by omega) (by omega)
            have z180 : u180 ≤ 16777216 := by rw [hu180]; exact Int.le_trans (Int.mul_le_mul z179 z_q4 (by omega) (by omega)) (by decide)
            have x180 : FP.dmul (own_D 16 u179) (own_D 8 q4) = own_D 24 u180 := own_xmul rfl rfl hu180.symm rfl (by omega) (by omega) (by omega) (by omega) (by omega) (by omega)
            refine og_dmul (pc' := 220) X176 hx (hb hby at_219) (own_nnx x180 (by omega) (by omega)) x180 rfl ?_
            obtain ⟨u181, hu181⟩ : ∃ q : Int, q = (u178 + u180) := ⟨_, rfl⟩
            have a181 : 0 ≤ u181 := by omega
            have z181 : u181 ≤ 33554432 := by omega
            have x181 : FP.dadd (own_D 24 u178) (own_D 24 u180) = own_D 24 u181 := own_xadd rfl rfl hu181.symm (by omega) (by omega) (by omega)
            refine og_dadd (pc' := 221) X176 hx (hb hby at_220) (own_nnx x181 (by omega) (by omega)) x181 rfl ?_
            refine og_dload (pc' := 223) X176 hx (hb hby at_221) rfl rfl ?_
            refine og_dload (pc' := 225) X176 hx (hb hby at_223) rfl rfl ?_
            obtain ⟨u182, hu182⟩ : ∃ q : Int, q = (q1 * q2) := ⟨_, rfl⟩
            have a182 : 0 ≤ u182 := by rw [hu182]; exact Int.mul_nonneg (by omega) (by omega)
            have z182 : u182 ≤ 65536 := by rw [hu182]; exact Int.le_trans (Int.mul_le_mul z_q1 z_q2 (by omega) (by omega)) (by decide)
            have x182 : FP.dmul (own_D 8 q1) (own_D 8 q2) = own_D 16 u182 := own_xmul rfl rfl hu182.symm rfl (by omega) (by omega) (by omega) (by omega) (by omega) (by omega)
            refine og_dmul (pc' := 226) X176 hx (hb hby at_225) (own_nnx x182 (by omega) (by omega)) x182 rfl ?_
            refine og_dload (pc' := 228) X176 hx (hb hby at_226) rfl rfl ?_
            obtain ⟨u183, hu183⟩ : ∃ q : Int, q = (u182 * q3) := ⟨_, rfl⟩
            have a183 : 0 ≤ u183 := by rw [hu183]; exact Int.mul_nonneg (by omega) (by omega)
            have z183 : u183 ≤ 16777216 := by rw [hu183]; exact Int.le_trans (Int.mul_le_mul z182 z_q3 (by omega) (by omega)) (by decide)
            have x183 : FP.dmul (own_D 16 u182) (own_D 8 q3) = own_D 24 u183 := own_xmul rfl rfl hu183.symm rfl (by omega) (by omega) (by omega) (by omega) (by omega) (by omega)
            refine og_dmul (pc' := 229) X176 hx (hb hby at_228) (own_nnx x183 (by omega) (by omega)) x183 rfl ?_
            refine og_dload (pc' := 231) X176 hx (hb hby at_229) rfl rfl ?_
            obtain ⟨u184, hu184⟩ : ∃ q : Int, q = (u183 * q4) := ⟨_, rfl⟩
            have a184 : 0 ≤ u184 := by rw [hu184]; exact Int.mul_nonneg (by omega) (by omega)
            have z184 : u184 ≤ 4294967296 := by rw [hu184]; exact Int.le_trans (Int.mul_le_mul z183 z_q4 (by omega) (by omega)) (by decide)
            have x184 : FP.dmul (own_D 24 u183) (own_D 8 q4) = own_D 32 u184 := own_xmul rfl rfl hu184.symm rfl (by omega) (by omega) (by omega) (by omega) (by omega) (by omega)
            refine og_dmul (pc' := 232) X176 hx (hb hby at_231) (own_nnx x184 (by omega) (by omega)) x184 rfl ?_
            obtain ⟨u185, hu185⟩ : ∃ q : Int, q = (u181 * 256) := ⟨_, rfl⟩
            have y185 : _ = own_D 32 u185 := (rfl : own_D 24 u181 = own_D 24 u181).trans (by rw [hu185]; exact own_resc _ _)
            have a185 : 0 ≤ u185 := by omega
            have z185 : u185 ≤ 8589934592 := by omega
            obtain ⟨u186, hu186⟩ : ∃ q : Int, q = (u185 - u184) := ⟨_, rfl⟩
            have a186 : -4294967296 ≤ u186 := by omega
            have z186 : u186 ≤ 8589934592 := by omega
            have x186 : FP.dsub (own_D 24 u181) (own_D 32 u184) = own_D 32 u186 := own_xsub y185 rfl hu186.symm (by omega) (by omega) (by omega)
            refine og_dsub (pc' := 233) X176 hx (hb hby at_232) (own_nnx x186 (by omega) (by omega)) x186 rfl ?_
            refine og_dstore (pc' := 235) (L' := #[.val (.int x0), .val (.int x1), .val (.int x2), .val (.int x3), .val (.int x4), .val (.int (3 : Int32)), .val (.int nv), .val (.double (own_D 8 q1)), .second, .val (.double (own_D 8 q2)), .second, .val (.double (own_D 8 q3)), .second, .val (.double (own_D 8 q4)), .second, .val (.ref b127), .val (.double (own_D 32 u186)), .second]) X176 hx (hb hby at_233) rfl rfl ?_
            refine og_goto (pc' := 263) X176 hx (hb hby at_235) (by decide) (by decide) ?_
            refine og_aload (pc' := 265) X176 hx (hb hby at_263) rfl rfl rfl ?_
            obtain ⟨cq187, kq187, q187a, q187b, q187c⟩ := isOf hZ rfl c176_0
            obtain ⟨_, _, ⟨T187, L187, k187, n187⟩, -, X187, ⟨Lc187, hQ187, l187, y187, z187⟩, st187⟩ := X176.virtualBack hx (y := (⟨"com/example/paranhos/paranhos/MatchRuns", "matched", "()D"⟩ : MethodName)) (z := (⟨"com/example/paranhos/paranhos/MatchRuns", "matched", "()D"⟩ : MethodName)) hown (mvT hZ (hw _ (List.mem_of_getElem? (i := 16) rfl))) (mvT hZ (hw _ (List.mem_of_getElem? (i := 17) rfl))) (notFace_of_selects (args := #[]) (mvT hZ (hw _ (List.mem_of_getElem? (i := 19) rfl)))) (mvT hZ (hw _ (List.mem_of_getElem? (i := 19) rfl))) (mvT hZ (hw _ (List.mem_of_getElem? (i := 18) rfl))) (by decide) (backOf (W := 0) (rmmat l Z a0 hw [] b127 (own_D 32 nm_176) T176.heap n0 Z176 FM4) hZ (hw _ (List.mem_of_getElem? (i := 20) rfl)) (hw _ (List.mem_of_getElem? (i := 6) rfl)) (by decide) (by decide)) q187a q187c (g := (mkF m 265 #[.val (.int x0), .val (.int x1), .val (.int x2), .val (.int x3), .val (.int x4), .val (.int (3 : Int32)), .val (.int nv), .val (.double (own_D 8 q1)), .second, .val (.double (own_D 8 q2)), .second, .val (.double (own_D 8 q3)), .second, .val (.double (own_D 8 q4)), .second, .val (.ref b127), .val (.double (own_D 32 u186)), .second] [(.ref b127)])) rfl (by rw [hml]; rfl) (Steps.refl _) (argsL := []) (rest := []) (lenOf pd_2 rfl) rfl (by show 2 * 0 + _ ≤ _; exact Nat.le_of_eq rfl) (hb hby at_265) (fun _ _ => ⟨rfl, rfl, (by decide : 2 + 0 ≤ _), (by decide : 5 + 0 ≤ _)⟩)
            dsimp only [Pt.U, Pt.locs, Pt.cells, Pt.slots] at X187 l187 y187 z187 st187 hQ187
            subst l187 y187 z187
            obtain ⟨rfl, N187q, e187⟩ := hQ187
            have N187 := Fr.app N176 N187q
            obtain ⟨J187, X187, N187⟩ := own_hide X187 N187
            refine own_Go.of (g' := (mkF m 268 #[.val (.int x0), .val (.int x1), .val (.int x2), .val (.int x3), .val (.int x4), .val (.int (3 : Int32)), .val (.int nv), .val (.double (own_D 8 q1)), .second, .val (.double (own_D 8 q2)), .second, .val (.double (own_D 8 q3)), .second, .val (.double (own_D 8 q4)), .second, .val (.ref b127), .val (.double (own_D 32 u186)), .second] [(.double (own_D 32 nm_176))])) (fun t k => st187.trans k) ?_
            refine og_dload (pc' := 270) X187 hx (hb hby at_268) rfl rfl ?_
            have hcmp : cmpValue (FP.dcmp (own_D 32 nm_176) (own_D 32 u186)) .l = 0 := own_cmpE (own_res0 32 nm_176) (own_res0 32 u186) (by first | (simp only [c140_4, c140_5, c140_6, c140_7, c152_4, c152_5, c152_6, c152_7, c164_4, c164_5, c164_6, c164_7, c176_4, c176_5, c176_6, c176_7, hu177, hu178, hu179, hu180, hu181, hu182, hu183, hu184, hu185, hu186]; done) | (simp only [c140_4, c140_5, c140_6, c140_7, c152_4, c152_5, c152_6, c152_7, c164_4, c164_5, c164_6, c164_7, c176_4, c176_5, c176_6, c176_7, hu177, hu178, hu179, hu180, hu181, hu182, hu183, hu184, hu185, hu186]; grind) | decide) (by decide) (by omega)
            refine og_dcmp (pc' := 271) X187 hx (hb hby at_270) hcmp rfl ?_
            refine og_ifNo (pc' := 274) X187 hx (hb hby at_271) ((if0 _ _).trans (teq (by decide)).2) rfl ?_
            refine og_iconst (pc' := 275) (n := 1) X187 hx (hb hby at_274) rfl rfl ?_
            refine og_goto (pc' := 279) X187 hx (hb hby at_275) (by decide) (by decide) ?_
            obtain ⟨fs, hr, hrun, hended, hW, hsame⟩ := X187.leave (v := some (.int (1 : Int32))) (fun h => by rw [Bd.returns] at h; cases h) (BodyLoose.notSynchronized Bd)
            refine ⟨_, _, retN X187 hx (t := .boolean) Bd.returns (by simp) (hb hby at_279) hr, hrun, hended, some (.int (1 : Int32)), _, rfl, ?_, ⟨_, rfl⟩, hW, hsame.mono (by decide) (by decide)⟩
            show Q0 Z x0 x1 x2 x3 x4 h0 n0 _ T187.heap _
            rw [e187]
            exact ⟨rfl, N187⟩
  · rw [ek]
    obtain ⟨T188, h188, X188, e188, E188, A188, D188, -, st188⟩ := newO X4 hx hZ hown (hw _ (List.mem_of_getElem? (i := 4) rfl)) (hw _ (List.mem_of_getElem? (i := 5) rfl)) (hw _ (List.mem_of_getElem? (i := 6) rfl)) e4 (g := (mkF m 57 #[.val (.int x0), .val (.int x1), .val (.int x2), .val (.int x3), .val (.int x4), .val (.int (4 : Int32)), .val (.int nv), .val (.double (own_D 8 q1)), .second, .val (.double (own_D 8 q2)), .second, .val (.double (own_D 8 q3)), .second, .val (.double (own_D 8 q4)), .second, .unset, .unset, .unset] [])) rfl (hb hby at_57) (by decide) (by decide)
    obtain ⟨b188, g188⟩ : ∃ z, z = h0.size := ⟨_, rfl⟩
    rw [← g188] at A188 D188 st188
    have g_b188 : n0 ≤ b188 := Nat.le_trans Z0 (Nat.le_of_eq g188.symm)
    have sz_b188 : h0.size ≤ b188 := Nat.le_trans (Keep.refl h0 []).1 (Nat.le_of_eq g188.symm)
    have F188_run : Fld Z h188 b188 "com/example/paranhos/paranhos/MatchRuns" "run" "[D" .null := D188 (Or.inr (hw _ (List.mem_of_getElem? (i := 15) rfl))) (ty := (.array .double)) (by decide)
    have F188_matched : Fld Z h188 b188 "com/example/paranhos/paranhos/MatchRuns" "matched" "D" (.double (0 : UInt64)) := D188 (Or.inl (hw _ (List.mem_of_getElem? (i := 22) rfl))) (ty := .double) (by decide)
    have K188 : Keep h0 h188 [] := (Keep.refl h0 []).ext E188
    have Z188 : n0 ≤ h188.size := Nat.le_trans Z0 K188.1
    refine own_Go.of (g' := (mkF m 60 #[.val (.int x0), .val (.int x1), .val (.int x2), .val (.int x3), .val (.int x4), .val (.int (4 : Int32)), .val (.int nv), .val (.double (own_D 8 q1)), .second, .val (.double (own_D 8 q2)), .second, .val (.double (own_D 8 q3)), .second, .val (.double (own_D 8 q4)), .second, .unset, .unset, .unset] [(.ref b188)])) (fun t k => st188 _ k) ?_
    refine og_dup (pc' := 61) X188 hx (hb hby at_60) rfl rfl ?_
    refine og_iload (pc' := 63) X188 hx (hb hby at_61) rfl rfl ?_
    obtain ⟨_, _, ⟨T189, L189, k189, n189⟩, -, X189, ⟨Lc189, hQ189, l189, y189, z189⟩, st189⟩ := X188.specialBack hx (y := (⟨"com/example/paranhos/paranhos/MatchRuns", "<init>", "(I)V"⟩ : MethodName)) rfl hown (mvT hZ (hw _ (List.mem_of_getElem? (i := 7) rfl))) (mvT hZ (hw _ (List.mem_of_getElem? (i := 8) rfl))) (mvT hZ (hw _ (List.mem_of_getElem? (i := 9) rfl))) (by decide) (backOf (W := 1) (rmini4 l Z a0 hw [] b188 .null h188 n0 Z188 A188 F188_run F188_matched g_b188) hZ (hw _ (List.mem_of_getElem? (i := 9) rfl)) (hw _ (List.mem_of_getElem? (i := 6) rfl)) (by decide) (by decide)) (g := (mkF m 63 #[.val (.int x0), .val (.int x1), .val (.int x2), .val (.int x3), .val (.int x4), .val (.int (4 : Int32)), .val (.int nv), .val (.double (own_D 8 q1)), .second, .val (.double (own_D 8 q2)), .second, .val (.double (own_D 8 q3)), .second, .val (.double (own_D 8 q4)), .second, .unset, .unset, .unset] [(.int (4 : Int32)), (.ref b188), (.ref b188)])) rfl (by rw [hml]; rfl) (Steps.refl _) (a := b188) (argsL := [(.int (4 : Int32))]) (rest := [(.ref b188)]) (lenOf pd_1 rfl) rfl (by show 2 * 0 + _ ≤ _; exact Nat.le_of_eq rfl) (hb hby at_63) (fun _ _ => ⟨rfl, e188, (by decide : 1 + 1 ≤ _), (by decide : 2 + 4 ≤ _)⟩)
    dsimp only [Pt.U, Pt.locs, Pt.cells, Pt.slots] at X189 l189 y189 z189 st189 hQ189
    subst l189 y189 z189
    obtain ⟨b_189, kk_189, rfl, N189q, K189q, zz189_b, c189_0, c189_1, c189_2, c189_3⟩ := hQ189
    have N189 := Fr.app N4 N189q
    obtain ⟨J189, X189, N189⟩ := own_hide X189 N189
    have g_b_189 : n0 ≤ b_189 := Nat.le_trans Z188 zz189_b
    have sz_b_189 : h0.size ≤ b_189 := Nat.le_trans K188.1 zz189_b
    have ne189_0 : b188 ≠ b_189 := Nat.ne_of_lt (Nat.lt_of_lt_of_le A188.lt zz189_b)
    have f189_0 := A188.keep K189q
    have K189 : Keep h0 T189.heap [] := K188.trans K189q (allS (Or.inr sz_b188) all0)
    have Z189 : n0 ≤ T189.heap.size := Nat.le_trans Z0 K189.1
    refine own_Go.of (g' := (mkF m 66 #[.val (.int x0), .val (.int x1), .val (.int x2), .val (.int x3), .val (.int x4), .val (.int (4 : Int32)), .val (.int nv), .val (.double (own_D 8 q1)), .second, .val (.double (own_D 8 q2)), .second, .val (.double (own_D 8 q3)), .second, .val (.double (own_D 8 q4)), .second, .unset, .unset, .unset] [(.ref b188)])) (fun t k => st189.trans k) ?_
    have FM0 : Fld Z T189.heap b188 "com/example/paranhos/paranhos/MatchRuns" "matched" "D" (.double (own_D 0 0)) := by rw [own_z0]; exact c189_2
    have VM0 : Arv Z T189.heap b_189 kk_189 .double (4 : Int32) [(.double (own_D 0 1)), (.double (own_D 0 0)), (.double (own_D 0 0)), (.double (own_D 0 0))] (.double (0 : UInt64)) := by rw [own_z0]; exact c189_3
    have hl0 : (0 : Int) ≤ 0 ∧ (0 : Int) ≤ 1 ∧ (0 : Int) ≤ 0 ∧ (0 : Int) ≤ 0 ∧ (0 : Int) ≤ 0 := ⟨by decide, by decide, by decide, by decide, by decide⟩
    have hs0 : (0 + 1 + 0 + 0 + 0 : Int) = 1 := by decide
    refine og_astore (pc' := 68) (L' := #[.val (.int x0), .val (.int x1), .val (.int x2), .val (.int x3), .val (.int x4), .val (.int (4 : Int32)), .val (.int nv), .val (.double (own_D 8 q1)), .second, .val (.double (own_D 8 q2)), .second, .val (.double (own_D 8 q3)), .second, .val (.double (own_D 8 q4)), .second, .val (.ref b188), .unset, .unset]) X189 hx (hb hby at_66) rfl rfl rfl ?_
    refine og_iload (pc' := 70) X189 hx (hb hby at_68) rfl rfl ?_
    refine og_iconst (pc' := 71) (n := 1) X189 hx (hb hby at_70) rfl rfl ?_
    by_cases hc71_13 : nv < (1 : Int32)
    · refine og_icmpYes (pc' := 81) X189 hx (hb hby at_71) (tlt hc71_13).1 (by decide) (by decide) ?_
      refine og_iload (pc' := 83) X189 hx (hb hby at_81) rfl rfl ?_
      refine og_iconst (pc' := 84) (n := 2) X189 hx (hb hby at_83) rfl rfl ?_
      refine og_icmpYes (pc' := 94) X189 hx (hb hby at_84) (tlt (own_ltt hc71_13 (by decide))).1 (by decide) (by decide) ?_
      refine og_iload (pc' := 96) X189 hx (hb hby at_94) rfl rfl ?_
      refine og_iconst (pc' := 97) (n := 3) X189 hx (hb hby at_96) rfl rfl ?_
      refine og_icmpYes (pc' := 107) X189 hx (hb hby at_97) (tlt (own_ltt hc71_13 (by decide))).1 (by decide) (by decide) ?_
      refine og_iload (pc' := 109) X189 hx (hb hby at_107) rfl rfl ?_
      refine og_iconst (pc' := 110) (n := 4) X189 hx (hb hby at_109) rfl rfl ?_
      refine og_icmpYes (pc' := 120) X189 hx (hb hby at_110) (tlt (own_ltt hc71_13 (by decide))).1 (by decide) (by decide) ?_
      have hq1 : q1 = 0 := hq1.trans (if_pos hc71_13)
      have hq2 : q2 = 0 := hq2.trans (if_pos (own_ltt hc71_13 (by decide)))
      have hq3 : q3 = 0 := hq3.trans (if_pos (own_ltt hc71_13 (by decide)))
      have hq4 : q4 = 0 := hq4.trans (if_pos (own_ltt hc71_13 (by decide)))
      refine og_iload (pc' := 122) X189 hx (hb hby at_120) rfl rfl ?_
      refine og_iconst (pc' := 123) (n := 1) X189 hx (hb hby at_122) rfl rfl ?_
      refine og_icmpYes (pc' := 152) X189 hx (hb hby at_123) (feq (by decide)).2 (by decide) (by decide) ?_
      refine og_iload (pc' := 154) X189 hx (hb hby at_152) rfl rfl ?_
      refine og_iconst (pc' := 155) (n := 2) X189 hx (hb hby at_154) rfl rfl ?_
      refine og_icmpYes (pc' := 198) X189 hx (hb hby at_155) (feq (by decide)).2 (by decide) (by decide) ?_
      refine og_iload (pc' := 200) X189 hx (hb hby at_198) rfl rfl ?_
      refine og_iconst (pc' := 201) (n := 3) X189 hx (hb hby at_200) rfl rfl ?_
      refine og_icmpYes (pc' := 238) X189 hx (hb hby at_201) (feq (by decide)).2 (by decide) (by decide) ?_
      refine og_iload (pc' := 240) X189 hx (hb hby at_238) rfl rfl ?_
      refine og_iconst (pc' := 241) (n := 4) X189 hx (hb hby at_240) rfl rfl ?_
      refine og_icmpNo (pc' := 244) X189 hx (hb hby at_241) (teq (by decide)).2 rfl ?_
      refine og_dload (pc' := 246) X189 hx (hb hby at_244) rfl rfl ?_
      refine og_dload (pc' := 248) X189 hx (hb hby at_246) rfl rfl ?_
      obtain ⟨u190, hu190⟩ : ∃ q : Int, q = (q1 * q2) := ⟨_, rfl⟩
      have a190 : 0 ≤ u190 := by rw [hu190]; exact Int.mul_nonneg (by omega) (by omega)
      have z190 : u190 ≤ 65536 := by rw [hu190]; exact Int.le_trans (Int.mul_le_mul z_q1 z_q2 (by omega) (by omega)) (by decide)
      have x190 : FP.dmul (own_D 8 q1) (own_D 8 q2) = own_D 16 u190 := own_xmul rfl rfl hu190.symm rfl (by omega) (by omega) (by omega) (by omega) (by omega) (by omega)
      refine og_dmul (pc' := 249) X189 hx (hb hby at_248) (own_nnx x190 (by omega) (by omega)) x190 rfl ?_
      refine og_dload (pc' := 251) X189 hx (hb hby at_249) rfl rfl ?_
      obtain ⟨u191, hu191⟩ : ∃ q : Int, q = (u190 * q3) := ⟨_, rfl⟩
      have a191 : 0 ≤ u191 := by rw [hu191]; exact Int.mul_nonneg (by omega) (by omega)
      have z191 : u191 ≤ 16777216 := by rw [hu191]; exact Int.le_trans (Int.mul_le_mul z190 z_q3 (by omega) (by omega)) (by decide)
      have x191 : FP.dmul (own_D 16 u190) (own_D 8 q3) = own_D 24 u191 := own_xmul rfl rfl hu191.symm rfl (by omega) (by omega) (by omega) (by omega) (by omega) (by omega)
      refine og_dmul (pc' := 252) X189 hx (hb hby at_251) (own_nnx x191 (by omega) (by omega)) x191 rfl ?_
      refine og_dload (pc' := 254) X189 hx (hb hby at_252) rfl rfl ?_
      obtain ⟨u192, hu192⟩ : ∃ q : Int, q = (u191 * q4) := ⟨_, rfl⟩
      have a192 : 0 ≤ u192 := by rw [hu192]; exact Int.mul_nonneg (by omega) (by omega)
      have z192 : u192 ≤ 4294967296 := by rw [hu192]; exact Int.le_trans (Int.mul_le_mul z191 z_q4 (by omega) (by omega)) (by decide)
      have x192 : FP.dmul (own_D 24 u191) (own_D 8 q4) = own_D 32 u192 := own_xmul rfl rfl hu192.symm rfl (by omega) (by omega) (by omega) (by omega) (by omega) (by omega)
      refine og_dmul (pc' := 255) X189 hx (hb hby at_254) (own_nnx x192 (by omega) (by omega)) x192 rfl ?_
      refine og_dstore (pc' := 257) (L' := #[.val (.int x0), .val (.int x1), .val (.int x2), .val (.int x3), .val (.int x4), .val (.int (4 : Int32)), .val (.int nv), .val (.double (own_D 8 q1)), .second, .val (.double (own_D 8 q2)), .second, .val (.double (own_D 8 q3)), .second, .val (.double (own_D 8 q4)), .second, .val (.ref b188), .val (.double (own_D 32 u192)), .second]) X189 hx (hb hby at_255) rfl rfl ?_
      refine og_goto (pc' := 263) X189 hx (hb hby at_257) (by decide) (by decide) ?_
      refine og_aload (pc' := 265) X189 hx (hb hby at_263) rfl rfl rfl ?_
      obtain ⟨cq193, kq193, q193a, q193b, q193c⟩ := isOf hZ rfl c189_0
      obtain ⟨_, _, ⟨T193, L193, k193, n193⟩, -, X193, ⟨Lc193, hQ193, l193, y193, z193⟩, st193⟩ := X189.virtualBack hx (y := (⟨"com/example/paranhos/paranhos/MatchRuns", "matched", "()D"⟩ : MethodName)) (z := (⟨"com/example/paranhos/paranhos/MatchRuns", "matched", "()D"⟩ : MethodName)) hown (mvT hZ (hw _ (List.mem_of_getElem? (i := 16) rfl))) (mvT hZ (hw _ (List.mem_of_getElem? (i := 17) rfl))) (notFace_of_selects (args := #[]) (mvT hZ (hw _ (List.mem_of_getElem? (i := 19) rfl)))) (mvT hZ (hw _ (List.mem_of_getElem? (i := 19) rfl))) (mvT hZ (hw _ (List.mem_of_getElem? (i := 18) rfl))) (by decide) (backOf (W := 0) (rmmat l Z a0 hw [] b188 (own_D 0 0) T189.heap n0 Z189 FM0) hZ (hw _ (List.mem_of_getElem? (i := 20) rfl)) (hw _ (List.mem_of_getElem? (i := 6) rfl)) (by decide) (by decide)) q193a q193c (g := (mkF m 265 #[.val (.int x0), .val (.int x1), .val (.int x2), .val (.int x3), .val (.int x4), .val (.int (4 : Int32)), .val (.int nv), .val (.double (own_D 8 q1)), .second, .val (.double (own_D 8 q2)), .second, .val (.double (own_D 8 q3)), .second, .val (.double (own_D 8 q4)), .second, .val (.ref b188), .val (.double (own_D 32 u192)), .second] [(.ref b188)])) rfl (by rw [hml]; rfl) (Steps.refl _) (argsL := []) (rest := []) (lenOf pd_2 rfl) rfl (by show 2 * 0 + _ ≤ _; exact Nat.le_of_eq rfl) (hb hby at_265) (fun _ _ => ⟨rfl, rfl, (by decide : 2 + 0 ≤ _), (by decide : 6 + 0 ≤ _)⟩)
      dsimp only [Pt.U, Pt.locs, Pt.cells, Pt.slots] at X193 l193 y193 z193 st193 hQ193
      subst l193 y193 z193
      obtain ⟨rfl, N193q, e193⟩ := hQ193
      have N193 := Fr.app N189 N193q
      obtain ⟨J193, X193, N193⟩ := own_hide X193 N193
      refine own_Go.of (g' := (mkF m 268 #[.val (.int x0), .val (.int x1), .val (.int x2), .val (.int x3), .val (.int x4), .val (.int (4 : Int32)), .val (.int nv), .val (.double (own_D 8 q1)), .second, .val (.double (own_D 8 q2)), .second, .val (.double (own_D 8 q3)), .second, .val (.double (own_D 8 q4)), .second, .val (.ref b188), .val (.double (own_D 32 u192)), .second] [(.double (own_D 0 0))])) (fun t k => st193.trans k) ?_
      refine og_dload (pc' := 270) X193 hx (hb hby at_268) rfl rfl ?_
      have hcmp : cmpValue (FP.dcmp (own_D 0 0) (own_D 32 u192)) .l = 0 := own_cmpE (own_res4 0 0) (own_res0 32 u192) (by first | (simp only [hq1, hq2, hq3, hq4, hu190, hu191, hu192]; done) | (simp only [hq1, hq2, hq3, hq4, hu190, hu191, hu192]; grind) | decide) (by decide) (by omega)
      refine og_dcmp (pc' := 271) X193 hx (hb hby at_270) hcmp rfl ?_
      refine og_ifNo (pc' := 274) X193 hx (hb hby at_271) ((if0 _ _).trans (teq (by decide)).2) rfl ?_
      refine og_iconst (pc' := 275) (n := 1) X193 hx (hb hby at_274) rfl rfl ?_
      refine og_goto (pc' := 279) X193 hx (hb hby at_275) (by decide) (by decide) ?_
      obtain ⟨fs, hr, hrun, hended, hW, hsame⟩ := X193.leave (v := some (.int (1 : Int32))) (fun h => by rw [Bd.returns] at h; cases h) (BodyLoose.notSynchronized Bd)
      refine ⟨_, _, retN X193 hx (t := .boolean) Bd.returns (by simp) (hb hby at_279) hr, hrun, hended, some (.int (1 : Int32)), _, rfl, ?_, ⟨_, rfl⟩, hW, hsame.mono (by decide) (by decide)⟩
      show Q0 Z x0 x1 x2 x3 x4 h0 n0 _ T193.heap _
      rw [e193]
      exact ⟨rfl, N193⟩
    · refine og_icmpNo (pc' := 74) X189 hx (hb hby at_71) (flt hc71_13).1 rfl ?_
      refine og_aload (pc' := 76) X189 hx (hb hby at_74) rfl rfl rfl ?_
      refine og_dload (pc' := 78) X189 hx (hb hby at_76) rfl rfl ?_
      obtain ⟨cq194, kq194, q194a, q194b, q194c⟩ := isOf hZ rfl c189_0
      obtain ⟨_, _, ⟨T194, L194, k194, n194⟩, -, X194, ⟨Lc194, hQ194, l194, y194, z194⟩, st194⟩ := X189.virtualBack hx (y := (⟨"com/example/paranhos/paranhos/MatchRuns", "add", "(D)V"⟩ : MethodName)) (z := (⟨"com/example/paranhos/paranhos/MatchRuns", "add", "(D)V"⟩ : MethodName)) hown (mvT hZ (hw _ (List.mem_of_getElem? (i := 24) rfl))) (mvT hZ (hw _ (List.mem_of_getElem? (i := 25) rfl))) (notFace_of_selects (args := #[]) (mvT hZ (hw _ (List.mem_of_getElem? (i := 27) rfl)))) (mvT hZ (hw _ (List.mem_of_getElem? (i := 27) rfl))) (mvT hZ (hw _ (List.mem_of_getElem? (i := 26) rfl))) (by decide) (backOf (W := 0) (rmadd4 l Z a0 hw [] b188 (own_D 8 q1) b_189 kk_189 0 1 q1 0 1 0 0 0 T189.heap n0 Z189 c189_0 c189_1 FM0 VM0 g_b188 g_b_189 ne189_0 rfl ⟨a_q1, z_q1⟩ hl0 hs0 ⟨by decide, by decide, own_o0⟩) hZ (hw _ (List.mem_of_getElem? (i := 28) rfl)) (hw _ (List.mem_of_getElem? (i := 6) rfl)) (by decide) (by decide)) q194a q194c (g := (mkF m 78 #[.val (.int x0), .val (.int x1), .val (.int x2), .val (.int x3), .val (.int x4), .val (.int (4 : Int32)), .val (.int nv), .val (.double (own_D 8 q1)), .second, .val (.double (own_D 8 q2)), .second, .val (.double (own_D 8 q3)), .second, .val (.double (own_D 8 q4)), .second, .val (.ref b188), .unset, .unset] [(.double (own_D 8 q1)), (.ref b188)])) rfl (by rw [hml]; rfl) (Steps.refl _) (argsL := [(.double (own_D 8 q1))]) (rest := []) (lenOf pd_3 rfl) rfl (by show 2 * 0 + _ ≤ _; exact Nat.le_of_eq rfl) (hb hby at_78) (fun _ _ => ⟨rfl, rfl, (by decide : 2 + 0 ≤ _), (by decide : 6 + 0 ≤ _)⟩)
      dsimp only [Pt.U, Pt.locs, Pt.cells, Pt.slots] at X194 l194 y194 z194 st194 hQ194
      subst l194 y194 z194
      obtain ⟨nm_194, w0_194, w1_194, w2_194, w3_194, rfl, N194q, K194q, c194_0, c194_1, c194_2, c194_3, c194_4, c194_5, c194_6, c194_7, c194_8⟩ := hQ194
      have N194 := Fr.app N189 N194q
      obtain ⟨J194, X194, N194⟩ := own_hide X194 N194
      have f194_0 := c189_0.keep K194q
      have K194 : Keep h0 T194.heap [] := K189.trans K194q (allS (Or.inr sz_b188) (allS (Or.inr sz_b_189) all0))
      have Z194 : n0 ≤ T194.heap.size := Nat.le_trans Z0 K194.1
      refine own_Go.of (g' := (mkF m 81 #[.val (.int x0), .val (.int x1), .val (.int x2), .val (.int x3), .val (.int x4), .val (.int (4 : Int32)), .val (.int nv), .val (.double (own_D 8 q1)), .second, .val (.double (own_D 8 q2)), .second, .val (.double (own_D 8 q3)), .second, .val (.double (own_D 8 q4)), .second, .val (.ref b188), .unset, .unset] [])) (fun t k => st194.trans k) ?_
      obtain ⟨hl1, hs1⟩ := own_inv4 (M := 1) ⟨a_q1, z_q1⟩ hl0 hs0 c194_4 c194_5 c194_6 c194_7 c194_8
      have hs1 : nm_194 + w0_194 + w1_194 + w2_194 + w3_194 = 256 := hs1
      have FM1 : Fld Z T194.heap b188 "com/example/paranhos/paranhos/MatchRuns" "matched" "D" (.double (own_D 8 nm_194)) := c194_2
      have VM1 : Arv Z T194.heap b_189 kk_189 .double (4 : Int32) [(.double (own_D 8 w0_194)), (.double (own_D 8 w1_194)), (.double (own_D 8 w2_194)), (.double (own_D 8 w3_194))] (.double (0 : UInt64)) := c194_3
      refine og_iload (pc' := 83) X194 hx (hb hby at_81) rfl rfl ?_
      refine og_iconst (pc' := 84) (n := 2) X194 hx (hb hby at_83) rfl rfl ?_
      by_cases hc84_14 : nv < (2 : Int32)
      · refine og_icmpYes (pc' := 94) X194 hx (hb hby at_84) (tlt hc84_14).1 (by decide) (by decide) ?_
        refine og_iload (pc' := 96) X194 hx (hb hby at_94) rfl rfl ?_
        refine og_iconst (pc' := 97) (n := 3) X194 hx (hb hby at_96) rfl rfl ?_
        refine og_icmpYes (pc' := 107) X194 hx (hb hby at_97) (tlt (own_ltt hc84_14 (by decide))).1 (by decide) (by decide) ?_
        refine og_iload (pc' := 109) X194 hx (hb hby at_107) rfl rfl ?_
        refine og_iconst (pc' := 110) (n := 4) X194 hx (hb hby at_109) rfl rfl ?_
        refine og_icmpYes (pc' := 120) X194 hx (hb hby at_110) (tlt (own_ltt hc84_14 (by decide))).1 (by decide) (by decide) ?_
        have hq2 : q2 = 0 := hq2.trans (if_pos hc84_14)
        have hq3 : q3 = 0 := hq3.trans (if_pos (own_ltt hc84_14 (by decide)))
        have hq4 : q4 = 0 := hq4.trans (if_pos (own_ltt hc84_14 (by decide)))
        refine og_iload (pc' := 122) X194 hx (hb hby at_120) rfl rfl ?_
        refine og_iconst (pc' := 123) (n := 1) X194 hx (hb hby at_122) rfl rfl ?_
        refine og_icmpYes (pc' := 152) X194 hx (hb hby at_123) (feq (by decide)).2 (by decide) (by decide) ?_
        refine og_iload (pc' := 154) X194 hx (hb hby at_152) rfl rfl ?_
        refine og_iconst (pc' := 155) (n := 2) X194 hx (hb hby at_154) rfl rfl ?_
        refine og_icmpYes (pc' := 198) X194 hx (hb hby at_155) (feq (by decide)).2 (by decide) (by decide) ?_
        refine og_iload (pc' := 200) X194 hx (hb hby at_198) rfl rfl ?_
        refine og_iconst (pc' := 201) (n := 3) X194 hx (hb hby at_200) rfl rfl ?_
        refine og_icmpYes (pc' := 238) X194 hx (hb hby at_201) (feq (by decide)).2 (by decide) (by decide) ?_
        refine og_iload (pc' := 240) X194 hx (hb hby at_238) rfl rfl ?_
        refine og_iconst (pc' := 241) (n := 4) X194 hx (hb hby at_240) rfl rfl ?_
        refine og_icmpNo (pc' := 244) X194 hx (hb hby at_241) (teq (by decide)).2 rfl ?_
        refine og_dload (pc' := 246) X194 hx (hb hby at_244) rfl rfl ?_
        refine og_dload (pc' := 248) X194 hx (hb hby at_246) rfl rfl ?_
        obtain ⟨u195, hu195⟩ : ∃ q : Int, q = (q1 * q2) := ⟨_, rfl⟩
        have a195 : 0 ≤ u195 := by rw [hu195]; exact Int.mul_nonneg (by omega) (by omega)
        have z195 : u195 ≤ 65536 := by rw [hu195]; exact Int.le_trans (Int.mul_le_mul z_q1 z_q2 (by omega) (by omega)) (by decide)
        have x195 : FP.dmul (own_D 8 q1) (own_D 8 q2) = own_D 16 u195 := own_xmul rfl rfl hu195.symm rfl (by omega) (by omega) (by omega) (by omega) (by omega) (by omega)
        refine og_dmul (pc' := 249) X194 hx (hb hby at_248) (own_nnx x195 (by omega) (by omega)) x195 rfl ?_
        refine og_dload (pc' := 251) X194 hx (hb hby at_249) rfl rfl ?_
        obtain ⟨u196, hu196⟩ : ∃ q : Int, q = (u195 * q3) := ⟨_, rfl⟩
        have a196 : 0 ≤ u196 := by rw [hu196]; exact Int.mul_nonneg (by omega) (by omega)
        have z196 : u196 ≤ 16777216 := by rw [hu196]; exact Int.le_trans (Int.mul_le_mul z195 z_q3 (by omega) (by omega)) (by decide)
        have x196 : FP.dmul (own_D 16 u195) (own_D 8 q3) = own_D 24 u196 := own_xmul rfl rfl hu196.symm rfl (by omega) (by omega) (by omega) (by omega) (by omega) (by omega)
        refine og_dmul (pc' := 252) X194 hx (hb hby at_251) (own_nnx x196 (by omega) (by omega)) x196 rfl ?_
        refine og_dload (pc' := 254) X194 hx (hb hby at_252) rfl rfl ?_
        obtain ⟨u197, hu197⟩ : ∃ q : Int, q = (u196 * q4) := ⟨_, rfl⟩
        have a197 : 0 ≤ u197 := by rw [hu197]; exact Int.mul_nonneg (by omega) (by omega)
        have z197 : u197 ≤ 4294967296 := by rw [hu197]; exact Int.le_trans (Int.mul_le_mul z196 z_q4 (by omega) (by omega)) (by decide)
        have x197 : FP.dmul (own_D 24 u196) (own_D 8 q4) = own_D 32 u197 := own_xmul rfl rfl hu197.symm rfl (by omega) (by omega) (by omega) (by omega) (by omega) (by omega)
        refine og_dmul (pc' := 255) X194 hx (hb hby at_254) (own_nnx x197 (by omega) (by omega)) x197 rfl ?_
        refine og_dstore (pc' := 257) (L' := #[.val (.int x0), .val (.int x1), .val (.int x2), .val (.int x3), .val (.int x4), .val (.int (4 : Int32)), .val (.int nv), .val (.double (own_D 8 q1)), .second, .val (.double (own_D 8 q2)), .second, .val (.double (own_D 8 q3)), .second, .val (.double (own_D 8 q4)), .second, .val (.ref b188), .val (.double (own_D 32 u197)), .second]) X194 hx (hb hby at_255) rfl rfl ?_
        refine og_goto (pc' := 263) X194 hx (hb hby at_257) (by decide) (by decide) ?_
        refine og_aload (pc' := 265) X194 hx (hb hby at_263) rfl rfl rfl ?_
        obtain ⟨cq198, kq198, q198a, q198b, q198c⟩ := isOf hZ rfl c194_0
        obtain ⟨_, _, ⟨T198, L198, k198, n198⟩, -, X198, ⟨Lc198, hQ198, l198, y198, z198⟩, st198⟩ := X194.virtualBack hx (y := (⟨"com/example/paranhos/paranhos/MatchRuns", "matched", "()D"⟩ : MethodName)) (z := (⟨"com/example/paranhos/paranhos/MatchRuns", "matched", "()D"⟩ : MethodName)) hown (mvT hZ (hw _ (List.mem_of_getElem? (i := 16) rfl))) (mvT hZ (hw _ (List.mem_of_getElem? (i := 17) rfl))) (notFace_of_selects (args := #[]) (mvT hZ (hw _ (List.mem_of_getElem? (i := 19) rfl)))) (mvT hZ (hw _ (List.mem_of_getElem? (i := 19) rfl))) (mvT hZ (hw _ (List.mem_of_getElem? (i := 18) rfl))) (by decide) (backOf (W := 0) (rmmat l Z a0 hw [] b188 (own_D 8 nm_194) T194.heap n0 Z194 FM1) hZ (hw _ (List.mem_of_getElem? (i := 20) rfl)) (hw _ (List.mem_of_getElem? (i := 6) rfl)) (by decide) (by decide)) q198a q198c (g := (mkF m 265 #[.val (.int x0), .val (.int x1), .val (.int x2), .val (.int x3), .val (.int x4), .val (.int (4 : Int32)), .val (.int nv), .val (.double (own_D 8 q1)), .second, .val (.double (own_D 8 q2)), .second, .val (.double (own_D 8 q3)), .second, .val (.double (own_D 8 q4)), .second, .val (.ref b188), .val (.double (own_D 32 u197)), .second] [(.ref b188)])) rfl (by rw [hml]; rfl) (Steps.refl _) (argsL := []) (rest := []) (lenOf pd_2 rfl) rfl (by show 2 * 0 + _ ≤ _; exact Nat.le_of_eq rfl) (hb hby at_265) (fun _ _ => ⟨rfl, rfl, (by decide : 2 + 0 ≤ _), (by decide : 6 + 0 ≤ _)⟩)
        dsimp only [Pt.U, Pt.locs, Pt.cells, Pt.slots] at X198 l198 y198 z198 st198 hQ198
        subst l198 y198 z198
        obtain ⟨rfl, N198q, e198⟩ := hQ198
        have N198 := Fr.app N194 N198q
        obtain ⟨J198, X198, N198⟩ := own_hide X198 N198
        refine own_Go.of (g' := (mkF m 268 #[.val (.int x0), .val (.int x1), .val (.int x2), .val (.int x3), .val (.int x4), .val (.int (4 : Int32)), .val (.int nv), .val (.double (own_D 8 q1)), .second, .val (.double (own_D 8 q2)), .second, .val (.double (own_D 8 q3)), .second, .val (.double (own_D 8 q4)), .second, .val (.ref b188), .val (.double (own_D 32 u197)), .second] [(.double (own_D 8 nm_194))])) (fun t k => st198.trans k) ?_
        refine og_dload (pc' := 270) X198 hx (hb hby at_268) rfl rfl ?_
        have hcmp : cmpValue (FP.dcmp (own_D 8 nm_194) (own_D 32 u197)) .l = 0 := own_cmpE (own_res3 8 nm_194) (own_res0 32 u197) (by first | (simp only [c194_4, c194_5, c194_6, c194_7, c194_8, hq2, hq3, hq4, hu195, hu196, hu197]; done) | (simp only [c194_4, c194_5, c194_6, c194_7, c194_8, hq2, hq3, hq4, hu195, hu196, hu197]; grind) | decide) (by decide) (by omega)
        refine og_dcmp (pc' := 271) X198 hx (hb hby at_270) hcmp rfl ?_
        refine og_ifNo (pc' := 274) X198 hx (hb hby at_271) ((if0 _ _).trans (teq (by decide)).2) rfl ?_
        refine og_iconst (pc' := 275) (n := 1) X198 hx (hb hby at_274) rfl rfl ?_
        refine og_goto (pc' := 279) X198 hx (hb hby at_275) (by decide) (by decide) ?_
        obtain ⟨fs, hr, hrun, hended, hW, hsame⟩ := X198.leave (v := some (.int (1 : Int32))) (fun h => by rw [Bd.returns] at h; cases h) (BodyLoose.notSynchronized Bd)
        refine ⟨_, _, retN X198 hx (t := .boolean) Bd.returns (by simp) (hb hby at_279) hr, hrun, hended, some (.int (1 : Int32)), _, rfl, ?_, ⟨_, rfl⟩, hW, hsame.mono (by decide) (by decide)⟩
        show Q0 Z x0 x1 x2 x3 x4 h0 n0 _ T198.heap _
        rw [e198]
        exact ⟨rfl, N198⟩
      · refine og_icmpNo (pc' := 87) X194 hx (hb hby at_84) (flt hc84_14).1 rfl ?_
        refine og_aload (pc' := 89) X194 hx (hb hby at_87) rfl rfl rfl ?_
        refine og_dload (pc' := 91) X194 hx (hb hby at_89) rfl rfl ?_
        obtain ⟨cq199, kq199, q199a, q199b, q199c⟩ := isOf hZ rfl c194_0
        obtain ⟨_, _, ⟨T199, L199, k199, n199⟩, -, X199, ⟨Lc199, hQ199, l199, y199, z199⟩, st199⟩ := X194.virtualBack hx (y := (⟨"com/example/paranhos/paranhos/MatchRuns", "add", "(D)V"⟩ : MethodName)) (z := (⟨"com/example/paranhos/paranhos/MatchRuns", "add", "(D)V"⟩ : MethodName)) hown (mvT hZ (hw _ (List.mem_of_getElem? (i := 24) rfl))) (mvT hZ (hw _ (List.mem_of_getElem? (i := 25) rfl))) (notFace_of_selects (args := #[]) (mvT hZ (hw _ (List.mem_of_getElem? (i := 27) rfl)))) (mvT hZ (hw _ (List.mem_of_getElem? (i := 27) rfl))) (mvT hZ (hw _ (List.mem_of_getElem? (i := 26) rfl))) (by decide) (backOf (W := 0) (rmadd4 l Z a0 hw [] b188 (own_D 8 q2) b_189 kk_189 8 256 q2 nm_194 w0_194 w1_194 w2_194 w3_194 T194.heap n0 Z194 c194_0 c194_1 FM1 VM1 g_b188 g_b_189 ne189_0 rfl ⟨a_q2, z_q2⟩ hl1 hs1 ⟨by decide, by decide, own_o8⟩) hZ (hw _ (List.mem_of_getElem? (i := 28) rfl)) (hw _ (List.mem_of_getElem? (i := 6) rfl)) (by decide) (by decide)) q199a q199c (g := (mkF m 91 #[.val (.int x0), .val (.int x1), .val (.int x2), .val (.int x3), .val (.int x4), .val (.int (4 : Int32)), .val (.int nv), .val (.double (own_D 8 q1)), .second, .val (.double (own_D 8 q2)), .second, .val (.double (own_D 8 q3)), .second, .val (.double (own_D 8 q4)), .second, .val (.ref b188), .unset, .unset] [(.double (own_D 8 q2)), (.ref b188)])) rfl (by rw [hml]; rfl) (Steps.refl _) (argsL := [(.double (own_D 8 q2))]) (rest := []) (lenOf pd_3 rfl) rfl (by show 2 * 0 + _ ≤ _; exact Nat.le_of_eq rfl) (hb hby at_91) (fun _ _ => ⟨rfl, rfl, (by decide : 2 + 0 ≤ _), (by decide : 6 + 0 ≤ _)⟩)
        dsimp only [Pt.U, Pt.locs, Pt.cells, Pt.slots] at X199 l199 y199 z199 st199 hQ199
        subst l199 y199 z199
        obtain ⟨nm_199, w0_199, w1_199, w2_199, w3_199, rfl, N199q, K199q, c199_0, c199_1, c199_2, c199_3, c199_4, c199_5, c199_6, c199_7, c199_8⟩ := hQ199
        have N199 := Fr.app N194 N199q
        obtain ⟨J199, X199, N199⟩ := own_hide X199 N199
        have f199_0 := c194_0.keep K199q
        have K199 : Keep h0 T199.heap [] := K194.trans K199q (allS (Or.inr sz_b188) (allS (Or.inr sz_b_189) all0))
        have Z199 : n0 ≤ T199.heap.size := Nat.le_trans Z0 K199.1
        refine own_Go.of (g' := (mkF m 94 #[.val (.int x0), .val (.int x1), .val (.int x2), .val (.int x3), .val (.int x4), .val (.int (4 : Int32)), .val (.int nv), .val (.double (own_D 8 q1)), .second, .val (.double (own_D 8 q2)), .second, .val (.double (own_D 8 q3)), .second, .val (.double (own_D 8 q4)), .second, .val (.ref b188), .unset, .unset] [])) (fun t k => st199.trans k) ?_
        obtain ⟨hl2, hs2⟩ := own_inv4 (M := 256) ⟨a_q2, z_q2⟩ hl1 hs1 c199_4 c199_5 c199_6 c199_7 c199_8
        have hs2 : nm_199 + w0_199 + w1_199 + w2_199 + w3_199 = 65536 := hs2
        have FM2 : Fld Z T199.heap b188 "com/example/paranhos/paranhos/MatchRuns" "matched" "D" (.double (own_D 16 nm_199)) := c199_2
        have VM2 : Arv Z T199.heap b_189 kk_189 .double (4 : Int32) [(.double (own_D 16 w0_199)), (.double (own_D 16 w1_199)), (.double (own_D 16 w2_199)), (.double (own_D 16 w3_199))] (.double (0 : UInt64)) := c199_3
        refine og_iload (pc' := 96) X199 hx (hb hby at_94) rfl rfl ?_
        refine og_iconst (pc' := 97) (n := 3) X199 hx (hb hby at_96) rfl rfl ?_
        by_cases hc97_15 : nv < (3 : Int32)
        · refine og_icmpYes (pc' := 107) X199 hx (hb hby at_97) (tlt hc97_15).1 (by decide) (by decide) ?_
          refine og_iload (pc' := 109) X199 hx (hb hby at_107) rfl rfl ?_
          refine og_iconst (pc' := 110) (n := 4) X199 hx (hb hby at_109) rfl rfl ?_
          refine og_icmpYes (pc' := 120) X199 hx (hb hby at_110) (tlt (own_ltt hc97_15 (by decide))).1 (by decide) (by decide) ?_
          have hq3 : q3 = 0 := hq3.trans (if_pos hc97_15)
          have hq4 : q4 = 0 := hq4.trans (if_pos (own_ltt hc97_15 (by decide)))
          refine og_iload (pc' := 122) X199 hx (hb hby at_120) rfl rfl ?_
          refine og_iconst (pc' := 123) (n := 1) X199 hx (hb hby at_122) rfl rfl ?_
          refine og_icmpYes (pc' := 152) X199 hx (hb hby at_123) (feq (by decide)).2 (by decide) (by decide) ?_
          refine og_iload (pc' := 154) X199 hx (hb hby at_152) rfl rfl ?_
          refine og_iconst (pc' := 155) (n := 2) X199 hx (hb hby at_154) rfl rfl ?_
          refine og_icmpYes (pc' := 198) X199 hx (hb hby at_155) (feq (by decide)).2 (by decide) (by decide) ?_
          refine og_iload (pc' := 200) X199 hx (hb hby at_198) rfl rfl ?_
          refine og_iconst (pc' := 201) (n := 3) X199 hx (hb hby at_200) rfl rfl ?_
          refine og_icmpYes (pc' := 238) X199 hx (hb hby at_201) (feq (by decide)).2 (by decide) (by decide) ?_
          refine og_iload (pc' := 240) X199 hx (hb hby at_238) rfl rfl ?_
          refine og_iconst (pc' := 241) (n := 4) X199 hx (hb hby at_240) rfl rfl ?_
          refine og_icmpNo (pc' := 244) X199 hx (hb hby at_241) (teq (by decide)).2 rfl ?_
          refine og_dload (pc' := 246) X199 hx (hb hby at_244) rfl rfl ?_
          refine og_dload (pc' := 248) X199 hx (hb hby at_246) rfl rfl ?_
          obtain ⟨u200, hu200⟩ : ∃ q : Int, q = (q1 * q2) := ⟨_, rfl⟩
          have a200 : 0 ≤ u200 := by rw [hu200]; exact Int.mul_nonneg (by omega) (by omega)
          have z200 : u200 ≤ 65536 := by rw [hu200]; exact Int.le_trans (Int.mul_le_mul z_q1 z_q2 (by omega) (by omega)) (by decide)
          have x200 : FP.dmul (own_D 8 q1) (own_D 8 q2) = own_D 16 u200 := own_xmul rfl rfl hu200.symm rfl (by omega) (by omega) (by omega) (by omega) (by omega) (by omega)
          refine og_dmul (pc' := 249) X199 hx (hb hby at_248) (own_nnx x200 (by omega) (by omega)) x200 rfl ?_
          refine og_dload (pc' := 251) X199 hx (hb hby at_249) rfl rfl ?_
          obtain ⟨u201, hu201⟩ : ∃ q : Int, q = (u200 * q3) := ⟨_, rfl⟩
          have a201 : 0 ≤ u201 := by rw [hu201]; exact Int.mul_nonneg (by omega) (by omega)
          have z201 : u201 ≤ 16777216 := by rw [hu201]; exact Int.le_trans (Int.mul_le_mul z200 z_q3 (by omega) (by omega)) (by decide)
          have x201 : FP.dmul (own_D 16 u200) (own_D 8 q3) = own_D 24 u201 := own_xmul rfl rfl hu201.symm rfl (by omega) (by omega) (by omega) (by omega) (by omega) (by omega)
          refine og_dmul (pc' := 252) X199 hx (hb hby at_251) (own_nnx x201 (by omega) (by omega)) x201 rfl ?_
          refine og_dload (pc' := 254) X199 hx (hb hby at_252) rfl rfl ?_
          obtain ⟨u202, hu202⟩ : ∃ q : Int, q = (u201 * q4) := ⟨_, rfl⟩
          have a202 : 0 ≤ u202 := by rw [hu202]; exact Int.mul_nonneg (by omega) (by omega)
          have z202 : u202 ≤ 4294967296 := by rw [hu202]; exact Int.le_trans (Int.mul_le_mul z201 z_q4 (by omega) (by omega)) (by decide)
          have x202 : FP.dmul (own_D 24 u201) (own_D 8 q4) = own_D 32 u202 := own_xmul rfl rfl hu202.symm rfl (by omega) (by omega) (by omega) (by omega) (by omega) (by omega)
          refine og_dmul (pc' := 255) X199 hx (hb hby at_254) (own_nnx x202 (by omega) (by omega)) x202 rfl ?_
          refine og_dstore (pc' := 257) (L' := #[.val (.int x0), .val (.int x1), .val (.int x2), .val (.int x3), .val (.int x4), .val (.int (4 : Int32)), .val (.int nv), .val (.double (own_D 8 q1)), .second, .val (.double (own_D 8 q2)), .second, .val (.double (own_D 8 q3)), .second, .val (.double (own_D 8 q4)), .second, .val (.ref b188), .val (.double (own_D 32 u202)), .second]) X199 hx (hb hby at_255) rfl rfl ?_
          refine og_goto (pc' := 263) X199 hx (hb hby at_257) (by decide) (by decide) ?_
          refine og_aload (pc' := 265) X199 hx (hb hby at_263) rfl rfl rfl ?_
          obtain ⟨cq203, kq203, q203a, q203b, q203c⟩ := isOf hZ rfl c199_0
          obtain ⟨_, _, ⟨T203, L203, k203, n203⟩, -, X203, ⟨Lc203, hQ203, l203, y203, z203⟩, st203⟩ := X199.virtualBack hx (y := (⟨"com/example/paranhos/paranhos/MatchRuns", "matched", "()D"⟩ : MethodName)) (z := (⟨"com/example/paranhos/paranhos/MatchRuns", "matched", "()D"⟩ : MethodName)) hown (mvT hZ (hw _ (List.mem_of_getElem? (i := 16) rfl))) (mvT hZ (hw _ (List.mem_of_getElem? (i := 17) rfl))) (notFace_of_selects (args := #[]) (mvT hZ (hw _ (List.mem_of_getElem? (i := 19) rfl)))) (mvT hZ (hw _ (List.mem_of_getElem? (i := 19) rfl))) (mvT hZ (hw _ (List.mem_of_getElem? (i := 18) rfl))) (by decide) (backOf (W := 0) (rmmat l Z a0 hw [] b188 (own_D 16 nm_199) T199.heap n0 Z199 FM2) hZ (hw _ (List.mem_of_getElem? (i := 20) rfl)) (hw _ (List.mem_of_getElem? (i := 6) rfl)) (by decide) (by decide)) q203a q203c (g := (mkF m 265 #[.val (.int x0), .val (.int x1), .val (.int x2), .val (.int x3), .val (.int x4), .val (.int (4 : Int32)), .val (.int nv), .val (.double (own_D 8 q1)), .second, .val (.double (own_D 8 q2)), .second, .val (.double (own_D 8 q3)), .second, .val (.double (own_D 8 q4)), .second, .val (.ref b188), .val (.double (own_D 32 u202)), .second] [(.ref b188)])) rfl (by rw [hml]; rfl) (Steps.refl _) (argsL := []) (rest := []) (lenOf pd_2 rfl) rfl (by show 2 * 0 + _ ≤ _; exact Nat.le_of_eq rfl) (hb hby at_265) (fun _ _ => ⟨rfl, rfl, (by decide : 2 + 0 ≤ _), (by decide : 6 + 0 ≤ _)⟩)
          dsimp only [Pt.U, Pt.locs, Pt.cells, Pt.slots] at X203 l203 y203 z203 st203 hQ203
          subst l203 y203 z203
          obtain ⟨rfl, N203q, e203⟩ := hQ203
          have N203 := Fr.app N199 N203q
          obtain ⟨J203, X203, N203⟩ := own_hide X203 N203
          refine own_Go.of (g' := (mkF m 268 #[.val (.int x0), .val (.int x1), .val (.int x2), .val (.int x3), .val (.int x4), .val (.int (4 : Int32)), .val (.int nv), .val (.double (own_D 8 q1)), .second, .val (.double (own_D 8 q2)), .second, .val (.double (own_D 8 q3)), .second, .val (.double (own_D 8 q4)), .second, .val (.ref b188), .val (.double (own_D 32 u202)), .second] [(.double (own_D 16 nm_199))])) (fun t k => st203.trans k) ?_
          refine og_dload (pc' := 270) X203 hx (hb hby at_268) rfl rfl ?_
          have hcmp : cmpValue (FP.dcmp (own_D 16 nm_199) (own_D 32 u202)) .l = 0 := own_cmpE (own_res2 16 nm_199) (own_res0 32 u202) (by first | (simp only [c194_4, c194_5, c194_6, c194_7, c194_8, c199_4, c199_5, c199_6, c199_7, c199_8, hq3, hq4, hu200, hu201, hu202]; done) | (simp only [c194_4, c194_5, c194_6, c194_7, c194_8, c199_4, c199_5, c199_6, c199_7, c199_8, hq3, hq4, hu200, hu201, hu202]; grind) | decide) (by decide) (by omega)
          refine og_dcmp (pc' := 271) X203 hx (hb hby at_270) hcmp rfl ?_
          refine og_ifNo (pc' := 274) X203 hx (hb hby at_271) ((if0 _ _).trans (teq (by decide)).2) rfl ?_
          refine og_iconst (pc' := 275) (n := 1) X203 hx (hb hby at_274) rfl rfl ?_
          refine og_goto (pc' := 279) X203 hx (hb hby at_275) (by decide) (by decide) ?_
          obtain ⟨fs, hr, hrun, hended, hW, hsame⟩ := X203.leave (v := some (.int (1 : Int32))) (fun h => by rw [Bd.returns] at h; cases h) (BodyLoose.notSynchronized Bd)
          refine ⟨_, _, retN X203 hx (t := .boolean) Bd.returns (by simp) (hb hby at_279) hr, hrun, hended, some (.int (1 : Int32)), _, rfl, ?_, ⟨_, rfl⟩, hW, hsame.mono (by decide) (by decide)⟩
          show Q0 Z x0 x1 x2 x3 x4 h0 n0 _ T203.heap _
          rw [e203]
          exact ⟨rfl, N203⟩
        · refine og_icmpNo (pc' := 100) X199 hx (hb hby at_97) (flt hc97_15).1 rfl ?_
          refine og_aload (pc' := 102) X199 hx (hb hby at_100) rfl rfl rfl ?_
          refine og_dload (pc' := 104) X199 hx (hb hby at_102) rfl rfl ?_
          obtain ⟨cq204, kq204, q204a, q204b, q204c⟩ := isOf hZ rfl c199_0
          obtain ⟨_, _, ⟨T204, L204, k204, n204⟩, -, X204, ⟨Lc204, hQ204, l204, y204, z204⟩, st204⟩ := X199.virtualBack hx (y := (⟨"com/example/paranhos/paranhos/MatchRuns", "add", "(D)V"⟩ : MethodName)) (z := (⟨"com/example/paranhos/paranhos/MatchRuns", "add", "(D)V"⟩ : MethodName)) hown (mvT hZ (hw _ (List.mem_of_getElem? (i := 24) rfl))) (mvT hZ (hw _ (List.mem_of_getElem? (i := 25) rfl))) (notFace_of_selects (args := #[]) (mvT hZ (hw _ (List.mem_of_getElem? (i := 27) rfl)))) (mvT hZ (hw _ (List.mem_of_getElem? (i := 27) rfl))) (mvT hZ (hw _ (List.mem_of_getElem? (i := 26) rfl))) (by decide) (backOf (W := 0) (rmadd4 l Z a0 hw [] b188 (own_D 8 q3) b_189 kk_189 16 65536 q3 nm_199 w0_199 w1_199 w2_199 w3_199 T199.heap n0 Z199 c199_0 c199_1 FM2 VM2 g_b188 g_b_189 ne189_0 rfl ⟨a_q3, z_q3⟩ hl2 hs2 ⟨by decide, by decide, own_o16⟩) hZ (hw _ (List.mem_of_getElem? (i := 28) rfl)) (hw _ (List.mem_of_getElem? (i := 6) rfl)) (by decide) (by decide)) q204a q204c (g := (mkF m 104 #[.val (.int x0), .val (.int x1), .val (.int x2), .val (.int x3), .val (.int x4), .val (.int (4 : Int32)), .val (.int nv), .val (.double (own_D 8 q1)), .second, .val (.double (own_D 8 q2)), .second, .val (.double (own_D 8 q3)), .second, .val (.double (own_D 8 q4)), .second, .val (.ref b188), .unset, .unset] [(.double (own_D 8 q3)), (.ref b188)])) rfl (by rw [hml]; rfl) (Steps.refl _) (argsL := [(.double (own_D 8 q3))]) (rest := []) (lenOf pd_3 rfl) rfl (by show 2 * 0 + _ ≤ _; exact Nat.le_of_eq rfl) (hb hby at_104) (fun _ _ => ⟨rfl, rfl, (by decide : 2 + 0 ≤ _), (by decide : 6 + 0 ≤ _)⟩)
          dsimp only [Pt.U, Pt.locs, Pt.cells, Pt.slots] at X204 l204 y204 z204 st204 hQ204
          subst l204 y204 z204
          obtain ⟨nm_204, w0_204, w1_204, w2_204, w3_204, rfl, N204q, K204q, c204_0, c204_1, c204_2, c204_3, c204_4, c204_5, c204_6, c204_7, c204_8⟩ := hQ204
          have N204 := Fr.app N199 N204q
          obtain ⟨J204, X204, N204⟩ := own_hide X204 N204
          have f204_0 := c199_0.keep K204q
          have K204 : Keep h0 T204.heap [] := K199.trans K204q (allS (Or.inr sz_b188) (allS (Or.inr sz_b_189) all0))
          have Z204 : n0 ≤ T204.heap.size := Nat.le_trans Z0 K204.1
          refine own_Go.of (g' := (mkF m 107 #[.val (.int x0), .val (.int x1), .val (.int x2), .val (.int x3), .val (.int x4), .val (.int (4 : Int32)), .val (.int nv), .val (.double (own_D 8 q1)), .second, .val (.double (own_D 8 q2)), .second, .val (.double (own_D 8 q3)), .second, .val (.double (own_D 8 q4)), .second, .val (.ref b188), .unset, .unset] [])) (fun t k => st204.trans k) ?_
          obtain ⟨hl3, hs3⟩ := own_inv4 (M := 65536) ⟨a_q3, z_q3⟩ hl2 hs2 c204_4 c204_5 c204_6 c204_7 c204_8
          have hs3 : nm_204 + w0_204 + w1_204 + w2_204 + w3_204 = 16777216 := hs3
          have FM3 : Fld Z T204.heap b188 "com/example/paranhos/paranhos/MatchRuns" "matched" "D" (.double (own_D 24 nm_204)) := c204_2
          have VM3 : Arv Z T204.heap b_189 kk_189 .double (4 : Int32) [(.double (own_D 24 w0_204)), (.double (own_D 24 w1_204)), (.double (own_D 24 w2_204)), (.double (own_D 24 w3_204))] (.double (0 : UInt64)) := c204_3
          refine og_iload (pc' := 109) X204 hx (hb hby at_107) rfl rfl ?_
          refine og_iconst (pc' := 110) (n := 4) X204 hx (hb hby at_109) rfl rfl ?_
          by_cases hc110_16 : nv < (4 : Int32)
          · refine og_icmpYes (pc' := 120) X204 hx (hb hby at_110) (tlt hc110_16).1 (by decide) (by decide) ?_
            have hq4 : q4 = 0 := hq4.trans (if_pos hc110_16)
            refine og_iload (pc' := 122) X204 hx (hb hby at_120) rfl rfl ?_
            refine og_iconst (pc' := 123) (n := 1) X204 hx (hb hby at_122) rfl rfl ?_
            refine og_icmpYes (pc' := 152) X204 hx (hb hby at_123) (feq (by decide)).2 (by decide) (by decide) ?_
            refine og_iload (pc' := 154) X204 hx (hb hby at_152) rfl rfl ?_
            refine og_iconst (pc' := 155) (n := 2) X204 hx (hb hby at_154) rfl rfl ?_
            refine og_icmpYes (pc' := 198) X204 hx (hb hby at_155) (feq (by decide)).2 (by decide) (by decide) ?_
            refine og_iload (pc' := 200) X204 hx (hb hby at_198) rfl rfl ?_
            refine og_iconst (pc' := 201) (n := 3) X204 hx (hb hby at_200) rfl rfl ?_
            refine og_icmpYes (pc' := 238) X204 hx (hb hby at_201) (feq (by decide)).2 (by decide) (by decide) ?_
            refine og_iload (pc' := 240) X204 hx (hb hby at_238) rfl rfl ?_
            refine og_iconst (pc' := 241) (n := 4) X204 hx (hb hby at_240) rfl rfl ?_
            refine og_icmpNo (pc' := 244) X204 hx (hb hby at_241) (teq (by decide)).2 rfl ?_
            refine og_dload (pc' := 246) X204 hx (hb hby at_244) rfl rfl ?_
            refine og_dload (pc' := 248) X204 hx (hb hby at_246) rfl rfl ?_
            obtain ⟨u205, hu205⟩ : ∃ q : Int, q = (q1 * q2) := ⟨_, rfl⟩
            have a205 : 0 ≤ u205 := by rw [hu205]; exact Int.mul_nonneg (by omega) (by omega)
            have z205 : u205 ≤ 65536 := by rw [hu205]; exact Int.le_trans (Int.mul_le_mul z_q1 z_q2 (by omega) (by omega)) (by decide)
            have x205 : FP.dmul (own_D 8 q1) (own_D 8 q2) = own_D 16 u205 := own_xmul rfl rfl hu205.symm rfl (by omega) (by omega) (by omega) (by omega) (by omega) (by omega)
            refine og_dmul (pc' := 249) X204 hx (hb hby at_248) (own_nnx x205 (by omega) (by omega)) x205 rfl ?_
            refine og_dload (pc' := 251) X204 hx (hb hby at_249) rfl rfl ?_
            obtain ⟨u206, hu206⟩ : ∃ q : Int, q = (u205 * q3) := ⟨_, rfl⟩
            have a206 : 0 ≤ u206 := by rw [hu206]; exact Int.mul_nonneg (by omega) (by omega)
            have z206 : u206 ≤ 16777216 := by rw [hu206]; exact Int.le_trans (Int.mul_le_mul z205 z_q3 (by omega) (by omega)) (by decide)
            have x206 : FP.dmul (own_D 16 u205) (own_D 8 q3) = own_D 24 u206 := own_xmul rfl rfl hu206.symm rfl (by omega) (by omega) (by omega) (by omega) (by omega) (by omega)
            refine og_dmul (pc' := 252) X204 hx (hb hby at_251) (own_nnx x206 (by omega) (by omega)) x206 rfl ?_
            refine og_dload (pc' := 254) X204 hx (hb hby at_252) rfl rfl ?_
            obtain ⟨u207, hu207⟩ : ∃ q : Int, q = (u206 * q4) := ⟨_, rfl⟩
            have a207 : 0 ≤ u207 := by rw [hu207]; exact Int.mul_nonneg (by omega) (by omega)
            have z207 : u207 ≤ 4294967296 := by rw [hu207]; exact Int.le_trans (Int.mul_le_mul z206 z_q4 (by omega) (by omega)) (by decide)
            have x207 : FP.dmul (own_D 24 u206) (own_D 8 q4) = own_D 32 u207 := own_xmul rfl rfl hu207.symm rfl (by omega) (by omega) (by omega) (by omega) (by omega) (by omega)
            refine og_dmul (pc' := 255) X204 hx (hb hby at_254) (own_nnx x207 (by omega) (by omega)) x207 rfl ?_
            refine og_dstore (pc' := 257) (L' := #[.val (.int x0), .val (.int x1), .val (.int x2), .val (.int x3), .val (.int x4), .val (.int (4 : Int32)), .val (.int nv), .val (.double (own_D 8 q1)), .second, .val (.double (own_D 8 q2)), .second, .val (.double (own_D 8 q3)), .second, .val (.double (own_D 8 q4)), .second, .val (.ref b188), .val (.double (own_D 32 u207)), .second]) X204 hx (hb hby at_255) rfl rfl ?_
            refine og_goto (pc' := 263) X204 hx (hb hby at_257) (by decide) (by decide) ?_
            refine og_aload (pc' := 265) X204 hx (hb hby at_263) rfl rfl rfl ?_
            obtain ⟨cq208, kq208, q208a, q208b, q208c⟩ := isOf hZ rfl c204_0
            obtain ⟨_, _, ⟨T208, L208, k208, n208⟩, -, X208, ⟨Lc208, hQ208, l208, y208, z208⟩, st208⟩ := X204.virtualBack hx (y := (⟨"com/example/paranhos/paranhos/MatchRuns", "matched", "()D"⟩ : MethodName)) (z := (⟨"com/example/paranhos/paranhos/MatchRuns", "matched", "()D"⟩ : MethodName)) hown (mvT hZ (hw _ (List.mem_of_getElem? (i := 16) rfl))) (mvT hZ (hw _ (List.mem_of_getElem? (i := 17) rfl))) (notFace_of_selects (args := #[]) (mvT hZ (hw _ (List.mem_of_getElem? (i := 19) rfl)))) (mvT hZ (hw _ (List.mem_of_getElem? (i := 19) rfl))) (mvT hZ (hw _ (List.mem_of_getElem? (i := 18) rfl))) (by decide) (backOf (W := 0) (rmmat l Z a0 hw [] b188 (own_D 24 nm_204) T204.heap n0 Z204 FM3) hZ (hw _ (List.mem_of_getElem? (i := 20) rfl)) (hw _ (List.mem_of_getElem? (i := 6) rfl)) (by decide) (by decide)) q208a q208c (g := (mkF m 265 #[.val (.int x0), .val (.int x1), .val (.int x2), .val (.int x3), .val (.int x4), .val (.int (4 : Int32)), .val (.int nv), .val (.double (own_D 8 q1)), .second, .val (.double (own_D 8 q2)), .second, .val (.double (own_D 8 q3)), .second, .val (.double (own_D 8 q4)), .second, .val (.ref b188), .val (.double (own_D 32 u207)), .second] [(.ref b188)])) rfl (by rw [hml]; rfl) (Steps.refl _) (argsL := []) (rest := []) (lenOf pd_2 rfl) rfl (by show 2 * 0 + _ ≤ _; exact Nat.le_of_eq rfl) (hb hby at_265) (fun _ _ => ⟨rfl, rfl, (by decide : 2 + 0 ≤ _), (by decide : 6 + 0 ≤ _)⟩)
            dsimp only [Pt.U, Pt.locs, Pt.cells, Pt.slots] at X208 l208 y208 z208 st208 hQ208
            subst l208 y208 z208
            obtain ⟨rfl, N208q, e208⟩ := hQ208
            have N208 := Fr.app N204 N208q
            obtain ⟨J208, X208, N208⟩ := own_hide X208 N208
            refine own_Go.of (g' := (mkF m 268 #[.val (.int x0), .val (.int x1), .val (.int x2), .val (.int x3), .val (.int x4), .val (.int (4 : Int32)), .val (.int nv), .val (.double (own_D 8 q1)), .second, .val (.double (own_D 8 q2)), .second, .val (.double (own_D 8 q3)), .second, .val (.double (own_D 8 q4)), .second, .val (.ref b188), .val (.double (own_D 32 u207)), .second] [(.double (own_D 24 nm_204))])) (fun t k => st208.trans k) ?_
            refine og_dload (pc' := 270) X208 hx (hb hby at_268) rfl rfl ?_
            have hcmp : cmpValue (FP.dcmp (own_D 24 nm_204) (own_D 32 u207)) .l = 0 := own_cmpE (own_res1 24 nm_204) (own_res0 32 u207) (by first | (simp only [c194_4, c194_5, c194_6, c194_7, c194_8, c199_4, c199_5, c199_6, c199_7, c199_8, c204_4, c204_5, c204_6, c204_7, c204_8, hq4, hu205, hu206, hu207]; done) | (simp only [c194_4, c194_5, c194_6, c194_7, c194_8, c199_4, c199_5, c199_6, c199_7, c199_8, c204_4, c204_5, c204_6, c204_7, c204_8, hq4, hu205, hu206, hu207]; grind) | decide) (by decide) (by omega)
            refine og_dcmp (pc' := 271) X208 hx (hb hby at_270) hcmp rfl ?_
            refine og_ifNo (pc' := 274) X208 hx (hb hby at_271) ((if0 _ _).trans (teq (by decide)).2) rfl ?_
            refine og_iconst (pc' := 275) (n := 1) X208 hx (hb hby at_274) rfl rfl ?_
            refine og_goto (pc' := 279) X208 hx (hb hby at_275) (by decide) (by decide) ?_
            obtain ⟨fs, hr, hrun, hended, hW, hsame⟩ := X208.leave (v := some (.int (1 : Int32))) (fun h => by rw [Bd.returns] at h; cases h) (BodyLoose.notSynchronized Bd)
            refine ⟨_, _, retN X208 hx (t := .boolean) Bd.returns (by simp) (hb hby at_279) hr, hrun, hended, some (.int (1 : Int32)), _, rfl, ?_, ⟨_, rfl⟩, hW, hsame.mono (by decide) (by decide)⟩
            show Q0 Z x0 x1 x2 x3 x4 h0 n0 _ T208.heap _
            rw [e208]
            exact ⟨rfl, N208⟩
          · refine og_icmpNo (pc' := 113) X204 hx (hb hby at_110) (flt hc110_16).1 rfl ?_
            refine og_aload (pc' := 115) X204 hx (hb hby at_113) rfl rfl rfl ?_
            refine og_dload (pc' := 117) X204 hx (hb hby at_115) rfl rfl ?_
            obtain ⟨cq209, kq209, q209a, q209b, q209c⟩ := isOf hZ rfl c204_0
            obtain ⟨_, _, ⟨T209, L209, k209, n209⟩, -, X209, ⟨Lc209, hQ209, l209, y209, z209⟩, st209⟩ := X204.virtualBack hx (y := (⟨"com/example/paranhos/paranhos/MatchRuns", "add", "(D)V"⟩ : MethodName)) (z := (⟨"com/example/paranhos/paranhos/MatchRuns", "add", "(D)V"⟩ : MethodName)) hown (mvT hZ (hw _ (List.mem_of_getElem? (i := 24) rfl))) (mvT hZ (hw _ (List.mem_of_getElem? (i := 25) rfl))) (notFace_of_selects (args := #[]) (mvT hZ (hw _ (List.mem_of_getElem? (i := 27) rfl)))) (mvT hZ (hw _ (List.mem_of_getElem? (i := 27) rfl))) (mvT hZ (hw _ (List.mem_of_getElem? (i := 26) rfl))) (by decide) (backOf (W := 0) (rmadd4 l Z a0 hw [] b188 (own_D 8 q4) b_189 kk_189 24 16777216 q4 nm_204 w0_204 w1_204 w2_204 w3_204 T204.heap n0 Z204 c204_0 c204_1 FM3 VM3 g_b188 g_b_189 ne189_0 rfl ⟨a_q4, z_q4⟩ hl3 hs3 ⟨by decide, by decide, own_o24⟩) hZ (hw _ (List.mem_of_getElem? (i := 28) rfl)) (hw _ (List.mem_of_getElem? (i := 6) rfl)) (by decide) (by decide)) q209a q209c (g := (mkF m 117 #[.val (.int x0), .val (.int x1), .val (.int x2), .val (.int x3), .val (.int x4), .val (.int (4 : Int32)), .val (.int nv), .val (.double (own_D 8 q1)), .second, .val (.double (own_D 8 q2)), .second, .val (.double (own_D 8 q3)), .second, .val (.double (own_D 8 q4)), .second, .val (.ref b188), .unset, .unset] [(.double (own_D 8 q4)), (.ref b188)])) rfl (by rw [hml]; rfl) (Steps.refl _) (argsL := [(.double (own_D 8 q4))]) (rest := []) (lenOf pd_3 rfl) rfl (by show 2 * 0 + _ ≤ _; exact Nat.le_of_eq rfl) (hb hby at_117) (fun _ _ => ⟨rfl, rfl, (by decide : 2 + 0 ≤ _), (by decide : 6 + 0 ≤ _)⟩)
            dsimp only [Pt.U, Pt.locs, Pt.cells, Pt.slots] at X209 l209 y209 z209 st209 hQ209
            subst l209 y209 z209
            obtain ⟨nm_209, w0_209, w1_209, w2_209, w3_209, rfl, N209q, K209q, c209_0, c209_1, c209_2, c209_3, c209_4, c209_5, c209_6, c209_7, c209_8⟩ := hQ209
            have N209 := Fr.app N204 N209q
            obtain ⟨J209, X209, N209⟩ := own_hide X209 N209
            have f209_0 := c204_0.keep K209q
            have K209 : Keep h0 T209.heap [] := K204.trans K209q (allS (Or.inr sz_b188) (allS (Or.inr sz_b_189) all0))
            have Z209 : n0 ≤ T209.heap.size := Nat.le_trans Z0 K209.1
            refine own_Go.of (g' := (mkF m 120 #[.val (.int x0), .val (.int x1), .val (.int x2), .val (.int x3), .val (.int x4), .val (.int (4 : Int32)), .val (.int nv), .val (.double (own_D 8 q1)), .second, .val (.double (own_D 8 q2)), .second, .val (.double (own_D 8 q3)), .second, .val (.double (own_D 8 q4)), .second, .val (.ref b188), .unset, .unset] [])) (fun t k => st209.trans k) ?_
            obtain ⟨hl4, hs4⟩ := own_inv4 (M := 16777216) ⟨a_q4, z_q4⟩ hl3 hs3 c209_4 c209_5 c209_6 c209_7 c209_8
            have hs4 : nm_209 + w0_209 + w1_209 + w2_209 + w3_209 = 4294967296 := hs4
            have FM4 : Fld Z T209.heap b188 "com/example/paranhos/paranhos/MatchRuns" "matched" "D" (.double (own_D 32 nm_209)) := c209_2
            have VM4 : Arv Z T209.heap b_189 kk_189 .double (4 : Int32) [(.double (own_D 32 w0_209)), (.double (own_D 32 w1_209)), (.double (own_D 32 w2_209)), (.double (own_D 32 w3_209))] (.double (0 : UInt64)) := c209_3
            refine og_iload (pc' := 122) X209 hx (hb hby at_120) rfl rfl ?_
            refine og_iconst (pc' := 123) (n := 1) X209 hx (hb hby at_122) rfl rfl ?_
            refine og_icmpYes (pc' := 152) X209 hx (hb hby at_123) (feq (by decide)).2 (by decide) (by decide) ?_
            refine og_iload (pc' := 154) X209 hx (hb hby at_152) rfl rfl ?_
            refine og_iconst (pc' := 155) (n := 2) X209 hx (hb hby at_154) rfl rfl ?_
            refine og_icmpYes (pc' := 198) X209 hx (hb hby at_155) (feq (by decide)).2 (by decide) (by decide) ?_
            refine og_iload (pc' := 200) X209 hx (hb hby at_198) rfl rfl ?_
            refine og_iconst (pc' := 201) (n := 3) X209 hx (hb hby at_200) rfl rfl ?_
            refine og_icmpYes (pc' := 238) X209 hx (hb hby at_201) (feq (by decide)).2 (by decide) (by decide) ?_
            refine og_iload (pc' := 240) X209 hx (hb hby at_238) rfl rfl ?_
            refine og_iconst (pc' := 241) (n := 4) X209 hx (hb hby at_240) rfl rfl ?_
            refine og_icmpNo (pc' := 244) X209 hx (hb hby at_241) (teq (by decide)).2 rfl ?_
            refine og_dload (pc' := 246) X209 hx (hb hby at_244) rfl rfl ?_
            refine og_dload (pc' := 248) X209 hx (hb hby at_246) rfl rfl ?_
            obtain ⟨u210, hu210⟩ : ∃ q : Int, q = (q1 * q2) := ⟨_, rfl⟩
            have a210 : 0 ≤ u210 := by rw [hu210]; exact Int.mul_nonneg (by omega) (by omega)
            have z210 : u210 ≤ 65536 := by rw [hu210]; exact Int.le_trans (Int.mul_le_mul z_q1 z_q2 (by omega) (by omega)) (by decide)
            have x210 : FP.dmul (own_D 8 q1) (own_D 8 q2) = own_D 16 u210 := own_xmul rfl rfl hu210.symm rfl (by omega) (by omega) (by omega) (by omega) (by omega) (by omega)
            refine og_dmul (pc' := 249) X209 hx (hb hby at_248) (own_nnx x210 (by omega) (by omega)) x210 rfl ?_
            refine og_dload (pc' := 251) X209 hx (hb hby at_249) rfl rfl ?_
            obtain ⟨u211, hu211⟩ : ∃ q : Int, q = (u210 * q3) := ⟨_, rfl⟩
            have a211 : 0 ≤ u211 := by rw [hu211]; exact Int.mul_nonneg (by omega) (by omega)
            have z211 : u211 ≤ 16777216 := by rw [hu211]; exact Int.le_trans (Int.mul_le_mul z210 z_q3 (by omega) (by omega)) (by decide)
            have x211 : FP.dmul (own_D 16 u210) (own_D 8 q3) = own_D 24 u211 := own_xmul rfl rfl hu211.symm rfl (by omega) (by omega) (by omega) (by omega) (by omega) (by omega)
            refine og_dmul (pc' := 252) X209 hx (hb hby at_251) (own_nnx x211 (by omega) (by omega)) x211 rfl ?_
            refine og_dload (pc' := 254) X209 hx (hb hby at_252) rfl rfl ?_
            obtain ⟨u212, hu212⟩ : ∃ q : Int, q = (u211 * q4) := ⟨_, rfl⟩
            have a212 : 0 ≤ u212 := by rw [hu212]; exact Int.mul_nonneg (by omega) (by omega)
            have z212 : u212 ≤ 4294967296 := by rw [hu212]; exact Int.le_trans (Int.mul_le_mul z211 z_q4 (by omega) (by omega)) (by decide)
            have x212 : FP.dmul (own_D 24 u211) (own_D 8 q4) = own_D 32 u212 := own_xmul rfl rfl hu212.symm rfl (by omega) (by omega) (by omega) (by omega) (by omega) (by omega)
            refine og_dmul (pc' := 255) X209 hx (hb hby at_254) (own_nnx x212 (by omega) (by omega)) x212 rfl ?_
            refine og_dstore (pc' := 257) (L' := #[.val (.int x0), .val (.int x1), .val (.int x2), .val (.int x3), .val (.int x4), .val (.int (4 : Int32)), .val (.int nv), .val (.double (own_D 8 q1)), .second, .val (.double (own_D 8 q2)), .second, .val (.double (own_D 8 q3)), .second, .val (.double (own_D 8 q4)), .second, .val (.ref b188), .val (.double (own_D 32 u212)), .second]) X209 hx (hb hby at_255) rfl rfl ?_
            refine og_goto (pc' := 263) X209 hx (hb hby at_257) (by decide) (by decide) ?_
            refine og_aload (pc' := 265) X209 hx (hb hby at_263) rfl rfl rfl ?_
            obtain ⟨cq213, kq213, q213a, q213b, q213c⟩ := isOf hZ rfl c209_0
            obtain ⟨_, _, ⟨T213, L213, k213, n213⟩, -, X213, ⟨Lc213, hQ213, l213, y213, z213⟩, st213⟩ := X209.virtualBack hx (y := (⟨"com/example/paranhos/paranhos/MatchRuns", "matched", "()D"⟩ : MethodName)) (z := (⟨"com/example/paranhos/paranhos/MatchRuns", "matched", "()D"⟩ : MethodName)) hown (mvT hZ (hw _ (List.mem_of_getElem? (i := 16) rfl))) (mvT hZ (hw _ (List.mem_of_getElem? (i := 17) rfl))) (notFace_of_selects (args := #[]) (mvT hZ (hw _ (List.mem_of_getElem? (i := 19) rfl)))) (mvT hZ (hw _ (List.mem_of_getElem? (i := 19) rfl))) (mvT hZ (hw _ (List.mem_of_getElem? (i := 18) rfl))) (by decide) (backOf (W := 0) (rmmat l Z a0 hw [] b188 (own_D 32 nm_209) T209.heap n0 Z209 FM4) hZ (hw _ (List.mem_of_getElem? (i := 20) rfl)) (hw _ (List.mem_of_getElem? (i := 6) rfl)) (by decide) (by decide)) q213a q213c (g := (mkF m 265 #[.val (.int x0), .val (.int x1), .val (.int x2), .val (.int x3), .val (.int x4), .val (.int (4 : Int32)), .val (.int nv), .val (.double (own_D 8 q1)), .second, .val (.double (own_D 8 q2)), .second, .val (.double (own_D 8 q3)), .second, .val (.double (own_D 8 q4)), .second, .val (.ref b188), .val (.double (own_D 32 u212)), .second] [(.ref b188)])) rfl (by rw [hml]; rfl) (Steps.refl _) (argsL := []) (rest := []) (lenOf pd_2 rfl) rfl (by show 2 * 0 + _ ≤ _; exact Nat.le_of_eq rfl) (hb hby at_265) (fun _ _ => ⟨rfl, rfl, (by decide : 2 + 0 ≤ _), (by decide : 6 + 0 ≤ _)⟩)
            dsimp only [Pt.U, Pt.locs, Pt.cells, Pt.slots] at X213 l213 y213 z213 st213 hQ213
            subst l213 y213 z213
            obtain ⟨rfl, N213q, e213⟩ := hQ213
            have N213 := Fr.app N209 N213q
            obtain ⟨J213, X213, N213⟩ := own_hide X213 N213
            refine own_Go.of (g' := (mkF m 268 #[.val (.int x0), .val (.int x1), .val (.int x2), .val (.int x3), .val (.int x4), .val (.int (4 : Int32)), .val (.int nv), .val (.double (own_D 8 q1)), .second, .val (.double (own_D 8 q2)), .second, .val (.double (own_D 8 q3)), .second, .val (.double (own_D 8 q4)), .second, .val (.ref b188), .val (.double (own_D 32 u212)), .second] [(.double (own_D 32 nm_209))])) (fun t k => st213.trans k) ?_
            refine og_dload (pc' := 270) X213 hx (hb hby at_268) rfl rfl ?_
            have hcmp : cmpValue (FP.dcmp (own_D 32 nm_209) (own_D 32 u212)) .l = 0 := own_cmpE (own_res0 32 nm_209) (own_res0 32 u212) (by first | (simp only [c194_4, c194_5, c194_6, c194_7, c194_8, c199_4, c199_5, c199_6, c199_7, c199_8, c204_4, c204_5, c204_6, c204_7, c204_8, c209_4, c209_5, c209_6, c209_7, c209_8, hu210, hu211, hu212]; done) | (simp only [c194_4, c194_5, c194_6, c194_7, c194_8, c199_4, c199_5, c199_6, c199_7, c199_8, c204_4, c204_5, c204_6, c204_7, c204_8, c209_4, c209_5, c209_6, c209_7, c209_8, hu210, hu211, hu212]; grind) | decide) (by decide) (by omega)
            refine og_dcmp (pc' := 271) X213 hx (hb hby at_270) hcmp rfl ?_
            refine og_ifNo (pc' := 274) X213 hx (hb hby at_271) ((if0 _ _).trans (teq (by decide)).2) rfl ?_
            refine og_iconst (pc' := 275) (n := 1) X213 hx (hb hby at_274) rfl rfl ?_
            refine og_goto (pc' := 279) X213 hx (hb hby at_275) (by decide) (by decide) ?_
            obtain ⟨fs, hr, hrun, hended, hW, hsame⟩ := X213.leave (v := some (.int (1 : Int32))) (fun h => by rw [Bd.returns] at h; cases h) (BodyLoose.notSynchronized Bd)
            refine ⟨_, _, retN X213 hx (t := .boolean) Bd.returns (by simp) (hb hby at_279) hr, hrun, hended, some (.int (1 : Int32)), _, rfl, ?_, ⟨_, rfl⟩, hW, hsame.mono (by decide) (by decide)⟩
            show Q0 Z x0 x1 x2 x3 x4 h0 n0 _ T213.heap _
            rw [e213]
            exact ⟨rfl, N213⟩
  · rw [ek]
    obtain ⟨T214, h214, X214, e214, E214, A214, D214, -, st214⟩ := newO X4 hx hZ hown (hw _ (List.mem_of_getElem? (i := 4) rfl)) (hw _ (List.mem_of_getElem? (i := 5) rfl)) (hw _ (List.mem_of_getElem? (i := 6) rfl)) e4 (g := (mkF m 57 #[.val (.int x0), .val (.int x1), .val (.int x2), .val (.int x3), .val (.int x4), .val (.int (5 : Int32)), .val (.int nv), .val (.double (own_D 8 q1)), .second, .val (.double (own_D 8 q2)), .second, .val (.double (own_D 8 q3)), .second, .val (.double (own_D 8 q4)), .second, .unset, .unset, .unset] [])) rfl (hb hby at_57) (by decide) (by decide)
    obtain ⟨b214, g214⟩ : ∃ z, z = h0.size := ⟨_, rfl⟩
    rw [← g214] at A214 D214 st214
    have g_b214 : n0 ≤ b214 := Nat.le_trans Z0 (Nat.le_of_eq g214.symm)
    have sz_b214 : h0.size ≤ b214 := Nat.le_trans (Keep.refl h0 []).1 (Nat.le_of_eq g214.symm)
    have F214_run : Fld Z h214 b214 "com/example/paranhos/paranhos/MatchRuns" "run" "[D" .null := D214 (Or.inr (hw _ (List.mem_of_getElem? (i := 15) rfl))) (ty := (.array .double)) (by decide)
    have F214_matched : Fld Z h214 b214 "com/example/paranhos/paranhos/MatchRuns" "matched" "D" (.double (0 : UInt64)) := D214 (Or.inl (hw _ (List.mem_of_getElem? (i := 22) rfl))) (ty := .double) (by decide)
    have K214 : Keep h0 h214 [] := (Keep.refl h0 []).ext E214
    have Z214 : n0 ≤ h214.size := Nat.le_trans Z0 K214.1
    refine own_Go.of (g' := (mkF m 60 #[.val (.int x0), .val (.int x1), .val (.int x2), .val (.int x3), .val (.int x4), .val (.int (5 : Int32)), .val (.int nv), .val (.double (own_D 8 q1)), .second, .val (.double (own_D 8 q2)), .second, .val (.double (own_D 8 q3)), .second, .val (.double (own_D 8 q4)), .second, .unset, .unset, .unset] [(.ref b214)])) (fun t k => st214 _ k) ?_
    refine og_dup (pc' := 61) X214 hx (hb hby at_60) rfl rfl ?_
    refine og_iload (pc' := 63) X214 hx (hb hby at_61) rfl rfl ?_
    obtain ⟨_, _, ⟨T215, L215, k215, n215⟩, -, X215, ⟨Lc215, hQ215, l215, y215, z215⟩, st215⟩ := X214.specialBack hx (y := (⟨"com/example/paranhos/paranhos/MatchRuns", "<init>", "(I)V"⟩ : MethodName)) rfl hown (mvT hZ (hw _ (List.mem_of_getElem? (i := 7) rfl))) (mvT hZ (hw _ (List.mem_of_getElem? (i := 8) rfl))) (mvT hZ (hw _ (List.mem_of_getElem? (i := 9) rfl))) (by decide) (backOf (W := 1) (rmini5 l Z a0 hw [] b214 .null h214 n0 Z214 A214 F214_run F214_matched g_b214) hZ (hw _ (List.mem_of_getElem? (i := 9) rfl)) (hw _ (List.mem_of_getElem? (i := 6) rfl)) (by decide) (by decide)) (g := (mkF m 63 #[.val (.int x0), .val (.int x1), .val (.int x2), .val (.int x3), .val (.int x4), .val (.int (5 : Int32)), .val (.int nv), .val (.double (own_D 8 q1)), .second, .val (.double (own_D 8 q2)), .second, .val (.double (own_D 8 q3)), .second, .val (.double (own_D 8 q4)), .second, .unset, .unset, .unset] [(.int (5 : Int32)), (.ref b214), (.ref b214)])) rfl (by rw [hml]; rfl) (Steps.refl _) (a := b214) (argsL := [(.int (5 : Int32))]) (rest := [(.ref b214)]) (lenOf pd_1 rfl) rfl (by show 2 * 0 + _ ≤ _; exact Nat.le_of_eq rfl) (hb hby at_63) (fun _ _ => ⟨rfl, e214, (by decide : 1 + 1 ≤ _), (by decide : 2 + 5 ≤ _)⟩)
    dsimp only [Pt.U, Pt.locs, Pt.cells, Pt.slots] at X215 l215 y215 z215 st215 hQ215
    subst l215 y215 z215
    obtain ⟨b_215, kk_215, rfl, N215q, K215q, zz215_b, c215_0, c215_1, c215_2, c215_3⟩ := hQ215
    have N215 := Fr.app N4 N215q
    obtain ⟨J215, X215, N215⟩ := own_hide X215 N215
    have g_b_215 : n0 ≤ b_215 := Nat.le_trans Z214 zz215_b
    have sz_b_215 : h0.size ≤ b_215 := Nat.le_trans K214.1 zz215_b
    have ne215_0 : b214 ≠ b_215 := Nat.ne_of_lt (Nat.lt_of_lt_of_le A214.lt zz215_b)
    have f215_0 := A214.keep K215q
    have K215 : Keep h0 T215.heap [] := K214.trans K215q (allS (Or.inr sz_b214) all0)
    have Z215 : n0 ≤ T215.heap.size := Nat.le_trans Z0 K215.1
    refine own_Go.of (g' := (mkF m 66 #[.val (.int x0), .val (.int x1), .val (.int x2), .val (.int x3), .val (.int x4), .val (.int (5 : Int32)), .val (.int nv), .val (.double (own_D 8 q1)), .second, .val (.double (own_D 8 q2)), .second, .val (.double (own_D 8 q3)), .second, .val (.double (own_D 8 q4)), .second, .unset, .unset, .unset] [(.ref b214)])) (fun t k => st215.trans k) ?_
    have FM0 : Fld Z T215.heap b214 "com/example/paranhos/paranhos/MatchRuns" "matched" "D" (.double (own_D 0 0)) := by rw [own_z0]; exact c215_2
    have VM0 : Arv Z T215.heap b_215 kk_215 .double (5 : Int32) [(.double (own_D 0 1)), (.double (own_D 0 0)), (.double (own_D 0 0)), (.double (own_D 0 0)), (.double (own_D 0 0))] (.double (0 : UInt64)) := by rw [own_z0]; exact c215_3
    have hl0 : (0 : Int) ≤ 0 ∧ (0 : Int) ≤ 1 ∧ (0 : Int) ≤ 0 ∧ (0 : Int) ≤ 0 ∧ (0 : Int) ≤ 0 ∧ (0 : Int) ≤ 0 := ⟨by decide, by decide, by decide, by decide, by decide, by decide⟩
    have hs0 : (0 + 1 + 0 + 0 + 0 + 0 : Int) = 1 := by decide
    refine og_astore (pc' := 68) (L' := #[.val (.int x0), .val (.int x1), .val (.int x2), .val (.int x3), .val (.int x4), .val (.int (5 : Int32)), .val (.int nv), .val (.double (own_D 8 q1)), .second, .val (.double (own_D 8 q2)), .second, .val (.double (own_D 8 q3)), .second, .val (.double (own_D 8 q4)), .second, .val (.ref b214), .unset, .unset]) X215 hx (hb hby at_66) rfl rfl rfl ?_
    refine og_iload (pc' := 70) X215 hx (hb hby at_68) rfl rfl ?_
    refine og_iconst (pc' := 71) (n := 1) X215 hx (hb hby at_70) rfl rfl ?_
    by_cases hc71_17 : nv < (1 : Int32)
    · refine og_icmpYes (pc' := 81) X215 hx (hb hby at_71) (tlt hc71_17).1 (by decide) (by decide) ?_
      refine og_iload (pc' := 83) X215 hx (hb hby at_81) rfl rfl ?_
      refine og_iconst (pc' := 84) (n := 2) X215 hx (hb hby at_83) rfl rfl ?_
      refine og_icmpYes (pc' := 94) X215 hx (hb hby at_84) (tlt (own_ltt hc71_17 (by decide))).1 (by decide) (by decide) ?_
      refine og_iload (pc' := 96) X215 hx (hb hby at_94) rfl rfl ?_
      refine og_iconst (pc' := 97) (n := 3) X215 hx (hb hby at_96) rfl rfl ?_
      refine og_icmpYes (pc' := 107) X215 hx (hb hby at_97) (tlt (own_ltt hc71_17 (by decide))).1 (by decide) (by decide) ?_
      refine og_iload (pc' := 109) X215 hx (hb hby at_107) rfl rfl ?_
      refine og_iconst (pc' := 110) (n := 4) X215 hx (hb hby at_109) rfl rfl ?_
      refine og_icmpYes (pc' := 120) X215 hx (hb hby at_110) (tlt (own_ltt hc71_17 (by decide))).1 (by decide) (by decide) ?_
      have hq1 : q1 = 0 := hq1.trans (if_pos hc71_17)
      have hq2 : q2 = 0 := hq2.trans (if_pos (own_ltt hc71_17 (by decide)))
      have hq3 : q3 = 0 := hq3.trans (if_pos (own_ltt hc71_17 (by decide)))
      have hq4 : q4 = 0 := hq4.trans (if_pos (own_ltt hc71_17 (by decide)))
      refine og_iload (pc' := 122) X215 hx (hb hby at_120) rfl rfl ?_
      refine og_iconst (pc' := 123) (n := 1) X215 hx (hb hby at_122) rfl rfl ?_
      refine og_icmpYes (pc' := 152) X215 hx (hb hby at_123) (feq (by decide)).2 (by decide) (by decide) ?_
      refine og_iload (pc' := 154) X215 hx (hb hby at_152) rfl rfl ?_
      refine og_iconst (pc' := 155) (n := 2) X215 hx (hb hby at_154) rfl rfl ?_
      refine og_icmpYes (pc' := 198) X215 hx (hb hby at_155) (feq (by decide)).2 (by decide) (by decide) ?_
      refine og_iload (pc' := 200) X215 hx (hb hby at_198) rfl rfl ?_
      refine og_iconst (pc' := 201) (n := 3) X215 hx (hb hby at_200) rfl rfl ?_
      refine og_icmpYes (pc' := 238) X215 hx (hb hby at_201) (feq (by decide)).2 (by decide) (by decide) ?_
      refine og_iload (pc' := 240) X215 hx (hb hby at_238) rfl rfl ?_
      refine og_iconst (pc' := 241) (n := 4) X215 hx (hb hby at_240) rfl rfl ?_
      refine og_icmpYes (pc' := 260) X215 hx (hb hby at_241) (feq (by decide)).2 (by decide) (by decide) ?_
      refine og_dconst0 (pc' := 261) X215 hx (hb hby at_260) own_z8 rfl ?_
      refine og_dstore (pc' := 263) (L' := #[.val (.int x0), .val (.int x1), .val (.int x2), .val (.int x3), .val (.int x4), .val (.int (5 : Int32)), .val (.int nv), .val (.double (own_D 8 q1)), .second, .val (.double (own_D 8 q2)), .second, .val (.double (own_D 8 q3)), .second, .val (.double (own_D 8 q4)), .second, .val (.ref b214), .val (.double (own_D 8 0)), .second]) X215 hx (hb hby at_261) rfl rfl ?_
      refine og_aload (pc' := 265) X215 hx (hb hby at_263) rfl rfl rfl ?_
      obtain ⟨cq216, kq216, q216a, q216b, q216c⟩ := isOf hZ rfl c215_0
      obtain ⟨_, _, ⟨T216, L216, k216, n216⟩, -, X216, ⟨Lc216, hQ216, l216, y216, z216⟩, st216⟩ := X215.virtualBack hx (y := (⟨"com/example/paranhos/paranhos/MatchRuns", "matched", "()D"⟩ : MethodName)) (z := (⟨"com/example/paranhos/paranhos/MatchRuns", "matched", "()D"⟩ : MethodName)) hown (mvT hZ (hw _ (List.mem_of_getElem? (i := 16) rfl))) (mvT hZ (hw _ (List.mem_of_getElem? (i := 17) rfl))) (notFace_of_selects (args := #[]) (mvT hZ (hw _ (List.mem_of_getElem? (i := 19) rfl)))) (mvT hZ (hw _ (List.mem_of_getElem? (i := 19) rfl))) (mvT hZ (hw _ (List.mem_of_getElem? (i := 18) rfl))) (by decide) (backOf (W := 0) (rmmat l Z a0 hw [] b214 (own_D 0 0) T215.heap n0 Z215 FM0) hZ (hw _ (List.mem_of_getElem? (i := 20) rfl)) (hw _ (List.mem_of_getElem? (i := 6) rfl)) (by decide) (by decide)) q216a q216c (g := (mkF m 265 #[.val (.int x0), .val (.int x1), .val (.int x2), .val (.int x3), .val (.int x4), .val (.int (5 : Int32)), .val (.int nv), .val (.double (own_D 8 q1)), .second, .val (.double (own_D 8 q2)), .second, .val (.double (own_D 8 q3)), .second, .val (.double (own_D 8 q4)), .second, .val (.ref b214), .val (.double (own_D 8 0)), .second] [(.ref b214)])) rfl (by rw [hml]; rfl) (Steps.refl _) (argsL := []) (rest := []) (lenOf pd_2 rfl) rfl (by show 2 * 0 + _ ≤ _; exact Nat.le_of_eq rfl) (hb hby at_265) (fun _ _ => ⟨rfl, rfl, (by decide : 2 + 0 ≤ _), (by decide : 7 + 0 ≤ _)⟩)
      dsimp only [Pt.U, Pt.locs, Pt.cells, Pt.slots] at X216 l216 y216 z216 st216 hQ216
      subst l216 y216 z216
      obtain ⟨rfl, N216q, e216⟩ := hQ216
      have N216 := Fr.app N215 N216q
      obtain ⟨J216, X216, N216⟩ := own_hide X216 N216
      refine own_Go.of (g' := (mkF m 268 #[.val (.int x0), .val (.int x1), .val (.int x2), .val (.int x3), .val (.int x4), .val (.int (5 : Int32)), .val (.int nv), .val (.double (own_D 8 q1)), .second, .val (.double (own_D 8 q2)), .second, .val (.double (own_D 8 q3)), .second, .val (.double (own_D 8 q4)), .second, .val (.ref b214), .val (.double (own_D 8 0)), .second] [(.double (own_D 0 0))])) (fun t k => st216.trans k) ?_
      refine og_dload (pc' := 270) X216 hx (hb hby at_268) rfl rfl ?_
      have hcmp : cmpValue (FP.dcmp (own_D 0 0) (own_D 8 0)) .l = 0 := own_cmpE (own_res1 0 0) (own_res0 8 0) (by first | (simp only [hq1, hq2, hq3, hq4]; done) | (simp only [hq1, hq2, hq3, hq4]; grind) | decide) (by decide) (by omega)
      refine og_dcmp (pc' := 271) X216 hx (hb hby at_270) hcmp rfl ?_
      refine og_ifNo (pc' := 274) X216 hx (hb hby at_271) ((if0 _ _).trans (teq (by decide)).2) rfl ?_
      refine og_iconst (pc' := 275) (n := 1) X216 hx (hb hby at_274) rfl rfl ?_
      refine og_goto (pc' := 279) X216 hx (hb hby at_275) (by decide) (by decide) ?_
      obtain ⟨fs, hr, hrun, hended, hW, hsame⟩ := X216.leave (v := some (.int (1 : Int32))) (fun h => by rw [Bd.returns] at h; cases h) (BodyLoose.notSynchronized Bd)
      refine ⟨_, _, retN X216 hx (t := .boolean) Bd.returns (by simp) (hb hby at_279) hr, hrun, hended, some (.int (1 : Int32)), _, rfl, ?_, ⟨_, rfl⟩, hW, hsame.mono (by decide) (by decide)⟩
      show Q0 Z x0 x1 x2 x3 x4 h0 n0 _ T216.heap _
      rw [e216]
      exact ⟨rfl, N216⟩
    · refine og_icmpNo (pc' := 74) X215 hx (hb hby at_71) (flt hc71_17).1 rfl ?_
      refine og_aload (pc' := 76) X215 hx (hb hby at_74) rfl rfl rfl ?_
      refine og_dload (pc' := 78) X215 hx (hb hby at_76) rfl rfl ?_
      obtain ⟨cq217, kq217, q217a, q217b, q217c⟩ := isOf hZ rfl c215_0
      obtain ⟨_, _, ⟨T217, L217, k217, n217⟩, -, X217, ⟨Lc217, hQ217, l217, y217, z217⟩, st217⟩ := X215.virtualBack hx (y := (⟨"com/example/paranhos/paranhos/MatchRuns", "add", "(D)V"⟩ : MethodName)) (z := (⟨"com/example/paranhos/paranhos/MatchRuns", "add", "(D)V"⟩ : MethodName)) hown (mvT hZ (hw _ (List.mem_of_getElem? (i := 24) rfl))) (mvT hZ (hw _ (List.mem_of_getElem? (i := 25) rfl))) (notFace_of_selects (args := #[]) (mvT hZ (hw _ (List.mem_of_getElem? (i := 27) rfl)))) (mvT hZ (hw _ (List.mem_of_getElem? (i := 27) rfl))) (mvT hZ (hw _ (List.mem_of_getElem? (i := 26) rfl))) (by decide) (backOf (W := 0) (rmadd5 l Z a0 hw [] b214 (own_D 8 q1) b_215 kk_215 0 1 q1 0 1 0 0 0 0 T215.heap n0 Z215 c215_0 c215_1 FM0 VM0 g_b214 g_b_215 ne215_0 rfl ⟨a_q1, z_q1⟩ hl0 hs0 ⟨by decide, by decide, own_o0⟩) hZ (hw _ (List.mem_of_getElem? (i := 28) rfl)) (hw _ (List.mem_of_getElem? (i := 6) rfl)) (by decide) (by decide)) q217a q217c (g := (mkF m 78 #[.val (.int x0), .val (.int x1), .val (.int x2), .val (.int x3), .val (.int x4), .val (.int (5 : Int32)), .val (.int nv), .val (.double (own_D 8 q1)), .second, .val (.double (own_D 8 q2)), .second, .val (.double (own_D 8 q3)), .second, .val (.double (own_D 8 q4)), .second, .val (.ref b214), .unset, .unset] [(.double (own_D 8 q1)), (.ref b214)])) rfl (by rw [hml]; rfl) (Steps.refl _) (argsL := [(.double (own_D 8 q1))]) (rest := []) (lenOf pd_3 rfl) rfl (by show 2 * 0 + _ ≤ _; exact Nat.le_of_eq rfl) (hb hby at_78) (fun _ _ => ⟨rfl, rfl, (by decide : 2 + 0 ≤ _), (by decide : 7 + 0 ≤ _)⟩)
      dsimp only [Pt.U, Pt.locs, Pt.cells, Pt.slots] at X217 l217 y217 z217 st217 hQ217
      subst l217 y217 z217
      obtain ⟨nm_217, w0_217, w1_217, w2_217, w3_217, w4_217, rfl, N217q, K217q, c217_0, c217_1, c217_2, c217_3, c217_4, c217_5, c217_6, c217_7, c217_8, c217_9⟩ := hQ217
      have N217 := Fr.app N215 N217q
      obtain ⟨J217, X217, N217⟩ := own_hide X217 N217
      have f217_0 := c215_0.keep K217q
      have K217 : Keep h0 T217.heap [] := K215.trans K217q (allS (Or.inr sz_b214) (allS (Or.inr sz_b_215) all0))
      have Z217 : n0 ≤ T217.heap.size := Nat.le_trans Z0 K217.1
      refine own_Go.of (g' := (mkF m 81 #[.val (.int x0), .val (.int x1), .val (.int x2), .val (.int x3), .val (.int x4), .val (.int (5 : Int32)), .val (.int nv), .val (.double (own_D 8 q1)), .second, .val (.double (own_D 8 q2)), .second, .val (.double (own_D 8 q3)), .second, .val (.double (own_D 8 q4)), .second, .val (.ref b214), .unset, .unset] [])) (fun t k => st217.trans k) ?_
      obtain ⟨hl1, hs1⟩ := own_inv5 (M := 1) ⟨a_q1, z_q1⟩ hl0 hs0 c217_4 c217_5 c217_6 c217_7 c217_8 c217_9
      have hs1 : nm_217 + w0_217 + w1_217 + w2_217 + w3_217 + w4_217 = 256 := hs1
      have FM1 : Fld Z T217.heap b214 "com/example/paranhos/paranhos/MatchRuns" "matched" "D" (.double (own_D 8 nm_217)) := c217_2
      have VM1 : Arv Z T217.heap b_215 kk_215 .double (5 : Int32) [(.double (own_D 8 w0_217)), (.double (own_D 8 w1_217)), (.double (own_D 8 w2_217)), (.double (own_D 8 w3_217)), (.double (own_D 8 w4_217))] (.double (0 : UInt64)) := c217_3
      refine og_iload (pc' := 83) X217 hx (hb hby at_81) rfl rfl ?_
      refine og_iconst (pc' := 84) (n := 2) X217 hx (hb hby at_83) rfl rfl ?_
      by_cases hc84_18 : nv < (2 : Int32)
      · refine og_icmpYes (pc' := 94) X217 hx (hb hby at_84) (tlt hc84_18).1 (by decide) (by decide) ?_
        refine og_iload (pc' := 96) X217 hx (hb hby at_94) rfl rfl ?_
        refine og_iconst (pc' := 97) (n := 3) X217 hx (hb hby at_96) rfl rfl ?_
        refine og_icmpYes (pc' := 107) X217 hx (hb hby at_97) (tlt (own_ltt hc84_18 (by decide))).1 (by decide) (by decide) ?_
        refine og_iload (pc' := 109) X217 hx (hb hby at_107) rfl rfl ?_
        refine og_iconst (pc' := 110) (n := 4) X217 hx (hb hby at_109) rfl rfl ?_
        refine og_icmpYes (pc' := 120) X217 hx (hb hby at_110) (tlt (own_ltt hc84_18 (by decide))).1 (by decide) (by decide) ?_
        have hq2 : q2 = 0 := hq2.trans (if_pos hc84_18)
        have hq3 : q3 = 0 := hq3.trans (if_pos (own_ltt hc84_18 (by decide)))
        have hq4 : q4 = 0 := hq4.trans (if_pos (own_ltt hc84_18 (by decide)))
        refine og_iload (pc' := 122) X217 hx (hb hby at_120) rfl rfl ?_
        refine og_iconst (pc' := 123) (n := 1) X217 hx (hb hby at_122) rfl rfl ?_
        refine og_icmpYes (pc' := 152) X217 hx (hb hby at_123) (feq (by decide)).2 (by decide) (by decide) ?_
        refine og_iload (pc' := 154) X217 hx (hb hby at_152) rfl rfl ?_
        refine og_iconst (pc' := 155) (n := 2) X217 hx (hb hby at_154) rfl rfl ?_
        refine og_icmpYes (pc' := 198) X217 hx (hb hby at_155) (feq (by decide)).2 (by decide) (by decide) ?_
        refine og_iload (pc' := 200) X217 hx (hb hby at_198) rfl rfl ?_
        refine og_iconst (pc' := 201) (n := 3) X217 hx (hb hby at_200) rfl rfl ?_
        refine og_icmpYes (pc' := 238) X217 hx (hb hby at_201) (feq (by decide)).2 (by decide) (by decide) ?_
        refine og_iload (pc' := 240) X217 hx (hb hby at_238) rfl rfl ?_
        refine og_iconst (pc' := 241) (n := 4) X217 hx (hb hby at_240) rfl rfl ?_
        refine og_icmpYes (pc' := 260) X217 hx (hb hby at_241) (feq (by decide)).2 (by decide) (by decide) ?_
        refine og_dconst0 (pc' := 261) X217 hx (hb hby at_260) own_z8 rfl ?_
        refine og_dstore (pc' := 263) (L' := #[.val (.int x0), .val (.int x1), .val (.int x2), .val (.int x3), .val (.int x4), .val (.int (5 : Int32)), .val (.int nv), .val (.double (own_D 8 q1)), .second, .val (.double (own_D 8 q2)), .second, .val (.double (own_D 8 q3)), .second, .val (.double (own_D 8 q4)), .second, .val (.ref b214), .val (.double (own_D 8 0)), .second]) X217 hx (hb hby at_261) rfl rfl ?_
        refine og_aload (pc' := 265) X217 hx (hb hby at_263) rfl rfl rfl ?_
        obtain ⟨cq218, kq218, q218a, q218b, q218c⟩ := isOf hZ rfl c217_0
        obtain ⟨_, _, ⟨T218, L218, k218, n218⟩, -, X218, ⟨Lc218, hQ218, l218, y218, z218⟩, st218⟩ := X217.virtualBack hx (y := (⟨"com/example/paranhos/paranhos/MatchRuns", "matched", "()D"⟩ : MethodName)) (z := (⟨"com/example/paranhos/paranhos/MatchRuns", "matched", "()D"⟩ : MethodName)) hown (mvT hZ (hw _ (List.mem_of_getElem? (i := 16) rfl))) (mvT hZ (hw _ (List.mem_of_getElem? (i := 17) rfl))) (notFace_of_selects (args := #[]) (mvT hZ (hw _ (List.mem_of_getElem? (i := 19) rfl)))) (mvT hZ (hw _ (List.mem_of_getElem? (i := 19) rfl))) (mvT hZ (hw _ (List.mem_of_getElem? (i := 18) rfl))) (by decide) (backOf (W := 0) (rmmat l Z a0 hw [] b214 (own_D 8 nm_217) T217.heap n0 Z217 FM1) hZ (hw _ (List.mem_of_getElem? (i := 20) rfl)) (hw _ (List.mem_of_getElem? (i := 6) rfl)) (by decide) (by decide)) q218a q218c (g := (mkF m 265 #[.val (.int x0), .val (.int x1), .val (.int x2), .val (.int x3), .val (.int x4), .val (.int (5 : Int32)), .val (.int nv), .val (.double (own_D 8 q1)), .second, .val (.double (own_D 8 q2)), .second, .val (.double (own_D 8 q3)), .second, .val (.double (own_D 8 q4)), .second, .val (.ref b214), .val (.double (own_D 8 0)), .second] [(.ref b214)])) rfl (by rw [hml]; rfl) (Steps.refl _) (argsL := []) (rest := []) (lenOf pd_2 rfl) rfl (by show 2 * 0 + _ ≤ _; exact Nat.le_of_eq rfl) (hb hby at_265) (fun _ _ => ⟨rfl, rfl, (by decide : 2 + 0 ≤ _), (by decide : 7 + 0 ≤ _)⟩)
        dsimp only [Pt.U, Pt.locs, Pt.cells, Pt.slots] at X218 l218 y218 z218 st218 hQ218
        subst l218 y218 z218
        obtain ⟨rfl, N218q, e218⟩ := hQ218
        have N218 := Fr.app N217 N218q
        obtain ⟨J218, X218, N218⟩ := own_hide X218 N218
        refine own_Go.of (g' := (mkF m 268 #[.val (.int x0), .val (.int x1), .val (.int x2), .val (.int x3), .val (.int x4), .val (.int (5 : Int32)), .val (.int nv), .val (.double (own_D 8 q1)), .second, .val (.double (own_D 8 q2)), .second, .val (.double (own_D 8 q3)), .second, .val (.double (own_D 8 q4)), .second, .val (.ref b214), .val (.double (own_D 8 0)), .second] [(.double (own_D 8 nm_217))])) (fun t k => st218.trans k) ?_
        refine og_dload (pc' := 270) X218 hx (hb hby at_268) rfl rfl ?_
        have hcmp : cmpValue (FP.dcmp (own_D 8 nm_217) (own_D 8 0)) .l = 0 := own_cmpE (own_res0 8 nm_217) (own_res0 8 0) (by first | (simp only [c217_4, c217_5, c217_6, c217_7, c217_8, c217_9, hq2, hq3, hq4]; done) | (simp only [c217_4, c217_5, c217_6, c217_7, c217_8, c217_9, hq2, hq3, hq4]; grind) | decide) (by decide) (by omega)
        refine og_dcmp (pc' := 271) X218 hx (hb hby at_270) hcmp rfl ?_
        refine og_ifNo (pc' := 274) X218 hx (hb hby at_271) ((if0 _ _).trans (teq (by decide)).2) rfl ?_
        refine og_iconst (pc' := 275) (n := 1) X218 hx (hb hby at_274) rfl rfl ?_
        refine og_goto (pc' := 279) X218 hx (hb hby at_275) (by decide) (by decide) ?_
        obtain ⟨fs, hr, hrun, hended, hW, hsame⟩ := X218.leave (v := some (.int (1 : Int32))) (fun h => by rw [Bd.returns] at h; cases h) (BodyLoose.notSynchronized Bd)
        refine ⟨_, _, retN X218 hx (t := .boolean) Bd.returns (by simp) (hb hby at_279) hr, hrun, hended, some (.int (1 : Int32)), _, rfl, ?_, ⟨_, rfl⟩, hW, hsame.mono (by decide) (by decide)⟩
        show Q0 Z x0 x1 x2 x3 x4 h0 n0 _ T218.heap _
        rw [e218]
        exact ⟨rfl, N218⟩
      · refine og_icmpNo (pc' := 87) X217 hx (hb hby at_84) (flt hc84_18).1 rfl ?_
        refine og_aload (pc' := 89) X217 hx (hb hby at_87) rfl rfl rfl ?_
        refine og_dload (pc' := 91) X217 hx (hb hby at_89) rfl rfl ?_
        obtain ⟨cq219, kq219, q219a, q219b, q219c⟩ := isOf hZ rfl c217_0
        obtain ⟨_, _, ⟨T219, L219, k219, n219⟩, -, X219, ⟨Lc219, hQ219, l219, y219, z219⟩, st219⟩ := X217.virtualBack hx (y := (⟨"com/example/paranhos/paranhos/MatchRuns", "add", "(D)V"⟩ : MethodName)) (z := (⟨"com/example/paranhos/paranhos/MatchRuns", "add", "(D)V"⟩ : MethodName)) hown (mvT hZ (hw _ (List.mem_of_getElem? (i := 24) rfl))) (mvT hZ (hw _ (List.mem_of_getElem? (i := 25) rfl))) (notFace_of_selects (args := #[]) (mvT hZ (hw _ (List.mem_of_getElem? (i := 27) rfl)))) (mvT hZ (hw _ (List.mem_of_getElem? (i := 27) rfl))) (mvT hZ (hw _ (List.mem_of_getElem? (i := 26) rfl))) (by decide) (backOf (W := 0) (rmadd5 l Z a0 hw [] b214 (own_D 8 q2) b_215 kk_215 8 256 q2 nm_217 w0_217 w1_217 w2_217 w3_217 w4_217 T217.heap n0 Z217 c217_0 c217_1 FM1 VM1 g_b214 g_b_215 ne215_0 rfl ⟨a_q2, z_q2⟩ hl1 hs1 ⟨by decide, by decide, own_o8⟩) hZ (hw _ (List.mem_of_getElem? (i := 28) rfl)) (hw _ (List.mem_of_getElem? (i := 6) rfl)) (by decide) (by decide)) q219a q219c (g := (mkF m 91 #[.val (.int x0), .val (.int x1), .val (.int x2), .val (.int x3), .val (.int x4), .val (.int (5 : Int32)), .val (.int nv), .val (.double (own_D 8 q1)), .second, .val (.double (own_D 8 q2)), .second, .val (.double (own_D 8 q3)), .second, .val (.double (own_D 8 q4)), .second, .val (.ref b214), .unset, .unset] [(.double (own_D 8 q2)), (.ref b214)])) rfl (by rw [hml]; rfl) (Steps.refl _) (argsL := [(.double (own_D 8 q2))]) (rest := []) (lenOf pd_3 rfl) rfl (by show 2 * 0 + _ ≤ _; exact Nat.le_of_eq rfl) (hb hby at_91) (fun _ _ => ⟨rfl, rfl, (by decide : 2 + 0 ≤ _), (by decide : 7 + 0 ≤ _)⟩)
        dsimp only [Pt.U, Pt.locs, Pt.cells, Pt.slots] at X219 l219 y219 z219 st219 hQ219
        subst l219 y219 z219
        obtain ⟨nm_219, w0_219, w1_219, w2_219, w3_219, w4_219, rfl, N219q, K219q, c219_0, c219_1, c219_2, c219_3, c219_4, c219_5, c219_6, c219_7, c219_8, c219_9⟩ := hQ219
        have N219 := Fr.app N217 N219q
        obtain ⟨J219, X219, N219⟩ := own_hide X219 N219
        have f219_0 := c217_0.keep K219q
        have K219 : Keep h0 T219.heap [] := K217.trans K219q (allS (Or.inr sz_b214) (allS (Or.inr sz_b_215) all0))
        have Z219 : n0 ≤ T219.heap.size := Nat.le_trans Z0 K219.1
        refine own_Go.of (g' := (mkF m 94 #[.val (.int x0), .val (.int x1), .val (.int x2), .val (.int x3), .val (.int x4), .val (.int (5 : Int32)), .val (.int nv), .val (.double (own_D 8 q1)), .second, .val (.double (own_D 8 q2)), .second, .val (.double (own_D 8 q3)), .second, .val (.double (own_D 8 q4)), .second, .val (.ref b214), .unset, .unset] [])) (fun t k => st219.trans k) ?_
        obtain ⟨hl2, hs2⟩ := own_inv5 (M := 256) ⟨a_q2, z_q2⟩ hl1 hs1 c219_4 c219_5 c219_6 c219_7 c219_8 c219_9
        have hs2 : nm_219 + w0_219 + w1_219 + w2_219 + w3_219 + w4_219 = 65536 := hs2
        have FM2 : Fld Z T219.heap b214 "com/example/paranhos/paranhos/MatchRuns" "matched" "D" (.double (own_D 16 nm_219)) := c219_2
        have VM2 : Arv Z T219.heap b_215 kk_215 .double (5 : Int32) [(.double (own_D 16 w0_219)), (.double (own_D 16 w1_219)), (.double (own_D 16 w2_219)), (.double (own_D 16 w3_219)), (.double (own_D 16 w4_219))] (.double (0 : UInt64)) := c219_3
        refine og_iload (pc' := 96) X219 hx (hb hby at_94) rfl rfl ?_
        refine og_iconst (pc' := 97) (n := 3) X219 hx (hb hby at_96) rfl rfl ?_
        by_cases hc97_19 : nv < (3 : Int32)
        · refine og_icmpYes (pc' := 107) X219 hx (hb hby at_97) (tlt hc97_19).1 (by decide) (by decide) ?_
          refine og_iload (pc' := 109) X219 hx (hb hby at_107) rfl rfl ?_
          refine og_iconst (pc' := 110) (n := 4) X219 hx (hb hby at_109) rfl rfl ?_
          refine og_icmpYes (pc' := 120) X219 hx (hb hby at_110) (tlt (own_ltt hc97_19 (by decide))).1 (by decide) (by decide) ?_
          have hq3 : q3 = 0 := hq3.trans (if_pos hc97_19)
          have hq4 : q4 = 0 := hq4.trans (if_pos (own_ltt hc97_19 (by decide)))
          refine og_iload (pc' := 122) X219 hx (hb hby at_120) rfl rfl ?_
          refine og_iconst (pc' := 123) (n := 1) X219 hx (hb hby at_122) rfl rfl ?_
          refine og_icmpYes (pc' := 152) X219 hx (hb hby at_123) (feq (by decide)).2 (by decide) (by decide) ?_
          refine og_iload (pc' := 154) X219 hx (hb hby at_152) rfl rfl ?_
          refine og_iconst (pc' := 155) (n := 2) X219 hx (hb hby at_154) rfl rfl ?_
          refine og_icmpYes (pc' := 198) X219 hx (hb hby at_155) (feq (by decide)).2 (by decide) (by decide) ?_
          refine og_iload (pc' := 200) X219 hx (hb hby at_198) rfl rfl ?_
          refine og_iconst (pc' := 201) (n := 3) X219 hx (hb hby at_200) rfl rfl ?_
          refine og_icmpYes (pc' := 238) X219 hx (hb hby at_201) (feq (by decide)).2 (by decide) (by decide) ?_
          refine og_iload (pc' := 240) X219 hx (hb hby at_238) rfl rfl ?_
          refine og_iconst (pc' := 241) (n := 4) X219 hx (hb hby at_240) rfl rfl ?_
          refine og_icmpYes (pc' := 260) X219 hx (hb hby at_241) (feq (by decide)).2 (by decide) (by decide) ?_
          refine og_dconst0 (pc' := 261) X219 hx (hb hby at_260) own_z8 rfl ?_
          refine og_dstore (pc' := 263) (L' := #[.val (.int x0), .val (.int x1), .val (.int x2), .val (.int x3), .val (.int x4), .val (.int (5 : Int32)), .val (.int nv), .val (.double (own_D 8 q1)), .second, .val (.double (own_D 8 q2)), .second, .val (.double (own_D 8 q3)), .second, .val (.double (own_D 8 q4)), .second, .val (.ref b214), .val (.double (own_D 8 0)), .second]) X219 hx (hb hby at_261) rfl rfl ?_
          refine og_aload (pc' := 265) X219 hx (hb hby at_263) rfl rfl rfl ?_
          obtain ⟨cq220, kq220, q220a, q220b, q220c⟩ := isOf hZ rfl c219_0
          obtain ⟨_, _, ⟨T220, L220, k220, n220⟩, -, X220, ⟨Lc220, hQ220, l220, y220, z220⟩, st220⟩ := X219.virtualBack hx (y := (⟨"com/example/paranhos/paranhos/MatchRuns", "matched", "()D"⟩ : MethodName)) (z := (⟨"com/example/paranhos/paranhos/MatchRuns", "matched", "()D"⟩ : MethodName)) hown (mvT hZ (hw _ (List.mem_of_getElem? (i := 16) rfl))) (mvT hZ (hw _ (List.mem_of_getElem? (i := 17) rfl))) (notFace_of_selects (args := #[]) (mvT hZ (hw _ (List.mem_of_getElem? (i := 19) rfl)))) (mvT hZ (hw _ (List.mem_of_getElem? (i := 19) rfl))) (mvT hZ (hw _ (List.mem_of_getElem? (i := 18) rfl))) (by decide) (backOf (W := 0) (rmmat l Z a0 hw [] b214 (own_D 16 nm_219) T219.heap n0 Z219 FM2) hZ (hw _ (List.mem_of_getElem? (i := 20) rfl)) (hw _ (List.mem_of_getElem? (i := 6) rfl)) (by decide) (by decide)) q220a q220c (g := (mkF m 265 #[.val (.int x0), .val (.int x1), .val (.int x2), .val (.int x3), .val (.int x4), .val (.int (5 : Int32)), .val (.int nv), .val (.double (own_D 8 q1)), .second, .val (.double (own_D 8 q2)), .second, .val (.double (own_D 8 q3)), .second, .val (.double (own_D 8 q4)), .second, .val (.ref b214), .val (.double (own_D 8 0)), .second] [(.ref b214)])) rfl (by rw [hml]; rfl) (Steps.refl _) (argsL := []) (rest := []) (lenOf pd_2 rfl) rfl (by show 2 * 0 + _ ≤ _; exact Nat.le_of_eq rfl) (hb hby at_265) (fun _ _ => ⟨rfl, rfl, (by decide : 2 + 0 ≤ _), (by decide : 7 + 0 ≤ _)⟩)
          dsimp only [Pt.U, Pt.locs, Pt.cells, Pt.slots] at X220 l220 y220 z220 st220 hQ220
          subst l220 y220 z220
          obtain ⟨rfl, N220q, e220⟩ := hQ220
          have N220 := Fr.app N219 N220q
          obtain ⟨J220, X220, N220⟩ := own_hide X220 N220
          refine own_Go.of (g' := (mkF m 268 #[.val (.int x0), .val (.int x1), .val (.int x2), .val (.int x3), .val (.int x4), .val (.int (5 : Int32)), .val (.int nv), .val (.double (own_D 8 q1)), .second, .val (.double (own_D 8 q2)), .second, .val (.double (own_D 8 q3)), .second, .val (.double (own_D 8 q4)), .second, .val (.ref b214), .val (.double (own_D 8 0)), .second] [(.double (own_D 16 nm_219))])) (fun t k => st220.trans k) ?_
          refine og_dload (pc' := 270) X220 hx (hb hby at_268) rfl rfl ?_
          have hcmp : cmpValue (FP.dcmp (own_D 16 nm_219) (own_D 8 0)) .l = 0 := own_cmpE (own_res0 16 nm_219) (own_res1 8 0) (by first | (simp only [c217_4, c217_5, c217_6, c217_7, c217_8, c217_9, c219_4, c219_5, c219_6, c219_7, c219_8, c219_9, hq3, hq4]; done) | (simp only [c217_4, c217_5, c217_6, c217_7, c217_8, c217_9, c219_4, c219_5, c219_6, c219_7, c219_8, c219_9, hq3, hq4]; grind) | decide) (by decide) (by omega)
          refine og_dcmp (pc' := 271) X220 hx (hb hby at_270) hcmp rfl ?_
          refine og_ifNo (pc' := 274) X220 hx (hb hby at_271) ((if0 _ _).trans (teq (by decide)).2) rfl ?_
          refine og_iconst (pc' := 275) (n := 1) X220 hx (hb hby at_274) rfl rfl ?_
          refine og_goto (pc' := 279) X220 hx (hb hby at_275) (by decide) (by decide) ?_
          obtain ⟨fs, hr, hrun, hended, hW, hsame⟩ := X220.leave (v := some (.int (1 : Int32))) (fun h => by rw [Bd.returns] at h; cases h) (BodyLoose.notSynchronized Bd)
          refine ⟨_, _, retN X220 hx (t := .boolean) Bd.returns (by simp) (hb hby at_279) hr, hrun, hended, some (.int (1 : Int32)), _, rfl, ?_, ⟨_, rfl⟩, hW, hsame.mono (by decide) (by decide)⟩
          show Q0 Z x0 x1 x2 x3 x4 h0 n0 _ T220.heap _
          rw [e220]
          exact ⟨rfl, N220⟩
        · refine og_icmpNo (pc' := 100) X219 hx (hb hby at_97) (flt hc97_19).1 rfl ?_
          refine og_aload (pc' := 102) X219 hx (hb hby at_100) rfl rfl rfl ?_
          refine og_dload (pc' := 104) X219 hx (hb hby at_102) rfl rfl ?_
          obtain ⟨cq221, kq221, q221a, q221b, q221c⟩ := isOf hZ rfl c219_0
          obtain ⟨_, _, ⟨T221, L221, k221, n221⟩, -, X221, ⟨Lc221, hQ221, l221, y221, z221⟩, st221⟩ := X219.virtualBack hx (y := (⟨"com/example/paranhos/paranhos/MatchRuns", "add", "(D)V"⟩ : MethodName)) (z := (⟨"com/example/paranhos/paranhos/MatchRuns", "add", "(D)V"⟩ : MethodName)) hown (mvT hZ (hw _ (List.mem_of_getElem? (i := 24) rfl))) (mvT hZ (hw _ (List.mem_of_getElem? (i := 25) rfl))) (notFace_of_selects (args := #[]) (mvT hZ (hw _ (List.mem_of_getElem? (i := 27) rfl)))) (mvT hZ (hw _ (List.mem_of_getElem? (i := 27) rfl))) (mvT hZ (hw _ (List.mem_of_getElem? (i := 26) rfl))) (by decide) (backOf (W := 0) (rmadd5 l Z a0 hw [] b214 (own_D 8 q3) b_215 kk_215 16 65536 q3 nm_219 w0_219 w1_219 w2_219 w3_219 w4_219 T219.heap n0 Z219 c219_0 c219_1 FM2 VM2 g_b214 g_b_215 ne215_0 rfl ⟨a_q3, z_q3⟩ hl2 hs2 ⟨by decide, by decide, own_o16⟩) hZ (hw _ (List.mem_of_getElem? (i := 28) rfl)) (hw _ (List.mem_of_getElem? (i := 6) rfl)) (by decide) (by decide)) q221a q221c (g := (mkF m 104 #[.val (.int x0), .val (.int x1), .val (.int x2), .val (.int x3), .val (.int x4), .val (.int (5 : Int32)), .val (.int nv), .val (.double (own_D 8 q1)), .second, .val (.double (own_D 8 q2)), .second, .val (.double (own_D 8 q3)), .second, .val (.double (own_D 8 q4)), .second, .val (.ref b214), .unset, .unset] [(.double (own_D 8 q3)), (.ref b214)])) rfl (by rw [hml]; rfl) (Steps.refl _) (argsL := [(.double (own_D 8 q3))]) (rest := []) (lenOf pd_3 rfl) rfl (by show 2 * 0 + _ ≤ _; exact Nat.le_of_eq rfl) (hb hby at_104) (fun _ _ => ⟨rfl, rfl, (by decide : 2 + 0 ≤ _), (by decide : 7 + 0 ≤ _)⟩)
          dsimp only [Pt.U, Pt.locs, Pt.cells, Pt.slots] at X221 l221 y221 z221 st221 hQ221
          subst l221 y221 z221
          obtain ⟨nm_221, w0_221, w1_221, w2_221, w3_221, w4_221, rfl, N221q, K221q, c221_0, c221_1, c221_2, c221_3, c221_4, c221_5, c221_6, c221_7, c221_8, c221_9⟩ := hQ221
          have N221 := Fr.app N219 N221q
          obtain ⟨J221, X221, N221⟩ := own_hide X221 N221
          have f221_0 := c219_0.keep K221q
          have K221 : Keep h0 T221.heap [] := K219.trans K221q (allS (Or.inr sz_b214) (allS (Or.inr sz_b_215) all0))
          have Z221 : n0 ≤ T221.heap.size := Nat.le_trans Z0 K221.1
          refine own_Go.of (g' := (mkF m 107 #[.val (.int x0), .val (.int x1), .val (.int x2), .val (.int x3), .val (.int x4), .val (.int (5 : Int32)), .val (.int nv), .val (.double (own_D 8 q1)), .second, .val (.double (own_D 8 q2)), .second, .val (.double (own_D 8 q3)), .second, .val (.double (own_D 8 q4)), .second, .val (.ref b214), .unset, .unset] [])) (fun t k => st221.trans k) ?_
          obtain ⟨hl3, hs3⟩ := own_inv5 (M := 65536) ⟨a_q3, z_q3⟩ hl2 hs2 c221_4 c221_5 c221_6 c221_7 c221_8 c221_9
          have hs3 : nm_221 + w0_221 + w1_221 + w2_221 + w3_221 + w4_221 = 16777216 := hs3
          have FM3 : Fld Z T221.heap b214 "com/example/paranhos/paranhos/MatchRuns" "matched" "D" (.double (own_D 24 nm_221)) := c221_2
          have VM3 : Arv Z T221.heap b_215 kk_215 .double (5 : Int32) [(.double (own_D 24 w0_221)), (.double (own_D 24 w1_221)), (.double (own_D 24 w2_221)), (.double (own_D 24 w3_221)), (.double (own_D 24 w4_221))] (.double (0 : UInt64)) := c221_3
          refine og_iload (pc' := 109) X221 hx (hb hby at_107) rfl rfl ?_
          refine og_iconst (pc' := 110) (n := 4) X221 hx (hb hby at_109) rfl rfl ?_
          by_cases hc110_20 : nv < (4 : Int32)
          · refine og_icmpYes (pc' := 120) X221 hx (hb hby at_110) (tlt hc110_20).1 (by decide) (by decide) ?_
            have hq4 : q4 = 0 := hq4.trans (if_pos hc110_20)
            refine og_iload (pc' := 122) X221 hx (hb hby at_120) rfl rfl ?_
            refine og_iconst (pc' := 123) (n := 1) X221 hx (hb hby at_122) rfl rfl ?_
            refine og_icmpYes (pc' := 152) X221 hx (hb hby at_123) (feq (by decide)).2 (by decide) (by decide) ?_
            refine og_iload (pc' := 154) X221 hx (hb hby at_152) rfl rfl ?_
            refine og_iconst (pc' := 155) (n := 2) X221 hx (hb hby at_154) rfl rfl ?_
            refine og_icmpYes (pc' := 198) X221 hx (hb hby at_155) (feq (by decide)).2 (by decide) (by decide) ?_
            refine og_iload (pc' := 200) X221 hx (hb hby at_198) rfl rfl ?_
            refine og_iconst (pc' := 201) (n := 3) X221 hx (hb hby at_200) rfl rfl ?_
            refine og_icmpYes (pc' := 238) X221 hx (hb hby at_201) (feq (by decide)).2 (by decide) (by decide) ?_
            refine og_iload (pc' := 240) X221 hx (hb hby at_238) rfl rfl ?_
            refine og_iconst (pc' := 241) (n := 4) X221 hx (hb hby at_240) rfl rfl ?_
            refine og_icmpYes (pc' := 260) X221 hx (hb hby at_241) (feq (by decide)).2 (by decide) (by decide) ?_
            refine og_dconst0 (pc' := 261) X221 hx (hb hby at_260) own_z8 rfl ?_
            refine og_dstore (pc' := 263) (L' := #[.val (.int x0), .val (.int x1), .val (.int x2), .val (.int x3), .val (.int x4), .val (.int (5 : Int32)), .val (.int nv), .val (.double (own_D 8 q1)), .second, .val (.double (own_D 8 q2)), .second, .val (.double (own_D 8 q3)), .second, .val (.double (own_D 8 q4)), .second, .val (.ref b214), .val (.double (own_D 8 0)), .second]) X221 hx (hb hby at_261) rfl rfl ?_
            refine og_aload (pc' := 265) X221 hx (hb hby at_263) rfl rfl rfl ?_
            obtain ⟨cq222, kq222, q222a, q222b, q222c⟩ := isOf hZ rfl c221_0
            obtain ⟨_, _, ⟨T222, L222, k222, n222⟩, -, X222, ⟨Lc222, hQ222, l222, y222, z222⟩, st222⟩ := X221.virtualBack hx (y := (⟨"com/example/paranhos/paranhos/MatchRuns", "matched", "()D"⟩ : MethodName)) (z := (⟨"com/example/paranhos/paranhos/MatchRuns", "matched", "()D"⟩ : MethodName)) hown (mvT hZ (hw _ (List.mem_of_getElem? (i := 16) rfl))) (mvT hZ (hw _ (List.mem_of_getElem? (i := 17) rfl))) (notFace_of_selects (args := #[]) (mvT hZ (hw _ (List.mem_of_getElem? (i := 19) rfl)))) (mvT hZ (hw _ (List.mem_of_getElem? (i := 19) rfl))) (mvT hZ (hw _ (List.mem_of_getElem? (i := 18) rfl))) (by decide) (backOf (W := 0) (rmmat l Z a0 hw [] b214 (own_D 24 nm_221) T221.heap n0 Z221 FM3) hZ (hw _ (List.mem_of_getElem? (i := 20) rfl)) (hw _ (List.mem_of_getElem? (i := 6) rfl)) (by decide) (by decide)) q222a q222c (g := (mkF m 265 #[.val (.int x0), .val (.int x1), .val (.int x2), .val (.int x3), .val (.int x4), .val (.int (5 : Int32)), .val (.int nv), .val (.double (own_D 8 q1)), .second, .val (.double (own_D 8 q2)), .second, .val (.double (own_D 8 q3)), .second, .val (.double (own_D 8 q4)), .second, .val (.ref b214), .val (.double (own_D 8 0)), .second] [(.ref b214)])) rfl (by rw [hml]; rfl) (Steps.refl _) (argsL := []) (rest := []) (lenOf pd_2 rfl) rfl (by show 2 * 0 + _ ≤ _; exact Nat.le_of_eq rfl) (hb hby at_265) (fun _ _ => ⟨rfl, rfl, (by decide : 2 + 0 ≤ _), (by decide : 7 + 0 ≤ _)⟩)
            dsimp only [Pt.U, Pt.locs, Pt.cells, Pt.slots] at X222 l222 y222 z222 st222 hQ222
            subst l222 y222 z222
            obtain ⟨rfl, N222q, e222⟩ := hQ222
            have N222 := Fr.app N221 N222q
            obtain ⟨J222, X222, N222⟩ := own_hide X222 N222
            refine own_Go.of (g' := (mkF m 268 #[.val (.int x0), .val (.int x1), .val (.int x2), .val (.int x3), .val (.int x4), .val (.int (5 : Int32)), .val (.int nv), .val (.double (own_D 8 q1)), .second, .val (.double (own_D 8 q2)), .second, .val (.double (own_D 8 q3)), .second, .val (.double (own_D 8 q4)), .second, .val (.ref b214), .val (.double (own_D 8 0)), .second] [(.double (own_D 24 nm_221))])) (fun t k => st222.trans k) ?_
            refine og_dload (pc' := 270) X222 hx (hb hby at_268) rfl rfl ?_
            have hcmp : cmpValue (FP.dcmp (own_D 24 nm_221) (own_D 8 0)) .l = 0 := own_cmpE (own_res0 24 nm_221) (own_res2 8 0) (by first | (simp only [c217_4, c217_5, c217_6, c217_7, c217_8, c217_9, c219_4, c219_5, c219_6, c219_7, c219_8, c219_9, c221_4, c221_5, c221_6, c221_7, c221_8, c221_9, hq4]; done) | (simp only [c217_4, c217_5, c217_6, c217_7, c217_8, c217_9, c219_4, c219_5, c219_6, c219_7, c219_8, c219_9, c221_4, c221_5, c221_6, c221_7, c221_8, c221_9, hq4]; grind) | decide) (by decide) (by omega)
            refine og_dcmp (pc' := 271) X222 hx (hb hby at_270) hcmp rfl ?_
            refine og_ifNo (pc' := 274) X222 hx (hb hby at_271) ((if0 _ _).trans (teq (by decide)).2) rfl ?_
            refine og_iconst (pc' := 275) (n := 1) X222 hx (hb hby at_274) rfl rfl ?_
            refine og_goto (pc' := 279) X222 hx (hb hby at_275) (by decide) (by decide) ?_
            obtain ⟨fs, hr, hrun, hended, hW, hsame⟩ := X222.leave (v := some (.int (1 : Int32))) (fun h => by rw [Bd.returns] at h; cases h) (BodyLoose.notSynchronized Bd)
            refine ⟨_, _, retN X222 hx (t := .boolean) Bd.returns (by simp) (hb hby at_279) hr, hrun, hended, some (.int (1 : Int32)), _, rfl, ?_, ⟨_, rfl⟩, hW, hsame.mono (by decide) (by decide)⟩
            show Q0 Z x0 x1 x2 x3 x4 h0 n0 _ T222.heap _
            rw [e222]
            exact ⟨rfl, N222⟩
          · refine og_icmpNo (pc' := 113) X221 hx (hb hby at_110) (flt hc110_20).1 rfl ?_
            refine og_aload (pc' := 115) X221 hx (hb hby at_113) rfl rfl rfl ?_
            refine og_dload (pc' := 117) X221 hx (hb hby at_115) rfl rfl ?_
            obtain ⟨cq223, kq223, q223a, q223b, q223c⟩ := isOf hZ rfl c221_0
            obtain ⟨_, _, ⟨T223, L223, k223, n223⟩, -, X223, ⟨Lc223, hQ223, l223, y223, z223⟩, st223⟩ := X221.virtualBack hx (y := (⟨"com/example/paranhos/paranhos/MatchRuns", "add", "(D)V"⟩ : MethodName)) (z := (⟨"com/example/paranhos/paranhos/MatchRuns", "add", "(D)V"⟩ : MethodName)) hown (mvT hZ (hw _ (List.mem_of_getElem? (i := 24) rfl))) (mvT hZ (hw _ (List.mem_of_getElem? (i := 25) rfl))) (notFace_of_selects (args := #[]) (mvT hZ (hw _ (List.mem_of_getElem? (i := 27) rfl)))) (mvT hZ (hw _ (List.mem_of_getElem? (i := 27) rfl))) (mvT hZ (hw _ (List.mem_of_getElem? (i := 26) rfl))) (by decide) (backOf (W := 0) (rmadd5 l Z a0 hw [] b214 (own_D 8 q4) b_215 kk_215 24 16777216 q4 nm_221 w0_221 w1_221 w2_221 w3_221 w4_221 T221.heap n0 Z221 c221_0 c221_1 FM3 VM3 g_b214 g_b_215 ne215_0 rfl ⟨a_q4, z_q4⟩ hl3 hs3 ⟨by decide, by decide, own_o24⟩) hZ (hw _ (List.mem_of_getElem? (i := 28) rfl)) (hw _ (List.mem_of_getElem? (i := 6) rfl)) (by decide) (by decide)) q223a q223c (g := (mkF m 117 #[.val (.int x0), .val (.int x1), .val (.int x2), .val (.int x3), .val (.int x4), .val (.int (5 : Int32)), .val (.int nv), .val (.double (own_D 8 q1)), .second, .val (.double (own_D 8 q2)), .second, .val (.double (own_D 8 q3)), .second, .val (.double (own_D 8 q4)), .second, .val (.ref b214), .unset, .unset] [(.double (own_D 8 q4)), (.ref b214)])) rfl (by rw [hml]; rfl) (Steps.refl _) (argsL := [(.double (own_D 8 q4))]) (rest := []) (lenOf pd_3 rfl) rfl (by show 2 * 0 + _ ≤ _; exact Nat.le_of_eq rfl) (hb hby at_117) (fun _ _ => ⟨rfl, rfl, (by decide : 2 + 0 ≤ _), (by decide : 7 + 0 ≤ _)⟩)
            dsimp only [Pt.U, Pt.locs, Pt.cells, Pt.slots] at X223 l223 y223 z223 st223 hQ223
            subst l223 y223 z223
            obtain ⟨nm_223, w0_223, w1_223, w2_223, w3_223, w4_223, rfl, N223q, K223q, c223_0, c223_1, c223_2, c223_3, c223_4, c223_5, c223_6, c223_7, c223_8, c223_9⟩ := hQ223
            have N223 := Fr.app N221 N223q
            obtain ⟨J223, X223, N223⟩ := own_hide X223 N223
            have f223_0 := c221_0.keep K223q
            have K223 : Keep h0 T223.heap [] := K221.trans K223q (allS (Or.inr sz_b214) (allS (Or.inr sz_b_215) all0))
            have Z223 : n0 ≤ T223.heap.size := Nat.le_trans Z0 K223.1
            refine own_Go.of (g' := (mkF m 120 #[.val (.int x0), .val (.int x1), .val (.int x2), .val (.int x3), .val (.int x4), .val (.int (5 : Int32)), .val (.int nv), .val (.double (own_D 8 q1)), .second, .val (.double (own_D 8 q2)), .second, .val (.double (own_D 8 q3)), .second, .val (.double (own_D 8 q4)), .second, .val (.ref b214), .unset, .unset] [])) (fun t k => st223.trans k) ?_
            obtain ⟨hl4, hs4⟩ := own_inv5 (M := 16777216) ⟨a_q4, z_q4⟩ hl3 hs3 c223_4 c223_5 c223_6 c223_7 c223_8 c223_9
            have hs4 : nm_223 + w0_223 + w1_223 + w2_223 + w3_223 + w4_223 = 4294967296 := hs4
            have FM4 : Fld Z T223.heap b214 "com/example/paranhos/paranhos/MatchRuns" "matched" "D" (.double (own_D 32 nm_223)) := c223_2
            have VM4 : Arv Z T223.heap b_215 kk_215 .double (5 : Int32) [(.double (own_D 32 w0_223)), (.double (own_D 32 w1_223)), (.double (own_D 32 w2_223)), (.double (own_D 32 w3_223)), (.double (own_D 32 w4_223))] (.double (0 : UInt64)) := c223_3
            refine og_iload (pc' := 122) X223 hx (hb hby at_120) rfl rfl ?_
            refine og_iconst (pc' := 123) (n := 1) X223 hx (hb hby at_122) rfl rfl ?_
            refine og_icmpYes (pc' := 152) X223 hx (hb hby at_123) (feq (by decide)).2 (by decide) (by decide) ?_
            refine og_iload (pc' := 154) X223 hx (hb hby at_152) rfl rfl ?_
            refine og_iconst (pc' := 155) (n := 2) X223 hx (hb hby at_154) rfl rfl ?_
            refine og_icmpYes (pc' := 198) X223 hx (hb hby at_155) (feq (by decide)).2 (by decide) (by decide) ?_
            refine og_iload (pc' := 200) X223 hx (hb hby at_198) rfl rfl ?_
            refine og_iconst (pc' := 201) (n := 3) X223 hx (hb hby at_200) rfl rfl ?_
            refine og_icmpYes (pc' := 238) X223 hx (hb hby at_201) (feq (by decide)).2 (by decide) (by decide) ?_
            refine og_iload (pc' := 240) X223 hx (hb hby at_238) rfl rfl ?_
            refine og_iconst (pc' := 241) (n := 4) X223 hx (hb hby at_240) rfl rfl ?_
            refine og_icmpYes (pc' := 260) X223 hx (hb hby at_241) (feq (by decide)).2 (by decide) (by decide) ?_
            refine og_dconst0 (pc' := 261) X223 hx (hb hby at_260) own_z8 rfl ?_
            refine og_dstore (pc' := 263) (L' := #[.val (.int x0), .val (.int x1), .val (.int x2), .val (.int x3), .val (.int x4), .val (.int (5 : Int32)), .val (.int nv), .val (.double (own_D 8 q1)), .second, .val (.double (own_D 8 q2)), .second, .val (.double (own_D 8 q3)), .second, .val (.double (own_D 8 q4)), .second, .val (.ref b214), .val (.double (own_D 8 0)), .second]) X223 hx (hb hby at_261) rfl rfl ?_
            refine og_aload (pc' := 265) X223 hx (hb hby at_263) rfl rfl rfl ?_
            obtain ⟨cq224, kq224, q224a, q224b, q224c⟩ := isOf hZ rfl c223_0
            obtain ⟨_, _, ⟨T224, L224, k224, n224⟩, -, X224, ⟨Lc224, hQ224, l224, y224, z224⟩, st224⟩ := X223.virtualBack hx (y := (⟨"com/example/paranhos/paranhos/MatchRuns", "matched", "()D"⟩ : MethodName)) (z := (⟨"com/example/paranhos/paranhos/MatchRuns", "matched", "()D"⟩ : MethodName)) hown (mvT hZ (hw _ (List.mem_of_getElem? (i := 16) rfl))) (mvT hZ (hw _ (List.mem_of_getElem? (i := 17) rfl))) (notFace_of_selects (args := #[]) (mvT hZ (hw _ (List.mem_of_getElem? (i := 19) rfl)))) (mvT hZ (hw _ (List.mem_of_getElem? (i := 19) rfl))) (mvT hZ (hw _ (List.mem_of_getElem? (i := 18) rfl))) (by decide) (backOf (W := 0) (rmmat l Z a0 hw [] b214 (own_D 32 nm_223) T223.heap n0 Z223 FM4) hZ (hw _ (List.mem_of_getElem? (i := 20) rfl)) (hw _ (List.mem_of_getElem? (i := 6) rfl)) (by decide) (by decide)) q224a q224c (g := (mkF m 265 #[.val (.int x0), .val (.int x1), .val (.int x2), .val (.int x3), .val (.int x4), .val (.int (5 : Int32)), .val (.int nv), .val (.double (own_D 8 q1)), .second, .val (.double (own_D 8 q2)), .second, .val (.double (own_D 8 q3)), .second, .val (.double (own_D 8 q4)), .second, .val (.ref b214), .val (.double (own_D 8 0)), .second] [(.ref b214)])) rfl (by rw [hml]; rfl) (Steps.refl _) (argsL := []) (rest := []) (lenOf pd_2 rfl) rfl (by show 2 * 0 + _ ≤ _; exact Nat.le_of_eq rfl) (hb hby at_265) (fun _ _ => ⟨rfl, rfl, (by decide : 2 + 0 ≤ _), (by decide : 7 + 0 ≤ _)⟩)
            dsimp only [Pt.U, Pt.locs, Pt.cells, Pt.slots] at X224 l224 y224 z224 st224 hQ224
            subst l224 y224 z224
            obtain ⟨rfl, N224q, e224⟩ := hQ224
            have N224 := Fr.app N223 N224q
            obtain ⟨J224, X224, N224⟩ := own_hide X224 N224
            refine own_Go.of (g' := (mkF m 268 #[.val (.int x0), .val (.int x1), .val (.int x2), .val (.int x3), .val (.int x4), .val (.int (5 : Int32)), .val (.int nv), .val (.double (own_D 8 q1)), .second, .val (.double (own_D 8 q2)), .second, .val (.double (own_D 8 q3)), .second, .val (.double (own_D 8 q4)), .second, .val (.ref b214), .val (.double (own_D 8 0)), .second] [(.double (own_D 32 nm_223))])) (fun t k => st224.trans k) ?_
            refine og_dload (pc' := 270) X224 hx (hb hby at_268) rfl rfl ?_
            have hcmp : cmpValue (FP.dcmp (own_D 32 nm_223) (own_D 8 0)) .l = 0 := own_cmpE (own_res0 32 nm_223) (own_res3 8 0) (by first | (simp only [c217_4, c217_5, c217_6, c217_7, c217_8, c217_9, c219_4, c219_5, c219_6, c219_7, c219_8, c219_9, c221_4, c221_5, c221_6, c221_7, c221_8, c221_9, c223_4, c223_5, c223_6, c223_7, c223_8, c223_9]; done) | (simp only [c217_4, c217_5, c217_6, c217_7, c217_8, c217_9, c219_4, c219_5, c219_6, c219_7, c219_8, c219_9, c221_4, c221_5, c221_6, c221_7, c221_8, c221_9, c223_4, c223_5, c223_6, c223_7, c223_8, c223_9]; grind) | decide) (by decide) (by omega)
            refine og_dcmp (pc' := 271) X224 hx (hb hby at_270) hcmp rfl ?_
            refine og_ifNo (pc' := 274) X224 hx (hb hby at_271) ((if0 _ _).trans (teq (by decide)).2) rfl ?_
            refine og_iconst (pc' := 275) (n := 1) X224 hx (hb hby at_274) rfl rfl ?_
            refine og_goto (pc' := 279) X224 hx (hb hby at_275) (by decide) (by decide) ?_
            obtain ⟨fs, hr, hrun, hended, hW, hsame⟩ := X224.leave (v := some (.int (1 : Int32))) (fun h => by rw [Bd.returns] at h; cases h) (BodyLoose.notSynchronized Bd)
            refine ⟨_, _, retN X224 hx (t := .boolean) Bd.returns (by simp) (hb hby at_279) hr, hrun, hended, some (.int (1 : Int32)), _, rfl, ?_, ⟨_, rfl⟩, hW, hsame.mono (by decide) (by decide)⟩
            show Q0 Z x0 x1 x2 x3 x4 h0 n0 _ T224.heap _
            rw [e224]
            exact ⟨rfl, N224⟩

set_option maxRecDepth 65536 in
set_option maxHeartbeats 40000000 in
theorem comes_1 {Post : Tables → Env → Array Value → State → Outcome → State → Prop} (hpost : ∀ tb e args s v u, (limb_1_1.after args s (.returned v) u = true ∧ limb_1_2.after args s (.returned v) u = true ∧ True) → FrameEnd s (.returned v) u (Jvm.fieldLocs frame_1_writes args s ++ Jvm.arrayLocs frame_1_arrays args s ++ Jvm.staticLocs frame_1_statics s) 16 128 → Post tb e args s (.returned v) u) :
    ArmFor flags0 classFile x code maxLocals ret World_1 tables_1 room_1 Calls_1 rest_1 Pre_1 Post := by
  intro l hfl _ _ p e ha hc hk s m args below hf hA hF happ hP
  obtain ⟨hcalls, hrest, hpre⟩ := hP
  obtain ⟨-, -, -, hnamed, -, -, -, hat⟩ := (Spec.applies_iff hf).mp happ
  obtain ⟨hg, hn⟩ := and_e (Cond.before_iff.mp (show (Jvm.Cond.and given_1 narrow_1).before args s = true from hpre))
  obtain ⟨hcnt, hg0⟩ := and_e hg
  obtain ⟨a0, hg1⟩ := and_e hg0
  obtain ⟨a1, hg2⟩ := and_e hg1
  obtain ⟨a2, hg3⟩ := and_e hg2
  obtain ⟨a3, hg4⟩ := and_e hg3
  obtain ⟨w0, w1, w2, w3, w4, rfl⟩ : ∃ w0 w1 w2 w3 w4 : Value, args = #[w0, w1, w2, w3, w4] := by
    have hs : args.size = 5 := by simpa [Cond.value, given_1] using hcnt
    obtain ⟨L⟩ := args
    match L, hs with
    | [w0, w1, w2, w3, w4], _ => exact ⟨w0, w1, w2, w3, w4, rfl⟩
  have hw := fun d (hd : d ∈ tables_1) => atoms_spec (ws := Jvm.Cond.code x code maxLocals ret :: tables_1) hat d (List.mem_cons_of_mem _ hd)
  have hfit : Fit s := fun {y c} hc i hi => by
    obtain ⟨ha, rfl⟩ := Array.getElem?_eq_some_iff.mp hc
    have q := List.all_eq_true.mp ((Array.all_eq_true_iff_forall_mem.mp hF) _ (Array.getElem_mem ha)) i (List.mem_range.mpr hi)
    simpa [Array.getElem?_eq_getElem hi] using q
  obtain ⟨i0, ei0⟩ := is_v a0
  obtain rfl : w0 = (.int i0) := Option.some.inj ei0
  obtain ⟨i1, ei1⟩ := is_v a1
  obtain rfl : w1 = (.int i1) := Option.some.inj ei1
  obtain ⟨i2, ei2⟩ := is_v a2
  obtain rfl : w2 = (.int i2) := Option.some.inj ei2
  obtain ⟨i3, ei3⟩ := is_v a3
  obtain rfl : w3 = (.int i3) := Option.some.inj ei3
  obtain ⟨i4, ei4⟩ := is_v hg4
  obtain rfl : w4 = (.int i4) := Option.some.inj ei4
  obtain ⟨n, o, h1, h2, h3, _, L, rfl, ⟨rfl, N⟩, hq⟩ := rm0 l s _ hw tables_1 i0 i1 i2 i3 i4  s.heap s.heap.size (Nat.le_refl _)  p e ha hc hk s m _ below hf ((Spec.applies_iff_loose hf).mp happ).1 ⟨rfl, State.Warmed39.refl s, rfl⟩ trivial
  refine ⟨n, _, h1, h2, h3, hpost _ _ _ _ _ _ ⟨Cond.after_iff.mpr rfl, Cond.after_iff.mpr (eq_i res_at (Term.int_eval (1)) rfl), trivial⟩ ⟨hq.1, hq.2.1, (hq.2.2.sift fun y hy => Or.inr (N y hy)).mono (by decide) (by decide)⟩⟩
theorem main_1_1 : Claimed_1_1 := comes_1 fun _ _ _ _ _ _ h hF => ⟨h.1, hF⟩
theorem main_1_2 : Claimed_1_2 := comes_1 fun _ _ _ _ _ _ h hF => ⟨h.2.1, hF⟩

end Jvm.Pilot.@@N@@
namespace Jvm.Pilot.@@N@@
open Jvm Jvm.ClassFile Sem Op Lib Jvm.Free Jvm.Stand Jvm.Pilot.@@N@@.Jvm.D
/-! MADE BY PROGRAM (witnessworld.py) out of the Statement's table words and the real class files: 9 classes; the members and pool entries that the words name. The judged class is class 1, her method 2. -/
namespace start1
open Jvm.ClassFile
def u (s : String) : CpInfo := .utf8 (stringToUtf16 s)
/-- a pool by its gaps: so many unusable entries, then the entry; so many at the end -/
def gap : Nat → List CpInfo → List CpInfo
  | 0, r => r
  | n + 1, r => .unusable :: gap n r
def poolList (es : List (Nat × CpInfo)) (last : Nat) : List CpInfo := es.foldr (fun e r => gap e.1 (e.2 :: r)) (gap last [])
def pool (es : List (Nat × CpInfo)) (last : Nat) : Array CpInfo := ⟨poolList es last⟩
def fileOf (pool : Array CpInfo) (this : Nat) (attrs : Array Attribute := #[]) (ms : Array MethodInfo := #[]) (fl : Nat := 33) (sup : Nat := 0) (ifs : Array Nat := #[]) (fds : Array FieldInfo := #[]) : ClassFile where
  minorVersion := 0
  majorVersion := 65
  constantPool := pool
  accessFlags := fl
  thisClass := this
  superClass := sup
  interfaces := ifs
  fields := fds
  methods := ms
  attributes := attrs
def plain (name : String) (sup : Option ClassId) : Class where
  name := name
  kind := .ordinary
  loader := none
  accessFlags := 33
  super := sup
  interfaces := #[]
  cf := none
  fields := #[]
  methods := #[]
  instanceTypes := #[]
  staticTypes := #[]
  resolved := #[]
  callSites := []
  init := .initialized
  statics := none
  mirror := none

def pool0 : Array CpInfo := pool [(5, u "<init>"), (0, u "()V"), (1, .class_ 10), (1, u "java/lang/Object")] 113

def k0c0 : Code := { maxStack := 0, maxLocals := 1, code := object_method_1_code, exceptionTable := #[], attributes := #[] }
def k0m0 : Method := { name := "<init>", desc := "()V", sig := { parameters := [], returnType := none }, accessFlags := 1, code := some k0c0 }
/-- java/lang/Object -/
def k0 : Class := { plain "java/lang/Object" none with
  accessFlags := 33
  interfaces := #[]
  cf := some (fileOf pool0 8 #[] #[{ accessFlags := 1, nameIndex := 5, descriptorIndex := 6, attributes := #[] }] 33 0 #[] #[])
  fields := #[]
  methods := #[k0m0]
  instanceTypes := #[]
  staticTypes := #[]
  resolved := Array.replicate 124 none
  statics := none }

def pool1 : Array CpInfo := pool [(2, .class_ 4), (1, u "java/lang/Object"), (0, u "<init>"), (0, u "()V"), (0, .double 4643211215818981376), (1, .methodref 10 11), (0, .class_ 12), (0, .nameAndType 13 14), (0, u "com/example/paranhos/paranhos/MatchRunsAddPinLaw"), (0, u "fill"), (0, u "(III)D"), (0, .class_ 16), (0, u "com/example/paranhos/paranhos/MatchRuns"), (0, .methodref 15 18), (0, .nameAndType 5 19), (0, u "(I)V"), (0, .methodref 15 21), (0, .nameAndType 22 23), (0, u "add"), (0, u "(D)V"), (0, .methodref 15 25), (0, .nameAndType 26 27), (0, u "matched"), (0, u "()D"), (3, u "law"), (0, u "(IIIII)Z")] 2

def k1m0 : Method := { name := "<init>", desc := "()V", sig := { parameters := [], returnType := none }, accessFlags := 1, code := none }
def k1c1 : Code := { maxStack := 4, maxLocals := 3, code := method_2_code, exceptionTable := #[], attributes := #[] }
def k1m1 : Method := { name := "fill", desc := "(III)D", sig := { parameters := [.int, .int, .int], returnType := some .double }, accessFlags := 10, code := some k1c1 }
def k1c2 : Code := { maxStack := 8, maxLocals := 18, code := code, exceptionTable := #[], attributes := #[] }
def k1m2 : Method := { name := "law", desc := "(IIIII)Z", sig := { parameters := [.int, .int, .int, .int, .int], returnType := some .boolean }, accessFlags := 9, code := some k1c2 }
/-- com/example/paranhos/paranhos/MatchRunsAddPinLaw -/
def k1 : Class := { plain "com/example/paranhos/paranhos/MatchRunsAddPinLaw" (some 0) with
  accessFlags := 49
  interfaces := #[]
  cf := some (fileOf pool1 10 #[] #[{ accessFlags := 1, nameIndex := 5, descriptorIndex := 6, attributes := #[] }, { accessFlags := 10, nameIndex := 13, descriptorIndex := 14, attributes := #[] }, { accessFlags := 9, nameIndex := 31, descriptorIndex := 32, attributes := #[] }] 49 2 #[] #[])
  fields := #[]
  methods := #[k1m0, k1m1, k1m2]
  instanceTypes := #[]
  staticTypes := #[]
  resolved := Array.replicate 35 none
  statics := none }

def pool2 : Array CpInfo := pool [(1, .methodref 2 3), (0, .class_ 4), (0, .nameAndType 5 6), (0, u "java/lang/Object"), (0, u "<init>"), (0, u "()V"), (0, .fieldref 8 9), (0, .class_ 10), (0, .nameAndType 11 12), (0, u "com/example/paranhos/paranhos/MatchRuns"), (0, u "run"), (0, u "[D"), (5, .fieldref 8 19), (0, .nameAndType 20 21), (0, u "matched"), (0, u "D"), (0, u "(I)V"), (5, u "add"), (0, u "(D)V"), (1, u "()D")] 2

def k2c0 : Code := { maxStack := 4, maxLocals := 2, code := prog_14_method_1_code, exceptionTable := #[], attributes := #[] }
def k2m0 : Method := { name := "<init>", desc := "(I)V", sig := { parameters := [.int], returnType := none }, accessFlags := 0, code := some k2c0 }
def k2c1 : Code := { maxStack := 7, maxLocals := 7, code := prog_14_method_4_code, exceptionTable := #[], attributes := #[] }
def k2m1 : Method := { name := "add", desc := "(D)V", sig := { parameters := [.double], returnType := none }, accessFlags := 0, code := some k2c1 }
def k2c2 : Code := { maxStack := 2, maxLocals := 1, code := prog_14_method_5_code, exceptionTable := #[], attributes := #[] }
def k2m2 : Method := { name := "matched", desc := "()D", sig := { parameters := [], returnType := some .double }, accessFlags := 0, code := some k2c2 }
/-- com/example/paranhos/paranhos/MatchRuns -/
def k2 : Class := { plain "com/example/paranhos/paranhos/MatchRuns" (some 0) with
  accessFlags := 48
  interfaces := #[]
  cf := some (fileOf pool2 8 #[] #[{ accessFlags := 0, nameIndex := 5, descriptorIndex := 22, attributes := #[] }, { accessFlags := 0, nameIndex := 28, descriptorIndex := 29, attributes := #[] }, { accessFlags := 0, nameIndex := 20, descriptorIndex := 31, attributes := #[] }] 48 2 #[] #[{ accessFlags := 18, nameIndex := 11, descriptorIndex := 12, attributes := #[] }, { accessFlags := 2, nameIndex := 20, descriptorIndex := 21, attributes := #[] }])
  fields := #[{ name := "run", type := (.array .double), accessFlags := 18, slot := 0, constantValue := 0 }, { name := "matched", type := .double, accessFlags := 2, slot := 1, constantValue := 0 }]
  methods := #[k2m0, k2m1, k2m2]
  instanceTypes := #[(.array .double), .double]
  staticTypes := #[]
  resolved := Array.replicate 34 none
  statics := none }

def pool3 : Array CpInfo := pool [(1, u "java/lang/Cloneable"), (0, .class_ 1), (0, u "java/lang/Object"), (0, .class_ 3)] 3

/-- java/lang/Cloneable -/
def k3 : Class := { plain "java/lang/Cloneable" (some 0) with
  accessFlags := 1537
  interfaces := #[]
  cf := some (fileOf pool3 2 #[] #[] 1537 4 #[] #[])
  fields := #[]
  methods := #[]
  instanceTypes := #[]
  staticTypes := #[]
  resolved := Array.replicate 8 none
  statics := none }

def pool4 : Array CpInfo := pool [(1, u "java/io/Serializable"), (0, .class_ 1), (0, u "java/lang/Object"), (0, .class_ 3)] 3

/-- java/io/Serializable -/
def k4 : Class := { plain "java/io/Serializable" (some 0) with
  accessFlags := 1537
  interfaces := #[]
  cf := some (fileOf pool4 2 #[] #[] 1537 4 #[] #[])
  fields := #[]
  methods := #[]
  instanceTypes := #[]
  staticTypes := #[]
  resolved := Array.replicate 8 none
  statics := none }

/-- the primitive byte -/
def k5 : Class := { plain "byte" none with kind := .primitive 'B', accessFlags := 0x411 }
/-- [B -/
def k6 : Class := { plain "[B" (some 0) with kind := .array 5 .byte, interfaces := #[3, 4], accessFlags := 1041 }

/-- the primitive int -/
def k7 : Class := { plain "int" none with kind := .primitive 'I', accessFlags := 0x411 }
/-- [I -/
def k8 : Class := { plain "[I" (some 0) with kind := .array 7 .int, interfaces := #[3, 4], accessFlags := 1041 }

/-- the primitive double -/
def k9 : Class := { plain "double" none with kind := .primitive 'D', accessFlags := 0x411 }
/-- [D -/
def k10 : Class := { plain "[D" (some 0) with kind := .array 9 .double, interfaces := #[3, 4], accessFlags := 1041 }

def heap : Heap := #[]
def classes : Array Class := #[k0, k1, k2, k3, k4, k5, k6, k7, k8, k9, k10]
def interned : List (Array UInt16 × Addr) := []
def slotsUsed : Nat := 0
def theMethod : MethodId := ⟨1, 2⟩
def args0 : Array Value := #[.int 9, .int 6, .int 7, .int 8, .int 5]
def aboutOver (below : List Frame) : State where
  vm := { classes := classes, interned := interned.toArray }
  heap := heap
  slotsUsed := slotsUsed
  threads := #[{ frames := .invoking theMethod args0 :: below }]
def below0 : List Frame := [.native { method := ⟨0, 0⟩, args := #[] }]
def about1 : State := aboutOver below0
def p0 : Program := .bare "" "" ""
def e0 : Env := launch0.env 0 0 0
theorem w_frames : about1.frames = Frame.invoking theMethod args0 :: below0 := rfl
set_option maxRecDepth 65536 in
theorem w_args : argsFit about1.vm theMethod args0 = true := by decide +kernel
set_option maxRecDepth 65536 in
theorem w_heap : heapFits about1 = true := by decide +kernel
set_option maxRecDepth 65536 in
theorem w_runnable : about1.curStatus? = some .runnable := by decide +kernel
set_option maxRecDepth 65536 in
theorem w_alone : about1.alone = true := by decide +kernel
set_option maxRecDepth 65536 in
theorem w_named : about1.methodNamed? x = some theMethod := by decide +kernel
set_option maxRecDepth 65536 in
theorem w_hears : about1.hears theMethod below0 = true := by decide +kernel
set_option maxRecDepth 65536 in
theorem w_ripe : about1.ripe theMethod args0 below0 = true := by decide +kernel
theorem w_running : about1.status = .running := rfl
set_option maxRecDepth 65536 in
theorem w_room : about1.hasRoom e0.platform room_1 = true :=
  launch0.hasRoom_least _ room_1 (by decide +kernel) (by decide +kernel) (by decide +kernel) (by decide +kernel) (by decide +kernel) (by decide +kernel)
theorem allAtoms_all (ts : List Jvm.Cond) (a : Array Jvm.Value) (st : Jvm.State) : (allAtoms ts).before a st = ts.all (fun c => c.before a st) := by
  induction ts with
  | nil => rfl
  | cons c t ih =>
    show (Jvm.Cond.and c (allAtoms t)).before a st = _
    rw [Jvm.Cond.before_and, ih, List.all_cons]
def words1 : List Jvm.Cond := Jvm.Cond.code x code maxLocals ret :: tables_1
/-- a 'code' word, met by the world's own term for the bytes: nothing is compared byte by byte -/
theorem code_word {y : MethodName} {bytes : ByteArray} {mx : Nat} {rt : Option FieldType} {a : Array Value} {s : State} {m : MethodId} {meth : Method} {c : Code} (h1 : s.methodNamed? y = some m) (h2 : s.vm.method? m = some meth) (h3 : meth.code = some c) (h4 : c.code = bytes)
    (h5 : (c.maxLocals == mx && c.exceptionTable.isEmpty && decide (c.maxStack ≤ mostOperands) && decide (meth.sig.returnType = rt) && !meth.locks && decide (parseMethodDescriptor y.desc = some meth.sig)) = true) : (Jvm.Cond.code y bytes mx rt).before a s = true := by
  simp only [Bool.and_eq_true, beq_iff_eq, Bool.not_eq_true', decide_eq_true_eq] at h5
  obtain ⟨⟨⟨⟨⟨g1, g2⟩, g3⟩, g4⟩, g5⟩, g6⟩ := h5
  simp [Cond.before, Cond.holds, Cond.value, h1, h2, h3, h4, g1, g2, g3, g4, g5, g6]
def isCode : Jvm.Cond → Bool
  | .code _ _ _ _ => true
  | _ => false
theorem all_split {L : List Jvm.Cond} {P : Jvm.Cond → Bool} (h1 : L.all (fun c => isCode c || P c) = true) (h2 : ∀ c ∈ L.filter isCode, P c = true) : L.all P = true := by
  refine List.all_eq_true.mpr fun c hc => ?_
  have h := List.all_eq_true.mp h1 c hc
  rcases Bool.eq_false_or_eq_true (isCode c) with hi | hi
  · exact h2 c (List.mem_filter.mpr ⟨hc, hi⟩)
  · simpa [hi] using h
set_option maxRecDepth 65536 in
theorem w_c0 : (Jvm.Cond.code x code maxLocals ret).before args0 about1 = true := code_word (m := ⟨1, 2⟩) (meth := k1m2) (c := k1c2) (by decide +kernel) rfl rfl rfl (by decide +kernel)
set_option maxRecDepth 65536 in
theorem w_c1 : (Jvm.Cond.code ({ cls := "com/example/paranhos/paranhos/MatchRunsAddPinLaw", name := "fill", desc := "(III)D" } : Jvm.MethodName) method_2_code (3 : Nat) (Option.some Jvm.ClassFile.FieldType.double)).before args0 about1 = true := code_word (m := ⟨1, 1⟩) (meth := k1m1) (c := k1c1) (by decide +kernel) rfl rfl rfl (by decide +kernel)
set_option maxRecDepth 65536 in
theorem w_c2 : (Jvm.Cond.code ({ cls := "com/example/paranhos/paranhos/MatchRuns", name := "<init>", desc := "(I)V" } : Jvm.MethodName) prog_14_method_1_code (2 : Nat) (Option.none : Option Jvm.ClassFile.FieldType)).before args0 about1 = true := code_word (m := ⟨2, 0⟩) (meth := k2m0) (c := k2c0) (by decide +kernel) rfl rfl rfl (by decide +kernel)
set_option maxRecDepth 65536 in
theorem w_c3 : (Jvm.Cond.code ({ cls := "java/lang/Object", name := "<init>", desc := "()V" } : Jvm.MethodName) object_method_1_code (1 : Nat) (Option.none : Option Jvm.ClassFile.FieldType)).before args0 about1 = true := code_word (m := ⟨0, 0⟩) (meth := k0m0) (c := k0c0) (by decide +kernel) rfl rfl rfl (by decide +kernel)
set_option maxRecDepth 65536 in
theorem w_c4 : (Jvm.Cond.code ({ cls := "com/example/paranhos/paranhos/MatchRuns", name := "matched", desc := "()D" } : Jvm.MethodName) prog_14_method_5_code (1 : Nat) (Option.some Jvm.ClassFile.FieldType.double)).before args0 about1 = true := code_word (m := ⟨2, 2⟩) (meth := k2m2) (c := k2c2) (by decide +kernel) rfl rfl rfl (by decide +kernel)
set_option maxRecDepth 65536 in
theorem w_c5 : (Jvm.Cond.code ({ cls := "com/example/paranhos/paranhos/MatchRuns", name := "add", desc := "(D)V" } : Jvm.MethodName) prog_14_method_4_code (7 : Nat) (Option.none : Option Jvm.ClassFile.FieldType)).before args0 about1 = true := code_word (m := ⟨2, 1⟩) (meth := k2m1) (c := k2c1) (by decide +kernel) rfl rfl rfl (by decide +kernel)
def codes1 : List Jvm.Cond := [Jvm.Cond.code x code maxLocals ret, Jvm.Cond.code ({ cls := "com/example/paranhos/paranhos/MatchRunsAddPinLaw", name := "fill", desc := "(III)D" } : Jvm.MethodName) method_2_code (3 : Nat) (Option.some Jvm.ClassFile.FieldType.double), Jvm.Cond.code ({ cls := "com/example/paranhos/paranhos/MatchRuns", name := "<init>", desc := "(I)V" } : Jvm.MethodName) prog_14_method_1_code (2 : Nat) (Option.none : Option Jvm.ClassFile.FieldType), Jvm.Cond.code ({ cls := "java/lang/Object", name := "<init>", desc := "()V" } : Jvm.MethodName) object_method_1_code (1 : Nat) (Option.none : Option Jvm.ClassFile.FieldType), Jvm.Cond.code ({ cls := "com/example/paranhos/paranhos/MatchRuns", name := "matched", desc := "()D" } : Jvm.MethodName) prog_14_method_5_code (1 : Nat) (Option.some Jvm.ClassFile.FieldType.double), Jvm.Cond.code ({ cls := "com/example/paranhos/paranhos/MatchRuns", name := "add", desc := "(D)V" } : Jvm.MethodName) prog_14_method_4_code (7 : Nat) (Option.none : Option Jvm.ClassFile.FieldType)]
set_option maxRecDepth 65536 in
theorem codes_eq : words1.filter isCode = codes1 := rfl
theorem w_codes : ∀ c ∈ words1.filter isCode, c.before args0 about1 = true := by
  rw [codes_eq]
  intro c hc
  simp only [codes1, List.mem_cons, List.not_mem_nil, or_false] at hc
  rcases hc with rfl | rfl | rfl | rfl | rfl | rfl
  · exact w_c0
  · exact w_c1
  · exact w_c2
  · exact w_c3
  · exact w_c4
  · exact w_c5
set_option maxRecDepth 65536 in
theorem w_t1 : (words1.take 24).all (fun c => isCode c || c.before args0 about1) = true := by decide +kernel
set_option maxRecDepth 65536 in
theorem w_t2 : (words1.drop 24).all (fun c => isCode c || c.before args0 about1) = true := by decide +kernel
theorem w_tables : (allAtoms (Jvm.Cond.code x code maxLocals ret :: tables_1)).before args0 about1 = true := by
  rw [allAtoms_all]
  show words1.all (fun c => c.before args0 about1) = true
  refine all_split ?_ w_codes
  rw [← List.take_append_drop 24 words1, List.all_append, w_t1, w_t2]
  rfl
set_option maxRecDepth 65536 in
theorem w_case : (Jvm.Cond.and given_1 narrow_1).before args0 about1 = true := by decide +kernel
theorem w_applies : (headSpec (Jvm.Cond.code x code maxLocals ret :: tables_1) room_1).applies x e0.platform about1 = true :=
  (Spec.applies_iff w_frames).mpr ⟨w_running, w_runnable, w_alone, w_named, w_hears, w_ripe, w_room, w_tables⟩
theorem atStart : AtStart classFile x code maxLocals ret World_1 tables_1 room_1 Calls_1 rest_1 Pre_1 launch0 p0 e0 about1 theMethod args0 below0 :=
  ⟨lists_1, trivial, launch0.admits_env _ _ _, launch0.least_env, fairChoices_fair.cas, fairChoices_fair.clock, w_frames, w_args, w_heap, w_applies, trivial, trivial, w_case⟩
end start1
theorem witness_1 : WitnessClaimed_1 := ⟨start1.p0, start1.e0, start1.about1, start1.theMethod, start1.args0, start1.below0, start1.atStart⟩
end Jvm.Pilot.@@N@@
