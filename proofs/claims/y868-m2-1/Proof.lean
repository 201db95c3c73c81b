import JvmDerived
import JvmDerived.Pilot.@@N@@Statement
import JvmDerived.Pilot.@@N@@Code
set_option linter.unusedVariables false
set_option linter.unusedSimpArgs false
namespace Jvm.RoadKit
open Sem ClassFile Op Lib Jvm.Stand Jvm.Free Jvm.LawKit
section New
variable {p : Program} {l : Launch} {e : Env} {R : Room} {s : State} {m : MethodId} {args : Array Value} {below : List Frame} {meth : Method} {c : Code} {T : State} {locs : List Loc} {cells slots : Nat}
theorem retI (X : Stand p l e R s m args below meth c T locs cells slots) (hx : p.tables.exec = Jvm.exec) {pc : Nat} {Ls : Array Slot} {z : Int32} {rest : List Value} (hret : meth.sig.returnType = some .int) (hd : decode c.code pc = .ok (.ireturn, 1)) {fs : List Frame}
    (hl : ∀ (f : JFrame) (acts : List Action), f.method = m → f.locked = none → f.entered = [] → (doReturn e (T.setTop f) acts (some (.int z))).1 = T.setFrames fs) : Steps p.tables e below (T.setTop (mkF m pc Ls (.int z :: rest))) (T.setFrames fs) := by
  have hm' : T.vm.method? m = some meth := X.method'
  have hn : narrow .int (.int z) = .int z := rfl
  show Steps p.tables e below (T.setTop { method := m, pc := pc, locals := Ls, stack := _ :: rest, locked := none }) _
  jvm_step X.here [X.here.top, hx, hd, hm', hret, hn]
  first | (intro acts; rw [hl _ acts rfl rfl rfl]) | rw [hl _ _ rfl rfl rfl]
  exact Steps.refl _
end New
end Jvm.RoadKit
namespace Jvm.Pilot.@@N@@
open Jvm Jvm.ClassFile Sem Op Lib Jvm.Free Jvm.Stand Jvm.LawKit Jvm.RoadKit Bundle Jvm.Pilot.@@N@@.Jvm.D
section Own
variable {p : Program} {l : Launch} {e : Env} {R : Room} {s : State} {m : MethodId} {args : Array Value} {below : List Frame} {meth : Method} {c : Code} {T T' : State} {locs : List Loc} {cells slots : Nat} {Q : Option Value → Heap → List Loc → Prop} {kc ks : Nat} {pc pc' : Nat} {ls : Array Slot} {st : List Value}
/-- from T with the frame g on top the run comes to its end, as Q asks -/
def own_Ends (p : Program) (e : Env) (below : List Frame) (s : State) (Q : Option Value → Heap → List Loc → Prop) (kc ks : Nat) (T : State) (g : JFrame) : Prop :=
  ∃ s₂ o, Steps p.tables e below (T.setTop g) s₂ ∧ s₂.status = .running ∧ Ended s₂ below o ∧ ∃ v L, o = .returned v ∧ Q v s₂.heap L ∧ FrameEnd s o s₂ L kc ks
theorem own_go {g g' : JFrame} (h : ∀ t, Steps p.tables e below (T'.setTop g') t → Steps p.tables e below (T.setTop g) t) (K : own_Ends p e below s Q kc ks T' g') : own_Ends p e below s Q kc ks T g := by
  obtain ⟨s2, o, h1, r⟩ := K
  exact ⟨s2, o, h _ h1, r⟩
theorem own_cast {g g' : JFrame} (q : g = g') (K : own_Ends p e below s Q kc ks T g') : own_Ends p e below s Q kc ks T g := q ▸ K
theorem own_leave {v : Option Value} {g : JFrame} (X : Stand p l e R s m args below meth c T locs cells slots) (hlk : meth.locks = false) (hv : meth.sig.returnType = none → v = none)
    (hs : ∀ fs, (∀ (f : JFrame) (acts : List Action), f.method = m → f.locked = none → f.entered = [] → (doReturn e (T.setTop f) acts v).1 = T.setFrames fs) → Steps p.tables e below (T.setTop g) (T.setFrames fs)) (hc : cells ≤ kc) (hn : slots ≤ ks) (hQ : Q v T.heap locs) : own_Ends p e below s Q kc ks T g := by
  obtain ⟨fs, hr, hrun, hended, hW, hsame⟩ := X.leave (v := v) hv hlk
  exact ⟨_, _, hs fs hr, hrun, hended, _, _, rfl, hQ, ⟨_, rfl⟩, hW, hsame.mono hc hn⟩
theorem own_retI (X : Stand p l e R s m args below meth c T locs cells slots) (hx : p.tables.exec = Jvm.exec) (hlk : meth.locks = false) {z : Int32} (hret : meth.sig.returnType = some .int) (hd : decode c.code pc = .ok (.ireturn, 1)) (hc : cells ≤ kc) (hn : slots ≤ ks) (hQ : Q (some (.int z)) T.heap locs) : own_Ends p e below s Q kc ks T (mkF m pc ls (.int z :: st)) :=
  own_leave X hlk (fun h => by rw [hret] at h; cases h) (fun fs hr => retI X hx hret hd hr) hc hn hQ
theorem own_retN (X : Stand p l e R s m args below meth c T locs cells slots) (hx : p.tables.exec = Jvm.exec) (hlk : meth.locks = false) {z : Int32} {ty : FieldType} (hret : meth.sig.returnType = some ty) (ht : ty = .boolean ∨ ty = .byte ∨ ty = .char ∨ ty = .short) (hd : decode c.code pc = .ok (.ireturn, 1)) (hc : cells ≤ kc) (hn : slots ≤ ks) (hQ : Q (some (.int (nar ty z))) T.heap locs) : own_Ends p e below s Q kc ks T (mkF m pc ls (.int z :: st)) :=
  own_leave X hlk (fun h => by rw [hret] at h; cases h) (fun fs hr => retN X hx (t := ty) hret ht hd hr) hc hn hQ
theorem own_retL (X : Stand p l e R s m args below meth c T locs cells slots) (hx : p.tables.exec = Jvm.exec) (hlk : meth.locks = false) {z : Int64} (hret : meth.sig.returnType = some .long) (hd : decode c.code pc = .ok (.lreturn, 1)) (hc : cells ≤ kc) (hn : slots ≤ ks) (hQ : Q (some (.long z)) T.heap locs) : own_Ends p e below s Q kc ks T (mkF m pc ls [.long z]) :=
  own_leave X hlk (fun h => by rw [hret] at h; cases h) (fun fs hr => retOut X hx (t := .long) hret rfl (Or.inr (Or.inl ⟨rfl, rfl, _, rfl⟩)) hd hr) hc hn hQ
theorem own_retD (X : Stand p l e R s m args below meth c T locs cells slots) (hx : p.tables.exec = Jvm.exec) (hlk : meth.locks = false) {z : UInt64} (hret : meth.sig.returnType = some .double) (hd : decode c.code pc = .ok (.dreturn, 1)) (hc : cells ≤ kc) (hn : slots ≤ ks) (hQ : Q (some (.double z)) T.heap locs) : own_Ends p e below s Q kc ks T (mkF m pc ls [.double z]) :=
  own_leave X hlk (fun h => by rw [hret] at h; cases h) (fun fs hr => retOut X hx (t := .double) hret rfl (Or.inr (Or.inr (Or.inl ⟨rfl, rfl, _, rfl⟩))) hd hr) hc hn hQ
theorem own_retA (X : Stand p l e R s m args below meth c T locs cells slots) (hx : p.tables.exec = Jvm.exec) (hlk : meth.locks = false) {w : Value} {ty : FieldType} (hret : meth.sig.returnType = some ty) (ht : ty.isReference = true) (hw : w.isRef = true) (hn1 : narrow ty w = w) (hd : decode c.code pc = .ok (.areturn, 1)) (hc : cells ≤ kc) (hn : slots ≤ ks) (hQ : Q (some w) T.heap locs) : own_Ends p e below s Q kc ks T (mkF m pc ls (w :: st)) :=
  own_leave X hlk (fun h => by rw [hret] at h; cases h) (fun fs hr => retOut X hx (t := ty) hret hn1 (Or.inr (Or.inr (Or.inr (Or.inr ⟨rfl, ht, hw⟩)))) hd hr) hc hn hQ
theorem own_retV (X : Stand p l e R s m args below meth c T locs cells slots) (hx : p.tables.exec = Jvm.exec) (hlk : meth.locks = false) (hret : meth.sig.returnType = none) (hd : decode c.code pc = .ok (.return_, 1)) (hc : cells ≤ kc) (hn : slots ≤ ks) (hQ : Q none T.heap locs) : own_Ends p e below s Q kc ks T (mkF m pc ls []) :=
  own_leave X hlk (fun _ => rfl) (fun fs hr => X.returnOut hx hret hd hr) hc hn hQ
theorem own_iloadN (X : Stand p l e R s m args below meth c T locs cells slots) (hx : p.tables.exec = Jvm.exec) {k : Fin 4} {v : Int32} (hd : decode c.code pc = .ok (.iload_n k, 1)) (hp : pc + 1 = pc') (hl : ls[k.val]? = some (.val (.int v))) (K : own_Ends p e below s Q kc ks T (mkF m pc' ls (.int v :: st))) : own_Ends p e below s Q kc ks T (mkF m pc ls st) := by
  subst hp
  exact own_go (fun t k => XS.iloadN X.here hx rfl hd hl k) K
theorem own_iload (X : Stand p l e R s m args below meth c T locs cells slots) (hx : p.tables.exec = Jvm.exec) {k : Nat} {v : Int32} (hd : decode c.code pc = .ok (.iload k, 2)) (hp : pc + 2 = pc') (hl : ls[k]? = some (.val (.int v))) (K : own_Ends p e below s Q kc ks T (mkF m pc' ls (.int v :: st))) : own_Ends p e below s Q kc ks T (mkF m pc ls st) := by
  subst hp
  exact own_go (fun t k => XS.iload X.here hx rfl hd hl k) K
theorem own_istoreN (X : Stand p l e R s m args below meth c T locs cells slots) (hx : p.tables.exec = Jvm.exec) {k : Fin 4} {v : Int32} {l' : Array Slot} (hd : decode c.code pc = .ok (.istore_n k, 1)) (hp : pc + 1 = pc') (hl : storeLocals ls k.val (.int v) = some l') (K : own_Ends p e below s Q kc ks T (mkF m pc' l' st)) : own_Ends p e below s Q kc ks T (mkF m pc ls (.int v :: st)) := by
  subst hp
  exact own_go (fun t k => XS.istoreN X.here hx rfl hd rfl hl k) K
theorem own_istore (X : Stand p l e R s m args below meth c T locs cells slots) (hx : p.tables.exec = Jvm.exec) {k : Nat} {v : Int32} {l' : Array Slot} (hd : decode c.code pc = .ok (.istore k, 2)) (hp : pc + 2 = pc') (hl : storeLocals ls k (.int v) = some l') (K : own_Ends p e below s Q kc ks T (mkF m pc' l' st)) : own_Ends p e below s Q kc ks T (mkF m pc ls (.int v :: st)) := by
  subst hp
  exact own_go (fun t k => XS.istore X.here hx rfl hd rfl hl k) K
theorem own_lloadN (X : Stand p l e R s m args below meth c T locs cells slots) (hx : p.tables.exec = Jvm.exec) {k : Fin 4} {v : Int64} (hd : decode c.code pc = .ok (.lload_n k, 1)) (hp : pc + 1 = pc') (hl : ls[k.val]? = some (.val (.long v))) (K : own_Ends p e below s Q kc ks T (mkF m pc' ls (.long v :: st))) : own_Ends p e below s Q kc ks T (mkF m pc ls st) := by
  subst hp
  exact own_go (fun t k => XS.lloadN X.here hx rfl hd hl k) K
theorem own_lload (X : Stand p l e R s m args below meth c T locs cells slots) (hx : p.tables.exec = Jvm.exec) {k : Nat} {v : Int64} (hd : decode c.code pc = .ok (.lload k, 2)) (hp : pc + 2 = pc') (hl : ls[k]? = some (.val (.long v))) (K : own_Ends p e below s Q kc ks T (mkF m pc' ls (.long v :: st))) : own_Ends p e below s Q kc ks T (mkF m pc ls st) := by
  subst hp
  exact own_go (fun t k => XS.lload X.here hx rfl hd hl k) K
theorem own_lstoreN (X : Stand p l e R s m args below meth c T locs cells slots) (hx : p.tables.exec = Jvm.exec) {k : Fin 4} {v : Int64} {l' : Array Slot} (hd : decode c.code pc = .ok (.lstore_n k, 1)) (hp : pc + 1 = pc') (hl : storeLocals ls k.val (.long v) = some l') (K : own_Ends p e below s Q kc ks T (mkF m pc' l' st)) : own_Ends p e below s Q kc ks T (mkF m pc ls (.long v :: st)) := by
  subst hp
  exact own_go (fun t k => XS.lstoreN X.here hx rfl hd rfl hl k) K
theorem own_lstore (X : Stand p l e R s m args below meth c T locs cells slots) (hx : p.tables.exec = Jvm.exec) {k : Nat} {v : Int64} {l' : Array Slot} (hd : decode c.code pc = .ok (.lstore k, 2)) (hp : pc + 2 = pc') (hl : storeLocals ls k (.long v) = some l') (K : own_Ends p e below s Q kc ks T (mkF m pc' l' st)) : own_Ends p e below s Q kc ks T (mkF m pc ls (.long v :: st)) := by
  subst hp
  exact own_go (fun t k => XS.lstore X.here hx rfl hd rfl hl k) K
theorem own_dloadN (X : Stand p l e R s m args below meth c T locs cells slots) (hx : p.tables.exec = Jvm.exec) {k : Fin 4} {v : UInt64} (hd : decode c.code pc = .ok (.dload_n k, 1)) (hp : pc + 1 = pc') (hl : ls[k.val]? = some (.val (.double v))) (K : own_Ends p e below s Q kc ks T (mkF m pc' ls (.double v :: st))) : own_Ends p e below s Q kc ks T (mkF m pc ls st) := by
  subst hp
  exact own_go (fun t k => XS.dloadN X.here hx rfl hd hl k) K
theorem own_dload (X : Stand p l e R s m args below meth c T locs cells slots) (hx : p.tables.exec = Jvm.exec) {k : Nat} {v : UInt64} (hd : decode c.code pc = .ok (.dload k, 2)) (hp : pc + 2 = pc') (hl : ls[k]? = some (.val (.double v))) (K : own_Ends p e below s Q kc ks T (mkF m pc' ls (.double v :: st))) : own_Ends p e below s Q kc ks T (mkF m pc ls st) := by
  subst hp
  exact own_go (fun t k => XS.dload X.here hx rfl hd hl k) K
theorem own_dstoreN (X : Stand p l e R s m args below meth c T locs cells slots) (hx : p.tables.exec = Jvm.exec) {k : Fin 4} {v : UInt64} {l' : Array Slot} (hd : decode c.code pc = .ok (.dstore_n k, 1)) (hp : pc + 1 = pc') (hl : storeLocals ls k.val (.double v) = some l') (K : own_Ends p e below s Q kc ks T (mkF m pc' l' st)) : own_Ends p e below s Q kc ks T (mkF m pc ls (.double v :: st)) := by
  subst hp
  exact own_go (fun t k => XS.dstoreN X.here hx rfl hd rfl hl k) K
theorem own_dstore (X : Stand p l e R s m args below meth c T locs cells slots) (hx : p.tables.exec = Jvm.exec) {k : Nat} {v : UInt64} {l' : Array Slot} (hd : decode c.code pc = .ok (.dstore k, 2)) (hp : pc + 2 = pc') (hl : storeLocals ls k (.double v) = some l') (K : own_Ends p e below s Q kc ks T (mkF m pc' l' st)) : own_Ends p e below s Q kc ks T (mkF m pc ls (.double v :: st)) := by
  subst hp
  exact own_go (fun t k => XS.dstore X.here hx rfl hd rfl hl k) K
theorem own_aloadN (X : Stand p l e R s m args below meth c T locs cells slots) (hx : p.tables.exec = Jvm.exec) {k : Fin 4} {v : Value} (hd : decode c.code pc = .ok (.aload_n k, 1)) (hp : pc + 1 = pc') (hl : ls[k.val]? = some (.val v)) (hv : v.isRef = true) (K : own_Ends p e below s Q kc ks T (mkF m pc' ls (v :: st))) : own_Ends p e below s Q kc ks T (mkF m pc ls st) := by
  subst hp
  exact own_go (fun t k => XS.aloadN X.here hx rfl hd hl hv k) K
theorem own_aload (X : Stand p l e R s m args below meth c T locs cells slots) (hx : p.tables.exec = Jvm.exec) {k : Nat} {v : Value} (hd : decode c.code pc = .ok (.aload k, 2)) (hp : pc + 2 = pc') (hl : ls[k]? = some (.val v)) (hv : v.isRef = true) (K : own_Ends p e below s Q kc ks T (mkF m pc' ls (v :: st))) : own_Ends p e below s Q kc ks T (mkF m pc ls st) := by
  subst hp
  exact own_go (fun t k => XS.aload X.here hx rfl hd hl hv k) K
theorem own_astoreN (X : Stand p l e R s m args below meth c T locs cells slots) (hx : p.tables.exec = Jvm.exec) {k : Fin 4} {v : Value} {l' : Array Slot} (hd : decode c.code pc = .ok (.astore_n k, 1)) (hp : pc + 1 = pc') (hv : v.isRef = true) (hl : storeLocals ls k.val v = some l') (K : own_Ends p e below s Q kc ks T (mkF m pc' l' st)) : own_Ends p e below s Q kc ks T (mkF m pc ls (v :: st)) := by
  subst hp
  exact own_go (fun t k => XS.astoreN X.here hx rfl hd rfl hv hl k) K
theorem own_astore (X : Stand p l e R s m args below meth c T locs cells slots) (hx : p.tables.exec = Jvm.exec) {k : Nat} {v : Value} {l' : Array Slot} (hd : decode c.code pc = .ok (.astore k, 2)) (hp : pc + 2 = pc') (hv : v.isRef = true) (hl : storeLocals ls k v = some l') (K : own_Ends p e below s Q kc ks T (mkF m pc' l' st)) : own_Ends p e below s Q kc ks T (mkF m pc ls (v :: st)) := by
  subst hp
  exact own_go (fun t k => XS.astore X.here hx rfl hd rfl hv hl k) K
theorem own_iconst (X : Stand p l e R s m args below meth c T locs cells slots) (hx : p.tables.exec = Jvm.exec) {i : Int} {z : Int32} (hd : decode c.code pc = .ok (.iconst i, 1)) (hp : pc + 1 = pc') (hz : Int32.ofInt i = z) (K : own_Ends p e below s Q kc ks T (mkF m pc' ls (.int z :: st))) : own_Ends p e below s Q kc ks T (mkF m pc ls st) := by
  subst hp hz
  exact own_go (fun t k => XS.iconst X.here hx rfl hd k) K
theorem own_bipush (X : Stand p l e R s m args below meth c T locs cells slots) (hx : p.tables.exec = Jvm.exec) {i : Int} {z : Int32} (hd : decode c.code pc = .ok (.bipush i, 2)) (hp : pc + 2 = pc') (hz : (Int8.ofInt i).toInt32 = z) (K : own_Ends p e below s Q kc ks T (mkF m pc' ls (.int z :: st))) : own_Ends p e below s Q kc ks T (mkF m pc ls st) := by
  subst hp hz
  exact own_go (fun t k => XS.bipush X.here hx rfl hd k) K
theorem own_sipush (X : Stand p l e R s m args below meth c T locs cells slots) (hx : p.tables.exec = Jvm.exec) {i : Int} {z : Int32} (hd : decode c.code pc = .ok (.sipush i, 3)) (hp : pc + 3 = pc') (hz : (Int16.ofInt i).toInt32 = z) (K : own_Ends p e below s Q kc ks T (mkF m pc' ls (.int z :: st))) : own_Ends p e below s Q kc ks T (mkF m pc ls st) := by
  subst hp hz
  exact own_go (fun t k => XS.sipush X.here hx rfl hd k) K
theorem own_lconst (X : Stand p l e R s m args below meth c T locs cells slots) (hx : p.tables.exec = Jvm.exec) {k : Fin 2} {z : Int64} (hd : decode c.code pc = .ok (.lconst k, 1)) (hp : pc + 1 = pc') (hz : Int64.ofNat k = z) (K : own_Ends p e below s Q kc ks T (mkF m pc' ls (.long z :: st))) : own_Ends p e below s Q kc ks T (mkF m pc ls st) := by
  subst hp hz
  exact own_go (fun t k => XS.lconst X.here hx rfl hd k) K
theorem own_anull (X : Stand p l e R s m args below meth c T locs cells slots) (hx : p.tables.exec = Jvm.exec) (hd : decode c.code pc = .ok (.aconst_null, 1)) (hp : pc + 1 = pc')  (K : own_Ends p e below s Q kc ks T (mkF m pc' ls (.null :: st))) : own_Ends p e below s Q kc ks T (mkF m pc ls st) := by
  subst hp
  exact own_go (fun t k => XS.aconstNull X.here hx rfl hd k) K
theorem own_iadd (X : Stand p l e R s m args below meth c T locs cells slots) (hx : p.tables.exec = Jvm.exec) {x y z : Int32} (hd : decode c.code pc = .ok (.iadd, 1)) (hp : pc + 1 = pc') (hz : x + y = z) (K : own_Ends p e below s Q kc ks T (mkF m pc' ls (.int z :: st))) : own_Ends p e below s Q kc ks T (mkF m pc ls (.int y :: .int x :: st)) := by
  subst hp hz
  exact own_go (fun t k => XS.iadd X.here hx rfl hd rfl k) K
theorem own_ladd (X : Stand p l e R s m args below meth c T locs cells slots) (hx : p.tables.exec = Jvm.exec) {x y z : Int64} (hd : decode c.code pc = .ok (.ladd, 1)) (hp : pc + 1 = pc') (hz : x + y = z) (K : own_Ends p e below s Q kc ks T (mkF m pc' ls (.long z :: st))) : own_Ends p e below s Q kc ks T (mkF m pc ls (.long y :: .long x :: st)) := by
  subst hp hz
  exact own_go (fun t k => XS.ladd X.here hx rfl hd rfl k) K
theorem own_isub (X : Stand p l e R s m args below meth c T locs cells slots) (hx : p.tables.exec = Jvm.exec) {x y z : Int32} (hd : decode c.code pc = .ok (.isub, 1)) (hp : pc + 1 = pc') (hz : x - y = z) (K : own_Ends p e below s Q kc ks T (mkF m pc' ls (.int z :: st))) : own_Ends p e below s Q kc ks T (mkF m pc ls (.int y :: .int x :: st)) := by
  subst hp hz
  exact own_go (fun t k => XS.isub X.here hx rfl hd rfl k) K
theorem own_lsub (X : Stand p l e R s m args below meth c T locs cells slots) (hx : p.tables.exec = Jvm.exec) {x y z : Int64} (hd : decode c.code pc = .ok (.lsub, 1)) (hp : pc + 1 = pc') (hz : x - y = z) (K : own_Ends p e below s Q kc ks T (mkF m pc' ls (.long z :: st))) : own_Ends p e below s Q kc ks T (mkF m pc ls (.long y :: .long x :: st)) := by
  subst hp hz
  exact own_go (fun t k => XS.lsub X.here hx rfl hd rfl k) K
theorem own_imul (X : Stand p l e R s m args below meth c T locs cells slots) (hx : p.tables.exec = Jvm.exec) {x y z : Int32} (hd : decode c.code pc = .ok (.imul, 1)) (hp : pc + 1 = pc') (hz : x * y = z) (K : own_Ends p e below s Q kc ks T (mkF m pc' ls (.int z :: st))) : own_Ends p e below s Q kc ks T (mkF m pc ls (.int y :: .int x :: st)) := by
  subst hp hz
  exact own_go (fun t k => XS.imul X.here hx rfl hd rfl k) K
theorem own_lmul (X : Stand p l e R s m args below meth c T locs cells slots) (hx : p.tables.exec = Jvm.exec) {x y z : Int64} (hd : decode c.code pc = .ok (.lmul, 1)) (hp : pc + 1 = pc') (hz : x * y = z) (K : own_Ends p e below s Q kc ks T (mkF m pc' ls (.long z :: st))) : own_Ends p e below s Q kc ks T (mkF m pc ls (.long y :: .long x :: st)) := by
  subst hp hz
  exact own_go (fun t k => XS.lmul X.here hx rfl hd rfl k) K
theorem own_iand (X : Stand p l e R s m args below meth c T locs cells slots) (hx : p.tables.exec = Jvm.exec) {x y z : Int32} (hd : decode c.code pc = .ok (.iand, 1)) (hp : pc + 1 = pc') (hz : x &&& y = z) (K : own_Ends p e below s Q kc ks T (mkF m pc' ls (.int z :: st))) : own_Ends p e below s Q kc ks T (mkF m pc ls (.int y :: .int x :: st)) := by
  subst hp hz
  exact own_go (fun t k => XS.iand X.here hx rfl hd rfl k) K
theorem own_land (X : Stand p l e R s m args below meth c T locs cells slots) (hx : p.tables.exec = Jvm.exec) {x y z : Int64} (hd : decode c.code pc = .ok (.land, 1)) (hp : pc + 1 = pc') (hz : x &&& y = z) (K : own_Ends p e below s Q kc ks T (mkF m pc' ls (.long z :: st))) : own_Ends p e below s Q kc ks T (mkF m pc ls (.long y :: .long x :: st)) := by
  subst hp hz
  exact own_go (fun t k => XS.land X.here hx rfl hd rfl k) K
theorem own_ior (X : Stand p l e R s m args below meth c T locs cells slots) (hx : p.tables.exec = Jvm.exec) {x y z : Int32} (hd : decode c.code pc = .ok (.ior, 1)) (hp : pc + 1 = pc') (hz : x ||| y = z) (K : own_Ends p e below s Q kc ks T (mkF m pc' ls (.int z :: st))) : own_Ends p e below s Q kc ks T (mkF m pc ls (.int y :: .int x :: st)) := by
  subst hp hz
  exact own_go (fun t k => XS.ior X.here hx rfl hd rfl k) K
theorem own_lor (X : Stand p l e R s m args below meth c T locs cells slots) (hx : p.tables.exec = Jvm.exec) {x y z : Int64} (hd : decode c.code pc = .ok (.lor, 1)) (hp : pc + 1 = pc') (hz : x ||| y = z) (K : own_Ends p e below s Q kc ks T (mkF m pc' ls (.long z :: st))) : own_Ends p e below s Q kc ks T (mkF m pc ls (.long y :: .long x :: st)) := by
  subst hp hz
  exact own_go (fun t k => XS.lor X.here hx rfl hd rfl k) K
theorem own_ixor (X : Stand p l e R s m args below meth c T locs cells slots) (hx : p.tables.exec = Jvm.exec) {x y z : Int32} (hd : decode c.code pc = .ok (.ixor, 1)) (hp : pc + 1 = pc') (hz : x ^^^ y = z) (K : own_Ends p e below s Q kc ks T (mkF m pc' ls (.int z :: st))) : own_Ends p e below s Q kc ks T (mkF m pc ls (.int y :: .int x :: st)) := by
  subst hp hz
  exact own_go (fun t k => XS.ixor X.here hx rfl hd rfl k) K
theorem own_lxor (X : Stand p l e R s m args below meth c T locs cells slots) (hx : p.tables.exec = Jvm.exec) {x y z : Int64} (hd : decode c.code pc = .ok (.lxor, 1)) (hp : pc + 1 = pc') (hz : x ^^^ y = z) (K : own_Ends p e below s Q kc ks T (mkF m pc' ls (.long z :: st))) : own_Ends p e below s Q kc ks T (mkF m pc ls (.long y :: .long x :: st)) := by
  subst hp hz
  exact own_go (fun t k => XS.lxor X.here hx rfl hd rfl k) K
theorem own_ishl (X : Stand p l e R s m args below meth c T locs cells slots) (hx : p.tables.exec = Jvm.exec) {x y z : Int32} (hd : decode c.code pc = .ok (.ishl, 1)) (hp : pc + 1 = pc') (hz : x <<< (y &&& 31) = z) (K : own_Ends p e below s Q kc ks T (mkF m pc' ls (.int z :: st))) : own_Ends p e below s Q kc ks T (mkF m pc ls (.int y :: .int x :: st)) := by
  subst hp hz
  exact own_go (fun t k => XS.ishl X.here hx rfl hd rfl k) K
theorem own_ishr (X : Stand p l e R s m args below meth c T locs cells slots) (hx : p.tables.exec = Jvm.exec) {x y z : Int32} (hd : decode c.code pc = .ok (.ishr, 1)) (hp : pc + 1 = pc') (hz : x >>> (y &&& 31) = z) (K : own_Ends p e below s Q kc ks T (mkF m pc' ls (.int z :: st))) : own_Ends p e below s Q kc ks T (mkF m pc ls (.int y :: .int x :: st)) := by
  subst hp hz
  exact own_go (fun t k => XS.ishr X.here hx rfl hd rfl k) K
theorem own_iushr (X : Stand p l e R s m args below meth c T locs cells slots) (hx : p.tables.exec = Jvm.exec) {x y z : Int32} (hd : decode c.code pc = .ok (.iushr, 1)) (hp : pc + 1 = pc') (hz : (x.toUInt32 >>> (y &&& 31).toUInt32).toInt32 = z) (K : own_Ends p e below s Q kc ks T (mkF m pc' ls (.int z :: st))) : own_Ends p e below s Q kc ks T (mkF m pc ls (.int y :: .int x :: st)) := by
  subst hp hz
  exact own_go (fun t k => XS.iushr X.here hx rfl hd rfl k) K
theorem own_lshl (X : Stand p l e R s m args below meth c T locs cells slots) (hx : p.tables.exec = Jvm.exec) {x z : Int64} {y : Int32} (hd : decode c.code pc = .ok (.lshl, 1)) (hp : pc + 1 = pc') (hz : x <<< (y &&& 0x3f).toInt64 = z) (K : own_Ends p e below s Q kc ks T (mkF m pc' ls (.long z :: st))) : own_Ends p e below s Q kc ks T (mkF m pc ls (.int y :: .long x :: st)) := by
  subst hp hz
  exact own_go (fun t k => XS.lshl X.here hx rfl hd rfl k) K
theorem own_lshr (X : Stand p l e R s m args below meth c T locs cells slots) (hx : p.tables.exec = Jvm.exec) {x z : Int64} {y : Int32} (hd : decode c.code pc = .ok (.lshr, 1)) (hp : pc + 1 = pc') (hz : x >>> (y &&& 0x3f).toInt64 = z) (K : own_Ends p e below s Q kc ks T (mkF m pc' ls (.long z :: st))) : own_Ends p e below s Q kc ks T (mkF m pc ls (.int y :: .long x :: st)) := by
  subst hp hz
  exact own_go (fun t k => XS.lshr X.here hx rfl hd rfl k) K
theorem own_lushr (X : Stand p l e R s m args below meth c T locs cells slots) (hx : p.tables.exec = Jvm.exec) {x z : Int64} {y : Int32} (hd : decode c.code pc = .ok (.lushr, 1)) (hp : pc + 1 = pc') (hz : (x.toUInt64 >>> (y &&& 0x3f).toInt64.toUInt64).toInt64 = z) (K : own_Ends p e below s Q kc ks T (mkF m pc' ls (.long z :: st))) : own_Ends p e below s Q kc ks T (mkF m pc ls (.int y :: .long x :: st)) := by
  subst hp hz
  exact own_go (fun t k => XS.lushr X.here hx rfl hd rfl k) K
theorem own_idiv (X : Stand p l e R s m args below meth c T locs cells slots) (hx : p.tables.exec = Jvm.exec) {x y z : Int32} (hd : decode c.code pc = .ok (.idiv, 1)) (hp : pc + 1 = pc') (hy : y ≠ 0) (hz : x / y = z) (K : own_Ends p e below s Q kc ks T (mkF m pc' ls (.int z :: st))) : own_Ends p e below s Q kc ks T (mkF m pc ls (.int y :: .int x :: st)) := by
  subst hp hz
  exact own_go (fun t k => XS.idiv X.here hx rfl hd rfl hy k) K
theorem own_irem (X : Stand p l e R s m args below meth c T locs cells slots) (hx : p.tables.exec = Jvm.exec) {x y z : Int32} (hd : decode c.code pc = .ok (.irem, 1)) (hp : pc + 1 = pc') (hy : y ≠ 0) (hz : x % y = z) (K : own_Ends p e below s Q kc ks T (mkF m pc' ls (.int z :: st))) : own_Ends p e below s Q kc ks T (mkF m pc ls (.int y :: .int x :: st)) := by
  subst hp hz
  exact own_go (fun t k => iremM (g := mkF m pc ls (.int y :: .int x :: st)) X hx rfl hd rfl hy k) K
theorem own_ldiv (X : Stand p l e R s m args below meth c T locs cells slots) (hx : p.tables.exec = Jvm.exec) {x y z : Int64} (hd : decode c.code pc = .ok (.ldiv, 1)) (hp : pc + 1 = pc') (hy : y ≠ 0) (hz : x / y = z) (K : own_Ends p e below s Q kc ks T (mkF m pc' ls (.long z :: st))) : own_Ends p e below s Q kc ks T (mkF m pc ls (.long y :: .long x :: st)) := by
  subst hp hz
  exact own_go (fun t k => XS.ldiv X.here hx rfl hd rfl hy k) K
theorem own_lrem (X : Stand p l e R s m args below meth c T locs cells slots) (hx : p.tables.exec = Jvm.exec) {x y z : Int64} (hd : decode c.code pc = .ok (.lrem, 1)) (hp : pc + 1 = pc') (hy : y ≠ 0) (hz : x - (x / y) * y = z) (K : own_Ends p e below s Q kc ks T (mkF m pc' ls (.long z :: st))) : own_Ends p e below s Q kc ks T (mkF m pc ls (.long y :: .long x :: st)) := by
  subst hp hz
  exact own_go (fun t k => XS.lrem X.here hx rfl hd rfl hy k) K
theorem own_ineg (X : Stand p l e R s m args below meth c T locs cells slots) (hx : p.tables.exec = Jvm.exec) {x : Int32} {z : Int32} (hd : decode c.code pc = .ok (.ineg, 1)) (hp : pc + 1 = pc') (hz : -x = z) (K : own_Ends p e below s Q kc ks T (mkF m pc' ls (.int z :: st))) : own_Ends p e below s Q kc ks T (mkF m pc ls (.int x :: st)) := by
  subst hp hz
  exact own_go (fun t k => XS.ineg X.here hx rfl hd rfl k) K
theorem own_lneg (X : Stand p l e R s m args below meth c T locs cells slots) (hx : p.tables.exec = Jvm.exec) {x : Int64} {z : Int64} (hd : decode c.code pc = .ok (.lneg, 1)) (hp : pc + 1 = pc') (hz : -x = z) (K : own_Ends p e below s Q kc ks T (mkF m pc' ls (.long z :: st))) : own_Ends p e below s Q kc ks T (mkF m pc ls (.long x :: st)) := by
  subst hp hz
  exact own_go (fun t k => XS.lneg X.here hx rfl hd rfl k) K
theorem own_i2l (X : Stand p l e R s m args below meth c T locs cells slots) (hx : p.tables.exec = Jvm.exec) {x : Int32} {z : Int64} (hd : decode c.code pc = .ok (.i2l, 1)) (hp : pc + 1 = pc') (hz : x.toInt64 = z) (K : own_Ends p e below s Q kc ks T (mkF m pc' ls (.long z :: st))) : own_Ends p e below s Q kc ks T (mkF m pc ls (.int x :: st)) := by
  subst hp hz
  exact own_go (fun t k => XS.i2l X.here hx rfl hd rfl k) K
theorem own_l2i (X : Stand p l e R s m args below meth c T locs cells slots) (hx : p.tables.exec = Jvm.exec) {x : Int64} {z : Int32} (hd : decode c.code pc = .ok (.l2i, 1)) (hp : pc + 1 = pc') (hz : x.toInt32 = z) (K : own_Ends p e below s Q kc ks T (mkF m pc' ls (.int z :: st))) : own_Ends p e below s Q kc ks T (mkF m pc ls (.long x :: st)) := by
  subst hp hz
  exact own_go (fun t k => XS.l2i X.here hx rfl hd rfl k) K
theorem own_i2b (X : Stand p l e R s m args below meth c T locs cells slots) (hx : p.tables.exec = Jvm.exec) {x : Int32} {z : Int32} (hd : decode c.code pc = .ok (.i2b, 1)) (hp : pc + 1 = pc') (hz : x.toInt8.toInt32 = z) (K : own_Ends p e below s Q kc ks T (mkF m pc' ls (.int z :: st))) : own_Ends p e below s Q kc ks T (mkF m pc ls (.int x :: st)) := by
  subst hp hz
  exact own_go (fun t k => XS.i2b X.here hx rfl hd rfl k) K
theorem own_i2s (X : Stand p l e R s m args below meth c T locs cells slots) (hx : p.tables.exec = Jvm.exec) {x : Int32} {z : Int32} (hd : decode c.code pc = .ok (.i2s, 1)) (hp : pc + 1 = pc') (hz : x.toInt16.toInt32 = z) (K : own_Ends p e below s Q kc ks T (mkF m pc' ls (.int z :: st))) : own_Ends p e below s Q kc ks T (mkF m pc ls (.int x :: st)) := by
  subst hp hz
  exact own_go (fun t k => XS.i2s X.here hx rfl hd rfl k) K
theorem own_i2c (X : Stand p l e R s m args below meth c T locs cells slots) (hx : p.tables.exec = Jvm.exec) {x : Int32} {z : Int32} (hd : decode c.code pc = .ok (.i2c, 1)) (hp : pc + 1 = pc') (hz : x.toUInt32.toUInt16.toUInt32.toInt32 = z) (K : own_Ends p e below s Q kc ks T (mkF m pc' ls (.int z :: st))) : own_Ends p e below s Q kc ks T (mkF m pc ls (.int x :: st)) := by
  subst hp hz
  exact own_go (fun t k => XS.i2c X.here hx rfl hd rfl k) K
theorem own_i2d (X : Stand p l e R s m args below meth c T locs cells slots) (hx : p.tables.exec = Jvm.exec) {x : Int32} {z : UInt64} (hd : decode c.code pc = .ok (.i2d, 1)) (hp : pc + 1 = pc') (hz : FP.i2d x = z) (K : own_Ends p e below s Q kc ks T (mkF m pc' ls (.double z :: st))) : own_Ends p e below s Q kc ks T (mkF m pc ls (.int x :: st)) := by
  subst hp hz
  exact own_go (fun t k => XS.i2dS (g := mkF m pc ls (.int x :: st)) X.here hx rfl hd rfl rfl k) K
theorem own_dadd (X : Stand p l e R s m args below meth c T locs cells slots) (hx : p.tables.exec = Jvm.exec) {x y z : UInt64} (hd : decode c.code pc = .ok (.dadd, 1)) (hp : pc + 1 = pc') (hn : Jvm.Free.Fl.NoNaN64 (FP.dadd x y)) (hz : FP.dadd x y = z) (K : own_Ends p e below s Q kc ks T (mkF m pc' ls (.double z :: st))) : own_Ends p e below s Q kc ks T (mkF m pc ls (.double y :: .double x :: st)) := by
  subst hp hz
  exact own_go (fun t k => XS.daddS (g := mkF m pc ls (.double y :: .double x :: st)) X.here hx rfl hd rfl hn rfl k) K
theorem own_dmul (X : Stand p l e R s m args below meth c T locs cells slots) (hx : p.tables.exec = Jvm.exec) {x y z : UInt64} (hd : decode c.code pc = .ok (.dmul, 1)) (hp : pc + 1 = pc') (hn : Jvm.Free.Fl.NoNaN64 (FP.dmul x y)) (hz : FP.dmul x y = z) (K : own_Ends p e below s Q kc ks T (mkF m pc' ls (.double z :: st))) : own_Ends p e below s Q kc ks T (mkF m pc ls (.double y :: .double x :: st)) := by
  subst hp hz
  exact own_go (fun t k => XS.dmulS (g := mkF m pc ls (.double y :: .double x :: st)) X.here hx rfl hd rfl hn rfl k) K
theorem own_dcmp (X : Stand p l e R s m args below meth c T locs cells slots) (hx : p.tables.exec = Jvm.exec) {o : CmpOp} {x y : UInt64} {z : Int32} (hd : decode c.code pc = .ok (.dcmp o, 1)) (hp : pc + 1 = pc') (hz : cmpValue (FP.dcmp x y) o = z) (K : own_Ends p e below s Q kc ks T (mkF m pc' ls (.int z :: st))) : own_Ends p e below s Q kc ks T (mkF m pc ls (.double y :: .double x :: st)) := by
  subst hp hz
  exact own_go (fun t k => XS.dcmpS (g := mkF m pc ls (.double y :: .double x :: st)) X.here hx rfl hd rfl rfl k) K
theorem own_lcmp (X : Stand p l e R s m args below meth c T locs cells slots) (hx : p.tables.exec = Jvm.exec) {x y : Int64} {z : Int32} (hd : decode c.code pc = .ok (.lcmp, 1)) (hp : pc + 1 = pc') (hz : lcmpW x y = z) (K : own_Ends p e below s Q kc ks T (mkF m pc' ls (.int z :: st))) : own_Ends p e below s Q kc ks T (mkF m pc ls (.long y :: .long x :: st)) := by
  subst hp hz
  exact own_go (fun t k => XS.lcmp X.here hx rfl hd rfl k) K
theorem own_pop (X : Stand p l e R s m args below meth c T locs cells slots) (hx : p.tables.exec = Jvm.exec) {v : Value} (hd : decode c.code pc = .ok (.pop, 1)) (hp : pc + 1 = pc') (hc : v.category = 1) (K : own_Ends p e below s Q kc ks T (mkF m pc' ls st)) : own_Ends p e below s Q kc ks T (mkF m pc ls (v :: st)) := by
  subst hp
  exact own_go (fun t k => XS.pop X.here hx rfl hd rfl hc k) K
theorem own_dup (X : Stand p l e R s m args below meth c T locs cells slots) (hx : p.tables.exec = Jvm.exec) {v : Value} (hd : decode c.code pc = .ok (.dup, 1)) (hp : pc + 1 = pc') (hc : v.category = 1) (K : own_Ends p e below s Q kc ks T (mkF m pc' ls (v :: v :: st))) : own_Ends p e below s Q kc ks T (mkF m pc ls (v :: st)) := by
  subst hp
  exact own_go (fun t k => XS.dup X.here hx rfl hd rfl hc k) K
theorem own_dupX1 (X : Stand p l e R s m args below meth c T locs cells slots) (hx : p.tables.exec = Jvm.exec) {v w : Value} (hd : decode c.code pc = .ok (.dup_x1, 1)) (hp : pc + 1 = pc') (hc : v.category = 1) (hc' : w.category = 1) (K : own_Ends p e below s Q kc ks T (mkF m pc' ls (v :: w :: v :: st))) : own_Ends p e below s Q kc ks T (mkF m pc ls (v :: w :: st)) := by
  subst hp
  exact own_go (fun t k => XS.dupX1 X.here hx rfl hd rfl hc hc' k) K
theorem own_dup2 (X : Stand p l e R s m args below meth c T locs cells slots) (hx : p.tables.exec = Jvm.exec) {v w : Value} (hd : decode c.code pc = .ok (.dup2, 1)) (hp : pc + 1 = pc') (hc : v.category = 1) (hc' : w.category = 1) (K : own_Ends p e below s Q kc ks T (mkF m pc' ls (v :: w :: v :: w :: st))) : own_Ends p e below s Q kc ks T (mkF m pc ls (v :: w :: st)) := by
  subst hp
  exact own_go (fun t k => XT.dup2 X.here hx rfl hd rfl hc hc' k) K
theorem own_dup2L (X : Stand p l e R s m args below meth c T locs cells slots) (hx : p.tables.exec = Jvm.exec) {x : Int64} (hd : decode c.code pc = .ok (.dup2, 1)) (hp : pc + 1 = pc')  (K : own_Ends p e below s Q kc ks T (mkF m pc' ls (.long x :: .long x :: st))) : own_Ends p e below s Q kc ks T (mkF m pc ls (.long x :: st)) := by
  subst hp
  exact own_go (fun t k => XT.dup2L X.here hx rfl hd rfl k) K
theorem own_iinc (X : Stand p l e R s m args below meth c T locs cells slots) (hx : p.tables.exec = Jvm.exec) {k : Nat} {i : Int} {x z : Int32} {l' : Array Slot} (hd : decode c.code pc = .ok (.iinc k i, 3)) (hp : pc + 3 = pc') (hl : ls[k]? = some (.val (.int x))) (hz : x + Int32.ofInt i = z) (hl' : storeLocals ls k (.int z) = some l') (K : own_Ends p e below s Q kc ks T (mkF m pc' l' st)) : own_Ends p e below s Q kc ks T (mkF m pc ls st) := by
  subst hp hz
  exact own_go (fun t k => XS.iinc X.here hx rfl hd hl hl' k) K
theorem own_goto (X : Stand p l e R s m args below meth c T locs cells slots) (hx : p.tables.exec = Jvm.exec) {o : Int} (hd : decode c.code pc = .ok (.goto o, 3)) (ho : 0 ≤ (pc : Int) + o) (hp : ((pc : Int) + o).toNat = pc') (K : own_Ends p e below s Q kc ks T (mkF m pc' ls st)) : own_Ends p e below s Q kc ks T (mkF m pc ls st) :=
  own_go (fun t k => XS.goto X.here hx rfl rfl hd ho hp k) K
theorem own_ifYes (X : Stand p l e R s m args below meth c T locs cells slots) (hx : p.tables.exec = Jvm.exec) {o : Int} {cd : ClassFile.Cond} {x : Int32} (hd : decode c.code pc = .ok (.ifCond cd o, 3)) (hc : if_icmp.holds cd x 0 = true) (ho : 0 ≤ (pc : Int) + o) (hp : ((pc : Int) + o).toNat = pc') (K : own_Ends p e below s Q kc ks T (mkF m pc' ls st)) : own_Ends p e below s Q kc ks T (mkF m pc ls (.int x :: st)) :=
  own_go (fun t k => XS.ifYes X.here hx rfl rfl hd rfl ((if0 _ _).trans hc) ho hp k) K
theorem own_ifNo (X : Stand p l e R s m args below meth c T locs cells slots) (hx : p.tables.exec = Jvm.exec) {o : Int} {cd : ClassFile.Cond} {x : Int32} (hd : decode c.code pc = .ok (.ifCond cd o, 3)) (hp : pc + 3 = pc') (hc : if_icmp.holds cd x 0 = false) (K : own_Ends p e below s Q kc ks T (mkF m pc' ls st)) : own_Ends p e below s Q kc ks T (mkF m pc ls (.int x :: st)) := by
  subst hp
  exact own_go (fun t k => XS.ifNo X.here hx rfl hd rfl ((if0 _ _).trans hc) k) K
theorem own_icmpYes (X : Stand p l e R s m args below meth c T locs cells slots) (hx : p.tables.exec = Jvm.exec) {o : Int} {cd : ClassFile.Cond} {x y : Int32} (hd : decode c.code pc = .ok (.if_icmp cd o, 3)) (hc : if_icmp.holds cd x y = true) (ho : 0 ≤ (pc : Int) + o) (hp : ((pc : Int) + o).toNat = pc') (K : own_Ends p e below s Q kc ks T (mkF m pc' ls st)) : own_Ends p e below s Q kc ks T (mkF m pc ls (.int y :: .int x :: st)) :=
  own_go (fun t k => XS.icmpYes X.here hx rfl rfl hd rfl hc ho hp k) K
theorem own_icmpNo (X : Stand p l e R s m args below meth c T locs cells slots) (hx : p.tables.exec = Jvm.exec) {o : Int} {cd : ClassFile.Cond} {x y : Int32} (hd : decode c.code pc = .ok (.if_icmp cd o, 3)) (hp : pc + 3 = pc') (hc : if_icmp.holds cd x y = false) (K : own_Ends p e below s Q kc ks T (mkF m pc' ls st)) : own_Ends p e below s Q kc ks T (mkF m pc ls (.int y :: .int x :: st)) := by
  subst hp
  exact own_go (fun t k => XS.icmpNo X.here hx rfl hd rfl hc k) K
theorem own_ifnullYes (X : Stand p l e R s m args below meth c T locs cells slots) (hx : p.tables.exec = Jvm.exec) {o : Int} (hd : decode c.code pc = .ok (.ifnull o, 3)) (ho : 0 ≤ (pc : Int) + o) (hp : ((pc : Int) + o).toNat = pc') (K : own_Ends p e below s Q kc ks T (mkF m pc' ls st)) : own_Ends p e below s Q kc ks T (mkF m pc ls (.null :: st)) :=
  own_go (fun t k => XS.ifnullYes X.here hx rfl rfl hd rfl ho hp k) K
theorem own_ifnullNo (X : Stand p l e R s m args below meth c T locs cells slots) (hx : p.tables.exec = Jvm.exec) {o : Int} {b : Addr} (hd : decode c.code pc = .ok (.ifnull o, 3)) (hp : pc + 3 = pc')  (K : own_Ends p e below s Q kc ks T (mkF m pc' ls st)) : own_Ends p e below s Q kc ks T (mkF m pc ls (.ref b :: st)) := by
  subst hp
  exact own_go (fun t k => XS.ifnullNo X.here hx rfl hd rfl k) K
theorem own_ifnonnullYes (X : Stand p l e R s m args below meth c T locs cells slots) (hx : p.tables.exec = Jvm.exec) {o : Int} {b : Addr} (hd : decode c.code pc = .ok (.ifnonnull o, 3)) (ho : 0 ≤ (pc : Int) + o) (hp : ((pc : Int) + o).toNat = pc') (K : own_Ends p e below s Q kc ks T (mkF m pc' ls st)) : own_Ends p e below s Q kc ks T (mkF m pc ls (.ref b :: st)) :=
  own_go (fun t k => XS.ifnonnullYes X.here hx rfl rfl hd rfl ho hp k) K
theorem own_ifnonnullNo (X : Stand p l e R s m args below meth c T locs cells slots) (hx : p.tables.exec = Jvm.exec) {o : Int} (hd : decode c.code pc = .ok (.ifnonnull o, 3)) (hp : pc + 3 = pc')  (K : own_Ends p e below s Q kc ks T (mkF m pc' ls st)) : own_Ends p e below s Q kc ks T (mkF m pc ls (.null :: st)) := by
  subst hp
  exact own_go (fun t k => XS.ifnonnullNo X.here hx rfl hd rfl k) K
theorem own_acmpYes (X : Stand p l e R s m args below meth c T locs cells slots) (hx : p.tables.exec = Jvm.exec) {o : Int} {cd : ACond} {v w : Value} (hd : decode c.code pc = .ok (.if_acmp cd o, 3)) (h1 : v.isRef = true) (h2 : w.isRef = true) (hc : XT.acmp cd v w = true) (ho : 0 ≤ (pc : Int) + o) (hp : ((pc : Int) + o).toNat = pc') (K : own_Ends p e below s Q kc ks T (mkF m pc' ls st)) : own_Ends p e below s Q kc ks T (mkF m pc ls (w :: v :: st)) :=
  own_go (fun t k => XT.acmpYes X.here hx rfl rfl hd rfl h1 h2 hc ho hp k) K
theorem own_acmpNo (X : Stand p l e R s m args below meth c T locs cells slots) (hx : p.tables.exec = Jvm.exec) {o : Int} {cd : ACond} {v w : Value} (hd : decode c.code pc = .ok (.if_acmp cd o, 3)) (hp : pc + 3 = pc') (h1 : v.isRef = true) (h2 : w.isRef = true) (hc : XT.acmp cd v w = false) (K : own_Ends p e below s Q kc ks T (mkF m pc' ls st)) : own_Ends p e below s Q kc ks T (mkF m pc ls (w :: v :: st)) := by
  subst hp
  exact own_go (fun t k => XT.acmpNo X.here hx rfl hd rfl h1 h2 hc k) K
theorem own_ldcI (X : Stand p l e R s m args below meth c T locs cells slots) (hx : p.tables.exec = Jvm.exec) {own : String} {ix : Nat} {v : Int32} {Z : State} {a0 : Array Value} (hZ : Z.Warmed39 s.vm) (hown : s.vm.findClass own = some m.cls) (w : (Jvm.Cond.constant own ix v).before a0 Z = true) (hd : decode c.code pc = .ok (.ldc ix, 2)) (hp : pc + 2 = pc')  (K : own_Ends p e below s Q kc ks T (mkF m pc' ls (.int v :: st))) : own_Ends p e below s Q kc ks T (mkF m pc ls st) := by
  subst hp
  exact own_go (fun t k => X.ldcInt hx hown (mvT hZ w) (g := mkF m pc ls st) rfl hd t k) K
theorem own_ldcwI (X : Stand p l e R s m args below meth c T locs cells slots) (hx : p.tables.exec = Jvm.exec) {own : String} {ix : Nat} {v : Int32} {Z : State} {a0 : Array Value} (hZ : Z.Warmed39 s.vm) (hown : s.vm.findClass own = some m.cls) (w : (Jvm.Cond.constant own ix v).before a0 Z = true) (hd : decode c.code pc = .ok (.ldc_w ix, 3)) (hp : pc + 3 = pc')  (K : own_Ends p e below s Q kc ks T (mkF m pc' ls (.int v :: st))) : own_Ends p e below s Q kc ks T (mkF m pc ls st) := by
  subst hp
  exact own_go (fun t k => X.ldcwInt hx hown (mvT hZ w) (g := mkF m pc ls st) rfl hd t k) K
theorem own_ldc2J (X : Stand p l e R s m args below meth c T locs cells slots) (hx : p.tables.exec = Jvm.exec) {own : String} {ix : Nat} {v : Int64} {Z : State} {a0 : Array Value} (hZ : Z.Warmed39 s.vm) (hown : s.vm.findClass own = some m.cls) (w : (Jvm.Cond.constantLong own ix v).before a0 Z = true) (hd : decode c.code pc = .ok (.ldc2_w ix, 3)) (hp : pc + 3 = pc')  (K : own_Ends p e below s Q kc ks T (mkF m pc' ls (.long v :: st))) : own_Ends p e below s Q kc ks T (mkF m pc ls st) := by
  subst hp
  exact own_go (fun t k => X.ldc2Long hx hown (mvT hZ w) (g := mkF m pc ls st) rfl hd t k) K
theorem own_iaload (X : Stand p l e R s m args below meth c T locs cells slots) (hx : p.tables.exec = Jvm.exec) {Z : State} {h : Heap} {a : Addr} {k : ClassId} {n j : Int32} {vs : List Value} {d v : Value} (hZ : Z.Warmed39 s.vm) (eT : T.heap = h) (V : Arv Z h a k .int n vs d) (hd : decode c.code pc = .ok (.iaload, 1)) (hp : pc + 1 = pc') (hj : ¬ j < 0 ∧ j < n) (hv : vs.getD j.toNatClampNeg d = v) (K : own_Ends p e below s Q kc ks T (mkF m pc' ls (v :: st))) : own_Ends p e below s Q kc ks T (mkF m pc ls (.int j :: .ref a :: st)) := by
  subst hp
  obtain ⟨cl, A, q1, S, q2, H, G⟩ := V
  have hin := inb_of S hj
  exact own_go (fun t k => X.iaload hx (by rw [eT]; exact A.1) (State.isArrayOf_alike hZ.alike A.2.1) A.2.2 hin (H.at hin hv) (g := mkF m pc ls (.int j :: .ref a :: st)) rfl rfl hd t k) K
theorem own_laload (X : Stand p l e R s m args below meth c T locs cells slots) (hx : p.tables.exec = Jvm.exec) {Z : State} {h : Heap} {a : Addr} {k : ClassId} {n j : Int32} {vs : List Value} {d v : Value} (hZ : Z.Warmed39 s.vm) (eT : T.heap = h) (V : Arv Z h a k .long n vs d) (hd : decode c.code pc = .ok (.laload, 1)) (hp : pc + 1 = pc') (hj : ¬ j < 0 ∧ j < n) (hv : vs.getD j.toNatClampNeg d = v) (K : own_Ends p e below s Q kc ks T (mkF m pc' ls (v :: st))) : own_Ends p e below s Q kc ks T (mkF m pc ls (.int j :: .ref a :: st)) := by
  subst hp
  obtain ⟨cl, A, q1, S, q2, H, G⟩ := V
  have hin := inb_of S hj
  exact own_go (fun t k => X.laload hx (by rw [eT]; exact A.1) (State.isArrayOf_alike hZ.alike A.2.1) A.2.2 hin (H.at hin hv) (g := mkF m pc ls (.int j :: .ref a :: st)) rfl rfl hd t k) K
theorem own_caload (X : Stand p l e R s m args below meth c T locs cells slots) (hx : p.tables.exec = Jvm.exec) {Z : State} {h : Heap} {a : Addr} {k : ClassId} {n j : Int32} {vs : List Value} {d v : Value} (hZ : Z.Warmed39 s.vm) (eT : T.heap = h) (V : Arv Z h a k .char n vs d) (hd : decode c.code pc = .ok (.caload, 1)) (hp : pc + 1 = pc') (hj : ¬ j < 0 ∧ j < n) (hv : vs.getD j.toNatClampNeg d = v) (K : own_Ends p e below s Q kc ks T (mkF m pc' ls (v :: st))) : own_Ends p e below s Q kc ks T (mkF m pc ls (.int j :: .ref a :: st)) := by
  subst hp
  obtain ⟨cl, A, q1, S, q2, H, G⟩ := V
  have hin := inb_of S hj
  exact own_go (fun t k => X.caload hx (by rw [eT]; exact A.1) (State.isArrayOf_alike hZ.alike A.2.1) A.2.2 hin (H.at hin hv) (g := mkF m pc ls (.int j :: .ref a :: st)) rfl rfl hd t k) K
theorem own_baload (X : Stand p l e R s m args below meth c T locs cells slots) (hx : p.tables.exec = Jvm.exec) {Z : State} {h : Heap} {a : Addr} {k : ClassId} {n j : Int32} {vs : List Value} {d v : Value} (hZ : Z.Warmed39 s.vm) (eT : T.heap = h) (V : Arv Z h a k .byte n vs d) (hd : decode c.code pc = .ok (.baload, 1)) (hp : pc + 1 = pc') (hj : ¬ j < 0 ∧ j < n) (hv : vs.getD j.toNatClampNeg d = v) (K : own_Ends p e below s Q kc ks T (mkF m pc' ls (v :: st))) : own_Ends p e below s Q kc ks T (mkF m pc ls (.int j :: .ref a :: st)) := by
  subst hp
  obtain ⟨cl, A, q1, S, q2, H, G⟩ := V
  have hin := inb_of S hj
  exact own_go (fun t k => X.baloadBytes hx (by rw [eT]; exact A.1) (State.isArrayOf_alike hZ.alike A.2.1) A.2.2 hin (H.at hin hv) (g := mkF m pc ls (.int j :: .ref a :: st)) rfl rfl hd t k) K
theorem own_zaload (X : Stand p l e R s m args below meth c T locs cells slots) (hx : p.tables.exec = Jvm.exec) {Z : State} {h : Heap} {a : Addr} {k : ClassId} {n j : Int32} {vs : List Value} {d v : Value} (hZ : Z.Warmed39 s.vm) (eT : T.heap = h) (V : Arv Z h a k .boolean n vs d) (hd : decode c.code pc = .ok (.baload, 1)) (hp : pc + 1 = pc') (hj : ¬ j < 0 ∧ j < n) (hv : vs.getD j.toNatClampNeg d = v) (K : own_Ends p e below s Q kc ks T (mkF m pc' ls (v :: st))) : own_Ends p e below s Q kc ks T (mkF m pc ls (.int j :: .ref a :: st)) := by
  subst hp
  obtain ⟨cl, A, q1, S, q2, H, G⟩ := V
  have hin := inb_of S hj
  exact own_go (fun t k => X.baloadBooleans hx (by rw [eT]; exact A.1) (State.isArrayOf_alike hZ.alike A.2.1) A.2.2 hin (H.at hin hv) (g := mkF m pc ls (.int j :: .ref a :: st)) rfl rfl hd t k) K
theorem own_daload (X : Stand p l e R s m args below meth c T locs cells slots) (hx : p.tables.exec = Jvm.exec) {Z : State} {h : Heap} {a : Addr} {k : ClassId} {n j : Int32} {vs : List Value} {d v : Value} (hZ : Z.Warmed39 s.vm) (eT : T.heap = h) (V : Arv Z h a k .double n vs d) (hd : decode c.code pc = .ok (.daload, 1)) (hp : pc + 1 = pc') (hj : ¬ j < 0 ∧ j < n) (hv : vs.getD j.toNatClampNeg d = v) (K : own_Ends p e below s Q kc ks T (mkF m pc' ls (v :: st))) : own_Ends p e below s Q kc ks T (mkF m pc ls (.int j :: .ref a :: st)) := by
  subst hp
  obtain ⟨cl, A, q1, S, q2, H, G⟩ := V
  have hin := inb_of S hj
  exact own_go (fun t k => X.daload hx (by rw [eT]; exact A.1) (State.isArrayOf_alike hZ.alike A.2.1) A.2.2 hin (H.at hin hv) (g := mkF m pc ls (.int j :: .ref a :: st)) rfl rfl hd t k) K
theorem own_alen (X : Stand p l e R s m args below meth c T locs cells slots) (hx : p.tables.exec = Jvm.exec) {Z : State} {h : Heap} {a : Addr} {k : ClassId} {ty : FieldType} {n : Int32} {vs : List Value} {d : Value} (hZ : Z.Warmed39 s.vm) (eT : T.heap = h) (V : Arv Z h a k ty n vs d) (hd : decode c.code pc = .ok (.arraylength, 1)) (hp : pc + 1 = pc')  (K : own_Ends p e below s Q kc ks T (mkF m pc' ls (.int n :: st))) : own_Ends p e below s Q kc ks T (mkF m pc ls (.ref a :: st)) := by
  subst hp
  obtain ⟨cl, A, q1, S, q2, H, G⟩ := V
  rw [← len_of S q2] at K
  exact own_go (fun t k => X.arraylength hx (by rw [eT]; exact A.1) (State.isArrayOf_alike hZ.alike A.2.1) (g := mkF m pc ls (.ref a :: st)) rfl rfl hd t k) K
theorem own_iastore (X : Stand p l e R s m args below meth c T locs cells slots) (hx : p.tables.exec = Jvm.exec) {Z : State} {h : Heap} {a : Addr} {k : ClassId} {n j : Int32} {vs : List Value} {d : Value} {x : Int32} (hZ : Z.Warmed39 s.vm) (eT : T.heap = h) (V : Arv Z h a k .int n vs d) (hd : decode c.code pc = .ok (.iastore, 1)) (hp : pc + 1 = pc') (hj : ¬ j < 0 ∧ j < n) (i : Nat) (hi : j.toNatClampNeg = i) (hl : i < vs.length) {n0 : Nat} (N : Fr n0 locs) (ge : n0 ≤ a)
    (K : ∀ T' h' L, Stand p l e R s m args below meth c T' L cells slots → T'.heap = h' → Fr n0 L → Wr h h' a j.toNatClampNeg (.int x) → Arv Z h' a k .int n (vs.set i (.int x)) d → own_Ends p e below s Q kc ks T' (mkF m pc' ls st)) : own_Ends p e below s Q kc ks T (mkF m pc ls (.int x :: .int j :: .ref a :: st)) := by
  subst hp
  obtain ⟨cl, A, q1, S, q2, H, G⟩ := V
  have hin := inb_of S hj
  obtain ⟨T1, h1, X1, e1, W1, st1⟩ := stI X hx hZ eT A (j := j) hin (g := mkF m pc ls (.int x :: .int j :: .ref a :: st)) rfl rfl hd
  exact own_go st1 (K T1 h1 _ X1 e1 (Fr.snoc X1 N ge) W1 (Arv.set A q1 S q2 H G rfl W1 i hi hl))
theorem own_lastore (X : Stand p l e R s m args below meth c T locs cells slots) (hx : p.tables.exec = Jvm.exec) {Z : State} {h : Heap} {a : Addr} {k : ClassId} {n j : Int32} {vs : List Value} {d : Value} {x : Int64} (hZ : Z.Warmed39 s.vm) (eT : T.heap = h) (V : Arv Z h a k .long n vs d) (hd : decode c.code pc = .ok (.lastore, 1)) (hp : pc + 1 = pc') (hj : ¬ j < 0 ∧ j < n) (i : Nat) (hi : j.toNatClampNeg = i) (hl : i < vs.length) {n0 : Nat} (N : Fr n0 locs) (ge : n0 ≤ a)
    (K : ∀ T' h' L, Stand p l e R s m args below meth c T' L cells slots → T'.heap = h' → Fr n0 L → Wr h h' a j.toNatClampNeg (.long x) → Arv Z h' a k .long n (vs.set i (.long x)) d → own_Ends p e below s Q kc ks T' (mkF m pc' ls st)) : own_Ends p e below s Q kc ks T (mkF m pc ls (.long x :: .int j :: .ref a :: st)) := by
  subst hp
  obtain ⟨cl, A, q1, S, q2, H, G⟩ := V
  have hin := inb_of S hj
  obtain ⟨T1, h1, X1, e1, W1, st1⟩ := stJ X hx hZ eT A (j := j) hin (g := mkF m pc ls (.long x :: .int j :: .ref a :: st)) rfl rfl hd
  exact own_go st1 (K T1 h1 _ X1 e1 (Fr.snoc X1 N ge) W1 (Arv.set A q1 S q2 H G rfl W1 i hi hl))
theorem own_dastore (X : Stand p l e R s m args below meth c T locs cells slots) (hx : p.tables.exec = Jvm.exec) {Z : State} {h : Heap} {a : Addr} {k : ClassId} {n j : Int32} {vs : List Value} {d : Value} {x : UInt64} (hZ : Z.Warmed39 s.vm) (eT : T.heap = h) (V : Arv Z h a k .double n vs d) (hd : decode c.code pc = .ok (.dastore, 1)) (hp : pc + 1 = pc') (hj : ¬ j < 0 ∧ j < n) (i : Nat) (hi : j.toNatClampNeg = i) (hl : i < vs.length) {n0 : Nat} (N : Fr n0 locs) (ge : n0 ≤ a)
    (K : ∀ T' h' L, Stand p l e R s m args below meth c T' L cells slots → T'.heap = h' → Fr n0 L → Wr h h' a j.toNatClampNeg (.double x) → Arv Z h' a k .double n (vs.set i (.double x)) d → own_Ends p e below s Q kc ks T' (mkF m pc' ls st)) : own_Ends p e below s Q kc ks T (mkF m pc ls (.double x :: .int j :: .ref a :: st)) := by
  subst hp
  obtain ⟨cl, A, q1, S, q2, H, G⟩ := V
  have hin := inb_of S hj
  obtain ⟨T1, h1, X1, e1, W1, st1⟩ := stD X hx hZ eT A (j := j) hin (g := mkF m pc ls (.double x :: .int j :: .ref a :: st)) rfl rfl hd
  exact own_go st1 (K T1 h1 _ X1 e1 (Fr.snoc X1 N ge) W1 (Arv.set A q1 S q2 H G rfl W1 i hi hl))
theorem own_castore (X : Stand p l e R s m args below meth c T locs cells slots) (hx : p.tables.exec = Jvm.exec) {Z : State} {h : Heap} {a : Addr} {k : ClassId} {n j : Int32} {vs : List Value} {d : Value} {x : Int32} (hZ : Z.Warmed39 s.vm) (eT : T.heap = h) (V : Arv Z h a k .char n vs d) (hd : decode c.code pc = .ok (.castore, 1)) (hp : pc + 1 = pc') (hj : ¬ j < 0 ∧ j < n) (i : Nat) (hi : j.toNatClampNeg = i) (hl : i < vs.length) {n0 : Nat} (N : Fr n0 locs) (ge : n0 ≤ a)
    (K : ∀ T' h' L, Stand p l e R s m args below meth c T' L cells slots → T'.heap = h' → Fr n0 L → Wr h h' a j.toNatClampNeg (.int (nar .char x)) → Arv Z h' a k .char n (vs.set i (.int (nar .char x))) d → own_Ends p e below s Q kc ks T' (mkF m pc' ls st)) : own_Ends p e below s Q kc ks T (mkF m pc ls (.int x :: .int j :: .ref a :: st)) := by
  subst hp
  obtain ⟨cl, A, q1, S, q2, H, G⟩ := V
  have hin := inb_of S hj
  obtain ⟨T1, h1, X1, e1, W1, st1⟩ := stC X hx hZ eT A (j := j) hin (g := mkF m pc ls (.int x :: .int j :: .ref a :: st)) rfl rfl hd
  exact own_go st1 (K T1 h1 _ X1 e1 (Fr.snoc X1 N ge) W1 (Arv.set A q1 S q2 H G (fits_nar_char _) W1 i hi hl))
theorem own_bastore (X : Stand p l e R s m args below meth c T locs cells slots) (hx : p.tables.exec = Jvm.exec) {Z : State} {h : Heap} {a : Addr} {k : ClassId} {n j : Int32} {vs : List Value} {d : Value} {x : Int32} (hZ : Z.Warmed39 s.vm) (eT : T.heap = h) (V : Arv Z h a k .byte n vs d) (hd : decode c.code pc = .ok (.bastore, 1)) (hp : pc + 1 = pc') (hj : ¬ j < 0 ∧ j < n) (i : Nat) (hi : j.toNatClampNeg = i) (hl : i < vs.length) {n0 : Nat} (N : Fr n0 locs) (ge : n0 ≤ a)
    (K : ∀ T' h' L, Stand p l e R s m args below meth c T' L cells slots → T'.heap = h' → Fr n0 L → Wr h h' a j.toNatClampNeg (.int (nar .byte x)) → Arv Z h' a k .byte n (vs.set i (.int (nar .byte x))) d → own_Ends p e below s Q kc ks T' (mkF m pc' ls st)) : own_Ends p e below s Q kc ks T (mkF m pc ls (.int x :: .int j :: .ref a :: st)) := by
  subst hp
  obtain ⟨cl, A, q1, S, q2, H, G⟩ := V
  have hin := inb_of S hj
  obtain ⟨T1, h1, X1, e1, W1, st1⟩ := stB X hx hZ eT A (j := j) hin (g := mkF m pc ls (.int x :: .int j :: .ref a :: st)) rfl rfl hd
  exact own_go st1 (K T1 h1 _ X1 e1 (Fr.snoc X1 N ge) W1 (Arv.set A q1 S q2 H G (fits_nar_byte _) W1 i hi hl))
theorem own_zastore (X : Stand p l e R s m args below meth c T locs cells slots) (hx : p.tables.exec = Jvm.exec) {Z : State} {h : Heap} {a : Addr} {k : ClassId} {n j : Int32} {vs : List Value} {d : Value} {x : Int32} (hZ : Z.Warmed39 s.vm) (eT : T.heap = h) (V : Arv Z h a k .boolean n vs d) (hd : decode c.code pc = .ok (.bastore, 1)) (hp : pc + 1 = pc') (hj : ¬ j < 0 ∧ j < n) (i : Nat) (hi : j.toNatClampNeg = i) (hl : i < vs.length) {n0 : Nat} (N : Fr n0 locs) (ge : n0 ≤ a)
    (K : ∀ T' h' L, Stand p l e R s m args below meth c T' L cells slots → T'.heap = h' → Fr n0 L → Wr h h' a j.toNatClampNeg (.int (nar .boolean x)) → Arv Z h' a k .boolean n (vs.set i (.int (nar .boolean x))) d → own_Ends p e below s Q kc ks T' (mkF m pc' ls st)) : own_Ends p e below s Q kc ks T (mkF m pc ls (.int x :: .int j :: .ref a :: st)) := by
  subst hp
  obtain ⟨cl, A, q1, S, q2, H, G⟩ := V
  have hin := inb_of S hj
  obtain ⟨T1, h1, X1, e1, W1, st1⟩ := stZ X hx hZ eT A (j := j) hin (g := mkF m pc ls (.int x :: .int j :: .ref a :: st)) rfl rfl hd
  exact own_go st1 (K T1 h1 _ X1 e1 (Fr.snoc X1 N ge) W1 (Arv.set A q1 S q2 H G (fits_nar_bool _) W1 i hi hl))
theorem own_newarr (X : Stand p l e R s m args below meth c T locs cells slots) (hx : p.tables.exec = Jvm.exec) {Z : State} {a0 : Array Value} {h : Heap} {aty : ArrayType} (hZ : Z.Warmed39 s.vm) (w : (Jvm.Cond.arrayClass (newarray.typeOf aty)).before a0 Z = true) (eT : T.heap = h) (hd : decode c.code pc = .ok (.newarray aty, 2)) (hp : pc + 2 = pc') {n : Int32} (hn : ¬ n < 0) (cap q : Nat) (hcap : n.toNatClampNeg ≤ cap) (hb : cap * 8 ≤ 536870912) (hc : cells + 1 ≤ R.cells) (hl : slots + cap ≤ R.slots)
    (K : ∀ T' h' a k, Stand p l e R s m args below meth c T' locs (cells + 1) (slots + cap) → T'.heap = h' → Ext h h' → a = h.size → Arv Z h' a k (newarray.typeOf aty) n (List.replicate q (defaultValue (newarray.typeOf aty))) (defaultValue (newarray.typeOf aty)) → own_Ends p e below s Q kc ks T' (mkF m pc' ls (.ref a :: st))) : own_Ends p e below s Q kc ks T (mkF m pc ls (.int n :: st)) := by
  subst hp
  obtain ⟨T1, h1, k1, X1, e1, E1, A1, st1⟩ := newP X hx hZ w eT (g := mkF m pc ls (.int n :: st)) rfl hd rfl hn (cap := cap) hcap hb hc hl
  exact own_go st1 (K T1 h1 _ k1 X1 e1 E1 rfl ((Arv.new A1 hn).pad (pad_rep [] _ q)))
theorem own_newarrE (X : Stand p l e R s m args below meth c T locs cells slots) (hx : p.tables.exec = Jvm.exec) {Z : State} {a0 : Array Value} {h : Heap} {aty : ArrayType} (hZ : Z.Warmed39 s.vm) (w : (Jvm.Cond.arrayClass (newarray.typeOf aty)).before a0 Z = true) (eT : T.heap = h) (hd : decode c.code pc = .ok (.newarray aty, 2)) (hp : pc + 2 = pc') {n : Int32} (hn : ¬ n < 0) (cap q : Nat) (hcap : n.toNatClampNeg ≤ cap) (hb : cap * 8 ≤ 536870912) (hc : cells + 1 ≤ R.cells) (hl : slots + cap ≤ R.slots) {ad : String} (had : "[" ++ (newarray.typeOf aty).toString = ad)
    (K : ∀ T' h' a k, Stand p l e R s m args below meth c T' locs (cells + 1) (slots + cap) → T'.heap = h' → Ext h h' → a = h.size → Arv Z h' a k (newarray.typeOf aty) n (List.replicate q (defaultValue (newarray.typeOf aty))) (defaultValue (newarray.typeOf aty)) → Exa Z h' a ad → own_Ends p e below s Q kc ks T' (mkF m pc' ls (.ref a :: st))) : own_Ends p e below s Q kc ks T (mkF m pc ls (.int n :: st)) := by
  subst hp
  obtain ⟨T1, h1, k1, X1, e1, E1, A1, Z1, st1⟩ := newPE X hx hZ w eT (g := mkF m pc ls (.int n :: st)) rfl hd rfl hn (cap := cap) hcap hb hc hl had
  exact own_go st1 (K T1 h1 _ k1 X1 e1 E1 rfl ((Arv.new A1 hn).pad (pad_rep [] _ q)) Z1)
theorem own_callS (X : Stand p l e R s m args below meth c T locs cells slots) (hx : p.tables.exec = Jvm.exec) {Z : State} {a0 : Array Value} {h : Heap} {own : String} {ix : Nat} {y : MethodName} {bytes : ByteArray} {maxL W : Nat} {ret : Option FieldType} {rm : Room} {Qc : Option Value → Heap → List Loc → Prop} {argsL rest : List Value} (hZ : Z.Warmed39 s.vm) (eT : T.heap = h) (hown : s.vm.findClass own = some m.cls) (hsz : ls.size = c.maxLocals) (wl : (Jvm.Cond.methodLink own ix y).before a0 Z = true) (ws : (Jvm.Cond.static y).before a0 Z = true) (wi : (Jvm.Cond.initialized y.cls).before a0 Z = true) (wc : (Jvm.Cond.code y bytes maxL ret).before a0 Z = true) (hy : y.cls ≠ "java/lang/invoke/MethodHandle" ∧ y.cls ≠ "java/lang/invoke/VarHandle") (hM : MetFree l y (head1 [Jvm.Cond.code y bytes maxL ret] rm) (fun a U => a = argsL.toArray ∧ Z.Warmed39 U.vm ∧ U.heap = h) (fun _ _ _ _ _ => True) (fun _ U o U' => ∃ v L, o = .returned v ∧ Qc v U'.heap L ∧ FrameEnd U o U' L rm.cells rm.slots)) (hf : rm.frames + 1 ≤ R.frames) (hlo : W + (maxL + 11) + rm.locals ≤ R.locals) (hcl : cells + rm.cells ≤ R.cells) (hsl : slots + rm.slots ≤ R.slots)
    (hlen : ∀ sig, parseMethodDescriptor y.desc = some sig → argsL.length = sig.parameters.length) (hst : st = argsL.reverse ++ rest) (hW : 2 * 0 + (rest.map fun v => v.category).sum ≤ W) (hd : decode c.code pc = .ok (.invokestatic ix, 3)) (hp : pc + 3 = pc') (K : ∀ T' L v, Stand p l e R s m args below meth c T' (locs ++ L) (cells + rm.cells) (slots + rm.slots) → Qc v T'.heap L → own_Ends p e below s Q kc ks T' (mkF m pc' ls (v.toList ++ rest))) : own_Ends p e below s Q kc ks T (mkF m pc ls st) := by
  subst hp
  obtain ⟨v, _, ⟨T1, L1, k1, n1⟩, -, X1, ⟨Lc, hQ, r1, r2, r3⟩, st1⟩ := Jvm.LawKit.callS X hx (y := y) hown (mvT hZ wl) (mvT hZ ws) (mvT hZ wi) (mvT hZ wc) hy (backOf (W := W) hM hZ wc wi hf hlo) (g := mkF m pc ls st) rfl hsz (argsL := argsL) (rest := rest) hlen hst hW hd (fun _ _ => ⟨rfl, eT, hcl, hsl⟩)
  dsimp only [Pt.U, Pt.locs, Pt.cells, Pt.slots] at X1 r1 r2 r3 st1 hQ
  subst r1 r2 r3
  exact own_go (st1) (K T1 Lc v X1 hQ)
theorem own_callC (X : Stand p l e R s m args below meth c T locs cells slots) (hx : p.tables.exec = Jvm.exec) {b : Addr} {Z : State} {a0 : Array Value} {h : Heap} {own : String} {ix : Nat} {y : MethodName} {bytes : ByteArray} {maxL W : Nat} {ret : Option FieldType} {rm : Room} {Qc : Option Value → Heap → List Loc → Prop} {argsL rest : List Value} (hZ : Z.Warmed39 s.vm) (eT : T.heap = h) (hown : s.vm.findClass own = some m.cls) (hsz : ls.size = c.maxLocals) (hret : ret = none) (hinit : y.name = "<init>") (wl : (Jvm.Cond.methodLink own ix y).before a0 Z = true) (wm : (Jvm.Cond.instanceMethod y).before a0 Z = true) (wi : (Jvm.Cond.initialized y.cls).before a0 Z = true) (wc : (Jvm.Cond.code y bytes maxL ret).before a0 Z = true) (hy : y.cls ≠ "java/lang/invoke/MethodHandle" ∧ y.cls ≠ "java/lang/invoke/VarHandle") (hM : MetFree l y (head1 [Jvm.Cond.code y bytes maxL ret] rm) (fun a U => a = (Value.ref b :: argsL).toArray ∧ Z.Warmed39 U.vm ∧ U.heap = h) (fun _ _ _ _ _ => True) (fun _ U o U' => ∃ v L, o = .returned v ∧ Qc v U'.heap L ∧ FrameEnd U o U' L rm.cells rm.slots)) (hf : rm.frames + 1 ≤ R.frames) (hlo : W + (maxL + 11) + rm.locals ≤ R.locals) (hcl : cells + rm.cells ≤ R.cells) (hsl : slots + rm.slots ≤ R.slots)
    (hlen : ∀ sig, parseMethodDescriptor y.desc = some sig → argsL.length = sig.parameters.length) (hst : st = argsL.reverse ++ .ref b :: rest) (hW : 2 * 0 + (rest.map fun v => v.category).sum ≤ W) (hd : decode c.code pc = .ok (.invokespecial ix, 3)) (hp : pc + 3 = pc') (K : ∀ T' L v, Stand p l e R s m args below meth c T' (locs ++ L) (cells + rm.cells) (slots + rm.slots) → Qc v T'.heap L → own_Ends p e below s Q kc ks T' (mkF m pc' ls (v.toList ++ rest))) : own_Ends p e below s Q kc ks T (mkF m pc ls st) := by
  subst hp hret
  obtain ⟨v, _, ⟨T1, L1, k1, n1⟩, -, X1, ⟨Lc, hQ, r1, r2, r3⟩, st1⟩ := X.specialBack hx (y := y) hinit hown (mvT hZ wl) (mvT hZ wm) (mvT hZ wc) hy (backOf (W := W) hM hZ wc wi hf hlo) (g := mkF m pc ls st) rfl hsz (Steps.refl _) (a := b) (argsL := argsL) (rest := rest) hlen hst hW hd (fun _ _ => ⟨rfl, eT, hcl, hsl⟩)
  dsimp only [Pt.U, Pt.locs, Pt.cells, Pt.slots] at X1 r1 r2 r3 st1 hQ
  subst r1 r2 r3
  exact own_go (fun t k => st1.trans k) (K T1 Lc v X1 hQ)
theorem own_callV (X : Stand p l e R s m args below meth c T locs cells slots) (hx : p.tables.exec = Jvm.exec) {b : Addr} {C : String} {Z : State} {a0 : Array Value} {h : Heap} {own : String} {ix : Nat} {y : MethodName} {bytes : ByteArray} {maxL W : Nat} {ret : Option FieldType} {rm : Room} {Qc : Option Value → Heap → List Loc → Prop} {argsL rest : List Value} (hZ : Z.Warmed39 s.vm) (eT : T.heap = h) (hown : s.vm.findClass own = some m.cls) (hsz : ls.size = c.maxLocals) (E : Exa Z h b C) (wl : (Jvm.Cond.methodLink own ix y).before a0 Z = true) (wd : (Jvm.Cond.declares y).before a0 Z = true) (wsel : (Jvm.Cond.selects C y y).before a0 Z = true) (wm : (Jvm.Cond.instanceMethod y).before a0 Z = true) (wi : (Jvm.Cond.initialized y.cls).before a0 Z = true) (wc : (Jvm.Cond.code y bytes maxL ret).before a0 Z = true) (hy : y.cls ≠ "java/lang/invoke/MethodHandle" ∧ y.cls ≠ "java/lang/invoke/VarHandle") (hM : MetFree l y (head1 [Jvm.Cond.code y bytes maxL ret] rm) (fun a U => a = (Value.ref b :: argsL).toArray ∧ Z.Warmed39 U.vm ∧ U.heap = h) (fun _ _ _ _ _ => True) (fun _ U o U' => ∃ v L, o = .returned v ∧ Qc v U'.heap L ∧ FrameEnd U o U' L rm.cells rm.slots)) (hf : rm.frames + 1 ≤ R.frames) (hlo : W + (maxL + 11) + rm.locals ≤ R.locals) (hcl : cells + rm.cells ≤ R.cells) (hsl : slots + rm.slots ≤ R.slots)
    (hlen : ∀ sig, parseMethodDescriptor y.desc = some sig → argsL.length = sig.parameters.length) (hst : st = argsL.reverse ++ .ref b :: rest) (hW : 2 * 0 + (rest.map fun v => v.category).sum ≤ W) (hd : decode c.code pc = .ok (.invokevirtual ix, 3)) (hp : pc + 3 = pc') (K : ∀ T' L v, Stand p l e R s m args below meth c T' (locs ++ L) (cells + rm.cells) (slots + rm.slots) → Qc v T'.heap L → own_Ends p e below s Q kc ks T' (mkF m pc' ls (v.toList ++ rest))) : own_Ends p e below s Q kc ks T (mkF m pc ls st) := by
  subst hp
  obtain ⟨cq, kq, qa, qb, qc⟩ := isOf hZ eT E
  obtain ⟨v, _, ⟨T1, L1, k1, n1⟩, -, X1, ⟨Lc, hQ, r1, r2, r3⟩, st1⟩ := X.virtualBack hx (y := y) (z := y) hown (mvT hZ wl) (mvT hZ wd) (notFace_of_selects (args := #[]) (mvT hZ wsel)) (mvT hZ wsel) (mvT hZ wm) hy (backOf (W := W) hM hZ wc wi hf hlo) qa qc (g := mkF m pc ls st) rfl hsz (Steps.refl _) (argsL := argsL) (rest := rest) hlen hst hW hd (fun _ _ => ⟨rfl, eT, hcl, hsl⟩)
  dsimp only [Pt.U, Pt.locs, Pt.cells, Pt.slots] at X1 r1 r2 r3 st1 hQ
  subst r1 r2 r3
  exact own_go (fun t k => st1.trans k) (K T1 Lc v X1 hQ)
theorem own_callP (X : Stand p l e R s m args below meth c T locs cells slots) (hx : p.tables.exec = Jvm.exec) {b : Addr} {C : String} {Z : State} {a0 : Array Value} {h : Heap} {own : String} {ix : Nat} {y : MethodName} {bytes : ByteArray} {maxL W : Nat} {ret : Option FieldType} {rm : Room} {Qc : Option Value → Heap → List Loc → Prop} {argsL rest : List Value} (hZ : Z.Warmed39 s.vm) (eT : T.heap = h) (hown : s.vm.findClass own = some m.cls) (hsz : ls.size = c.maxLocals) (E : Exa Z h b C) (wl : (Jvm.Cond.methodLink own ix y).before a0 Z = true) (wsel : (Jvm.Cond.selects y.cls y y).before a0 Z = true) (wp : (Jvm.Cond.privateMethod y).before a0 Z = true) (wm : (Jvm.Cond.instanceMethod y).before a0 Z = true) (wi : (Jvm.Cond.initialized y.cls).before a0 Z = true) (wc : (Jvm.Cond.code y bytes maxL ret).before a0 Z = true) (hy : y.cls ≠ "java/lang/invoke/MethodHandle" ∧ y.cls ≠ "java/lang/invoke/VarHandle") (hM : MetFree l y (head1 [Jvm.Cond.code y bytes maxL ret] rm) (fun a U => a = (Value.ref b :: argsL).toArray ∧ Z.Warmed39 U.vm ∧ U.heap = h) (fun _ _ _ _ _ => True) (fun _ U o U' => ∃ v L, o = .returned v ∧ Qc v U'.heap L ∧ FrameEnd U o U' L rm.cells rm.slots)) (hf : rm.frames + 1 ≤ R.frames) (hlo : W + (maxL + 11) + rm.locals ≤ R.locals) (hcl : cells + rm.cells ≤ R.cells) (hsl : slots + rm.slots ≤ R.slots)
    (hlen : ∀ sig, parseMethodDescriptor y.desc = some sig → argsL.length = sig.parameters.length) (hst : st = argsL.reverse ++ .ref b :: rest) (hW : 2 * 0 + (rest.map fun v => v.category).sum ≤ W) (hd : decode c.code pc = .ok (.invokevirtual ix, 3)) (hp : pc + 3 = pc') (K : ∀ T' L v, Stand p l e R s m args below meth c T' (locs ++ L) (cells + rm.cells) (slots + rm.slots) → Qc v T'.heap L → own_Ends p e below s Q kc ks T' (mkF m pc' ls (v.toList ++ rest))) : own_Ends p e below s Q kc ks T (mkF m pc ls st) := by
  subst hp
  obtain ⟨cq, qa, qb⟩ := E.cell
  obtain ⟨v, _, ⟨T1, L1, k1, n1⟩, -, X1, ⟨Lc, hQ, r1, r2, r3⟩, st1⟩ := X.privateBack hx (y := y) hown (mvT hZ wl) (mvT hZ wm) (mvT hZ wsel) (Jvm.Cond.privateMethod_at (mvP hZ wp (args := #[]))) (mvT hZ wc) hy (backOf (W := W) hM hZ wc wi hf hlo) (g := mkF m pc ls st) rfl hsz (Steps.refl _) (a := b) (by rw [eT]; exact qa) qb (argsL := argsL) (rest := rest) hlen hst hW hd (fun _ _ => ⟨rfl, eT, hcl, hsl⟩)
  dsimp only [Pt.U, Pt.locs, Pt.cells, Pt.slots] at X1 r1 r2 r3 st1 hQ
  subst r1 r2 r3
  exact own_go (fun t k => st1.trans k) (K T1 Lc v X1 hQ)
theorem own_mvM {Z : State} {a0 args : Array Value} {own host : String} {ix : Nat} {y : MethodName} (hZ : Z.Warmed39 s.vm) (w : (Jvm.Cond.methodLinkNest own ix y host).before a0 Z = true) : (Jvm.Cond.methodLinkNest own ix y host).before args s = true := (Jvm.Cond.methodLinkNest_wide hZ w :)
theorem own_callN (X : Stand p l e R s m args below meth c T locs cells slots) (hx : p.tables.exec = Jvm.exec) {b : Addr} {host : String} {Z : State} {a0 : Array Value} {h : Heap} {own : String} {ix : Nat} {y : MethodName} {bytes : ByteArray} {maxL W : Nat} {ret : Option FieldType} {rm : Room} {Qc : Option Value → Heap → List Loc → Prop} {argsL rest : List Value} (hZ : Z.Warmed39 s.vm) (eT : T.heap = h) (hown : s.vm.findClass own = some m.cls) (hsz : ls.size = c.maxLocals) (hret : ret = none) (hinit : y.name = "<init>") (wl : (Jvm.Cond.methodLinkNest own ix y host).before a0 Z = true) (wm : (Jvm.Cond.instanceMethod y).before a0 Z = true) (wi : (Jvm.Cond.initialized y.cls).before a0 Z = true) (wc : (Jvm.Cond.code y bytes maxL ret).before a0 Z = true) (hy : y.cls ≠ "java/lang/invoke/MethodHandle" ∧ y.cls ≠ "java/lang/invoke/VarHandle") (hM : MetFree l y (head1 [Jvm.Cond.code y bytes maxL ret] rm) (fun a U => a = (Value.ref b :: argsL).toArray ∧ Z.Warmed39 U.vm ∧ U.heap = h) (fun _ _ _ _ _ => True) (fun _ U o U' => ∃ v L, o = .returned v ∧ Qc v U'.heap L ∧ FrameEnd U o U' L rm.cells rm.slots)) (hf : rm.frames + 1 ≤ R.frames) (hlo : W + (maxL + 11) + rm.locals ≤ R.locals) (hcl : cells + rm.cells ≤ R.cells) (hsl : slots + rm.slots ≤ R.slots)
    (hlen : ∀ sig, parseMethodDescriptor y.desc = some sig → argsL.length = sig.parameters.length) (hst : st = argsL.reverse ++ .ref b :: rest) (hW : 2 * 0 + (rest.map fun v => v.category).sum ≤ W) (hd : decode c.code pc = .ok (.invokespecial ix, 3)) (hp : pc + 3 = pc') (K : ∀ T' L v, Stand p l e R s m args below meth c T' (locs ++ L) (cells + rm.cells) (slots + rm.slots) → Qc v T'.heap L → own_Ends p e below s Q kc ks T' (mkF m pc' ls (v.toList ++ rest))) : own_Ends p e below s Q kc ks T (mkF m pc ls st) := by
  subst hp hret
  obtain ⟨v, _, ⟨T1, L1, k1, n1⟩, -, X1, ⟨Lc, hQ, r1, r2, r3⟩, st1⟩ := X.specialBackNest hx (y := y) hinit hown (own_mvM hZ wl) (mvT hZ wm) (mvT hZ wc) hy (backOf (W := W) hM hZ wc wi hf hlo) (g := mkF m pc ls st) rfl hsz (Steps.refl _) (a := b) (argsL := argsL) (rest := rest) hlen hst hW hd (fun _ _ => ⟨rfl, eT, hcl, hsl⟩)
  dsimp only [Pt.U, Pt.locs, Pt.cells, Pt.slots] at X1 r1 r2 r3 st1 hQ
  subst r1 r2 r3
  exact own_go (fun t k => st1.trans k) (K T1 Lc v X1 hQ)
theorem own_anewarr (X : Stand p l e R s m args below meth c T locs cells slots) (hx : p.tables.exec = Jvm.exec) {Z : State} {a0 : Array Value} {h : Heap} {own C : String} {ix : Nat} (hZ : Z.Warmed39 s.vm) (hown : s.vm.findClass own = some m.cls) (w1 : (Jvm.Cond.classLink own ix C).before a0 Z = true) (w2 : (Jvm.Cond.arrayOver (.object C)).before a0 Z = true) (eT : T.heap = h) (hd : decode c.code pc = .ok (.anewarray ix, 3)) (hp : pc + 3 = pc') {n : Int32} (hn : ¬ n < 0) (cap q : Nat) (hcap : n.toNatClampNeg ≤ cap) (hb : cap * 8 ≤ 536870912) (hc : cells + 1 ≤ R.cells) (hl : slots + cap ≤ R.slots) {ad : String} (had : "[" ++ (FieldType.object C).toString = ad)
    (K : ∀ T' h' a k, Stand p l e R s m args below meth c T' locs (cells + 1) (slots + cap) → T'.heap = h' → Ext h h' → a = h.size → Arv Z h' a k (.object C) n (List.replicate q .null) .null → Exa Z h' a ad → Ovr Z k C → own_Ends p e below s Q kc ks T' (mkF m pc' ls (.ref a :: st))) : own_Ends p e below s Q kc ks T (mkF m pc ls (.int n :: st)) := by
  subst hp
  obtain ⟨T1, h1, k1, X1, e1, E1, A1, Z1, O1, st1⟩ := newRE X hx hZ hown w1 w2 eT (g := mkF m pc ls (.int n :: st)) rfl hd rfl hn (cap := cap) hcap hb hc hl had
  exact own_go st1 (K T1 h1 _ k1 X1 e1 E1 rfl ((Arv.new A1 hn).pad (pad_rep [] _ q)) Z1 O1)
theorem own_aastore (X : Stand p l e R s m args below meth c T locs cells slots) (hx : p.tables.exec = Jvm.exec) {Z : State} {h : Heap} {a b : Addr} {k : ClassId} {C D : String} {n j : Int32} {vs : List Value} {d : Value} (hZ : Z.Warmed39 s.vm) (eT : T.heap = h) (V : Arv Z h a k (.object D) n vs d) (O : Ovr Z k C) (I : Ins Z h b C true) (hd : decode c.code pc = .ok (.aastore, 1)) (hp : pc + 1 = pc') (hj : ¬ j < 0 ∧ j < n) (i : Nat) (hi : j.toNatClampNeg = i) (hl : i < vs.length) {n0 : Nat} (N : Fr n0 locs) (ge : n0 ≤ a)
    (K : ∀ T' h' L, Stand p l e R s m args below meth c T' L cells slots → T'.heap = h' → Fr n0 L → Wr h h' a j.toNatClampNeg (.ref b) → Arv Z h' a k (.object D) n (vs.set i (.ref b)) d → own_Ends p e below s Q kc ks T' (mkF m pc' ls st)) : own_Ends p e below s Q kc ks T (mkF m pc ls (.ref b :: .int j :: .ref a :: st)) := by
  subst hp
  obtain ⟨cl, A, q1, S, q2, H, G⟩ := V
  have hin := inb_of S hj
  obtain ⟨T1, h1, X1, e1, W1, st1⟩ := stR X hx hZ eT A (j := j) hin rfl (Sto.ofV A q1 O I) (g := mkF m pc ls (.ref b :: .int j :: .ref a :: st)) rfl rfl hd
  exact own_go st1 (K T1 h1 _ X1 e1 (Fr.snoc X1 N ge) W1 (Arv.set A q1 S q2 H G rfl W1 i hi hl))
theorem own_tswIn (X : Stand p l e R s m args below meth c T locs cells slots) (hx : p.tables.exec = Jvm.exec) {d lo hi o : Int} {offs : Array Int} {len : Nat} {i : Int32} (hd : decode c.code pc = .ok (.tableswitch d lo hi offs, len)) (hin : ¬ (i.toInt < lo ∨ i.toInt > hi)) (hoff : offs[(i.toInt - lo).toNat]? = some o) (ho : 0 ≤ (pc : Int) + o) (hp : ((pc : Int) + o).toNat = pc') (K : own_Ends p e below s Q kc ks T (mkF m pc' ls st)) : own_Ends p e below s Q kc ks T (mkF m pc ls (.int i :: st)) :=
  own_go (fun t k => XS.tswIn X.here hx rfl rfl hd rfl hin hoff ho hp k) K
theorem own_tswOut (X : Stand p l e R s m args below meth c T locs cells slots) (hx : p.tables.exec = Jvm.exec) {d lo hi : Int} {offs : Array Int} {len : Nat} {i : Int32} (hd : decode c.code pc = .ok (.tableswitch d lo hi offs, len)) (hout : i.toInt < lo ∨ i.toInt > hi) (ho : 0 ≤ (pc : Int) + d) (hp : ((pc : Int) + d).toNat = pc') (K : own_Ends p e below s Q kc ks T (mkF m pc' ls st)) : own_Ends p e below s Q kc ks T (mkF m pc ls (.int i :: st)) :=
  own_go (fun t k => XS.tswOut X.here hx rfl rfl hd rfl hout ho hp k) K
theorem own_ext {h h' : Heap} (K : Keep h h' []) : Ext h h' := ⟨K.1, fun a c q => K.2.1 a c q nin0⟩
theorem own_stak {Z : State} {h h' : Heap} {ws : List Addr} {C n d : String} {v : Value} (F : Sta Z h C n d v) (K : Keep h h' ws) (q : ∀ x ∈ ws, ∃ c : Cell, h[x]? = some c ∧ c.vm.isStatics = false) : Sta Z h' C n d v := by
  obtain ⟨cf, i, k, f, st, cell, h1, h2, h3, h4, h5, h6, h7⟩ := F
  refine ⟨cf, i, k, f, st, cell, h1, h2, h3, h4, K.2.1 st cell h5 (fun z => ?_), h6, h7⟩
  obtain ⟨c, q1, q2⟩ := q st z
  cases h5.symm.trans q1
  rw [h6] at q2; cases q2
theorem own_exac {Z : State} {h : Heap} {a : Addr} {C : String} (F : Exa Z h a C) : ∃ c : Cell, h[a]? = some c ∧ c.vm.isStatics = false := by
  obtain ⟨c, _, h1, -, -, h4, -⟩ := F; exact ⟨c, h1, h4⟩
theorem own_arvc {Z : State} {h : Heap} {a : Addr} {k : ClassId} {ty : FieldType} {n : Int32} {vs : List Value} {d : Value} (F : Arv Z h a k ty n vs d) : ∃ c : Cell, h[a]? = some c ∧ c.vm.isStatics = false := by
  obtain ⟨c, A, -⟩ := F; exact ⟨c, A.1, A.plain⟩
end Own
theorem own_w0 {Z : State} {a0 : Array Value} (hw : ∀ d ∈ tables_1, d.before a0 Z = true) : (Jvm.Cond.arrayClass Jvm.ClassFile.FieldType.byte).before a0 Z = true := hw _ (List.mem_of_getElem? (i := 0) rfl)
theorem own_w1 {Z : State} {a0 : Array Value} (hw : ∀ d ∈ tables_1, d.before a0 Z = true) : (Jvm.Cond.methodLink "com/example/mapwright/mapwright/InputFileByteOrderMarkLengthPinLaw" (7 : Nat) ({ cls := "com/example/mapwright/mapwright/InputFile", name := "byteOrderMarkLength", desc := "([B)I" } : Jvm.MethodName)).before a0 Z = true := hw _ (List.mem_of_getElem? (i := 1) rfl)
theorem own_w2 {Z : State} {a0 : Array Value} (hw : ∀ d ∈ tables_1, d.before a0 Z = true) : (Jvm.Cond.static ({ cls := "com/example/mapwright/mapwright/InputFile", name := "byteOrderMarkLength", desc := "([B)I" } : Jvm.MethodName)).before a0 Z = true := hw _ (List.mem_of_getElem? (i := 2) rfl)
theorem own_w3 {Z : State} {a0 : Array Value} (hw : ∀ d ∈ tables_1, d.before a0 Z = true) : (Jvm.Cond.initialized "com/example/mapwright/mapwright/InputFile").before a0 Z = true := hw _ (List.mem_of_getElem? (i := 3) rfl)
theorem own_w4 {Z : State} {a0 : Array Value} (hw : ∀ d ∈ tables_1, d.before a0 Z = true) : (Jvm.Cond.code ({ cls := "com/example/mapwright/mapwright/InputFile", name := "byteOrderMarkLength", desc := "([B)I" } : Jvm.MethodName) prog_16_method_4_code (2 : Nat) (Option.some Jvm.ClassFile.FieldType.int)).before a0 Z = true := hw _ (List.mem_of_getElem? (i := 4) rfl)
theorem own_w5 {Z : State} {a0 : Array Value} (hw : ∀ d ∈ tables_1, d.before a0 Z = true) : (Jvm.Cond.constant "com/example/mapwright/mapwright/InputFileByteOrderMarkLengthPinLaw" (13 : Nat) (15711167 : Int32)).before a0 Z = true := hw _ (List.mem_of_getElem? (i := 5) rfl)
theorem own_pd0 : parseMethodDescriptor "([B)I" = some ⟨[(.array .byte)], some .int⟩ := by decide +kernel
theorem own_pn0 : plainName "com/example/mapwright/mapwright/InputFile" = true := by first | (simp [plainName, overriddenIn]; done) | decide +kernel
theorem own_pn1 : plainName "com/example/mapwright/mapwright/InputFileByteOrderMarkLengthPinLaw" = true := by first | (simp [plainName, overriddenIn]; done) | decide +kernel
theorem own_arrat {s : State} {a : Addr} {c : Cell} (h : s.arrayAt? a = some c) : s.heap[a]? = some c := by
  unfold State.arrayAt? at h
  cases q : s.heap[a]? with
  | none => simp [q] at h
  | some d =>
    simp [q] at h
    obtain ⟨k, -, h2⟩ := Option.bind_eq_some_iff.mp h
    split at h2
    · cases h2
    · split at h2
      · exact h2
      · cases h2
theorem own_b1 {x a b : Int32} (h : x < a) (q : ¬ b < a) : x < b := by rw [Int32.lt_iff_toInt_lt] at *; omega
theorem own_b2 {x a b : Int32} (h : ¬ x < a) (q : ¬ a < b) : ¬ x < b := by rw [Int32.lt_iff_toInt_lt] at *; omega
theorem own_b3 {x a b : Int32} (h : a < x) (q : ¬ a < b) : b < x := by rw [Int32.lt_iff_toInt_lt] at *; omega
theorem own_b4 {x a b : Int32} (h : ¬ a < x) (q : ¬ b < a) : ¬ b < x := by rw [Int32.lt_iff_toInt_lt] at *; omega
theorem own_b5 {x a b : Int32} (h : x < a) (q : ¬ b < a - 1 ∧ a - 1 < a) : ¬ b < x := by
  obtain ⟨q1, q2⟩ := q
  have := c_isub a 1; have := rng32 a; have := rng32 (a - 1); have e1 : (1 : Int32).toInt = 1 := rfl
  rw [Int32.lt_iff_toInt_lt] at *; omega
theorem own_b6 {x a b : Int32} (h : ¬ x < a) (q : b < a) : b < x := by rw [Int32.lt_iff_toInt_lt] at *; omega
theorem own_b7 {x a b : Int32} (h : a < x) (q : ¬ a + 1 < b ∧ a < a + 1) : ¬ x < b := by
  obtain ⟨q1, q2⟩ := q
  have := c_iadd a 1; have := rng32 a; have := rng32 (a + 1); have e1 : (1 : Int32).toInt = 1 := rfl
  rw [Int32.lt_iff_toInt_lt] at *; omega
theorem own_b8 {x a b : Int32} (h : ¬ a < x) (q : a < b) : x < b := by rw [Int32.lt_iff_toInt_lt] at *; omega
theorem own_n1 {x b : Int32} (h : x < b) : ¬ x = b := fun q => by subst q; rw [Int32.lt_iff_toInt_lt] at h; omega
theorem own_n2 {x b : Int32} (h : b < x) : ¬ x = b := fun q => by subst q; rw [Int32.lt_iff_toInt_lt] at h; omega
theorem own_i1 {x y : Int32} (h : x < y) : x.toInt < y.toInt := Int32.lt_iff_toInt_lt.mp h
theorem own_i2 {x y : Int32} (h : ¬ x < y) : y.toInt ≤ x.toInt := Int.not_lt.mp fun q => h (Int32.lt_iff_toInt_lt.mpr q)
theorem own_i3 {x y : Int32} (h : x = y) : x.toInt = y.toInt := congrArg Int32.toInt h
theorem own_i4 {x y : Int32} (h : ¬ x = y) : ¬ x.toInt = y.toInt := fun q => h (Int32.toInt_inj.mp q)
theorem own_some {x y : Int32} (h : x = y) : some (Value.int x) = some (Value.int y) := congrArg (fun z => some (Value.int z)) h
theorem own_ae1 {a b : Addr} (h : a = b) : XT.acmp .eq (.ref a) (.ref b) = true ∧ XT.acmp .ne (.ref a) (.ref b) = false := ⟨decide_eq_true (congrArg Value.ref h), decide_eq_false fun q => q (congrArg Value.ref h)⟩
theorem own_ae0 {a b : Addr} (h : ¬ a = b) : XT.acmp .eq (.ref a) (.ref b) = false ∧ XT.acmp .ne (.ref a) (.ref b) = true := ⟨decide_eq_false fun q => h (Value.ref.inj q), decide_eq_true fun q => h (Value.ref.inj q)⟩
theorem own_ann : XT.acmp .eq .null .null = true ∧ XT.acmp .ne .null .null = false := ⟨rfl, rfl⟩
theorem own_anr (b : Addr) : XT.acmp .eq .null (.ref b) = false ∧ XT.acmp .ne .null (.ref b) = true := by constructor <;> first | rfl | (simp [XT.acmp]; done) | decide
theorem own_arn (b : Addr) : XT.acmp .eq (.ref b) .null = false ∧ XT.acmp .ne (.ref b) .null = true := by constructor <;> first | rfl | (simp [XT.acmp]; done) | decide
theorem own_eqi {args : Array Value} {s : State} {t : Term} {k : Int32} (h : (Jvm.Cond.eq t (Term.int k)).value args s none s [] = some true) : t.eval args s none [] s = some (.int k) := by
  obtain ⟨x, y, e1, e2, k1, k2⟩ := cmp_v (Or.inl h)
  obtain rfl : Value.int k = y := Option.some.inj ((Term.int_eval k).symm.trans e2)
  obtain ⟨z, rfl⟩ : ∃ z, x = .int z := k2
  have q : z = k := gotT (Cond.eq_ints e1 (Term.int_eval k)) h
  rw [e1, q]
theorem own_eql {args : Array Value} {s : State} {t : Term} {k : Int64} (h : (Jvm.Cond.eq t (Term.long k)).value args s none s [] = some true) : t.eval args s none [] s = some (.long k) := by
  obtain ⟨x, y, e1, e2, k1, k2⟩ := cmp_v (Or.inl h)
  obtain rfl : Value.long k = y := Option.some.inj ((show (Term.long k).eval args s none [] s = some (.long k) from rfl).symm.trans e2)
  obtain ⟨z, rfl⟩ : ∃ z, x = .long z := k2
  have q : z = k := gotT (eq_L e1 (show (Term.long k).eval args s none [] s = some (.long k) from rfl)) h
  rw [e1, q]
theorem own_len {args : Array Value} {s : State} {t : Term} {k : Int32} {a : Addr} {c : Cell} (h : (Term.length t).eval args s none [] s = some (.int k)) (ht : t.eval args s none [] s = some (.ref a)) (hc : s.heap[a]? = some c) : c.slots.size.toInt32 = k ∧ c.slots.size < 2 ^ 31 := by
  obtain ⟨a', cell, e1, e2, e3⟩ := Term.length_spec h
  cases ht.symm.trans e1
  have e4 : s.heap[a]? = some cell := own_arrat e2
  cases hc.symm.trans e4
  refine ⟨(Value.int.inj e3).symm, ?_⟩
  by_cases q : c.slots.size < 2 ^ 31
  · exact q
  · simp [Term.eval, ht, e2, q] at h
theorem own_nb0 : nar .boolean 0 = 0 := by decide
theorem own_nb1 : nar .boolean 1 = 1 := by decide
def own_ushr (x y : Int32) : Int32 := (x.toUInt32 >>> (y &&& 31).toUInt32).toInt32
def own_ushrL (x : Int64) (y : Int32) : Int64 := (x.toUInt64 >>> (y &&& 0x3f).toInt64.toUInt64).toInt64
theorem own_d1_0 : decode prog_16_method_4_code 0 = .ok (.aload_n 0, 1) := by decide +kernel
theorem own_d1_1 : decode prog_16_method_4_code 1 = .ok (.arraylength, 1) := by decide +kernel
theorem own_d1_2 : decode prog_16_method_4_code 2 = .ok (.iconst 3, 1) := by decide +kernel
theorem own_d1_3 : decode prog_16_method_4_code 3 = .ok (.if_icmp .lt 31, 3) := by decide +kernel
theorem own_d1_6 : decode prog_16_method_4_code 6 = .ok (.aload_n 0, 1) := by decide +kernel
theorem own_d1_7 : decode prog_16_method_4_code 7 = .ok (.iconst 0, 1) := by decide +kernel
theorem own_d1_8 : decode prog_16_method_4_code 8 = .ok (.baload, 1) := by decide +kernel
theorem own_d1_9 : decode prog_16_method_4_code 9 = .ok (.bipush (-17), 2) := by decide +kernel
theorem own_d1_11 : decode prog_16_method_4_code 11 = .ok (.if_icmp .ne 23, 3) := by decide +kernel
theorem own_d1_14 : decode prog_16_method_4_code 14 = .ok (.aload_n 0, 1) := by decide +kernel
theorem own_d1_15 : decode prog_16_method_4_code 15 = .ok (.iconst 1, 1) := by decide +kernel
theorem own_d1_16 : decode prog_16_method_4_code 16 = .ok (.baload, 1) := by decide +kernel
theorem own_d1_17 : decode prog_16_method_4_code 17 = .ok (.bipush (-69), 2) := by decide +kernel
theorem own_d1_19 : decode prog_16_method_4_code 19 = .ok (.if_icmp .ne 15, 3) := by decide +kernel
theorem own_d1_22 : decode prog_16_method_4_code 22 = .ok (.aload_n 0, 1) := by decide +kernel
theorem own_d1_23 : decode prog_16_method_4_code 23 = .ok (.iconst 2, 1) := by decide +kernel
theorem own_d1_24 : decode prog_16_method_4_code 24 = .ok (.baload, 1) := by decide +kernel
theorem own_d1_25 : decode prog_16_method_4_code 25 = .ok (.bipush (-65), 2) := by decide +kernel
theorem own_d1_27 : decode prog_16_method_4_code 27 = .ok (.if_icmp .ne 7, 3) := by decide +kernel
theorem own_d1_30 : decode prog_16_method_4_code 30 = .ok (.iconst 1, 1) := by decide +kernel
theorem own_d1_31 : decode prog_16_method_4_code 31 = .ok (.goto 4, 3) := by decide +kernel
theorem own_d1_34 : decode prog_16_method_4_code 34 = .ok (.iconst 0, 1) := by decide +kernel
theorem own_d1_35 : decode prog_16_method_4_code 35 = .ok (.istore_n 1, 1) := by decide +kernel
theorem own_d1_36 : decode prog_16_method_4_code 36 = .ok (.iload_n 1, 1) := by decide +kernel
theorem own_d1_37 : decode prog_16_method_4_code 37 = .ok (.ifCond .eq 7, 3) := by decide +kernel
theorem own_d1_40 : decode prog_16_method_4_code 40 = .ok (.iconst 3, 1) := by decide +kernel
theorem own_d1_41 : decode prog_16_method_4_code 41 = .ok (.goto 4, 3) := by decide +kernel
theorem own_d1_44 : decode prog_16_method_4_code 44 = .ok (.iconst 0, 1) := by decide +kernel
theorem own_d1_45 : decode prog_16_method_4_code 45 = .ok (.ireturn, 1) := by decide +kernel
def own_by (c : Int32) : Prop := -128 ≤ c.toInt ∧ c.toInt ≤ 127
theorem own_by_i2b (x : Int32) : own_by x.toInt8.toInt32 := by have := c_i2b x; exact ⟨this.2.1, by omega⟩
theorem own_nby {c : Int32} (h : own_by c) : nar .byte c = c := by
  have h1 := fits_nar_byte c
  have h2 := rng_byte h1
  have h3 := c_i2b c
  have e : nar .byte c = c.toInt8.toInt32 := rfl
  rw [e]
  apply Int32.toInt_inj.mp
  unfold own_by at h
  omega
def own_bom (n b0 b1 b2 : Int32) : Int32 := if n < 3 then 0 else if b0 = -17 ∧ b1 = -69 ∧ b2 = -65 then 3 else 0
theorem own_bomN {n b0 b1 b2 : Int32} (h : n < 3) : own_bom n b0 b1 b2 = 0 := by unfold own_bom; rw [if_pos h]
theorem own_pk {c0 c1 c2 n : Int32} (h0 : own_by c0) (h1 : own_by c1) (h2 : own_by c2) (hn : ¬ n < 3) :
    (((((c0 &&& (255 : Int32)) <<< ((16 : Int32) &&& 31)) ||| ((c1 &&& (255 : Int32)) <<< ((8 : Int32) &&& 31))) ||| (c2 &&& (255 : Int32))) = 15711167 → own_bom n c0 c1 c2 = 3) ∧
    (¬ ((((c0 &&& (255 : Int32)) <<< ((16 : Int32) &&& 31)) ||| ((c1 &&& (255 : Int32)) <<< ((8 : Int32) &&& 31))) ||| (c2 &&& (255 : Int32))) = 15711167 → own_bom n c0 c1 c2 = 0) := by
  have m0 := c_mask c0 255 8 (by decide) (by decide)
  have m1 := c_mask c1 255 8 (by decide) (by decide)
  have m2 := c_mask c2 255 8 (by decide) (by decide)
  generalize c0 &&& (255 : Int32) = x0 at *
  generalize c1 &&& (255 : Int32) = x1 at *
  generalize c2 &&& (255 : Int32) = x2 at *
  have s0 := c_ishl x0 16 16 (by decide)
  have s1 := c_ishl x1 8 8 (by decide)
  generalize x0 <<< ((16 : Int32) &&& 31) = y0 at *
  generalize x1 <<< ((8 : Int32) &&& 31) = y1 at *
  have r0 := rng32 y0; have r1 := rng32 y1
  have e0 : y0.toInt = x0.toInt * 65536 := by omega
  have e1 : y1.toInt = x1.toInt * 256 := by omega
  have o1 := c_or y0 y1 16 (by decide) 65536 (by decide) (by omega) (by omega) (by omega)
  generalize y0 ||| y1 = z at *
  have r2 := rng32 z
  have o2 := c_or z x2 8 (by decide) 256 (by decide) (by omega) (by omega) (by omega)
  generalize z ||| x2 = t at *
  have r3 := rng32 t
  unfold own_by at h0 h1 h2
  unfold own_bom
  rw [if_neg hn]
  have ek : (15711167 : Int32).toInt = 15711167 := rfl
  have f0 : (-17 : Int32).toInt = -17 := rfl
  have f1 : (-69 : Int32).toInt = -69 := rfl
  have f2 : (-65 : Int32).toInt = -65 := rfl
  rw [← Int32.toInt_inj, ek]
  constructor
  · intro q
    rw [if_pos]
    rw [← Int32.toInt_inj, ← Int32.toInt_inj, ← Int32.toInt_inj, f0, f1, f2]
    omega
  · intro q
    rw [if_neg]
    rw [← Int32.toInt_inj, ← Int32.toInt_inj, ← Int32.toInt_inj, f0, f1, f2]
    omega
theorem own_and7 {p n : Int32} (h : p &&& 7 = n) : n = 0 ∨ n = 1 ∨ n = 2 ∨ n = 3 ∨ n = 4 ∨ n = 5 ∨ n = 6 ∨ n = 7 := by
  have h1 := c_mask p 7 3 (by decide) (by decide)
  rw [h] at h1
  have : n.toInt = 0 ∨ n.toInt = 1 ∨ n.toInt = 2 ∨ n.toInt = 3 ∨ n.toInt = 4 ∨ n.toInt = 5 ∨ n.toInt = 6 ∨ n.toInt = 7 := by omega
  rcases this with q | q | q | q | q | q | q | q
  · exact Or.inl (Int32.toInt_inj.mp q)
  · exact Or.inr (Or.inl (Int32.toInt_inj.mp q))
  · exact Or.inr (Or.inr (Or.inl (Int32.toInt_inj.mp q)))
  · exact Or.inr (Or.inr (Or.inr (Or.inl (Int32.toInt_inj.mp q))))
  · exact Or.inr (Or.inr (Or.inr (Or.inr (Or.inl (Int32.toInt_inj.mp q)))))
  · exact Or.inr (Or.inr (Or.inr (Or.inr (Or.inr (Or.inl (Int32.toInt_inj.mp q))))))
  · exact Or.inr (Or.inr (Or.inr (Or.inr (Or.inr (Or.inr (Or.inl (Int32.toInt_inj.mp q)))))))
  · exact Or.inr (Or.inr (Or.inr (Or.inr (Or.inr (Or.inr (Or.inr (Int32.toInt_inj.mp q)))))))
theorem own_lt3 {n j : Int32} (h : ¬ n < 3) (q : j < 3) : j < n := by rw [Int32.lt_iff_toInt_lt] at *; omega
def own_room1 : Room := { frames := 0, cells := 0, slots := 0, locals := 0 }
def own_Q1 (Z : State) (r : Addr) (k : ClassId) (n : Int32) (b0 : Int32) (b1 : Int32) (b2 : Int32) (vs : List Value) (h0 : Heap) (n0 : Nat) (v : Option Value) (h : Heap) (L : List Loc) : Prop := v = some (.int (own_bom n b0 b1 b2)) ∧ Fr n0 L ∧ h = h0
theorem own_ef_rm1 (m : MethodId) (x0 : Addr) : entryFrame m #[(.ref x0)] 2 = mkF m 0 #[.val (.ref x0), .unset] [] := by first | (simp [entryFrame, mkF, argsToLocals, Value.category]; done) | rfl
set_option maxRecDepth 65536 in
set_option maxHeartbeats 40000000 in
theorem own_rm1 (l : Launch) (Z : State) (a0 : Array Value) (hw : ∀ d ∈ tables_1, d.before a0 Z = true) (ws : List Jvm.Cond) (r : Addr) (k : ClassId) (n : Int32) (b0 : Int32) (b1 : Int32) (b2 : Int32) (vs : List Value) (h0 : Heap) (n0 : Nat) (V0 : Arv Z h0 r k .byte n vs (.int (0 : Int32))) (hbs : ¬ n < 3 → vs.getD 0 (.int (0 : Int32)) = .int b0 ∧ vs.getD 1 (.int (0 : Int32)) = .int b1 ∧ vs.getD 2 (.int (0 : Int32)) = .int b2) :
    MetFree l (⟨"com/example/mapwright/mapwright/InputFile", "byteOrderMarkLength", "([B)I"⟩ : MethodName) (head1 (Jvm.Cond.code (⟨"com/example/mapwright/mapwright/InputFile", "byteOrderMarkLength", "([B)I"⟩ : MethodName) prog_16_method_4_code 2 (some .int) :: ws) own_room1) (fun zz U => zz = #[(.ref r)] ∧ Z.Warmed39 U.vm ∧ U.heap = h0) (fun _ _ _ _ _ => True) (fun _ U o U' => ∃ v L, o = .returned v ∧ own_Q1 Z r k n b0 b1 b2 vs h0 n0 v U'.heap L ∧ FrameEnd U o U' L own_room1.cells own_room1.slots) := by
  refine MetFree.of_bodySF (plainFor_of_name own_pn0) hisR ?_
  intro p e s m args below meth c s₁ Bd hml0 hP hK
  obtain ⟨rfl, hZ, hh⟩ := hP
  have hx := Bd.exec
  have hby := Bd.bytes
  have hml : c.maxLocals = 2 := hml0
  have hown : s.vm.findClass "com/example/mapwright/mapwright/InputFile" = some m.cls := findClass_of_methodNamed Bd.named
  have hnm := (name_of_methodNamed Bd.named Bd.method).1
  have hlk : meth.locks = false := BodyLoose.notSynchronized Bd
  have hret := Bd.returns
  have X0 : Stand p l e own_room1 s m #[(.ref r)] below meth c s₁ [] 0 0 := Stand.of_body Bd
  have e0 : s₁.heap = h0 := by rw [← hh, Bd.state]; rfl
  have N0 := Fr.nil n0
  show own_Ends p e below s (own_Q1 Z r k n b0 b1 b2 vs h0 n0) own_room1.cells own_room1.slots s₁ (entryFrame m #[(.ref r)] 2)
  refine own_cast (own_ef_rm1 m r) ?_
  refine own_aloadN (pc' := 1) X0 hx (hb hby own_d1_0) rfl rfl rfl ?_
  refine own_alen (pc' := 2) X0 hx hZ e0 V0 (hb hby own_d1_1) rfl ?_
  refine own_iconst (pc' := 3) (z := (3 : Int32)) X0 hx (hb hby own_d1_2) rfl rfl ?_
  by_cases hc3_31 : n < (3 : Int32)
  · refine own_icmpYes (pc' := 34) X0 hx (hb hby own_d1_3) (tlt hc3_31).1 (by decide) (by decide) ?_
    refine own_iconst (pc' := 35) (z := (0 : Int32)) X0 hx (hb hby own_d1_34) rfl rfl ?_
    refine own_istoreN (pc' := 36) (l' := #[.val (.ref r), .val (.int (0 : Int32))]) X0 hx (hb hby own_d1_35) rfl rfl ?_
    refine own_iloadN (pc' := 37) X0 hx (hb hby own_d1_36) rfl rfl ?_
    refine own_ifYes (pc' := 44) X0 hx (hb hby own_d1_37) (teq (by decide)).1 (by decide) (by decide) ?_
    refine own_iconst (pc' := 45) (z := (0 : Int32)) X0 hx (hb hby own_d1_44) rfl rfl ?_
    refine own_retI X0 hx hlk hret (hb hby own_d1_45) (by decide) (by decide) ?_
    exact ⟨own_some (by simp [own_bom, hc3_31]), N0, e0⟩
  · refine own_icmpNo (pc' := 6) X0 hx (hb hby own_d1_3) rfl (flt hc3_31).1 ?_
    refine own_aloadN (pc' := 7) X0 hx (hb hby own_d1_6) rfl rfl rfl ?_
    refine own_iconst (pc' := 8) (z := (0 : Int32)) X0 hx (hb hby own_d1_7) rfl rfl ?_
    refine own_baload (pc' := 9) X0 hx hZ e0 V0 (hb hby own_d1_8) rfl ⟨by decide, own_lt3 hc3_31 (by decide)⟩ (hbs hc3_31).1 ?_
    refine own_bipush (pc' := 11) (z := (-17 : Int32)) X0 hx (hb hby own_d1_9) rfl rfl ?_
    by_cases hc11_32 : b0 = (-17 : Int32)
    · refine own_icmpNo (pc' := 14) X0 hx (hb hby own_d1_11) rfl (teq hc11_32).2 ?_
      refine own_aloadN (pc' := 15) X0 hx (hb hby own_d1_14) rfl rfl rfl ?_
      refine own_iconst (pc' := 16) (z := (1 : Int32)) X0 hx (hb hby own_d1_15) rfl rfl ?_
      refine own_baload (pc' := 17) X0 hx hZ e0 V0 (hb hby own_d1_16) rfl ⟨by decide, own_lt3 hc3_31 (by decide)⟩ (hbs hc3_31).2.1 ?_
      refine own_bipush (pc' := 19) (z := (-69 : Int32)) X0 hx (hb hby own_d1_17) rfl rfl ?_
      by_cases hc19_33 : b1 = (-69 : Int32)
      · refine own_icmpNo (pc' := 22) X0 hx (hb hby own_d1_19) rfl (teq hc19_33).2 ?_
        refine own_aloadN (pc' := 23) X0 hx (hb hby own_d1_22) rfl rfl rfl ?_
        refine own_iconst (pc' := 24) (z := (2 : Int32)) X0 hx (hb hby own_d1_23) rfl rfl ?_
        refine own_baload (pc' := 25) X0 hx hZ e0 V0 (hb hby own_d1_24) rfl ⟨by decide, own_lt3 hc3_31 (by decide)⟩ (hbs hc3_31).2.2 ?_
        refine own_bipush (pc' := 27) (z := (-65 : Int32)) X0 hx (hb hby own_d1_25) rfl rfl ?_
        by_cases hc27_34 : b2 = (-65 : Int32)
        · refine own_icmpNo (pc' := 30) X0 hx (hb hby own_d1_27) rfl (teq hc27_34).2 ?_
          refine own_iconst (pc' := 31) (z := (1 : Int32)) X0 hx (hb hby own_d1_30) rfl rfl ?_
          refine own_goto (pc' := 35) X0 hx (hb hby own_d1_31) (by decide) (by decide) ?_
          refine own_istoreN (pc' := 36) (l' := #[.val (.ref r), .val (.int (1 : Int32))]) X0 hx (hb hby own_d1_35) rfl rfl ?_
          refine own_iloadN (pc' := 37) X0 hx (hb hby own_d1_36) rfl rfl ?_
          refine own_ifNo (pc' := 40) X0 hx (hb hby own_d1_37) rfl (feq (by decide)).1 ?_
          refine own_iconst (pc' := 41) (z := (3 : Int32)) X0 hx (hb hby own_d1_40) rfl rfl ?_
          refine own_goto (pc' := 45) X0 hx (hb hby own_d1_41) (by decide) (by decide) ?_
          refine own_retI X0 hx hlk hret (hb hby own_d1_45) (by decide) (by decide) ?_
          exact ⟨own_some (by simp [own_bom, hc3_31, hc11_32, hc19_33, hc27_34]), N0, e0⟩
        · refine own_icmpYes (pc' := 34) X0 hx (hb hby own_d1_27) (feq hc27_34).2 (by decide) (by decide) ?_
          refine own_iconst (pc' := 35) (z := (0 : Int32)) X0 hx (hb hby own_d1_34) rfl rfl ?_
          refine own_istoreN (pc' := 36) (l' := #[.val (.ref r), .val (.int (0 : Int32))]) X0 hx (hb hby own_d1_35) rfl rfl ?_
          refine own_iloadN (pc' := 37) X0 hx (hb hby own_d1_36) rfl rfl ?_
          refine own_ifYes (pc' := 44) X0 hx (hb hby own_d1_37) (teq (by decide)).1 (by decide) (by decide) ?_
          refine own_iconst (pc' := 45) (z := (0 : Int32)) X0 hx (hb hby own_d1_44) rfl rfl ?_
          refine own_retI X0 hx hlk hret (hb hby own_d1_45) (by decide) (by decide) ?_
          exact ⟨own_some (by simp [own_bom, hc3_31, hc11_32, hc19_33, hc27_34]), N0, e0⟩
      · refine own_icmpYes (pc' := 34) X0 hx (hb hby own_d1_19) (feq hc19_33).2 (by decide) (by decide) ?_
        refine own_iconst (pc' := 35) (z := (0 : Int32)) X0 hx (hb hby own_d1_34) rfl rfl ?_
        refine own_istoreN (pc' := 36) (l' := #[.val (.ref r), .val (.int (0 : Int32))]) X0 hx (hb hby own_d1_35) rfl rfl ?_
        refine own_iloadN (pc' := 37) X0 hx (hb hby own_d1_36) rfl rfl ?_
        refine own_ifYes (pc' := 44) X0 hx (hb hby own_d1_37) (teq (by decide)).1 (by decide) (by decide) ?_
        refine own_iconst (pc' := 45) (z := (0 : Int32)) X0 hx (hb hby own_d1_44) rfl rfl ?_
        refine own_retI X0 hx hlk hret (hb hby own_d1_45) (by decide) (by decide) ?_
        exact ⟨own_some (by simp [own_bom, hc3_31, hc11_32, hc19_33]), N0, e0⟩
    · refine own_icmpYes (pc' := 34) X0 hx (hb hby own_d1_11) (feq hc11_32).2 (by decide) (by decide) ?_
      refine own_iconst (pc' := 35) (z := (0 : Int32)) X0 hx (hb hby own_d1_34) rfl rfl ?_
      refine own_istoreN (pc' := 36) (l' := #[.val (.ref r), .val (.int (0 : Int32))]) X0 hx (hb hby own_d1_35) rfl rfl ?_
      refine own_iloadN (pc' := 37) X0 hx (hb hby own_d1_36) rfl rfl ?_
      refine own_ifYes (pc' := 44) X0 hx (hb hby own_d1_37) (teq (by decide)).1 (by decide) (by decide) ?_
      refine own_iconst (pc' := 45) (z := (0 : Int32)) X0 hx (hb hby own_d1_44) rfl rfl ?_
      refine own_retI X0 hx hlk hret (hb hby own_d1_45) (by decide) (by decide) ?_
      exact ⟨own_some (by simp [own_bom, hc3_31, hc11_32]), N0, e0⟩
def own_Q0 (Z : State) (p0 : Int32) (p1 : Int32) (p2 : Int32) (p3 : Int32) (p4 : Int32) (p5 : Int32) (h0 : Heap) (n0 : Nat) (v : Option Value) (h : Heap) (L : List Loc) : Prop := v = some (.int 1) ∧ Fr n0 L
theorem own_ef_rm0 (m : MethodId) (x0 : Int32) (x1 : Int32) (x2 : Int32) (x3 : Int32) (x4 : Int32) (x5 : Int32) : entryFrame m #[(.int x0), (.int x1), (.int x2), (.int x3), (.int x4), (.int x5)] maxLocals = mkF m 0 #[.val (.int x0), .val (.int x1), .val (.int x2), .val (.int x3), .val (.int x4), .val (.int x5), .unset, .unset, .unset, .unset, .unset, .unset, .unset, .unset] [] := by first | (simp [entryFrame, mkF, argsToLocals, Value.category, maxLocals]; done) | rfl
set_option maxRecDepth 65536 in
set_option maxHeartbeats 40000000 in
theorem own_rm0 (l : Launch) (Z : State) (a0 : Array Value) (hw : ∀ d ∈ tables_1, d.before a0 Z = true) (ws : List Jvm.Cond) (p0 : Int32) (p1 : Int32) (p2 : Int32) (p3 : Int32) (p4 : Int32) (p5 : Int32) (h0 : Heap) (n0 : Nat) (Z0 : n0 ≤ h0.size) :
    MetFree l x (head1 (Jvm.Cond.code x code maxLocals ret :: ws) room_1) (fun zz U => zz = #[(.int p0), (.int p1), (.int p2), (.int p3), (.int p4), (.int p5)] ∧ Z.Warmed39 U.vm ∧ U.heap = h0) (fun _ _ _ _ _ => True) (fun _ U o U' => ∃ v L, o = .returned v ∧ own_Q0 Z p0 p1 p2 p3 p4 p5 h0 n0 v U'.heap L ∧ FrameEnd U o U' L 16 128) := by
  refine MetFree.of_bodySF (plainFor_of_name own_pn1) hisR ?_
  intro p e s m args below meth c s₁ Bd hml0 hP hK
  obtain ⟨rfl, hZ, hh⟩ := hP
  have hx := Bd.exec
  have hby := Bd.bytes
  have hml : c.maxLocals = 14 := hml0
  have hown : s.vm.findClass "com/example/mapwright/mapwright/InputFileByteOrderMarkLengthPinLaw" = some m.cls := findClass_of_methodNamed Bd.named
  have hnm := (name_of_methodNamed Bd.named Bd.method).1
  have hlk : meth.locks = false := BodyLoose.notSynchronized Bd
  have hret := Bd.returns
  have X0 : Stand p l e room_1 s m #[(.int p0), (.int p1), (.int p2), (.int p3), (.int p4), (.int p5)] below meth c s₁ [] 0 0 := Stand.of_body Bd
  have e0 : s₁.heap = h0 := by rw [← hh, Bd.state]; rfl
  have N0 := Fr.nil n0
  show own_Ends p e below s (own_Q0 Z p0 p1 p2 p3 p4 p5 h0 n0) 16 128 s₁ (entryFrame m #[(.int p0), (.int p1), (.int p2), (.int p3), (.int p4), (.int p5)] maxLocals)
  refine own_cast (own_ef_rm0 m p0 p1 p2 p3 p4 p5) ?_
  refine own_iloadN (pc' := 1) X0 hx (hb hby at_0) rfl rfl ?_
  refine own_bipush (pc' := 3) (z := (7 : Int32)) X0 hx (hb hby at_1) rfl rfl ?_
  obtain ⟨n31, hn31⟩ : ∃ z, (p0 &&& (7 : Int32)) = z := ⟨_, rfl⟩
  refine own_iand (pc' := 4) (z := n31) X0 hx (hb hby at_3) rfl hn31 ?_
  refine own_istore (pc' := 6) (l' := #[.val (.int p0), .val (.int p1), .val (.int p2), .val (.int p3), .val (.int p4), .val (.int p5), .val (.int n31), .unset, .unset, .unset, .unset, .unset, .unset, .unset]) X0 hx (hb hby at_4) rfl rfl ?_
  refine own_iloadN (pc' := 7) X0 hx (hb hby at_6) rfl rfl ?_
  refine own_iconst (pc' := 8) (z := (1 : Int32)) X0 hx (hb hby at_7) rfl rfl ?_
  refine own_iand (pc' := 9) (z := (p1 &&& (1 : Int32))) X0 hx (hb hby at_8) rfl rfl ?_
  have K33 : ∀ (c32 : Int32) (hc32 : own_by c32), own_Ends p e below s (own_Q0 Z p0 p1 p2 p3 p4 p5 h0 n0) 16 128 s₁ (mkF m 19 #[.val (.int p0), .val (.int p1), .val (.int p2), .val (.int p3), .val (.int p4), .val (.int p5), .val (.int n31), .unset, .unset, .unset, .unset, .unset, .unset, .unset] [(.int c32)]) := by
    intro c32 hc32
    refine own_istore (pc' := 21) (l' := #[.val (.int p0), .val (.int p1), .val (.int p2), .val (.int p3), .val (.int p4), .val (.int p5), .val (.int n31), .val (.int c32), .unset, .unset, .unset, .unset, .unset, .unset]) X0 hx (hb hby at_19) rfl rfl ?_
    refine own_iloadN (pc' := 22) X0 hx (hb hby at_21) rfl rfl ?_
    refine own_iconst (pc' := 23) (z := (2 : Int32)) X0 hx (hb hby at_22) rfl rfl ?_
    refine own_iand (pc' := 24) (z := (p1 &&& (2 : Int32))) X0 hx (hb hby at_23) rfl rfl ?_
    have K35 : ∀ (c34 : Int32) (hc34 : own_by c34), own_Ends p e below s (own_Q0 Z p0 p1 p2 p3 p4 p5 h0 n0) 16 128 s₁ (mkF m 34 #[.val (.int p0), .val (.int p1), .val (.int p2), .val (.int p3), .val (.int p4), .val (.int p5), .val (.int n31), .val (.int c32), .unset, .unset, .unset, .unset, .unset, .unset] [(.int c34)]) := by
      intro c34 hc34
      refine own_istore (pc' := 36) (l' := #[.val (.int p0), .val (.int p1), .val (.int p2), .val (.int p3), .val (.int p4), .val (.int p5), .val (.int n31), .val (.int c32), .val (.int c34), .unset, .unset, .unset, .unset, .unset]) X0 hx (hb hby at_34) rfl rfl ?_
      refine own_iloadN (pc' := 37) X0 hx (hb hby at_36) rfl rfl ?_
      refine own_iconst (pc' := 38) (z := (4 : Int32)) X0 hx (hb hby at_37) rfl rfl ?_
      refine own_iand (pc' := 39) (z := (p1 &&& (4 : Int32))) X0 hx (hb hby at_38) rfl rfl ?_
      have K37 : ∀ (c36 : Int32) (hc36 : own_by c36), own_Ends p e below s (own_Q0 Z p0 p1 p2 p3 p4 p5 h0 n0) 16 128 s₁ (mkF m 50 #[.val (.int p0), .val (.int p1), .val (.int p2), .val (.int p3), .val (.int p4), .val (.int p5), .val (.int n31), .val (.int c32), .val (.int c34), .unset, .unset, .unset, .unset, .unset] [(.int c36)]) := by
        intro c36 hc36
        refine own_istore (pc' := 52) (l' := #[.val (.int p0), .val (.int p1), .val (.int p2), .val (.int p3), .val (.int p4), .val (.int p5), .val (.int n31), .val (.int c32), .val (.int c34), .val (.int c36), .unset, .unset, .unset, .unset]) X0 hx (hb hby at_50) rfl rfl ?_
        rcases own_and7 hn31 with rfl | rfl | rfl | rfl | rfl | rfl | rfl | rfl
        · refine own_iload (pc' := 54) X0 hx (hb hby at_52) rfl rfl ?_
          refine own_newarr (pc' := 56) (aty := .byte) X0 hx hZ (own_w0 hw) e0 (hb hby at_54) rfl (by decide) 0 0 (by decide) (by decide) (by decide) (by decide) ?_
          intro T38 h38 a38 k38 X38 e38 E38 g38 V38
          replace V38 : Arv Z h38 a38 k38 .byte (0 : Int32) [] (.int (0 : Int32)) := V38
          have ge39 : n0 ≤ a38 := by rw [g38]; exact Z0
          show own_Ends p e below s _ _ _ T38 (mkF m 56 #[.val (.int p0), .val (.int p1), .val (.int p2), .val (.int p3), .val (.int p4), .val (.int p5), .val (.int (0 : Int32)), .val (.int c32), .val (.int c34), .val (.int c36), .unset, .unset, .unset, .unset] [(.ref a38)])
          refine own_astore (pc' := 58) (l' := #[.val (.int p0), .val (.int p1), .val (.int p2), .val (.int p3), .val (.int p4), .val (.int p5), .val (.int (0 : Int32)), .val (.int c32), .val (.int c34), .val (.int c36), .val (.ref a38), .unset, .unset, .unset]) X38 hx (hb hby at_56) rfl rfl rfl ?_
          refine own_iload (pc' := 60) X38 hx (hb hby at_58) rfl rfl ?_
          refine own_ifYes (pc' := 69) X38 hx (hb hby at_60) (flt (by decide)).2.2.2 (by decide) (by decide) ?_
          refine own_iload (pc' := 71) X38 hx (hb hby at_69) rfl rfl ?_
          refine own_iconst (pc' := 72) (z := (1 : Int32)) X38 hx (hb hby at_71) rfl rfl ?_
          refine own_icmpYes (pc' := 81) X38 hx (hb hby at_72) (flt (by decide)).2.2.2 (by decide) (by decide) ?_
          refine own_iload (pc' := 83) X38 hx (hb hby at_81) rfl rfl ?_
          refine own_iconst (pc' := 84) (z := (2 : Int32)) X38 hx (hb hby at_83) rfl rfl ?_
          refine own_icmpYes (pc' := 93) X38 hx (hb hby at_84) (flt (by decide)).2.2.2 (by decide) (by decide) ?_
          refine own_iload (pc' := 95) X38 hx (hb hby at_93) rfl rfl ?_
          refine own_iconst (pc' := 96) (z := (3 : Int32)) X38 hx (hb hby at_95) rfl rfl ?_
          refine own_icmpYes (pc' := 106) X38 hx (hb hby at_96) (flt (by decide)).2.2.2 (by decide) (by decide) ?_
          refine own_iload (pc' := 108) X38 hx (hb hby at_106) rfl rfl ?_
          refine own_iconst (pc' := 109) (z := (4 : Int32)) X38 hx (hb hby at_108) rfl rfl ?_
          refine own_icmpYes (pc' := 122) X38 hx (hb hby at_109) (flt (by decide)).2.2.2 (by decide) (by decide) ?_
          refine own_iload (pc' := 124) X38 hx (hb hby at_122) rfl rfl ?_
          refine own_iconst (pc' := 125) (z := (5 : Int32)) X38 hx (hb hby at_124) rfl rfl ?_
          refine own_icmpYes (pc' := 138) X38 hx (hb hby at_125) (flt (by decide)).2.2.2 (by decide) (by decide) ?_
          refine own_iload (pc' := 140) X38 hx (hb hby at_138) rfl rfl ?_
          refine own_bipush (pc' := 142) (z := (6 : Int32)) X38 hx (hb hby at_140) rfl rfl ?_
          refine own_icmpYes (pc' := 156) X38 hx (hb hby at_142) (flt (by decide)).2.2.2 (by decide) (by decide) ?_
          refine own_aload (pc' := 158) X38 hx (hb hby at_156) rfl rfl rfl ?_
          refine own_callS (pc' := 161) (y := (⟨"com/example/mapwright/mapwright/InputFile", "byteOrderMarkLength", "([B)I"⟩ : MethodName)) (W := 0) (rm := own_room1) (argsL := [(.ref a38)]) (rest := []) X38 hx hZ e38 hown (by rw [hml]; rfl) (own_w1 hw) (own_w2 hw) (own_w3 hw) (own_w4 hw) (by decide) (own_rm1 l Z a0 hw [] a38 k38 (0 : Int32) c32 c34 c36 [] h38 n0 V38 (fun q => absurd (by decide) q)) (by decide) (by decide) (by decide) (by decide) (lenOf own_pd0 rfl) rfl (by exact Nat.le_of_eq rfl) (hb hby at_158) rfl ?_
          intro T40 Lc40 v40 X40 hQ40
          obtain ⟨rfl, Nq41, eq42⟩ := hQ40
          have N43 := Fr.app N0 Nq41
          show own_Ends p e below s _ _ _ T40 (mkF m 161 #[.val (.int p0), .val (.int p1), .val (.int p2), .val (.int p3), .val (.int p4), .val (.int p5), .val (.int (0 : Int32)), .val (.int c32), .val (.int c34), .val (.int c36), .val (.ref a38), .unset, .unset, .unset] [(.int (own_bom (0 : Int32) c32 c34 c36))])
          refine own_istore (pc' := 163) (l' := #[.val (.int p0), .val (.int p1), .val (.int p2), .val (.int p3), .val (.int p4), .val (.int p5), .val (.int (0 : Int32)), .val (.int c32), .val (.int c34), .val (.int c36), .val (.ref a38), .val (.int (own_bom (0 : Int32) c32 c34 c36)), .unset, .unset]) X40 hx (hb hby at_161) rfl rfl ?_
          refine own_iload (pc' := 165) X40 hx (hb hby at_163) rfl rfl ?_
          refine own_sipush (pc' := 168) (z := (255 : Int32)) X40 hx (hb hby at_165) rfl rfl ?_
          refine own_iand (pc' := 169) (z := (c32 &&& (255 : Int32))) X40 hx (hb hby at_168) rfl rfl ?_
          refine own_bipush (pc' := 171) (z := (16 : Int32)) X40 hx (hb hby at_169) rfl rfl ?_
          refine own_ishl (pc' := 172) (z := ((c32 &&& (255 : Int32)) <<< ((16 : Int32) &&& 31))) X40 hx (hb hby at_171) rfl rfl ?_
          refine own_iload (pc' := 174) X40 hx (hb hby at_172) rfl rfl ?_
          refine own_sipush (pc' := 177) (z := (255 : Int32)) X40 hx (hb hby at_174) rfl rfl ?_
          refine own_iand (pc' := 178) (z := (c34 &&& (255 : Int32))) X40 hx (hb hby at_177) rfl rfl ?_
          refine own_bipush (pc' := 180) (z := (8 : Int32)) X40 hx (hb hby at_178) rfl rfl ?_
          refine own_ishl (pc' := 181) (z := ((c34 &&& (255 : Int32)) <<< ((8 : Int32) &&& 31))) X40 hx (hb hby at_180) rfl rfl ?_
          refine own_ior (pc' := 182) (z := (((c32 &&& (255 : Int32)) <<< ((16 : Int32) &&& 31)) ||| ((c34 &&& (255 : Int32)) <<< ((8 : Int32) &&& 31)))) X40 hx (hb hby at_181) rfl rfl ?_
          refine own_iload (pc' := 184) X40 hx (hb hby at_182) rfl rfl ?_
          refine own_sipush (pc' := 187) (z := (255 : Int32)) X40 hx (hb hby at_184) rfl rfl ?_
          refine own_iand (pc' := 188) (z := (c36 &&& (255 : Int32))) X40 hx (hb hby at_187) rfl rfl ?_
          refine own_ior (pc' := 189) (z := ((((c32 &&& (255 : Int32)) <<< ((16 : Int32) &&& 31)) ||| ((c34 &&& (255 : Int32)) <<< ((8 : Int32) &&& 31))) ||| (c36 &&& (255 : Int32)))) X40 hx (hb hby at_188) rfl rfl ?_
          refine own_istore (pc' := 191) (l' := #[.val (.int p0), .val (.int p1), .val (.int p2), .val (.int p3), .val (.int p4), .val (.int p5), .val (.int (0 : Int32)), .val (.int c32), .val (.int c34), .val (.int c36), .val (.ref a38), .val (.int (own_bom (0 : Int32) c32 c34 c36)), .val (.int ((((c32 &&& (255 : Int32)) <<< ((16 : Int32) &&& 31)) ||| ((c34 &&& (255 : Int32)) <<< ((8 : Int32) &&& 31))) ||| (c36 &&& (255 : Int32)))), .unset]) X40 hx (hb hby at_189) rfl rfl ?_
          refine own_iload (pc' := 193) X40 hx (hb hby at_191) rfl rfl ?_
          refine own_iconst (pc' := 194) (z := (3 : Int32)) X40 hx (hb hby at_193) rfl rfl ?_
          refine own_icmpYes (pc' := 208) X40 hx (hb hby at_194) (tlt (by decide)).1 (by decide) (by decide) ?_
          refine own_iconst (pc' := 209) (z := (0 : Int32)) X40 hx (hb hby at_208) rfl rfl ?_
          refine own_istore (pc' := 211) (l' := #[.val (.int p0), .val (.int p1), .val (.int p2), .val (.int p3), .val (.int p4), .val (.int p5), .val (.int (0 : Int32)), .val (.int c32), .val (.int c34), .val (.int c36), .val (.ref a38), .val (.int (own_bom (0 : Int32) c32 c34 c36)), .val (.int ((((c32 &&& (255 : Int32)) <<< ((16 : Int32) &&& 31)) ||| ((c34 &&& (255 : Int32)) <<< ((8 : Int32) &&& 31))) ||| (c36 &&& (255 : Int32)))), .val (.int (0 : Int32))]) X40 hx (hb hby at_209) rfl rfl ?_
          refine own_iload (pc' := 213) X40 hx (hb hby at_211) rfl rfl ?_
          refine own_iload (pc' := 215) X40 hx (hb hby at_213) rfl rfl ?_
          refine own_icmpNo (pc' := 218) X40 hx (hb hby at_215) rfl (teq (own_bomN (by decide))).2 ?_
          refine own_iconst (pc' := 219) (z := (1 : Int32)) X40 hx (hb hby at_218) rfl rfl ?_
          refine own_goto (pc' := 223) X40 hx (hb hby at_219) (by decide) (by decide) ?_
          refine own_retN X40 hx hlk hret (by simp) (hb hby at_223) (by decide) (by decide) ?_
          exact ⟨rfl, N43⟩
        · refine own_iload (pc' := 54) X0 hx (hb hby at_52) rfl rfl ?_
          refine own_newarr (pc' := 56) (aty := .byte) X0 hx hZ (own_w0 hw) e0 (hb hby at_54) rfl (by decide) 1 1 (by decide) (by decide) (by decide) (by decide) ?_
          intro T44 h44 a44 k44 X44 e44 E44 g44 V44
          replace V44 : Arv Z h44 a44 k44 .byte (1 : Int32) [(.int (0 : Int32))] (.int (0 : Int32)) := V44
          have ge45 : n0 ≤ a44 := by rw [g44]; exact Z0
          show own_Ends p e below s _ _ _ T44 (mkF m 56 #[.val (.int p0), .val (.int p1), .val (.int p2), .val (.int p3), .val (.int p4), .val (.int p5), .val (.int (1 : Int32)), .val (.int c32), .val (.int c34), .val (.int c36), .unset, .unset, .unset, .unset] [(.ref a44)])
          refine own_astore (pc' := 58) (l' := #[.val (.int p0), .val (.int p1), .val (.int p2), .val (.int p3), .val (.int p4), .val (.int p5), .val (.int (1 : Int32)), .val (.int c32), .val (.int c34), .val (.int c36), .val (.ref a44), .unset, .unset, .unset]) X44 hx (hb hby at_56) rfl rfl rfl ?_
          refine own_iload (pc' := 60) X44 hx (hb hby at_58) rfl rfl ?_
          refine own_ifNo (pc' := 63) X44 hx (hb hby at_60) rfl (tlt (by decide)).2.2.2 ?_
          refine own_aload (pc' := 65) X44 hx (hb hby at_63) rfl rfl rfl ?_
          refine own_iconst (pc' := 66) (z := (0 : Int32)) X44 hx (hb hby at_65) rfl rfl ?_
          refine own_iload (pc' := 68) X44 hx (hb hby at_66) rfl rfl ?_
          refine own_bastore (pc' := 69) X44 hx hZ e44 V44 (hb hby at_68) rfl (by decide) 0 rfl (by simp) N0 ge45 ?_
          intro T46 h46 L46 X46 e46 N46 W46 V46
          rw [show nar .byte c32 = c32 from own_nby hc32] at V46
          replace V46 : Arv Z h46 a44 k44 .byte (1 : Int32) [(.int c32)] (.int (0 : Int32)) := V46
          show own_Ends p e below s _ _ _ T46 (mkF m 69 #[.val (.int p0), .val (.int p1), .val (.int p2), .val (.int p3), .val (.int p4), .val (.int p5), .val (.int (1 : Int32)), .val (.int c32), .val (.int c34), .val (.int c36), .val (.ref a44), .unset, .unset, .unset] [])
          refine own_iload (pc' := 71) X46 hx (hb hby at_69) rfl rfl ?_
          refine own_iconst (pc' := 72) (z := (1 : Int32)) X46 hx (hb hby at_71) rfl rfl ?_
          refine own_icmpYes (pc' := 81) X46 hx (hb hby at_72) (flt (by decide)).2.2.2 (by decide) (by decide) ?_
          refine own_iload (pc' := 83) X46 hx (hb hby at_81) rfl rfl ?_
          refine own_iconst (pc' := 84) (z := (2 : Int32)) X46 hx (hb hby at_83) rfl rfl ?_
          refine own_icmpYes (pc' := 93) X46 hx (hb hby at_84) (flt (by decide)).2.2.2 (by decide) (by decide) ?_
          refine own_iload (pc' := 95) X46 hx (hb hby at_93) rfl rfl ?_
          refine own_iconst (pc' := 96) (z := (3 : Int32)) X46 hx (hb hby at_95) rfl rfl ?_
          refine own_icmpYes (pc' := 106) X46 hx (hb hby at_96) (flt (by decide)).2.2.2 (by decide) (by decide) ?_
          refine own_iload (pc' := 108) X46 hx (hb hby at_106) rfl rfl ?_
          refine own_iconst (pc' := 109) (z := (4 : Int32)) X46 hx (hb hby at_108) rfl rfl ?_
          refine own_icmpYes (pc' := 122) X46 hx (hb hby at_109) (flt (by decide)).2.2.2 (by decide) (by decide) ?_
          refine own_iload (pc' := 124) X46 hx (hb hby at_122) rfl rfl ?_
          refine own_iconst (pc' := 125) (z := (5 : Int32)) X46 hx (hb hby at_124) rfl rfl ?_
          refine own_icmpYes (pc' := 138) X46 hx (hb hby at_125) (flt (by decide)).2.2.2 (by decide) (by decide) ?_
          refine own_iload (pc' := 140) X46 hx (hb hby at_138) rfl rfl ?_
          refine own_bipush (pc' := 142) (z := (6 : Int32)) X46 hx (hb hby at_140) rfl rfl ?_
          refine own_icmpYes (pc' := 156) X46 hx (hb hby at_142) (flt (by decide)).2.2.2 (by decide) (by decide) ?_
          refine own_aload (pc' := 158) X46 hx (hb hby at_156) rfl rfl rfl ?_
          refine own_callS (pc' := 161) (y := (⟨"com/example/mapwright/mapwright/InputFile", "byteOrderMarkLength", "([B)I"⟩ : MethodName)) (W := 0) (rm := own_room1) (argsL := [(.ref a44)]) (rest := []) X46 hx hZ e46 hown (by rw [hml]; rfl) (own_w1 hw) (own_w2 hw) (own_w3 hw) (own_w4 hw) (by decide) (own_rm1 l Z a0 hw [] a44 k44 (1 : Int32) c32 c34 c36 [(.int c32)] h46 n0 V46 (fun q => absurd (by decide) q)) (by decide) (by decide) (by decide) (by decide) (lenOf own_pd0 rfl) rfl (by exact Nat.le_of_eq rfl) (hb hby at_158) rfl ?_
          intro T47 Lc47 v47 X47 hQ47
          obtain ⟨rfl, Nq48, eq49⟩ := hQ47
          have N50 := Fr.app N46 Nq48
          show own_Ends p e below s _ _ _ T47 (mkF m 161 #[.val (.int p0), .val (.int p1), .val (.int p2), .val (.int p3), .val (.int p4), .val (.int p5), .val (.int (1 : Int32)), .val (.int c32), .val (.int c34), .val (.int c36), .val (.ref a44), .unset, .unset, .unset] [(.int (own_bom (1 : Int32) c32 c34 c36))])
          refine own_istore (pc' := 163) (l' := #[.val (.int p0), .val (.int p1), .val (.int p2), .val (.int p3), .val (.int p4), .val (.int p5), .val (.int (1 : Int32)), .val (.int c32), .val (.int c34), .val (.int c36), .val (.ref a44), .val (.int (own_bom (1 : Int32) c32 c34 c36)), .unset, .unset]) X47 hx (hb hby at_161) rfl rfl ?_
          refine own_iload (pc' := 165) X47 hx (hb hby at_163) rfl rfl ?_
          refine own_sipush (pc' := 168) (z := (255 : Int32)) X47 hx (hb hby at_165) rfl rfl ?_
          refine own_iand (pc' := 169) (z := (c32 &&& (255 : Int32))) X47 hx (hb hby at_168) rfl rfl ?_
          refine own_bipush (pc' := 171) (z := (16 : Int32)) X47 hx (hb hby at_169) rfl rfl ?_
          refine own_ishl (pc' := 172) (z := ((c32 &&& (255 : Int32)) <<< ((16 : Int32) &&& 31))) X47 hx (hb hby at_171) rfl rfl ?_
          refine own_iload (pc' := 174) X47 hx (hb hby at_172) rfl rfl ?_
          refine own_sipush (pc' := 177) (z := (255 : Int32)) X47 hx (hb hby at_174) rfl rfl ?_
          refine own_iand (pc' := 178) (z := (c34 &&& (255 : Int32))) X47 hx (hb hby at_177) rfl rfl ?_
          refine own_bipush (pc' := 180) (z := (8 : Int32)) X47 hx (hb hby at_178) rfl rfl ?_
          refine own_ishl (pc' := 181) (z := ((c34 &&& (255 : Int32)) <<< ((8 : Int32) &&& 31))) X47 hx (hb hby at_180) rfl rfl ?_
          refine own_ior (pc' := 182) (z := (((c32 &&& (255 : Int32)) <<< ((16 : Int32) &&& 31)) ||| ((c34 &&& (255 : Int32)) <<< ((8 : Int32) &&& 31)))) X47 hx (hb hby at_181) rfl rfl ?_
          refine own_iload (pc' := 184) X47 hx (hb hby at_182) rfl rfl ?_
          refine own_sipush (pc' := 187) (z := (255 : Int32)) X47 hx (hb hby at_184) rfl rfl ?_
          refine own_iand (pc' := 188) (z := (c36 &&& (255 : Int32))) X47 hx (hb hby at_187) rfl rfl ?_
          refine own_ior (pc' := 189) (z := ((((c32 &&& (255 : Int32)) <<< ((16 : Int32) &&& 31)) ||| ((c34 &&& (255 : Int32)) <<< ((8 : Int32) &&& 31))) ||| (c36 &&& (255 : Int32)))) X47 hx (hb hby at_188) rfl rfl ?_
          refine own_istore (pc' := 191) (l' := #[.val (.int p0), .val (.int p1), .val (.int p2), .val (.int p3), .val (.int p4), .val (.int p5), .val (.int (1 : Int32)), .val (.int c32), .val (.int c34), .val (.int c36), .val (.ref a44), .val (.int (own_bom (1 : Int32) c32 c34 c36)), .val (.int ((((c32 &&& (255 : Int32)) <<< ((16 : Int32) &&& 31)) ||| ((c34 &&& (255 : Int32)) <<< ((8 : Int32) &&& 31))) ||| (c36 &&& (255 : Int32)))), .unset]) X47 hx (hb hby at_189) rfl rfl ?_
          refine own_iload (pc' := 193) X47 hx (hb hby at_191) rfl rfl ?_
          refine own_iconst (pc' := 194) (z := (3 : Int32)) X47 hx (hb hby at_193) rfl rfl ?_
          refine own_icmpYes (pc' := 208) X47 hx (hb hby at_194) (tlt (by decide)).1 (by decide) (by decide) ?_
          refine own_iconst (pc' := 209) (z := (0 : Int32)) X47 hx (hb hby at_208) rfl rfl ?_
          refine own_istore (pc' := 211) (l' := #[.val (.int p0), .val (.int p1), .val (.int p2), .val (.int p3), .val (.int p4), .val (.int p5), .val (.int (1 : Int32)), .val (.int c32), .val (.int c34), .val (.int c36), .val (.ref a44), .val (.int (own_bom (1 : Int32) c32 c34 c36)), .val (.int ((((c32 &&& (255 : Int32)) <<< ((16 : Int32) &&& 31)) ||| ((c34 &&& (255 : Int32)) <<< ((8 : Int32) &&& 31))) ||| (c36 &&& (255 : Int32)))), .val (.int (0 : Int32))]) X47 hx (hb hby at_209) rfl rfl ?_
          refine own_iload (pc' := 213) X47 hx (hb hby at_211) rfl rfl ?_
          refine own_iload (pc' := 215) X47 hx (hb hby at_213) rfl rfl ?_
          refine own_icmpNo (pc' := 218) X47 hx (hb hby at_215) rfl (teq (own_bomN (by decide))).2 ?_
          refine own_iconst (pc' := 219) (z := (1 : Int32)) X47 hx (hb hby at_218) rfl rfl ?_
          refine own_goto (pc' := 223) X47 hx (hb hby at_219) (by decide) (by decide) ?_
          refine own_retN X47 hx hlk hret (by simp) (hb hby at_223) (by decide) (by decide) ?_
          exact ⟨rfl, N50⟩
        · refine own_iload (pc' := 54) X0 hx (hb hby at_52) rfl rfl ?_
          refine own_newarr (pc' := 56) (aty := .byte) X0 hx hZ (own_w0 hw) e0 (hb hby at_54) rfl (by decide) 2 2 (by decide) (by decide) (by decide) (by decide) ?_
          intro T51 h51 a51 k51 X51 e51 E51 g51 V51
          replace V51 : Arv Z h51 a51 k51 .byte (2 : Int32) [(.int (0 : Int32)), (.int (0 : Int32))] (.int (0 : Int32)) := V51
          have ge52 : n0 ≤ a51 := by rw [g51]; exact Z0
          show own_Ends p e below s _ _ _ T51 (mkF m 56 #[.val (.int p0), .val (.int p1), .val (.int p2), .val (.int p3), .val (.int p4), .val (.int p5), .val (.int (2 : Int32)), .val (.int c32), .val (.int c34), .val (.int c36), .unset, .unset, .unset, .unset] [(.ref a51)])
          refine own_astore (pc' := 58) (l' := #[.val (.int p0), .val (.int p1), .val (.int p2), .val (.int p3), .val (.int p4), .val (.int p5), .val (.int (2 : Int32)), .val (.int c32), .val (.int c34), .val (.int c36), .val (.ref a51), .unset, .unset, .unset]) X51 hx (hb hby at_56) rfl rfl rfl ?_
          refine own_iload (pc' := 60) X51 hx (hb hby at_58) rfl rfl ?_
          refine own_ifNo (pc' := 63) X51 hx (hb hby at_60) rfl (tlt (by decide)).2.2.2 ?_
          refine own_aload (pc' := 65) X51 hx (hb hby at_63) rfl rfl rfl ?_
          refine own_iconst (pc' := 66) (z := (0 : Int32)) X51 hx (hb hby at_65) rfl rfl ?_
          refine own_iload (pc' := 68) X51 hx (hb hby at_66) rfl rfl ?_
          refine own_bastore (pc' := 69) X51 hx hZ e51 V51 (hb hby at_68) rfl (by decide) 0 rfl (by simp) N0 ge52 ?_
          intro T53 h53 L53 X53 e53 N53 W53 V53
          rw [show nar .byte c32 = c32 from own_nby hc32] at V53
          replace V53 : Arv Z h53 a51 k51 .byte (2 : Int32) [(.int c32), (.int (0 : Int32))] (.int (0 : Int32)) := V53
          show own_Ends p e below s _ _ _ T53 (mkF m 69 #[.val (.int p0), .val (.int p1), .val (.int p2), .val (.int p3), .val (.int p4), .val (.int p5), .val (.int (2 : Int32)), .val (.int c32), .val (.int c34), .val (.int c36), .val (.ref a51), .unset, .unset, .unset] [])
          refine own_iload (pc' := 71) X53 hx (hb hby at_69) rfl rfl ?_
          refine own_iconst (pc' := 72) (z := (1 : Int32)) X53 hx (hb hby at_71) rfl rfl ?_
          refine own_icmpNo (pc' := 75) X53 hx (hb hby at_72) rfl (tlt (by decide)).2.2.2 ?_
          refine own_aload (pc' := 77) X53 hx (hb hby at_75) rfl rfl rfl ?_
          refine own_iconst (pc' := 78) (z := (1 : Int32)) X53 hx (hb hby at_77) rfl rfl ?_
          refine own_iload (pc' := 80) X53 hx (hb hby at_78) rfl rfl ?_
          refine own_bastore (pc' := 81) X53 hx hZ e53 V53 (hb hby at_80) rfl (by decide) 1 rfl (by simp) N53 ge52 ?_
          intro T54 h54 L54 X54 e54 N54 W54 V54
          rw [show nar .byte c34 = c34 from own_nby hc34] at V54
          replace V54 : Arv Z h54 a51 k51 .byte (2 : Int32) [(.int c32), (.int c34)] (.int (0 : Int32)) := V54
          show own_Ends p e below s _ _ _ T54 (mkF m 81 #[.val (.int p0), .val (.int p1), .val (.int p2), .val (.int p3), .val (.int p4), .val (.int p5), .val (.int (2 : Int32)), .val (.int c32), .val (.int c34), .val (.int c36), .val (.ref a51), .unset, .unset, .unset] [])
          refine own_iload (pc' := 83) X54 hx (hb hby at_81) rfl rfl ?_
          refine own_iconst (pc' := 84) (z := (2 : Int32)) X54 hx (hb hby at_83) rfl rfl ?_
          refine own_icmpYes (pc' := 93) X54 hx (hb hby at_84) (flt (by decide)).2.2.2 (by decide) (by decide) ?_
          refine own_iload (pc' := 95) X54 hx (hb hby at_93) rfl rfl ?_
          refine own_iconst (pc' := 96) (z := (3 : Int32)) X54 hx (hb hby at_95) rfl rfl ?_
          refine own_icmpYes (pc' := 106) X54 hx (hb hby at_96) (flt (by decide)).2.2.2 (by decide) (by decide) ?_
          refine own_iload (pc' := 108) X54 hx (hb hby at_106) rfl rfl ?_
          refine own_iconst (pc' := 109) (z := (4 : Int32)) X54 hx (hb hby at_108) rfl rfl ?_
          refine own_icmpYes (pc' := 122) X54 hx (hb hby at_109) (flt (by decide)).2.2.2 (by decide) (by decide) ?_
          refine own_iload (pc' := 124) X54 hx (hb hby at_122) rfl rfl ?_
          refine own_iconst (pc' := 125) (z := (5 : Int32)) X54 hx (hb hby at_124) rfl rfl ?_
          refine own_icmpYes (pc' := 138) X54 hx (hb hby at_125) (flt (by decide)).2.2.2 (by decide) (by decide) ?_
          refine own_iload (pc' := 140) X54 hx (hb hby at_138) rfl rfl ?_
          refine own_bipush (pc' := 142) (z := (6 : Int32)) X54 hx (hb hby at_140) rfl rfl ?_
          refine own_icmpYes (pc' := 156) X54 hx (hb hby at_142) (flt (by decide)).2.2.2 (by decide) (by decide) ?_
          refine own_aload (pc' := 158) X54 hx (hb hby at_156) rfl rfl rfl ?_
          refine own_callS (pc' := 161) (y := (⟨"com/example/mapwright/mapwright/InputFile", "byteOrderMarkLength", "([B)I"⟩ : MethodName)) (W := 0) (rm := own_room1) (argsL := [(.ref a51)]) (rest := []) X54 hx hZ e54 hown (by rw [hml]; rfl) (own_w1 hw) (own_w2 hw) (own_w3 hw) (own_w4 hw) (by decide) (own_rm1 l Z a0 hw [] a51 k51 (2 : Int32) c32 c34 c36 [(.int c32), (.int c34)] h54 n0 V54 (fun q => absurd (by decide) q)) (by decide) (by decide) (by decide) (by decide) (lenOf own_pd0 rfl) rfl (by exact Nat.le_of_eq rfl) (hb hby at_158) rfl ?_
          intro T55 Lc55 v55 X55 hQ55
          obtain ⟨rfl, Nq56, eq57⟩ := hQ55
          have N58 := Fr.app N54 Nq56
          show own_Ends p e below s _ _ _ T55 (mkF m 161 #[.val (.int p0), .val (.int p1), .val (.int p2), .val (.int p3), .val (.int p4), .val (.int p5), .val (.int (2 : Int32)), .val (.int c32), .val (.int c34), .val (.int c36), .val (.ref a51), .unset, .unset, .unset] [(.int (own_bom (2 : Int32) c32 c34 c36))])
          refine own_istore (pc' := 163) (l' := #[.val (.int p0), .val (.int p1), .val (.int p2), .val (.int p3), .val (.int p4), .val (.int p5), .val (.int (2 : Int32)), .val (.int c32), .val (.int c34), .val (.int c36), .val (.ref a51), .val (.int (own_bom (2 : Int32) c32 c34 c36)), .unset, .unset]) X55 hx (hb hby at_161) rfl rfl ?_
          refine own_iload (pc' := 165) X55 hx (hb hby at_163) rfl rfl ?_
          refine own_sipush (pc' := 168) (z := (255 : Int32)) X55 hx (hb hby at_165) rfl rfl ?_
          refine own_iand (pc' := 169) (z := (c32 &&& (255 : Int32))) X55 hx (hb hby at_168) rfl rfl ?_
          refine own_bipush (pc' := 171) (z := (16 : Int32)) X55 hx (hb hby at_169) rfl rfl ?_
          refine own_ishl (pc' := 172) (z := ((c32 &&& (255 : Int32)) <<< ((16 : Int32) &&& 31))) X55 hx (hb hby at_171) rfl rfl ?_
          refine own_iload (pc' := 174) X55 hx (hb hby at_172) rfl rfl ?_
          refine own_sipush (pc' := 177) (z := (255 : Int32)) X55 hx (hb hby at_174) rfl rfl ?_
          refine own_iand (pc' := 178) (z := (c34 &&& (255 : Int32))) X55 hx (hb hby at_177) rfl rfl ?_
          refine own_bipush (pc' := 180) (z := (8 : Int32)) X55 hx (hb hby at_178) rfl rfl ?_
          refine own_ishl (pc' := 181) (z := ((c34 &&& (255 : Int32)) <<< ((8 : Int32) &&& 31))) X55 hx (hb hby at_180) rfl rfl ?_
          refine own_ior (pc' := 182) (z := (((c32 &&& (255 : Int32)) <<< ((16 : Int32) &&& 31)) ||| ((c34 &&& (255 : Int32)) <<< ((8 : Int32) &&& 31)))) X55 hx (hb hby at_181) rfl rfl ?_
          refine own_iload (pc' := 184) X55 hx (hb hby at_182) rfl rfl ?_
          refine own_sipush (pc' := 187) (z := (255 : Int32)) X55 hx (hb hby at_184) rfl rfl ?_
          refine own_iand (pc' := 188) (z := (c36 &&& (255 : Int32))) X55 hx (hb hby at_187) rfl rfl ?_
          refine own_ior (pc' := 189) (z := ((((c32 &&& (255 : Int32)) <<< ((16 : Int32) &&& 31)) ||| ((c34 &&& (255 : Int32)) <<< ((8 : Int32) &&& 31))) ||| (c36 &&& (255 : Int32)))) X55 hx (hb hby at_188) rfl rfl ?_
          refine own_istore (pc' := 191) (l' := #[.val (.int p0), .val (.int p1), .val (.int p2), .val (.int p3), .val (.int p4), .val (.int p5), .val (.int (2 : Int32)), .val (.int c32), .val (.int c34), .val (.int c36), .val (.ref a51), .val (.int (own_bom (2 : Int32) c32 c34 c36)), .val (.int ((((c32 &&& (255 : Int32)) <<< ((16 : Int32) &&& 31)) ||| ((c34 &&& (255 : Int32)) <<< ((8 : Int32) &&& 31))) ||| (c36 &&& (255 : Int32)))), .unset]) X55 hx (hb hby at_189) rfl rfl ?_
          refine own_iload (pc' := 193) X55 hx (hb hby at_191) rfl rfl ?_
          refine own_iconst (pc' := 194) (z := (3 : Int32)) X55 hx (hb hby at_193) rfl rfl ?_
          refine own_icmpYes (pc' := 208) X55 hx (hb hby at_194) (tlt (by decide)).1 (by decide) (by decide) ?_
          refine own_iconst (pc' := 209) (z := (0 : Int32)) X55 hx (hb hby at_208) rfl rfl ?_
          refine own_istore (pc' := 211) (l' := #[.val (.int p0), .val (.int p1), .val (.int p2), .val (.int p3), .val (.int p4), .val (.int p5), .val (.int (2 : Int32)), .val (.int c32), .val (.int c34), .val (.int c36), .val (.ref a51), .val (.int (own_bom (2 : Int32) c32 c34 c36)), .val (.int ((((c32 &&& (255 : Int32)) <<< ((16 : Int32) &&& 31)) ||| ((c34 &&& (255 : Int32)) <<< ((8 : Int32) &&& 31))) ||| (c36 &&& (255 : Int32)))), .val (.int (0 : Int32))]) X55 hx (hb hby at_209) rfl rfl ?_
          refine own_iload (pc' := 213) X55 hx (hb hby at_211) rfl rfl ?_
          refine own_iload (pc' := 215) X55 hx (hb hby at_213) rfl rfl ?_
          refine own_icmpNo (pc' := 218) X55 hx (hb hby at_215) rfl (teq (own_bomN (by decide))).2 ?_
          refine own_iconst (pc' := 219) (z := (1 : Int32)) X55 hx (hb hby at_218) rfl rfl ?_
          refine own_goto (pc' := 223) X55 hx (hb hby at_219) (by decide) (by decide) ?_
          refine own_retN X55 hx hlk hret (by simp) (hb hby at_223) (by decide) (by decide) ?_
          exact ⟨rfl, N58⟩
        · refine own_iload (pc' := 54) X0 hx (hb hby at_52) rfl rfl ?_
          refine own_newarr (pc' := 56) (aty := .byte) X0 hx hZ (own_w0 hw) e0 (hb hby at_54) rfl (by decide) 3 3 (by decide) (by decide) (by decide) (by decide) ?_
          intro T59 h59 a59 k59 X59 e59 E59 g59 V59
          replace V59 : Arv Z h59 a59 k59 .byte (3 : Int32) [(.int (0 : Int32)), (.int (0 : Int32)), (.int (0 : Int32))] (.int (0 : Int32)) := V59
          have ge60 : n0 ≤ a59 := by rw [g59]; exact Z0
          show own_Ends p e below s _ _ _ T59 (mkF m 56 #[.val (.int p0), .val (.int p1), .val (.int p2), .val (.int p3), .val (.int p4), .val (.int p5), .val (.int (3 : Int32)), .val (.int c32), .val (.int c34), .val (.int c36), .unset, .unset, .unset, .unset] [(.ref a59)])
          refine own_astore (pc' := 58) (l' := #[.val (.int p0), .val (.int p1), .val (.int p2), .val (.int p3), .val (.int p4), .val (.int p5), .val (.int (3 : Int32)), .val (.int c32), .val (.int c34), .val (.int c36), .val (.ref a59), .unset, .unset, .unset]) X59 hx (hb hby at_56) rfl rfl rfl ?_
          refine own_iload (pc' := 60) X59 hx (hb hby at_58) rfl rfl ?_
          refine own_ifNo (pc' := 63) X59 hx (hb hby at_60) rfl (tlt (by decide)).2.2.2 ?_
          refine own_aload (pc' := 65) X59 hx (hb hby at_63) rfl rfl rfl ?_
          refine own_iconst (pc' := 66) (z := (0 : Int32)) X59 hx (hb hby at_65) rfl rfl ?_
          refine own_iload (pc' := 68) X59 hx (hb hby at_66) rfl rfl ?_
          refine own_bastore (pc' := 69) X59 hx hZ e59 V59 (hb hby at_68) rfl (by decide) 0 rfl (by simp) N0 ge60 ?_
          intro T61 h61 L61 X61 e61 N61 W61 V61
          rw [show nar .byte c32 = c32 from own_nby hc32] at V61
          replace V61 : Arv Z h61 a59 k59 .byte (3 : Int32) [(.int c32), (.int (0 : Int32)), (.int (0 : Int32))] (.int (0 : Int32)) := V61
          show own_Ends p e below s _ _ _ T61 (mkF m 69 #[.val (.int p0), .val (.int p1), .val (.int p2), .val (.int p3), .val (.int p4), .val (.int p5), .val (.int (3 : Int32)), .val (.int c32), .val (.int c34), .val (.int c36), .val (.ref a59), .unset, .unset, .unset] [])
          refine own_iload (pc' := 71) X61 hx (hb hby at_69) rfl rfl ?_
          refine own_iconst (pc' := 72) (z := (1 : Int32)) X61 hx (hb hby at_71) rfl rfl ?_
          refine own_icmpNo (pc' := 75) X61 hx (hb hby at_72) rfl (tlt (by decide)).2.2.2 ?_
          refine own_aload (pc' := 77) X61 hx (hb hby at_75) rfl rfl rfl ?_
          refine own_iconst (pc' := 78) (z := (1 : Int32)) X61 hx (hb hby at_77) rfl rfl ?_
          refine own_iload (pc' := 80) X61 hx (hb hby at_78) rfl rfl ?_
          refine own_bastore (pc' := 81) X61 hx hZ e61 V61 (hb hby at_80) rfl (by decide) 1 rfl (by simp) N61 ge60 ?_
          intro T62 h62 L62 X62 e62 N62 W62 V62
          rw [show nar .byte c34 = c34 from own_nby hc34] at V62
          replace V62 : Arv Z h62 a59 k59 .byte (3 : Int32) [(.int c32), (.int c34), (.int (0 : Int32))] (.int (0 : Int32)) := V62
          show own_Ends p e below s _ _ _ T62 (mkF m 81 #[.val (.int p0), .val (.int p1), .val (.int p2), .val (.int p3), .val (.int p4), .val (.int p5), .val (.int (3 : Int32)), .val (.int c32), .val (.int c34), .val (.int c36), .val (.ref a59), .unset, .unset, .unset] [])
          refine own_iload (pc' := 83) X62 hx (hb hby at_81) rfl rfl ?_
          refine own_iconst (pc' := 84) (z := (2 : Int32)) X62 hx (hb hby at_83) rfl rfl ?_
          refine own_icmpNo (pc' := 87) X62 hx (hb hby at_84) rfl (tlt (by decide)).2.2.2 ?_
          refine own_aload (pc' := 89) X62 hx (hb hby at_87) rfl rfl rfl ?_
          refine own_iconst (pc' := 90) (z := (2 : Int32)) X62 hx (hb hby at_89) rfl rfl ?_
          refine own_iload (pc' := 92) X62 hx (hb hby at_90) rfl rfl ?_
          refine own_bastore (pc' := 93) X62 hx hZ e62 V62 (hb hby at_92) rfl (by decide) 2 rfl (by simp) N62 ge60 ?_
          intro T63 h63 L63 X63 e63 N63 W63 V63
          rw [show nar .byte c36 = c36 from own_nby hc36] at V63
          replace V63 : Arv Z h63 a59 k59 .byte (3 : Int32) [(.int c32), (.int c34), (.int c36)] (.int (0 : Int32)) := V63
          show own_Ends p e below s _ _ _ T63 (mkF m 93 #[.val (.int p0), .val (.int p1), .val (.int p2), .val (.int p3), .val (.int p4), .val (.int p5), .val (.int (3 : Int32)), .val (.int c32), .val (.int c34), .val (.int c36), .val (.ref a59), .unset, .unset, .unset] [])
          refine own_iload (pc' := 95) X63 hx (hb hby at_93) rfl rfl ?_
          refine own_iconst (pc' := 96) (z := (3 : Int32)) X63 hx (hb hby at_95) rfl rfl ?_
          refine own_icmpYes (pc' := 106) X63 hx (hb hby at_96) (flt (by decide)).2.2.2 (by decide) (by decide) ?_
          refine own_iload (pc' := 108) X63 hx (hb hby at_106) rfl rfl ?_
          refine own_iconst (pc' := 109) (z := (4 : Int32)) X63 hx (hb hby at_108) rfl rfl ?_
          refine own_icmpYes (pc' := 122) X63 hx (hb hby at_109) (flt (by decide)).2.2.2 (by decide) (by decide) ?_
          refine own_iload (pc' := 124) X63 hx (hb hby at_122) rfl rfl ?_
          refine own_iconst (pc' := 125) (z := (5 : Int32)) X63 hx (hb hby at_124) rfl rfl ?_
          refine own_icmpYes (pc' := 138) X63 hx (hb hby at_125) (flt (by decide)).2.2.2 (by decide) (by decide) ?_
          refine own_iload (pc' := 140) X63 hx (hb hby at_138) rfl rfl ?_
          refine own_bipush (pc' := 142) (z := (6 : Int32)) X63 hx (hb hby at_140) rfl rfl ?_
          refine own_icmpYes (pc' := 156) X63 hx (hb hby at_142) (flt (by decide)).2.2.2 (by decide) (by decide) ?_
          refine own_aload (pc' := 158) X63 hx (hb hby at_156) rfl rfl rfl ?_
          refine own_callS (pc' := 161) (y := (⟨"com/example/mapwright/mapwright/InputFile", "byteOrderMarkLength", "([B)I"⟩ : MethodName)) (W := 0) (rm := own_room1) (argsL := [(.ref a59)]) (rest := []) X63 hx hZ e63 hown (by rw [hml]; rfl) (own_w1 hw) (own_w2 hw) (own_w3 hw) (own_w4 hw) (by decide) (own_rm1 l Z a0 hw [] a59 k59 (3 : Int32) c32 c34 c36 [(.int c32), (.int c34), (.int c36)] h63 n0 V63 (fun _ => ⟨rfl, rfl, rfl⟩)) (by decide) (by decide) (by decide) (by decide) (lenOf own_pd0 rfl) rfl (by exact Nat.le_of_eq rfl) (hb hby at_158) rfl ?_
          intro T64 Lc64 v64 X64 hQ64
          obtain ⟨rfl, Nq65, eq66⟩ := hQ64
          have N67 := Fr.app N63 Nq65
          show own_Ends p e below s _ _ _ T64 (mkF m 161 #[.val (.int p0), .val (.int p1), .val (.int p2), .val (.int p3), .val (.int p4), .val (.int p5), .val (.int (3 : Int32)), .val (.int c32), .val (.int c34), .val (.int c36), .val (.ref a59), .unset, .unset, .unset] [(.int (own_bom (3 : Int32) c32 c34 c36))])
          refine own_istore (pc' := 163) (l' := #[.val (.int p0), .val (.int p1), .val (.int p2), .val (.int p3), .val (.int p4), .val (.int p5), .val (.int (3 : Int32)), .val (.int c32), .val (.int c34), .val (.int c36), .val (.ref a59), .val (.int (own_bom (3 : Int32) c32 c34 c36)), .unset, .unset]) X64 hx (hb hby at_161) rfl rfl ?_
          refine own_iload (pc' := 165) X64 hx (hb hby at_163) rfl rfl ?_
          refine own_sipush (pc' := 168) (z := (255 : Int32)) X64 hx (hb hby at_165) rfl rfl ?_
          refine own_iand (pc' := 169) (z := (c32 &&& (255 : Int32))) X64 hx (hb hby at_168) rfl rfl ?_
          refine own_bipush (pc' := 171) (z := (16 : Int32)) X64 hx (hb hby at_169) rfl rfl ?_
          refine own_ishl (pc' := 172) (z := ((c32 &&& (255 : Int32)) <<< ((16 : Int32) &&& 31))) X64 hx (hb hby at_171) rfl rfl ?_
          refine own_iload (pc' := 174) X64 hx (hb hby at_172) rfl rfl ?_
          refine own_sipush (pc' := 177) (z := (255 : Int32)) X64 hx (hb hby at_174) rfl rfl ?_
          refine own_iand (pc' := 178) (z := (c34 &&& (255 : Int32))) X64 hx (hb hby at_177) rfl rfl ?_
          refine own_bipush (pc' := 180) (z := (8 : Int32)) X64 hx (hb hby at_178) rfl rfl ?_
          refine own_ishl (pc' := 181) (z := ((c34 &&& (255 : Int32)) <<< ((8 : Int32) &&& 31))) X64 hx (hb hby at_180) rfl rfl ?_
          refine own_ior (pc' := 182) (z := (((c32 &&& (255 : Int32)) <<< ((16 : Int32) &&& 31)) ||| ((c34 &&& (255 : Int32)) <<< ((8 : Int32) &&& 31)))) X64 hx (hb hby at_181) rfl rfl ?_
          refine own_iload (pc' := 184) X64 hx (hb hby at_182) rfl rfl ?_
          refine own_sipush (pc' := 187) (z := (255 : Int32)) X64 hx (hb hby at_184) rfl rfl ?_
          refine own_iand (pc' := 188) (z := (c36 &&& (255 : Int32))) X64 hx (hb hby at_187) rfl rfl ?_
          refine own_ior (pc' := 189) (z := ((((c32 &&& (255 : Int32)) <<< ((16 : Int32) &&& 31)) ||| ((c34 &&& (255 : Int32)) <<< ((8 : Int32) &&& 31))) ||| (c36 &&& (255 : Int32)))) X64 hx (hb hby at_188) rfl rfl ?_
          refine own_istore (pc' := 191) (l' := #[.val (.int p0), .val (.int p1), .val (.int p2), .val (.int p3), .val (.int p4), .val (.int p5), .val (.int (3 : Int32)), .val (.int c32), .val (.int c34), .val (.int c36), .val (.ref a59), .val (.int (own_bom (3 : Int32) c32 c34 c36)), .val (.int ((((c32 &&& (255 : Int32)) <<< ((16 : Int32) &&& 31)) ||| ((c34 &&& (255 : Int32)) <<< ((8 : Int32) &&& 31))) ||| (c36 &&& (255 : Int32)))), .unset]) X64 hx (hb hby at_189) rfl rfl ?_
          refine own_iload (pc' := 193) X64 hx (hb hby at_191) rfl rfl ?_
          refine own_iconst (pc' := 194) (z := (3 : Int32)) X64 hx (hb hby at_193) rfl rfl ?_
          refine own_icmpNo (pc' := 197) X64 hx (hb hby at_194) rfl (flt (by decide)).1 ?_
          refine own_iload (pc' := 199) X64 hx (hb hby at_197) rfl rfl ?_
          refine own_ldcI (pc' := 201) X64 hx hZ hown (own_w5 hw) (hb hby at_199) rfl ?_
          by_cases hc201_68 : ((((c32 &&& (255 : Int32)) <<< ((16 : Int32) &&& 31)) ||| ((c34 &&& (255 : Int32)) <<< ((8 : Int32) &&& 31))) ||| (c36 &&& (255 : Int32))) = (15711167 : Int32)
          · refine own_icmpNo (pc' := 204) X64 hx (hb hby at_201) rfl (teq hc201_68).2 ?_
            refine own_iconst (pc' := 205) (z := (3 : Int32)) X64 hx (hb hby at_204) rfl rfl ?_
            refine own_goto (pc' := 209) X64 hx (hb hby at_205) (by decide) (by decide) ?_
            refine own_istore (pc' := 211) (l' := #[.val (.int p0), .val (.int p1), .val (.int p2), .val (.int p3), .val (.int p4), .val (.int p5), .val (.int (3 : Int32)), .val (.int c32), .val (.int c34), .val (.int c36), .val (.ref a59), .val (.int (own_bom (3 : Int32) c32 c34 c36)), .val (.int ((((c32 &&& (255 : Int32)) <<< ((16 : Int32) &&& 31)) ||| ((c34 &&& (255 : Int32)) <<< ((8 : Int32) &&& 31))) ||| (c36 &&& (255 : Int32)))), .val (.int (3 : Int32))]) X64 hx (hb hby at_209) rfl rfl ?_
            refine own_iload (pc' := 213) X64 hx (hb hby at_211) rfl rfl ?_
            refine own_iload (pc' := 215) X64 hx (hb hby at_213) rfl rfl ?_
            refine own_icmpNo (pc' := 218) X64 hx (hb hby at_215) rfl (teq ((own_pk hc32 hc34 hc36 (n := 3) (by decide)).1 hc201_68)).2 ?_
            refine own_iconst (pc' := 219) (z := (1 : Int32)) X64 hx (hb hby at_218) rfl rfl ?_
            refine own_goto (pc' := 223) X64 hx (hb hby at_219) (by decide) (by decide) ?_
            refine own_retN X64 hx hlk hret (by simp) (hb hby at_223) (by decide) (by decide) ?_
            exact ⟨rfl, N67⟩
          · refine own_icmpYes (pc' := 208) X64 hx (hb hby at_201) (feq hc201_68).2 (by decide) (by decide) ?_
            refine own_iconst (pc' := 209) (z := (0 : Int32)) X64 hx (hb hby at_208) rfl rfl ?_
            refine own_istore (pc' := 211) (l' := #[.val (.int p0), .val (.int p1), .val (.int p2), .val (.int p3), .val (.int p4), .val (.int p5), .val (.int (3 : Int32)), .val (.int c32), .val (.int c34), .val (.int c36), .val (.ref a59), .val (.int (own_bom (3 : Int32) c32 c34 c36)), .val (.int ((((c32 &&& (255 : Int32)) <<< ((16 : Int32) &&& 31)) ||| ((c34 &&& (255 : Int32)) <<< ((8 : Int32) &&& 31))) ||| (c36 &&& (255 : Int32)))), .val (.int (0 : Int32))]) X64 hx (hb hby at_209) rfl rfl ?_
            refine own_iload (pc' := 213) X64 hx (hb hby at_211) rfl rfl ?_
            refine own_iload (pc' := 215) X64 hx (hb hby at_213) rfl rfl ?_
            refine own_icmpNo (pc' := 218) X64 hx (hb hby at_215) rfl (teq ((own_pk hc32 hc34 hc36 (n := 3) (by decide)).2 hc201_68)).2 ?_
            refine own_iconst (pc' := 219) (z := (1 : Int32)) X64 hx (hb hby at_218) rfl rfl ?_
            refine own_goto (pc' := 223) X64 hx (hb hby at_219) (by decide) (by decide) ?_
            refine own_retN X64 hx hlk hret (by simp) (hb hby at_223) (by decide) (by decide) ?_
            exact ⟨rfl, N67⟩
        · refine own_iload (pc' := 54) X0 hx (hb hby at_52) rfl rfl ?_
          refine own_newarr (pc' := 56) (aty := .byte) X0 hx hZ (own_w0 hw) e0 (hb hby at_54) rfl (by decide) 4 4 (by decide) (by decide) (by decide) (by decide) ?_
          intro T69 h69 a69 k69 X69 e69 E69 g69 V69
          replace V69 : Arv Z h69 a69 k69 .byte (4 : Int32) [(.int (0 : Int32)), (.int (0 : Int32)), (.int (0 : Int32)), (.int (0 : Int32))] (.int (0 : Int32)) := V69
          have ge70 : n0 ≤ a69 := by rw [g69]; exact Z0
          show own_Ends p e below s _ _ _ T69 (mkF m 56 #[.val (.int p0), .val (.int p1), .val (.int p2), .val (.int p3), .val (.int p4), .val (.int p5), .val (.int (4 : Int32)), .val (.int c32), .val (.int c34), .val (.int c36), .unset, .unset, .unset, .unset] [(.ref a69)])
          refine own_astore (pc' := 58) (l' := #[.val (.int p0), .val (.int p1), .val (.int p2), .val (.int p3), .val (.int p4), .val (.int p5), .val (.int (4 : Int32)), .val (.int c32), .val (.int c34), .val (.int c36), .val (.ref a69), .unset, .unset, .unset]) X69 hx (hb hby at_56) rfl rfl rfl ?_
          refine own_iload (pc' := 60) X69 hx (hb hby at_58) rfl rfl ?_
          refine own_ifNo (pc' := 63) X69 hx (hb hby at_60) rfl (tlt (by decide)).2.2.2 ?_
          refine own_aload (pc' := 65) X69 hx (hb hby at_63) rfl rfl rfl ?_
          refine own_iconst (pc' := 66) (z := (0 : Int32)) X69 hx (hb hby at_65) rfl rfl ?_
          refine own_iload (pc' := 68) X69 hx (hb hby at_66) rfl rfl ?_
          refine own_bastore (pc' := 69) X69 hx hZ e69 V69 (hb hby at_68) rfl (by decide) 0 rfl (by simp) N0 ge70 ?_
          intro T71 h71 L71 X71 e71 N71 W71 V71
          rw [show nar .byte c32 = c32 from own_nby hc32] at V71
          replace V71 : Arv Z h71 a69 k69 .byte (4 : Int32) [(.int c32), (.int (0 : Int32)), (.int (0 : Int32)), (.int (0 : Int32))] (.int (0 : Int32)) := V71
          show own_Ends p e below s _ _ _ T71 (mkF m 69 #[.val (.int p0), .val (.int p1), .val (.int p2), .val (.int p3), .val (.int p4), .val (.int p5), .val (.int (4 : Int32)), .val (.int c32), .val (.int c34), .val (.int c36), .val (.ref a69), .unset, .unset, .unset] [])
          refine own_iload (pc' := 71) X71 hx (hb hby at_69) rfl rfl ?_
          refine own_iconst (pc' := 72) (z := (1 : Int32)) X71 hx (hb hby at_71) rfl rfl ?_
          refine own_icmpNo (pc' := 75) X71 hx (hb hby at_72) rfl (tlt (by decide)).2.2.2 ?_
          refine own_aload (pc' := 77) X71 hx (hb hby at_75) rfl rfl rfl ?_
          refine own_iconst (pc' := 78) (z := (1 : Int32)) X71 hx (hb hby at_77) rfl rfl ?_
          refine own_iload (pc' := 80) X71 hx (hb hby at_78) rfl rfl ?_
          refine own_bastore (pc' := 81) X71 hx hZ e71 V71 (hb hby at_80) rfl (by decide) 1 rfl (by simp) N71 ge70 ?_
          intro T72 h72 L72 X72 e72 N72 W72 V72
          rw [show nar .byte c34 = c34 from own_nby hc34] at V72
          replace V72 : Arv Z h72 a69 k69 .byte (4 : Int32) [(.int c32), (.int c34), (.int (0 : Int32)), (.int (0 : Int32))] (.int (0 : Int32)) := V72
          show own_Ends p e below s _ _ _ T72 (mkF m 81 #[.val (.int p0), .val (.int p1), .val (.int p2), .val (.int p3), .val (.int p4), .val (.int p5), .val (.int (4 : Int32)), .val (.int c32), .val (.int c34), .val (.int c36), .val (.ref a69), .unset, .unset, .unset] [])
          refine own_iload (pc' := 83) X72 hx (hb hby at_81) rfl rfl ?_
          refine own_iconst (pc' := 84) (z := (2 : Int32)) X72 hx (hb hby at_83) rfl rfl ?_
          refine own_icmpNo (pc' := 87) X72 hx (hb hby at_84) rfl (tlt (by decide)).2.2.2 ?_
          refine own_aload (pc' := 89) X72 hx (hb hby at_87) rfl rfl rfl ?_
          refine own_iconst (pc' := 90) (z := (2 : Int32)) X72 hx (hb hby at_89) rfl rfl ?_
          refine own_iload (pc' := 92) X72 hx (hb hby at_90) rfl rfl ?_
          refine own_bastore (pc' := 93) X72 hx hZ e72 V72 (hb hby at_92) rfl (by decide) 2 rfl (by simp) N72 ge70 ?_
          intro T73 h73 L73 X73 e73 N73 W73 V73
          rw [show nar .byte c36 = c36 from own_nby hc36] at V73
          replace V73 : Arv Z h73 a69 k69 .byte (4 : Int32) [(.int c32), (.int c34), (.int c36), (.int (0 : Int32))] (.int (0 : Int32)) := V73
          show own_Ends p e below s _ _ _ T73 (mkF m 93 #[.val (.int p0), .val (.int p1), .val (.int p2), .val (.int p3), .val (.int p4), .val (.int p5), .val (.int (4 : Int32)), .val (.int c32), .val (.int c34), .val (.int c36), .val (.ref a69), .unset, .unset, .unset] [])
          refine own_iload (pc' := 95) X73 hx (hb hby at_93) rfl rfl ?_
          refine own_iconst (pc' := 96) (z := (3 : Int32)) X73 hx (hb hby at_95) rfl rfl ?_
          refine own_icmpNo (pc' := 99) X73 hx (hb hby at_96) rfl (tlt (by decide)).2.2.2 ?_
          refine own_aload (pc' := 101) X73 hx (hb hby at_99) rfl rfl rfl ?_
          refine own_iconst (pc' := 102) (z := (3 : Int32)) X73 hx (hb hby at_101) rfl rfl ?_
          refine own_iload (pc' := 104) X73 hx (hb hby at_102) rfl rfl ?_
          refine own_i2b (pc' := 105) (z := p5.toInt8.toInt32) X73 hx (hb hby at_104) rfl rfl ?_
          refine own_bastore (pc' := 106) X73 hx hZ e73 V73 (hb hby at_105) rfl (by decide) 3 rfl (by simp) N73 ge70 ?_
          intro T74 h74 L74 X74 e74 N74 W74 V74
          rw [show nar .byte p5.toInt8.toInt32 = p5.toInt8.toInt32 from own_nby (own_by_i2b _)] at V74
          replace V74 : Arv Z h74 a69 k69 .byte (4 : Int32) [(.int c32), (.int c34), (.int c36), (.int p5.toInt8.toInt32)] (.int (0 : Int32)) := V74
          show own_Ends p e below s _ _ _ T74 (mkF m 106 #[.val (.int p0), .val (.int p1), .val (.int p2), .val (.int p3), .val (.int p4), .val (.int p5), .val (.int (4 : Int32)), .val (.int c32), .val (.int c34), .val (.int c36), .val (.ref a69), .unset, .unset, .unset] [])
          refine own_iload (pc' := 108) X74 hx (hb hby at_106) rfl rfl ?_
          refine own_iconst (pc' := 109) (z := (4 : Int32)) X74 hx (hb hby at_108) rfl rfl ?_
          refine own_icmpYes (pc' := 122) X74 hx (hb hby at_109) (flt (by decide)).2.2.2 (by decide) (by decide) ?_
          refine own_iload (pc' := 124) X74 hx (hb hby at_122) rfl rfl ?_
          refine own_iconst (pc' := 125) (z := (5 : Int32)) X74 hx (hb hby at_124) rfl rfl ?_
          refine own_icmpYes (pc' := 138) X74 hx (hb hby at_125) (flt (by decide)).2.2.2 (by decide) (by decide) ?_
          refine own_iload (pc' := 140) X74 hx (hb hby at_138) rfl rfl ?_
          refine own_bipush (pc' := 142) (z := (6 : Int32)) X74 hx (hb hby at_140) rfl rfl ?_
          refine own_icmpYes (pc' := 156) X74 hx (hb hby at_142) (flt (by decide)).2.2.2 (by decide) (by decide) ?_
          refine own_aload (pc' := 158) X74 hx (hb hby at_156) rfl rfl rfl ?_
          refine own_callS (pc' := 161) (y := (⟨"com/example/mapwright/mapwright/InputFile", "byteOrderMarkLength", "([B)I"⟩ : MethodName)) (W := 0) (rm := own_room1) (argsL := [(.ref a69)]) (rest := []) X74 hx hZ e74 hown (by rw [hml]; rfl) (own_w1 hw) (own_w2 hw) (own_w3 hw) (own_w4 hw) (by decide) (own_rm1 l Z a0 hw [] a69 k69 (4 : Int32) c32 c34 c36 [(.int c32), (.int c34), (.int c36), (.int p5.toInt8.toInt32)] h74 n0 V74 (fun _ => ⟨rfl, rfl, rfl⟩)) (by decide) (by decide) (by decide) (by decide) (lenOf own_pd0 rfl) rfl (by exact Nat.le_of_eq rfl) (hb hby at_158) rfl ?_
          intro T75 Lc75 v75 X75 hQ75
          obtain ⟨rfl, Nq76, eq77⟩ := hQ75
          have N78 := Fr.app N74 Nq76
          show own_Ends p e below s _ _ _ T75 (mkF m 161 #[.val (.int p0), .val (.int p1), .val (.int p2), .val (.int p3), .val (.int p4), .val (.int p5), .val (.int (4 : Int32)), .val (.int c32), .val (.int c34), .val (.int c36), .val (.ref a69), .unset, .unset, .unset] [(.int (own_bom (4 : Int32) c32 c34 c36))])
          refine own_istore (pc' := 163) (l' := #[.val (.int p0), .val (.int p1), .val (.int p2), .val (.int p3), .val (.int p4), .val (.int p5), .val (.int (4 : Int32)), .val (.int c32), .val (.int c34), .val (.int c36), .val (.ref a69), .val (.int (own_bom (4 : Int32) c32 c34 c36)), .unset, .unset]) X75 hx (hb hby at_161) rfl rfl ?_
          refine own_iload (pc' := 165) X75 hx (hb hby at_163) rfl rfl ?_
          refine own_sipush (pc' := 168) (z := (255 : Int32)) X75 hx (hb hby at_165) rfl rfl ?_
          refine own_iand (pc' := 169) (z := (c32 &&& (255 : Int32))) X75 hx (hb hby at_168) rfl rfl ?_
          refine own_bipush (pc' := 171) (z := (16 : Int32)) X75 hx (hb hby at_169) rfl rfl ?_
          refine own_ishl (pc' := 172) (z := ((c32 &&& (255 : Int32)) <<< ((16 : Int32) &&& 31))) X75 hx (hb hby at_171) rfl rfl ?_
          refine own_iload (pc' := 174) X75 hx (hb hby at_172) rfl rfl ?_
          refine own_sipush (pc' := 177) (z := (255 : Int32)) X75 hx (hb hby at_174) rfl rfl ?_
          refine own_iand (pc' := 178) (z := (c34 &&& (255 : Int32))) X75 hx (hb hby at_177) rfl rfl ?_
          refine own_bipush (pc' := 180) (z := (8 : Int32)) X75 hx (hb hby at_178) rfl rfl ?_
          refine own_ishl (pc' := 181) (z := ((c34 &&& (255 : Int32)) <<< ((8 : Int32) &&& 31))) X75 hx (hb hby at_180) rfl rfl ?_
          refine own_ior (pc' := 182) (z := (((c32 &&& (255 : Int32)) <<< ((16 : Int32) &&& 31)) ||| ((c34 &&& (255 : Int32)) <<< ((8 : Int32) &&& 31)))) X75 hx (hb hby at_181) rfl rfl ?_
          refine own_iload (pc' := 184) X75 hx (hb hby at_182) rfl rfl ?_
          refine own_sipush (pc' := 187) (z := (255 : Int32)) X75 hx (hb hby at_184) rfl rfl ?_
          refine own_iand (pc' := 188) (z := (c36 &&& (255 : Int32))) X75 hx (hb hby at_187) rfl rfl ?_
          refine own_ior (pc' := 189) (z := ((((c32 &&& (255 : Int32)) <<< ((16 : Int32) &&& 31)) ||| ((c34 &&& (255 : Int32)) <<< ((8 : Int32) &&& 31))) ||| (c36 &&& (255 : Int32)))) X75 hx (hb hby at_188) rfl rfl ?_
          refine own_istore (pc' := 191) (l' := #[.val (.int p0), .val (.int p1), .val (.int p2), .val (.int p3), .val (.int p4), .val (.int p5), .val (.int (4 : Int32)), .val (.int c32), .val (.int c34), .val (.int c36), .val (.ref a69), .val (.int (own_bom (4 : Int32) c32 c34 c36)), .val (.int ((((c32 &&& (255 : Int32)) <<< ((16 : Int32) &&& 31)) ||| ((c34 &&& (255 : Int32)) <<< ((8 : Int32) &&& 31))) ||| (c36 &&& (255 : Int32)))), .unset]) X75 hx (hb hby at_189) rfl rfl ?_
          refine own_iload (pc' := 193) X75 hx (hb hby at_191) rfl rfl ?_
          refine own_iconst (pc' := 194) (z := (3 : Int32)) X75 hx (hb hby at_193) rfl rfl ?_
          refine own_icmpNo (pc' := 197) X75 hx (hb hby at_194) rfl (flt (by decide)).1 ?_
          refine own_iload (pc' := 199) X75 hx (hb hby at_197) rfl rfl ?_
          refine own_ldcI (pc' := 201) X75 hx hZ hown (own_w5 hw) (hb hby at_199) rfl ?_
          by_cases hc201_79 : ((((c32 &&& (255 : Int32)) <<< ((16 : Int32) &&& 31)) ||| ((c34 &&& (255 : Int32)) <<< ((8 : Int32) &&& 31))) ||| (c36 &&& (255 : Int32))) = (15711167 : Int32)
          · refine own_icmpNo (pc' := 204) X75 hx (hb hby at_201) rfl (teq hc201_79).2 ?_
            refine own_iconst (pc' := 205) (z := (3 : Int32)) X75 hx (hb hby at_204) rfl rfl ?_
            refine own_goto (pc' := 209) X75 hx (hb hby at_205) (by decide) (by decide) ?_
            refine own_istore (pc' := 211) (l' := #[.val (.int p0), .val (.int p1), .val (.int p2), .val (.int p3), .val (.int p4), .val (.int p5), .val (.int (4 : Int32)), .val (.int c32), .val (.int c34), .val (.int c36), .val (.ref a69), .val (.int (own_bom (4 : Int32) c32 c34 c36)), .val (.int ((((c32 &&& (255 : Int32)) <<< ((16 : Int32) &&& 31)) ||| ((c34 &&& (255 : Int32)) <<< ((8 : Int32) &&& 31))) ||| (c36 &&& (255 : Int32)))), .val (.int (3 : Int32))]) X75 hx (hb hby at_209) rfl rfl ?_
            refine own_iload (pc' := 213) X75 hx (hb hby at_211) rfl rfl ?_
            refine own_iload (pc' := 215) X75 hx (hb hby at_213) rfl rfl ?_
            refine own_icmpNo (pc' := 218) X75 hx (hb hby at_215) rfl (teq ((own_pk hc32 hc34 hc36 (n := 4) (by decide)).1 hc201_79)).2 ?_
            refine own_iconst (pc' := 219) (z := (1 : Int32)) X75 hx (hb hby at_218) rfl rfl ?_
            refine own_goto (pc' := 223) X75 hx (hb hby at_219) (by decide) (by decide) ?_
            refine own_retN X75 hx hlk hret (by simp) (hb hby at_223) (by decide) (by decide) ?_
            exact ⟨rfl, N78⟩
          · refine own_icmpYes (pc' := 208) X75 hx (hb hby at_201) (feq hc201_79).2 (by decide) (by decide) ?_
            refine own_iconst (pc' := 209) (z := (0 : Int32)) X75 hx (hb hby at_208) rfl rfl ?_
            refine own_istore (pc' := 211) (l' := #[.val (.int p0), .val (.int p1), .val (.int p2), .val (.int p3), .val (.int p4), .val (.int p5), .val (.int (4 : Int32)), .val (.int c32), .val (.int c34), .val (.int c36), .val (.ref a69), .val (.int (own_bom (4 : Int32) c32 c34 c36)), .val (.int ((((c32 &&& (255 : Int32)) <<< ((16 : Int32) &&& 31)) ||| ((c34 &&& (255 : Int32)) <<< ((8 : Int32) &&& 31))) ||| (c36 &&& (255 : Int32)))), .val (.int (0 : Int32))]) X75 hx (hb hby at_209) rfl rfl ?_
            refine own_iload (pc' := 213) X75 hx (hb hby at_211) rfl rfl ?_
            refine own_iload (pc' := 215) X75 hx (hb hby at_213) rfl rfl ?_
            refine own_icmpNo (pc' := 218) X75 hx (hb hby at_215) rfl (teq ((own_pk hc32 hc34 hc36 (n := 4) (by decide)).2 hc201_79)).2 ?_
            refine own_iconst (pc' := 219) (z := (1 : Int32)) X75 hx (hb hby at_218) rfl rfl ?_
            refine own_goto (pc' := 223) X75 hx (hb hby at_219) (by decide) (by decide) ?_
            refine own_retN X75 hx hlk hret (by simp) (hb hby at_223) (by decide) (by decide) ?_
            exact ⟨rfl, N78⟩
        · refine own_iload (pc' := 54) X0 hx (hb hby at_52) rfl rfl ?_
          refine own_newarr (pc' := 56) (aty := .byte) X0 hx hZ (own_w0 hw) e0 (hb hby at_54) rfl (by decide) 5 5 (by decide) (by decide) (by decide) (by decide) ?_
          intro T80 h80 a80 k80 X80 e80 E80 g80 V80
          replace V80 : Arv Z h80 a80 k80 .byte (5 : Int32) [(.int (0 : Int32)), (.int (0 : Int32)), (.int (0 : Int32)), (.int (0 : Int32)), (.int (0 : Int32))] (.int (0 : Int32)) := V80
          have ge81 : n0 ≤ a80 := by rw [g80]; exact Z0
          show own_Ends p e below s _ _ _ T80 (mkF m 56 #[.val (.int p0), .val (.int p1), .val (.int p2), .val (.int p3), .val (.int p4), .val (.int p5), .val (.int (5 : Int32)), .val (.int c32), .val (.int c34), .val (.int c36), .unset, .unset, .unset, .unset] [(.ref a80)])
          refine own_astore (pc' := 58) (l' := #[.val (.int p0), .val (.int p1), .val (.int p2), .val (.int p3), .val (.int p4), .val (.int p5), .val (.int (5 : Int32)), .val (.int c32), .val (.int c34), .val (.int c36), .val (.ref a80), .unset, .unset, .unset]) X80 hx (hb hby at_56) rfl rfl rfl ?_
          refine own_iload (pc' := 60) X80 hx (hb hby at_58) rfl rfl ?_
          refine own_ifNo (pc' := 63) X80 hx (hb hby at_60) rfl (tlt (by decide)).2.2.2 ?_
          refine own_aload (pc' := 65) X80 hx (hb hby at_63) rfl rfl rfl ?_
          refine own_iconst (pc' := 66) (z := (0 : Int32)) X80 hx (hb hby at_65) rfl rfl ?_
          refine own_iload (pc' := 68) X80 hx (hb hby at_66) rfl rfl ?_
          refine own_bastore (pc' := 69) X80 hx hZ e80 V80 (hb hby at_68) rfl (by decide) 0 rfl (by simp) N0 ge81 ?_
          intro T82 h82 L82 X82 e82 N82 W82 V82
          rw [show nar .byte c32 = c32 from own_nby hc32] at V82
          replace V82 : Arv Z h82 a80 k80 .byte (5 : Int32) [(.int c32), (.int (0 : Int32)), (.int (0 : Int32)), (.int (0 : Int32)), (.int (0 : Int32))] (.int (0 : Int32)) := V82
          show own_Ends p e below s _ _ _ T82 (mkF m 69 #[.val (.int p0), .val (.int p1), .val (.int p2), .val (.int p3), .val (.int p4), .val (.int p5), .val (.int (5 : Int32)), .val (.int c32), .val (.int c34), .val (.int c36), .val (.ref a80), .unset, .unset, .unset] [])
          refine own_iload (pc' := 71) X82 hx (hb hby at_69) rfl rfl ?_
          refine own_iconst (pc' := 72) (z := (1 : Int32)) X82 hx (hb hby at_71) rfl rfl ?_
          refine own_icmpNo (pc' := 75) X82 hx (hb hby at_72) rfl (tlt (by decide)).2.2.2 ?_
          refine own_aload (pc' := 77) X82 hx (hb hby at_75) rfl rfl rfl ?_
          refine own_iconst (pc' := 78) (z := (1 : Int32)) X82 hx (hb hby at_77) rfl rfl ?_
          refine own_iload (pc' := 80) X82 hx (hb hby at_78) rfl rfl ?_
          refine own_bastore (pc' := 81) X82 hx hZ e82 V82 (hb hby at_80) rfl (by decide) 1 rfl (by simp) N82 ge81 ?_
          intro T83 h83 L83 X83 e83 N83 W83 V83
          rw [show nar .byte c34 = c34 from own_nby hc34] at V83
          replace V83 : Arv Z h83 a80 k80 .byte (5 : Int32) [(.int c32), (.int c34), (.int (0 : Int32)), (.int (0 : Int32)), (.int (0 : Int32))] (.int (0 : Int32)) := V83
          show own_Ends p e below s _ _ _ T83 (mkF m 81 #[.val (.int p0), .val (.int p1), .val (.int p2), .val (.int p3), .val (.int p4), .val (.int p5), .val (.int (5 : Int32)), .val (.int c32), .val (.int c34), .val (.int c36), .val (.ref a80), .unset, .unset, .unset] [])
          refine own_iload (pc' := 83) X83 hx (hb hby at_81) rfl rfl ?_
          refine own_iconst (pc' := 84) (z := (2 : Int32)) X83 hx (hb hby at_83) rfl rfl ?_
          refine own_icmpNo (pc' := 87) X83 hx (hb hby at_84) rfl (tlt (by decide)).2.2.2 ?_
          refine own_aload (pc' := 89) X83 hx (hb hby at_87) rfl rfl rfl ?_
          refine own_iconst (pc' := 90) (z := (2 : Int32)) X83 hx (hb hby at_89) rfl rfl ?_
          refine own_iload (pc' := 92) X83 hx (hb hby at_90) rfl rfl ?_
          refine own_bastore (pc' := 93) X83 hx hZ e83 V83 (hb hby at_92) rfl (by decide) 2 rfl (by simp) N83 ge81 ?_
          intro T84 h84 L84 X84 e84 N84 W84 V84
          rw [show nar .byte c36 = c36 from own_nby hc36] at V84
          replace V84 : Arv Z h84 a80 k80 .byte (5 : Int32) [(.int c32), (.int c34), (.int c36), (.int (0 : Int32)), (.int (0 : Int32))] (.int (0 : Int32)) := V84
          show own_Ends p e below s _ _ _ T84 (mkF m 93 #[.val (.int p0), .val (.int p1), .val (.int p2), .val (.int p3), .val (.int p4), .val (.int p5), .val (.int (5 : Int32)), .val (.int c32), .val (.int c34), .val (.int c36), .val (.ref a80), .unset, .unset, .unset] [])
          refine own_iload (pc' := 95) X84 hx (hb hby at_93) rfl rfl ?_
          refine own_iconst (pc' := 96) (z := (3 : Int32)) X84 hx (hb hby at_95) rfl rfl ?_
          refine own_icmpNo (pc' := 99) X84 hx (hb hby at_96) rfl (tlt (by decide)).2.2.2 ?_
          refine own_aload (pc' := 101) X84 hx (hb hby at_99) rfl rfl rfl ?_
          refine own_iconst (pc' := 102) (z := (3 : Int32)) X84 hx (hb hby at_101) rfl rfl ?_
          refine own_iload (pc' := 104) X84 hx (hb hby at_102) rfl rfl ?_
          refine own_i2b (pc' := 105) (z := p5.toInt8.toInt32) X84 hx (hb hby at_104) rfl rfl ?_
          refine own_bastore (pc' := 106) X84 hx hZ e84 V84 (hb hby at_105) rfl (by decide) 3 rfl (by simp) N84 ge81 ?_
          intro T85 h85 L85 X85 e85 N85 W85 V85
          rw [show nar .byte p5.toInt8.toInt32 = p5.toInt8.toInt32 from own_nby (own_by_i2b _)] at V85
          replace V85 : Arv Z h85 a80 k80 .byte (5 : Int32) [(.int c32), (.int c34), (.int c36), (.int p5.toInt8.toInt32), (.int (0 : Int32))] (.int (0 : Int32)) := V85
          show own_Ends p e below s _ _ _ T85 (mkF m 106 #[.val (.int p0), .val (.int p1), .val (.int p2), .val (.int p3), .val (.int p4), .val (.int p5), .val (.int (5 : Int32)), .val (.int c32), .val (.int c34), .val (.int c36), .val (.ref a80), .unset, .unset, .unset] [])
          refine own_iload (pc' := 108) X85 hx (hb hby at_106) rfl rfl ?_
          refine own_iconst (pc' := 109) (z := (4 : Int32)) X85 hx (hb hby at_108) rfl rfl ?_
          refine own_icmpNo (pc' := 112) X85 hx (hb hby at_109) rfl (tlt (by decide)).2.2.2 ?_
          refine own_aload (pc' := 114) X85 hx (hb hby at_112) rfl rfl rfl ?_
          refine own_iconst (pc' := 115) (z := (4 : Int32)) X85 hx (hb hby at_114) rfl rfl ?_
          refine own_iload (pc' := 117) X85 hx (hb hby at_115) rfl rfl ?_
          refine own_bipush (pc' := 119) (z := (8 : Int32)) X85 hx (hb hby at_117) rfl rfl ?_
          refine own_ishr (pc' := 120) (z := (p5 >>> ((8 : Int32) &&& 31))) X85 hx (hb hby at_119) rfl rfl ?_
          refine own_i2b (pc' := 121) (z := (p5 >>> ((8 : Int32) &&& 31)).toInt8.toInt32) X85 hx (hb hby at_120) rfl rfl ?_
          refine own_bastore (pc' := 122) X85 hx hZ e85 V85 (hb hby at_121) rfl (by decide) 4 rfl (by simp) N85 ge81 ?_
          intro T86 h86 L86 X86 e86 N86 W86 V86
          rw [show nar .byte (p5 >>> ((8 : Int32) &&& 31)).toInt8.toInt32 = (p5 >>> ((8 : Int32) &&& 31)).toInt8.toInt32 from own_nby (own_by_i2b _)] at V86
          replace V86 : Arv Z h86 a80 k80 .byte (5 : Int32) [(.int c32), (.int c34), (.int c36), (.int p5.toInt8.toInt32), (.int (p5 >>> ((8 : Int32) &&& 31)).toInt8.toInt32)] (.int (0 : Int32)) := V86
          show own_Ends p e below s _ _ _ T86 (mkF m 122 #[.val (.int p0), .val (.int p1), .val (.int p2), .val (.int p3), .val (.int p4), .val (.int p5), .val (.int (5 : Int32)), .val (.int c32), .val (.int c34), .val (.int c36), .val (.ref a80), .unset, .unset, .unset] [])
          refine own_iload (pc' := 124) X86 hx (hb hby at_122) rfl rfl ?_
          refine own_iconst (pc' := 125) (z := (5 : Int32)) X86 hx (hb hby at_124) rfl rfl ?_
          refine own_icmpYes (pc' := 138) X86 hx (hb hby at_125) (flt (by decide)).2.2.2 (by decide) (by decide) ?_
          refine own_iload (pc' := 140) X86 hx (hb hby at_138) rfl rfl ?_
          refine own_bipush (pc' := 142) (z := (6 : Int32)) X86 hx (hb hby at_140) rfl rfl ?_
          refine own_icmpYes (pc' := 156) X86 hx (hb hby at_142) (flt (by decide)).2.2.2 (by decide) (by decide) ?_
          refine own_aload (pc' := 158) X86 hx (hb hby at_156) rfl rfl rfl ?_
          refine own_callS (pc' := 161) (y := (⟨"com/example/mapwright/mapwright/InputFile", "byteOrderMarkLength", "([B)I"⟩ : MethodName)) (W := 0) (rm := own_room1) (argsL := [(.ref a80)]) (rest := []) X86 hx hZ e86 hown (by rw [hml]; rfl) (own_w1 hw) (own_w2 hw) (own_w3 hw) (own_w4 hw) (by decide) (own_rm1 l Z a0 hw [] a80 k80 (5 : Int32) c32 c34 c36 [(.int c32), (.int c34), (.int c36), (.int p5.toInt8.toInt32), (.int (p5 >>> ((8 : Int32) &&& 31)).toInt8.toInt32)] h86 n0 V86 (fun _ => ⟨rfl, rfl, rfl⟩)) (by decide) (by decide) (by decide) (by decide) (lenOf own_pd0 rfl) rfl (by exact Nat.le_of_eq rfl) (hb hby at_158) rfl ?_
          intro T87 Lc87 v87 X87 hQ87
          obtain ⟨rfl, Nq88, eq89⟩ := hQ87
          have N90 := Fr.app N86 Nq88
          show own_Ends p e below s _ _ _ T87 (mkF m 161 #[.val (.int p0), .val (.int p1), .val (.int p2), .val (.int p3), .val (.int p4), .val (.int p5), .val (.int (5 : Int32)), .val (.int c32), .val (.int c34), .val (.int c36), .val (.ref a80), .unset, .unset, .unset] [(.int (own_bom (5 : Int32) c32 c34 c36))])
          refine own_istore (pc' := 163) (l' := #[.val (.int p0), .val (.int p1), .val (.int p2), .val (.int p3), .val (.int p4), .val (.int p5), .val (.int (5 : Int32)), .val (.int c32), .val (.int c34), .val (.int c36), .val (.ref a80), .val (.int (own_bom (5 : Int32) c32 c34 c36)), .unset, .unset]) X87 hx (hb hby at_161) rfl rfl ?_
          refine own_iload (pc' := 165) X87 hx (hb hby at_163) rfl rfl ?_
          refine own_sipush (pc' := 168) (z := (255 : Int32)) X87 hx (hb hby at_165) rfl rfl ?_
          refine own_iand (pc' := 169) (z := (c32 &&& (255 : Int32))) X87 hx (hb hby at_168) rfl rfl ?_
          refine own_bipush (pc' := 171) (z := (16 : Int32)) X87 hx (hb hby at_169) rfl rfl ?_
          refine own_ishl (pc' := 172) (z := ((c32 &&& (255 : Int32)) <<< ((16 : Int32) &&& 31))) X87 hx (hb hby at_171) rfl rfl ?_
          refine own_iload (pc' := 174) X87 hx (hb hby at_172) rfl rfl ?_
          refine own_sipush (pc' := 177) (z := (255 : Int32)) X87 hx (hb hby at_174) rfl rfl ?_
          refine own_iand (pc' := 178) (z := (c34 &&& (255 : Int32))) X87 hx (hb hby at_177) rfl rfl ?_
          refine own_bipush (pc' := 180) (z := (8 : Int32)) X87 hx (hb hby at_178) rfl rfl ?_
          refine own_ishl (pc' := 181) (z := ((c34 &&& (255 : Int32)) <<< ((8 : Int32) &&& 31))) X87 hx (hb hby at_180) rfl rfl ?_
          refine own_ior (pc' := 182) (z := (((c32 &&& (255 : Int32)) <<< ((16 : Int32) &&& 31)) ||| ((c34 &&& (255 : Int32)) <<< ((8 : Int32) &&& 31)))) X87 hx (hb hby at_181) rfl rfl ?_
          refine own_iload (pc' := 184) X87 hx (hb hby at_182) rfl rfl ?_
          refine own_sipush (pc' := 187) (z := (255 : Int32)) X87 hx (hb hby at_184) rfl rfl ?_
          refine own_iand (pc' := 188) (z := (c36 &&& (255 : Int32))) X87 hx (hb hby at_187) rfl rfl ?_
          refine own_ior (pc' := 189) (z := ((((c32 &&& (255 : Int32)) <<< ((16 : Int32) &&& 31)) ||| ((c34 &&& (255 : Int32)) <<< ((8 : Int32) &&& 31))) ||| (c36 &&& (255 : Int32)))) X87 hx (hb hby at_188) rfl rfl ?_
          refine own_istore (pc' := 191) (l' := #[.val (.int p0), .val (.int p1), .val (.int p2), .val (.int p3), .val (.int p4), .val (.int p5), .val (.int (5 : Int32)), .val (.int c32), .val (.int c34), .val (.int c36), .val (.ref a80), .val (.int (own_bom (5 : Int32) c32 c34 c36)), .val (.int ((((c32 &&& (255 : Int32)) <<< ((16 : Int32) &&& 31)) ||| ((c34 &&& (255 : Int32)) <<< ((8 : Int32) &&& 31))) ||| (c36 &&& (255 : Int32)))), .unset]) X87 hx (hb hby at_189) rfl rfl ?_
          refine own_iload (pc' := 193) X87 hx (hb hby at_191) rfl rfl ?_
          refine own_iconst (pc' := 194) (z := (3 : Int32)) X87 hx (hb hby at_193) rfl rfl ?_
          refine own_icmpNo (pc' := 197) X87 hx (hb hby at_194) rfl (flt (by decide)).1 ?_
          refine own_iload (pc' := 199) X87 hx (hb hby at_197) rfl rfl ?_
          refine own_ldcI (pc' := 201) X87 hx hZ hown (own_w5 hw) (hb hby at_199) rfl ?_
          by_cases hc201_91 : ((((c32 &&& (255 : Int32)) <<< ((16 : Int32) &&& 31)) ||| ((c34 &&& (255 : Int32)) <<< ((8 : Int32) &&& 31))) ||| (c36 &&& (255 : Int32))) = (15711167 : Int32)
          · refine own_icmpNo (pc' := 204) X87 hx (hb hby at_201) rfl (teq hc201_91).2 ?_
            refine own_iconst (pc' := 205) (z := (3 : Int32)) X87 hx (hb hby at_204) rfl rfl ?_
            refine own_goto (pc' := 209) X87 hx (hb hby at_205) (by decide) (by decide) ?_
            refine own_istore (pc' := 211) (l' := #[.val (.int p0), .val (.int p1), .val (.int p2), .val (.int p3), .val (.int p4), .val (.int p5), .val (.int (5 : Int32)), .val (.int c32), .val (.int c34), .val (.int c36), .val (.ref a80), .val (.int (own_bom (5 : Int32) c32 c34 c36)), .val (.int ((((c32 &&& (255 : Int32)) <<< ((16 : Int32) &&& 31)) ||| ((c34 &&& (255 : Int32)) <<< ((8 : Int32) &&& 31))) ||| (c36 &&& (255 : Int32)))), .val (.int (3 : Int32))]) X87 hx (hb hby at_209) rfl rfl ?_
            refine own_iload (pc' := 213) X87 hx (hb hby at_211) rfl rfl ?_
            refine own_iload (pc' := 215) X87 hx (hb hby at_213) rfl rfl ?_
            refine own_icmpNo (pc' := 218) X87 hx (hb hby at_215) rfl (teq ((own_pk hc32 hc34 hc36 (n := 5) (by decide)).1 hc201_91)).2 ?_
            refine own_iconst (pc' := 219) (z := (1 : Int32)) X87 hx (hb hby at_218) rfl rfl ?_
            refine own_goto (pc' := 223) X87 hx (hb hby at_219) (by decide) (by decide) ?_
            refine own_retN X87 hx hlk hret (by simp) (hb hby at_223) (by decide) (by decide) ?_
            exact ⟨rfl, N90⟩
          · refine own_icmpYes (pc' := 208) X87 hx (hb hby at_201) (feq hc201_91).2 (by decide) (by decide) ?_
            refine own_iconst (pc' := 209) (z := (0 : Int32)) X87 hx (hb hby at_208) rfl rfl ?_
            refine own_istore (pc' := 211) (l' := #[.val (.int p0), .val (.int p1), .val (.int p2), .val (.int p3), .val (.int p4), .val (.int p5), .val (.int (5 : Int32)), .val (.int c32), .val (.int c34), .val (.int c36), .val (.ref a80), .val (.int (own_bom (5 : Int32) c32 c34 c36)), .val (.int ((((c32 &&& (255 : Int32)) <<< ((16 : Int32) &&& 31)) ||| ((c34 &&& (255 : Int32)) <<< ((8 : Int32) &&& 31))) ||| (c36 &&& (255 : Int32)))), .val (.int (0 : Int32))]) X87 hx (hb hby at_209) rfl rfl ?_
            refine own_iload (pc' := 213) X87 hx (hb hby at_211) rfl rfl ?_
            refine own_iload (pc' := 215) X87 hx (hb hby at_213) rfl rfl ?_
            refine own_icmpNo (pc' := 218) X87 hx (hb hby at_215) rfl (teq ((own_pk hc32 hc34 hc36 (n := 5) (by decide)).2 hc201_91)).2 ?_
            refine own_iconst (pc' := 219) (z := (1 : Int32)) X87 hx (hb hby at_218) rfl rfl ?_
            refine own_goto (pc' := 223) X87 hx (hb hby at_219) (by decide) (by decide) ?_
            refine own_retN X87 hx hlk hret (by simp) (hb hby at_223) (by decide) (by decide) ?_
            exact ⟨rfl, N90⟩
        · refine own_iload (pc' := 54) X0 hx (hb hby at_52) rfl rfl ?_
          refine own_newarr (pc' := 56) (aty := .byte) X0 hx hZ (own_w0 hw) e0 (hb hby at_54) rfl (by decide) 6 6 (by decide) (by decide) (by decide) (by decide) ?_
          intro T92 h92 a92 k92 X92 e92 E92 g92 V92
          replace V92 : Arv Z h92 a92 k92 .byte (6 : Int32) [(.int (0 : Int32)), (.int (0 : Int32)), (.int (0 : Int32)), (.int (0 : Int32)), (.int (0 : Int32)), (.int (0 : Int32))] (.int (0 : Int32)) := V92
          have ge93 : n0 ≤ a92 := by rw [g92]; exact Z0
          show own_Ends p e below s _ _ _ T92 (mkF m 56 #[.val (.int p0), .val (.int p1), .val (.int p2), .val (.int p3), .val (.int p4), .val (.int p5), .val (.int (6 : Int32)), .val (.int c32), .val (.int c34), .val (.int c36), .unset, .unset, .unset, .unset] [(.ref a92)])
          refine own_astore (pc' := 58) (l' := #[.val (.int p0), .val (.int p1), .val (.int p2), .val (.int p3), .val (.int p4), .val (.int p5), .val (.int (6 : Int32)), .val (.int c32), .val (.int c34), .val (.int c36), .val (.ref a92), .unset, .unset, .unset]) X92 hx (hb hby at_56) rfl rfl rfl ?_
          refine own_iload (pc' := 60) X92 hx (hb hby at_58) rfl rfl ?_
          refine own_ifNo (pc' := 63) X92 hx (hb hby at_60) rfl (tlt (by decide)).2.2.2 ?_
          refine own_aload (pc' := 65) X92 hx (hb hby at_63) rfl rfl rfl ?_
          refine own_iconst (pc' := 66) (z := (0 : Int32)) X92 hx (hb hby at_65) rfl rfl ?_
          refine own_iload (pc' := 68) X92 hx (hb hby at_66) rfl rfl ?_
          refine own_bastore (pc' := 69) X92 hx hZ e92 V92 (hb hby at_68) rfl (by decide) 0 rfl (by simp) N0 ge93 ?_
          intro T94 h94 L94 X94 e94 N94 W94 V94
          rw [show nar .byte c32 = c32 from own_nby hc32] at V94
          replace V94 : Arv Z h94 a92 k92 .byte (6 : Int32) [(.int c32), (.int (0 : Int32)), (.int (0 : Int32)), (.int (0 : Int32)), (.int (0 : Int32)), (.int (0 : Int32))] (.int (0 : Int32)) := V94
          show own_Ends p e below s _ _ _ T94 (mkF m 69 #[.val (.int p0), .val (.int p1), .val (.int p2), .val (.int p3), .val (.int p4), .val (.int p5), .val (.int (6 : Int32)), .val (.int c32), .val (.int c34), .val (.int c36), .val (.ref a92), .unset, .unset, .unset] [])
          refine own_iload (pc' := 71) X94 hx (hb hby at_69) rfl rfl ?_
          refine own_iconst (pc' := 72) (z := (1 : Int32)) X94 hx (hb hby at_71) rfl rfl ?_
          refine own_icmpNo (pc' := 75) X94 hx (hb hby at_72) rfl (tlt (by decide)).2.2.2 ?_
          refine own_aload (pc' := 77) X94 hx (hb hby at_75) rfl rfl rfl ?_
          refine own_iconst (pc' := 78) (z := (1 : Int32)) X94 hx (hb hby at_77) rfl rfl ?_
          refine own_iload (pc' := 80) X94 hx (hb hby at_78) rfl rfl ?_
          refine own_bastore (pc' := 81) X94 hx hZ e94 V94 (hb hby at_80) rfl (by decide) 1 rfl (by simp) N94 ge93 ?_
          intro T95 h95 L95 X95 e95 N95 W95 V95
          rw [show nar .byte c34 = c34 from own_nby hc34] at V95
          replace V95 : Arv Z h95 a92 k92 .byte (6 : Int32) [(.int c32), (.int c34), (.int (0 : Int32)), (.int (0 : Int32)), (.int (0 : Int32)), (.int (0 : Int32))] (.int (0 : Int32)) := V95
          show own_Ends p e below s _ _ _ T95 (mkF m 81 #[.val (.int p0), .val (.int p1), .val (.int p2), .val (.int p3), .val (.int p4), .val (.int p5), .val (.int (6 : Int32)), .val (.int c32), .val (.int c34), .val (.int c36), .val (.ref a92), .unset, .unset, .unset] [])
          refine own_iload (pc' := 83) X95 hx (hb hby at_81) rfl rfl ?_
          refine own_iconst (pc' := 84) (z := (2 : Int32)) X95 hx (hb hby at_83) rfl rfl ?_
          refine own_icmpNo (pc' := 87) X95 hx (hb hby at_84) rfl (tlt (by decide)).2.2.2 ?_
          refine own_aload (pc' := 89) X95 hx (hb hby at_87) rfl rfl rfl ?_
          refine own_iconst (pc' := 90) (z := (2 : Int32)) X95 hx (hb hby at_89) rfl rfl ?_
          refine own_iload (pc' := 92) X95 hx (hb hby at_90) rfl rfl ?_
          refine own_bastore (pc' := 93) X95 hx hZ e95 V95 (hb hby at_92) rfl (by decide) 2 rfl (by simp) N95 ge93 ?_
          intro T96 h96 L96 X96 e96 N96 W96 V96
          rw [show nar .byte c36 = c36 from own_nby hc36] at V96
          replace V96 : Arv Z h96 a92 k92 .byte (6 : Int32) [(.int c32), (.int c34), (.int c36), (.int (0 : Int32)), (.int (0 : Int32)), (.int (0 : Int32))] (.int (0 : Int32)) := V96
          show own_Ends p e below s _ _ _ T96 (mkF m 93 #[.val (.int p0), .val (.int p1), .val (.int p2), .val (.int p3), .val (.int p4), .val (.int p5), .val (.int (6 : Int32)), .val (.int c32), .val (.int c34), .val (.int c36), .val (.ref a92), .unset, .unset, .unset] [])
          refine own_iload (pc' := 95) X96 hx (hb hby at_93) rfl rfl ?_
          refine own_iconst (pc' := 96) (z := (3 : Int32)) X96 hx (hb hby at_95) rfl rfl ?_
          refine own_icmpNo (pc' := 99) X96 hx (hb hby at_96) rfl (tlt (by decide)).2.2.2 ?_
          refine own_aload (pc' := 101) X96 hx (hb hby at_99) rfl rfl rfl ?_
          refine own_iconst (pc' := 102) (z := (3 : Int32)) X96 hx (hb hby at_101) rfl rfl ?_
          refine own_iload (pc' := 104) X96 hx (hb hby at_102) rfl rfl ?_
          refine own_i2b (pc' := 105) (z := p5.toInt8.toInt32) X96 hx (hb hby at_104) rfl rfl ?_
          refine own_bastore (pc' := 106) X96 hx hZ e96 V96 (hb hby at_105) rfl (by decide) 3 rfl (by simp) N96 ge93 ?_
          intro T97 h97 L97 X97 e97 N97 W97 V97
          rw [show nar .byte p5.toInt8.toInt32 = p5.toInt8.toInt32 from own_nby (own_by_i2b _)] at V97
          replace V97 : Arv Z h97 a92 k92 .byte (6 : Int32) [(.int c32), (.int c34), (.int c36), (.int p5.toInt8.toInt32), (.int (0 : Int32)), (.int (0 : Int32))] (.int (0 : Int32)) := V97
          show own_Ends p e below s _ _ _ T97 (mkF m 106 #[.val (.int p0), .val (.int p1), .val (.int p2), .val (.int p3), .val (.int p4), .val (.int p5), .val (.int (6 : Int32)), .val (.int c32), .val (.int c34), .val (.int c36), .val (.ref a92), .unset, .unset, .unset] [])
          refine own_iload (pc' := 108) X97 hx (hb hby at_106) rfl rfl ?_
          refine own_iconst (pc' := 109) (z := (4 : Int32)) X97 hx (hb hby at_108) rfl rfl ?_
          refine own_icmpNo (pc' := 112) X97 hx (hb hby at_109) rfl (tlt (by decide)).2.2.2 ?_
          refine own_aload (pc' := 114) X97 hx (hb hby at_112) rfl rfl rfl ?_
          refine own_iconst (pc' := 115) (z := (4 : Int32)) X97 hx (hb hby at_114) rfl rfl ?_
          refine own_iload (pc' := 117) X97 hx (hb hby at_115) rfl rfl ?_
          refine own_bipush (pc' := 119) (z := (8 : Int32)) X97 hx (hb hby at_117) rfl rfl ?_
          refine own_ishr (pc' := 120) (z := (p5 >>> ((8 : Int32) &&& 31))) X97 hx (hb hby at_119) rfl rfl ?_
          refine own_i2b (pc' := 121) (z := (p5 >>> ((8 : Int32) &&& 31)).toInt8.toInt32) X97 hx (hb hby at_120) rfl rfl ?_
          refine own_bastore (pc' := 122) X97 hx hZ e97 V97 (hb hby at_121) rfl (by decide) 4 rfl (by simp) N97 ge93 ?_
          intro T98 h98 L98 X98 e98 N98 W98 V98
          rw [show nar .byte (p5 >>> ((8 : Int32) &&& 31)).toInt8.toInt32 = (p5 >>> ((8 : Int32) &&& 31)).toInt8.toInt32 from own_nby (own_by_i2b _)] at V98
          replace V98 : Arv Z h98 a92 k92 .byte (6 : Int32) [(.int c32), (.int c34), (.int c36), (.int p5.toInt8.toInt32), (.int (p5 >>> ((8 : Int32) &&& 31)).toInt8.toInt32), (.int (0 : Int32))] (.int (0 : Int32)) := V98
          show own_Ends p e below s _ _ _ T98 (mkF m 122 #[.val (.int p0), .val (.int p1), .val (.int p2), .val (.int p3), .val (.int p4), .val (.int p5), .val (.int (6 : Int32)), .val (.int c32), .val (.int c34), .val (.int c36), .val (.ref a92), .unset, .unset, .unset] [])
          refine own_iload (pc' := 124) X98 hx (hb hby at_122) rfl rfl ?_
          refine own_iconst (pc' := 125) (z := (5 : Int32)) X98 hx (hb hby at_124) rfl rfl ?_
          refine own_icmpNo (pc' := 128) X98 hx (hb hby at_125) rfl (tlt (by decide)).2.2.2 ?_
          refine own_aload (pc' := 130) X98 hx (hb hby at_128) rfl rfl rfl ?_
          refine own_iconst (pc' := 131) (z := (5 : Int32)) X98 hx (hb hby at_130) rfl rfl ?_
          refine own_iload (pc' := 133) X98 hx (hb hby at_131) rfl rfl ?_
          refine own_bipush (pc' := 135) (z := (16 : Int32)) X98 hx (hb hby at_133) rfl rfl ?_
          refine own_ishr (pc' := 136) (z := (p5 >>> ((16 : Int32) &&& 31))) X98 hx (hb hby at_135) rfl rfl ?_
          refine own_i2b (pc' := 137) (z := (p5 >>> ((16 : Int32) &&& 31)).toInt8.toInt32) X98 hx (hb hby at_136) rfl rfl ?_
          refine own_bastore (pc' := 138) X98 hx hZ e98 V98 (hb hby at_137) rfl (by decide) 5 rfl (by simp) N98 ge93 ?_
          intro T99 h99 L99 X99 e99 N99 W99 V99
          rw [show nar .byte (p5 >>> ((16 : Int32) &&& 31)).toInt8.toInt32 = (p5 >>> ((16 : Int32) &&& 31)).toInt8.toInt32 from own_nby (own_by_i2b _)] at V99
          replace V99 : Arv Z h99 a92 k92 .byte (6 : Int32) [(.int c32), (.int c34), (.int c36), (.int p5.toInt8.toInt32), (.int (p5 >>> ((8 : Int32) &&& 31)).toInt8.toInt32), (.int (p5 >>> ((16 : Int32) &&& 31)).toInt8.toInt32)] (.int (0 : Int32)) := V99
          show own_Ends p e below s _ _ _ T99 (mkF m 138 #[.val (.int p0), .val (.int p1), .val (.int p2), .val (.int p3), .val (.int p4), .val (.int p5), .val (.int (6 : Int32)), .val (.int c32), .val (.int c34), .val (.int c36), .val (.ref a92), .unset, .unset, .unset] [])
          refine own_iload (pc' := 140) X99 hx (hb hby at_138) rfl rfl ?_
          refine own_bipush (pc' := 142) (z := (6 : Int32)) X99 hx (hb hby at_140) rfl rfl ?_
          refine own_icmpYes (pc' := 156) X99 hx (hb hby at_142) (flt (by decide)).2.2.2 (by decide) (by decide) ?_
          refine own_aload (pc' := 158) X99 hx (hb hby at_156) rfl rfl rfl ?_
          refine own_callS (pc' := 161) (y := (⟨"com/example/mapwright/mapwright/InputFile", "byteOrderMarkLength", "([B)I"⟩ : MethodName)) (W := 0) (rm := own_room1) (argsL := [(.ref a92)]) (rest := []) X99 hx hZ e99 hown (by rw [hml]; rfl) (own_w1 hw) (own_w2 hw) (own_w3 hw) (own_w4 hw) (by decide) (own_rm1 l Z a0 hw [] a92 k92 (6 : Int32) c32 c34 c36 [(.int c32), (.int c34), (.int c36), (.int p5.toInt8.toInt32), (.int (p5 >>> ((8 : Int32) &&& 31)).toInt8.toInt32), (.int (p5 >>> ((16 : Int32) &&& 31)).toInt8.toInt32)] h99 n0 V99 (fun _ => ⟨rfl, rfl, rfl⟩)) (by decide) (by decide) (by decide) (by decide) (lenOf own_pd0 rfl) rfl (by exact Nat.le_of_eq rfl) (hb hby at_158) rfl ?_
          intro T100 Lc100 v100 X100 hQ100
          obtain ⟨rfl, Nq101, eq102⟩ := hQ100
          have N103 := Fr.app N99 Nq101
          show own_Ends p e below s _ _ _ T100 (mkF m 161 #[.val (.int p0), .val (.int p1), .val (.int p2), .val (.int p3), .val (.int p4), .val (.int p5), .val (.int (6 : Int32)), .val (.int c32), .val (.int c34), .val (.int c36), .val (.ref a92), .unset, .unset, .unset] [(.int (own_bom (6 : Int32) c32 c34 c36))])
          refine own_istore (pc' := 163) (l' := #[.val (.int p0), .val (.int p1), .val (.int p2), .val (.int p3), .val (.int p4), .val (.int p5), .val (.int (6 : Int32)), .val (.int c32), .val (.int c34), .val (.int c36), .val (.ref a92), .val (.int (own_bom (6 : Int32) c32 c34 c36)), .unset, .unset]) X100 hx (hb hby at_161) rfl rfl ?_
          refine own_iload (pc' := 165) X100 hx (hb hby at_163) rfl rfl ?_
          refine own_sipush (pc' := 168) (z := (255 : Int32)) X100 hx (hb hby at_165) rfl rfl ?_
          refine own_iand (pc' := 169) (z := (c32 &&& (255 : Int32))) X100 hx (hb hby at_168) rfl rfl ?_
          refine own_bipush (pc' := 171) (z := (16 : Int32)) X100 hx (hb hby at_169) rfl rfl ?_
          refine own_ishl (pc' := 172) (z := ((c32 &&& (255 : Int32)) <<< ((16 : Int32) &&& 31))) X100 hx (hb hby at_171) rfl rfl ?_
          refine own_iload (pc' := 174) X100 hx (hb hby at_172) rfl rfl ?_
          refine own_sipush (pc' := 177) (z := (255 : Int32)) X100 hx (hb hby at_174) rfl rfl ?_
          refine own_iand (pc' := 178) (z := (c34 &&& (255 : Int32))) X100 hx (hb hby at_177) rfl rfl ?_
          refine own_bipush (pc' := 180) (z := (8 : Int32)) X100 hx (hb hby at_178) rfl rfl ?_
          refine own_ishl (pc' := 181) (z := ((c34 &&& (255 : Int32)) <<< ((8 : Int32) &&& 31))) X100 hx (hb hby at_180) rfl rfl ?_
          refine own_ior (pc' := 182) (z := (((c32 &&& (255 : Int32)) <<< ((16 : Int32) &&& 31)) ||| ((c34 &&& (255 : Int32)) <<< ((8 : Int32) &&& 31)))) X100 hx (hb hby at_181) rfl rfl ?_
          refine own_iload (pc' := 184) X100 hx (hb hby at_182) rfl rfl ?_
          refine own_sipush (pc' := 187) (z := (255 : Int32)) X100 hx (hb hby at_184) rfl rfl ?_
          refine own_iand (pc' := 188) (z := (c36 &&& (255 : Int32))) X100 hx (hb hby at_187) rfl rfl ?_
          refine own_ior (pc' := 189) (z := ((((c32 &&& (255 : Int32)) <<< ((16 : Int32) &&& 31)) ||| ((c34 &&& (255 : Int32)) <<< ((8 : Int32) &&& 31))) ||| (c36 &&& (255 : Int32)))) X100 hx (hb hby at_188) rfl rfl ?_
          refine own_istore (pc' := 191) (l' := #[.val (.int p0), .val (.int p1), .val (.int p2), .val (.int p3), .val (.int p4), .val (.int p5), .val (.int (6 : Int32)), .val (.int c32), .val (.int c34), .val (.int c36), .val (.ref a92), .val (.int (own_bom (6 : Int32) c32 c34 c36)), .val (.int ((((c32 &&& (255 : Int32)) <<< ((16 : Int32) &&& 31)) ||| ((c34 &&& (255 : Int32)) <<< ((8 : Int32) &&& 31))) ||| (c36 &&& (255 : Int32)))), .unset]) X100 hx (hb hby at_189) rfl rfl ?_
          refine own_iload (pc' := 193) X100 hx (hb hby at_191) rfl rfl ?_
          refine own_iconst (pc' := 194) (z := (3 : Int32)) X100 hx (hb hby at_193) rfl rfl ?_
          refine own_icmpNo (pc' := 197) X100 hx (hb hby at_194) rfl (flt (by decide)).1 ?_
          refine own_iload (pc' := 199) X100 hx (hb hby at_197) rfl rfl ?_
          refine own_ldcI (pc' := 201) X100 hx hZ hown (own_w5 hw) (hb hby at_199) rfl ?_
          by_cases hc201_104 : ((((c32 &&& (255 : Int32)) <<< ((16 : Int32) &&& 31)) ||| ((c34 &&& (255 : Int32)) <<< ((8 : Int32) &&& 31))) ||| (c36 &&& (255 : Int32))) = (15711167 : Int32)
          · refine own_icmpNo (pc' := 204) X100 hx (hb hby at_201) rfl (teq hc201_104).2 ?_
            refine own_iconst (pc' := 205) (z := (3 : Int32)) X100 hx (hb hby at_204) rfl rfl ?_
            refine own_goto (pc' := 209) X100 hx (hb hby at_205) (by decide) (by decide) ?_
            refine own_istore (pc' := 211) (l' := #[.val (.int p0), .val (.int p1), .val (.int p2), .val (.int p3), .val (.int p4), .val (.int p5), .val (.int (6 : Int32)), .val (.int c32), .val (.int c34), .val (.int c36), .val (.ref a92), .val (.int (own_bom (6 : Int32) c32 c34 c36)), .val (.int ((((c32 &&& (255 : Int32)) <<< ((16 : Int32) &&& 31)) ||| ((c34 &&& (255 : Int32)) <<< ((8 : Int32) &&& 31))) ||| (c36 &&& (255 : Int32)))), .val (.int (3 : Int32))]) X100 hx (hb hby at_209) rfl rfl ?_
            refine own_iload (pc' := 213) X100 hx (hb hby at_211) rfl rfl ?_
            refine own_iload (pc' := 215) X100 hx (hb hby at_213) rfl rfl ?_
            refine own_icmpNo (pc' := 218) X100 hx (hb hby at_215) rfl (teq ((own_pk hc32 hc34 hc36 (n := 6) (by decide)).1 hc201_104)).2 ?_
            refine own_iconst (pc' := 219) (z := (1 : Int32)) X100 hx (hb hby at_218) rfl rfl ?_
            refine own_goto (pc' := 223) X100 hx (hb hby at_219) (by decide) (by decide) ?_
            refine own_retN X100 hx hlk hret (by simp) (hb hby at_223) (by decide) (by decide) ?_
            exact ⟨rfl, N103⟩
          · refine own_icmpYes (pc' := 208) X100 hx (hb hby at_201) (feq hc201_104).2 (by decide) (by decide) ?_
            refine own_iconst (pc' := 209) (z := (0 : Int32)) X100 hx (hb hby at_208) rfl rfl ?_
            refine own_istore (pc' := 211) (l' := #[.val (.int p0), .val (.int p1), .val (.int p2), .val (.int p3), .val (.int p4), .val (.int p5), .val (.int (6 : Int32)), .val (.int c32), .val (.int c34), .val (.int c36), .val (.ref a92), .val (.int (own_bom (6 : Int32) c32 c34 c36)), .val (.int ((((c32 &&& (255 : Int32)) <<< ((16 : Int32) &&& 31)) ||| ((c34 &&& (255 : Int32)) <<< ((8 : Int32) &&& 31))) ||| (c36 &&& (255 : Int32)))), .val (.int (0 : Int32))]) X100 hx (hb hby at_209) rfl rfl ?_
            refine own_iload (pc' := 213) X100 hx (hb hby at_211) rfl rfl ?_
            refine own_iload (pc' := 215) X100 hx (hb hby at_213) rfl rfl ?_
            refine own_icmpNo (pc' := 218) X100 hx (hb hby at_215) rfl (teq ((own_pk hc32 hc34 hc36 (n := 6) (by decide)).2 hc201_104)).2 ?_
            refine own_iconst (pc' := 219) (z := (1 : Int32)) X100 hx (hb hby at_218) rfl rfl ?_
            refine own_goto (pc' := 223) X100 hx (hb hby at_219) (by decide) (by decide) ?_
            refine own_retN X100 hx hlk hret (by simp) (hb hby at_223) (by decide) (by decide) ?_
            exact ⟨rfl, N103⟩
        · refine own_iload (pc' := 54) X0 hx (hb hby at_52) rfl rfl ?_
          refine own_newarr (pc' := 56) (aty := .byte) X0 hx hZ (own_w0 hw) e0 (hb hby at_54) rfl (by decide) 7 7 (by decide) (by decide) (by decide) (by decide) ?_
          intro T105 h105 a105 k105 X105 e105 E105 g105 V105
          replace V105 : Arv Z h105 a105 k105 .byte (7 : Int32) [(.int (0 : Int32)), (.int (0 : Int32)), (.int (0 : Int32)), (.int (0 : Int32)), (.int (0 : Int32)), (.int (0 : Int32)), (.int (0 : Int32))] (.int (0 : Int32)) := V105
          have ge106 : n0 ≤ a105 := by rw [g105]; exact Z0
          show own_Ends p e below s _ _ _ T105 (mkF m 56 #[.val (.int p0), .val (.int p1), .val (.int p2), .val (.int p3), .val (.int p4), .val (.int p5), .val (.int (7 : Int32)), .val (.int c32), .val (.int c34), .val (.int c36), .unset, .unset, .unset, .unset] [(.ref a105)])
          refine own_astore (pc' := 58) (l' := #[.val (.int p0), .val (.int p1), .val (.int p2), .val (.int p3), .val (.int p4), .val (.int p5), .val (.int (7 : Int32)), .val (.int c32), .val (.int c34), .val (.int c36), .val (.ref a105), .unset, .unset, .unset]) X105 hx (hb hby at_56) rfl rfl rfl ?_
          refine own_iload (pc' := 60) X105 hx (hb hby at_58) rfl rfl ?_
          refine own_ifNo (pc' := 63) X105 hx (hb hby at_60) rfl (tlt (by decide)).2.2.2 ?_
          refine own_aload (pc' := 65) X105 hx (hb hby at_63) rfl rfl rfl ?_
          refine own_iconst (pc' := 66) (z := (0 : Int32)) X105 hx (hb hby at_65) rfl rfl ?_
          refine own_iload (pc' := 68) X105 hx (hb hby at_66) rfl rfl ?_
          refine own_bastore (pc' := 69) X105 hx hZ e105 V105 (hb hby at_68) rfl (by decide) 0 rfl (by simp) N0 ge106 ?_
          intro T107 h107 L107 X107 e107 N107 W107 V107
          rw [show nar .byte c32 = c32 from own_nby hc32] at V107
          replace V107 : Arv Z h107 a105 k105 .byte (7 : Int32) [(.int c32), (.int (0 : Int32)), (.int (0 : Int32)), (.int (0 : Int32)), (.int (0 : Int32)), (.int (0 : Int32)), (.int (0 : Int32))] (.int (0 : Int32)) := V107
          show own_Ends p e below s _ _ _ T107 (mkF m 69 #[.val (.int p0), .val (.int p1), .val (.int p2), .val (.int p3), .val (.int p4), .val (.int p5), .val (.int (7 : Int32)), .val (.int c32), .val (.int c34), .val (.int c36), .val (.ref a105), .unset, .unset, .unset] [])
          refine own_iload (pc' := 71) X107 hx (hb hby at_69) rfl rfl ?_
          refine own_iconst (pc' := 72) (z := (1 : Int32)) X107 hx (hb hby at_71) rfl rfl ?_
          refine own_icmpNo (pc' := 75) X107 hx (hb hby at_72) rfl (tlt (by decide)).2.2.2 ?_
          refine own_aload (pc' := 77) X107 hx (hb hby at_75) rfl rfl rfl ?_
          refine own_iconst (pc' := 78) (z := (1 : Int32)) X107 hx (hb hby at_77) rfl rfl ?_
          refine own_iload (pc' := 80) X107 hx (hb hby at_78) rfl rfl ?_
          refine own_bastore (pc' := 81) X107 hx hZ e107 V107 (hb hby at_80) rfl (by decide) 1 rfl (by simp) N107 ge106 ?_
          intro T108 h108 L108 X108 e108 N108 W108 V108
          rw [show nar .byte c34 = c34 from own_nby hc34] at V108
          replace V108 : Arv Z h108 a105 k105 .byte (7 : Int32) [(.int c32), (.int c34), (.int (0 : Int32)), (.int (0 : Int32)), (.int (0 : Int32)), (.int (0 : Int32)), (.int (0 : Int32))] (.int (0 : Int32)) := V108
          show own_Ends p e below s _ _ _ T108 (mkF m 81 #[.val (.int p0), .val (.int p1), .val (.int p2), .val (.int p3), .val (.int p4), .val (.int p5), .val (.int (7 : Int32)), .val (.int c32), .val (.int c34), .val (.int c36), .val (.ref a105), .unset, .unset, .unset] [])
          refine own_iload (pc' := 83) X108 hx (hb hby at_81) rfl rfl ?_
          refine own_iconst (pc' := 84) (z := (2 : Int32)) X108 hx (hb hby at_83) rfl rfl ?_
          refine own_icmpNo (pc' := 87) X108 hx (hb hby at_84) rfl (tlt (by decide)).2.2.2 ?_
          refine own_aload (pc' := 89) X108 hx (hb hby at_87) rfl rfl rfl ?_
          refine own_iconst (pc' := 90) (z := (2 : Int32)) X108 hx (hb hby at_89) rfl rfl ?_
          refine own_iload (pc' := 92) X108 hx (hb hby at_90) rfl rfl ?_
          refine own_bastore (pc' := 93) X108 hx hZ e108 V108 (hb hby at_92) rfl (by decide) 2 rfl (by simp) N108 ge106 ?_
          intro T109 h109 L109 X109 e109 N109 W109 V109
          rw [show nar .byte c36 = c36 from own_nby hc36] at V109
          replace V109 : Arv Z h109 a105 k105 .byte (7 : Int32) [(.int c32), (.int c34), (.int c36), (.int (0 : Int32)), (.int (0 : Int32)), (.int (0 : Int32)), (.int (0 : Int32))] (.int (0 : Int32)) := V109
          show own_Ends p e below s _ _ _ T109 (mkF m 93 #[.val (.int p0), .val (.int p1), .val (.int p2), .val (.int p3), .val (.int p4), .val (.int p5), .val (.int (7 : Int32)), .val (.int c32), .val (.int c34), .val (.int c36), .val (.ref a105), .unset, .unset, .unset] [])
          refine own_iload (pc' := 95) X109 hx (hb hby at_93) rfl rfl ?_
          refine own_iconst (pc' := 96) (z := (3 : Int32)) X109 hx (hb hby at_95) rfl rfl ?_
          refine own_icmpNo (pc' := 99) X109 hx (hb hby at_96) rfl (tlt (by decide)).2.2.2 ?_
          refine own_aload (pc' := 101) X109 hx (hb hby at_99) rfl rfl rfl ?_
          refine own_iconst (pc' := 102) (z := (3 : Int32)) X109 hx (hb hby at_101) rfl rfl ?_
          refine own_iload (pc' := 104) X109 hx (hb hby at_102) rfl rfl ?_
          refine own_i2b (pc' := 105) (z := p5.toInt8.toInt32) X109 hx (hb hby at_104) rfl rfl ?_
          refine own_bastore (pc' := 106) X109 hx hZ e109 V109 (hb hby at_105) rfl (by decide) 3 rfl (by simp) N109 ge106 ?_
          intro T110 h110 L110 X110 e110 N110 W110 V110
          rw [show nar .byte p5.toInt8.toInt32 = p5.toInt8.toInt32 from own_nby (own_by_i2b _)] at V110
          replace V110 : Arv Z h110 a105 k105 .byte (7 : Int32) [(.int c32), (.int c34), (.int c36), (.int p5.toInt8.toInt32), (.int (0 : Int32)), (.int (0 : Int32)), (.int (0 : Int32))] (.int (0 : Int32)) := V110
          show own_Ends p e below s _ _ _ T110 (mkF m 106 #[.val (.int p0), .val (.int p1), .val (.int p2), .val (.int p3), .val (.int p4), .val (.int p5), .val (.int (7 : Int32)), .val (.int c32), .val (.int c34), .val (.int c36), .val (.ref a105), .unset, .unset, .unset] [])
          refine own_iload (pc' := 108) X110 hx (hb hby at_106) rfl rfl ?_
          refine own_iconst (pc' := 109) (z := (4 : Int32)) X110 hx (hb hby at_108) rfl rfl ?_
          refine own_icmpNo (pc' := 112) X110 hx (hb hby at_109) rfl (tlt (by decide)).2.2.2 ?_
          refine own_aload (pc' := 114) X110 hx (hb hby at_112) rfl rfl rfl ?_
          refine own_iconst (pc' := 115) (z := (4 : Int32)) X110 hx (hb hby at_114) rfl rfl ?_
          refine own_iload (pc' := 117) X110 hx (hb hby at_115) rfl rfl ?_
          refine own_bipush (pc' := 119) (z := (8 : Int32)) X110 hx (hb hby at_117) rfl rfl ?_
          refine own_ishr (pc' := 120) (z := (p5 >>> ((8 : Int32) &&& 31))) X110 hx (hb hby at_119) rfl rfl ?_
          refine own_i2b (pc' := 121) (z := (p5 >>> ((8 : Int32) &&& 31)).toInt8.toInt32) X110 hx (hb hby at_120) rfl rfl ?_
          refine own_bastore (pc' := 122) X110 hx hZ e110 V110 (hb hby at_121) rfl (by decide) 4 rfl (by simp) N110 ge106 ?_
          intro T111 h111 L111 X111 e111 N111 W111 V111
          rw [show nar .byte (p5 >>> ((8 : Int32) &&& 31)).toInt8.toInt32 = (p5 >>> ((8 : Int32) &&& 31)).toInt8.toInt32 from own_nby (own_by_i2b _)] at V111
          replace V111 : Arv Z h111 a105 k105 .byte (7 : Int32) [(.int c32), (.int c34), (.int c36), (.int p5.toInt8.toInt32), (.int (p5 >>> ((8 : Int32) &&& 31)).toInt8.toInt32), (.int (0 : Int32)), (.int (0 : Int32))] (.int (0 : Int32)) := V111
          show own_Ends p e below s _ _ _ T111 (mkF m 122 #[.val (.int p0), .val (.int p1), .val (.int p2), .val (.int p3), .val (.int p4), .val (.int p5), .val (.int (7 : Int32)), .val (.int c32), .val (.int c34), .val (.int c36), .val (.ref a105), .unset, .unset, .unset] [])
          refine own_iload (pc' := 124) X111 hx (hb hby at_122) rfl rfl ?_
          refine own_iconst (pc' := 125) (z := (5 : Int32)) X111 hx (hb hby at_124) rfl rfl ?_
          refine own_icmpNo (pc' := 128) X111 hx (hb hby at_125) rfl (tlt (by decide)).2.2.2 ?_
          refine own_aload (pc' := 130) X111 hx (hb hby at_128) rfl rfl rfl ?_
          refine own_iconst (pc' := 131) (z := (5 : Int32)) X111 hx (hb hby at_130) rfl rfl ?_
          refine own_iload (pc' := 133) X111 hx (hb hby at_131) rfl rfl ?_
          refine own_bipush (pc' := 135) (z := (16 : Int32)) X111 hx (hb hby at_133) rfl rfl ?_
          refine own_ishr (pc' := 136) (z := (p5 >>> ((16 : Int32) &&& 31))) X111 hx (hb hby at_135) rfl rfl ?_
          refine own_i2b (pc' := 137) (z := (p5 >>> ((16 : Int32) &&& 31)).toInt8.toInt32) X111 hx (hb hby at_136) rfl rfl ?_
          refine own_bastore (pc' := 138) X111 hx hZ e111 V111 (hb hby at_137) rfl (by decide) 5 rfl (by simp) N111 ge106 ?_
          intro T112 h112 L112 X112 e112 N112 W112 V112
          rw [show nar .byte (p5 >>> ((16 : Int32) &&& 31)).toInt8.toInt32 = (p5 >>> ((16 : Int32) &&& 31)).toInt8.toInt32 from own_nby (own_by_i2b _)] at V112
          replace V112 : Arv Z h112 a105 k105 .byte (7 : Int32) [(.int c32), (.int c34), (.int c36), (.int p5.toInt8.toInt32), (.int (p5 >>> ((8 : Int32) &&& 31)).toInt8.toInt32), (.int (p5 >>> ((16 : Int32) &&& 31)).toInt8.toInt32), (.int (0 : Int32))] (.int (0 : Int32)) := V112
          show own_Ends p e below s _ _ _ T112 (mkF m 138 #[.val (.int p0), .val (.int p1), .val (.int p2), .val (.int p3), .val (.int p4), .val (.int p5), .val (.int (7 : Int32)), .val (.int c32), .val (.int c34), .val (.int c36), .val (.ref a105), .unset, .unset, .unset] [])
          refine own_iload (pc' := 140) X112 hx (hb hby at_138) rfl rfl ?_
          refine own_bipush (pc' := 142) (z := (6 : Int32)) X112 hx (hb hby at_140) rfl rfl ?_
          refine own_icmpNo (pc' := 145) X112 hx (hb hby at_142) rfl (tlt (by decide)).2.2.2 ?_
          refine own_aload (pc' := 147) X112 hx (hb hby at_145) rfl rfl rfl ?_
          refine own_bipush (pc' := 149) (z := (6 : Int32)) X112 hx (hb hby at_147) rfl rfl ?_
          refine own_iload (pc' := 151) X112 hx (hb hby at_149) rfl rfl ?_
          refine own_bipush (pc' := 153) (z := (24 : Int32)) X112 hx (hb hby at_151) rfl rfl ?_
          refine own_ishr (pc' := 154) (z := (p5 >>> ((24 : Int32) &&& 31))) X112 hx (hb hby at_153) rfl rfl ?_
          refine own_i2b (pc' := 155) (z := (p5 >>> ((24 : Int32) &&& 31)).toInt8.toInt32) X112 hx (hb hby at_154) rfl rfl ?_
          refine own_bastore (pc' := 156) X112 hx hZ e112 V112 (hb hby at_155) rfl (by decide) 6 rfl (by simp) N112 ge106 ?_
          intro T113 h113 L113 X113 e113 N113 W113 V113
          rw [show nar .byte (p5 >>> ((24 : Int32) &&& 31)).toInt8.toInt32 = (p5 >>> ((24 : Int32) &&& 31)).toInt8.toInt32 from own_nby (own_by_i2b _)] at V113
          replace V113 : Arv Z h113 a105 k105 .byte (7 : Int32) [(.int c32), (.int c34), (.int c36), (.int p5.toInt8.toInt32), (.int (p5 >>> ((8 : Int32) &&& 31)).toInt8.toInt32), (.int (p5 >>> ((16 : Int32) &&& 31)).toInt8.toInt32), (.int (p5 >>> ((24 : Int32) &&& 31)).toInt8.toInt32)] (.int (0 : Int32)) := V113
          show own_Ends p e below s _ _ _ T113 (mkF m 156 #[.val (.int p0), .val (.int p1), .val (.int p2), .val (.int p3), .val (.int p4), .val (.int p5), .val (.int (7 : Int32)), .val (.int c32), .val (.int c34), .val (.int c36), .val (.ref a105), .unset, .unset, .unset] [])
          refine own_aload (pc' := 158) X113 hx (hb hby at_156) rfl rfl rfl ?_
          refine own_callS (pc' := 161) (y := (⟨"com/example/mapwright/mapwright/InputFile", "byteOrderMarkLength", "([B)I"⟩ : MethodName)) (W := 0) (rm := own_room1) (argsL := [(.ref a105)]) (rest := []) X113 hx hZ e113 hown (by rw [hml]; rfl) (own_w1 hw) (own_w2 hw) (own_w3 hw) (own_w4 hw) (by decide) (own_rm1 l Z a0 hw [] a105 k105 (7 : Int32) c32 c34 c36 [(.int c32), (.int c34), (.int c36), (.int p5.toInt8.toInt32), (.int (p5 >>> ((8 : Int32) &&& 31)).toInt8.toInt32), (.int (p5 >>> ((16 : Int32) &&& 31)).toInt8.toInt32), (.int (p5 >>> ((24 : Int32) &&& 31)).toInt8.toInt32)] h113 n0 V113 (fun _ => ⟨rfl, rfl, rfl⟩)) (by decide) (by decide) (by decide) (by decide) (lenOf own_pd0 rfl) rfl (by exact Nat.le_of_eq rfl) (hb hby at_158) rfl ?_
          intro T114 Lc114 v114 X114 hQ114
          obtain ⟨rfl, Nq115, eq116⟩ := hQ114
          have N117 := Fr.app N113 Nq115
          show own_Ends p e below s _ _ _ T114 (mkF m 161 #[.val (.int p0), .val (.int p1), .val (.int p2), .val (.int p3), .val (.int p4), .val (.int p5), .val (.int (7 : Int32)), .val (.int c32), .val (.int c34), .val (.int c36), .val (.ref a105), .unset, .unset, .unset] [(.int (own_bom (7 : Int32) c32 c34 c36))])
          refine own_istore (pc' := 163) (l' := #[.val (.int p0), .val (.int p1), .val (.int p2), .val (.int p3), .val (.int p4), .val (.int p5), .val (.int (7 : Int32)), .val (.int c32), .val (.int c34), .val (.int c36), .val (.ref a105), .val (.int (own_bom (7 : Int32) c32 c34 c36)), .unset, .unset]) X114 hx (hb hby at_161) rfl rfl ?_
          refine own_iload (pc' := 165) X114 hx (hb hby at_163) rfl rfl ?_
          refine own_sipush (pc' := 168) (z := (255 : Int32)) X114 hx (hb hby at_165) rfl rfl ?_
          refine own_iand (pc' := 169) (z := (c32 &&& (255 : Int32))) X114 hx (hb hby at_168) rfl rfl ?_
          refine own_bipush (pc' := 171) (z := (16 : Int32)) X114 hx (hb hby at_169) rfl rfl ?_
          refine own_ishl (pc' := 172) (z := ((c32 &&& (255 : Int32)) <<< ((16 : Int32) &&& 31))) X114 hx (hb hby at_171) rfl rfl ?_
          refine own_iload (pc' := 174) X114 hx (hb hby at_172) rfl rfl ?_
          refine own_sipush (pc' := 177) (z := (255 : Int32)) X114 hx (hb hby at_174) rfl rfl ?_
          refine own_iand (pc' := 178) (z := (c34 &&& (255 : Int32))) X114 hx (hb hby at_177) rfl rfl ?_
          refine own_bipush (pc' := 180) (z := (8 : Int32)) X114 hx (hb hby at_178) rfl rfl ?_
          refine own_ishl (pc' := 181) (z := ((c34 &&& (255 : Int32)) <<< ((8 : Int32) &&& 31))) X114 hx (hb hby at_180) rfl rfl ?_
          refine own_ior (pc' := 182) (z := (((c32 &&& (255 : Int32)) <<< ((16 : Int32) &&& 31)) ||| ((c34 &&& (255 : Int32)) <<< ((8 : Int32) &&& 31)))) X114 hx (hb hby at_181) rfl rfl ?_
          refine own_iload (pc' := 184) X114 hx (hb hby at_182) rfl rfl ?_
          refine own_sipush (pc' := 187) (z := (255 : Int32)) X114 hx (hb hby at_184) rfl rfl ?_
          refine own_iand (pc' := 188) (z := (c36 &&& (255 : Int32))) X114 hx (hb hby at_187) rfl rfl ?_
          refine own_ior (pc' := 189) (z := ((((c32 &&& (255 : Int32)) <<< ((16 : Int32) &&& 31)) ||| ((c34 &&& (255 : Int32)) <<< ((8 : Int32) &&& 31))) ||| (c36 &&& (255 : Int32)))) X114 hx (hb hby at_188) rfl rfl ?_
          refine own_istore (pc' := 191) (l' := #[.val (.int p0), .val (.int p1), .val (.int p2), .val (.int p3), .val (.int p4), .val (.int p5), .val (.int (7 : Int32)), .val (.int c32), .val (.int c34), .val (.int c36), .val (.ref a105), .val (.int (own_bom (7 : Int32) c32 c34 c36)), .val (.int ((((c32 &&& (255 : Int32)) <<< ((16 : Int32) &&& 31)) ||| ((c34 &&& (255 : Int32)) <<< ((8 : Int32) &&& 31))) ||| (c36 &&& (255 : Int32)))), .unset]) X114 hx (hb hby at_189) rfl rfl ?_
          refine own_iload (pc' := 193) X114 hx (hb hby at_191) rfl rfl ?_
          refine own_iconst (pc' := 194) (z := (3 : Int32)) X114 hx (hb hby at_193) rfl rfl ?_
          refine own_icmpNo (pc' := 197) X114 hx (hb hby at_194) rfl (flt (by decide)).1 ?_
          refine own_iload (pc' := 199) X114 hx (hb hby at_197) rfl rfl ?_
          refine own_ldcI (pc' := 201) X114 hx hZ hown (own_w5 hw) (hb hby at_199) rfl ?_
          by_cases hc201_118 : ((((c32 &&& (255 : Int32)) <<< ((16 : Int32) &&& 31)) ||| ((c34 &&& (255 : Int32)) <<< ((8 : Int32) &&& 31))) ||| (c36 &&& (255 : Int32))) = (15711167 : Int32)
          · refine own_icmpNo (pc' := 204) X114 hx (hb hby at_201) rfl (teq hc201_118).2 ?_
            refine own_iconst (pc' := 205) (z := (3 : Int32)) X114 hx (hb hby at_204) rfl rfl ?_
            refine own_goto (pc' := 209) X114 hx (hb hby at_205) (by decide) (by decide) ?_
            refine own_istore (pc' := 211) (l' := #[.val (.int p0), .val (.int p1), .val (.int p2), .val (.int p3), .val (.int p4), .val (.int p5), .val (.int (7 : Int32)), .val (.int c32), .val (.int c34), .val (.int c36), .val (.ref a105), .val (.int (own_bom (7 : Int32) c32 c34 c36)), .val (.int ((((c32 &&& (255 : Int32)) <<< ((16 : Int32) &&& 31)) ||| ((c34 &&& (255 : Int32)) <<< ((8 : Int32) &&& 31))) ||| (c36 &&& (255 : Int32)))), .val (.int (3 : Int32))]) X114 hx (hb hby at_209) rfl rfl ?_
            refine own_iload (pc' := 213) X114 hx (hb hby at_211) rfl rfl ?_
            refine own_iload (pc' := 215) X114 hx (hb hby at_213) rfl rfl ?_
            refine own_icmpNo (pc' := 218) X114 hx (hb hby at_215) rfl (teq ((own_pk hc32 hc34 hc36 (n := 7) (by decide)).1 hc201_118)).2 ?_
            refine own_iconst (pc' := 219) (z := (1 : Int32)) X114 hx (hb hby at_218) rfl rfl ?_
            refine own_goto (pc' := 223) X114 hx (hb hby at_219) (by decide) (by decide) ?_
            refine own_retN X114 hx hlk hret (by simp) (hb hby at_223) (by decide) (by decide) ?_
            exact ⟨rfl, N117⟩
          · refine own_icmpYes (pc' := 208) X114 hx (hb hby at_201) (feq hc201_118).2 (by decide) (by decide) ?_
            refine own_iconst (pc' := 209) (z := (0 : Int32)) X114 hx (hb hby at_208) rfl rfl ?_
            refine own_istore (pc' := 211) (l' := #[.val (.int p0), .val (.int p1), .val (.int p2), .val (.int p3), .val (.int p4), .val (.int p5), .val (.int (7 : Int32)), .val (.int c32), .val (.int c34), .val (.int c36), .val (.ref a105), .val (.int (own_bom (7 : Int32) c32 c34 c36)), .val (.int ((((c32 &&& (255 : Int32)) <<< ((16 : Int32) &&& 31)) ||| ((c34 &&& (255 : Int32)) <<< ((8 : Int32) &&& 31))) ||| (c36 &&& (255 : Int32)))), .val (.int (0 : Int32))]) X114 hx (hb hby at_209) rfl rfl ?_
            refine own_iload (pc' := 213) X114 hx (hb hby at_211) rfl rfl ?_
            refine own_iload (pc' := 215) X114 hx (hb hby at_213) rfl rfl ?_
            refine own_icmpNo (pc' := 218) X114 hx (hb hby at_215) rfl (teq ((own_pk hc32 hc34 hc36 (n := 7) (by decide)).2 hc201_118)).2 ?_
            refine own_iconst (pc' := 219) (z := (1 : Int32)) X114 hx (hb hby at_218) rfl rfl ?_
            refine own_goto (pc' := 223) X114 hx (hb hby at_219) (by decide) (by decide) ?_
            refine own_retN X114 hx hlk hret (by simp) (hb hby at_223) (by decide) (by decide) ?_
            exact ⟨rfl, N117⟩
      by_cases hc39_119 : (p1 &&& (4 : Int32)) = (0 : Int32)
      · refine own_ifYes (pc' := 47) X0 hx (hb hby at_39) (teq hc39_119).1 (by decide) (by decide) ?_
        refine own_iload (pc' := 49) X0 hx (hb hby at_47) rfl rfl ?_
        refine own_i2b (pc' := 50) (z := p4.toInt8.toInt32) X0 hx (hb hby at_49) rfl rfl ?_
        exact K37 _ (own_by_i2b _)
      · refine own_ifNo (pc' := 42) X0 hx (hb hby at_39) rfl (feq hc39_119).1 ?_
        refine own_bipush (pc' := 44) (z := (-65 : Int32)) X0 hx (hb hby at_42) rfl rfl ?_
        refine own_goto (pc' := 50) X0 hx (hb hby at_44) (by decide) (by decide) ?_
        exact K37 _ (by unfold own_by; decide)
    by_cases hc24_120 : (p1 &&& (2 : Int32)) = (0 : Int32)
    · refine own_ifYes (pc' := 32) X0 hx (hb hby at_24) (teq hc24_120).1 (by decide) (by decide) ?_
      refine own_iloadN (pc' := 33) X0 hx (hb hby at_32) rfl rfl ?_
      refine own_i2b (pc' := 34) (z := p3.toInt8.toInt32) X0 hx (hb hby at_33) rfl rfl ?_
      exact K35 _ (own_by_i2b _)
    · refine own_ifNo (pc' := 27) X0 hx (hb hby at_24) rfl (feq hc24_120).1 ?_
      refine own_bipush (pc' := 29) (z := (-69 : Int32)) X0 hx (hb hby at_27) rfl rfl ?_
      refine own_goto (pc' := 34) X0 hx (hb hby at_29) (by decide) (by decide) ?_
      exact K35 _ (by unfold own_by; decide)
  by_cases hc9_121 : (p1 &&& (1 : Int32)) = (0 : Int32)
  · refine own_ifYes (pc' := 17) X0 hx (hb hby at_9) (teq hc9_121).1 (by decide) (by decide) ?_
    refine own_iloadN (pc' := 18) X0 hx (hb hby at_17) rfl rfl ?_
    refine own_i2b (pc' := 19) (z := p2.toInt8.toInt32) X0 hx (hb hby at_18) rfl rfl ?_
    exact K33 _ (own_by_i2b _)
  · refine own_ifNo (pc' := 12) X0 hx (hb hby at_9) rfl (feq hc9_121).1 ?_
    refine own_bipush (pc' := 14) (z := (-17 : Int32)) X0 hx (hb hby at_12) rfl rfl ?_
    refine own_goto (pc' := 19) X0 hx (hb hby at_14) (by decide) (by decide) ?_
    exact K33 _ (by unfold own_by; decide)
set_option maxRecDepth 65536 in
set_option maxHeartbeats 40000000 in
theorem own_comes {Post : Tables → Env → Array Value → State → Outcome → State → Prop} (hpost : ∀ tb e args s v u, (limb_1_1.after args s (.returned v) u = true ∧ limb_1_2.after args s (.returned v) u = true ∧ True) → FrameEnd s (.returned v) u (Jvm.fieldLocs frame_1_writes args s ++ Jvm.arrayLocs frame_1_arrays args s ++ Jvm.staticLocs frame_1_statics s) 16 128 → Post tb e args s (.returned v) u) :
    ArmFor flags0 classFile x code maxLocals ret World_1 tables_1 room_1 Calls_1 rest_1 Pre_1 Post := by
  intro l hfl _ _ p e ha hc hk s m args below hf hA hF happ hP
  obtain ⟨hcalls, hrest, hpre⟩ := hP
  obtain ⟨-, -, -, hnamed, -, -, -, hat⟩ := (Spec.applies_iff hf).mp happ
  obtain ⟨hg, hn⟩ := and_e (Cond.before_iff.mp (show (Jvm.Cond.and given_1 narrow_1).before args s = true from hpre))
  obtain ⟨g1, g2⟩ := and_e hg
  obtain ⟨g3, g4⟩ := and_e g2
  obtain ⟨g5, g6⟩ := and_e g4
  obtain ⟨g7, g8⟩ := and_e g6
  obtain ⟨g9, g10⟩ := and_e g8
  obtain ⟨g11, g12⟩ := and_e g10
  obtain ⟨w0, w1, w2, w3, w4, w5, rfl⟩ : ∃ w0 w1 w2 w3 w4 w5 : Value, args = #[w0, w1, w2, w3, w4, w5] := by
    have hs : args.size = 6 := by simpa [Cond.value, given_1] using g1
    obtain ⟨L⟩ := args
    match L, hs with
    | [w0, w1, w2, w3, w4, w5], _ => exact ⟨w0, w1, w2, w3, w4, w5, rfl⟩
  have hw := fun d (hd : d ∈ tables_1) => atoms_spec (ws := Jvm.Cond.code x code maxLocals ret :: tables_1) hat d (List.mem_cons_of_mem _ hd)
  have hfit : Fit s := fun {y c} hc i hi => by
    obtain ⟨ha, rfl⟩ := Array.getElem?_eq_some_iff.mp hc
    have q := List.all_eq_true.mp ((Array.all_eq_true_iff_forall_mem.mp hF) _ (Array.getElem_mem ha)) i (List.mem_range.mpr hi)
    simpa [Array.getElem?_eq_getElem hi] using q
  obtain ⟨i0, ei0⟩ := is_v g3
  obtain rfl : w0 = (.int i0) := Option.some.inj ei0
  obtain ⟨i1, ei1⟩ := is_v g5
  obtain rfl : w1 = (.int i1) := Option.some.inj ei1
  obtain ⟨i2, ei2⟩ := is_v g7
  obtain rfl : w2 = (.int i2) := Option.some.inj ei2
  obtain ⟨i3, ei3⟩ := is_v g9
  obtain rfl : w3 = (.int i3) := Option.some.inj ei3
  obtain ⟨i4, ei4⟩ := is_v g11
  obtain rfl : w4 = (.int i4) := Option.some.inj ei4
  obtain ⟨i5, ei5⟩ := is_v g12
  obtain rfl : w5 = (.int i5) := Option.some.inj ei5
  obtain ⟨n, o, h1, h2, h3, _, L, rfl, ⟨rfl, N⟩, hq⟩ := own_rm0 l s _ hw tables_1 i0 i1 i2 i3 i4 i5 s.heap s.heap.size (Nat.le_refl _) p e ha hc hk s m _ below hf ((Spec.applies_iff_loose hf).mp happ).1 ⟨rfl, State.Warmed39.refl s, rfl⟩ trivial
  refine ⟨n, _, h1, h2, h3, hpost _ _ _ _ _ _ ⟨Cond.after_iff.mpr rfl, Cond.after_iff.mpr (eq_i res_at (Term.int_eval (1)) rfl), trivial⟩ ⟨hq.1, hq.2.1, (hq.2.2.sift fun y hy => Or.inr (N y hy)).mono (by decide) (by decide)⟩⟩
theorem main_1_1 : Claimed_1_1 := own_comes fun _ _ _ _ _ _ h hF => ⟨h.1, hF⟩
theorem main_1_2 : Claimed_1_2 := own_comes fun _ _ _ _ _ _ h hF => ⟨h.2.1, hF⟩
end Jvm.Pilot.@@N@@
namespace Jvm.Pilot.@@N@@
open Jvm Jvm.ClassFile Sem Op Lib Jvm.Free Jvm.Stand Jvm.Pilot.@@N@@.Jvm.D
/-! MADE BY PROGRAM (witnessworld.py) out of the Statement's table words and the real class files: 9 classes; the members and pool entries that the words name. The judged class is class 1, her method 1. -/
namespace start1
open Jvm.ClassFile
def u (s : String) : CpInfo := .utf8 (stringToUtf16 s)
/-- a pool by its gaps: so many unusable entries, then the entry; so many at the end -/
def gap : Nat → List CpInfo → List CpInfo
  | 0, r => r
  | n + 1, r => .unusable :: gap n r
def poolList (es : List (Nat × CpInfo)) (last : Nat) : List CpInfo := es.foldr (fun e r => gap e.1 (e.2 :: r)) (gap last [])
def pool (es : List (Nat × CpInfo)) (last : Nat) : Array CpInfo := ⟨poolList es last⟩
def fileOf (pool : Array CpInfo) (this : Nat) (attrs : Array Attribute := #[]) (ms : Array MethodInfo := #[]) (fl : Nat := 33) (sup : Nat := 0) (ifs : Array Nat := #[]) (fds : Array FieldInfo := #[]) : ClassFile where
  minorVersion := 0
  majorVersion := 65
  constantPool := pool
  accessFlags := fl
  thisClass := this
  superClass := sup
  interfaces := ifs
  fields := fds
  methods := ms
  attributes := attrs
def plain (name : String) (sup : Option ClassId) : Class where
  name := name
  kind := .ordinary
  loader := none
  accessFlags := 33
  super := sup
  interfaces := #[]
  cf := none
  fields := #[]
  methods := #[]
  instanceTypes := #[]
  staticTypes := #[]
  resolved := #[]
  callSites := []
  init := .initialized
  statics := none
  mirror := none

def pool0 : Array CpInfo := pool [(5, u "<init>"), (0, u "()V"), (1, .class_ 10), (1, u "java/lang/Object")] 113

def k0m0 : Method := { name := "<init>", desc := "()V", sig := { parameters := [], returnType := none }, accessFlags := 1, code := none }
/-- java/lang/Object -/
def k0 : Class := { plain "java/lang/Object" none with
  accessFlags := 33
  interfaces := #[]
  cf := some (fileOf pool0 8 #[] #[{ accessFlags := 1, nameIndex := 5, descriptorIndex := 6, attributes := #[] }] 33 0 #[] #[])
  fields := #[]
  methods := #[k0m0]
  instanceTypes := #[]
  staticTypes := #[]
  resolved := Array.replicate 124 none
  statics := none }

def pool1 : Array CpInfo := pool [(2, .class_ 4), (1, u "java/lang/Object"), (0, u "<init>"), (0, u "()V"), (0, .methodref 8 9), (0, .class_ 10), (0, .nameAndType 11 12), (0, u "com/example/mapwright/mapwright/InputFile"), (0, u "byteOrderMarkLength"), (0, u "([B)I"), (0, .integer 15711167), (0, .class_ 15), (0, u "com/example/mapwright/mapwright/InputFileByteOrderMarkLengthPinLaw"), (2, u "law"), (0, u "(IIIIII)Z")] 5

def k1m0 : Method := { name := "<init>", desc := "()V", sig := { parameters := [], returnType := none }, accessFlags := 2, code := none }
def k1c1 : Code := { maxStack := 4, maxLocals := 14, code := code, exceptionTable := #[], attributes := #[] }
def k1m1 : Method := { name := "law", desc := "(IIIIII)Z", sig := { parameters := [.int, .int, .int, .int, .int, .int], returnType := some .boolean }, accessFlags := 9, code := some k1c1 }
/-- com/example/mapwright/mapwright/InputFileByteOrderMarkLengthPinLaw -/
def k1 : Class := { plain "com/example/mapwright/mapwright/InputFileByteOrderMarkLengthPinLaw" (some 0) with
  accessFlags := 49
  interfaces := #[]
  cf := some (fileOf pool1 14 #[] #[{ accessFlags := 2, nameIndex := 5, descriptorIndex := 6, attributes := #[] }, { accessFlags := 9, nameIndex := 18, descriptorIndex := 19, attributes := #[] }] 49 2 #[] #[])
  fields := #[]
  methods := #[k1m0, k1m1]
  instanceTypes := #[]
  staticTypes := #[]
  resolved := Array.replicate 25 none
  statics := none }

def pool2 : Array CpInfo := pool [(2, .class_ 4), (1, u "java/lang/Object"), (0, u "<init>"), (0, u "()V"), (37, .class_ 46), (1, u "com/example/mapwright/mapwright/InputFile"), (0, u "byteOrderMarkLength"), (0, u "([B)I")] 68

def k2m0 : Method := { name := "<init>", desc := "()V", sig := { parameters := [], returnType := none }, accessFlags := 2, code := none }
def k2c1 : Code := { maxStack := 2, maxLocals := 2, code := prog_16_method_4_code, exceptionTable := #[], attributes := #[] }
def k2m1 : Method := { name := "byteOrderMarkLength", desc := "([B)I", sig := { parameters := [(.array .byte)], returnType := some .int }, accessFlags := 8, code := some k2c1 }
/-- com/example/mapwright/mapwright/InputFile -/
def k2 : Class := { plain "com/example/mapwright/mapwright/InputFile" (some 0) with
  accessFlags := 32
  interfaces := #[]
  cf := some (fileOf pool2 44 #[] #[{ accessFlags := 2, nameIndex := 5, descriptorIndex := 6, attributes := #[] }, { accessFlags := 8, nameIndex := 47, descriptorIndex := 48, attributes := #[] }] 32 2 #[] #[])
  fields := #[]
  methods := #[k2m0, k2m1]
  instanceTypes := #[]
  staticTypes := #[]
  resolved := Array.replicate 117 none
  statics := none }

def pool3 : Array CpInfo := pool [(1, u "java/lang/Cloneable"), (0, .class_ 1), (0, u "java/lang/Object"), (0, .class_ 3)] 3

/-- java/lang/Cloneable -/
def k3 : Class := { plain "java/lang/Cloneable" (some 0) with
  accessFlags := 1537
  interfaces := #[]
  cf := some (fileOf pool3 2 #[] #[] 1537 4 #[] #[])
  fields := #[]
  methods := #[]
  instanceTypes := #[]
  staticTypes := #[]
  resolved := Array.replicate 8 none
  statics := none }

def pool4 : Array CpInfo := pool [(1, u "java/io/Serializable"), (0, .class_ 1), (0, u "java/lang/Object"), (0, .class_ 3)] 3

/-- java/io/Serializable -/
def k4 : Class := { plain "java/io/Serializable" (some 0) with
  accessFlags := 1537
  interfaces := #[]
  cf := some (fileOf pool4 2 #[] #[] 1537 4 #[] #[])
  fields := #[]
  methods := #[]
  instanceTypes := #[]
  staticTypes := #[]
  resolved := Array.replicate 8 none
  statics := none }

/-- the primitive byte -/
def k5 : Class := { plain "byte" none with kind := .primitive 'B', accessFlags := 0x411 }
/-- [B -/
def k6 : Class := { plain "[B" (some 0) with kind := .array 5 .byte, interfaces := #[3, 4], accessFlags := 1041 }

/-- the primitive int -/
def k7 : Class := { plain "int" none with kind := .primitive 'I', accessFlags := 0x411 }
/-- [I -/
def k8 : Class := { plain "[I" (some 0) with kind := .array 7 .int, interfaces := #[3, 4], accessFlags := 1041 }

def heap : Heap := #[]
def classes : Array Class := #[k0, k1, k2, k3, k4, k5, k6, k7, k8]
def interned : List (Array UInt16 × Addr) := []
def slotsUsed : Nat := 0
def theMethod : MethodId := ⟨1, 1⟩
def args0 : Array Value := #[.int 5, .int 5, .int 5, .int 5, .int 5, .int 5]
def aboutOver (below : List Frame) : State where
  vm := { classes := classes, interned := interned.toArray }
  heap := heap
  slotsUsed := slotsUsed
  threads := #[{ frames := .invoking theMethod args0 :: below }]
def below0 : List Frame := [.native { method := ⟨0, 0⟩, args := #[] }]
def about1 : State := aboutOver below0
def p0 : Program := .bare "" "" ""
def e0 : Env := launch0.env 0 0 0
theorem w_frames : about1.frames = Frame.invoking theMethod args0 :: below0 := rfl
set_option maxRecDepth 65536 in
theorem w_args : argsFit about1.vm theMethod args0 = true := by decide +kernel
set_option maxRecDepth 65536 in
theorem w_heap : heapFits about1 = true := by decide +kernel
set_option maxRecDepth 65536 in
theorem w_runnable : about1.curStatus? = some .runnable := by decide +kernel
set_option maxRecDepth 65536 in
theorem w_alone : about1.alone = true := by decide +kernel
set_option maxRecDepth 65536 in
theorem w_named : about1.methodNamed? x = some theMethod := by decide +kernel
set_option maxRecDepth 65536 in
theorem w_hears : about1.hears theMethod below0 = true := by decide +kernel
set_option maxRecDepth 65536 in
theorem w_ripe : about1.ripe theMethod args0 below0 = true := by decide +kernel
theorem w_running : about1.status = .running := rfl
set_option maxRecDepth 65536 in
theorem w_room : about1.hasRoom e0.platform room_1 = true :=
  launch0.hasRoom_least _ room_1 (by decide +kernel) (by decide +kernel) (by decide +kernel) (by decide +kernel) (by decide +kernel) (by decide +kernel)
theorem allAtoms_all (ts : List Jvm.Cond) (a : Array Jvm.Value) (st : Jvm.State) : (allAtoms ts).before a st = ts.all (fun c => c.before a st) := by
  induction ts with
  | nil => rfl
  | cons c t ih =>
    show (Jvm.Cond.and c (allAtoms t)).before a st = _
    rw [Jvm.Cond.before_and, ih, List.all_cons]
def words1 : List Jvm.Cond := Jvm.Cond.code x code maxLocals ret :: tables_1
/-- a 'code' word, met by the world's own term for the bytes: nothing is compared byte by byte -/
theorem code_word {y : MethodName} {bytes : ByteArray} {mx : Nat} {rt : Option FieldType} {a : Array Value} {s : State} {m : MethodId} {meth : Method} {c : Code} (h1 : s.methodNamed? y = some m) (h2 : s.vm.method? m = some meth) (h3 : meth.code = some c) (h4 : c.code = bytes)
    (h5 : (c.maxLocals == mx && c.exceptionTable.isEmpty && decide (c.maxStack ≤ mostOperands) && decide (meth.sig.returnType = rt) && !meth.locks && decide (parseMethodDescriptor y.desc = some meth.sig)) = true) : (Jvm.Cond.code y bytes mx rt).before a s = true := by
  simp only [Bool.and_eq_true, beq_iff_eq, Bool.not_eq_true', decide_eq_true_eq] at h5
  obtain ⟨⟨⟨⟨⟨g1, g2⟩, g3⟩, g4⟩, g5⟩, g6⟩ := h5
  simp [Cond.before, Cond.holds, Cond.value, h1, h2, h3, h4, g1, g2, g3, g4, g5, g6]
def isCode : Jvm.Cond → Bool
  | .code _ _ _ _ => true
  | _ => false
theorem all_split {L : List Jvm.Cond} {P : Jvm.Cond → Bool} (h1 : L.all (fun c => isCode c || P c) = true) (h2 : ∀ c ∈ L.filter isCode, P c = true) : L.all P = true := by
  refine List.all_eq_true.mpr fun c hc => ?_
  have h := List.all_eq_true.mp h1 c hc
  rcases Bool.eq_false_or_eq_true (isCode c) with hi | hi
  · exact h2 c (List.mem_filter.mpr ⟨hc, hi⟩)
  · simpa [hi] using h
set_option maxRecDepth 65536 in
theorem w_c0 : (Jvm.Cond.code x code maxLocals ret).before args0 about1 = true := code_word (m := ⟨1, 1⟩) (meth := k1m1) (c := k1c1) (by decide +kernel) rfl rfl rfl (by decide +kernel)
set_option maxRecDepth 65536 in
theorem w_c1 : (Jvm.Cond.code ({ cls := "com/example/mapwright/mapwright/InputFile", name := "byteOrderMarkLength", desc := "([B)I" } : Jvm.MethodName) prog_16_method_4_code (2 : Nat) (Option.some Jvm.ClassFile.FieldType.int)).before args0 about1 = true := code_word (m := ⟨2, 1⟩) (meth := k2m1) (c := k2c1) (by decide +kernel) rfl rfl rfl (by decide +kernel)
def codes1 : List Jvm.Cond := [Jvm.Cond.code x code maxLocals ret, Jvm.Cond.code ({ cls := "com/example/mapwright/mapwright/InputFile", name := "byteOrderMarkLength", desc := "([B)I" } : Jvm.MethodName) prog_16_method_4_code (2 : Nat) (Option.some Jvm.ClassFile.FieldType.int)]
set_option maxRecDepth 65536 in
theorem codes_eq : words1.filter isCode = codes1 := rfl
theorem w_codes : ∀ c ∈ words1.filter isCode, c.before args0 about1 = true := by
  rw [codes_eq]
  intro c hc
  simp only [codes1, List.mem_cons, List.not_mem_nil, or_false] at hc
  rcases hc with rfl | rfl
  · exact w_c0
  · exact w_c1
set_option maxRecDepth 65536 in
theorem w_t1 : words1.all (fun c => isCode c || c.before args0 about1) = true := by decide +kernel
theorem w_tables : (allAtoms (Jvm.Cond.code x code maxLocals ret :: tables_1)).before args0 about1 = true := by
  rw [allAtoms_all]
  show words1.all (fun c => c.before args0 about1) = true
  refine all_split ?_ w_codes
  rw [w_t1]
set_option maxRecDepth 65536 in
theorem w_case : (Jvm.Cond.and given_1 narrow_1).before args0 about1 = true := by decide +kernel
theorem w_applies : (headSpec (Jvm.Cond.code x code maxLocals ret :: tables_1) room_1).applies x e0.platform about1 = true :=
  (Spec.applies_iff w_frames).mpr ⟨w_running, w_runnable, w_alone, w_named, w_hears, w_ripe, w_room, w_tables⟩
theorem atStart : AtStart classFile x code maxLocals ret World_1 tables_1 room_1 Calls_1 rest_1 Pre_1 launch0 p0 e0 about1 theMethod args0 below0 :=
  ⟨lists_1, trivial, launch0.admits_env _ _ _, launch0.least_env, fairChoices_fair.cas, fairChoices_fair.clock, w_frames, w_args, w_heap, w_applies, trivial, trivial, w_case⟩
end start1
theorem witness_1 : WitnessClaimed_1 := ⟨start1.p0, start1.e0, start1.about1, start1.theMethod, start1.args0, start1.below0, start1.atStart⟩
end Jvm.Pilot.@@N@@
