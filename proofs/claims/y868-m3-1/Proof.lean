import JvmDerived
import JvmDerived.Pilot.@@N@@Statement
import JvmDerived.Pilot.@@N@@Code
set_option linter.unusedVariables false
set_option linter.unusedSimpArgs false
namespace Jvm.RoadKit
open Sem ClassFile Op Lib Jvm.Stand Jvm.Free Jvm.LawKit
section New
variable {p : Program} {l : Launch} {e : Env} {R : Room} {s : State} {m : MethodId} {args : Array Value} {below : List Frame} {meth : Method} {c : Code} {T : State} {locs : List Loc} {cells slots : Nat}
theorem retI (X : Stand p l e R s m args below meth c T locs cells slots) (hx : p.tables.exec = Jvm.exec) {pc : Nat} {Ls : Array Slot} {z : Int32} {rest : List Value} (hret : meth.sig.returnType = some .int) (hd : decode c.code pc = .ok (.ireturn, 1)) {fs : List Frame}
    (hl : ∀ (f : JFrame) (acts : List Action), f.method = m → f.locked = none → f.entered = [] → (doReturn e (T.setTop f) acts (some (.int z))).1 = T.setFrames fs) : Steps p.tables e below (T.setTop (mkF m pc Ls (.int z :: rest))) (T.setFrames fs) := by
  have hm' : T.vm.method? m = some meth := X.method'
  have hn : narrow .int (.int z) = .int z := rfl
  show Steps p.tables e below (T.setTop { method := m, pc := pc, locals := Ls, stack := _ :: rest, locked := none }) _
  jvm_step X.here [X.here.top, hx, hd, hm', hret, hn]
  first | (intro acts; rw [hl _ acts rfl rfl rfl]) | rw [hl _ _ rfl rfl rfl]
  exact Steps.refl _
end New
end Jvm.RoadKit
namespace Jvm.Pilot.@@N@@
open Jvm Jvm.ClassFile Sem Op Lib Jvm.Free Jvm.Stand Jvm.LawKit Jvm.RoadKit Bundle Jvm.Pilot.@@N@@.Jvm.D
section Own
variable {p : Program} {l : Launch} {e : Env} {R : Room} {s : State} {m : MethodId} {args : Array Value} {below : List Frame} {meth : Method} {c : Code} {T T' : State} {locs : List Loc} {cells slots : Nat} {Q : Option Value → Heap → List Loc → Prop} {kc ks : Nat} {pc pc' : Nat} {ls : Array Slot} {st : List Value}
/-- from T with the frame g on top the run comes to its end, as Q asks -/
def own_Ends (p : Program) (e : Env) (below : List Frame) (s : State) (Q : Option Value → Heap → List Loc → Prop) (kc ks : Nat) (T : State) (g : JFrame) : Prop :=
  ∃ s₂ o, Steps p.tables e below (T.setTop g) s₂ ∧ s₂.status = .running ∧ Ended s₂ below o ∧ ∃ v L, o = .returned v ∧ Q v s₂.heap L ∧ FrameEnd s o s₂ L kc ks
theorem own_go {g g' : JFrame} (h : ∀ t, Steps p.tables e below (T'.setTop g') t → Steps p.tables e below (T.setTop g) t) (K : own_Ends p e below s Q kc ks T' g') : own_Ends p e below s Q kc ks T g := by
  obtain ⟨s2, o, h1, r⟩ := K
  exact ⟨s2, o, h _ h1, r⟩
theorem own_cast {g g' : JFrame} (q : g = g') (K : own_Ends p e below s Q kc ks T g') : own_Ends p e below s Q kc ks T g := q ▸ K
theorem own_leave {v : Option Value} {g : JFrame} (X : Stand p l e R s m args below meth c T locs cells slots) (hlk : meth.locks = false) (hv : meth.sig.returnType = none → v = none)
    (hs : ∀ fs, (∀ (f : JFrame) (acts : List Action), f.method = m → f.locked = none → f.entered = [] → (doReturn e (T.setTop f) acts v).1 = T.setFrames fs) → Steps p.tables e below (T.setTop g) (T.setFrames fs)) (hc : cells ≤ kc) (hn : slots ≤ ks) (hQ : Q v T.heap locs) : own_Ends p e below s Q kc ks T g := by
  obtain ⟨fs, hr, hrun, hended, hW, hsame⟩ := X.leave (v := v) hv hlk
  exact ⟨_, _, hs fs hr, hrun, hended, _, _, rfl, hQ, ⟨_, rfl⟩, hW, hsame.mono hc hn⟩
theorem own_retI (X : Stand p l e R s m args below meth c T locs cells slots) (hx : p.tables.exec = Jvm.exec) (hlk : meth.locks = false) {z : Int32} (hret : meth.sig.returnType = some .int) (hd : decode c.code pc = .ok (.ireturn, 1)) (hc : cells ≤ kc) (hn : slots ≤ ks) (hQ : Q (some (.int z)) T.heap locs) : own_Ends p e below s Q kc ks T (mkF m pc ls (.int z :: st)) :=
  own_leave X hlk (fun h => by rw [hret] at h; cases h) (fun fs hr => retI X hx hret hd hr) hc hn hQ
theorem own_retN (X : Stand p l e R s m args below meth c T locs cells slots) (hx : p.tables.exec = Jvm.exec) (hlk : meth.locks = false) {z : Int32} {ty : FieldType} (hret : meth.sig.returnType = some ty) (ht : ty = .boolean ∨ ty = .byte ∨ ty = .char ∨ ty = .short) (hd : decode c.code pc = .ok (.ireturn, 1)) (hc : cells ≤ kc) (hn : slots ≤ ks) (hQ : Q (some (.int (nar ty z))) T.heap locs) : own_Ends p e below s Q kc ks T (mkF m pc ls (.int z :: st)) :=
  own_leave X hlk (fun h => by rw [hret] at h; cases h) (fun fs hr => retN X hx (t := ty) hret ht hd hr) hc hn hQ
theorem own_retL (X : Stand p l e R s m args below meth c T locs cells slots) (hx : p.tables.exec = Jvm.exec) (hlk : meth.locks = false) {z : Int64} (hret : meth.sig.returnType = some .long) (hd : decode c.code pc = .ok (.lreturn, 1)) (hc : cells ≤ kc) (hn : slots ≤ ks) (hQ : Q (some (.long z)) T.heap locs) : own_Ends p e below s Q kc ks T (mkF m pc ls [.long z]) :=
  own_leave X hlk (fun h => by rw [hret] at h; cases h) (fun fs hr => retOut X hx (t := .long) hret rfl (Or.inr (Or.inl ⟨rfl, rfl, _, rfl⟩)) hd hr) hc hn hQ
theorem own_retD (X : Stand p l e R s m args below meth c T locs cells slots) (hx : p.tables.exec = Jvm.exec) (hlk : meth.locks = false) {z : UInt64} (hret : meth.sig.returnType = some .double) (hd : decode c.code pc = .ok (.dreturn, 1)) (hc : cells ≤ kc) (hn : slots ≤ ks) (hQ : Q (some (.double z)) T.heap locs) : own_Ends p e below s Q kc ks T (mkF m pc ls [.double z]) :=
  own_leave X hlk (fun h => by rw [hret] at h; cases h) (fun fs hr => retOut X hx (t := .double) hret rfl (Or.inr (Or.inr (Or.inl ⟨rfl, rfl, _, rfl⟩))) hd hr) hc hn hQ
theorem own_retA (X : Stand p l e R s m args below meth c T locs cells slots) (hx : p.tables.exec = Jvm.exec) (hlk : meth.locks = false) {w : Value} {ty : FieldType} (hret : meth.sig.returnType = some ty) (ht : ty.isReference = true) (hw : w.isRef = true) (hn1 : narrow ty w = w) (hd : decode c.code pc = .ok (.areturn, 1)) (hc : cells ≤ kc) (hn : slots ≤ ks) (hQ : Q (some w) T.heap locs) : own_Ends p e below s Q kc ks T (mkF m pc ls (w :: st)) :=
  own_leave X hlk (fun h => by rw [hret] at h; cases h) (fun fs hr => retOut X hx (t := ty) hret hn1 (Or.inr (Or.inr (Or.inr (Or.inr ⟨rfl, ht, hw⟩)))) hd hr) hc hn hQ
theorem own_retV (X : Stand p l e R s m args below meth c T locs cells slots) (hx : p.tables.exec = Jvm.exec) (hlk : meth.locks = false) (hret : meth.sig.returnType = none) (hd : decode c.code pc = .ok (.return_, 1)) (hc : cells ≤ kc) (hn : slots ≤ ks) (hQ : Q none T.heap locs) : own_Ends p e below s Q kc ks T (mkF m pc ls []) :=
  own_leave X hlk (fun _ => rfl) (fun fs hr => X.returnOut hx hret hd hr) hc hn hQ
theorem own_iloadN (X : Stand p l e R s m args below meth c T locs cells slots) (hx : p.tables.exec = Jvm.exec) {k : Fin 4} {v : Int32} (hd : decode c.code pc = .ok (.iload_n k, 1)) (hp : pc + 1 = pc') (hl : ls[k.val]? = some (.val (.int v))) (K : own_Ends p e below s Q kc ks T (mkF m pc' ls (.int v :: st))) : own_Ends p e below s Q kc ks T (mkF m pc ls st) := by
  subst hp
  exact own_go (fun t k => XS.iloadN X.here hx rfl hd hl k) K
theorem own_iload (X : Stand p l e R s m args below meth c T locs cells slots) (hx : p.tables.exec = Jvm.exec) {k : Nat} {v : Int32} (hd : decode c.code pc = .ok (.iload k, 2)) (hp : pc + 2 = pc') (hl : ls[k]? = some (.val (.int v))) (K : own_Ends p e below s Q kc ks T (mkF m pc' ls (.int v :: st))) : own_Ends p e below s Q kc ks T (mkF m pc ls st) := by
  subst hp
  exact own_go (fun t k => XS.iload X.here hx rfl hd hl k) K
theorem own_istoreN (X : Stand p l e R s m args below meth c T locs cells slots) (hx : p.tables.exec = Jvm.exec) {k : Fin 4} {v : Int32} {l' : Array Slot} (hd : decode c.code pc = .ok (.istore_n k, 1)) (hp : pc + 1 = pc') (hl : storeLocals ls k.val (.int v) = some l') (K : own_Ends p e below s Q kc ks T (mkF m pc' l' st)) : own_Ends p e below s Q kc ks T (mkF m pc ls (.int v :: st)) := by
  subst hp
  exact own_go (fun t k => XS.istoreN X.here hx rfl hd rfl hl k) K
theorem own_istore (X : Stand p l e R s m args below meth c T locs cells slots) (hx : p.tables.exec = Jvm.exec) {k : Nat} {v : Int32} {l' : Array Slot} (hd : decode c.code pc = .ok (.istore k, 2)) (hp : pc + 2 = pc') (hl : storeLocals ls k (.int v) = some l') (K : own_Ends p e below s Q kc ks T (mkF m pc' l' st)) : own_Ends p e below s Q kc ks T (mkF m pc ls (.int v :: st)) := by
  subst hp
  exact own_go (fun t k => XS.istore X.here hx rfl hd rfl hl k) K
theorem own_lloadN (X : Stand p l e R s m args below meth c T locs cells slots) (hx : p.tables.exec = Jvm.exec) {k : Fin 4} {v : Int64} (hd : decode c.code pc = .ok (.lload_n k, 1)) (hp : pc + 1 = pc') (hl : ls[k.val]? = some (.val (.long v))) (K : own_Ends p e below s Q kc ks T (mkF m pc' ls (.long v :: st))) : own_Ends p e below s Q kc ks T (mkF m pc ls st) := by
  subst hp
  exact own_go (fun t k => XS.lloadN X.here hx rfl hd hl k) K
theorem own_lload (X : Stand p l e R s m args below meth c T locs cells slots) (hx : p.tables.exec = Jvm.exec) {k : Nat} {v : Int64} (hd : decode c.code pc = .ok (.lload k, 2)) (hp : pc + 2 = pc') (hl : ls[k]? = some (.val (.long v))) (K : own_Ends p e below s Q kc ks T (mkF m pc' ls (.long v :: st))) : own_Ends p e below s Q kc ks T (mkF m pc ls st) := by
  subst hp
  exact own_go (fun t k => XS.lload X.here hx rfl hd hl k) K
theorem own_lstoreN (X : Stand p l e R s m args below meth c T locs cells slots) (hx : p.tables.exec = Jvm.exec) {k : Fin 4} {v : Int64} {l' : Array Slot} (hd : decode c.code pc = .ok (.lstore_n k, 1)) (hp : pc + 1 = pc') (hl : storeLocals ls k.val (.long v) = some l') (K : own_Ends p e below s Q kc ks T (mkF m pc' l' st)) : own_Ends p e below s Q kc ks T (mkF m pc ls (.long v :: st)) := by
  subst hp
  exact own_go (fun t k => XS.lstoreN X.here hx rfl hd rfl hl k) K
theorem own_lstore (X : Stand p l e R s m args below meth c T locs cells slots) (hx : p.tables.exec = Jvm.exec) {k : Nat} {v : Int64} {l' : Array Slot} (hd : decode c.code pc = .ok (.lstore k, 2)) (hp : pc + 2 = pc') (hl : storeLocals ls k (.long v) = some l') (K : own_Ends p e below s Q kc ks T (mkF m pc' l' st)) : own_Ends p e below s Q kc ks T (mkF m pc ls (.long v :: st)) := by
  subst hp
  exact own_go (fun t k => XS.lstore X.here hx rfl hd rfl hl k) K
theorem own_dloadN (X : Stand p l e R s m args below meth c T locs cells slots) (hx : p.tables.exec = Jvm.exec) {k : Fin 4} {v : UInt64} (hd : decode c.code pc = .ok (.dload_n k, 1)) (hp : pc + 1 = pc') (hl : ls[k.val]? = some (.val (.double v))) (K : own_Ends p e below s Q kc ks T (mkF m pc' ls (.double v :: st))) : own_Ends p e below s Q kc ks T (mkF m pc ls st) := by
  subst hp
  exact own_go (fun t k => XS.dloadN X.here hx rfl hd hl k) K
theorem own_dload (X : Stand p l e R s m args below meth c T locs cells slots) (hx : p.tables.exec = Jvm.exec) {k : Nat} {v : UInt64} (hd : decode c.code pc = .ok (.dload k, 2)) (hp : pc + 2 = pc') (hl : ls[k]? = some (.val (.double v))) (K : own_Ends p e below s Q kc ks T (mkF m pc' ls (.double v :: st))) : own_Ends p e below s Q kc ks T (mkF m pc ls st) := by
  subst hp
  exact own_go (fun t k => XS.dload X.here hx rfl hd hl k) K
theorem own_dstoreN (X : Stand p l e R s m args below meth c T locs cells slots) (hx : p.tables.exec = Jvm.exec) {k : Fin 4} {v : UInt64} {l' : Array Slot} (hd : decode c.code pc = .ok (.dstore_n k, 1)) (hp : pc + 1 = pc') (hl : storeLocals ls k.val (.double v) = some l') (K : own_Ends p e below s Q kc ks T (mkF m pc' l' st)) : own_Ends p e below s Q kc ks T (mkF m pc ls (.double v :: st)) := by
  subst hp
  exact own_go (fun t k => XS.dstoreN X.here hx rfl hd rfl hl k) K
theorem own_dstore (X : Stand p l e R s m args below meth c T locs cells slots) (hx : p.tables.exec = Jvm.exec) {k : Nat} {v : UInt64} {l' : Array Slot} (hd : decode c.code pc = .ok (.dstore k, 2)) (hp : pc + 2 = pc') (hl : storeLocals ls k (.double v) = some l') (K : own_Ends p e below s Q kc ks T (mkF m pc' l' st)) : own_Ends p e below s Q kc ks T (mkF m pc ls (.double v :: st)) := by
  subst hp
  exact own_go (fun t k => XS.dstore X.here hx rfl hd rfl hl k) K
theorem own_aloadN (X : Stand p l e R s m args below meth c T locs cells slots) (hx : p.tables.exec = Jvm.exec) {k : Fin 4} {v : Value} (hd : decode c.code pc = .ok (.aload_n k, 1)) (hp : pc + 1 = pc') (hl : ls[k.val]? = some (.val v)) (hv : v.isRef = true) (K : own_Ends p e below s Q kc ks T (mkF m pc' ls (v :: st))) : own_Ends p e below s Q kc ks T (mkF m pc ls st) := by
  subst hp
  exact own_go (fun t k => XS.aloadN X.here hx rfl hd hl hv k) K
theorem own_aload (X : Stand p l e R s m args below meth c T locs cells slots) (hx : p.tables.exec = Jvm.exec) {k : Nat} {v : Value} (hd : decode c.code pc = .ok (.aload k, 2)) (hp : pc + 2 = pc') (hl : ls[k]? = some (.val v)) (hv : v.isRef = true) (K : own_Ends p e below s Q kc ks T (mkF m pc' ls (v :: st))) : own_Ends p e below s Q kc ks T (mkF m pc ls st) := by
  subst hp
  exact own_go (fun t k => XS.aload X.here hx rfl hd hl hv k) K
theorem own_astoreN (X : Stand p l e R s m args below meth c T locs cells slots) (hx : p.tables.exec = Jvm.exec) {k : Fin 4} {v : Value} {l' : Array Slot} (hd : decode c.code pc = .ok (.astore_n k, 1)) (hp : pc + 1 = pc') (hv : v.isRef = true) (hl : storeLocals ls k.val v = some l') (K : own_Ends p e below s Q kc ks T (mkF m pc' l' st)) : own_Ends p e below s Q kc ks T (mkF m pc ls (v :: st)) := by
  subst hp
  exact own_go (fun t k => XS.astoreN X.here hx rfl hd rfl hv hl k) K
theorem own_astore (X : Stand p l e R s m args below meth c T locs cells slots) (hx : p.tables.exec = Jvm.exec) {k : Nat} {v : Value} {l' : Array Slot} (hd : decode c.code pc = .ok (.astore k, 2)) (hp : pc + 2 = pc') (hv : v.isRef = true) (hl : storeLocals ls k v = some l') (K : own_Ends p e below s Q kc ks T (mkF m pc' l' st)) : own_Ends p e below s Q kc ks T (mkF m pc ls (v :: st)) := by
  subst hp
  exact own_go (fun t k => XS.astore X.here hx rfl hd rfl hv hl k) K
theorem own_iconst (X : Stand p l e R s m args below meth c T locs cells slots) (hx : p.tables.exec = Jvm.exec) {i : Int} {z : Int32} (hd : decode c.code pc = .ok (.iconst i, 1)) (hp : pc + 1 = pc') (hz : Int32.ofInt i = z) (K : own_Ends p e below s Q kc ks T (mkF m pc' ls (.int z :: st))) : own_Ends p e below s Q kc ks T (mkF m pc ls st) := by
  subst hp hz
  exact own_go (fun t k => XS.iconst X.here hx rfl hd k) K
theorem own_bipush (X : Stand p l e R s m args below meth c T locs cells slots) (hx : p.tables.exec = Jvm.exec) {i : Int} {z : Int32} (hd : decode c.code pc = .ok (.bipush i, 2)) (hp : pc + 2 = pc') (hz : (Int8.ofInt i).toInt32 = z) (K : own_Ends p e below s Q kc ks T (mkF m pc' ls (.int z :: st))) : own_Ends p e below s Q kc ks T (mkF m pc ls st) := by
  subst hp hz
  exact own_go (fun t k => XS.bipush X.here hx rfl hd k) K
theorem own_sipush (X : Stand p l e R s m args below meth c T locs cells slots) (hx : p.tables.exec = Jvm.exec) {i : Int} {z : Int32} (hd : decode c.code pc = .ok (.sipush i, 3)) (hp : pc + 3 = pc') (hz : (Int16.ofInt i).toInt32 = z) (K : own_Ends p e below s Q kc ks T (mkF m pc' ls (.int z :: st))) : own_Ends p e below s Q kc ks T (mkF m pc ls st) := by
  subst hp hz
  exact own_go (fun t k => XS.sipush X.here hx rfl hd k) K
theorem own_lconst (X : Stand p l e R s m args below meth c T locs cells slots) (hx : p.tables.exec = Jvm.exec) {k : Fin 2} {z : Int64} (hd : decode c.code pc = .ok (.lconst k, 1)) (hp : pc + 1 = pc') (hz : Int64.ofNat k = z) (K : own_Ends p e below s Q kc ks T (mkF m pc' ls (.long z :: st))) : own_Ends p e below s Q kc ks T (mkF m pc ls st) := by
  subst hp hz
  exact own_go (fun t k => XS.lconst X.here hx rfl hd k) K
theorem own_anull (X : Stand p l e R s m args below meth c T locs cells slots) (hx : p.tables.exec = Jvm.exec) (hd : decode c.code pc = .ok (.aconst_null, 1)) (hp : pc + 1 = pc')  (K : own_Ends p e below s Q kc ks T (mkF m pc' ls (.null :: st))) : own_Ends p e below s Q kc ks T (mkF m pc ls st) := by
  subst hp
  exact own_go (fun t k => XS.aconstNull X.here hx rfl hd k) K
theorem own_iadd (X : Stand p l e R s m args below meth c T locs cells slots) (hx : p.tables.exec = Jvm.exec) {x y z : Int32} (hd : decode c.code pc = .ok (.iadd, 1)) (hp : pc + 1 = pc') (hz : x + y = z) (K : own_Ends p e below s Q kc ks T (mkF m pc' ls (.int z :: st))) : own_Ends p e below s Q kc ks T (mkF m pc ls (.int y :: .int x :: st)) := by
  subst hp hz
  exact own_go (fun t k => XS.iadd X.here hx rfl hd rfl k) K
theorem own_ladd (X : Stand p l e R s m args below meth c T locs cells slots) (hx : p.tables.exec = Jvm.exec) {x y z : Int64} (hd : decode c.code pc = .ok (.ladd, 1)) (hp : pc + 1 = pc') (hz : x + y = z) (K : own_Ends p e below s Q kc ks T (mkF m pc' ls (.long z :: st))) : own_Ends p e below s Q kc ks T (mkF m pc ls (.long y :: .long x :: st)) := by
  subst hp hz
  exact own_go (fun t k => XS.ladd X.here hx rfl hd rfl k) K
theorem own_isub (X : Stand p l e R s m args below meth c T locs cells slots) (hx : p.tables.exec = Jvm.exec) {x y z : Int32} (hd : decode c.code pc = .ok (.isub, 1)) (hp : pc + 1 = pc') (hz : x - y = z) (K : own_Ends p e below s Q kc ks T (mkF m pc' ls (.int z :: st))) : own_Ends p e below s Q kc ks T (mkF m pc ls (.int y :: .int x :: st)) := by
  subst hp hz
  exact own_go (fun t k => XS.isub X.here hx rfl hd rfl k) K
theorem own_lsub (X : Stand p l e R s m args below meth c T locs cells slots) (hx : p.tables.exec = Jvm.exec) {x y z : Int64} (hd : decode c.code pc = .ok (.lsub, 1)) (hp : pc + 1 = pc') (hz : x - y = z) (K : own_Ends p e below s Q kc ks T (mkF m pc' ls (.long z :: st))) : own_Ends p e below s Q kc ks T (mkF m pc ls (.long y :: .long x :: st)) := by
  subst hp hz
  exact own_go (fun t k => XS.lsub X.here hx rfl hd rfl k) K
theorem own_imul (X : Stand p l e R s m args below meth c T locs cells slots) (hx : p.tables.exec = Jvm.exec) {x y z : Int32} (hd : decode c.code pc = .ok (.imul, 1)) (hp : pc + 1 = pc') (hz : x * y = z) (K : own_Ends p e below s Q kc ks T (mkF m pc' ls (.int z :: st))) : own_Ends p e below s Q kc ks T (mkF m pc ls (.int y :: .int x :: st)) := by
  subst hp hz
  exact own_go (fun t k => XS.imul X.here hx rfl hd rfl k) K
theorem own_lmul (X : Stand p l e R s m args below meth c T locs cells slots) (hx : p.tables.exec = Jvm.exec) {x y z : Int64} (hd : decode c.code pc = .ok (.lmul, 1)) (hp : pc + 1 = pc') (hz : x * y = z) (K : own_Ends p e below s Q kc ks T (mkF m pc' ls (.long z :: st))) : own_Ends p e below s Q kc ks T (mkF m pc ls (.long y :: .long x :: st)) := by
  subst hp hz
  exact own_go (fun t k => XS.lmul X.here hx rfl hd rfl k) K
theorem own_iand (X : Stand p l e R s m args below meth c T locs cells slots) (hx : p.tables.exec = Jvm.exec) {x y z : Int32} (hd : decode c.code pc = .ok (.iand, 1)) (hp : pc + 1 = pc') (hz : x &&& y = z) (K : own_Ends p e below s Q kc ks T (mkF m pc' ls (.int z :: st))) : own_Ends p e below s Q kc ks T (mkF m pc ls (.int y :: .int x :: st)) := by
  subst hp hz
  exact own_go (fun t k => XS.iand X.here hx rfl hd rfl k) K
theorem own_land (X : Stand p l e R s m args below meth c T locs cells slots) (hx : p.tables.exec = Jvm.exec) {x y z : Int64} (hd : decode c.code pc = .ok (.land, 1)) (hp : pc + 1 = pc') (hz : x &&& y = z) (K : own_Ends p e below s Q kc ks T (mkF m pc' ls (.long z :: st))) : own_Ends p e below s Q kc ks T (mkF m pc ls (.long y :: .long x :: st)) := by
  subst hp hz
  exact own_go (fun t k => XS.land X.here hx rfl hd rfl k) K
theorem own_ior (X : Stand p l e R s m args below meth c T locs cells slots) (hx : p.tables.exec = Jvm.exec) {x y z : Int32} (hd : decode c.code pc = .ok (.ior, 1)) (hp : pc + 1 = pc') (hz : x ||| y = z) (K : own_Ends p e below s Q kc ks T (mkF m pc' ls (.int z :: st))) : own_Ends p e below s Q kc ks T (mkF m pc ls (.int y :: .int x :: st)) := by
  subst hp hz
  exact own_go (fun t k => XS.ior X.here hx rfl hd rfl k) K
theorem own_lor (X : Stand p l e R s m args below meth c T locs cells slots) (hx : p.tables.exec = Jvm.exec) {x y z : Int64} (hd : decode c.code pc = .ok (.lor, 1)) (hp : pc + 1 = pc') (hz : x ||| y = z) (K : own_Ends p e below s Q kc ks T (mkF m pc' ls (.long z :: st))) : own_Ends p e below s Q kc ks T (mkF m pc ls (.long y :: .long x :: st)) := by
  subst hp hz
  exact own_go (fun t k => XS.lor X.here hx rfl hd rfl k) K
theorem own_ixor (X : Stand p l e R s m args below meth c T locs cells slots) (hx : p.tables.exec = Jvm.exec) {x y z : Int32} (hd : decode c.code pc = .ok (.ixor, 1)) (hp : pc + 1 = pc') (hz : x ^^^ y = z) (K : own_Ends p e below s Q kc ks T (mkF m pc' ls (.int z :: st))) : own_Ends p e below s Q kc ks T (mkF m pc ls (.int y :: .int x :: st)) := by
  subst hp hz
  exact own_go (fun t k => XS.ixor X.here hx rfl hd rfl k) K
theorem own_lxor (X : Stand p l e R s m args below meth c T locs cells slots) (hx : p.tables.exec = Jvm.exec) {x y z : Int64} (hd : decode c.code pc = .ok (.lxor, 1)) (hp : pc + 1 = pc') (hz : x ^^^ y = z) (K : own_Ends p e below s Q kc ks T (mkF m pc' ls (.long z :: st))) : own_Ends p e below s Q kc ks T (mkF m pc ls (.long y :: .long x :: st)) := by
  subst hp hz
  exact own_go (fun t k => XS.lxor X.here hx rfl hd rfl k) K
theorem own_ishl (X : Stand p l e R s m args below meth c T locs cells slots) (hx : p.tables.exec = Jvm.exec) {x y z : Int32} (hd : decode c.code pc = .ok (.ishl, 1)) (hp : pc + 1 = pc') (hz : x <<< (y &&& 31) = z) (K : own_Ends p e below s Q kc ks T (mkF m pc' ls (.int z :: st))) : own_Ends p e below s Q kc ks T (mkF m pc ls (.int y :: .int x :: st)) := by
  subst hp hz
  exact own_go (fun t k => XS.ishl X.here hx rfl hd rfl k) K
theorem own_ishr (X : Stand p l e R s m args below meth c T locs cells slots) (hx : p.tables.exec = Jvm.exec) {x y z : Int32} (hd : decode c.code pc = .ok (.ishr, 1)) (hp : pc + 1 = pc') (hz : x >>> (y &&& 31) = z) (K : own_Ends p e below s Q kc ks T (mkF m pc' ls (.int z :: st))) : own_Ends p e below s Q kc ks T (mkF m pc ls (.int y :: .int x :: st)) := by
  subst hp hz
  exact own_go (fun t k => XS.ishr X.here hx rfl hd rfl k) K
theorem own_iushr (X : Stand p l e R s m args below meth c T locs cells slots) (hx : p.tables.exec = Jvm.exec) {x y z : Int32} (hd : decode c.code pc = .ok (.iushr, 1)) (hp : pc + 1 = pc') (hz : (x.toUInt32 >>> (y &&& 31).toUInt32).toInt32 = z) (K : own_Ends p e below s Q kc ks T (mkF m pc' ls (.int z :: st))) : own_Ends p e below s Q kc ks T (mkF m pc ls (.int y :: .int x :: st)) := by
  subst hp hz
  exact own_go (fun t k => XS.iushr X.here hx rfl hd rfl k) K
theorem own_lshl (X : Stand p l e R s m args below meth c T locs cells slots) (hx : p.tables.exec = Jvm.exec) {x z : Int64} {y : Int32} (hd : decode c.code pc = .ok (.lshl, 1)) (hp : pc + 1 = pc') (hz : x <<< (y &&& 0x3f).toInt64 = z) (K : own_Ends p e below s Q kc ks T (mkF m pc' ls (.long z :: st))) : own_Ends p e below s Q kc ks T (mkF m pc ls (.int y :: .long x :: st)) := by
  subst hp hz
  exact own_go (fun t k => XS.lshl X.here hx rfl hd rfl k) K
theorem own_lshr (X : Stand p l e R s m args below meth c T locs cells slots) (hx : p.tables.exec = Jvm.exec) {x z : Int64} {y : Int32} (hd : decode c.code pc = .ok (.lshr, 1)) (hp : pc + 1 = pc') (hz : x >>> (y &&& 0x3f).toInt64 = z) (K : own_Ends p e below s Q kc ks T (mkF m pc' ls (.long z :: st))) : own_Ends p e below s Q kc ks T (mkF m pc ls (.int y :: .long x :: st)) := by
  subst hp hz
  exact own_go (fun t k => XS.lshr X.here hx rfl hd rfl k) K
theorem own_lushr (X : Stand p l e R s m args below meth c T locs cells slots) (hx : p.tables.exec = Jvm.exec) {x z : Int64} {y : Int32} (hd : decode c.code pc = .ok (.lushr, 1)) (hp : pc + 1 = pc') (hz : (x.toUInt64 >>> (y &&& 0x3f).toInt64.toUInt64).toInt64 = z) (K : own_Ends p e below s Q kc ks T (mkF m pc' ls (.long z :: st))) : own_Ends p e below s Q kc ks T (mkF m pc ls (.int y :: .long x :: st)) := by
  subst hp hz
  exact own_go (fun t k => XS.lushr X.here hx rfl hd rfl k) K
theorem own_idiv (X : Stand p l e R s m args below meth c T locs cells slots) (hx : p.tables.exec = Jvm.exec) {x y z : Int32} (hd : decode c.code pc = .ok (.idiv, 1)) (hp : pc + 1 = pc') (hy : y ≠ 0) (hz : x / y = z) (K : own_Ends p e below s Q kc ks T (mkF m pc' ls (.int z :: st))) : own_Ends p e below s Q kc ks T (mkF m pc ls (.int y :: .int x :: st)) := by
  subst hp hz
  exact own_go (fun t k => XS.idiv X.here hx rfl hd rfl hy k) K
theorem own_irem (X : Stand p l e R s m args below meth c T locs cells slots) (hx : p.tables.exec = Jvm.exec) {x y z : Int32} (hd : decode c.code pc = .ok (.irem, 1)) (hp : pc + 1 = pc') (hy : y ≠ 0) (hz : x % y = z) (K : own_Ends p e below s Q kc ks T (mkF m pc' ls (.int z :: st))) : own_Ends p e below s Q kc ks T (mkF m pc ls (.int y :: .int x :: st)) := by
  subst hp hz
  exact own_go (fun t k => iremM (g := mkF m pc ls (.int y :: .int x :: st)) X hx rfl hd rfl hy k) K
theorem own_ldiv (X : Stand p l e R s m args below meth c T locs cells slots) (hx : p.tables.exec = Jvm.exec) {x y z : Int64} (hd : decode c.code pc = .ok (.ldiv, 1)) (hp : pc + 1 = pc') (hy : y ≠ 0) (hz : x / y = z) (K : own_Ends p e below s Q kc ks T (mkF m pc' ls (.long z :: st))) : own_Ends p e below s Q kc ks T (mkF m pc ls (.long y :: .long x :: st)) := by
  subst hp hz
  exact own_go (fun t k => XS.ldiv X.here hx rfl hd rfl hy k) K
theorem own_lrem (X : Stand p l e R s m args below meth c T locs cells slots) (hx : p.tables.exec = Jvm.exec) {x y z : Int64} (hd : decode c.code pc = .ok (.lrem, 1)) (hp : pc + 1 = pc') (hy : y ≠ 0) (hz : x - (x / y) * y = z) (K : own_Ends p e below s Q kc ks T (mkF m pc' ls (.long z :: st))) : own_Ends p e below s Q kc ks T (mkF m pc ls (.long y :: .long x :: st)) := by
  subst hp hz
  exact own_go (fun t k => XS.lrem X.here hx rfl hd rfl hy k) K
theorem own_ineg (X : Stand p l e R s m args below meth c T locs cells slots) (hx : p.tables.exec = Jvm.exec) {x : Int32} {z : Int32} (hd : decode c.code pc = .ok (.ineg, 1)) (hp : pc + 1 = pc') (hz : -x = z) (K : own_Ends p e below s Q kc ks T (mkF m pc' ls (.int z :: st))) : own_Ends p e below s Q kc ks T (mkF m pc ls (.int x :: st)) := by
  subst hp hz
  exact own_go (fun t k => XS.ineg X.here hx rfl hd rfl k) K
theorem own_lneg (X : Stand p l e R s m args below meth c T locs cells slots) (hx : p.tables.exec = Jvm.exec) {x : Int64} {z : Int64} (hd : decode c.code pc = .ok (.lneg, 1)) (hp : pc + 1 = pc') (hz : -x = z) (K : own_Ends p e below s Q kc ks T (mkF m pc' ls (.long z :: st))) : own_Ends p e below s Q kc ks T (mkF m pc ls (.long x :: st)) := by
  subst hp hz
  exact own_go (fun t k => XS.lneg X.here hx rfl hd rfl k) K
theorem own_i2l (X : Stand p l e R s m args below meth c T locs cells slots) (hx : p.tables.exec = Jvm.exec) {x : Int32} {z : Int64} (hd : decode c.code pc = .ok (.i2l, 1)) (hp : pc + 1 = pc') (hz : x.toInt64 = z) (K : own_Ends p e below s Q kc ks T (mkF m pc' ls (.long z :: st))) : own_Ends p e below s Q kc ks T (mkF m pc ls (.int x :: st)) := by
  subst hp hz
  exact own_go (fun t k => XS.i2l X.here hx rfl hd rfl k) K
theorem own_l2i (X : Stand p l e R s m args below meth c T locs cells slots) (hx : p.tables.exec = Jvm.exec) {x : Int64} {z : Int32} (hd : decode c.code pc = .ok (.l2i, 1)) (hp : pc + 1 = pc') (hz : x.toInt32 = z) (K : own_Ends p e below s Q kc ks T (mkF m pc' ls (.int z :: st))) : own_Ends p e below s Q kc ks T (mkF m pc ls (.long x :: st)) := by
  subst hp hz
  exact own_go (fun t k => XS.l2i X.here hx rfl hd rfl k) K
theorem own_i2b (X : Stand p l e R s m args below meth c T locs cells slots) (hx : p.tables.exec = Jvm.exec) {x : Int32} {z : Int32} (hd : decode c.code pc = .ok (.i2b, 1)) (hp : pc + 1 = pc') (hz : x.toInt8.toInt32 = z) (K : own_Ends p e below s Q kc ks T (mkF m pc' ls (.int z :: st))) : own_Ends p e below s Q kc ks T (mkF m pc ls (.int x :: st)) := by
  subst hp hz
  exact own_go (fun t k => XS.i2b X.here hx rfl hd rfl k) K
theorem own_i2s (X : Stand p l e R s m args below meth c T locs cells slots) (hx : p.tables.exec = Jvm.exec) {x : Int32} {z : Int32} (hd : decode c.code pc = .ok (.i2s, 1)) (hp : pc + 1 = pc') (hz : x.toInt16.toInt32 = z) (K : own_Ends p e below s Q kc ks T (mkF m pc' ls (.int z :: st))) : own_Ends p e below s Q kc ks T (mkF m pc ls (.int x :: st)) := by
  subst hp hz
  exact own_go (fun t k => XS.i2s X.here hx rfl hd rfl k) K
theorem own_i2c (X : Stand p l e R s m args below meth c T locs cells slots) (hx : p.tables.exec = Jvm.exec) {x : Int32} {z : Int32} (hd : decode c.code pc = .ok (.i2c, 1)) (hp : pc + 1 = pc') (hz : x.toUInt32.toUInt16.toUInt32.toInt32 = z) (K : own_Ends p e below s Q kc ks T (mkF m pc' ls (.int z :: st))) : own_Ends p e below s Q kc ks T (mkF m pc ls (.int x :: st)) := by
  subst hp hz
  exact own_go (fun t k => XS.i2c X.here hx rfl hd rfl k) K
theorem own_i2d (X : Stand p l e R s m args below meth c T locs cells slots) (hx : p.tables.exec = Jvm.exec) {x : Int32} {z : UInt64} (hd : decode c.code pc = .ok (.i2d, 1)) (hp : pc + 1 = pc') (hz : FP.i2d x = z) (K : own_Ends p e below s Q kc ks T (mkF m pc' ls (.double z :: st))) : own_Ends p e below s Q kc ks T (mkF m pc ls (.int x :: st)) := by
  subst hp hz
  exact own_go (fun t k => XS.i2dS (g := mkF m pc ls (.int x :: st)) X.here hx rfl hd rfl rfl k) K
theorem own_dadd (X : Stand p l e R s m args below meth c T locs cells slots) (hx : p.tables.exec = Jvm.exec) {x y z : UInt64} (hd : decode c.code pc = .ok (.dadd, 1)) (hp : pc + 1 = pc') (hn : Jvm.Free.Fl.NoNaN64 (FP.dadd x y)) (hz : FP.dadd x y = z) (K : own_Ends p e below s Q kc ks T (mkF m pc' ls (.double z :: st))) : own_Ends p e below s Q kc ks T (mkF m pc ls (.double y :: .double x :: st)) := by
  subst hp hz
  exact own_go (fun t k => XS.daddS (g := mkF m pc ls (.double y :: .double x :: st)) X.here hx rfl hd rfl hn rfl k) K
theorem own_dmul (X : Stand p l e R s m args below meth c T locs cells slots) (hx : p.tables.exec = Jvm.exec) {x y z : UInt64} (hd : decode c.code pc = .ok (.dmul, 1)) (hp : pc + 1 = pc') (hn : Jvm.Free.Fl.NoNaN64 (FP.dmul x y)) (hz : FP.dmul x y = z) (K : own_Ends p e below s Q kc ks T (mkF m pc' ls (.double z :: st))) : own_Ends p e below s Q kc ks T (mkF m pc ls (.double y :: .double x :: st)) := by
  subst hp hz
  exact own_go (fun t k => XS.dmulS (g := mkF m pc ls (.double y :: .double x :: st)) X.here hx rfl hd rfl hn rfl k) K
theorem own_dcmp (X : Stand p l e R s m args below meth c T locs cells slots) (hx : p.tables.exec = Jvm.exec) {o : CmpOp} {x y : UInt64} {z : Int32} (hd : decode c.code pc = .ok (.dcmp o, 1)) (hp : pc + 1 = pc') (hz : cmpValue (FP.dcmp x y) o = z) (K : own_Ends p e below s Q kc ks T (mkF m pc' ls (.int z :: st))) : own_Ends p e below s Q kc ks T (mkF m pc ls (.double y :: .double x :: st)) := by
  subst hp hz
  exact own_go (fun t k => XS.dcmpS (g := mkF m pc ls (.double y :: .double x :: st)) X.here hx rfl hd rfl rfl k) K
theorem own_lcmp (X : Stand p l e R s m args below meth c T locs cells slots) (hx : p.tables.exec = Jvm.exec) {x y : Int64} {z : Int32} (hd : decode c.code pc = .ok (.lcmp, 1)) (hp : pc + 1 = pc') (hz : lcmpW x y = z) (K : own_Ends p e below s Q kc ks T (mkF m pc' ls (.int z :: st))) : own_Ends p e below s Q kc ks T (mkF m pc ls (.long y :: .long x :: st)) := by
  subst hp hz
  exact own_go (fun t k => XS.lcmp X.here hx rfl hd rfl k) K
theorem own_pop (X : Stand p l e R s m args below meth c T locs cells slots) (hx : p.tables.exec = Jvm.exec) {v : Value} (hd : decode c.code pc = .ok (.pop, 1)) (hp : pc + 1 = pc') (hc : v.category = 1) (K : own_Ends p e below s Q kc ks T (mkF m pc' ls st)) : own_Ends p e below s Q kc ks T (mkF m pc ls (v :: st)) := by
  subst hp
  exact own_go (fun t k => XS.pop X.here hx rfl hd rfl hc k) K
theorem own_dup (X : Stand p l e R s m args below meth c T locs cells slots) (hx : p.tables.exec = Jvm.exec) {v : Value} (hd : decode c.code pc = .ok (.dup, 1)) (hp : pc + 1 = pc') (hc : v.category = 1) (K : own_Ends p e below s Q kc ks T (mkF m pc' ls (v :: v :: st))) : own_Ends p e below s Q kc ks T (mkF m pc ls (v :: st)) := by
  subst hp
  exact own_go (fun t k => XS.dup X.here hx rfl hd rfl hc k) K
theorem own_dupX1 (X : Stand p l e R s m args below meth c T locs cells slots) (hx : p.tables.exec = Jvm.exec) {v w : Value} (hd : decode c.code pc = .ok (.dup_x1, 1)) (hp : pc + 1 = pc') (hc : v.category = 1) (hc' : w.category = 1) (K : own_Ends p e below s Q kc ks T (mkF m pc' ls (v :: w :: v :: st))) : own_Ends p e below s Q kc ks T (mkF m pc ls (v :: w :: st)) := by
  subst hp
  exact own_go (fun t k => XS.dupX1 X.here hx rfl hd rfl hc hc' k) K
theorem own_dup2 (X : Stand p l e R s m args below meth c T locs cells slots) (hx : p.tables.exec = Jvm.exec) {v w : Value} (hd : decode c.code pc = .ok (.dup2, 1)) (hp : pc + 1 = pc') (hc : v.category = 1) (hc' : w.category = 1) (K : own_Ends p e below s Q kc ks T (mkF m pc' ls (v :: w :: v :: w :: st))) : own_Ends p e below s Q kc ks T (mkF m pc ls (v :: w :: st)) := by
  subst hp
  exact own_go (fun t k => XT.dup2 X.here hx rfl hd rfl hc hc' k) K
theorem own_dup2L (X : Stand p l e R s m args below meth c T locs cells slots) (hx : p.tables.exec = Jvm.exec) {x : Int64} (hd : decode c.code pc = .ok (.dup2, 1)) (hp : pc + 1 = pc')  (K : own_Ends p e below s Q kc ks T (mkF m pc' ls (.long x :: .long x :: st))) : own_Ends p e below s Q kc ks T (mkF m pc ls (.long x :: st)) := by
  subst hp
  exact own_go (fun t k => XT.dup2L X.here hx rfl hd rfl k) K
theorem own_iinc (X : Stand p l e R s m args below meth c T locs cells slots) (hx : p.tables.exec = Jvm.exec) {k : Nat} {i : Int} {x z : Int32} {l' : Array Slot} (hd : decode c.code pc = .ok (.iinc k i, 3)) (hp : pc + 3 = pc') (hl : ls[k]? = some (.val (.int x))) (hz : x + Int32.ofInt i = z) (hl' : storeLocals ls k (.int z) = some l') (K : own_Ends p e below s Q kc ks T (mkF m pc' l' st)) : own_Ends p e below s Q kc ks T (mkF m pc ls st) := by
  subst hp hz
  exact own_go (fun t k => XS.iinc X.here hx rfl hd hl hl' k) K
theorem own_goto (X : Stand p l e R s m args below meth c T locs cells slots) (hx : p.tables.exec = Jvm.exec) {o : Int} (hd : decode c.code pc = .ok (.goto o, 3)) (ho : 0 ≤ (pc : Int) + o) (hp : ((pc : Int) + o).toNat = pc') (K : own_Ends p e below s Q kc ks T (mkF m pc' ls st)) : own_Ends p e below s Q kc ks T (mkF m pc ls st) :=
  own_go (fun t k => XS.goto X.here hx rfl rfl hd ho hp k) K
theorem own_ifYes (X : Stand p l e R s m args below meth c T locs cells slots) (hx : p.tables.exec = Jvm.exec) {o : Int} {cd : ClassFile.Cond} {x : Int32} (hd : decode c.code pc = .ok (.ifCond cd o, 3)) (hc : if_icmp.holds cd x 0 = true) (ho : 0 ≤ (pc : Int) + o) (hp : ((pc : Int) + o).toNat = pc') (K : own_Ends p e below s Q kc ks T (mkF m pc' ls st)) : own_Ends p e below s Q kc ks T (mkF m pc ls (.int x :: st)) :=
  own_go (fun t k => XS.ifYes X.here hx rfl rfl hd rfl ((if0 _ _).trans hc) ho hp k) K
theorem own_ifNo (X : Stand p l e R s m args below meth c T locs cells slots) (hx : p.tables.exec = Jvm.exec) {o : Int} {cd : ClassFile.Cond} {x : Int32} (hd : decode c.code pc = .ok (.ifCond cd o, 3)) (hp : pc + 3 = pc') (hc : if_icmp.holds cd x 0 = false) (K : own_Ends p e below s Q kc ks T (mkF m pc' ls st)) : own_Ends p e below s Q kc ks T (mkF m pc ls (.int x :: st)) := by
  subst hp
  exact own_go (fun t k => XS.ifNo X.here hx rfl hd rfl ((if0 _ _).trans hc) k) K
theorem own_icmpYes (X : Stand p l e R s m args below meth c T locs cells slots) (hx : p.tables.exec = Jvm.exec) {o : Int} {cd : ClassFile.Cond} {x y : Int32} (hd : decode c.code pc = .ok (.if_icmp cd o, 3)) (hc : if_icmp.holds cd x y = true) (ho : 0 ≤ (pc : Int) + o) (hp : ((pc : Int) + o).toNat = pc') (K : own_Ends p e below s Q kc ks T (mkF m pc' ls st)) : own_Ends p e below s Q kc ks T (mkF m pc ls (.int y :: .int x :: st)) :=
  own_go (fun t k => XS.icmpYes X.here hx rfl rfl hd rfl hc ho hp k) K
theorem own_icmpNo (X : Stand p l e R s m args below meth c T locs cells slots) (hx : p.tables.exec = Jvm.exec) {o : Int} {cd : ClassFile.Cond} {x y : Int32} (hd : decode c.code pc = .ok (.if_icmp cd o, 3)) (hp : pc + 3 = pc') (hc : if_icmp.holds cd x y = false) (K : own_Ends p e below s Q kc ks T (mkF m pc' ls st)) : own_Ends p e below s Q kc ks T (mkF m pc ls (.int y :: .int x :: st)) := by
  subst hp
  exact own_go (fun t k => XS.icmpNo X.here hx rfl hd rfl hc k) K
theorem own_ifnullYes (X : Stand p l e R s m args below meth c T locs cells slots) (hx : p.tables.exec = Jvm.exec) {o : Int} (hd : decode c.code pc = .ok (.ifnull o, 3)) (ho : 0 ≤ (pc : Int) + o) (hp : ((pc : Int) + o).toNat = pc') (K : own_Ends p e below s Q kc ks T (mkF m pc' ls st)) : own_Ends p e below s Q kc ks T (mkF m pc ls (.null :: st)) :=
  own_go (fun t k => XS.ifnullYes X.here hx rfl rfl hd rfl ho hp k) K
theorem own_ifnullNo (X : Stand p l e R s m args below meth c T locs cells slots) (hx : p.tables.exec = Jvm.exec) {o : Int} {b : Addr} (hd : decode c.code pc = .ok (.ifnull o, 3)) (hp : pc + 3 = pc')  (K : own_Ends p e below s Q kc ks T (mkF m pc' ls st)) : own_Ends p e below s Q kc ks T (mkF m pc ls (.ref b :: st)) := by
  subst hp
  exact own_go (fun t k => XS.ifnullNo X.here hx rfl hd rfl k) K
theorem own_ifnonnullYes (X : Stand p l e R s m args below meth c T locs cells slots) (hx : p.tables.exec = Jvm.exec) {o : Int} {b : Addr} (hd : decode c.code pc = .ok (.ifnonnull o, 3)) (ho : 0 ≤ (pc : Int) + o) (hp : ((pc : Int) + o).toNat = pc') (K : own_Ends p e below s Q kc ks T (mkF m pc' ls st)) : own_Ends p e below s Q kc ks T (mkF m pc ls (.ref b :: st)) :=
  own_go (fun t k => XS.ifnonnullYes X.here hx rfl rfl hd rfl ho hp k) K
theorem own_ifnonnullNo (X : Stand p l e R s m args below meth c T locs cells slots) (hx : p.tables.exec = Jvm.exec) {o : Int} (hd : decode c.code pc = .ok (.ifnonnull o, 3)) (hp : pc + 3 = pc')  (K : own_Ends p e below s Q kc ks T (mkF m pc' ls st)) : own_Ends p e below s Q kc ks T (mkF m pc ls (.null :: st)) := by
  subst hp
  exact own_go (fun t k => XS.ifnonnullNo X.here hx rfl hd rfl k) K
theorem own_acmpYes (X : Stand p l e R s m args below meth c T locs cells slots) (hx : p.tables.exec = Jvm.exec) {o : Int} {cd : ACond} {v w : Value} (hd : decode c.code pc = .ok (.if_acmp cd o, 3)) (h1 : v.isRef = true) (h2 : w.isRef = true) (hc : XT.acmp cd v w = true) (ho : 0 ≤ (pc : Int) + o) (hp : ((pc : Int) + o).toNat = pc') (K : own_Ends p e below s Q kc ks T (mkF m pc' ls st)) : own_Ends p e below s Q kc ks T (mkF m pc ls (w :: v :: st)) :=
  own_go (fun t k => XT.acmpYes X.here hx rfl rfl hd rfl h1 h2 hc ho hp k) K
theorem own_acmpNo (X : Stand p l e R s m args below meth c T locs cells slots) (hx : p.tables.exec = Jvm.exec) {o : Int} {cd : ACond} {v w : Value} (hd : decode c.code pc = .ok (.if_acmp cd o, 3)) (hp : pc + 3 = pc') (h1 : v.isRef = true) (h2 : w.isRef = true) (hc : XT.acmp cd v w = false) (K : own_Ends p e below s Q kc ks T (mkF m pc' ls st)) : own_Ends p e below s Q kc ks T (mkF m pc ls (w :: v :: st)) := by
  subst hp
  exact own_go (fun t k => XT.acmpNo X.here hx rfl hd rfl h1 h2 hc k) K
theorem own_ldcI (X : Stand p l e R s m args below meth c T locs cells slots) (hx : p.tables.exec = Jvm.exec) {own : String} {ix : Nat} {v : Int32} {Z : State} {a0 : Array Value} (hZ : Z.Warmed39 s.vm) (hown : s.vm.findClass own = some m.cls) (w : (Jvm.Cond.constant own ix v).before a0 Z = true) (hd : decode c.code pc = .ok (.ldc ix, 2)) (hp : pc + 2 = pc')  (K : own_Ends p e below s Q kc ks T (mkF m pc' ls (.int v :: st))) : own_Ends p e below s Q kc ks T (mkF m pc ls st) := by
  subst hp
  exact own_go (fun t k => X.ldcInt hx hown (mvT hZ w) (g := mkF m pc ls st) rfl hd t k) K
theorem own_ldcwI (X : Stand p l e R s m args below meth c T locs cells slots) (hx : p.tables.exec = Jvm.exec) {own : String} {ix : Nat} {v : Int32} {Z : State} {a0 : Array Value} (hZ : Z.Warmed39 s.vm) (hown : s.vm.findClass own = some m.cls) (w : (Jvm.Cond.constant own ix v).before a0 Z = true) (hd : decode c.code pc = .ok (.ldc_w ix, 3)) (hp : pc + 3 = pc')  (K : own_Ends p e below s Q kc ks T (mkF m pc' ls (.int v :: st))) : own_Ends p e below s Q kc ks T (mkF m pc ls st) := by
  subst hp
  exact own_go (fun t k => X.ldcwInt hx hown (mvT hZ w) (g := mkF m pc ls st) rfl hd t k) K
theorem own_ldc2J (X : Stand p l e R s m args below meth c T locs cells slots) (hx : p.tables.exec = Jvm.exec) {own : String} {ix : Nat} {v : Int64} {Z : State} {a0 : Array Value} (hZ : Z.Warmed39 s.vm) (hown : s.vm.findClass own = some m.cls) (w : (Jvm.Cond.constantLong own ix v).before a0 Z = true) (hd : decode c.code pc = .ok (.ldc2_w ix, 3)) (hp : pc + 3 = pc')  (K : own_Ends p e below s Q kc ks T (mkF m pc' ls (.long v :: st))) : own_Ends p e below s Q kc ks T (mkF m pc ls st) := by
  subst hp
  exact own_go (fun t k => X.ldc2Long hx hown (mvT hZ w) (g := mkF m pc ls st) rfl hd t k) K
theorem own_iaload (X : Stand p l e R s m args below meth c T locs cells slots) (hx : p.tables.exec = Jvm.exec) {Z : State} {h : Heap} {a : Addr} {k : ClassId} {n j : Int32} {vs : List Value} {d v : Value} (hZ : Z.Warmed39 s.vm) (eT : T.heap = h) (V : Arv Z h a k .int n vs d) (hd : decode c.code pc = .ok (.iaload, 1)) (hp : pc + 1 = pc') (hj : ¬ j < 0 ∧ j < n) (hv : vs.getD j.toNatClampNeg d = v) (K : own_Ends p e below s Q kc ks T (mkF m pc' ls (v :: st))) : own_Ends p e below s Q kc ks T (mkF m pc ls (.int j :: .ref a :: st)) := by
  subst hp
  obtain ⟨cl, A, q1, S, q2, H, G⟩ := V
  have hin := inb_of S hj
  exact own_go (fun t k => X.iaload hx (by rw [eT]; exact A.1) (State.isArrayOf_alike hZ.alike A.2.1) A.2.2 hin (H.at hin hv) (g := mkF m pc ls (.int j :: .ref a :: st)) rfl rfl hd t k) K
theorem own_laload (X : Stand p l e R s m args below meth c T locs cells slots) (hx : p.tables.exec = Jvm.exec) {Z : State} {h : Heap} {a : Addr} {k : ClassId} {n j : Int32} {vs : List Value} {d v : Value} (hZ : Z.Warmed39 s.vm) (eT : T.heap = h) (V : Arv Z h a k .long n vs d) (hd : decode c.code pc = .ok (.laload, 1)) (hp : pc + 1 = pc') (hj : ¬ j < 0 ∧ j < n) (hv : vs.getD j.toNatClampNeg d = v) (K : own_Ends p e below s Q kc ks T (mkF m pc' ls (v :: st))) : own_Ends p e below s Q kc ks T (mkF m pc ls (.int j :: .ref a :: st)) := by
  subst hp
  obtain ⟨cl, A, q1, S, q2, H, G⟩ := V
  have hin := inb_of S hj
  exact own_go (fun t k => X.laload hx (by rw [eT]; exact A.1) (State.isArrayOf_alike hZ.alike A.2.1) A.2.2 hin (H.at hin hv) (g := mkF m pc ls (.int j :: .ref a :: st)) rfl rfl hd t k) K
theorem own_caload (X : Stand p l e R s m args below meth c T locs cells slots) (hx : p.tables.exec = Jvm.exec) {Z : State} {h : Heap} {a : Addr} {k : ClassId} {n j : Int32} {vs : List Value} {d v : Value} (hZ : Z.Warmed39 s.vm) (eT : T.heap = h) (V : Arv Z h a k .char n vs d) (hd : decode c.code pc = .ok (.caload, 1)) (hp : pc + 1 = pc') (hj : ¬ j < 0 ∧ j < n) (hv : vs.getD j.toNatClampNeg d = v) (K : own_Ends p e below s Q kc ks T (mkF m pc' ls (v :: st))) : own_Ends p e below s Q kc ks T (mkF m pc ls (.int j :: .ref a :: st)) := by
  subst hp
  obtain ⟨cl, A, q1, S, q2, H, G⟩ := V
  have hin := inb_of S hj
  exact own_go (fun t k => X.caload hx (by rw [eT]; exact A.1) (State.isArrayOf_alike hZ.alike A.2.1) A.2.2 hin (H.at hin hv) (g := mkF m pc ls (.int j :: .ref a :: st)) rfl rfl hd t k) K
theorem own_baload (X : Stand p l e R s m args below meth c T locs cells slots) (hx : p.tables.exec = Jvm.exec) {Z : State} {h : Heap} {a : Addr} {k : ClassId} {n j : Int32} {vs : List Value} {d v : Value} (hZ : Z.Warmed39 s.vm) (eT : T.heap = h) (V : Arv Z h a k .byte n vs d) (hd : decode c.code pc = .ok (.baload, 1)) (hp : pc + 1 = pc') (hj : ¬ j < 0 ∧ j < n) (hv : vs.getD j.toNatClampNeg d = v) (K : own_Ends p e below s Q kc ks T (mkF m pc' ls (v :: st))) : own_Ends p e below s Q kc ks T (mkF m pc ls (.int j :: .ref a :: st)) := by
  subst hp
  obtain ⟨cl, A, q1, S, q2, H, G⟩ := V
  have hin := inb_of S hj
  exact own_go (fun t k => X.baloadBytes hx (by rw [eT]; exact A.1) (State.isArrayOf_alike hZ.alike A.2.1) A.2.2 hin (H.at hin hv) (g := mkF m pc ls (.int j :: .ref a :: st)) rfl rfl hd t k) K
theorem own_zaload (X : Stand p l e R s m args below meth c T locs cells slots) (hx : p.tables.exec = Jvm.exec) {Z : State} {h : Heap} {a : Addr} {k : ClassId} {n j : Int32} {vs : List Value} {d v : Value} (hZ : Z.Warmed39 s.vm) (eT : T.heap = h) (V : Arv Z h a k .boolean n vs d) (hd : decode c.code pc = .ok (.baload, 1)) (hp : pc + 1 = pc') (hj : ¬ j < 0 ∧ j < n) (hv : vs.getD j.toNatClampNeg d = v) (K : own_Ends p e below s Q kc ks T (mkF m pc' ls (v :: st))) : own_Ends p e below s Q kc ks T (mkF m pc ls (.int j :: .ref a :: st)) := by
  subst hp
  obtain ⟨cl, A, q1, S, q2, H, G⟩ := V
  have hin := inb_of S hj
  exact own_go (fun t k => X.baloadBooleans hx (by rw [eT]; exact A.1) (State.isArrayOf_alike hZ.alike A.2.1) A.2.2 hin (H.at hin hv) (g := mkF m pc ls (.int j :: .ref a :: st)) rfl rfl hd t k) K
theorem own_daload (X : Stand p l e R s m args below meth c T locs cells slots) (hx : p.tables.exec = Jvm.exec) {Z : State} {h : Heap} {a : Addr} {k : ClassId} {n j : Int32} {vs : List Value} {d v : Value} (hZ : Z.Warmed39 s.vm) (eT : T.heap = h) (V : Arv Z h a k .double n vs d) (hd : decode c.code pc = .ok (.daload, 1)) (hp : pc + 1 = pc') (hj : ¬ j < 0 ∧ j < n) (hv : vs.getD j.toNatClampNeg d = v) (K : own_Ends p e below s Q kc ks T (mkF m pc' ls (v :: st))) : own_Ends p e below s Q kc ks T (mkF m pc ls (.int j :: .ref a :: st)) := by
  subst hp
  obtain ⟨cl, A, q1, S, q2, H, G⟩ := V
  have hin := inb_of S hj
  exact own_go (fun t k => X.daload hx (by rw [eT]; exact A.1) (State.isArrayOf_alike hZ.alike A.2.1) A.2.2 hin (H.at hin hv) (g := mkF m pc ls (.int j :: .ref a :: st)) rfl rfl hd t k) K
theorem own_alen (X : Stand p l e R s m args below meth c T locs cells slots) (hx : p.tables.exec = Jvm.exec) {Z : State} {h : Heap} {a : Addr} {k : ClassId} {ty : FieldType} {n : Int32} {vs : List Value} {d : Value} (hZ : Z.Warmed39 s.vm) (eT : T.heap = h) (V : Arv Z h a k ty n vs d) (hd : decode c.code pc = .ok (.arraylength, 1)) (hp : pc + 1 = pc')  (K : own_Ends p e below s Q kc ks T (mkF m pc' ls (.int n :: st))) : own_Ends p e below s Q kc ks T (mkF m pc ls (.ref a :: st)) := by
  subst hp
  obtain ⟨cl, A, q1, S, q2, H, G⟩ := V
  rw [← len_of S q2] at K
  exact own_go (fun t k => X.arraylength hx (by rw [eT]; exact A.1) (State.isArrayOf_alike hZ.alike A.2.1) (g := mkF m pc ls (.ref a :: st)) rfl rfl hd t k) K
theorem own_iastore (X : Stand p l e R s m args below meth c T locs cells slots) (hx : p.tables.exec = Jvm.exec) {Z : State} {h : Heap} {a : Addr} {k : ClassId} {n j : Int32} {vs : List Value} {d : Value} {x : Int32} (hZ : Z.Warmed39 s.vm) (eT : T.heap = h) (V : Arv Z h a k .int n vs d) (hd : decode c.code pc = .ok (.iastore, 1)) (hp : pc + 1 = pc') (hj : ¬ j < 0 ∧ j < n) (i : Nat) (hi : j.toNatClampNeg = i) (hl : i < vs.length) {n0 : Nat} (N : Fr n0 locs) (ge : n0 ≤ a)
    (K : ∀ T' h' L, Stand p l e R s m args below meth c T' L cells slots → T'.heap = h' → Fr n0 L → Wr h h' a j.toNatClampNeg (.int x) → Arv Z h' a k .int n (vs.set i (.int x)) d → own_Ends p e below s Q kc ks T' (mkF m pc' ls st)) : own_Ends p e below s Q kc ks T (mkF m pc ls (.int x :: .int j :: .ref a :: st)) := by
  subst hp
  obtain ⟨cl, A, q1, S, q2, H, G⟩ := V
  have hin := inb_of S hj
  obtain ⟨T1, h1, X1, e1, W1, st1⟩ := stI X hx hZ eT A (j := j) hin (g := mkF m pc ls (.int x :: .int j :: .ref a :: st)) rfl rfl hd
  exact own_go st1 (K T1 h1 _ X1 e1 (Fr.snoc X1 N ge) W1 (Arv.set A q1 S q2 H G rfl W1 i hi hl))
theorem own_lastore (X : Stand p l e R s m args below meth c T locs cells slots) (hx : p.tables.exec = Jvm.exec) {Z : State} {h : Heap} {a : Addr} {k : ClassId} {n j : Int32} {vs : List Value} {d : Value} {x : Int64} (hZ : Z.Warmed39 s.vm) (eT : T.heap = h) (V : Arv Z h a k .long n vs d) (hd : decode c.code pc = .ok (.lastore, 1)) (hp : pc + 1 = pc') (hj : ¬ j < 0 ∧ j < n) (i : Nat) (hi : j.toNatClampNeg = i) (hl : i < vs.length) {n0 : Nat} (N : Fr n0 locs) (ge : n0 ≤ a)
    (K : ∀ T' h' L, Stand p l e R s m args below meth c T' L cells slots → T'.heap = h' → Fr n0 L → Wr h h' a j.toNatClampNeg (.long x) → Arv Z h' a k .long n (vs.set i (.long x)) d → own_Ends p e below s Q kc ks T' (mkF m pc' ls st)) : own_Ends p e below s Q kc ks T (mkF m pc ls (.long x :: .int j :: .ref a :: st)) := by
  subst hp
  obtain ⟨cl, A, q1, S, q2, H, G⟩ := V
  have hin := inb_of S hj
  obtain ⟨T1, h1, X1, e1, W1, st1⟩ := stJ X hx hZ eT A (j := j) hin (g := mkF m pc ls (.long x :: .int j :: .ref a :: st)) rfl rfl hd
  exact own_go st1 (K T1 h1 _ X1 e1 (Fr.snoc X1 N ge) W1 (Arv.set A q1 S q2 H G rfl W1 i hi hl))
theorem own_dastore (X : Stand p l e R s m args below meth c T locs cells slots) (hx : p.tables.exec = Jvm.exec) {Z : State} {h : Heap} {a : Addr} {k : ClassId} {n j : Int32} {vs : List Value} {d : Value} {x : UInt64} (hZ : Z.Warmed39 s.vm) (eT : T.heap = h) (V : Arv Z h a k .double n vs d) (hd : decode c.code pc = .ok (.dastore, 1)) (hp : pc + 1 = pc') (hj : ¬ j < 0 ∧ j < n) (i : Nat) (hi : j.toNatClampNeg = i) (hl : i < vs.length) {n0 : Nat} (N : Fr n0 locs) (ge : n0 ≤ a)
    (K : ∀ T' h' L, Stand p l e R s m args below meth c T' L cells slots → T'.heap = h' → Fr n0 L → Wr h h' a j.toNatClampNeg (.double x) → Arv Z h' a k .double n (vs.set i (.double x)) d → own_Ends p e below s Q kc ks T' (mkF m pc' ls st)) : own_Ends p e below s Q kc ks T (mkF m pc ls (.double x :: .int j :: .ref a :: st)) := by
  subst hp
  obtain ⟨cl, A, q1, S, q2, H, G⟩ := V
  have hin := inb_of S hj
  obtain ⟨T1, h1, X1, e1, W1, st1⟩ := stD X hx hZ eT A (j := j) hin (g := mkF m pc ls (.double x :: .int j :: .ref a :: st)) rfl rfl hd
  exact own_go st1 (K T1 h1 _ X1 e1 (Fr.snoc X1 N ge) W1 (Arv.set A q1 S q2 H G rfl W1 i hi hl))
theorem own_castore (X : Stand p l e R s m args below meth c T locs cells slots) (hx : p.tables.exec = Jvm.exec) {Z : State} {h : Heap} {a : Addr} {k : ClassId} {n j : Int32} {vs : List Value} {d : Value} {x : Int32} (hZ : Z.Warmed39 s.vm) (eT : T.heap = h) (V : Arv Z h a k .char n vs d) (hd : decode c.code pc = .ok (.castore, 1)) (hp : pc + 1 = pc') (hj : ¬ j < 0 ∧ j < n) (i : Nat) (hi : j.toNatClampNeg = i) (hl : i < vs.length) {n0 : Nat} (N : Fr n0 locs) (ge : n0 ≤ a)
    (K : ∀ T' h' L, Stand p l e R s m args below meth c T' L cells slots → T'.heap = h' → Fr n0 L → Wr h h' a j.toNatClampNeg (.int (nar .char x)) → Arv Z h' a k .char n (vs.set i (.int (nar .char x))) d → own_Ends p e below s Q kc ks T' (mkF m pc' ls st)) : own_Ends p e below s Q kc ks T (mkF m pc ls (.int x :: .int j :: .ref a :: st)) := by
  subst hp
  obtain ⟨cl, A, q1, S, q2, H, G⟩ := V
  have hin := inb_of S hj
  obtain ⟨T1, h1, X1, e1, W1, st1⟩ := stC X hx hZ eT A (j := j) hin (g := mkF m pc ls (.int x :: .int j :: .ref a :: st)) rfl rfl hd
  exact own_go st1 (K T1 h1 _ X1 e1 (Fr.snoc X1 N ge) W1 (Arv.set A q1 S q2 H G (fits_nar_char _) W1 i hi hl))
theorem own_bastore (X : Stand p l e R s m args below meth c T locs cells slots) (hx : p.tables.exec = Jvm.exec) {Z : State} {h : Heap} {a : Addr} {k : ClassId} {n j : Int32} {vs : List Value} {d : Value} {x : Int32} (hZ : Z.Warmed39 s.vm) (eT : T.heap = h) (V : Arv Z h a k .byte n vs d) (hd : decode c.code pc = .ok (.bastore, 1)) (hp : pc + 1 = pc') (hj : ¬ j < 0 ∧ j < n) (i : Nat) (hi : j.toNatClampNeg = i) (hl : i < vs.length) {n0 : Nat} (N : Fr n0 locs) (ge : n0 ≤ a)
    (K : ∀ T' h' L, Stand p l e R s m args below meth c T' L cells slots → T'.heap = h' → Fr n0 L → Wr h h' a j.toNatClampNeg (.int (nar .byte x)) → Arv Z h' a k .byte n (vs.set i (.int (nar .byte x))) d → own_Ends p e below s Q kc ks T' (mkF m pc' ls st)) : own_Ends p e below s Q kc ks T (mkF m pc ls (.int x :: .int j :: .ref a :: st)) := by
  subst hp
  obtain ⟨cl, A, q1, S, q2, H, G⟩ := V
  have hin := inb_of S hj
  obtain ⟨T1, h1, X1, e1, W1, st1⟩ := stB X hx hZ eT A (j := j) hin (g := mkF m pc ls (.int x :: .int j :: .ref a :: st)) rfl rfl hd
  exact own_go st1 (K T1 h1 _ X1 e1 (Fr.snoc X1 N ge) W1 (Arv.set A q1 S q2 H G (fits_nar_byte _) W1 i hi hl))
theorem own_zastore (X : Stand p l e R s m args below meth c T locs cells slots) (hx : p.tables.exec = Jvm.exec) {Z : State} {h : Heap} {a : Addr} {k : ClassId} {n j : Int32} {vs : List Value} {d : Value} {x : Int32} (hZ : Z.Warmed39 s.vm) (eT : T.heap = h) (V : Arv Z h a k .boolean n vs d) (hd : decode c.code pc = .ok (.bastore, 1)) (hp : pc + 1 = pc') (hj : ¬ j < 0 ∧ j < n) (i : Nat) (hi : j.toNatClampNeg = i) (hl : i < vs.length) {n0 : Nat} (N : Fr n0 locs) (ge : n0 ≤ a)
    (K : ∀ T' h' L, Stand p l e R s m args below meth c T' L cells slots → T'.heap = h' → Fr n0 L → Wr h h' a j.toNatClampNeg (.int (nar .boolean x)) → Arv Z h' a k .boolean n (vs.set i (.int (nar .boolean x))) d → own_Ends p e below s Q kc ks T' (mkF m pc' ls st)) : own_Ends p e below s Q kc ks T (mkF m pc ls (.int x :: .int j :: .ref a :: st)) := by
  subst hp
  obtain ⟨cl, A, q1, S, q2, H, G⟩ := V
  have hin := inb_of S hj
  obtain ⟨T1, h1, X1, e1, W1, st1⟩ := stZ X hx hZ eT A (j := j) hin (g := mkF m pc ls (.int x :: .int j :: .ref a :: st)) rfl rfl hd
  exact own_go st1 (K T1 h1 _ X1 e1 (Fr.snoc X1 N ge) W1 (Arv.set A q1 S q2 H G (fits_nar_bool _) W1 i hi hl))
theorem own_newarr (X : Stand p l e R s m args below meth c T locs cells slots) (hx : p.tables.exec = Jvm.exec) {Z : State} {a0 : Array Value} {h : Heap} {aty : ArrayType} (hZ : Z.Warmed39 s.vm) (w : (Jvm.Cond.arrayClass (newarray.typeOf aty)).before a0 Z = true) (eT : T.heap = h) (hd : decode c.code pc = .ok (.newarray aty, 2)) (hp : pc + 2 = pc') {n : Int32} (hn : ¬ n < 0) (cap q : Nat) (hcap : n.toNatClampNeg ≤ cap) (hb : cap * 8 ≤ 536870912) (hc : cells + 1 ≤ R.cells) (hl : slots + cap ≤ R.slots)
    (K : ∀ T' h' a k, Stand p l e R s m args below meth c T' locs (cells + 1) (slots + cap) → T'.heap = h' → Ext h h' → a = h.size → Arv Z h' a k (newarray.typeOf aty) n (List.replicate q (defaultValue (newarray.typeOf aty))) (defaultValue (newarray.typeOf aty)) → own_Ends p e below s Q kc ks T' (mkF m pc' ls (.ref a :: st))) : own_Ends p e below s Q kc ks T (mkF m pc ls (.int n :: st)) := by
  subst hp
  obtain ⟨T1, h1, k1, X1, e1, E1, A1, st1⟩ := newP X hx hZ w eT (g := mkF m pc ls (.int n :: st)) rfl hd rfl hn (cap := cap) hcap hb hc hl
  exact own_go st1 (K T1 h1 _ k1 X1 e1 E1 rfl ((Arv.new A1 hn).pad (pad_rep [] _ q)))
theorem own_newarrE (X : Stand p l e R s m args below meth c T locs cells slots) (hx : p.tables.exec = Jvm.exec) {Z : State} {a0 : Array Value} {h : Heap} {aty : ArrayType} (hZ : Z.Warmed39 s.vm) (w : (Jvm.Cond.arrayClass (newarray.typeOf aty)).before a0 Z = true) (eT : T.heap = h) (hd : decode c.code pc = .ok (.newarray aty, 2)) (hp : pc + 2 = pc') {n : Int32} (hn : ¬ n < 0) (cap q : Nat) (hcap : n.toNatClampNeg ≤ cap) (hb : cap * 8 ≤ 536870912) (hc : cells + 1 ≤ R.cells) (hl : slots + cap ≤ R.slots) {ad : String} (had : "[" ++ (newarray.typeOf aty).toString = ad)
    (K : ∀ T' h' a k, Stand p l e R s m args below meth c T' locs (cells + 1) (slots + cap) → T'.heap = h' → Ext h h' → a = h.size → Arv Z h' a k (newarray.typeOf aty) n (List.replicate q (defaultValue (newarray.typeOf aty))) (defaultValue (newarray.typeOf aty)) → Exa Z h' a ad → own_Ends p e below s Q kc ks T' (mkF m pc' ls (.ref a :: st))) : own_Ends p e below s Q kc ks T (mkF m pc ls (.int n :: st)) := by
  subst hp
  obtain ⟨T1, h1, k1, X1, e1, E1, A1, Z1, st1⟩ := newPE X hx hZ w eT (g := mkF m pc ls (.int n :: st)) rfl hd rfl hn (cap := cap) hcap hb hc hl had
  exact own_go st1 (K T1 h1 _ k1 X1 e1 E1 rfl ((Arv.new A1 hn).pad (pad_rep [] _ q)) Z1)
theorem own_callS (X : Stand p l e R s m args below meth c T locs cells slots) (hx : p.tables.exec = Jvm.exec) {Z : State} {a0 : Array Value} {h : Heap} {own : String} {ix : Nat} {y : MethodName} {bytes : ByteArray} {maxL W : Nat} {ret : Option FieldType} {rm : Room} {Qc : Option Value → Heap → List Loc → Prop} {argsL rest : List Value} (hZ : Z.Warmed39 s.vm) (eT : T.heap = h) (hown : s.vm.findClass own = some m.cls) (hsz : ls.size = c.maxLocals) (wl : (Jvm.Cond.methodLink own ix y).before a0 Z = true) (ws : (Jvm.Cond.static y).before a0 Z = true) (wi : (Jvm.Cond.initialized y.cls).before a0 Z = true) (wc : (Jvm.Cond.code y bytes maxL ret).before a0 Z = true) (hy : y.cls ≠ "java/lang/invoke/MethodHandle" ∧ y.cls ≠ "java/lang/invoke/VarHandle") (hM : MetFree l y (head1 [Jvm.Cond.code y bytes maxL ret] rm) (fun a U => a = argsL.toArray ∧ Z.Warmed39 U.vm ∧ U.heap = h) (fun _ _ _ _ _ => True) (fun _ U o U' => ∃ v L, o = .returned v ∧ Qc v U'.heap L ∧ FrameEnd U o U' L rm.cells rm.slots)) (hf : rm.frames + 1 ≤ R.frames) (hlo : W + (maxL + 11) + rm.locals ≤ R.locals) (hcl : cells + rm.cells ≤ R.cells) (hsl : slots + rm.slots ≤ R.slots)
    (hlen : ∀ sig, parseMethodDescriptor y.desc = some sig → argsL.length = sig.parameters.length) (hst : st = argsL.reverse ++ rest) (hW : 2 * 0 + (rest.map fun v => v.category).sum ≤ W) (hd : decode c.code pc = .ok (.invokestatic ix, 3)) (hp : pc + 3 = pc') (K : ∀ T' L v, Stand p l e R s m args below meth c T' (locs ++ L) (cells + rm.cells) (slots + rm.slots) → Qc v T'.heap L → own_Ends p e below s Q kc ks T' (mkF m pc' ls (v.toList ++ rest))) : own_Ends p e below s Q kc ks T (mkF m pc ls st) := by
  subst hp
  obtain ⟨v, _, ⟨T1, L1, k1, n1⟩, -, X1, ⟨Lc, hQ, r1, r2, r3⟩, st1⟩ := Jvm.LawKit.callS X hx (y := y) hown (mvT hZ wl) (mvT hZ ws) (mvT hZ wi) (mvT hZ wc) hy (backOf (W := W) hM hZ wc wi hf hlo) (g := mkF m pc ls st) rfl hsz (argsL := argsL) (rest := rest) hlen hst hW hd (fun _ _ => ⟨rfl, eT, hcl, hsl⟩)
  dsimp only [Pt.U, Pt.locs, Pt.cells, Pt.slots] at X1 r1 r2 r3 st1 hQ
  subst r1 r2 r3
  exact own_go (st1) (K T1 Lc v X1 hQ)
theorem own_callC (X : Stand p l e R s m args below meth c T locs cells slots) (hx : p.tables.exec = Jvm.exec) {b : Addr} {Z : State} {a0 : Array Value} {h : Heap} {own : String} {ix : Nat} {y : MethodName} {bytes : ByteArray} {maxL W : Nat} {ret : Option FieldType} {rm : Room} {Qc : Option Value → Heap → List Loc → Prop} {argsL rest : List Value} (hZ : Z.Warmed39 s.vm) (eT : T.heap = h) (hown : s.vm.findClass own = some m.cls) (hsz : ls.size = c.maxLocals) (hret : ret = none) (hinit : y.name = "<init>") (wl : (Jvm.Cond.methodLink own ix y).before a0 Z = true) (wm : (Jvm.Cond.instanceMethod y).before a0 Z = true) (wi : (Jvm.Cond.initialized y.cls).before a0 Z = true) (wc : (Jvm.Cond.code y bytes maxL ret).before a0 Z = true) (hy : y.cls ≠ "java/lang/invoke/MethodHandle" ∧ y.cls ≠ "java/lang/invoke/VarHandle") (hM : MetFree l y (head1 [Jvm.Cond.code y bytes maxL ret] rm) (fun a U => a = (Value.ref b :: argsL).toArray ∧ Z.Warmed39 U.vm ∧ U.heap = h) (fun _ _ _ _ _ => True) (fun _ U o U' => ∃ v L, o = .returned v ∧ Qc v U'.heap L ∧ FrameEnd U o U' L rm.cells rm.slots)) (hf : rm.frames + 1 ≤ R.frames) (hlo : W + (maxL + 11) + rm.locals ≤ R.locals) (hcl : cells + rm.cells ≤ R.cells) (hsl : slots + rm.slots ≤ R.slots)
    (hlen : ∀ sig, parseMethodDescriptor y.desc = some sig → argsL.length = sig.parameters.length) (hst : st = argsL.reverse ++ .ref b :: rest) (hW : 2 * 0 + (rest.map fun v => v.category).sum ≤ W) (hd : decode c.code pc = .ok (.invokespecial ix, 3)) (hp : pc + 3 = pc') (K : ∀ T' L v, Stand p l e R s m args below meth c T' (locs ++ L) (cells + rm.cells) (slots + rm.slots) → Qc v T'.heap L → own_Ends p e below s Q kc ks T' (mkF m pc' ls (v.toList ++ rest))) : own_Ends p e below s Q kc ks T (mkF m pc ls st) := by
  subst hp hret
  obtain ⟨v, _, ⟨T1, L1, k1, n1⟩, -, X1, ⟨Lc, hQ, r1, r2, r3⟩, st1⟩ := X.specialBack hx (y := y) hinit hown (mvT hZ wl) (mvT hZ wm) (mvT hZ wc) hy (backOf (W := W) hM hZ wc wi hf hlo) (g := mkF m pc ls st) rfl hsz (Steps.refl _) (a := b) (argsL := argsL) (rest := rest) hlen hst hW hd (fun _ _ => ⟨rfl, eT, hcl, hsl⟩)
  dsimp only [Pt.U, Pt.locs, Pt.cells, Pt.slots] at X1 r1 r2 r3 st1 hQ
  subst r1 r2 r3
  exact own_go (fun t k => st1.trans k) (K T1 Lc v X1 hQ)
theorem own_callV (X : Stand p l e R s m args below meth c T locs cells slots) (hx : p.tables.exec = Jvm.exec) {b : Addr} {C : String} {Z : State} {a0 : Array Value} {h : Heap} {own : String} {ix : Nat} {y : MethodName} {bytes : ByteArray} {maxL W : Nat} {ret : Option FieldType} {rm : Room} {Qc : Option Value → Heap → List Loc → Prop} {argsL rest : List Value} (hZ : Z.Warmed39 s.vm) (eT : T.heap = h) (hown : s.vm.findClass own = some m.cls) (hsz : ls.size = c.maxLocals) (E : Exa Z h b C) (wl : (Jvm.Cond.methodLink own ix y).before a0 Z = true) (wd : (Jvm.Cond.declares y).before a0 Z = true) (wsel : (Jvm.Cond.selects C y y).before a0 Z = true) (wm : (Jvm.Cond.instanceMethod y).before a0 Z = true) (wi : (Jvm.Cond.initialized y.cls).before a0 Z = true) (wc : (Jvm.Cond.code y bytes maxL ret).before a0 Z = true) (hy : y.cls ≠ "java/lang/invoke/MethodHandle" ∧ y.cls ≠ "java/lang/invoke/VarHandle") (hM : MetFree l y (head1 [Jvm.Cond.code y bytes maxL ret] rm) (fun a U => a = (Value.ref b :: argsL).toArray ∧ Z.Warmed39 U.vm ∧ U.heap = h) (fun _ _ _ _ _ => True) (fun _ U o U' => ∃ v L, o = .returned v ∧ Qc v U'.heap L ∧ FrameEnd U o U' L rm.cells rm.slots)) (hf : rm.frames + 1 ≤ R.frames) (hlo : W + (maxL + 11) + rm.locals ≤ R.locals) (hcl : cells + rm.cells ≤ R.cells) (hsl : slots + rm.slots ≤ R.slots)
    (hlen : ∀ sig, parseMethodDescriptor y.desc = some sig → argsL.length = sig.parameters.length) (hst : st = argsL.reverse ++ .ref b :: rest) (hW : 2 * 0 + (rest.map fun v => v.category).sum ≤ W) (hd : decode c.code pc = .ok (.invokevirtual ix, 3)) (hp : pc + 3 = pc') (K : ∀ T' L v, Stand p l e R s m args below meth c T' (locs ++ L) (cells + rm.cells) (slots + rm.slots) → Qc v T'.heap L → own_Ends p e below s Q kc ks T' (mkF m pc' ls (v.toList ++ rest))) : own_Ends p e below s Q kc ks T (mkF m pc ls st) := by
  subst hp
  obtain ⟨cq, kq, qa, qb, qc⟩ := isOf hZ eT E
  obtain ⟨v, _, ⟨T1, L1, k1, n1⟩, -, X1, ⟨Lc, hQ, r1, r2, r3⟩, st1⟩ := X.virtualBack hx (y := y) (z := y) hown (mvT hZ wl) (mvT hZ wd) (notFace_of_selects (args := #[]) (mvT hZ wsel)) (mvT hZ wsel) (mvT hZ wm) hy (backOf (W := W) hM hZ wc wi hf hlo) qa qc (g := mkF m pc ls st) rfl hsz (Steps.refl _) (argsL := argsL) (rest := rest) hlen hst hW hd (fun _ _ => ⟨rfl, eT, hcl, hsl⟩)
  dsimp only [Pt.U, Pt.locs, Pt.cells, Pt.slots] at X1 r1 r2 r3 st1 hQ
  subst r1 r2 r3
  exact own_go (fun t k => st1.trans k) (K T1 Lc v X1 hQ)
theorem own_callP (X : Stand p l e R s m args below meth c T locs cells slots) (hx : p.tables.exec = Jvm.exec) {b : Addr} {C : String} {Z : State} {a0 : Array Value} {h : Heap} {own : String} {ix : Nat} {y : MethodName} {bytes : ByteArray} {maxL W : Nat} {ret : Option FieldType} {rm : Room} {Qc : Option Value → Heap → List Loc → Prop} {argsL rest : List Value} (hZ : Z.Warmed39 s.vm) (eT : T.heap = h) (hown : s.vm.findClass own = some m.cls) (hsz : ls.size = c.maxLocals) (E : Exa Z h b C) (wl : (Jvm.Cond.methodLink own ix y).before a0 Z = true) (wsel : (Jvm.Cond.selects y.cls y y).before a0 Z = true) (wp : (Jvm.Cond.privateMethod y).before a0 Z = true) (wm : (Jvm.Cond.instanceMethod y).before a0 Z = true) (wi : (Jvm.Cond.initialized y.cls).before a0 Z = true) (wc : (Jvm.Cond.code y bytes maxL ret).before a0 Z = true) (hy : y.cls ≠ "java/lang/invoke/MethodHandle" ∧ y.cls ≠ "java/lang/invoke/VarHandle") (hM : MetFree l y (head1 [Jvm.Cond.code y bytes maxL ret] rm) (fun a U => a = (Value.ref b :: argsL).toArray ∧ Z.Warmed39 U.vm ∧ U.heap = h) (fun _ _ _ _ _ => True) (fun _ U o U' => ∃ v L, o = .returned v ∧ Qc v U'.heap L ∧ FrameEnd U o U' L rm.cells rm.slots)) (hf : rm.frames + 1 ≤ R.frames) (hlo : W + (maxL + 11) + rm.locals ≤ R.locals) (hcl : cells + rm.cells ≤ R.cells) (hsl : slots + rm.slots ≤ R.slots)
    (hlen : ∀ sig, parseMethodDescriptor y.desc = some sig → argsL.length = sig.parameters.length) (hst : st = argsL.reverse ++ .ref b :: rest) (hW : 2 * 0 + (rest.map fun v => v.category).sum ≤ W) (hd : decode c.code pc = .ok (.invokevirtual ix, 3)) (hp : pc + 3 = pc') (K : ∀ T' L v, Stand p l e R s m args below meth c T' (locs ++ L) (cells + rm.cells) (slots + rm.slots) → Qc v T'.heap L → own_Ends p e below s Q kc ks T' (mkF m pc' ls (v.toList ++ rest))) : own_Ends p e below s Q kc ks T (mkF m pc ls st) := by
  subst hp
  obtain ⟨cq, qa, qb⟩ := E.cell
  obtain ⟨v, _, ⟨T1, L1, k1, n1⟩, -, X1, ⟨Lc, hQ, r1, r2, r3⟩, st1⟩ := X.privateBack hx (y := y) hown (mvT hZ wl) (mvT hZ wm) (mvT hZ wsel) (Jvm.Cond.privateMethod_at (mvP hZ wp (args := #[]))) (mvT hZ wc) hy (backOf (W := W) hM hZ wc wi hf hlo) (g := mkF m pc ls st) rfl hsz (Steps.refl _) (a := b) (by rw [eT]; exact qa) qb (argsL := argsL) (rest := rest) hlen hst hW hd (fun _ _ => ⟨rfl, eT, hcl, hsl⟩)
  dsimp only [Pt.U, Pt.locs, Pt.cells, Pt.slots] at X1 r1 r2 r3 st1 hQ
  subst r1 r2 r3
  exact own_go (fun t k => st1.trans k) (K T1 Lc v X1 hQ)
theorem own_mvM {Z : State} {a0 args : Array Value} {own host : String} {ix : Nat} {y : MethodName} (hZ : Z.Warmed39 s.vm) (w : (Jvm.Cond.methodLinkNest own ix y host).before a0 Z = true) : (Jvm.Cond.methodLinkNest own ix y host).before args s = true := (Jvm.Cond.methodLinkNest_wide hZ w :)
theorem own_callN (X : Stand p l e R s m args below meth c T locs cells slots) (hx : p.tables.exec = Jvm.exec) {b : Addr} {host : String} {Z : State} {a0 : Array Value} {h : Heap} {own : String} {ix : Nat} {y : MethodName} {bytes : ByteArray} {maxL W : Nat} {ret : Option FieldType} {rm : Room} {Qc : Option Value → Heap → List Loc → Prop} {argsL rest : List Value} (hZ : Z.Warmed39 s.vm) (eT : T.heap = h) (hown : s.vm.findClass own = some m.cls) (hsz : ls.size = c.maxLocals) (hret : ret = none) (hinit : y.name = "<init>") (wl : (Jvm.Cond.methodLinkNest own ix y host).before a0 Z = true) (wm : (Jvm.Cond.instanceMethod y).before a0 Z = true) (wi : (Jvm.Cond.initialized y.cls).before a0 Z = true) (wc : (Jvm.Cond.code y bytes maxL ret).before a0 Z = true) (hy : y.cls ≠ "java/lang/invoke/MethodHandle" ∧ y.cls ≠ "java/lang/invoke/VarHandle") (hM : MetFree l y (head1 [Jvm.Cond.code y bytes maxL ret] rm) (fun a U => a = (Value.ref b :: argsL).toArray ∧ Z.Warmed39 U.vm ∧ U.heap = h) (fun _ _ _ _ _ => True) (fun _ U o U' => ∃ v L, o = .returned v ∧ Qc v U'.heap L ∧ FrameEnd U o U' L rm.cells rm.slots)) (hf : rm.frames + 1 ≤ R.frames) (hlo : W + (maxL + 11) + rm.locals ≤ R.locals) (hcl : cells + rm.cells ≤ R.cells) (hsl : slots + rm.slots ≤ R.slots)
    (hlen : ∀ sig, parseMethodDescriptor y.desc = some sig → argsL.length = sig.parameters.length) (hst : st = argsL.reverse ++ .ref b :: rest) (hW : 2 * 0 + (rest.map fun v => v.category).sum ≤ W) (hd : decode c.code pc = .ok (.invokespecial ix, 3)) (hp : pc + 3 = pc') (K : ∀ T' L v, Stand p l e R s m args below meth c T' (locs ++ L) (cells + rm.cells) (slots + rm.slots) → Qc v T'.heap L → own_Ends p e below s Q kc ks T' (mkF m pc' ls (v.toList ++ rest))) : own_Ends p e below s Q kc ks T (mkF m pc ls st) := by
  subst hp hret
  obtain ⟨v, _, ⟨T1, L1, k1, n1⟩, -, X1, ⟨Lc, hQ, r1, r2, r3⟩, st1⟩ := X.specialBackNest hx (y := y) hinit hown (own_mvM hZ wl) (mvT hZ wm) (mvT hZ wc) hy (backOf (W := W) hM hZ wc wi hf hlo) (g := mkF m pc ls st) rfl hsz (Steps.refl _) (a := b) (argsL := argsL) (rest := rest) hlen hst hW hd (fun _ _ => ⟨rfl, eT, hcl, hsl⟩)
  dsimp only [Pt.U, Pt.locs, Pt.cells, Pt.slots] at X1 r1 r2 r3 st1 hQ
  subst r1 r2 r3
  exact own_go (fun t k => st1.trans k) (K T1 Lc v X1 hQ)
theorem own_anewarr (X : Stand p l e R s m args below meth c T locs cells slots) (hx : p.tables.exec = Jvm.exec) {Z : State} {a0 : Array Value} {h : Heap} {own C : String} {ix : Nat} (hZ : Z.Warmed39 s.vm) (hown : s.vm.findClass own = some m.cls) (w1 : (Jvm.Cond.classLink own ix C).before a0 Z = true) (w2 : (Jvm.Cond.arrayOver (.object C)).before a0 Z = true) (eT : T.heap = h) (hd : decode c.code pc = .ok (.anewarray ix, 3)) (hp : pc + 3 = pc') {n : Int32} (hn : ¬ n < 0) (cap q : Nat) (hcap : n.toNatClampNeg ≤ cap) (hb : cap * 8 ≤ 536870912) (hc : cells + 1 ≤ R.cells) (hl : slots + cap ≤ R.slots) {ad : String} (had : "[" ++ (FieldType.object C).toString = ad)
    (K : ∀ T' h' a k, Stand p l e R s m args below meth c T' locs (cells + 1) (slots + cap) → T'.heap = h' → Ext h h' → a = h.size → Arv Z h' a k (.object C) n (List.replicate q .null) .null → Exa Z h' a ad → Ovr Z k C → own_Ends p e below s Q kc ks T' (mkF m pc' ls (.ref a :: st))) : own_Ends p e below s Q kc ks T (mkF m pc ls (.int n :: st)) := by
  subst hp
  obtain ⟨T1, h1, k1, X1, e1, E1, A1, Z1, O1, st1⟩ := newRE X hx hZ hown w1 w2 eT (g := mkF m pc ls (.int n :: st)) rfl hd rfl hn (cap := cap) hcap hb hc hl had
  exact own_go st1 (K T1 h1 _ k1 X1 e1 E1 rfl ((Arv.new A1 hn).pad (pad_rep [] _ q)) Z1 O1)
theorem own_aastore (X : Stand p l e R s m args below meth c T locs cells slots) (hx : p.tables.exec = Jvm.exec) {Z : State} {h : Heap} {a b : Addr} {k : ClassId} {C D : String} {n j : Int32} {vs : List Value} {d : Value} (hZ : Z.Warmed39 s.vm) (eT : T.heap = h) (V : Arv Z h a k (.object D) n vs d) (O : Ovr Z k C) (I : Ins Z h b C true) (hd : decode c.code pc = .ok (.aastore, 1)) (hp : pc + 1 = pc') (hj : ¬ j < 0 ∧ j < n) (i : Nat) (hi : j.toNatClampNeg = i) (hl : i < vs.length) {n0 : Nat} (N : Fr n0 locs) (ge : n0 ≤ a)
    (K : ∀ T' h' L, Stand p l e R s m args below meth c T' L cells slots → T'.heap = h' → Fr n0 L → Wr h h' a j.toNatClampNeg (.ref b) → Arv Z h' a k (.object D) n (vs.set i (.ref b)) d → own_Ends p e below s Q kc ks T' (mkF m pc' ls st)) : own_Ends p e below s Q kc ks T (mkF m pc ls (.ref b :: .int j :: .ref a :: st)) := by
  subst hp
  obtain ⟨cl, A, q1, S, q2, H, G⟩ := V
  have hin := inb_of S hj
  obtain ⟨T1, h1, X1, e1, W1, st1⟩ := stR X hx hZ eT A (j := j) hin rfl (Sto.ofV A q1 O I) (g := mkF m pc ls (.ref b :: .int j :: .ref a :: st)) rfl rfl hd
  exact own_go st1 (K T1 h1 _ X1 e1 (Fr.snoc X1 N ge) W1 (Arv.set A q1 S q2 H G rfl W1 i hi hl))
theorem own_tswIn (X : Stand p l e R s m args below meth c T locs cells slots) (hx : p.tables.exec = Jvm.exec) {d lo hi o : Int} {offs : Array Int} {len : Nat} {i : Int32} (hd : decode c.code pc = .ok (.tableswitch d lo hi offs, len)) (hin : ¬ (i.toInt < lo ∨ i.toInt > hi)) (hoff : offs[(i.toInt - lo).toNat]? = some o) (ho : 0 ≤ (pc : Int) + o) (hp : ((pc : Int) + o).toNat = pc') (K : own_Ends p e below s Q kc ks T (mkF m pc' ls st)) : own_Ends p e below s Q kc ks T (mkF m pc ls (.int i :: st)) :=
  own_go (fun t k => XS.tswIn X.here hx rfl rfl hd rfl hin hoff ho hp k) K
theorem own_tswOut (X : Stand p l e R s m args below meth c T locs cells slots) (hx : p.tables.exec = Jvm.exec) {d lo hi : Int} {offs : Array Int} {len : Nat} {i : Int32} (hd : decode c.code pc = .ok (.tableswitch d lo hi offs, len)) (hout : i.toInt < lo ∨ i.toInt > hi) (ho : 0 ≤ (pc : Int) + d) (hp : ((pc : Int) + d).toNat = pc') (K : own_Ends p e below s Q kc ks T (mkF m pc' ls st)) : own_Ends p e below s Q kc ks T (mkF m pc ls (.int i :: st)) :=
  own_go (fun t k => XS.tswOut X.here hx rfl rfl hd rfl hout ho hp k) K
theorem own_ext {h h' : Heap} (K : Keep h h' []) : Ext h h' := ⟨K.1, fun a c q => K.2.1 a c q nin0⟩
theorem own_stak {Z : State} {h h' : Heap} {ws : List Addr} {C n d : String} {v : Value} (F : Sta Z h C n d v) (K : Keep h h' ws) (q : ∀ x ∈ ws, ∃ c : Cell, h[x]? = some c ∧ c.vm.isStatics = false) : Sta Z h' C n d v := by
  obtain ⟨cf, i, k, f, st, cell, h1, h2, h3, h4, h5, h6, h7⟩ := F
  refine ⟨cf, i, k, f, st, cell, h1, h2, h3, h4, K.2.1 st cell h5 (fun z => ?_), h6, h7⟩
  obtain ⟨c, q1, q2⟩ := q st z
  cases h5.symm.trans q1
  rw [h6] at q2; cases q2
theorem own_exac {Z : State} {h : Heap} {a : Addr} {C : String} (F : Exa Z h a C) : ∃ c : Cell, h[a]? = some c ∧ c.vm.isStatics = false := by
  obtain ⟨c, _, h1, -, -, h4, -⟩ := F; exact ⟨c, h1, h4⟩
theorem own_arvc {Z : State} {h : Heap} {a : Addr} {k : ClassId} {ty : FieldType} {n : Int32} {vs : List Value} {d : Value} (F : Arv Z h a k ty n vs d) : ∃ c : Cell, h[a]? = some c ∧ c.vm.isStatics = false := by
  obtain ⟨c, A, -⟩ := F; exact ⟨c, A.1, A.plain⟩
end Own
theorem own_w0 {Z : State} {a0 : Array Value} (hw : ∀ d ∈ tables_1, d.before a0 Z = true) : (Jvm.Cond.methodLink "com/example/mapwright/mapwright/ArcLoadsAddToPinLaw" (7 : Nat) ({ cls := "com/example/mapwright/mapwright/ArcLoadsAddToPinLaw", name := "arcsOf", desc := "(III)[I" } : Jvm.MethodName)).before a0 Z = true := hw _ (List.mem_of_getElem? (i := 0) rfl)
theorem own_w1 {Z : State} {a0 : Array Value} (hw : ∀ d ∈ tables_1, d.before a0 Z = true) : (Jvm.Cond.static ({ cls := "com/example/mapwright/mapwright/ArcLoadsAddToPinLaw", name := "arcsOf", desc := "(III)[I" } : Jvm.MethodName)).before a0 Z = true := hw _ (List.mem_of_getElem? (i := 1) rfl)
theorem own_w2 {Z : State} {a0 : Array Value} (hw : ∀ d ∈ tables_1, d.before a0 Z = true) : (Jvm.Cond.initialized "com/example/mapwright/mapwright/ArcLoadsAddToPinLaw").before a0 Z = true := hw _ (List.mem_of_getElem? (i := 2) rfl)
theorem own_w3 {Z : State} {a0 : Array Value} (hw : ∀ d ∈ tables_1, d.before a0 Z = true) : (Jvm.Cond.code ({ cls := "com/example/mapwright/mapwright/ArcLoadsAddToPinLaw", name := "arcsOf", desc := "(III)[I" } : Jvm.MethodName) method_3_code (7 : Nat) (Option.some (Jvm.ClassFile.FieldType.array Jvm.ClassFile.FieldType.int))).before a0 Z = true := hw _ (List.mem_of_getElem? (i := 3) rfl)
theorem own_w4 {Z : State} {a0 : Array Value} (hw : ∀ d ∈ tables_1, d.before a0 Z = true) : (Jvm.Cond.arrayClass Jvm.ClassFile.FieldType.int).before a0 Z = true := hw _ (List.mem_of_getElem? (i := 4) rfl)
theorem own_w5 {Z : State} {a0 : Array Value} (hw : ∀ d ∈ tables_1, d.before a0 Z = true) : (Jvm.Cond.methodLink "com/example/mapwright/mapwright/ArcLoadsAddToPinLaw" (13 : Nat) ({ cls := "com/example/mapwright/mapwright/ArcLoadsAddToPinLaw", name := "perOf", desc := "(IDDDD)[D" } : Jvm.MethodName)).before a0 Z = true := hw _ (List.mem_of_getElem? (i := 5) rfl)
theorem own_w6 {Z : State} {a0 : Array Value} (hw : ∀ d ∈ tables_1, d.before a0 Z = true) : (Jvm.Cond.static ({ cls := "com/example/mapwright/mapwright/ArcLoadsAddToPinLaw", name := "perOf", desc := "(IDDDD)[D" } : Jvm.MethodName)).before a0 Z = true := hw _ (List.mem_of_getElem? (i := 6) rfl)
theorem own_w7 {Z : State} {a0 : Array Value} (hw : ∀ d ∈ tables_1, d.before a0 Z = true) : (Jvm.Cond.code ({ cls := "com/example/mapwright/mapwright/ArcLoadsAddToPinLaw", name := "perOf", desc := "(IDDDD)[D" } : Jvm.MethodName) method_4_code (9 : Nat) (Option.some (Jvm.ClassFile.FieldType.array Jvm.ClassFile.FieldType.double))).before a0 Z = true := hw _ (List.mem_of_getElem? (i := 7) rfl)
theorem own_w8 {Z : State} {a0 : Array Value} (hw : ∀ d ∈ tables_1, d.before a0 Z = true) : (Jvm.Cond.arrayClass Jvm.ClassFile.FieldType.double).before a0 Z = true := hw _ (List.mem_of_getElem? (i := 8) rfl)
theorem own_w9 {Z : State} {a0 : Array Value} (hw : ∀ d ∈ tables_1, d.before a0 Z = true) : (Jvm.Cond.classLink "com/example/mapwright/mapwright/ArcLoadsAddToPinLaw" (17 : Nat) "com/example/mapwright/mapwright/ArcLoads").before a0 Z = true := hw _ (List.mem_of_getElem? (i := 9) rfl)
theorem own_w10 {Z : State} {a0 : Array Value} (hw : ∀ d ∈ tables_1, d.before a0 Z = true) : (Jvm.Cond.instantiable "com/example/mapwright/mapwright/ArcLoads" (2 : Nat)).before a0 Z = true := hw _ (List.mem_of_getElem? (i := 10) rfl)
theorem own_w11 {Z : State} {a0 : Array Value} (hw : ∀ d ∈ tables_1, d.before a0 Z = true) : (Jvm.Cond.initialized "com/example/mapwright/mapwright/ArcLoads").before a0 Z = true := hw _ (List.mem_of_getElem? (i := 11) rfl)
theorem own_w12 {Z : State} {a0 : Array Value} (hw : ∀ d ∈ tables_1, d.before a0 Z = true) : (Jvm.Cond.methodLink "com/example/mapwright/mapwright/ArcLoadsAddToPinLaw" (19 : Nat) ({ cls := "com/example/mapwright/mapwright/ArcLoads", name := "<init>", desc := "([I[D)V" } : Jvm.MethodName)).before a0 Z = true := hw _ (List.mem_of_getElem? (i := 12) rfl)
theorem own_w13 {Z : State} {a0 : Array Value} (hw : ∀ d ∈ tables_1, d.before a0 Z = true) : (Jvm.Cond.instanceMethod ({ cls := "com/example/mapwright/mapwright/ArcLoads", name := "<init>", desc := "([I[D)V" } : Jvm.MethodName)).before a0 Z = true := hw _ (List.mem_of_getElem? (i := 13) rfl)
theorem own_w14 {Z : State} {a0 : Array Value} (hw : ∀ d ∈ tables_1, d.before a0 Z = true) : (Jvm.Cond.code ({ cls := "com/example/mapwright/mapwright/ArcLoads", name := "<init>", desc := "([I[D)V" } : Jvm.MethodName) prog_1_method_1_code (3 : Nat) (Option.none : Option Jvm.ClassFile.FieldType)).before a0 Z = true := hw _ (List.mem_of_getElem? (i := 14) rfl)
theorem own_w15 {Z : State} {a0 : Array Value} (hw : ∀ d ∈ tables_1, d.before a0 Z = true) : (Jvm.Cond.methodLink "com/example/mapwright/mapwright/ArcLoads" (1 : Nat) ({ cls := "java/lang/Object", name := "<init>", desc := "()V" } : Jvm.MethodName)).before a0 Z = true := hw _ (List.mem_of_getElem? (i := 15) rfl)
theorem own_w16 {Z : State} {a0 : Array Value} (hw : ∀ d ∈ tables_1, d.before a0 Z = true) : (Jvm.Cond.instanceMethod ({ cls := "java/lang/Object", name := "<init>", desc := "()V" } : Jvm.MethodName)).before a0 Z = true := hw _ (List.mem_of_getElem? (i := 16) rfl)
theorem own_w17 {Z : State} {a0 : Array Value} (hw : ∀ d ∈ tables_1, d.before a0 Z = true) : (Jvm.Cond.code ({ cls := "java/lang/Object", name := "<init>", desc := "()V" } : Jvm.MethodName) object_method_1_code (1 : Nat) (Option.none : Option Jvm.ClassFile.FieldType)).before a0 Z = true := hw _ (List.mem_of_getElem? (i := 17) rfl)
theorem own_w18 {Z : State} {a0 : Array Value} (hw : ∀ d ∈ tables_1, d.before a0 Z = true) : (Jvm.Cond.methodLink "com/example/mapwright/mapwright/ArcLoads" (16 : Nat) ({ cls := "[I", name := "clone", desc := "()Ljava/lang/Object;" } : Jvm.MethodName)).before a0 Z = true := hw _ (List.mem_of_getElem? (i := 18) rfl)
theorem own_w19 {Z : State} {a0 : Array Value} (hw : ∀ d ∈ tables_1, d.before a0 Z = true) : (Jvm.Cond.sameMethod "[I" "java/lang/Object" "clone" "()Ljava/lang/Object;").before a0 Z = true := hw _ (List.mem_of_getElem? (i := 19) rfl)
theorem own_w21 {Z : State} {a0 : Array Value} (hw : ∀ d ∈ tables_1, d.before a0 Z = true) : (Jvm.Cond.instanceMethod ({ cls := "java/lang/Object", name := "clone", desc := "()Ljava/lang/Object;" } : Jvm.MethodName)).before a0 Z = true := hw _ (List.mem_of_getElem? (i := 21) rfl)
theorem own_w22 {Z : State} {a0 : Array Value} (hw : ∀ d ∈ tables_1, d.before a0 Z = true) : (Jvm.Cond.selects "[I" ({ cls := "[I", name := "clone", desc := "()Ljava/lang/Object;" } : Jvm.MethodName) ({ cls := "java/lang/Object", name := "clone", desc := "()Ljava/lang/Object;" } : Jvm.MethodName)).before a0 Z = true := hw _ (List.mem_of_getElem? (i := 22) rfl)
theorem own_w23 {Z : State} {a0 : Array Value} (hw : ∀ d ∈ tables_1, d.before a0 Z = true) : (Jvm.Cond.native ({ cls := "java/lang/Object", name := "clone", desc := "()Ljava/lang/Object;" } : Jvm.MethodName)).before a0 Z = true := hw _ (List.mem_of_getElem? (i := 23) rfl)
theorem own_w24 {Z : State} {a0 : Array Value} (hw : ∀ d ∈ tables_1, d.before a0 Z = true) : (Jvm.Cond.castable "[I" "java/lang/Cloneable").before a0 Z = true := hw _ (List.mem_of_getElem? (i := 24) rfl)
theorem own_w25 {Z : State} {a0 : Array Value} (hw : ∀ d ∈ tables_1, d.before a0 Z = true) : (Jvm.Cond.classLink "com/example/mapwright/mapwright/ArcLoads" (17 : Nat) "[I").before a0 Z = true := hw _ (List.mem_of_getElem? (i := 25) rfl)
theorem own_w27 {Z : State} {a0 : Array Value} (hw : ∀ d ∈ tables_1, d.before a0 Z = true) : (Jvm.Cond.fieldLink "com/example/mapwright/mapwright/ArcLoads" (22 : Nat) "com/example/mapwright/mapwright/ArcLoads" "arcs" "[I").before a0 Z = true := hw _ (List.mem_of_getElem? (i := 27) rfl)
theorem own_w28 {Z : State} {a0 : Array Value} (hw : ∀ d ∈ tables_1, d.before a0 Z = true) : (Jvm.Cond.laysFinal "com/example/mapwright/mapwright/ArcLoads" "com/example/mapwright/mapwright/ArcLoads" "arcs" "[I").before a0 Z = true := hw _ (List.mem_of_getElem? (i := 28) rfl)
theorem own_w29 {Z : State} {a0 : Array Value} (hw : ∀ d ∈ tables_1, d.before a0 Z = true) : (Jvm.Cond.methodLink "com/example/mapwright/mapwright/ArcLoads" (27 : Nat) ({ cls := "[D", name := "clone", desc := "()Ljava/lang/Object;" } : Jvm.MethodName)).before a0 Z = true := hw _ (List.mem_of_getElem? (i := 29) rfl)
theorem own_w30 {Z : State} {a0 : Array Value} (hw : ∀ d ∈ tables_1, d.before a0 Z = true) : (Jvm.Cond.sameMethod "[D" "java/lang/Object" "clone" "()Ljava/lang/Object;").before a0 Z = true := hw _ (List.mem_of_getElem? (i := 30) rfl)
theorem own_w31 {Z : State} {a0 : Array Value} (hw : ∀ d ∈ tables_1, d.before a0 Z = true) : (Jvm.Cond.selects "[D" ({ cls := "[D", name := "clone", desc := "()Ljava/lang/Object;" } : Jvm.MethodName) ({ cls := "java/lang/Object", name := "clone", desc := "()Ljava/lang/Object;" } : Jvm.MethodName)).before a0 Z = true := hw _ (List.mem_of_getElem? (i := 31) rfl)
theorem own_w32 {Z : State} {a0 : Array Value} (hw : ∀ d ∈ tables_1, d.before a0 Z = true) : (Jvm.Cond.castable "[D" "java/lang/Cloneable").before a0 Z = true := hw _ (List.mem_of_getElem? (i := 32) rfl)
theorem own_w33 {Z : State} {a0 : Array Value} (hw : ∀ d ∈ tables_1, d.before a0 Z = true) : (Jvm.Cond.classLink "com/example/mapwright/mapwright/ArcLoads" (28 : Nat) "[D").before a0 Z = true := hw _ (List.mem_of_getElem? (i := 33) rfl)
theorem own_w35 {Z : State} {a0 : Array Value} (hw : ∀ d ∈ tables_1, d.before a0 Z = true) : (Jvm.Cond.fieldLink "com/example/mapwright/mapwright/ArcLoads" (30 : Nat) "com/example/mapwright/mapwright/ArcLoads" "perUnit" "[D").before a0 Z = true := hw _ (List.mem_of_getElem? (i := 35) rfl)
theorem own_w36 {Z : State} {a0 : Array Value} (hw : ∀ d ∈ tables_1, d.before a0 Z = true) : (Jvm.Cond.laysFinal "com/example/mapwright/mapwright/ArcLoads" "com/example/mapwright/mapwright/ArcLoads" "perUnit" "[D").before a0 Z = true := hw _ (List.mem_of_getElem? (i := 36) rfl)
theorem own_w37 {Z : State} {a0 : Array Value} (hw : ∀ d ∈ tables_1, d.before a0 Z = true) : (Jvm.Cond.methodLink "com/example/mapwright/mapwright/ArcLoadsAddToPinLaw" (22 : Nat) ({ cls := "com/example/mapwright/mapwright/ArcLoads", name := "addTo", desc := "([DD)V" } : Jvm.MethodName)).before a0 Z = true := hw _ (List.mem_of_getElem? (i := 37) rfl)
theorem own_w38 {Z : State} {a0 : Array Value} (hw : ∀ d ∈ tables_1, d.before a0 Z = true) : (Jvm.Cond.declares ({ cls := "com/example/mapwright/mapwright/ArcLoads", name := "addTo", desc := "([DD)V" } : Jvm.MethodName)).before a0 Z = true := hw _ (List.mem_of_getElem? (i := 38) rfl)
theorem own_w39 {Z : State} {a0 : Array Value} (hw : ∀ d ∈ tables_1, d.before a0 Z = true) : (Jvm.Cond.instanceMethod ({ cls := "com/example/mapwright/mapwright/ArcLoads", name := "addTo", desc := "([DD)V" } : Jvm.MethodName)).before a0 Z = true := hw _ (List.mem_of_getElem? (i := 39) rfl)
theorem own_w40 {Z : State} {a0 : Array Value} (hw : ∀ d ∈ tables_1, d.before a0 Z = true) : (Jvm.Cond.selects "com/example/mapwright/mapwright/ArcLoads" ({ cls := "com/example/mapwright/mapwright/ArcLoads", name := "addTo", desc := "([DD)V" } : Jvm.MethodName) ({ cls := "com/example/mapwright/mapwright/ArcLoads", name := "addTo", desc := "([DD)V" } : Jvm.MethodName)).before a0 Z = true := hw _ (List.mem_of_getElem? (i := 40) rfl)
theorem own_w41 {Z : State} {a0 : Array Value} (hw : ∀ d ∈ tables_1, d.before a0 Z = true) : (Jvm.Cond.code ({ cls := "com/example/mapwright/mapwright/ArcLoads", name := "addTo", desc := "([DD)V" } : Jvm.MethodName) prog_1_method_6_code (5 : Nat) (Option.none : Option Jvm.ClassFile.FieldType)).before a0 Z = true := hw _ (List.mem_of_getElem? (i := 41) rfl)
theorem own_w42 {Z : State} {a0 : Array Value} (hw : ∀ d ∈ tables_1, d.before a0 Z = true) : (Jvm.Cond.methodLink "com/example/mapwright/mapwright/ArcLoadsAddToPinLaw" (26 : Nat) ({ cls := "com/example/mapwright/mapwright/ArcLoadsAddToPinLaw", name := "expected", desc := "(IIIIDDDDDD)D" } : Jvm.MethodName)).before a0 Z = true := hw _ (List.mem_of_getElem? (i := 42) rfl)
theorem own_w43 {Z : State} {a0 : Array Value} (hw : ∀ d ∈ tables_1, d.before a0 Z = true) : (Jvm.Cond.static ({ cls := "com/example/mapwright/mapwright/ArcLoadsAddToPinLaw", name := "expected", desc := "(IIIIDDDDDD)D" } : Jvm.MethodName)).before a0 Z = true := hw _ (List.mem_of_getElem? (i := 43) rfl)
theorem own_w44 {Z : State} {a0 : Array Value} (hw : ∀ d ∈ tables_1, d.before a0 Z = true) : (Jvm.Cond.code ({ cls := "com/example/mapwright/mapwright/ArcLoadsAddToPinLaw", name := "expected", desc := "(IIIIDDDDDD)D" } : Jvm.MethodName) method_5_code (19 : Nat) (Option.some Jvm.ClassFile.FieldType.double)).before a0 Z = true := hw _ (List.mem_of_getElem? (i := 44) rfl)
theorem own_pd0 : parseMethodDescriptor "(III)[I" = some ⟨[.int, .int, .int], some (.array .int)⟩ := by decide +kernel
theorem own_pd1 : parseMethodDescriptor "(IDDDD)[D" = some ⟨[.int, .double, .double, .double, .double], some (.array .double)⟩ := by decide +kernel
theorem own_pd2 : parseMethodDescriptor "([I[D)V" = some ⟨[(.array .int), (.array .double)], none⟩ := by decide +kernel
theorem own_pd3 : parseMethodDescriptor "([DD)V" = some ⟨[(.array .double), .double], none⟩ := by decide +kernel
theorem own_pd4 : parseMethodDescriptor "(IIIIDDDDDD)D" = some ⟨[.int, .int, .int, .int, .double, .double, .double, .double, .double, .double], some .double⟩ := by decide +kernel
theorem own_pn0 : plainName "com/example/mapwright/mapwright/ArcLoadsAddToPinLaw" = true := by first | (simp [plainName, overriddenIn]; done) | decide +kernel
theorem own_pn1 : plainName "com/example/mapwright/mapwright/ArcLoads" = true := by first | (simp [plainName, overriddenIn]; done) | decide +kernel
theorem own_arrat {s : State} {a : Addr} {c : Cell} (h : s.arrayAt? a = some c) : s.heap[a]? = some c := by
  unfold State.arrayAt? at h
  cases q : s.heap[a]? with
  | none => simp [q] at h
  | some d =>
    simp [q] at h
    obtain ⟨k, -, h2⟩ := Option.bind_eq_some_iff.mp h
    split at h2
    · cases h2
    · split at h2
      · exact h2
      · cases h2
theorem own_b1 {x a b : Int32} (h : x < a) (q : ¬ b < a) : x < b := by rw [Int32.lt_iff_toInt_lt] at *; omega
theorem own_b2 {x a b : Int32} (h : ¬ x < a) (q : ¬ a < b) : ¬ x < b := by rw [Int32.lt_iff_toInt_lt] at *; omega
theorem own_b3 {x a b : Int32} (h : a < x) (q : ¬ a < b) : b < x := by rw [Int32.lt_iff_toInt_lt] at *; omega
theorem own_b4 {x a b : Int32} (h : ¬ a < x) (q : ¬ b < a) : ¬ b < x := by rw [Int32.lt_iff_toInt_lt] at *; omega
theorem own_b5 {x a b : Int32} (h : x < a) (q : ¬ b < a - 1 ∧ a - 1 < a) : ¬ b < x := by
  obtain ⟨q1, q2⟩ := q
  have := c_isub a 1; have := rng32 a; have := rng32 (a - 1); have e1 : (1 : Int32).toInt = 1 := rfl
  rw [Int32.lt_iff_toInt_lt] at *; omega
theorem own_b6 {x a b : Int32} (h : ¬ x < a) (q : b < a) : b < x := by rw [Int32.lt_iff_toInt_lt] at *; omega
theorem own_b7 {x a b : Int32} (h : a < x) (q : ¬ a + 1 < b ∧ a < a + 1) : ¬ x < b := by
  obtain ⟨q1, q2⟩ := q
  have := c_iadd a 1; have := rng32 a; have := rng32 (a + 1); have e1 : (1 : Int32).toInt = 1 := rfl
  rw [Int32.lt_iff_toInt_lt] at *; omega
theorem own_b8 {x a b : Int32} (h : ¬ a < x) (q : a < b) : x < b := by rw [Int32.lt_iff_toInt_lt] at *; omega
theorem own_n1 {x b : Int32} (h : x < b) : ¬ x = b := fun q => by subst q; rw [Int32.lt_iff_toInt_lt] at h; omega
theorem own_n2 {x b : Int32} (h : b < x) : ¬ x = b := fun q => by subst q; rw [Int32.lt_iff_toInt_lt] at h; omega
theorem own_i1 {x y : Int32} (h : x < y) : x.toInt < y.toInt := Int32.lt_iff_toInt_lt.mp h
theorem own_i2 {x y : Int32} (h : ¬ x < y) : y.toInt ≤ x.toInt := Int.not_lt.mp fun q => h (Int32.lt_iff_toInt_lt.mpr q)
theorem own_i3 {x y : Int32} (h : x = y) : x.toInt = y.toInt := congrArg Int32.toInt h
theorem own_i4 {x y : Int32} (h : ¬ x = y) : ¬ x.toInt = y.toInt := fun q => h (Int32.toInt_inj.mp q)
theorem own_some {x y : Int32} (h : x = y) : some (Value.int x) = some (Value.int y) := congrArg (fun z => some (Value.int z)) h
theorem own_ae1 {a b : Addr} (h : a = b) : XT.acmp .eq (.ref a) (.ref b) = true ∧ XT.acmp .ne (.ref a) (.ref b) = false := ⟨decide_eq_true (congrArg Value.ref h), decide_eq_false fun q => q (congrArg Value.ref h)⟩
theorem own_ae0 {a b : Addr} (h : ¬ a = b) : XT.acmp .eq (.ref a) (.ref b) = false ∧ XT.acmp .ne (.ref a) (.ref b) = true := ⟨decide_eq_false fun q => h (Value.ref.inj q), decide_eq_true fun q => h (Value.ref.inj q)⟩
theorem own_ann : XT.acmp .eq .null .null = true ∧ XT.acmp .ne .null .null = false := ⟨rfl, rfl⟩
theorem own_anr (b : Addr) : XT.acmp .eq .null (.ref b) = false ∧ XT.acmp .ne .null (.ref b) = true := by constructor <;> first | rfl | (simp [XT.acmp]; done) | decide
theorem own_arn (b : Addr) : XT.acmp .eq (.ref b) .null = false ∧ XT.acmp .ne (.ref b) .null = true := by constructor <;> first | rfl | (simp [XT.acmp]; done) | decide
theorem own_eqi {args : Array Value} {s : State} {t : Term} {k : Int32} (h : (Jvm.Cond.eq t (Term.int k)).value args s none s [] = some true) : t.eval args s none [] s = some (.int k) := by
  obtain ⟨x, y, e1, e2, k1, k2⟩ := cmp_v (Or.inl h)
  obtain rfl : Value.int k = y := Option.some.inj ((Term.int_eval k).symm.trans e2)
  obtain ⟨z, rfl⟩ : ∃ z, x = .int z := k2
  have q : z = k := gotT (Cond.eq_ints e1 (Term.int_eval k)) h
  rw [e1, q]
theorem own_eql {args : Array Value} {s : State} {t : Term} {k : Int64} (h : (Jvm.Cond.eq t (Term.long k)).value args s none s [] = some true) : t.eval args s none [] s = some (.long k) := by
  obtain ⟨x, y, e1, e2, k1, k2⟩ := cmp_v (Or.inl h)
  obtain rfl : Value.long k = y := Option.some.inj ((show (Term.long k).eval args s none [] s = some (.long k) from rfl).symm.trans e2)
  obtain ⟨z, rfl⟩ : ∃ z, x = .long z := k2
  have q : z = k := gotT (eq_L e1 (show (Term.long k).eval args s none [] s = some (.long k) from rfl)) h
  rw [e1, q]
theorem own_len {args : Array Value} {s : State} {t : Term} {k : Int32} {a : Addr} {c : Cell} (h : (Term.length t).eval args s none [] s = some (.int k)) (ht : t.eval args s none [] s = some (.ref a)) (hc : s.heap[a]? = some c) : c.slots.size.toInt32 = k ∧ c.slots.size < 2 ^ 31 := by
  obtain ⟨a', cell, e1, e2, e3⟩ := Term.length_spec h
  cases ht.symm.trans e1
  have e4 : s.heap[a]? = some cell := own_arrat e2
  cases hc.symm.trans e4
  refine ⟨(Value.int.inj e3).symm, ?_⟩
  by_cases q : c.slots.size < 2 ^ 31
  · exact q
  · simp [Term.eval, ht, e2, q] at h
theorem own_nb0 : nar .boolean 0 = 0 := by decide
theorem own_nb1 : nar .boolean 1 = 1 := by decide
def own_ushr (x y : Int32) : Int32 := (x.toUInt32 >>> (y &&& 31).toUInt32).toInt32
def own_ushrL (x : Int64) (y : Int32) : Int64 := (x.toUInt64 >>> (y &&& 0x3f).toInt64.toUInt64).toInt64
theorem own_d1_0 : decode method_3_code 0 = .ok (.iload_n 1, 1) := by decide +kernel
theorem own_d1_1 : decode method_3_code 1 = .ok (.iconst 3, 1) := by decide +kernel
theorem own_d1_2 : decode method_3_code 2 = .ok (.iand, 1) := by decide +kernel
theorem own_d1_3 : decode method_3_code 3 = .ok (.istore_n 3, 1) := by decide +kernel
theorem own_d1_4 : decode method_3_code 4 = .ok (.iload_n 1, 1) := by decide +kernel
theorem own_d1_5 : decode method_3_code 5 = .ok (.iload_n 2, 1) := by decide +kernel
theorem own_d1_6 : decode method_3_code 6 = .ok (.iadd, 1) := by decide +kernel
theorem own_d1_7 : decode method_3_code 7 = .ok (.iconst 3, 1) := by decide +kernel
theorem own_d1_8 : decode method_3_code 8 = .ok (.iand, 1) := by decide +kernel
theorem own_d1_9 : decode method_3_code 9 = .ok (.istore 4, 2) := by decide +kernel
theorem own_d1_11 : decode method_3_code 11 = .ok (.iload_n 1, 1) := by decide +kernel
theorem own_d1_12 : decode method_3_code 12 = .ok (.iconst 2, 1) := by decide +kernel
theorem own_d1_13 : decode method_3_code 13 = .ok (.iload_n 2, 1) := by decide +kernel
theorem own_d1_14 : decode method_3_code 14 = .ok (.imul, 1) := by decide +kernel
theorem own_d1_15 : decode method_3_code 15 = .ok (.iadd, 1) := by decide +kernel
theorem own_d1_16 : decode method_3_code 16 = .ok (.iconst 3, 1) := by decide +kernel
theorem own_d1_17 : decode method_3_code 17 = .ok (.iand, 1) := by decide +kernel
theorem own_d1_18 : decode method_3_code 18 = .ok (.istore 5, 2) := by decide +kernel
theorem own_d1_20 : decode method_3_code 20 = .ok (.iload_n 1, 1) := by decide +kernel
theorem own_d1_21 : decode method_3_code 21 = .ok (.iconst 3, 1) := by decide +kernel
theorem own_d1_22 : decode method_3_code 22 = .ok (.iload_n 2, 1) := by decide +kernel
theorem own_d1_23 : decode method_3_code 23 = .ok (.imul, 1) := by decide +kernel
theorem own_d1_24 : decode method_3_code 24 = .ok (.iadd, 1) := by decide +kernel
theorem own_d1_25 : decode method_3_code 25 = .ok (.iconst 3, 1) := by decide +kernel
theorem own_d1_26 : decode method_3_code 26 = .ok (.iand, 1) := by decide +kernel
theorem own_d1_27 : decode method_3_code 27 = .ok (.istore 6, 2) := by decide +kernel
theorem own_d1_29 : decode method_3_code 29 = .ok (.iload_n 0, 1) := by decide +kernel
theorem own_d1_30 : decode method_3_code 30 = .ok (.ifCond .ne 7, 3) := by decide +kernel
theorem own_d1_33 : decode method_3_code 33 = .ok (.iconst 0, 1) := by decide +kernel
theorem own_d1_34 : decode method_3_code 34 = .ok (.newarray .int, 2) := by decide +kernel
theorem own_d1_36 : decode method_3_code 36 = .ok (.areturn, 1) := by decide +kernel
theorem own_d1_37 : decode method_3_code 37 = .ok (.iload_n 0, 1) := by decide +kernel
theorem own_d1_38 : decode method_3_code 38 = .ok (.iconst 1, 1) := by decide +kernel
theorem own_d1_39 : decode method_3_code 39 = .ok (.if_icmp .ne 11, 3) := by decide +kernel
theorem own_d1_42 : decode method_3_code 42 = .ok (.iconst 1, 1) := by decide +kernel
theorem own_d1_43 : decode method_3_code 43 = .ok (.newarray .int, 2) := by decide +kernel
theorem own_d1_45 : decode method_3_code 45 = .ok (.dup, 1) := by decide +kernel
theorem own_d1_46 : decode method_3_code 46 = .ok (.iconst 0, 1) := by decide +kernel
theorem own_d1_47 : decode method_3_code 47 = .ok (.iload_n 3, 1) := by decide +kernel
theorem own_d1_48 : decode method_3_code 48 = .ok (.iastore, 1) := by decide +kernel
theorem own_d1_49 : decode method_3_code 49 = .ok (.areturn, 1) := by decide +kernel
theorem own_d1_50 : decode method_3_code 50 = .ok (.iload_n 0, 1) := by decide +kernel
theorem own_d1_51 : decode method_3_code 51 = .ok (.iconst 2, 1) := by decide +kernel
theorem own_d1_52 : decode method_3_code 52 = .ok (.if_icmp .ne 16, 3) := by decide +kernel
theorem own_d1_55 : decode method_3_code 55 = .ok (.iconst 2, 1) := by decide +kernel
theorem own_d1_56 : decode method_3_code 56 = .ok (.newarray .int, 2) := by decide +kernel
theorem own_d1_58 : decode method_3_code 58 = .ok (.dup, 1) := by decide +kernel
theorem own_d1_59 : decode method_3_code 59 = .ok (.iconst 0, 1) := by decide +kernel
theorem own_d1_60 : decode method_3_code 60 = .ok (.iload_n 3, 1) := by decide +kernel
theorem own_d1_61 : decode method_3_code 61 = .ok (.iastore, 1) := by decide +kernel
theorem own_d1_62 : decode method_3_code 62 = .ok (.dup, 1) := by decide +kernel
theorem own_d1_63 : decode method_3_code 63 = .ok (.iconst 1, 1) := by decide +kernel
theorem own_d1_64 : decode method_3_code 64 = .ok (.iload 4, 2) := by decide +kernel
theorem own_d1_66 : decode method_3_code 66 = .ok (.iastore, 1) := by decide +kernel
theorem own_d1_67 : decode method_3_code 67 = .ok (.areturn, 1) := by decide +kernel
theorem own_d1_68 : decode method_3_code 68 = .ok (.iload_n 0, 1) := by decide +kernel
theorem own_d1_69 : decode method_3_code 69 = .ok (.iconst 3, 1) := by decide +kernel
theorem own_d1_70 : decode method_3_code 70 = .ok (.if_icmp .ne 21, 3) := by decide +kernel
theorem own_d1_73 : decode method_3_code 73 = .ok (.iconst 3, 1) := by decide +kernel
theorem own_d1_74 : decode method_3_code 74 = .ok (.newarray .int, 2) := by decide +kernel
theorem own_d1_76 : decode method_3_code 76 = .ok (.dup, 1) := by decide +kernel
theorem own_d1_77 : decode method_3_code 77 = .ok (.iconst 0, 1) := by decide +kernel
theorem own_d1_78 : decode method_3_code 78 = .ok (.iload_n 3, 1) := by decide +kernel
theorem own_d1_79 : decode method_3_code 79 = .ok (.iastore, 1) := by decide +kernel
theorem own_d1_80 : decode method_3_code 80 = .ok (.dup, 1) := by decide +kernel
theorem own_d1_81 : decode method_3_code 81 = .ok (.iconst 1, 1) := by decide +kernel
theorem own_d1_82 : decode method_3_code 82 = .ok (.iload 4, 2) := by decide +kernel
theorem own_d1_84 : decode method_3_code 84 = .ok (.iastore, 1) := by decide +kernel
theorem own_d1_85 : decode method_3_code 85 = .ok (.dup, 1) := by decide +kernel
theorem own_d1_86 : decode method_3_code 86 = .ok (.iconst 2, 1) := by decide +kernel
theorem own_d1_87 : decode method_3_code 87 = .ok (.iload 5, 2) := by decide +kernel
theorem own_d1_89 : decode method_3_code 89 = .ok (.iastore, 1) := by decide +kernel
theorem own_d1_90 : decode method_3_code 90 = .ok (.areturn, 1) := by decide +kernel
theorem own_d1_91 : decode method_3_code 91 = .ok (.iconst 4, 1) := by decide +kernel
theorem own_d1_92 : decode method_3_code 92 = .ok (.newarray .int, 2) := by decide +kernel
theorem own_d1_94 : decode method_3_code 94 = .ok (.dup, 1) := by decide +kernel
theorem own_d1_95 : decode method_3_code 95 = .ok (.iconst 0, 1) := by decide +kernel
theorem own_d1_96 : decode method_3_code 96 = .ok (.iload_n 3, 1) := by decide +kernel
theorem own_d1_97 : decode method_3_code 97 = .ok (.iastore, 1) := by decide +kernel
theorem own_d1_98 : decode method_3_code 98 = .ok (.dup, 1) := by decide +kernel
theorem own_d1_99 : decode method_3_code 99 = .ok (.iconst 1, 1) := by decide +kernel
theorem own_d1_100 : decode method_3_code 100 = .ok (.iload 4, 2) := by decide +kernel
theorem own_d1_102 : decode method_3_code 102 = .ok (.iastore, 1) := by decide +kernel
theorem own_d1_103 : decode method_3_code 103 = .ok (.dup, 1) := by decide +kernel
theorem own_d1_104 : decode method_3_code 104 = .ok (.iconst 2, 1) := by decide +kernel
theorem own_d1_105 : decode method_3_code 105 = .ok (.iload 5, 2) := by decide +kernel
theorem own_d1_107 : decode method_3_code 107 = .ok (.iastore, 1) := by decide +kernel
theorem own_d1_108 : decode method_3_code 108 = .ok (.dup, 1) := by decide +kernel
theorem own_d1_109 : decode method_3_code 109 = .ok (.iconst 3, 1) := by decide +kernel
theorem own_d1_110 : decode method_3_code 110 = .ok (.iload 6, 2) := by decide +kernel
theorem own_d1_112 : decode method_3_code 112 = .ok (.iastore, 1) := by decide +kernel
theorem own_d1_113 : decode method_3_code 113 = .ok (.areturn, 1) := by decide +kernel
theorem own_d2_0 : decode method_4_code 0 = .ok (.iload_n 0, 1) := by decide +kernel
theorem own_d2_1 : decode method_4_code 1 = .ok (.ifCond .ne 7, 3) := by decide +kernel
theorem own_d2_4 : decode method_4_code 4 = .ok (.iconst 0, 1) := by decide +kernel
theorem own_d2_5 : decode method_4_code 5 = .ok (.newarray .double, 2) := by decide +kernel
theorem own_d2_7 : decode method_4_code 7 = .ok (.areturn, 1) := by decide +kernel
theorem own_d2_8 : decode method_4_code 8 = .ok (.iload_n 0, 1) := by decide +kernel
theorem own_d2_9 : decode method_4_code 9 = .ok (.iconst 1, 1) := by decide +kernel
theorem own_d2_10 : decode method_4_code 10 = .ok (.if_icmp .ne 11, 3) := by decide +kernel
theorem own_d2_13 : decode method_4_code 13 = .ok (.iconst 1, 1) := by decide +kernel
theorem own_d2_14 : decode method_4_code 14 = .ok (.newarray .double, 2) := by decide +kernel
theorem own_d2_16 : decode method_4_code 16 = .ok (.dup, 1) := by decide +kernel
theorem own_d2_17 : decode method_4_code 17 = .ok (.iconst 0, 1) := by decide +kernel
theorem own_d2_18 : decode method_4_code 18 = .ok (.dload_n 1, 1) := by decide +kernel
theorem own_d2_19 : decode method_4_code 19 = .ok (.dastore, 1) := by decide +kernel
theorem own_d2_20 : decode method_4_code 20 = .ok (.areturn, 1) := by decide +kernel
theorem own_d2_21 : decode method_4_code 21 = .ok (.iload_n 0, 1) := by decide +kernel
theorem own_d2_22 : decode method_4_code 22 = .ok (.iconst 2, 1) := by decide +kernel
theorem own_d2_23 : decode method_4_code 23 = .ok (.if_icmp .ne 15, 3) := by decide +kernel
theorem own_d2_26 : decode method_4_code 26 = .ok (.iconst 2, 1) := by decide +kernel
theorem own_d2_27 : decode method_4_code 27 = .ok (.newarray .double, 2) := by decide +kernel
theorem own_d2_29 : decode method_4_code 29 = .ok (.dup, 1) := by decide +kernel
theorem own_d2_30 : decode method_4_code 30 = .ok (.iconst 0, 1) := by decide +kernel
theorem own_d2_31 : decode method_4_code 31 = .ok (.dload_n 1, 1) := by decide +kernel
theorem own_d2_32 : decode method_4_code 32 = .ok (.dastore, 1) := by decide +kernel
theorem own_d2_33 : decode method_4_code 33 = .ok (.dup, 1) := by decide +kernel
theorem own_d2_34 : decode method_4_code 34 = .ok (.iconst 1, 1) := by decide +kernel
theorem own_d2_35 : decode method_4_code 35 = .ok (.dload_n 3, 1) := by decide +kernel
theorem own_d2_36 : decode method_4_code 36 = .ok (.dastore, 1) := by decide +kernel
theorem own_d2_37 : decode method_4_code 37 = .ok (.areturn, 1) := by decide +kernel
theorem own_d2_38 : decode method_4_code 38 = .ok (.iload_n 0, 1) := by decide +kernel
theorem own_d2_39 : decode method_4_code 39 = .ok (.iconst 3, 1) := by decide +kernel
theorem own_d2_40 : decode method_4_code 40 = .ok (.if_icmp .ne 20, 3) := by decide +kernel
theorem own_d2_43 : decode method_4_code 43 = .ok (.iconst 3, 1) := by decide +kernel
theorem own_d2_44 : decode method_4_code 44 = .ok (.newarray .double, 2) := by decide +kernel
theorem own_d2_46 : decode method_4_code 46 = .ok (.dup, 1) := by decide +kernel
theorem own_d2_47 : decode method_4_code 47 = .ok (.iconst 0, 1) := by decide +kernel
theorem own_d2_48 : decode method_4_code 48 = .ok (.dload_n 1, 1) := by decide +kernel
theorem own_d2_49 : decode method_4_code 49 = .ok (.dastore, 1) := by decide +kernel
theorem own_d2_50 : decode method_4_code 50 = .ok (.dup, 1) := by decide +kernel
theorem own_d2_51 : decode method_4_code 51 = .ok (.iconst 1, 1) := by decide +kernel
theorem own_d2_52 : decode method_4_code 52 = .ok (.dload_n 3, 1) := by decide +kernel
theorem own_d2_53 : decode method_4_code 53 = .ok (.dastore, 1) := by decide +kernel
theorem own_d2_54 : decode method_4_code 54 = .ok (.dup, 1) := by decide +kernel
theorem own_d2_55 : decode method_4_code 55 = .ok (.iconst 2, 1) := by decide +kernel
theorem own_d2_56 : decode method_4_code 56 = .ok (.dload 5, 2) := by decide +kernel
theorem own_d2_58 : decode method_4_code 58 = .ok (.dastore, 1) := by decide +kernel
theorem own_d2_59 : decode method_4_code 59 = .ok (.areturn, 1) := by decide +kernel
theorem own_d2_60 : decode method_4_code 60 = .ok (.iconst 4, 1) := by decide +kernel
theorem own_d2_61 : decode method_4_code 61 = .ok (.newarray .double, 2) := by decide +kernel
theorem own_d2_63 : decode method_4_code 63 = .ok (.dup, 1) := by decide +kernel
theorem own_d2_64 : decode method_4_code 64 = .ok (.iconst 0, 1) := by decide +kernel
theorem own_d2_65 : decode method_4_code 65 = .ok (.dload_n 1, 1) := by decide +kernel
theorem own_d2_66 : decode method_4_code 66 = .ok (.dastore, 1) := by decide +kernel
theorem own_d2_67 : decode method_4_code 67 = .ok (.dup, 1) := by decide +kernel
theorem own_d2_68 : decode method_4_code 68 = .ok (.iconst 1, 1) := by decide +kernel
theorem own_d2_69 : decode method_4_code 69 = .ok (.dload_n 3, 1) := by decide +kernel
theorem own_d2_70 : decode method_4_code 70 = .ok (.dastore, 1) := by decide +kernel
theorem own_d2_71 : decode method_4_code 71 = .ok (.dup, 1) := by decide +kernel
theorem own_d2_72 : decode method_4_code 72 = .ok (.iconst 2, 1) := by decide +kernel
theorem own_d2_73 : decode method_4_code 73 = .ok (.dload 5, 2) := by decide +kernel
theorem own_d2_75 : decode method_4_code 75 = .ok (.dastore, 1) := by decide +kernel
theorem own_d2_76 : decode method_4_code 76 = .ok (.dup, 1) := by decide +kernel
theorem own_d2_77 : decode method_4_code 77 = .ok (.iconst 3, 1) := by decide +kernel
theorem own_d2_78 : decode method_4_code 78 = .ok (.dload 7, 2) := by decide +kernel
theorem own_d2_80 : decode method_4_code 80 = .ok (.dastore, 1) := by decide +kernel
theorem own_d2_81 : decode method_4_code 81 = .ok (.areturn, 1) := by decide +kernel
theorem own_d3_0 : decode prog_1_method_1_code 0 = .ok (.aload_n 0, 1) := by decide +kernel
theorem own_d3_1 : decode prog_1_method_1_code 1 = .ok (.invokespecial 1, 3) := by decide +kernel
theorem own_d3_4 : decode prog_1_method_1_code 4 = .ok (.aload_n 1, 1) := by decide +kernel
theorem own_d3_5 : decode prog_1_method_1_code 5 = .ok (.arraylength, 1) := by decide +kernel
theorem own_d3_6 : decode prog_1_method_1_code 6 = .ok (.aload_n 2, 1) := by decide +kernel
theorem own_d3_7 : decode prog_1_method_1_code 7 = .ok (.arraylength, 1) := by decide +kernel
theorem own_d3_8 : decode prog_1_method_1_code 8 = .ok (.if_icmp .eq 20, 3) := by decide +kernel
theorem own_d3_11 : decode prog_1_method_1_code 11 = .ok (.new 7, 3) := by decide +kernel
theorem own_d3_14 : decode prog_1_method_1_code 14 = .ok (.dup, 1) := by decide +kernel
theorem own_d3_15 : decode prog_1_method_1_code 15 = .ok (.aload_n 1, 1) := by decide +kernel
theorem own_d3_16 : decode prog_1_method_1_code 16 = .ok (.arraylength, 1) := by decide +kernel
theorem own_d3_17 : decode prog_1_method_1_code 17 = .ok (.aload_n 2, 1) := by decide +kernel
theorem own_d3_18 : decode prog_1_method_1_code 18 = .ok (.arraylength, 1) := by decide +kernel
theorem own_d3_19 : decode prog_1_method_1_code 19 = .ok (.invokedynamic 9, 5) := by decide +kernel
theorem own_d3_24 : decode prog_1_method_1_code 24 = .ok (.invokespecial 13, 3) := by decide +kernel
theorem own_d3_27 : decode prog_1_method_1_code 27 = .ok (.athrow, 1) := by decide +kernel
theorem own_d3_28 : decode prog_1_method_1_code 28 = .ok (.aload_n 0, 1) := by decide +kernel
theorem own_d3_29 : decode prog_1_method_1_code 29 = .ok (.aload_n 1, 1) := by decide +kernel
theorem own_d3_30 : decode prog_1_method_1_code 30 = .ok (.invokevirtual 16, 3) := by decide +kernel
theorem own_d3_33 : decode prog_1_method_1_code 33 = .ok (.checkcast 17, 3) := by decide +kernel
theorem own_d3_36 : decode prog_1_method_1_code 36 = .ok (.putfield 22, 3) := by decide +kernel
theorem own_d3_39 : decode prog_1_method_1_code 39 = .ok (.aload_n 0, 1) := by decide +kernel
theorem own_d3_40 : decode prog_1_method_1_code 40 = .ok (.aload_n 2, 1) := by decide +kernel
theorem own_d3_41 : decode prog_1_method_1_code 41 = .ok (.invokevirtual 27, 3) := by decide +kernel
theorem own_d3_44 : decode prog_1_method_1_code 44 = .ok (.checkcast 28, 3) := by decide +kernel
theorem own_d3_47 : decode prog_1_method_1_code 47 = .ok (.putfield 30, 3) := by decide +kernel
theorem own_d3_50 : decode prog_1_method_1_code 50 = .ok (.return_, 1) := by decide +kernel
theorem own_d5_0 : decode prog_1_method_6_code 0 = .ok (.iconst 0, 1) := by decide +kernel
theorem own_d5_1 : decode prog_1_method_6_code 1 = .ok (.istore 4, 2) := by decide +kernel
theorem own_d5_3 : decode prog_1_method_6_code 3 = .ok (.iload 4, 2) := by decide +kernel
theorem own_d5_5 : decode prog_1_method_6_code 5 = .ok (.aload_n 0, 1) := by decide +kernel
theorem own_d5_6 : decode prog_1_method_6_code 6 = .ok (.getfield 22, 3) := by decide +kernel
theorem own_d5_9 : decode prog_1_method_6_code 9 = .ok (.arraylength, 1) := by decide +kernel
theorem own_d5_10 : decode prog_1_method_6_code 10 = .ok (.if_icmp .ge 30, 3) := by decide +kernel
theorem own_d5_13 : decode prog_1_method_6_code 13 = .ok (.aload_n 1, 1) := by decide +kernel
theorem own_d5_14 : decode prog_1_method_6_code 14 = .ok (.aload_n 0, 1) := by decide +kernel
theorem own_d5_15 : decode prog_1_method_6_code 15 = .ok (.getfield 22, 3) := by decide +kernel
theorem own_d5_18 : decode prog_1_method_6_code 18 = .ok (.iload 4, 2) := by decide +kernel
theorem own_d5_20 : decode prog_1_method_6_code 20 = .ok (.iaload, 1) := by decide +kernel
theorem own_d5_21 : decode prog_1_method_6_code 21 = .ok (.dup2, 1) := by decide +kernel
theorem own_d5_22 : decode prog_1_method_6_code 22 = .ok (.daload, 1) := by decide +kernel
theorem own_d5_23 : decode prog_1_method_6_code 23 = .ok (.dload_n 2, 1) := by decide +kernel
theorem own_d5_24 : decode prog_1_method_6_code 24 = .ok (.aload_n 0, 1) := by decide +kernel
theorem own_d5_25 : decode prog_1_method_6_code 25 = .ok (.getfield 30, 3) := by decide +kernel
theorem own_d5_28 : decode prog_1_method_6_code 28 = .ok (.iload 4, 2) := by decide +kernel
theorem own_d5_30 : decode prog_1_method_6_code 30 = .ok (.daload, 1) := by decide +kernel
theorem own_d5_31 : decode prog_1_method_6_code 31 = .ok (.dmul, 1) := by decide +kernel
theorem own_d5_32 : decode prog_1_method_6_code 32 = .ok (.dadd, 1) := by decide +kernel
theorem own_d5_33 : decode prog_1_method_6_code 33 = .ok (.dastore, 1) := by decide +kernel
theorem own_d5_34 : decode prog_1_method_6_code 34 = .ok (.iinc 4 1, 3) := by decide +kernel
theorem own_d5_37 : decode prog_1_method_6_code 37 = .ok (.goto (-34), 3) := by decide +kernel
theorem own_d5_40 : decode prog_1_method_6_code 40 = .ok (.return_, 1) := by decide +kernel
theorem own_d6_0 : decode method_5_code 0 = .ok (.iload_n 0, 1) := by decide +kernel
theorem own_d6_1 : decode method_5_code 1 = .ok (.iload_n 1, 1) := by decide +kernel
theorem own_d6_2 : decode method_5_code 2 = .ok (.isub, 1) := by decide +kernel
theorem own_d6_3 : decode method_5_code 3 = .ok (.iload_n 2, 1) := by decide +kernel
theorem own_d6_4 : decode method_5_code 4 = .ok (.imul, 1) := by decide +kernel
theorem own_d6_5 : decode method_5_code 5 = .ok (.iconst 3, 1) := by decide +kernel
theorem own_d6_6 : decode method_5_code 6 = .ok (.iand, 1) := by decide +kernel
theorem own_d6_7 : decode method_5_code 7 = .ok (.istore 16, 2) := by decide +kernel
theorem own_d6_9 : decode method_5_code 9 = .ok (.iload 16, 2) := by decide +kernel
theorem own_d6_11 : decode method_5_code 11 = .ok (.iload_n 3, 1) := by decide +kernel
theorem own_d6_12 : decode method_5_code 12 = .ok (.if_icmp .lt 6, 3) := by decide +kernel
theorem own_d6_15 : decode method_5_code 15 = .ok (.dload 4, 2) := by decide +kernel
theorem own_d6_17 : decode method_5_code 17 = .ok (.dreturn, 1) := by decide +kernel
theorem own_d6_18 : decode method_5_code 18 = .ok (.iload 16, 2) := by decide +kernel
theorem own_d6_20 : decode method_5_code 20 = .ok (.ifCond .ne 8, 3) := by decide +kernel
theorem own_d6_23 : decode method_5_code 23 = .ok (.dload 8, 2) := by decide +kernel
theorem own_d6_25 : decode method_5_code 25 = .ok (.goto 27, 3) := by decide +kernel
theorem own_d6_28 : decode method_5_code 28 = .ok (.iload 16, 2) := by decide +kernel
theorem own_d6_30 : decode method_5_code 30 = .ok (.iconst 1, 1) := by decide +kernel
theorem own_d6_31 : decode method_5_code 31 = .ok (.if_icmp .ne 8, 3) := by decide +kernel
theorem own_d6_34 : decode method_5_code 34 = .ok (.dload 10, 2) := by decide +kernel
theorem own_d6_36 : decode method_5_code 36 = .ok (.goto 16, 3) := by decide +kernel
theorem own_d6_39 : decode method_5_code 39 = .ok (.iload 16, 2) := by decide +kernel
theorem own_d6_41 : decode method_5_code 41 = .ok (.iconst 2, 1) := by decide +kernel
theorem own_d6_42 : decode method_5_code 42 = .ok (.if_icmp .ne 8, 3) := by decide +kernel
theorem own_d6_45 : decode method_5_code 45 = .ok (.dload 12, 2) := by decide +kernel
theorem own_d6_47 : decode method_5_code 47 = .ok (.goto 5, 3) := by decide +kernel
theorem own_d6_50 : decode method_5_code 50 = .ok (.dload 14, 2) := by decide +kernel
theorem own_d6_52 : decode method_5_code 52 = .ok (.dstore 17, 2) := by decide +kernel
theorem own_d6_54 : decode method_5_code 54 = .ok (.dload 4, 2) := by decide +kernel
theorem own_d6_56 : decode method_5_code 56 = .ok (.dload 6, 2) := by decide +kernel
theorem own_d6_58 : decode method_5_code 58 = .ok (.dload 17, 2) := by decide +kernel
theorem own_d6_60 : decode method_5_code 60 = .ok (.dmul, 1) := by decide +kernel
theorem own_d6_61 : decode method_5_code 61 = .ok (.dadd, 1) := by decide +kernel
theorem own_d6_62 : decode method_5_code 62 = .ok (.dreturn, 1) := by decide +kernel
open Jvm.Free.Fl in
theorem own_nan {i u q : UInt64} (hi : Fin64 i) (hu : Fin64 u) (hq : Fin64 q) : NoNaN64 (FP.dadd i (FP.dmul u q)) := dadd_out' hi (dmul_out hu hq)
def own_pick (i : Int32) (q0 q1 q2 q3 : UInt64) : UInt64 := if i = 0 then q0 else if i = 1 then q1 else if i = 2 then q2 else q3
def own_exp (j b d n : Int32) (i u q0 q1 q2 q3 : UInt64) : UInt64 := if ((j - b) * d &&& 3) < n then FP.dadd i (FP.dmul u (own_pick ((j - b) * d &&& 3) q0 q1 q2 q3)) else i
open Jvm.Free.Fl in
theorem own_exp_nn {j b d n : Int32} {i u q0 q1 q2 q3 : UInt64} (hi : Fin64 i) (hu : Fin64 u) (h0 : Fin64 q0) (h1 : Fin64 q1) (h2 : Fin64 q2) (h3 : Fin64 q3) : NoNaN64 (own_exp j b d n i u q0 q1 q2 q3) := by
  unfold own_exp own_pick
  split
  · split
    · exact own_nan hi hu h0
    · split
      · exact own_nan hi hu h1
      · split
        · exact own_nan hi hu h2
        · exact own_nan hi hu h3
  · exact hi.noNaN
theorem own_bq4 {p b : Int32} (h : p &&& 3 = b) : b = 0 ∨ b = 1 ∨ b = 2 ∨ b = 3 := by
  have h1 := c_mask p 3 2 (by decide) (by decide)
  rw [h] at h1
  have : b.toInt = 0 ∨ b.toInt = 1 ∨ b.toInt = 2 ∨ b.toInt = 3 := by omega
  rcases this with q | q | q | q
  · exact Or.inl (Int32.toInt_inj.mp q)
  · exact Or.inr (Or.inl (Int32.toInt_inj.mp q))
  · exact Or.inr (Or.inr (Or.inl (Int32.toInt_inj.mp q)))
  · exact Or.inr (Or.inr (Or.inr (Int32.toInt_inj.mp q)))
theorem own_n5 {p n : Int32} (h : (p &&& 7) % 5 = n) : n = 0 ∨ n = 1 ∨ n = 2 ∨ n = 3 ∨ n = 4 := by
  have h1 := c_mask p 7 3 (by decide) (by decide)
  have h2 := (c_irem (p &&& 7) 5 5 rfl).1 (by rw [h1]; omega)
  rw [h] at h2
  have : n.toInt = 0 ∨ n.toInt = 1 ∨ n.toInt = 2 ∨ n.toInt = 3 ∨ n.toInt = 4 := by omega
  rcases this with q | q | q | q | q
  · exact Or.inl (Int32.toInt_inj.mp q)
  · exact Or.inr (Or.inl (Int32.toInt_inj.mp q))
  · exact Or.inr (Or.inr (Or.inl (Int32.toInt_inj.mp q)))
  · exact Or.inr (Or.inr (Or.inr (Or.inl (Int32.toInt_inj.mp q))))
  · exact Or.inr (Or.inr (Or.inr (Or.inr (Int32.toInt_inj.mp q))))
def own_room1_0 : Room := { frames := 0, cells := 1, slots := 0, locals := 0 }
def own_Q1_0 (Z : State) (b : Int32) (d : Int32) (h0 : Heap) (n0 : Nat) (v : Option Value) (h : Heap) (L : List Loc) : Prop := ∃ (ra : Addr) (rk : ClassId), v = some (.ref ra) ∧ Fr n0 L ∧ Keep h0 h [] ∧ h0.size ≤ ra ∧ Arv Z h ra rk .int (0 : Int32) [] (.int (0 : Int32)) ∧ Exa Z h ra "[I"
theorem own_ef_rm1_0 (m : MethodId) (x0 : Int32) (x1 : Int32) (x2 : Int32) : entryFrame m #[(.int x0), (.int x1), (.int x2)] 7 = mkF m 0 #[.val (.int x0), .val (.int x1), .val (.int x2), .unset, .unset, .unset, .unset] [] := by first | (simp [entryFrame, mkF, argsToLocals, Value.category]; done) | rfl
set_option maxRecDepth 65536 in
set_option maxHeartbeats 40000000 in
theorem own_rm1_0 (lch : Launch) (Z : State) (a0 : Array Value) (hw : ∀ d ∈ tables_1, d.before a0 Z = true) (ws : List Jvm.Cond) (b : Int32) (d : Int32) (h0 : Heap) (n0 : Nat) (Z0 : n0 ≤ h0.size) :
    MetFree lch (⟨"com/example/mapwright/mapwright/ArcLoadsAddToPinLaw", "arcsOf", "(III)[I"⟩ : MethodName) (head1 (Jvm.Cond.code (⟨"com/example/mapwright/mapwright/ArcLoadsAddToPinLaw", "arcsOf", "(III)[I"⟩ : MethodName) method_3_code 7 (some (.array .int)) :: ws) own_room1_0) (fun zz U => zz = #[(.int (0 : Int32)), (.int b), (.int d)] ∧ Z.Warmed39 U.vm ∧ U.heap = h0) (fun _ _ _ _ _ => True) (fun _ U o U' => ∃ v L, o = .returned v ∧ own_Q1_0 Z b d h0 n0 v U'.heap L ∧ FrameEnd U o U' L own_room1_0.cells own_room1_0.slots) := by
  refine MetFree.of_bodySF (plainFor_of_name own_pn0) hisR ?_
  intro prg e s m args below meth c s₁ Bd hml0 hP hK
  obtain ⟨rfl, hZ, hh⟩ := hP
  have hx := Bd.exec
  have hby := Bd.bytes
  have hml : c.maxLocals = 7 := hml0
  have hown : s.vm.findClass "com/example/mapwright/mapwright/ArcLoadsAddToPinLaw" = some m.cls := findClass_of_methodNamed Bd.named
  have hnm := (name_of_methodNamed Bd.named Bd.method).1
  have hlk : meth.locks = false := BodyLoose.notSynchronized Bd
  have hret := Bd.returns
  have X0 : Stand prg lch e own_room1_0 s m #[(.int (0 : Int32)), (.int b), (.int d)] below meth c s₁ [] 0 0 := Stand.of_body Bd
  have e0 : s₁.heap = h0 := by rw [← hh, Bd.state]; rfl
  have N0 := Fr.nil n0
  show own_Ends prg e below s (own_Q1_0 Z b d h0 n0) own_room1_0.cells own_room1_0.slots s₁ (entryFrame m #[(.int (0 : Int32)), (.int b), (.int d)] 7)
  refine own_cast (own_ef_rm1_0 m (0 : Int32) b d) ?_
  have K0 := Keep.refl h0 ([] : List Addr)
  refine own_iloadN (pc' := 1) X0 hx (hb hby own_d1_0) rfl rfl ?_
  refine own_iconst (pc' := 2) (z := (3 : Int32)) X0 hx (hb hby own_d1_1) rfl rfl ?_
  refine own_iand (pc' := 3) (z := (b &&& (3 : Int32))) X0 hx (hb hby own_d1_2) rfl rfl ?_
  refine own_istoreN (pc' := 4) (l' := #[.val (.int (0 : Int32)), .val (.int b), .val (.int d), .val (.int (b &&& (3 : Int32))), .unset, .unset, .unset]) X0 hx (hb hby own_d1_3) rfl rfl ?_
  refine own_iloadN (pc' := 5) X0 hx (hb hby own_d1_4) rfl rfl ?_
  refine own_iloadN (pc' := 6) X0 hx (hb hby own_d1_5) rfl rfl ?_
  refine own_iadd (pc' := 7) (z := (b + d)) X0 hx (hb hby own_d1_6) rfl rfl ?_
  refine own_iconst (pc' := 8) (z := (3 : Int32)) X0 hx (hb hby own_d1_7) rfl rfl ?_
  refine own_iand (pc' := 9) (z := ((b + d) &&& (3 : Int32))) X0 hx (hb hby own_d1_8) rfl rfl ?_
  refine own_istore (pc' := 11) (l' := #[.val (.int (0 : Int32)), .val (.int b), .val (.int d), .val (.int (b &&& (3 : Int32))), .val (.int ((b + d) &&& (3 : Int32))), .unset, .unset]) X0 hx (hb hby own_d1_9) rfl rfl ?_
  refine own_iloadN (pc' := 12) X0 hx (hb hby own_d1_11) rfl rfl ?_
  refine own_iconst (pc' := 13) (z := (2 : Int32)) X0 hx (hb hby own_d1_12) rfl rfl ?_
  refine own_iloadN (pc' := 14) X0 hx (hb hby own_d1_13) rfl rfl ?_
  refine own_imul (pc' := 15) (z := ((2 : Int32) * d)) X0 hx (hb hby own_d1_14) rfl rfl ?_
  refine own_iadd (pc' := 16) (z := (b + ((2 : Int32) * d))) X0 hx (hb hby own_d1_15) rfl rfl ?_
  refine own_iconst (pc' := 17) (z := (3 : Int32)) X0 hx (hb hby own_d1_16) rfl rfl ?_
  refine own_iand (pc' := 18) (z := ((b + ((2 : Int32) * d)) &&& (3 : Int32))) X0 hx (hb hby own_d1_17) rfl rfl ?_
  refine own_istore (pc' := 20) (l' := #[.val (.int (0 : Int32)), .val (.int b), .val (.int d), .val (.int (b &&& (3 : Int32))), .val (.int ((b + d) &&& (3 : Int32))), .val (.int ((b + ((2 : Int32) * d)) &&& (3 : Int32))), .unset]) X0 hx (hb hby own_d1_18) rfl rfl ?_
  refine own_iloadN (pc' := 21) X0 hx (hb hby own_d1_20) rfl rfl ?_
  refine own_iconst (pc' := 22) (z := (3 : Int32)) X0 hx (hb hby own_d1_21) rfl rfl ?_
  refine own_iloadN (pc' := 23) X0 hx (hb hby own_d1_22) rfl rfl ?_
  refine own_imul (pc' := 24) (z := ((3 : Int32) * d)) X0 hx (hb hby own_d1_23) rfl rfl ?_
  refine own_iadd (pc' := 25) (z := (b + ((3 : Int32) * d))) X0 hx (hb hby own_d1_24) rfl rfl ?_
  refine own_iconst (pc' := 26) (z := (3 : Int32)) X0 hx (hb hby own_d1_25) rfl rfl ?_
  refine own_iand (pc' := 27) (z := ((b + ((3 : Int32) * d)) &&& (3 : Int32))) X0 hx (hb hby own_d1_26) rfl rfl ?_
  refine own_istore (pc' := 29) (l' := #[.val (.int (0 : Int32)), .val (.int b), .val (.int d), .val (.int (b &&& (3 : Int32))), .val (.int ((b + d) &&& (3 : Int32))), .val (.int ((b + ((2 : Int32) * d)) &&& (3 : Int32))), .val (.int ((b + ((3 : Int32) * d)) &&& (3 : Int32)))]) X0 hx (hb hby own_d1_27) rfl rfl ?_
  refine own_iloadN (pc' := 30) X0 hx (hb hby own_d1_29) rfl rfl ?_
  refine own_ifNo (pc' := 33) X0 hx (hb hby own_d1_30) rfl (teq (by decide)).2 ?_
  refine own_iconst (pc' := 34) (z := (0 : Int32)) X0 hx (hb hby own_d1_33) rfl rfl ?_
  refine own_newarrE (pc' := 36) (aty := .int) X0 hx hZ (own_w4 hw) e0 (hb hby own_d1_34) rfl (by decide) 0 0 (by decide) (by decide) (by decide) (by decide) (ad := "[I") (by decide) ?_
  intro T31 h31 a31 k31 X31 e31 E31 g31 V31 Ex31
  replace V31 : Arv Z h31 a31 k31 .int (0 : Int32) [] (.int (0 : Int32)) := V31
  have ge32 : n0 ≤ a31 := by rw [g31]; exact Z0
  have sz33 : h0.size ≤ a31 := by rw [g31]; exact K0.1
  show own_Ends prg e below s _ _ _ T31 (mkF m 36 #[.val (.int (0 : Int32)), .val (.int b), .val (.int d), .val (.int (b &&& (3 : Int32))), .val (.int ((b + d) &&& (3 : Int32))), .val (.int ((b + ((2 : Int32) * d)) &&& (3 : Int32))), .val (.int ((b + ((3 : Int32) * d)) &&& (3 : Int32)))] [(.ref a31)])
  refine own_retA X31 hx hlk hret rfl rfl rfl (hb hby own_d1_36) (by decide) (by decide) ?_
  have f34 := (K0.ext E31)
  rw [e31]; exact ⟨_, _, rfl, N0, f34, sz33, V31, Ex31⟩
def own_room2_0 : Room := { frames := 0, cells := 1, slots := 0, locals := 0 }
def own_Q2_0 (Z : State) (q0 : UInt64) (q1 : UInt64) (q2 : UInt64) (q3 : UInt64) (h0 : Heap) (n0 : Nat) (v : Option Value) (h : Heap) (L : List Loc) : Prop := ∃ (ra : Addr) (rk : ClassId), v = some (.ref ra) ∧ Fr n0 L ∧ Keep h0 h [] ∧ h0.size ≤ ra ∧ Arv Z h ra rk .double (0 : Int32) [] (.double 0) ∧ Exa Z h ra "[D"
theorem own_ef_rm2_0 (m : MethodId) (x0 : Int32) (x1 : UInt64) (x2 : UInt64) (x3 : UInt64) (x4 : UInt64) : entryFrame m #[(.int x0), (.double x1), (.double x2), (.double x3), (.double x4)] 9 = mkF m 0 #[.val (.int x0), .val (.double x1), .second, .val (.double x2), .second, .val (.double x3), .second, .val (.double x4), .second] [] := by first | (simp [entryFrame, mkF, argsToLocals, Value.category]; done) | rfl
set_option maxRecDepth 65536 in
set_option maxHeartbeats 40000000 in
theorem own_rm2_0 (lch : Launch) (Z : State) (a0 : Array Value) (hw : ∀ d ∈ tables_1, d.before a0 Z = true) (ws : List Jvm.Cond) (q0 : UInt64) (q1 : UInt64) (q2 : UInt64) (q3 : UInt64) (h0 : Heap) (n0 : Nat) (Z0 : n0 ≤ h0.size) :
    MetFree lch (⟨"com/example/mapwright/mapwright/ArcLoadsAddToPinLaw", "perOf", "(IDDDD)[D"⟩ : MethodName) (head1 (Jvm.Cond.code (⟨"com/example/mapwright/mapwright/ArcLoadsAddToPinLaw", "perOf", "(IDDDD)[D"⟩ : MethodName) method_4_code 9 (some (.array .double)) :: ws) own_room2_0) (fun zz U => zz = #[(.int (0 : Int32)), (.double q0), (.double q1), (.double q2), (.double q3)] ∧ Z.Warmed39 U.vm ∧ U.heap = h0) (fun _ _ _ _ _ => True) (fun _ U o U' => ∃ v L, o = .returned v ∧ own_Q2_0 Z q0 q1 q2 q3 h0 n0 v U'.heap L ∧ FrameEnd U o U' L own_room2_0.cells own_room2_0.slots) := by
  refine MetFree.of_bodySF (plainFor_of_name own_pn0) hisR ?_
  intro prg e s m args below meth c s₁ Bd hml0 hP hK
  obtain ⟨rfl, hZ, hh⟩ := hP
  have hx := Bd.exec
  have hby := Bd.bytes
  have hml : c.maxLocals = 9 := hml0
  have hown : s.vm.findClass "com/example/mapwright/mapwright/ArcLoadsAddToPinLaw" = some m.cls := findClass_of_methodNamed Bd.named
  have hnm := (name_of_methodNamed Bd.named Bd.method).1
  have hlk : meth.locks = false := BodyLoose.notSynchronized Bd
  have hret := Bd.returns
  have X0 : Stand prg lch e own_room2_0 s m #[(.int (0 : Int32)), (.double q0), (.double q1), (.double q2), (.double q3)] below meth c s₁ [] 0 0 := Stand.of_body Bd
  have e0 : s₁.heap = h0 := by rw [← hh, Bd.state]; rfl
  have N0 := Fr.nil n0
  show own_Ends prg e below s (own_Q2_0 Z q0 q1 q2 q3 h0 n0) own_room2_0.cells own_room2_0.slots s₁ (entryFrame m #[(.int (0 : Int32)), (.double q0), (.double q1), (.double q2), (.double q3)] 9)
  refine own_cast (own_ef_rm2_0 m (0 : Int32) q0 q1 q2 q3) ?_
  have K0 := Keep.refl h0 ([] : List Addr)
  refine own_iloadN (pc' := 1) X0 hx (hb hby own_d2_0) rfl rfl ?_
  refine own_ifNo (pc' := 4) X0 hx (hb hby own_d2_1) rfl (teq (by decide)).2 ?_
  refine own_iconst (pc' := 5) (z := (0 : Int32)) X0 hx (hb hby own_d2_4) rfl rfl ?_
  refine own_newarrE (pc' := 7) (aty := .double) X0 hx hZ (own_w8 hw) e0 (hb hby own_d2_5) rfl (by decide) 0 0 (by decide) (by decide) (by decide) (by decide) (ad := "[D") (by decide) ?_
  intro T31 h31 a31 k31 X31 e31 E31 g31 V31 Ex31
  replace V31 : Arv Z h31 a31 k31 .double (0 : Int32) [] (.double 0) := V31
  have ge32 : n0 ≤ a31 := by rw [g31]; exact Z0
  have sz33 : h0.size ≤ a31 := by rw [g31]; exact K0.1
  show own_Ends prg e below s _ _ _ T31 (mkF m 7 #[.val (.int (0 : Int32)), .val (.double q0), .second, .val (.double q1), .second, .val (.double q2), .second, .val (.double q3), .second] [(.ref a31)])
  refine own_retA X31 hx hlk hret rfl rfl rfl (hb hby own_d2_7) (by decide) (by decide) ?_
  have f34 := (K0.ext E31)
  rw [e31]; exact ⟨_, _, rfl, N0, f34, sz33, V31, Ex31⟩
def own_room1_1 : Room := { frames := 0, cells := 1, slots := 1, locals := 0 }
def own_Q1_1 (Z : State) (b : Int32) (d : Int32) (h0 : Heap) (n0 : Nat) (v : Option Value) (h : Heap) (L : List Loc) : Prop := ∃ (ra : Addr) (rk : ClassId), v = some (.ref ra) ∧ Fr n0 L ∧ Keep h0 h [] ∧ h0.size ≤ ra ∧ Arv Z h ra rk .int (1 : Int32) [(.int (b &&& (3 : Int32)))] (.int (0 : Int32)) ∧ Exa Z h ra "[I"
theorem own_ef_rm1_1 (m : MethodId) (x0 : Int32) (x1 : Int32) (x2 : Int32) : entryFrame m #[(.int x0), (.int x1), (.int x2)] 7 = mkF m 0 #[.val (.int x0), .val (.int x1), .val (.int x2), .unset, .unset, .unset, .unset] [] := by first | (simp [entryFrame, mkF, argsToLocals, Value.category]; done) | rfl
set_option maxRecDepth 65536 in
set_option maxHeartbeats 40000000 in
theorem own_rm1_1 (lch : Launch) (Z : State) (a0 : Array Value) (hw : ∀ d ∈ tables_1, d.before a0 Z = true) (ws : List Jvm.Cond) (b : Int32) (d : Int32) (h0 : Heap) (n0 : Nat) (Z0 : n0 ≤ h0.size) :
    MetFree lch (⟨"com/example/mapwright/mapwright/ArcLoadsAddToPinLaw", "arcsOf", "(III)[I"⟩ : MethodName) (head1 (Jvm.Cond.code (⟨"com/example/mapwright/mapwright/ArcLoadsAddToPinLaw", "arcsOf", "(III)[I"⟩ : MethodName) method_3_code 7 (some (.array .int)) :: ws) own_room1_1) (fun zz U => zz = #[(.int (1 : Int32)), (.int b), (.int d)] ∧ Z.Warmed39 U.vm ∧ U.heap = h0) (fun _ _ _ _ _ => True) (fun _ U o U' => ∃ v L, o = .returned v ∧ own_Q1_1 Z b d h0 n0 v U'.heap L ∧ FrameEnd U o U' L own_room1_1.cells own_room1_1.slots) := by
  refine MetFree.of_bodySF (plainFor_of_name own_pn0) hisR ?_
  intro prg e s m args below meth c s₁ Bd hml0 hP hK
  obtain ⟨rfl, hZ, hh⟩ := hP
  have hx := Bd.exec
  have hby := Bd.bytes
  have hml : c.maxLocals = 7 := hml0
  have hown : s.vm.findClass "com/example/mapwright/mapwright/ArcLoadsAddToPinLaw" = some m.cls := findClass_of_methodNamed Bd.named
  have hnm := (name_of_methodNamed Bd.named Bd.method).1
  have hlk : meth.locks = false := BodyLoose.notSynchronized Bd
  have hret := Bd.returns
  have X0 : Stand prg lch e own_room1_1 s m #[(.int (1 : Int32)), (.int b), (.int d)] below meth c s₁ [] 0 0 := Stand.of_body Bd
  have e0 : s₁.heap = h0 := by rw [← hh, Bd.state]; rfl
  have N0 := Fr.nil n0
  show own_Ends prg e below s (own_Q1_1 Z b d h0 n0) own_room1_1.cells own_room1_1.slots s₁ (entryFrame m #[(.int (1 : Int32)), (.int b), (.int d)] 7)
  refine own_cast (own_ef_rm1_1 m (1 : Int32) b d) ?_
  have K0 := Keep.refl h0 ([] : List Addr)
  refine own_iloadN (pc' := 1) X0 hx (hb hby own_d1_0) rfl rfl ?_
  refine own_iconst (pc' := 2) (z := (3 : Int32)) X0 hx (hb hby own_d1_1) rfl rfl ?_
  refine own_iand (pc' := 3) (z := (b &&& (3 : Int32))) X0 hx (hb hby own_d1_2) rfl rfl ?_
  refine own_istoreN (pc' := 4) (l' := #[.val (.int (1 : Int32)), .val (.int b), .val (.int d), .val (.int (b &&& (3 : Int32))), .unset, .unset, .unset]) X0 hx (hb hby own_d1_3) rfl rfl ?_
  refine own_iloadN (pc' := 5) X0 hx (hb hby own_d1_4) rfl rfl ?_
  refine own_iloadN (pc' := 6) X0 hx (hb hby own_d1_5) rfl rfl ?_
  refine own_iadd (pc' := 7) (z := (b + d)) X0 hx (hb hby own_d1_6) rfl rfl ?_
  refine own_iconst (pc' := 8) (z := (3 : Int32)) X0 hx (hb hby own_d1_7) rfl rfl ?_
  refine own_iand (pc' := 9) (z := ((b + d) &&& (3 : Int32))) X0 hx (hb hby own_d1_8) rfl rfl ?_
  refine own_istore (pc' := 11) (l' := #[.val (.int (1 : Int32)), .val (.int b), .val (.int d), .val (.int (b &&& (3 : Int32))), .val (.int ((b + d) &&& (3 : Int32))), .unset, .unset]) X0 hx (hb hby own_d1_9) rfl rfl ?_
  refine own_iloadN (pc' := 12) X0 hx (hb hby own_d1_11) rfl rfl ?_
  refine own_iconst (pc' := 13) (z := (2 : Int32)) X0 hx (hb hby own_d1_12) rfl rfl ?_
  refine own_iloadN (pc' := 14) X0 hx (hb hby own_d1_13) rfl rfl ?_
  refine own_imul (pc' := 15) (z := ((2 : Int32) * d)) X0 hx (hb hby own_d1_14) rfl rfl ?_
  refine own_iadd (pc' := 16) (z := (b + ((2 : Int32) * d))) X0 hx (hb hby own_d1_15) rfl rfl ?_
  refine own_iconst (pc' := 17) (z := (3 : Int32)) X0 hx (hb hby own_d1_16) rfl rfl ?_
  refine own_iand (pc' := 18) (z := ((b + ((2 : Int32) * d)) &&& (3 : Int32))) X0 hx (hb hby own_d1_17) rfl rfl ?_
  refine own_istore (pc' := 20) (l' := #[.val (.int (1 : Int32)), .val (.int b), .val (.int d), .val (.int (b &&& (3 : Int32))), .val (.int ((b + d) &&& (3 : Int32))), .val (.int ((b + ((2 : Int32) * d)) &&& (3 : Int32))), .unset]) X0 hx (hb hby own_d1_18) rfl rfl ?_
  refine own_iloadN (pc' := 21) X0 hx (hb hby own_d1_20) rfl rfl ?_
  refine own_iconst (pc' := 22) (z := (3 : Int32)) X0 hx (hb hby own_d1_21) rfl rfl ?_
  refine own_iloadN (pc' := 23) X0 hx (hb hby own_d1_22) rfl rfl ?_
  refine own_imul (pc' := 24) (z := ((3 : Int32) * d)) X0 hx (hb hby own_d1_23) rfl rfl ?_
  refine own_iadd (pc' := 25) (z := (b + ((3 : Int32) * d))) X0 hx (hb hby own_d1_24) rfl rfl ?_
  refine own_iconst (pc' := 26) (z := (3 : Int32)) X0 hx (hb hby own_d1_25) rfl rfl ?_
  refine own_iand (pc' := 27) (z := ((b + ((3 : Int32) * d)) &&& (3 : Int32))) X0 hx (hb hby own_d1_26) rfl rfl ?_
  refine own_istore (pc' := 29) (l' := #[.val (.int (1 : Int32)), .val (.int b), .val (.int d), .val (.int (b &&& (3 : Int32))), .val (.int ((b + d) &&& (3 : Int32))), .val (.int ((b + ((2 : Int32) * d)) &&& (3 : Int32))), .val (.int ((b + ((3 : Int32) * d)) &&& (3 : Int32)))]) X0 hx (hb hby own_d1_27) rfl rfl ?_
  refine own_iloadN (pc' := 30) X0 hx (hb hby own_d1_29) rfl rfl ?_
  refine own_ifYes (pc' := 37) X0 hx (hb hby own_d1_30) (feq (by decide)).2 (by decide) (by decide) ?_
  refine own_iloadN (pc' := 38) X0 hx (hb hby own_d1_37) rfl rfl ?_
  refine own_iconst (pc' := 39) (z := (1 : Int32)) X0 hx (hb hby own_d1_38) rfl rfl ?_
  refine own_icmpNo (pc' := 42) X0 hx (hb hby own_d1_39) rfl (teq (by decide)).2 ?_
  refine own_iconst (pc' := 43) (z := (1 : Int32)) X0 hx (hb hby own_d1_42) rfl rfl ?_
  refine own_newarrE (pc' := 45) (aty := .int) X0 hx hZ (own_w4 hw) e0 (hb hby own_d1_43) rfl (by decide) 1 1 (by decide) (by decide) (by decide) (by decide) (ad := "[I") (by decide) ?_
  intro T31 h31 a31 k31 X31 e31 E31 g31 V31 Ex31
  replace V31 : Arv Z h31 a31 k31 .int (1 : Int32) [(.int (0 : Int32))] (.int (0 : Int32)) := V31
  have ge32 : n0 ≤ a31 := by rw [g31]; exact Z0
  have sz33 : h0.size ≤ a31 := by rw [g31]; exact K0.1
  show own_Ends prg e below s _ _ _ T31 (mkF m 45 #[.val (.int (1 : Int32)), .val (.int b), .val (.int d), .val (.int (b &&& (3 : Int32))), .val (.int ((b + d) &&& (3 : Int32))), .val (.int ((b + ((2 : Int32) * d)) &&& (3 : Int32))), .val (.int ((b + ((3 : Int32) * d)) &&& (3 : Int32)))] [(.ref a31)])
  refine own_dup (pc' := 46) X31 hx (hb hby own_d1_45) rfl rfl ?_
  refine own_iconst (pc' := 47) (z := (0 : Int32)) X31 hx (hb hby own_d1_46) rfl rfl ?_
  refine own_iloadN (pc' := 48) X31 hx (hb hby own_d1_47) rfl rfl ?_
  refine own_iastore (pc' := 49) X31 hx hZ e31 V31 (hb hby own_d1_48) rfl (by decide) 0 rfl (by simp) N0 ge32 ?_
  intro T34 h34 L34 X34 e34 N34 W34 V34
  replace V34 : Arv Z h34 a31 k31 .int (1 : Int32) [(.int (b &&& (3 : Int32)))] (.int (0 : Int32)) := V34
  show own_Ends prg e below s _ _ _ T34 (mkF m 49 #[.val (.int (1 : Int32)), .val (.int b), .val (.int d), .val (.int (b &&& (3 : Int32))), .val (.int ((b + d) &&& (3 : Int32))), .val (.int ((b + ((2 : Int32) * d)) &&& (3 : Int32))), .val (.int ((b + ((3 : Int32) * d)) &&& (3 : Int32)))] [(.ref a31)])
  refine own_retA X34 hx hlk hret rfl rfl rfl (hb hby own_d1_49) (by decide) (by decide) ?_
  have f35 := ((K0.ext E31).wr W34 (Or.inr sz33))
  have f36 := (Ex31.wr W34)
  rw [e34]; exact ⟨_, _, rfl, N34, f35, sz33, V34, f36⟩
def own_room2_1 : Room := { frames := 0, cells := 1, slots := 1, locals := 0 }
def own_Q2_1 (Z : State) (q0 : UInt64) (q1 : UInt64) (q2 : UInt64) (q3 : UInt64) (h0 : Heap) (n0 : Nat) (v : Option Value) (h : Heap) (L : List Loc) : Prop := ∃ (ra : Addr) (rk : ClassId), v = some (.ref ra) ∧ Fr n0 L ∧ Keep h0 h [] ∧ h0.size ≤ ra ∧ Arv Z h ra rk .double (1 : Int32) [(.double q0)] (.double 0) ∧ Exa Z h ra "[D"
theorem own_ef_rm2_1 (m : MethodId) (x0 : Int32) (x1 : UInt64) (x2 : UInt64) (x3 : UInt64) (x4 : UInt64) : entryFrame m #[(.int x0), (.double x1), (.double x2), (.double x3), (.double x4)] 9 = mkF m 0 #[.val (.int x0), .val (.double x1), .second, .val (.double x2), .second, .val (.double x3), .second, .val (.double x4), .second] [] := by first | (simp [entryFrame, mkF, argsToLocals, Value.category]; done) | rfl
set_option maxRecDepth 65536 in
set_option maxHeartbeats 40000000 in
theorem own_rm2_1 (lch : Launch) (Z : State) (a0 : Array Value) (hw : ∀ d ∈ tables_1, d.before a0 Z = true) (ws : List Jvm.Cond) (q0 : UInt64) (q1 : UInt64) (q2 : UInt64) (q3 : UInt64) (h0 : Heap) (n0 : Nat) (Z0 : n0 ≤ h0.size) :
    MetFree lch (⟨"com/example/mapwright/mapwright/ArcLoadsAddToPinLaw", "perOf", "(IDDDD)[D"⟩ : MethodName) (head1 (Jvm.Cond.code (⟨"com/example/mapwright/mapwright/ArcLoadsAddToPinLaw", "perOf", "(IDDDD)[D"⟩ : MethodName) method_4_code 9 (some (.array .double)) :: ws) own_room2_1) (fun zz U => zz = #[(.int (1 : Int32)), (.double q0), (.double q1), (.double q2), (.double q3)] ∧ Z.Warmed39 U.vm ∧ U.heap = h0) (fun _ _ _ _ _ => True) (fun _ U o U' => ∃ v L, o = .returned v ∧ own_Q2_1 Z q0 q1 q2 q3 h0 n0 v U'.heap L ∧ FrameEnd U o U' L own_room2_1.cells own_room2_1.slots) := by
  refine MetFree.of_bodySF (plainFor_of_name own_pn0) hisR ?_
  intro prg e s m args below meth c s₁ Bd hml0 hP hK
  obtain ⟨rfl, hZ, hh⟩ := hP
  have hx := Bd.exec
  have hby := Bd.bytes
  have hml : c.maxLocals = 9 := hml0
  have hown : s.vm.findClass "com/example/mapwright/mapwright/ArcLoadsAddToPinLaw" = some m.cls := findClass_of_methodNamed Bd.named
  have hnm := (name_of_methodNamed Bd.named Bd.method).1
  have hlk : meth.locks = false := BodyLoose.notSynchronized Bd
  have hret := Bd.returns
  have X0 : Stand prg lch e own_room2_1 s m #[(.int (1 : Int32)), (.double q0), (.double q1), (.double q2), (.double q3)] below meth c s₁ [] 0 0 := Stand.of_body Bd
  have e0 : s₁.heap = h0 := by rw [← hh, Bd.state]; rfl
  have N0 := Fr.nil n0
  show own_Ends prg e below s (own_Q2_1 Z q0 q1 q2 q3 h0 n0) own_room2_1.cells own_room2_1.slots s₁ (entryFrame m #[(.int (1 : Int32)), (.double q0), (.double q1), (.double q2), (.double q3)] 9)
  refine own_cast (own_ef_rm2_1 m (1 : Int32) q0 q1 q2 q3) ?_
  have K0 := Keep.refl h0 ([] : List Addr)
  refine own_iloadN (pc' := 1) X0 hx (hb hby own_d2_0) rfl rfl ?_
  refine own_ifYes (pc' := 8) X0 hx (hb hby own_d2_1) (feq (by decide)).2 (by decide) (by decide) ?_
  refine own_iloadN (pc' := 9) X0 hx (hb hby own_d2_8) rfl rfl ?_
  refine own_iconst (pc' := 10) (z := (1 : Int32)) X0 hx (hb hby own_d2_9) rfl rfl ?_
  refine own_icmpNo (pc' := 13) X0 hx (hb hby own_d2_10) rfl (teq (by decide)).2 ?_
  refine own_iconst (pc' := 14) (z := (1 : Int32)) X0 hx (hb hby own_d2_13) rfl rfl ?_
  refine own_newarrE (pc' := 16) (aty := .double) X0 hx hZ (own_w8 hw) e0 (hb hby own_d2_14) rfl (by decide) 1 1 (by decide) (by decide) (by decide) (by decide) (ad := "[D") (by decide) ?_
  intro T31 h31 a31 k31 X31 e31 E31 g31 V31 Ex31
  replace V31 : Arv Z h31 a31 k31 .double (1 : Int32) [(.double 0)] (.double 0) := V31
  have ge32 : n0 ≤ a31 := by rw [g31]; exact Z0
  have sz33 : h0.size ≤ a31 := by rw [g31]; exact K0.1
  show own_Ends prg e below s _ _ _ T31 (mkF m 16 #[.val (.int (1 : Int32)), .val (.double q0), .second, .val (.double q1), .second, .val (.double q2), .second, .val (.double q3), .second] [(.ref a31)])
  refine own_dup (pc' := 17) X31 hx (hb hby own_d2_16) rfl rfl ?_
  refine own_iconst (pc' := 18) (z := (0 : Int32)) X31 hx (hb hby own_d2_17) rfl rfl ?_
  refine own_dloadN (pc' := 19) X31 hx (hb hby own_d2_18) rfl rfl ?_
  refine own_dastore (pc' := 20) X31 hx hZ e31 V31 (hb hby own_d2_19) rfl (by decide) 0 rfl (by simp) N0 ge32 ?_
  intro T34 h34 L34 X34 e34 N34 W34 V34
  replace V34 : Arv Z h34 a31 k31 .double (1 : Int32) [(.double q0)] (.double 0) := V34
  show own_Ends prg e below s _ _ _ T34 (mkF m 20 #[.val (.int (1 : Int32)), .val (.double q0), .second, .val (.double q1), .second, .val (.double q2), .second, .val (.double q3), .second] [(.ref a31)])
  refine own_retA X34 hx hlk hret rfl rfl rfl (hb hby own_d2_20) (by decide) (by decide) ?_
  have f35 := ((K0.ext E31).wr W34 (Or.inr sz33))
  have f36 := (Ex31.wr W34)
  rw [e34]; exact ⟨_, _, rfl, N34, f35, sz33, V34, f36⟩
def own_room1_2 : Room := { frames := 0, cells := 1, slots := 2, locals := 0 }
def own_Q1_2 (Z : State) (b : Int32) (d : Int32) (h0 : Heap) (n0 : Nat) (v : Option Value) (h : Heap) (L : List Loc) : Prop := ∃ (ra : Addr) (rk : ClassId), v = some (.ref ra) ∧ Fr n0 L ∧ Keep h0 h [] ∧ h0.size ≤ ra ∧ Arv Z h ra rk .int (2 : Int32) [(.int (b &&& (3 : Int32))), (.int ((b + d) &&& (3 : Int32)))] (.int (0 : Int32)) ∧ Exa Z h ra "[I"
theorem own_ef_rm1_2 (m : MethodId) (x0 : Int32) (x1 : Int32) (x2 : Int32) : entryFrame m #[(.int x0), (.int x1), (.int x2)] 7 = mkF m 0 #[.val (.int x0), .val (.int x1), .val (.int x2), .unset, .unset, .unset, .unset] [] := by first | (simp [entryFrame, mkF, argsToLocals, Value.category]; done) | rfl
set_option maxRecDepth 65536 in
set_option maxHeartbeats 40000000 in
theorem own_rm1_2 (lch : Launch) (Z : State) (a0 : Array Value) (hw : ∀ d ∈ tables_1, d.before a0 Z = true) (ws : List Jvm.Cond) (b : Int32) (d : Int32) (h0 : Heap) (n0 : Nat) (Z0 : n0 ≤ h0.size) :
    MetFree lch (⟨"com/example/mapwright/mapwright/ArcLoadsAddToPinLaw", "arcsOf", "(III)[I"⟩ : MethodName) (head1 (Jvm.Cond.code (⟨"com/example/mapwright/mapwright/ArcLoadsAddToPinLaw", "arcsOf", "(III)[I"⟩ : MethodName) method_3_code 7 (some (.array .int)) :: ws) own_room1_2) (fun zz U => zz = #[(.int (2 : Int32)), (.int b), (.int d)] ∧ Z.Warmed39 U.vm ∧ U.heap = h0) (fun _ _ _ _ _ => True) (fun _ U o U' => ∃ v L, o = .returned v ∧ own_Q1_2 Z b d h0 n0 v U'.heap L ∧ FrameEnd U o U' L own_room1_2.cells own_room1_2.slots) := by
  refine MetFree.of_bodySF (plainFor_of_name own_pn0) hisR ?_
  intro prg e s m args below meth c s₁ Bd hml0 hP hK
  obtain ⟨rfl, hZ, hh⟩ := hP
  have hx := Bd.exec
  have hby := Bd.bytes
  have hml : c.maxLocals = 7 := hml0
  have hown : s.vm.findClass "com/example/mapwright/mapwright/ArcLoadsAddToPinLaw" = some m.cls := findClass_of_methodNamed Bd.named
  have hnm := (name_of_methodNamed Bd.named Bd.method).1
  have hlk : meth.locks = false := BodyLoose.notSynchronized Bd
  have hret := Bd.returns
  have X0 : Stand prg lch e own_room1_2 s m #[(.int (2 : Int32)), (.int b), (.int d)] below meth c s₁ [] 0 0 := Stand.of_body Bd
  have e0 : s₁.heap = h0 := by rw [← hh, Bd.state]; rfl
  have N0 := Fr.nil n0
  show own_Ends prg e below s (own_Q1_2 Z b d h0 n0) own_room1_2.cells own_room1_2.slots s₁ (entryFrame m #[(.int (2 : Int32)), (.int b), (.int d)] 7)
  refine own_cast (own_ef_rm1_2 m (2 : Int32) b d) ?_
  have K0 := Keep.refl h0 ([] : List Addr)
  refine own_iloadN (pc' := 1) X0 hx (hb hby own_d1_0) rfl rfl ?_
  refine own_iconst (pc' := 2) (z := (3 : Int32)) X0 hx (hb hby own_d1_1) rfl rfl ?_
  refine own_iand (pc' := 3) (z := (b &&& (3 : Int32))) X0 hx (hb hby own_d1_2) rfl rfl ?_
  refine own_istoreN (pc' := 4) (l' := #[.val (.int (2 : Int32)), .val (.int b), .val (.int d), .val (.int (b &&& (3 : Int32))), .unset, .unset, .unset]) X0 hx (hb hby own_d1_3) rfl rfl ?_
  refine own_iloadN (pc' := 5) X0 hx (hb hby own_d1_4) rfl rfl ?_
  refine own_iloadN (pc' := 6) X0 hx (hb hby own_d1_5) rfl rfl ?_
  refine own_iadd (pc' := 7) (z := (b + d)) X0 hx (hb hby own_d1_6) rfl rfl ?_
  refine own_iconst (pc' := 8) (z := (3 : Int32)) X0 hx (hb hby own_d1_7) rfl rfl ?_
  refine own_iand (pc' := 9) (z := ((b + d) &&& (3 : Int32))) X0 hx (hb hby own_d1_8) rfl rfl ?_
  refine own_istore (pc' := 11) (l' := #[.val (.int (2 : Int32)), .val (.int b), .val (.int d), .val (.int (b &&& (3 : Int32))), .val (.int ((b + d) &&& (3 : Int32))), .unset, .unset]) X0 hx (hb hby own_d1_9) rfl rfl ?_
  refine own_iloadN (pc' := 12) X0 hx (hb hby own_d1_11) rfl rfl ?_
  refine own_iconst (pc' := 13) (z := (2 : Int32)) X0 hx (hb hby own_d1_12) rfl rfl ?_
  refine own_iloadN (pc' := 14) X0 hx (hb hby own_d1_13) rfl rfl ?_
  refine own_imul (pc' := 15) (z := ((2 : Int32) * d)) X0 hx (hb hby own_d1_14) rfl rfl ?_
  refine own_iadd (pc' := 16) (z := (b + ((2 : Int32) * d))) X0 hx (hb hby own_d1_15) rfl rfl ?_
  refine own_iconst (pc' := 17) (z := (3 : Int32)) X0 hx (hb hby own_d1_16) rfl rfl ?_
  refine own_iand (pc' := 18) (z := ((b + ((2 : Int32) * d)) &&& (3 : Int32))) X0 hx (hb hby own_d1_17) rfl rfl ?_
  refine own_istore (pc' := 20) (l' := #[.val (.int (2 : Int32)), .val (.int b), .val (.int d), .val (.int (b &&& (3 : Int32))), .val (.int ((b + d) &&& (3 : Int32))), .val (.int ((b + ((2 : Int32) * d)) &&& (3 : Int32))), .unset]) X0 hx (hb hby own_d1_18) rfl rfl ?_
  refine own_iloadN (pc' := 21) X0 hx (hb hby own_d1_20) rfl rfl ?_
  refine own_iconst (pc' := 22) (z := (3 : Int32)) X0 hx (hb hby own_d1_21) rfl rfl ?_
  refine own_iloadN (pc' := 23) X0 hx (hb hby own_d1_22) rfl rfl ?_
  refine own_imul (pc' := 24) (z := ((3 : Int32) * d)) X0 hx (hb hby own_d1_23) rfl rfl ?_
  refine own_iadd (pc' := 25) (z := (b + ((3 : Int32) * d))) X0 hx (hb hby own_d1_24) rfl rfl ?_
  refine own_iconst (pc' := 26) (z := (3 : Int32)) X0 hx (hb hby own_d1_25) rfl rfl ?_
  refine own_iand (pc' := 27) (z := ((b + ((3 : Int32) * d)) &&& (3 : Int32))) X0 hx (hb hby own_d1_26) rfl rfl ?_
  refine own_istore (pc' := 29) (l' := #[.val (.int (2 : Int32)), .val (.int b), .val (.int d), .val (.int (b &&& (3 : Int32))), .val (.int ((b + d) &&& (3 : Int32))), .val (.int ((b + ((2 : Int32) * d)) &&& (3 : Int32))), .val (.int ((b + ((3 : Int32) * d)) &&& (3 : Int32)))]) X0 hx (hb hby own_d1_27) rfl rfl ?_
  refine own_iloadN (pc' := 30) X0 hx (hb hby own_d1_29) rfl rfl ?_
  refine own_ifYes (pc' := 37) X0 hx (hb hby own_d1_30) (feq (by decide)).2 (by decide) (by decide) ?_
  refine own_iloadN (pc' := 38) X0 hx (hb hby own_d1_37) rfl rfl ?_
  refine own_iconst (pc' := 39) (z := (1 : Int32)) X0 hx (hb hby own_d1_38) rfl rfl ?_
  refine own_icmpYes (pc' := 50) X0 hx (hb hby own_d1_39) (feq (by decide)).2 (by decide) (by decide) ?_
  refine own_iloadN (pc' := 51) X0 hx (hb hby own_d1_50) rfl rfl ?_
  refine own_iconst (pc' := 52) (z := (2 : Int32)) X0 hx (hb hby own_d1_51) rfl rfl ?_
  refine own_icmpNo (pc' := 55) X0 hx (hb hby own_d1_52) rfl (teq (by decide)).2 ?_
  refine own_iconst (pc' := 56) (z := (2 : Int32)) X0 hx (hb hby own_d1_55) rfl rfl ?_
  refine own_newarrE (pc' := 58) (aty := .int) X0 hx hZ (own_w4 hw) e0 (hb hby own_d1_56) rfl (by decide) 2 2 (by decide) (by decide) (by decide) (by decide) (ad := "[I") (by decide) ?_
  intro T31 h31 a31 k31 X31 e31 E31 g31 V31 Ex31
  replace V31 : Arv Z h31 a31 k31 .int (2 : Int32) [(.int (0 : Int32)), (.int (0 : Int32))] (.int (0 : Int32)) := V31
  have ge32 : n0 ≤ a31 := by rw [g31]; exact Z0
  have sz33 : h0.size ≤ a31 := by rw [g31]; exact K0.1
  show own_Ends prg e below s _ _ _ T31 (mkF m 58 #[.val (.int (2 : Int32)), .val (.int b), .val (.int d), .val (.int (b &&& (3 : Int32))), .val (.int ((b + d) &&& (3 : Int32))), .val (.int ((b + ((2 : Int32) * d)) &&& (3 : Int32))), .val (.int ((b + ((3 : Int32) * d)) &&& (3 : Int32)))] [(.ref a31)])
  refine own_dup (pc' := 59) X31 hx (hb hby own_d1_58) rfl rfl ?_
  refine own_iconst (pc' := 60) (z := (0 : Int32)) X31 hx (hb hby own_d1_59) rfl rfl ?_
  refine own_iloadN (pc' := 61) X31 hx (hb hby own_d1_60) rfl rfl ?_
  refine own_iastore (pc' := 62) X31 hx hZ e31 V31 (hb hby own_d1_61) rfl (by decide) 0 rfl (by simp) N0 ge32 ?_
  intro T34 h34 L34 X34 e34 N34 W34 V34
  replace V34 : Arv Z h34 a31 k31 .int (2 : Int32) [(.int (b &&& (3 : Int32))), (.int (0 : Int32))] (.int (0 : Int32)) := V34
  show own_Ends prg e below s _ _ _ T34 (mkF m 62 #[.val (.int (2 : Int32)), .val (.int b), .val (.int d), .val (.int (b &&& (3 : Int32))), .val (.int ((b + d) &&& (3 : Int32))), .val (.int ((b + ((2 : Int32) * d)) &&& (3 : Int32))), .val (.int ((b + ((3 : Int32) * d)) &&& (3 : Int32)))] [(.ref a31)])
  refine own_dup (pc' := 63) X34 hx (hb hby own_d1_62) rfl rfl ?_
  refine own_iconst (pc' := 64) (z := (1 : Int32)) X34 hx (hb hby own_d1_63) rfl rfl ?_
  refine own_iload (pc' := 66) X34 hx (hb hby own_d1_64) rfl rfl ?_
  refine own_iastore (pc' := 67) X34 hx hZ e34 V34 (hb hby own_d1_66) rfl (by decide) 1 rfl (by simp) N34 ge32 ?_
  intro T35 h35 L35 X35 e35 N35 W35 V35
  replace V35 : Arv Z h35 a31 k31 .int (2 : Int32) [(.int (b &&& (3 : Int32))), (.int ((b + d) &&& (3 : Int32)))] (.int (0 : Int32)) := V35
  show own_Ends prg e below s _ _ _ T35 (mkF m 67 #[.val (.int (2 : Int32)), .val (.int b), .val (.int d), .val (.int (b &&& (3 : Int32))), .val (.int ((b + d) &&& (3 : Int32))), .val (.int ((b + ((2 : Int32) * d)) &&& (3 : Int32))), .val (.int ((b + ((3 : Int32) * d)) &&& (3 : Int32)))] [(.ref a31)])
  refine own_retA X35 hx hlk hret rfl rfl rfl (hb hby own_d1_67) (by decide) (by decide) ?_
  have f36 := (((K0.ext E31).wr W34 (Or.inr sz33)).wr W35 (Or.inr sz33))
  have f37 := ((Ex31.wr W34).wr W35)
  rw [e35]; exact ⟨_, _, rfl, N35, f36, sz33, V35, f37⟩
def own_room2_2 : Room := { frames := 0, cells := 1, slots := 2, locals := 0 }
def own_Q2_2 (Z : State) (q0 : UInt64) (q1 : UInt64) (q2 : UInt64) (q3 : UInt64) (h0 : Heap) (n0 : Nat) (v : Option Value) (h : Heap) (L : List Loc) : Prop := ∃ (ra : Addr) (rk : ClassId), v = some (.ref ra) ∧ Fr n0 L ∧ Keep h0 h [] ∧ h0.size ≤ ra ∧ Arv Z h ra rk .double (2 : Int32) [(.double q0), (.double q1)] (.double 0) ∧ Exa Z h ra "[D"
theorem own_ef_rm2_2 (m : MethodId) (x0 : Int32) (x1 : UInt64) (x2 : UInt64) (x3 : UInt64) (x4 : UInt64) : entryFrame m #[(.int x0), (.double x1), (.double x2), (.double x3), (.double x4)] 9 = mkF m 0 #[.val (.int x0), .val (.double x1), .second, .val (.double x2), .second, .val (.double x3), .second, .val (.double x4), .second] [] := by first | (simp [entryFrame, mkF, argsToLocals, Value.category]; done) | rfl
set_option maxRecDepth 65536 in
set_option maxHeartbeats 40000000 in
theorem own_rm2_2 (lch : Launch) (Z : State) (a0 : Array Value) (hw : ∀ d ∈ tables_1, d.before a0 Z = true) (ws : List Jvm.Cond) (q0 : UInt64) (q1 : UInt64) (q2 : UInt64) (q3 : UInt64) (h0 : Heap) (n0 : Nat) (Z0 : n0 ≤ h0.size) :
    MetFree lch (⟨"com/example/mapwright/mapwright/ArcLoadsAddToPinLaw", "perOf", "(IDDDD)[D"⟩ : MethodName) (head1 (Jvm.Cond.code (⟨"com/example/mapwright/mapwright/ArcLoadsAddToPinLaw", "perOf", "(IDDDD)[D"⟩ : MethodName) method_4_code 9 (some (.array .double)) :: ws) own_room2_2) (fun zz U => zz = #[(.int (2 : Int32)), (.double q0), (.double q1), (.double q2), (.double q3)] ∧ Z.Warmed39 U.vm ∧ U.heap = h0) (fun _ _ _ _ _ => True) (fun _ U o U' => ∃ v L, o = .returned v ∧ own_Q2_2 Z q0 q1 q2 q3 h0 n0 v U'.heap L ∧ FrameEnd U o U' L own_room2_2.cells own_room2_2.slots) := by
  refine MetFree.of_bodySF (plainFor_of_name own_pn0) hisR ?_
  intro prg e s m args below meth c s₁ Bd hml0 hP hK
  obtain ⟨rfl, hZ, hh⟩ := hP
  have hx := Bd.exec
  have hby := Bd.bytes
  have hml : c.maxLocals = 9 := hml0
  have hown : s.vm.findClass "com/example/mapwright/mapwright/ArcLoadsAddToPinLaw" = some m.cls := findClass_of_methodNamed Bd.named
  have hnm := (name_of_methodNamed Bd.named Bd.method).1
  have hlk : meth.locks = false := BodyLoose.notSynchronized Bd
  have hret := Bd.returns
  have X0 : Stand prg lch e own_room2_2 s m #[(.int (2 : Int32)), (.double q0), (.double q1), (.double q2), (.double q3)] below meth c s₁ [] 0 0 := Stand.of_body Bd
  have e0 : s₁.heap = h0 := by rw [← hh, Bd.state]; rfl
  have N0 := Fr.nil n0
  show own_Ends prg e below s (own_Q2_2 Z q0 q1 q2 q3 h0 n0) own_room2_2.cells own_room2_2.slots s₁ (entryFrame m #[(.int (2 : Int32)), (.double q0), (.double q1), (.double q2), (.double q3)] 9)
  refine own_cast (own_ef_rm2_2 m (2 : Int32) q0 q1 q2 q3) ?_
  have K0 := Keep.refl h0 ([] : List Addr)
  refine own_iloadN (pc' := 1) X0 hx (hb hby own_d2_0) rfl rfl ?_
  refine own_ifYes (pc' := 8) X0 hx (hb hby own_d2_1) (feq (by decide)).2 (by decide) (by decide) ?_
  refine own_iloadN (pc' := 9) X0 hx (hb hby own_d2_8) rfl rfl ?_
  refine own_iconst (pc' := 10) (z := (1 : Int32)) X0 hx (hb hby own_d2_9) rfl rfl ?_
  refine own_icmpYes (pc' := 21) X0 hx (hb hby own_d2_10) (feq (by decide)).2 (by decide) (by decide) ?_
  refine own_iloadN (pc' := 22) X0 hx (hb hby own_d2_21) rfl rfl ?_
  refine own_iconst (pc' := 23) (z := (2 : Int32)) X0 hx (hb hby own_d2_22) rfl rfl ?_
  refine own_icmpNo (pc' := 26) X0 hx (hb hby own_d2_23) rfl (teq (by decide)).2 ?_
  refine own_iconst (pc' := 27) (z := (2 : Int32)) X0 hx (hb hby own_d2_26) rfl rfl ?_
  refine own_newarrE (pc' := 29) (aty := .double) X0 hx hZ (own_w8 hw) e0 (hb hby own_d2_27) rfl (by decide) 2 2 (by decide) (by decide) (by decide) (by decide) (ad := "[D") (by decide) ?_
  intro T31 h31 a31 k31 X31 e31 E31 g31 V31 Ex31
  replace V31 : Arv Z h31 a31 k31 .double (2 : Int32) [(.double 0), (.double 0)] (.double 0) := V31
  have ge32 : n0 ≤ a31 := by rw [g31]; exact Z0
  have sz33 : h0.size ≤ a31 := by rw [g31]; exact K0.1
  show own_Ends prg e below s _ _ _ T31 (mkF m 29 #[.val (.int (2 : Int32)), .val (.double q0), .second, .val (.double q1), .second, .val (.double q2), .second, .val (.double q3), .second] [(.ref a31)])
  refine own_dup (pc' := 30) X31 hx (hb hby own_d2_29) rfl rfl ?_
  refine own_iconst (pc' := 31) (z := (0 : Int32)) X31 hx (hb hby own_d2_30) rfl rfl ?_
  refine own_dloadN (pc' := 32) X31 hx (hb hby own_d2_31) rfl rfl ?_
  refine own_dastore (pc' := 33) X31 hx hZ e31 V31 (hb hby own_d2_32) rfl (by decide) 0 rfl (by simp) N0 ge32 ?_
  intro T34 h34 L34 X34 e34 N34 W34 V34
  replace V34 : Arv Z h34 a31 k31 .double (2 : Int32) [(.double q0), (.double 0)] (.double 0) := V34
  show own_Ends prg e below s _ _ _ T34 (mkF m 33 #[.val (.int (2 : Int32)), .val (.double q0), .second, .val (.double q1), .second, .val (.double q2), .second, .val (.double q3), .second] [(.ref a31)])
  refine own_dup (pc' := 34) X34 hx (hb hby own_d2_33) rfl rfl ?_
  refine own_iconst (pc' := 35) (z := (1 : Int32)) X34 hx (hb hby own_d2_34) rfl rfl ?_
  refine own_dloadN (pc' := 36) X34 hx (hb hby own_d2_35) rfl rfl ?_
  refine own_dastore (pc' := 37) X34 hx hZ e34 V34 (hb hby own_d2_36) rfl (by decide) 1 rfl (by simp) N34 ge32 ?_
  intro T35 h35 L35 X35 e35 N35 W35 V35
  replace V35 : Arv Z h35 a31 k31 .double (2 : Int32) [(.double q0), (.double q1)] (.double 0) := V35
  show own_Ends prg e below s _ _ _ T35 (mkF m 37 #[.val (.int (2 : Int32)), .val (.double q0), .second, .val (.double q1), .second, .val (.double q2), .second, .val (.double q3), .second] [(.ref a31)])
  refine own_retA X35 hx hlk hret rfl rfl rfl (hb hby own_d2_37) (by decide) (by decide) ?_
  have f36 := (((K0.ext E31).wr W34 (Or.inr sz33)).wr W35 (Or.inr sz33))
  have f37 := ((Ex31.wr W34).wr W35)
  rw [e35]; exact ⟨_, _, rfl, N35, f36, sz33, V35, f37⟩
def own_room1_3 : Room := { frames := 0, cells := 1, slots := 3, locals := 0 }
def own_Q1_3 (Z : State) (b : Int32) (d : Int32) (h0 : Heap) (n0 : Nat) (v : Option Value) (h : Heap) (L : List Loc) : Prop := ∃ (ra : Addr) (rk : ClassId), v = some (.ref ra) ∧ Fr n0 L ∧ Keep h0 h [] ∧ h0.size ≤ ra ∧ Arv Z h ra rk .int (3 : Int32) [(.int (b &&& (3 : Int32))), (.int ((b + d) &&& (3 : Int32))), (.int ((b + ((2 : Int32) * d)) &&& (3 : Int32)))] (.int (0 : Int32)) ∧ Exa Z h ra "[I"
theorem own_ef_rm1_3 (m : MethodId) (x0 : Int32) (x1 : Int32) (x2 : Int32) : entryFrame m #[(.int x0), (.int x1), (.int x2)] 7 = mkF m 0 #[.val (.int x0), .val (.int x1), .val (.int x2), .unset, .unset, .unset, .unset] [] := by first | (simp [entryFrame, mkF, argsToLocals, Value.category]; done) | rfl
set_option maxRecDepth 65536 in
set_option maxHeartbeats 40000000 in
theorem own_rm1_3 (lch : Launch) (Z : State) (a0 : Array Value) (hw : ∀ d ∈ tables_1, d.before a0 Z = true) (ws : List Jvm.Cond) (b : Int32) (d : Int32) (h0 : Heap) (n0 : Nat) (Z0 : n0 ≤ h0.size) :
    MetFree lch (⟨"com/example/mapwright/mapwright/ArcLoadsAddToPinLaw", "arcsOf", "(III)[I"⟩ : MethodName) (head1 (Jvm.Cond.code (⟨"com/example/mapwright/mapwright/ArcLoadsAddToPinLaw", "arcsOf", "(III)[I"⟩ : MethodName) method_3_code 7 (some (.array .int)) :: ws) own_room1_3) (fun zz U => zz = #[(.int (3 : Int32)), (.int b), (.int d)] ∧ Z.Warmed39 U.vm ∧ U.heap = h0) (fun _ _ _ _ _ => True) (fun _ U o U' => ∃ v L, o = .returned v ∧ own_Q1_3 Z b d h0 n0 v U'.heap L ∧ FrameEnd U o U' L own_room1_3.cells own_room1_3.slots) := by
  refine MetFree.of_bodySF (plainFor_of_name own_pn0) hisR ?_
  intro prg e s m args below meth c s₁ Bd hml0 hP hK
  obtain ⟨rfl, hZ, hh⟩ := hP
  have hx := Bd.exec
  have hby := Bd.bytes
  have hml : c.maxLocals = 7 := hml0
  have hown : s.vm.findClass "com/example/mapwright/mapwright/ArcLoadsAddToPinLaw" = some m.cls := findClass_of_methodNamed Bd.named
  have hnm := (name_of_methodNamed Bd.named Bd.method).1
  have hlk : meth.locks = false := BodyLoose.notSynchronized Bd
  have hret := Bd.returns
  have X0 : Stand prg lch e own_room1_3 s m #[(.int (3 : Int32)), (.int b), (.int d)] below meth c s₁ [] 0 0 := Stand.of_body Bd
  have e0 : s₁.heap = h0 := by rw [← hh, Bd.state]; rfl
  have N0 := Fr.nil n0
  show own_Ends prg e below s (own_Q1_3 Z b d h0 n0) own_room1_3.cells own_room1_3.slots s₁ (entryFrame m #[(.int (3 : Int32)), (.int b), (.int d)] 7)
  refine own_cast (own_ef_rm1_3 m (3 : Int32) b d) ?_
  have K0 := Keep.refl h0 ([] : List Addr)
  refine own_iloadN (pc' := 1) X0 hx (hb hby own_d1_0) rfl rfl ?_
  refine own_iconst (pc' := 2) (z := (3 : Int32)) X0 hx (hb hby own_d1_1) rfl rfl ?_
  refine own_iand (pc' := 3) (z := (b &&& (3 : Int32))) X0 hx (hb hby own_d1_2) rfl rfl ?_
  refine own_istoreN (pc' := 4) (l' := #[.val (.int (3 : Int32)), .val (.int b), .val (.int d), .val (.int (b &&& (3 : Int32))), .unset, .unset, .unset]) X0 hx (hb hby own_d1_3) rfl rfl ?_
  refine own_iloadN (pc' := 5) X0 hx (hb hby own_d1_4) rfl rfl ?_
  refine own_iloadN (pc' := 6) X0 hx (hb hby own_d1_5) rfl rfl ?_
  refine own_iadd (pc' := 7) (z := (b + d)) X0 hx (hb hby own_d1_6) rfl rfl ?_
  refine own_iconst (pc' := 8) (z := (3 : Int32)) X0 hx (hb hby own_d1_7) rfl rfl ?_
  refine own_iand (pc' := 9) (z := ((b + d) &&& (3 : Int32))) X0 hx (hb hby own_d1_8) rfl rfl ?_
  refine own_istore (pc' := 11) (l' := #[.val (.int (3 : Int32)), .val (.int b), .val (.int d), .val (.int (b &&& (3 : Int32))), .val (.int ((b + d) &&& (3 : Int32))), .unset, .unset]) X0 hx (hb hby own_d1_9) rfl rfl ?_
  refine own_iloadN (pc' := 12) X0 hx (hb hby own_d1_11) rfl rfl ?_
  refine own_iconst (pc' := 13) (z := (2 : Int32)) X0 hx (hb hby own_d1_12) rfl rfl ?_
  refine own_iloadN (pc' := 14) X0 hx (hb hby own_d1_13) rfl rfl ?_
  refine own_imul (pc' := 15) (z := ((2 : Int32) * d)) X0 hx (hb hby own_d1_14) rfl rfl ?_
  refine own_iadd (pc' := 16) (z := (b + ((2 : Int32) * d))) X0 hx (hb hby own_d1_15) rfl rfl ?_
  refine own_iconst (pc' := 17) (z := (3 : Int32)) X0 hx (hb hby own_d1_16) rfl rfl ?_
  refine own_iand (pc' := 18) (z := ((b + ((2 : Int32) * d)) &&& (3 : Int32))) X0 hx (hb hby own_d1_17) rfl rfl ?_
  refine own_istore (pc' := 20) (l' := #[.val (.int (3 : Int32)), .val (.int b), .val (.int d), .val (.int (b &&& (3 : Int32))), .val (.int ((b + d) &&& (3 : Int32))), .val (.int ((b + ((2 : Int32) * d)) &&& (3 : Int32))), .unset]) X0 hx (hb hby own_d1_18) rfl rfl ?_
  refine own_iloadN (pc' := 21) X0 hx (hb hby own_d1_20) rfl rfl ?_
  refine own_iconst (pc' := 22) (z := (3 : Int32)) X0 hx (hb hby own_d1_21) rfl rfl ?_
  refine own_iloadN (pc' := 23) X0 hx (hb hby own_d1_22) rfl rfl ?_
  refine own_imul (pc' := 24) (z := ((3 : Int32) * d)) X0 hx (hb hby own_d1_23) rfl rfl ?_
  refine own_iadd (pc' := 25) (z := (b + ((3 : Int32) * d))) X0 hx (hb hby own_d1_24) rfl rfl ?_
  refine own_iconst (pc' := 26) (z := (3 : Int32)) X0 hx (hb hby own_d1_25) rfl rfl ?_
  refine own_iand (pc' := 27) (z := ((b + ((3 : Int32) * d)) &&& (3 : Int32))) X0 hx (hb hby own_d1_26) rfl rfl ?_
  refine own_istore (pc' := 29) (l' := #[.val (.int (3 : Int32)), .val (.int b), .val (.int d), .val (.int (b &&& (3 : Int32))), .val (.int ((b + d) &&& (3 : Int32))), .val (.int ((b + ((2 : Int32) * d)) &&& (3 : Int32))), .val (.int ((b + ((3 : Int32) * d)) &&& (3 : Int32)))]) X0 hx (hb hby own_d1_27) rfl rfl ?_
  refine own_iloadN (pc' := 30) X0 hx (hb hby own_d1_29) rfl rfl ?_
  refine own_ifYes (pc' := 37) X0 hx (hb hby own_d1_30) (feq (by decide)).2 (by decide) (by decide) ?_
  refine own_iloadN (pc' := 38) X0 hx (hb hby own_d1_37) rfl rfl ?_
  refine own_iconst (pc' := 39) (z := (1 : Int32)) X0 hx (hb hby own_d1_38) rfl rfl ?_
  refine own_icmpYes (pc' := 50) X0 hx (hb hby own_d1_39) (feq (by decide)).2 (by decide) (by decide) ?_
  refine own_iloadN (pc' := 51) X0 hx (hb hby own_d1_50) rfl rfl ?_
  refine own_iconst (pc' := 52) (z := (2 : Int32)) X0 hx (hb hby own_d1_51) rfl rfl ?_
  refine own_icmpYes (pc' := 68) X0 hx (hb hby own_d1_52) (feq (by decide)).2 (by decide) (by decide) ?_
  refine own_iloadN (pc' := 69) X0 hx (hb hby own_d1_68) rfl rfl ?_
  refine own_iconst (pc' := 70) (z := (3 : Int32)) X0 hx (hb hby own_d1_69) rfl rfl ?_
  refine own_icmpNo (pc' := 73) X0 hx (hb hby own_d1_70) rfl (teq (by decide)).2 ?_
  refine own_iconst (pc' := 74) (z := (3 : Int32)) X0 hx (hb hby own_d1_73) rfl rfl ?_
  refine own_newarrE (pc' := 76) (aty := .int) X0 hx hZ (own_w4 hw) e0 (hb hby own_d1_74) rfl (by decide) 3 3 (by decide) (by decide) (by decide) (by decide) (ad := "[I") (by decide) ?_
  intro T31 h31 a31 k31 X31 e31 E31 g31 V31 Ex31
  replace V31 : Arv Z h31 a31 k31 .int (3 : Int32) [(.int (0 : Int32)), (.int (0 : Int32)), (.int (0 : Int32))] (.int (0 : Int32)) := V31
  have ge32 : n0 ≤ a31 := by rw [g31]; exact Z0
  have sz33 : h0.size ≤ a31 := by rw [g31]; exact K0.1
  show own_Ends prg e below s _ _ _ T31 (mkF m 76 #[.val (.int (3 : Int32)), .val (.int b), .val (.int d), .val (.int (b &&& (3 : Int32))), .val (.int ((b + d) &&& (3 : Int32))), .val (.int ((b + ((2 : Int32) * d)) &&& (3 : Int32))), .val (.int ((b + ((3 : Int32) * d)) &&& (3 : Int32)))] [(.ref a31)])
  refine own_dup (pc' := 77) X31 hx (hb hby own_d1_76) rfl rfl ?_
  refine own_iconst (pc' := 78) (z := (0 : Int32)) X31 hx (hb hby own_d1_77) rfl rfl ?_
  refine own_iloadN (pc' := 79) X31 hx (hb hby own_d1_78) rfl rfl ?_
  refine own_iastore (pc' := 80) X31 hx hZ e31 V31 (hb hby own_d1_79) rfl (by decide) 0 rfl (by simp) N0 ge32 ?_
  intro T34 h34 L34 X34 e34 N34 W34 V34
  replace V34 : Arv Z h34 a31 k31 .int (3 : Int32) [(.int (b &&& (3 : Int32))), (.int (0 : Int32)), (.int (0 : Int32))] (.int (0 : Int32)) := V34
  show own_Ends prg e below s _ _ _ T34 (mkF m 80 #[.val (.int (3 : Int32)), .val (.int b), .val (.int d), .val (.int (b &&& (3 : Int32))), .val (.int ((b + d) &&& (3 : Int32))), .val (.int ((b + ((2 : Int32) * d)) &&& (3 : Int32))), .val (.int ((b + ((3 : Int32) * d)) &&& (3 : Int32)))] [(.ref a31)])
  refine own_dup (pc' := 81) X34 hx (hb hby own_d1_80) rfl rfl ?_
  refine own_iconst (pc' := 82) (z := (1 : Int32)) X34 hx (hb hby own_d1_81) rfl rfl ?_
  refine own_iload (pc' := 84) X34 hx (hb hby own_d1_82) rfl rfl ?_
  refine own_iastore (pc' := 85) X34 hx hZ e34 V34 (hb hby own_d1_84) rfl (by decide) 1 rfl (by simp) N34 ge32 ?_
  intro T35 h35 L35 X35 e35 N35 W35 V35
  replace V35 : Arv Z h35 a31 k31 .int (3 : Int32) [(.int (b &&& (3 : Int32))), (.int ((b + d) &&& (3 : Int32))), (.int (0 : Int32))] (.int (0 : Int32)) := V35
  show own_Ends prg e below s _ _ _ T35 (mkF m 85 #[.val (.int (3 : Int32)), .val (.int b), .val (.int d), .val (.int (b &&& (3 : Int32))), .val (.int ((b + d) &&& (3 : Int32))), .val (.int ((b + ((2 : Int32) * d)) &&& (3 : Int32))), .val (.int ((b + ((3 : Int32) * d)) &&& (3 : Int32)))] [(.ref a31)])
  refine own_dup (pc' := 86) X35 hx (hb hby own_d1_85) rfl rfl ?_
  refine own_iconst (pc' := 87) (z := (2 : Int32)) X35 hx (hb hby own_d1_86) rfl rfl ?_
  refine own_iload (pc' := 89) X35 hx (hb hby own_d1_87) rfl rfl ?_
  refine own_iastore (pc' := 90) X35 hx hZ e35 V35 (hb hby own_d1_89) rfl (by decide) 2 rfl (by simp) N35 ge32 ?_
  intro T36 h36 L36 X36 e36 N36 W36 V36
  replace V36 : Arv Z h36 a31 k31 .int (3 : Int32) [(.int (b &&& (3 : Int32))), (.int ((b + d) &&& (3 : Int32))), (.int ((b + ((2 : Int32) * d)) &&& (3 : Int32)))] (.int (0 : Int32)) := V36
  show own_Ends prg e below s _ _ _ T36 (mkF m 90 #[.val (.int (3 : Int32)), .val (.int b), .val (.int d), .val (.int (b &&& (3 : Int32))), .val (.int ((b + d) &&& (3 : Int32))), .val (.int ((b + ((2 : Int32) * d)) &&& (3 : Int32))), .val (.int ((b + ((3 : Int32) * d)) &&& (3 : Int32)))] [(.ref a31)])
  refine own_retA X36 hx hlk hret rfl rfl rfl (hb hby own_d1_90) (by decide) (by decide) ?_
  have f37 := ((((K0.ext E31).wr W34 (Or.inr sz33)).wr W35 (Or.inr sz33)).wr W36 (Or.inr sz33))
  have f38 := (((Ex31.wr W34).wr W35).wr W36)
  rw [e36]; exact ⟨_, _, rfl, N36, f37, sz33, V36, f38⟩
def own_room2_3 : Room := { frames := 0, cells := 1, slots := 3, locals := 0 }
def own_Q2_3 (Z : State) (q0 : UInt64) (q1 : UInt64) (q2 : UInt64) (q3 : UInt64) (h0 : Heap) (n0 : Nat) (v : Option Value) (h : Heap) (L : List Loc) : Prop := ∃ (ra : Addr) (rk : ClassId), v = some (.ref ra) ∧ Fr n0 L ∧ Keep h0 h [] ∧ h0.size ≤ ra ∧ Arv Z h ra rk .double (3 : Int32) [(.double q0), (.double q1), (.double q2)] (.double 0) ∧ Exa Z h ra "[D"
theorem own_ef_rm2_3 (m : MethodId) (x0 : Int32) (x1 : UInt64) (x2 : UInt64) (x3 : UInt64) (x4 : UInt64) : entryFrame m #[(.int x0), (.double x1), (.double x2), (.double x3), (.double x4)] 9 = mkF m 0 #[.val (.int x0), .val (.double x1), .second, .val (.double x2), .second, .val (.double x3), .second, .val (.double x4), .second] [] := by first | (simp [entryFrame, mkF, argsToLocals, Value.category]; done) | rfl
set_option maxRecDepth 65536 in
set_option maxHeartbeats 40000000 in
theorem own_rm2_3 (lch : Launch) (Z : State) (a0 : Array Value) (hw : ∀ d ∈ tables_1, d.before a0 Z = true) (ws : List Jvm.Cond) (q0 : UInt64) (q1 : UInt64) (q2 : UInt64) (q3 : UInt64) (h0 : Heap) (n0 : Nat) (Z0 : n0 ≤ h0.size) :
    MetFree lch (⟨"com/example/mapwright/mapwright/ArcLoadsAddToPinLaw", "perOf", "(IDDDD)[D"⟩ : MethodName) (head1 (Jvm.Cond.code (⟨"com/example/mapwright/mapwright/ArcLoadsAddToPinLaw", "perOf", "(IDDDD)[D"⟩ : MethodName) method_4_code 9 (some (.array .double)) :: ws) own_room2_3) (fun zz U => zz = #[(.int (3 : Int32)), (.double q0), (.double q1), (.double q2), (.double q3)] ∧ Z.Warmed39 U.vm ∧ U.heap = h0) (fun _ _ _ _ _ => True) (fun _ U o U' => ∃ v L, o = .returned v ∧ own_Q2_3 Z q0 q1 q2 q3 h0 n0 v U'.heap L ∧ FrameEnd U o U' L own_room2_3.cells own_room2_3.slots) := by
  refine MetFree.of_bodySF (plainFor_of_name own_pn0) hisR ?_
  intro prg e s m args below meth c s₁ Bd hml0 hP hK
  obtain ⟨rfl, hZ, hh⟩ := hP
  have hx := Bd.exec
  have hby := Bd.bytes
  have hml : c.maxLocals = 9 := hml0
  have hown : s.vm.findClass "com/example/mapwright/mapwright/ArcLoadsAddToPinLaw" = some m.cls := findClass_of_methodNamed Bd.named
  have hnm := (name_of_methodNamed Bd.named Bd.method).1
  have hlk : meth.locks = false := BodyLoose.notSynchronized Bd
  have hret := Bd.returns
  have X0 : Stand prg lch e own_room2_3 s m #[(.int (3 : Int32)), (.double q0), (.double q1), (.double q2), (.double q3)] below meth c s₁ [] 0 0 := Stand.of_body Bd
  have e0 : s₁.heap = h0 := by rw [← hh, Bd.state]; rfl
  have N0 := Fr.nil n0
  show own_Ends prg e below s (own_Q2_3 Z q0 q1 q2 q3 h0 n0) own_room2_3.cells own_room2_3.slots s₁ (entryFrame m #[(.int (3 : Int32)), (.double q0), (.double q1), (.double q2), (.double q3)] 9)
  refine own_cast (own_ef_rm2_3 m (3 : Int32) q0 q1 q2 q3) ?_
  have K0 := Keep.refl h0 ([] : List Addr)
  refine own_iloadN (pc' := 1) X0 hx (hb hby own_d2_0) rfl rfl ?_
  refine own_ifYes (pc' := 8) X0 hx (hb hby own_d2_1) (feq (by decide)).2 (by decide) (by decide) ?_
  refine own_iloadN (pc' := 9) X0 hx (hb hby own_d2_8) rfl rfl ?_
  refine own_iconst (pc' := 10) (z := (1 : Int32)) X0 hx (hb hby own_d2_9) rfl rfl ?_
  refine own_icmpYes (pc' := 21) X0 hx (hb hby own_d2_10) (feq (by decide)).2 (by decide) (by decide) ?_
  refine own_iloadN (pc' := 22) X0 hx (hb hby own_d2_21) rfl rfl ?_
  refine own_iconst (pc' := 23) (z := (2 : Int32)) X0 hx (hb hby own_d2_22) rfl rfl ?_
  refine own_icmpYes (pc' := 38) X0 hx (hb hby own_d2_23) (feq (by decide)).2 (by decide) (by decide) ?_
  refine own_iloadN (pc' := 39) X0 hx (hb hby own_d2_38) rfl rfl ?_
  refine own_iconst (pc' := 40) (z := (3 : Int32)) X0 hx (hb hby own_d2_39) rfl rfl ?_
  refine own_icmpNo (pc' := 43) X0 hx (hb hby own_d2_40) rfl (teq (by decide)).2 ?_
  refine own_iconst (pc' := 44) (z := (3 : Int32)) X0 hx (hb hby own_d2_43) rfl rfl ?_
  refine own_newarrE (pc' := 46) (aty := .double) X0 hx hZ (own_w8 hw) e0 (hb hby own_d2_44) rfl (by decide) 3 3 (by decide) (by decide) (by decide) (by decide) (ad := "[D") (by decide) ?_
  intro T31 h31 a31 k31 X31 e31 E31 g31 V31 Ex31
  replace V31 : Arv Z h31 a31 k31 .double (3 : Int32) [(.double 0), (.double 0), (.double 0)] (.double 0) := V31
  have ge32 : n0 ≤ a31 := by rw [g31]; exact Z0
  have sz33 : h0.size ≤ a31 := by rw [g31]; exact K0.1
  show own_Ends prg e below s _ _ _ T31 (mkF m 46 #[.val (.int (3 : Int32)), .val (.double q0), .second, .val (.double q1), .second, .val (.double q2), .second, .val (.double q3), .second] [(.ref a31)])
  refine own_dup (pc' := 47) X31 hx (hb hby own_d2_46) rfl rfl ?_
  refine own_iconst (pc' := 48) (z := (0 : Int32)) X31 hx (hb hby own_d2_47) rfl rfl ?_
  refine own_dloadN (pc' := 49) X31 hx (hb hby own_d2_48) rfl rfl ?_
  refine own_dastore (pc' := 50) X31 hx hZ e31 V31 (hb hby own_d2_49) rfl (by decide) 0 rfl (by simp) N0 ge32 ?_
  intro T34 h34 L34 X34 e34 N34 W34 V34
  replace V34 : Arv Z h34 a31 k31 .double (3 : Int32) [(.double q0), (.double 0), (.double 0)] (.double 0) := V34
  show own_Ends prg e below s _ _ _ T34 (mkF m 50 #[.val (.int (3 : Int32)), .val (.double q0), .second, .val (.double q1), .second, .val (.double q2), .second, .val (.double q3), .second] [(.ref a31)])
  refine own_dup (pc' := 51) X34 hx (hb hby own_d2_50) rfl rfl ?_
  refine own_iconst (pc' := 52) (z := (1 : Int32)) X34 hx (hb hby own_d2_51) rfl rfl ?_
  refine own_dloadN (pc' := 53) X34 hx (hb hby own_d2_52) rfl rfl ?_
  refine own_dastore (pc' := 54) X34 hx hZ e34 V34 (hb hby own_d2_53) rfl (by decide) 1 rfl (by simp) N34 ge32 ?_
  intro T35 h35 L35 X35 e35 N35 W35 V35
  replace V35 : Arv Z h35 a31 k31 .double (3 : Int32) [(.double q0), (.double q1), (.double 0)] (.double 0) := V35
  show own_Ends prg e below s _ _ _ T35 (mkF m 54 #[.val (.int (3 : Int32)), .val (.double q0), .second, .val (.double q1), .second, .val (.double q2), .second, .val (.double q3), .second] [(.ref a31)])
  refine own_dup (pc' := 55) X35 hx (hb hby own_d2_54) rfl rfl ?_
  refine own_iconst (pc' := 56) (z := (2 : Int32)) X35 hx (hb hby own_d2_55) rfl rfl ?_
  refine own_dload (pc' := 58) X35 hx (hb hby own_d2_56) rfl rfl ?_
  refine own_dastore (pc' := 59) X35 hx hZ e35 V35 (hb hby own_d2_58) rfl (by decide) 2 rfl (by simp) N35 ge32 ?_
  intro T36 h36 L36 X36 e36 N36 W36 V36
  replace V36 : Arv Z h36 a31 k31 .double (3 : Int32) [(.double q0), (.double q1), (.double q2)] (.double 0) := V36
  show own_Ends prg e below s _ _ _ T36 (mkF m 59 #[.val (.int (3 : Int32)), .val (.double q0), .second, .val (.double q1), .second, .val (.double q2), .second, .val (.double q3), .second] [(.ref a31)])
  refine own_retA X36 hx hlk hret rfl rfl rfl (hb hby own_d2_59) (by decide) (by decide) ?_
  have f37 := ((((K0.ext E31).wr W34 (Or.inr sz33)).wr W35 (Or.inr sz33)).wr W36 (Or.inr sz33))
  have f38 := (((Ex31.wr W34).wr W35).wr W36)
  rw [e36]; exact ⟨_, _, rfl, N36, f37, sz33, V36, f38⟩
def own_room1_4 : Room := { frames := 0, cells := 1, slots := 4, locals := 0 }
def own_Q1_4 (Z : State) (b : Int32) (d : Int32) (h0 : Heap) (n0 : Nat) (v : Option Value) (h : Heap) (L : List Loc) : Prop := ∃ (ra : Addr) (rk : ClassId), v = some (.ref ra) ∧ Fr n0 L ∧ Keep h0 h [] ∧ h0.size ≤ ra ∧ Arv Z h ra rk .int (4 : Int32) [(.int (b &&& (3 : Int32))), (.int ((b + d) &&& (3 : Int32))), (.int ((b + ((2 : Int32) * d)) &&& (3 : Int32))), (.int ((b + ((3 : Int32) * d)) &&& (3 : Int32)))] (.int (0 : Int32)) ∧ Exa Z h ra "[I"
theorem own_ef_rm1_4 (m : MethodId) (x0 : Int32) (x1 : Int32) (x2 : Int32) : entryFrame m #[(.int x0), (.int x1), (.int x2)] 7 = mkF m 0 #[.val (.int x0), .val (.int x1), .val (.int x2), .unset, .unset, .unset, .unset] [] := by first | (simp [entryFrame, mkF, argsToLocals, Value.category]; done) | rfl
set_option maxRecDepth 65536 in
set_option maxHeartbeats 40000000 in
theorem own_rm1_4 (lch : Launch) (Z : State) (a0 : Array Value) (hw : ∀ d ∈ tables_1, d.before a0 Z = true) (ws : List Jvm.Cond) (b : Int32) (d : Int32) (h0 : Heap) (n0 : Nat) (Z0 : n0 ≤ h0.size) :
    MetFree lch (⟨"com/example/mapwright/mapwright/ArcLoadsAddToPinLaw", "arcsOf", "(III)[I"⟩ : MethodName) (head1 (Jvm.Cond.code (⟨"com/example/mapwright/mapwright/ArcLoadsAddToPinLaw", "arcsOf", "(III)[I"⟩ : MethodName) method_3_code 7 (some (.array .int)) :: ws) own_room1_4) (fun zz U => zz = #[(.int (4 : Int32)), (.int b), (.int d)] ∧ Z.Warmed39 U.vm ∧ U.heap = h0) (fun _ _ _ _ _ => True) (fun _ U o U' => ∃ v L, o = .returned v ∧ own_Q1_4 Z b d h0 n0 v U'.heap L ∧ FrameEnd U o U' L own_room1_4.cells own_room1_4.slots) := by
  refine MetFree.of_bodySF (plainFor_of_name own_pn0) hisR ?_
  intro prg e s m args below meth c s₁ Bd hml0 hP hK
  obtain ⟨rfl, hZ, hh⟩ := hP
  have hx := Bd.exec
  have hby := Bd.bytes
  have hml : c.maxLocals = 7 := hml0
  have hown : s.vm.findClass "com/example/mapwright/mapwright/ArcLoadsAddToPinLaw" = some m.cls := findClass_of_methodNamed Bd.named
  have hnm := (name_of_methodNamed Bd.named Bd.method).1
  have hlk : meth.locks = false := BodyLoose.notSynchronized Bd
  have hret := Bd.returns
  have X0 : Stand prg lch e own_room1_4 s m #[(.int (4 : Int32)), (.int b), (.int d)] below meth c s₁ [] 0 0 := Stand.of_body Bd
  have e0 : s₁.heap = h0 := by rw [← hh, Bd.state]; rfl
  have N0 := Fr.nil n0
  show own_Ends prg e below s (own_Q1_4 Z b d h0 n0) own_room1_4.cells own_room1_4.slots s₁ (entryFrame m #[(.int (4 : Int32)), (.int b), (.int d)] 7)
  refine own_cast (own_ef_rm1_4 m (4 : Int32) b d) ?_
  have K0 := Keep.refl h0 ([] : List Addr)
  refine own_iloadN (pc' := 1) X0 hx (hb hby own_d1_0) rfl rfl ?_
  refine own_iconst (pc' := 2) (z := (3 : Int32)) X0 hx (hb hby own_d1_1) rfl rfl ?_
  refine own_iand (pc' := 3) (z := (b &&& (3 : Int32))) X0 hx (hb hby own_d1_2) rfl rfl ?_
  refine own_istoreN (pc' := 4) (l' := #[.val (.int (4 : Int32)), .val (.int b), .val (.int d), .val (.int (b &&& (3 : Int32))), .unset, .unset, .unset]) X0 hx (hb hby own_d1_3) rfl rfl ?_
  refine own_iloadN (pc' := 5) X0 hx (hb hby own_d1_4) rfl rfl ?_
  refine own_iloadN (pc' := 6) X0 hx (hb hby own_d1_5) rfl rfl ?_
  refine own_iadd (pc' := 7) (z := (b + d)) X0 hx (hb hby own_d1_6) rfl rfl ?_
  refine own_iconst (pc' := 8) (z := (3 : Int32)) X0 hx (hb hby own_d1_7) rfl rfl ?_
  refine own_iand (pc' := 9) (z := ((b + d) &&& (3 : Int32))) X0 hx (hb hby own_d1_8) rfl rfl ?_
  refine own_istore (pc' := 11) (l' := #[.val (.int (4 : Int32)), .val (.int b), .val (.int d), .val (.int (b &&& (3 : Int32))), .val (.int ((b + d) &&& (3 : Int32))), .unset, .unset]) X0 hx (hb hby own_d1_9) rfl rfl ?_
  refine own_iloadN (pc' := 12) X0 hx (hb hby own_d1_11) rfl rfl ?_
  refine own_iconst (pc' := 13) (z := (2 : Int32)) X0 hx (hb hby own_d1_12) rfl rfl ?_
  refine own_iloadN (pc' := 14) X0 hx (hb hby own_d1_13) rfl rfl ?_
  refine own_imul (pc' := 15) (z := ((2 : Int32) * d)) X0 hx (hb hby own_d1_14) rfl rfl ?_
  refine own_iadd (pc' := 16) (z := (b + ((2 : Int32) * d))) X0 hx (hb hby own_d1_15) rfl rfl ?_
  refine own_iconst (pc' := 17) (z := (3 : Int32)) X0 hx (hb hby own_d1_16) rfl rfl ?_
  refine own_iand (pc' := 18) (z := ((b + ((2 : Int32) * d)) &&& (3 : Int32))) X0 hx (hb hby own_d1_17) rfl rfl ?_
  refine own_istore (pc' := 20) (l' := #[.val (.int (4 : Int32)), .val (.int b), .val (.int d), .val (.int (b &&& (3 : Int32))), .val (.int ((b + d) &&& (3 : Int32))), .val (.int ((b + ((2 : Int32) * d)) &&& (3 : Int32))), .unset]) X0 hx (hb hby own_d1_18) rfl rfl ?_
  refine own_iloadN (pc' := 21) X0 hx (hb hby own_d1_20) rfl rfl ?_
  refine own_iconst (pc' := 22) (z := (3 : Int32)) X0 hx (hb hby own_d1_21) rfl rfl ?_
  refine own_iloadN (pc' := 23) X0 hx (hb hby own_d1_22) rfl rfl ?_
  refine own_imul (pc' := 24) (z := ((3 : Int32) * d)) X0 hx (hb hby own_d1_23) rfl rfl ?_
  refine own_iadd (pc' := 25) (z := (b + ((3 : Int32) * d))) X0 hx (hb hby own_d1_24) rfl rfl ?_
  refine own_iconst (pc' := 26) (z := (3 : Int32)) X0 hx (hb hby own_d1_25) rfl rfl ?_
  refine own_iand (pc' := 27) (z := ((b + ((3 : Int32) * d)) &&& (3 : Int32))) X0 hx (hb hby own_d1_26) rfl rfl ?_
  refine own_istore (pc' := 29) (l' := #[.val (.int (4 : Int32)), .val (.int b), .val (.int d), .val (.int (b &&& (3 : Int32))), .val (.int ((b + d) &&& (3 : Int32))), .val (.int ((b + ((2 : Int32) * d)) &&& (3 : Int32))), .val (.int ((b + ((3 : Int32) * d)) &&& (3 : Int32)))]) X0 hx (hb hby own_d1_27) rfl rfl ?_
  refine own_iloadN (pc' := 30) X0 hx (hb hby own_d1_29) rfl rfl ?_
  refine own_ifYes (pc' := 37) X0 hx (hb hby own_d1_30) (feq (by decide)).2 (by decide) (by decide) ?_
  refine own_iloadN (pc' := 38) X0 hx (hb hby own_d1_37) rfl rfl ?_
  refine own_iconst (pc' := 39) (z := (1 : Int32)) X0 hx (hb hby own_d1_38) rfl rfl ?_
  refine own_icmpYes (pc' := 50) X0 hx (hb hby own_d1_39) (feq (by decide)).2 (by decide) (by decide) ?_
  refine own_iloadN (pc' := 51) X0 hx (hb hby own_d1_50) rfl rfl ?_
  refine own_iconst (pc' := 52) (z := (2 : Int32)) X0 hx (hb hby own_d1_51) rfl rfl ?_
  refine own_icmpYes (pc' := 68) X0 hx (hb hby own_d1_52) (feq (by decide)).2 (by decide) (by decide) ?_
  refine own_iloadN (pc' := 69) X0 hx (hb hby own_d1_68) rfl rfl ?_
  refine own_iconst (pc' := 70) (z := (3 : Int32)) X0 hx (hb hby own_d1_69) rfl rfl ?_
  refine own_icmpYes (pc' := 91) X0 hx (hb hby own_d1_70) (feq (by decide)).2 (by decide) (by decide) ?_
  refine own_iconst (pc' := 92) (z := (4 : Int32)) X0 hx (hb hby own_d1_91) rfl rfl ?_
  refine own_newarrE (pc' := 94) (aty := .int) X0 hx hZ (own_w4 hw) e0 (hb hby own_d1_92) rfl (by decide) 4 4 (by decide) (by decide) (by decide) (by decide) (ad := "[I") (by decide) ?_
  intro T31 h31 a31 k31 X31 e31 E31 g31 V31 Ex31
  replace V31 : Arv Z h31 a31 k31 .int (4 : Int32) [(.int (0 : Int32)), (.int (0 : Int32)), (.int (0 : Int32)), (.int (0 : Int32))] (.int (0 : Int32)) := V31
  have ge32 : n0 ≤ a31 := by rw [g31]; exact Z0
  have sz33 : h0.size ≤ a31 := by rw [g31]; exact K0.1
  show own_Ends prg e below s _ _ _ T31 (mkF m 94 #[.val (.int (4 : Int32)), .val (.int b), .val (.int d), .val (.int (b &&& (3 : Int32))), .val (.int ((b + d) &&& (3 : Int32))), .val (.int ((b + ((2 : Int32) * d)) &&& (3 : Int32))), .val (.int ((b + ((3 : Int32) * d)) &&& (3 : Int32)))] [(.ref a31)])
  refine own_dup (pc' := 95) X31 hx (hb hby own_d1_94) rfl rfl ?_
  refine own_iconst (pc' := 96) (z := (0 : Int32)) X31 hx (hb hby own_d1_95) rfl rfl ?_
  refine own_iloadN (pc' := 97) X31 hx (hb hby own_d1_96) rfl rfl ?_
  refine own_iastore (pc' := 98) X31 hx hZ e31 V31 (hb hby own_d1_97) rfl (by decide) 0 rfl (by simp) N0 ge32 ?_
  intro T34 h34 L34 X34 e34 N34 W34 V34
  replace V34 : Arv Z h34 a31 k31 .int (4 : Int32) [(.int (b &&& (3 : Int32))), (.int (0 : Int32)), (.int (0 : Int32)), (.int (0 : Int32))] (.int (0 : Int32)) := V34
  show own_Ends prg e below s _ _ _ T34 (mkF m 98 #[.val (.int (4 : Int32)), .val (.int b), .val (.int d), .val (.int (b &&& (3 : Int32))), .val (.int ((b + d) &&& (3 : Int32))), .val (.int ((b + ((2 : Int32) * d)) &&& (3 : Int32))), .val (.int ((b + ((3 : Int32) * d)) &&& (3 : Int32)))] [(.ref a31)])
  refine own_dup (pc' := 99) X34 hx (hb hby own_d1_98) rfl rfl ?_
  refine own_iconst (pc' := 100) (z := (1 : Int32)) X34 hx (hb hby own_d1_99) rfl rfl ?_
  refine own_iload (pc' := 102) X34 hx (hb hby own_d1_100) rfl rfl ?_
  refine own_iastore (pc' := 103) X34 hx hZ e34 V34 (hb hby own_d1_102) rfl (by decide) 1 rfl (by simp) N34 ge32 ?_
  intro T35 h35 L35 X35 e35 N35 W35 V35
  replace V35 : Arv Z h35 a31 k31 .int (4 : Int32) [(.int (b &&& (3 : Int32))), (.int ((b + d) &&& (3 : Int32))), (.int (0 : Int32)), (.int (0 : Int32))] (.int (0 : Int32)) := V35
  show own_Ends prg e below s _ _ _ T35 (mkF m 103 #[.val (.int (4 : Int32)), .val (.int b), .val (.int d), .val (.int (b &&& (3 : Int32))), .val (.int ((b + d) &&& (3 : Int32))), .val (.int ((b + ((2 : Int32) * d)) &&& (3 : Int32))), .val (.int ((b + ((3 : Int32) * d)) &&& (3 : Int32)))] [(.ref a31)])
  refine own_dup (pc' := 104) X35 hx (hb hby own_d1_103) rfl rfl ?_
  refine own_iconst (pc' := 105) (z := (2 : Int32)) X35 hx (hb hby own_d1_104) rfl rfl ?_
  refine own_iload (pc' := 107) X35 hx (hb hby own_d1_105) rfl rfl ?_
  refine own_iastore (pc' := 108) X35 hx hZ e35 V35 (hb hby own_d1_107) rfl (by decide) 2 rfl (by simp) N35 ge32 ?_
  intro T36 h36 L36 X36 e36 N36 W36 V36
  replace V36 : Arv Z h36 a31 k31 .int (4 : Int32) [(.int (b &&& (3 : Int32))), (.int ((b + d) &&& (3 : Int32))), (.int ((b + ((2 : Int32) * d)) &&& (3 : Int32))), (.int (0 : Int32))] (.int (0 : Int32)) := V36
  show own_Ends prg e below s _ _ _ T36 (mkF m 108 #[.val (.int (4 : Int32)), .val (.int b), .val (.int d), .val (.int (b &&& (3 : Int32))), .val (.int ((b + d) &&& (3 : Int32))), .val (.int ((b + ((2 : Int32) * d)) &&& (3 : Int32))), .val (.int ((b + ((3 : Int32) * d)) &&& (3 : Int32)))] [(.ref a31)])
  refine own_dup (pc' := 109) X36 hx (hb hby own_d1_108) rfl rfl ?_
  refine own_iconst (pc' := 110) (z := (3 : Int32)) X36 hx (hb hby own_d1_109) rfl rfl ?_
  refine own_iload (pc' := 112) X36 hx (hb hby own_d1_110) rfl rfl ?_
  refine own_iastore (pc' := 113) X36 hx hZ e36 V36 (hb hby own_d1_112) rfl (by decide) 3 rfl (by simp) N36 ge32 ?_
  intro T37 h37 L37 X37 e37 N37 W37 V37
  replace V37 : Arv Z h37 a31 k31 .int (4 : Int32) [(.int (b &&& (3 : Int32))), (.int ((b + d) &&& (3 : Int32))), (.int ((b + ((2 : Int32) * d)) &&& (3 : Int32))), (.int ((b + ((3 : Int32) * d)) &&& (3 : Int32)))] (.int (0 : Int32)) := V37
  show own_Ends prg e below s _ _ _ T37 (mkF m 113 #[.val (.int (4 : Int32)), .val (.int b), .val (.int d), .val (.int (b &&& (3 : Int32))), .val (.int ((b + d) &&& (3 : Int32))), .val (.int ((b + ((2 : Int32) * d)) &&& (3 : Int32))), .val (.int ((b + ((3 : Int32) * d)) &&& (3 : Int32)))] [(.ref a31)])
  refine own_retA X37 hx hlk hret rfl rfl rfl (hb hby own_d1_113) (by decide) (by decide) ?_
  have f38 := (((((K0.ext E31).wr W34 (Or.inr sz33)).wr W35 (Or.inr sz33)).wr W36 (Or.inr sz33)).wr W37 (Or.inr sz33))
  have f39 := ((((Ex31.wr W34).wr W35).wr W36).wr W37)
  rw [e37]; exact ⟨_, _, rfl, N37, f38, sz33, V37, f39⟩
def own_room2_4 : Room := { frames := 0, cells := 1, slots := 4, locals := 0 }
def own_Q2_4 (Z : State) (q0 : UInt64) (q1 : UInt64) (q2 : UInt64) (q3 : UInt64) (h0 : Heap) (n0 : Nat) (v : Option Value) (h : Heap) (L : List Loc) : Prop := ∃ (ra : Addr) (rk : ClassId), v = some (.ref ra) ∧ Fr n0 L ∧ Keep h0 h [] ∧ h0.size ≤ ra ∧ Arv Z h ra rk .double (4 : Int32) [(.double q0), (.double q1), (.double q2), (.double q3)] (.double 0) ∧ Exa Z h ra "[D"
theorem own_ef_rm2_4 (m : MethodId) (x0 : Int32) (x1 : UInt64) (x2 : UInt64) (x3 : UInt64) (x4 : UInt64) : entryFrame m #[(.int x0), (.double x1), (.double x2), (.double x3), (.double x4)] 9 = mkF m 0 #[.val (.int x0), .val (.double x1), .second, .val (.double x2), .second, .val (.double x3), .second, .val (.double x4), .second] [] := by first | (simp [entryFrame, mkF, argsToLocals, Value.category]; done) | rfl
set_option maxRecDepth 65536 in
set_option maxHeartbeats 40000000 in
theorem own_rm2_4 (lch : Launch) (Z : State) (a0 : Array Value) (hw : ∀ d ∈ tables_1, d.before a0 Z = true) (ws : List Jvm.Cond) (q0 : UInt64) (q1 : UInt64) (q2 : UInt64) (q3 : UInt64) (h0 : Heap) (n0 : Nat) (Z0 : n0 ≤ h0.size) :
    MetFree lch (⟨"com/example/mapwright/mapwright/ArcLoadsAddToPinLaw", "perOf", "(IDDDD)[D"⟩ : MethodName) (head1 (Jvm.Cond.code (⟨"com/example/mapwright/mapwright/ArcLoadsAddToPinLaw", "perOf", "(IDDDD)[D"⟩ : MethodName) method_4_code 9 (some (.array .double)) :: ws) own_room2_4) (fun zz U => zz = #[(.int (4 : Int32)), (.double q0), (.double q1), (.double q2), (.double q3)] ∧ Z.Warmed39 U.vm ∧ U.heap = h0) (fun _ _ _ _ _ => True) (fun _ U o U' => ∃ v L, o = .returned v ∧ own_Q2_4 Z q0 q1 q2 q3 h0 n0 v U'.heap L ∧ FrameEnd U o U' L own_room2_4.cells own_room2_4.slots) := by
  refine MetFree.of_bodySF (plainFor_of_name own_pn0) hisR ?_
  intro prg e s m args below meth c s₁ Bd hml0 hP hK
  obtain ⟨rfl, hZ, hh⟩ := hP
  have hx := Bd.exec
  have hby := Bd.bytes
  have hml : c.maxLocals = 9 := hml0
  have hown : s.vm.findClass "com/example/mapwright/mapwright/ArcLoadsAddToPinLaw" = some m.cls := findClass_of_methodNamed Bd.named
  have hnm := (name_of_methodNamed Bd.named Bd.method).1
  have hlk : meth.locks = false := BodyLoose.notSynchronized Bd
  have hret := Bd.returns
  have X0 : Stand prg lch e own_room2_4 s m #[(.int (4 : Int32)), (.double q0), (.double q1), (.double q2), (.double q3)] below meth c s₁ [] 0 0 := Stand.of_body Bd
  have e0 : s₁.heap = h0 := by rw [← hh, Bd.state]; rfl
  have N0 := Fr.nil n0
  show own_Ends prg e below s (own_Q2_4 Z q0 q1 q2 q3 h0 n0) own_room2_4.cells own_room2_4.slots s₁ (entryFrame m #[(.int (4 : Int32)), (.double q0), (.double q1), (.double q2), (.double q3)] 9)
  refine own_cast (own_ef_rm2_4 m (4 : Int32) q0 q1 q2 q3) ?_
  have K0 := Keep.refl h0 ([] : List Addr)
  refine own_iloadN (pc' := 1) X0 hx (hb hby own_d2_0) rfl rfl ?_
  refine own_ifYes (pc' := 8) X0 hx (hb hby own_d2_1) (feq (by decide)).2 (by decide) (by decide) ?_
  refine own_iloadN (pc' := 9) X0 hx (hb hby own_d2_8) rfl rfl ?_
  refine own_iconst (pc' := 10) (z := (1 : Int32)) X0 hx (hb hby own_d2_9) rfl rfl ?_
  refine own_icmpYes (pc' := 21) X0 hx (hb hby own_d2_10) (feq (by decide)).2 (by decide) (by decide) ?_
  refine own_iloadN (pc' := 22) X0 hx (hb hby own_d2_21) rfl rfl ?_
  refine own_iconst (pc' := 23) (z := (2 : Int32)) X0 hx (hb hby own_d2_22) rfl rfl ?_
  refine own_icmpYes (pc' := 38) X0 hx (hb hby own_d2_23) (feq (by decide)).2 (by decide) (by decide) ?_
  refine own_iloadN (pc' := 39) X0 hx (hb hby own_d2_38) rfl rfl ?_
  refine own_iconst (pc' := 40) (z := (3 : Int32)) X0 hx (hb hby own_d2_39) rfl rfl ?_
  refine own_icmpYes (pc' := 60) X0 hx (hb hby own_d2_40) (feq (by decide)).2 (by decide) (by decide) ?_
  refine own_iconst (pc' := 61) (z := (4 : Int32)) X0 hx (hb hby own_d2_60) rfl rfl ?_
  refine own_newarrE (pc' := 63) (aty := .double) X0 hx hZ (own_w8 hw) e0 (hb hby own_d2_61) rfl (by decide) 4 4 (by decide) (by decide) (by decide) (by decide) (ad := "[D") (by decide) ?_
  intro T31 h31 a31 k31 X31 e31 E31 g31 V31 Ex31
  replace V31 : Arv Z h31 a31 k31 .double (4 : Int32) [(.double 0), (.double 0), (.double 0), (.double 0)] (.double 0) := V31
  have ge32 : n0 ≤ a31 := by rw [g31]; exact Z0
  have sz33 : h0.size ≤ a31 := by rw [g31]; exact K0.1
  show own_Ends prg e below s _ _ _ T31 (mkF m 63 #[.val (.int (4 : Int32)), .val (.double q0), .second, .val (.double q1), .second, .val (.double q2), .second, .val (.double q3), .second] [(.ref a31)])
  refine own_dup (pc' := 64) X31 hx (hb hby own_d2_63) rfl rfl ?_
  refine own_iconst (pc' := 65) (z := (0 : Int32)) X31 hx (hb hby own_d2_64) rfl rfl ?_
  refine own_dloadN (pc' := 66) X31 hx (hb hby own_d2_65) rfl rfl ?_
  refine own_dastore (pc' := 67) X31 hx hZ e31 V31 (hb hby own_d2_66) rfl (by decide) 0 rfl (by simp) N0 ge32 ?_
  intro T34 h34 L34 X34 e34 N34 W34 V34
  replace V34 : Arv Z h34 a31 k31 .double (4 : Int32) [(.double q0), (.double 0), (.double 0), (.double 0)] (.double 0) := V34
  show own_Ends prg e below s _ _ _ T34 (mkF m 67 #[.val (.int (4 : Int32)), .val (.double q0), .second, .val (.double q1), .second, .val (.double q2), .second, .val (.double q3), .second] [(.ref a31)])
  refine own_dup (pc' := 68) X34 hx (hb hby own_d2_67) rfl rfl ?_
  refine own_iconst (pc' := 69) (z := (1 : Int32)) X34 hx (hb hby own_d2_68) rfl rfl ?_
  refine own_dloadN (pc' := 70) X34 hx (hb hby own_d2_69) rfl rfl ?_
  refine own_dastore (pc' := 71) X34 hx hZ e34 V34 (hb hby own_d2_70) rfl (by decide) 1 rfl (by simp) N34 ge32 ?_
  intro T35 h35 L35 X35 e35 N35 W35 V35
  replace V35 : Arv Z h35 a31 k31 .double (4 : Int32) [(.double q0), (.double q1), (.double 0), (.double 0)] (.double 0) := V35
  show own_Ends prg e below s _ _ _ T35 (mkF m 71 #[.val (.int (4 : Int32)), .val (.double q0), .second, .val (.double q1), .second, .val (.double q2), .second, .val (.double q3), .second] [(.ref a31)])
  refine own_dup (pc' := 72) X35 hx (hb hby own_d2_71) rfl rfl ?_
  refine own_iconst (pc' := 73) (z := (2 : Int32)) X35 hx (hb hby own_d2_72) rfl rfl ?_
  refine own_dload (pc' := 75) X35 hx (hb hby own_d2_73) rfl rfl ?_
  refine own_dastore (pc' := 76) X35 hx hZ e35 V35 (hb hby own_d2_75) rfl (by decide) 2 rfl (by simp) N35 ge32 ?_
  intro T36 h36 L36 X36 e36 N36 W36 V36
  replace V36 : Arv Z h36 a31 k31 .double (4 : Int32) [(.double q0), (.double q1), (.double q2), (.double 0)] (.double 0) := V36
  show own_Ends prg e below s _ _ _ T36 (mkF m 76 #[.val (.int (4 : Int32)), .val (.double q0), .second, .val (.double q1), .second, .val (.double q2), .second, .val (.double q3), .second] [(.ref a31)])
  refine own_dup (pc' := 77) X36 hx (hb hby own_d2_76) rfl rfl ?_
  refine own_iconst (pc' := 78) (z := (3 : Int32)) X36 hx (hb hby own_d2_77) rfl rfl ?_
  refine own_dload (pc' := 80) X36 hx (hb hby own_d2_78) rfl rfl ?_
  refine own_dastore (pc' := 81) X36 hx hZ e36 V36 (hb hby own_d2_80) rfl (by decide) 3 rfl (by simp) N36 ge32 ?_
  intro T37 h37 L37 X37 e37 N37 W37 V37
  replace V37 : Arv Z h37 a31 k31 .double (4 : Int32) [(.double q0), (.double q1), (.double q2), (.double q3)] (.double 0) := V37
  show own_Ends prg e below s _ _ _ T37 (mkF m 81 #[.val (.int (4 : Int32)), .val (.double q0), .second, .val (.double q1), .second, .val (.double q2), .second, .val (.double q3), .second] [(.ref a31)])
  refine own_retA X37 hx hlk hret rfl rfl rfl (hb hby own_d2_81) (by decide) (by decide) ?_
  have f38 := (((((K0.ext E31).wr W34 (Or.inr sz33)).wr W35 (Or.inr sz33)).wr W36 (Or.inr sz33)).wr W37 (Or.inr sz33))
  have f39 := ((((Ex31.wr W34).wr W35).wr W36).wr W37)
  rw [e37]; exact ⟨_, _, rfl, N37, f38, sz33, V37, f39⟩
def own_room3_0 : Room := { frames := 1, cells := 2, slots := 0, locals := 15 }
def own_Q3_0 (Z : State) (a : Addr) (b : Addr) (f : Addr) (bk : ClassId) (fk : ClassId) (u0 : Value) (u1 : Value) (h0 : Heap) (n0 : Nat) (v : Option Value) (h : Heap) (L : List Loc) : Prop := ∃ (ca : Addr) (pa : Addr) (ck : ClassId) (pk : ClassId), v = none ∧ Fr n0 L ∧ Keep h0 h [a] ∧ h0.size ≤ ca ∧ h0.size ≤ pa ∧ ca ≠ pa ∧ Fld Z h a "com/example/mapwright/mapwright/ArcLoads" "arcs" "[I" (.ref ca) ∧ Fld Z h a "com/example/mapwright/mapwright/ArcLoads" "perUnit" "[D" (.ref pa) ∧ Arv Z h ca ck .int (0 : Int32) [] (.int (0 : Int32)) ∧ Arv Z h pa pk .double (0 : Int32) [] (.double 0)
theorem own_ef_rm3_0 (m : MethodId) (x0 : Addr) (x1 : Addr) (x2 : Addr) : entryFrame m #[(.ref x0), (.ref x1), (.ref x2)] 3 = mkF m 0 #[.val (.ref x0), .val (.ref x1), .val (.ref x2)] [] := by first | (simp [entryFrame, mkF, argsToLocals, Value.category]; done) | rfl
set_option maxRecDepth 65536 in
set_option maxHeartbeats 40000000 in
theorem own_rm3_0 (lch : Launch) (Z : State) (a0 : Array Value) (hw : ∀ d ∈ tables_1, d.before a0 Z = true) (ws : List Jvm.Cond) (a : Addr) (b : Addr) (f : Addr) (bk : ClassId) (fk : ClassId) (u0 : Value) (u1 : Value) (h0 : Heap) (n0 : Nat) (Z0 : n0 ≤ h0.size) (E0 : Exa Z h0 a "com/example/mapwright/mapwright/ArcLoads") (F0 : Fld Z h0 a "com/example/mapwright/mapwright/ArcLoads" "arcs" "[I" u0) (F1 : Fld Z h0 a "com/example/mapwright/mapwright/ArcLoads" "perUnit" "[D" u1) (ge0 : n0 ≤ a) (V0 : Arv Z h0 b bk .int (0 : Int32) [] (.int (0 : Int32))) (Eb : Exa Z h0 b "[I") (V1 : Arv Z h0 f fk .double (0 : Int32) [] (.double 0)) (Ef : Exa Z h0 f "[D") (nab : a ≠ b) (naf : a ≠ f) (nbf : b ≠ f) :
    MetFree lch (⟨"com/example/mapwright/mapwright/ArcLoads", "<init>", "([I[D)V"⟩ : MethodName) (head1 (Jvm.Cond.code (⟨"com/example/mapwright/mapwright/ArcLoads", "<init>", "([I[D)V"⟩ : MethodName) prog_1_method_1_code 3 none :: ws) own_room3_0) (fun zz U => zz = #[(.ref a), (.ref b), (.ref f)] ∧ Z.Warmed39 U.vm ∧ U.heap = h0) (fun _ _ _ _ _ => True) (fun _ U o U' => ∃ v L, o = .returned v ∧ own_Q3_0 Z a b f bk fk u0 u1 h0 n0 v U'.heap L ∧ FrameEnd U o U' L own_room3_0.cells own_room3_0.slots) := by
  refine MetFree.of_bodySF (plainFor_of_name own_pn1) hisR ?_
  intro prg e s m args below meth c s₁ Bd hml0 hP hK
  obtain ⟨rfl, hZ, hh⟩ := hP
  have hx := Bd.exec
  have hby := Bd.bytes
  have hml : c.maxLocals = 3 := hml0
  have hown : s.vm.findClass "com/example/mapwright/mapwright/ArcLoads" = some m.cls := findClass_of_methodNamed Bd.named
  have hnm := (name_of_methodNamed Bd.named Bd.method).1
  have hlk : meth.locks = false := BodyLoose.notSynchronized Bd
  have hret := Bd.returns
  have X0 : Stand prg lch e own_room3_0 s m #[(.ref a), (.ref b), (.ref f)] below meth c s₁ [] 0 0 := Stand.of_body Bd
  have e0 : s₁.heap = h0 := by rw [← hh, Bd.state]; rfl
  have N0 := Fr.nil n0
  show own_Ends prg e below s (own_Q3_0 Z a b f bk fk u0 u1 h0 n0) own_room3_0.cells own_room3_0.slots s₁ (entryFrame m #[(.ref a), (.ref b), (.ref f)] 3)
  refine own_cast (own_ef_rm3_0 m a b f) ?_
  have K0 := Keep.refl h0 ([a] : List Addr)
  refine own_aloadN (pc' := 1) X0 hx (hb hby own_d3_0) rfl rfl rfl ?_
  obtain ⟨T31, X31, e31, st31⟩ := initO X0 hx hZ hown (own_w15 hw) (own_w16 hw) (own_w17 hw) e0 (g := (mkF m 1 #[.val (.ref a), .val (.ref b), .val (.ref f)] [(.ref a)])) rfl (by rw [hml]; rfl) rfl (hb hby own_d3_1) (by decide) (W := 0) (by show 2 * 0 + _ ≤ _; exact Nat.le_of_eq rfl) (by decide)
  refine own_go st31 ?_
  show own_Ends prg e below s _ _ _ T31 (mkF m 4 #[.val (.ref a), .val (.ref b), .val (.ref f)] [])
  refine own_aloadN (pc' := 5) X31 hx (hb hby own_d3_4) rfl rfl rfl ?_
  refine own_alen (pc' := 6) X31 hx hZ e31 V0 (hb hby own_d3_5) rfl ?_
  refine own_aloadN (pc' := 7) X31 hx (hb hby own_d3_6) rfl rfl rfl ?_
  refine own_alen (pc' := 8) X31 hx hZ e31 V1 (hb hby own_d3_7) rfl ?_
  refine own_icmpYes (pc' := 28) X31 hx (hb hby own_d3_8) (teq (by decide)).1 (by decide) (by decide) ?_
  refine own_aloadN (pc' := 29) X31 hx (hb hby own_d3_28) rfl rfl rfl ?_
  refine own_aloadN (pc' := 30) X31 hx (hb hby own_d3_29) rfl rfl rfl ?_
  obtain ⟨T32, h32, X32, e32, E32, V32, Ex32, st32⟩ := cloneH X31 hx hZ hown (own_w18 hw) (own_w19 hw) (own_w23 hw) (own_w21 hw) (own_w22 hw) (own_w24 hw) e31 (hs := []) V0 Eb (g := (mkF m 30 #[.val (.ref a), .val (.ref b), .val (.ref f)] [(.ref b), (.ref a)])) rfl (by rw [hml]; rfl) (rest := [(.ref a)]) rfl (hb hby own_d3_30) (by decide) (W := 1) (by exact Nat.le_of_eq rfl) (by decide) (cap := 0) (by decide) (by decide) (by decide)
  refine own_go st32 ?_
  replace V32 : Arv Z h32 h0.size bk .int (0 : Int32) [] (.int (0 : Int32)) := V32
  obtain ⟨a32, g32⟩ : ∃ z, z = h0.size := ⟨_, rfl⟩
  rw [← g32] at V32 Ex32
  have ge33 : n0 ≤ a32 := by rw [g32]; exact Z0
  have sz34 : h0.size ≤ a32 := by rw [g32]; exact K0.1
  have ne35 : a ≠ a32 := Nat.ne_of_lt (by rw [g32]; exact E0.lt)
  have ne36 : b ≠ a32 := Nat.ne_of_lt (by rw [g32]; exact V0.lt)
  have ne37 : f ≠ a32 := Nat.ne_of_lt (by rw [g32]; exact V1.lt)
  show own_Ends prg e below s _ _ _ T32 (mkF m 33 #[.val (.ref a), .val (.ref b), .val (.ref f)] [(.ref h0.size), (.ref a)])
  rw [← g32]
  obtain ⟨T38, X38, e38, st38⟩ := castY X32 hx hZ hown (own_w25 hw) e32 (Ins.self Ex32) (g := (mkF m 33 #[.val (.ref a), .val (.ref b), .val (.ref f)] [(.ref a32), (.ref a)])) rfl rfl (hb hby own_d3_33)
  refine own_go st38 ?_
  show own_Ends prg e below s _ _ _ T38 (mkF m 36 #[.val (.ref a), .val (.ref b), .val (.ref f)] [(.ref a32), (.ref a)])
  have f39 := (F0.ext E32)
  have f40 := (E0.ext E32)
  obtain ⟨T41, h41, X41, e41, W41, st41⟩ := putF X38 hx hZ hown (host := "") (Or.inl (own_w27 hw)) Via.refl e38 f39 f40 (Or.inr ⟨(own_w28 hw), rfl, hnm⟩) (own_w10 hw) (ty := (.array .int)) (by decide) rfl rfl (g := (mkF m 36 #[.val (.ref a), .val (.ref b), .val (.ref f)] [(.ref a32), (.ref a)])) rfl rfl (hb hby own_d3_36)
  refine own_go st41 ?_
  have Fw41 := f39.same W41
  have N41 := Fr.snoc X41 N0 ge0
  show own_Ends prg e below s _ _ _ T41 (mkF m 39 #[.val (.ref a), .val (.ref b), .val (.ref f)] [])
  refine own_aloadN (pc' := 40) X41 hx (hb hby own_d3_39) rfl rfl rfl ?_
  refine own_aloadN (pc' := 41) X41 hx (hb hby own_d3_40) rfl rfl rfl ?_
  have f42 := ((V1.ext E32).other W41 (Ne.symm naf))
  have f43 := ((Ef.ext E32).wr W41)
  obtain ⟨T44, h44, X44, e44, E44, V44, Ex44, st44⟩ := cloneH X41 hx hZ hown (own_w29 hw) (own_w30 hw) (own_w23 hw) (own_w21 hw) (own_w31 hw) (own_w32 hw) e41 (hs := []) f42 f43 (g := (mkF m 41 #[.val (.ref a), .val (.ref b), .val (.ref f)] [(.ref f), (.ref a)])) rfl (by rw [hml]; rfl) (rest := [(.ref a)]) rfl (hb hby own_d3_41) (by decide) (W := 1) (by exact Nat.le_of_eq rfl) (by decide) (cap := 0) (by decide) (by decide) (by decide)
  refine own_go st44 ?_
  replace V44 : Arv Z h44 h41.size fk .double (0 : Int32) [] (.double 0) := V44
  obtain ⟨a44, g44⟩ : ∃ z, z = h41.size := ⟨_, rfl⟩
  rw [← g44] at V44 Ex44
  have f45 := (Nat.le_trans (Nat.le_trans Z0 E32.1) (Keep.of_wr W41).1)
  have ge46 : n0 ≤ a44 := by rw [g44]; exact f45
  have f47 := ((K0.ext E32).wr W41 (Or.inl (List.mem_of_getElem? (i := 0) rfl)))
  have sz48 : h0.size ≤ a44 := by rw [g44]; exact f47.1
  have f49 := (f40.wr W41)
  have ne50 : a ≠ a44 := Nat.ne_of_lt (by rw [g44]; exact f49.lt)
  have f51 := ((V0.ext E32).other W41 (Ne.symm nab))
  have ne52 : b ≠ a44 := Nat.ne_of_lt (by rw [g44]; exact f51.lt)
  have ne53 : f ≠ a44 := Nat.ne_of_lt (by rw [g44]; exact f42.lt)
  have f54 := (V32.other W41 (Ne.symm ne35))
  have ne55 : a32 ≠ a44 := Nat.ne_of_lt (by rw [g44]; exact f54.lt)
  show own_Ends prg e below s _ _ _ T44 (mkF m 44 #[.val (.ref a), .val (.ref b), .val (.ref f)] [(.ref h41.size), (.ref a)])
  rw [← g44]
  obtain ⟨T56, X56, e56, st56⟩ := castY X44 hx hZ hown (own_w33 hw) e44 (Ins.self Ex44) (g := (mkF m 44 #[.val (.ref a), .val (.ref b), .val (.ref f)] [(.ref a44), (.ref a)])) rfl rfl (hb hby own_d3_44)
  refine own_go st56 ?_
  show own_Ends prg e below s _ _ _ T56 (mkF m 47 #[.val (.ref a), .val (.ref b), .val (.ref f)] [(.ref a44), (.ref a)])
  have f57 := (((F1.ext E32).other W41 (Or.inr (slot_ne (Or.inr (own_w36 hw)) (Or.inr (own_w28 hw)) (by decide) (t := (.array .double)) (t' := (.array .int)) (by decide) (by decide)))).ext E44)
  have f58 := (f49.ext E44)
  obtain ⟨T59, h59, X59, e59, W59, st59⟩ := putF X56 hx hZ hown (host := "") (Or.inl (own_w35 hw)) Via.refl e56 f57 f58 (Or.inr ⟨(own_w36 hw), rfl, hnm⟩) (own_w10 hw) (ty := (.array .double)) (by decide) rfl rfl (g := (mkF m 47 #[.val (.ref a), .val (.ref b), .val (.ref f)] [(.ref a44), (.ref a)])) rfl rfl (hb hby own_d3_47)
  refine own_go st59 ?_
  have Fw59 := f57.same W59
  have N59 := Fr.snoc X59 N41 ge0
  show own_Ends prg e below s _ _ _ T59 (mkF m 50 #[.val (.ref a), .val (.ref b), .val (.ref f)] [])
  refine own_retV X59 hx hlk hret (hb hby own_d3_50) (by decide) (by decide) ?_
  have f60 := ((Fw41.ext E44).other W59 (Or.inr (slot_ne (Or.inr (own_w28 hw)) (Or.inr (own_w36 hw)) (by decide) (t := (.array .int)) (t' := (.array .double)) (by decide) (by decide))))
  have f61 := ((f54.ext E44).other W59 (Ne.symm ne35))
  have f62 := (V44.other W59 (Ne.symm ne50))
  have f63 := ((f47.ext E44).wr W59 (Or.inl (List.mem_of_getElem? (i := 0) rfl)))
  rw [e59]; exact ⟨_, _, _, _, rfl, N59, f63, sz34, sz48, ne55, f60, Fw59, f61, f62⟩
def own_room3_1 : Room := { frames := 1, cells := 2, slots := 2, locals := 15 }
def own_Q3_1 (Z : State) (a : Addr) (b : Addr) (f : Addr) (bk : ClassId) (fk : ClassId) (x0 : Int32) (q0 : UInt64) (u0 : Value) (u1 : Value) (h0 : Heap) (n0 : Nat) (v : Option Value) (h : Heap) (L : List Loc) : Prop := ∃ (ca : Addr) (pa : Addr) (ck : ClassId) (pk : ClassId), v = none ∧ Fr n0 L ∧ Keep h0 h [a] ∧ h0.size ≤ ca ∧ h0.size ≤ pa ∧ ca ≠ pa ∧ Fld Z h a "com/example/mapwright/mapwright/ArcLoads" "arcs" "[I" (.ref ca) ∧ Fld Z h a "com/example/mapwright/mapwright/ArcLoads" "perUnit" "[D" (.ref pa) ∧ Arv Z h ca ck .int (1 : Int32) [(.int x0)] (.int (0 : Int32)) ∧ Arv Z h pa pk .double (1 : Int32) [(.double q0)] (.double 0)
theorem own_ef_rm3_1 (m : MethodId) (x0 : Addr) (x1 : Addr) (x2 : Addr) : entryFrame m #[(.ref x0), (.ref x1), (.ref x2)] 3 = mkF m 0 #[.val (.ref x0), .val (.ref x1), .val (.ref x2)] [] := by first | (simp [entryFrame, mkF, argsToLocals, Value.category]; done) | rfl
set_option maxRecDepth 65536 in
set_option maxHeartbeats 40000000 in
theorem own_rm3_1 (lch : Launch) (Z : State) (a0 : Array Value) (hw : ∀ d ∈ tables_1, d.before a0 Z = true) (ws : List Jvm.Cond) (a : Addr) (b : Addr) (f : Addr) (bk : ClassId) (fk : ClassId) (x0 : Int32) (q0 : UInt64) (u0 : Value) (u1 : Value) (h0 : Heap) (n0 : Nat) (Z0 : n0 ≤ h0.size) (E0 : Exa Z h0 a "com/example/mapwright/mapwright/ArcLoads") (F0 : Fld Z h0 a "com/example/mapwright/mapwright/ArcLoads" "arcs" "[I" u0) (F1 : Fld Z h0 a "com/example/mapwright/mapwright/ArcLoads" "perUnit" "[D" u1) (ge0 : n0 ≤ a) (V0 : Arv Z h0 b bk .int (1 : Int32) [(.int x0)] (.int (0 : Int32))) (Eb : Exa Z h0 b "[I") (V1 : Arv Z h0 f fk .double (1 : Int32) [(.double q0)] (.double 0)) (Ef : Exa Z h0 f "[D") (nab : a ≠ b) (naf : a ≠ f) (nbf : b ≠ f) :
    MetFree lch (⟨"com/example/mapwright/mapwright/ArcLoads", "<init>", "([I[D)V"⟩ : MethodName) (head1 (Jvm.Cond.code (⟨"com/example/mapwright/mapwright/ArcLoads", "<init>", "([I[D)V"⟩ : MethodName) prog_1_method_1_code 3 none :: ws) own_room3_1) (fun zz U => zz = #[(.ref a), (.ref b), (.ref f)] ∧ Z.Warmed39 U.vm ∧ U.heap = h0) (fun _ _ _ _ _ => True) (fun _ U o U' => ∃ v L, o = .returned v ∧ own_Q3_1 Z a b f bk fk x0 q0 u0 u1 h0 n0 v U'.heap L ∧ FrameEnd U o U' L own_room3_1.cells own_room3_1.slots) := by
  refine MetFree.of_bodySF (plainFor_of_name own_pn1) hisR ?_
  intro prg e s m args below meth c s₁ Bd hml0 hP hK
  obtain ⟨rfl, hZ, hh⟩ := hP
  have hx := Bd.exec
  have hby := Bd.bytes
  have hml : c.maxLocals = 3 := hml0
  have hown : s.vm.findClass "com/example/mapwright/mapwright/ArcLoads" = some m.cls := findClass_of_methodNamed Bd.named
  have hnm := (name_of_methodNamed Bd.named Bd.method).1
  have hlk : meth.locks = false := BodyLoose.notSynchronized Bd
  have hret := Bd.returns
  have X0 : Stand prg lch e own_room3_1 s m #[(.ref a), (.ref b), (.ref f)] below meth c s₁ [] 0 0 := Stand.of_body Bd
  have e0 : s₁.heap = h0 := by rw [← hh, Bd.state]; rfl
  have N0 := Fr.nil n0
  show own_Ends prg e below s (own_Q3_1 Z a b f bk fk x0 q0 u0 u1 h0 n0) own_room3_1.cells own_room3_1.slots s₁ (entryFrame m #[(.ref a), (.ref b), (.ref f)] 3)
  refine own_cast (own_ef_rm3_1 m a b f) ?_
  have K0 := Keep.refl h0 ([a] : List Addr)
  refine own_aloadN (pc' := 1) X0 hx (hb hby own_d3_0) rfl rfl rfl ?_
  obtain ⟨T31, X31, e31, st31⟩ := initO X0 hx hZ hown (own_w15 hw) (own_w16 hw) (own_w17 hw) e0 (g := (mkF m 1 #[.val (.ref a), .val (.ref b), .val (.ref f)] [(.ref a)])) rfl (by rw [hml]; rfl) rfl (hb hby own_d3_1) (by decide) (W := 0) (by show 2 * 0 + _ ≤ _; exact Nat.le_of_eq rfl) (by decide)
  refine own_go st31 ?_
  show own_Ends prg e below s _ _ _ T31 (mkF m 4 #[.val (.ref a), .val (.ref b), .val (.ref f)] [])
  refine own_aloadN (pc' := 5) X31 hx (hb hby own_d3_4) rfl rfl rfl ?_
  refine own_alen (pc' := 6) X31 hx hZ e31 V0 (hb hby own_d3_5) rfl ?_
  refine own_aloadN (pc' := 7) X31 hx (hb hby own_d3_6) rfl rfl rfl ?_
  refine own_alen (pc' := 8) X31 hx hZ e31 V1 (hb hby own_d3_7) rfl ?_
  refine own_icmpYes (pc' := 28) X31 hx (hb hby own_d3_8) (teq (by decide)).1 (by decide) (by decide) ?_
  refine own_aloadN (pc' := 29) X31 hx (hb hby own_d3_28) rfl rfl rfl ?_
  refine own_aloadN (pc' := 30) X31 hx (hb hby own_d3_29) rfl rfl rfl ?_
  obtain ⟨T32, h32, X32, e32, E32, V32, Ex32, st32⟩ := cloneH X31 hx hZ hown (own_w18 hw) (own_w19 hw) (own_w23 hw) (own_w21 hw) (own_w22 hw) (own_w24 hw) e31 (hs := []) V0 Eb (g := (mkF m 30 #[.val (.ref a), .val (.ref b), .val (.ref f)] [(.ref b), (.ref a)])) rfl (by rw [hml]; rfl) (rest := [(.ref a)]) rfl (hb hby own_d3_30) (by decide) (W := 1) (by exact Nat.le_of_eq rfl) (by decide) (cap := 1) (by decide) (by decide) (by decide)
  refine own_go st32 ?_
  replace V32 : Arv Z h32 h0.size bk .int (1 : Int32) [(.int x0)] (.int (0 : Int32)) := V32
  obtain ⟨a32, g32⟩ : ∃ z, z = h0.size := ⟨_, rfl⟩
  rw [← g32] at V32 Ex32
  have ge33 : n0 ≤ a32 := by rw [g32]; exact Z0
  have sz34 : h0.size ≤ a32 := by rw [g32]; exact K0.1
  have ne35 : a ≠ a32 := Nat.ne_of_lt (by rw [g32]; exact E0.lt)
  have ne36 : b ≠ a32 := Nat.ne_of_lt (by rw [g32]; exact V0.lt)
  have ne37 : f ≠ a32 := Nat.ne_of_lt (by rw [g32]; exact V1.lt)
  show own_Ends prg e below s _ _ _ T32 (mkF m 33 #[.val (.ref a), .val (.ref b), .val (.ref f)] [(.ref h0.size), (.ref a)])
  rw [← g32]
  obtain ⟨T38, X38, e38, st38⟩ := castY X32 hx hZ hown (own_w25 hw) e32 (Ins.self Ex32) (g := (mkF m 33 #[.val (.ref a), .val (.ref b), .val (.ref f)] [(.ref a32), (.ref a)])) rfl rfl (hb hby own_d3_33)
  refine own_go st38 ?_
  show own_Ends prg e below s _ _ _ T38 (mkF m 36 #[.val (.ref a), .val (.ref b), .val (.ref f)] [(.ref a32), (.ref a)])
  have f39 := (F0.ext E32)
  have f40 := (E0.ext E32)
  obtain ⟨T41, h41, X41, e41, W41, st41⟩ := putF X38 hx hZ hown (host := "") (Or.inl (own_w27 hw)) Via.refl e38 f39 f40 (Or.inr ⟨(own_w28 hw), rfl, hnm⟩) (own_w10 hw) (ty := (.array .int)) (by decide) rfl rfl (g := (mkF m 36 #[.val (.ref a), .val (.ref b), .val (.ref f)] [(.ref a32), (.ref a)])) rfl rfl (hb hby own_d3_36)
  refine own_go st41 ?_
  have Fw41 := f39.same W41
  have N41 := Fr.snoc X41 N0 ge0
  show own_Ends prg e below s _ _ _ T41 (mkF m 39 #[.val (.ref a), .val (.ref b), .val (.ref f)] [])
  refine own_aloadN (pc' := 40) X41 hx (hb hby own_d3_39) rfl rfl rfl ?_
  refine own_aloadN (pc' := 41) X41 hx (hb hby own_d3_40) rfl rfl rfl ?_
  have f42 := ((V1.ext E32).other W41 (Ne.symm naf))
  have f43 := ((Ef.ext E32).wr W41)
  obtain ⟨T44, h44, X44, e44, E44, V44, Ex44, st44⟩ := cloneH X41 hx hZ hown (own_w29 hw) (own_w30 hw) (own_w23 hw) (own_w21 hw) (own_w31 hw) (own_w32 hw) e41 (hs := []) f42 f43 (g := (mkF m 41 #[.val (.ref a), .val (.ref b), .val (.ref f)] [(.ref f), (.ref a)])) rfl (by rw [hml]; rfl) (rest := [(.ref a)]) rfl (hb hby own_d3_41) (by decide) (W := 1) (by exact Nat.le_of_eq rfl) (by decide) (cap := 1) (by decide) (by decide) (by decide)
  refine own_go st44 ?_
  replace V44 : Arv Z h44 h41.size fk .double (1 : Int32) [(.double q0)] (.double 0) := V44
  obtain ⟨a44, g44⟩ : ∃ z, z = h41.size := ⟨_, rfl⟩
  rw [← g44] at V44 Ex44
  have f45 := (Nat.le_trans (Nat.le_trans Z0 E32.1) (Keep.of_wr W41).1)
  have ge46 : n0 ≤ a44 := by rw [g44]; exact f45
  have f47 := ((K0.ext E32).wr W41 (Or.inl (List.mem_of_getElem? (i := 0) rfl)))
  have sz48 : h0.size ≤ a44 := by rw [g44]; exact f47.1
  have f49 := (f40.wr W41)
  have ne50 : a ≠ a44 := Nat.ne_of_lt (by rw [g44]; exact f49.lt)
  have f51 := ((V0.ext E32).other W41 (Ne.symm nab))
  have ne52 : b ≠ a44 := Nat.ne_of_lt (by rw [g44]; exact f51.lt)
  have ne53 : f ≠ a44 := Nat.ne_of_lt (by rw [g44]; exact f42.lt)
  have f54 := (V32.other W41 (Ne.symm ne35))
  have ne55 : a32 ≠ a44 := Nat.ne_of_lt (by rw [g44]; exact f54.lt)
  show own_Ends prg e below s _ _ _ T44 (mkF m 44 #[.val (.ref a), .val (.ref b), .val (.ref f)] [(.ref h41.size), (.ref a)])
  rw [← g44]
  obtain ⟨T56, X56, e56, st56⟩ := castY X44 hx hZ hown (own_w33 hw) e44 (Ins.self Ex44) (g := (mkF m 44 #[.val (.ref a), .val (.ref b), .val (.ref f)] [(.ref a44), (.ref a)])) rfl rfl (hb hby own_d3_44)
  refine own_go st56 ?_
  show own_Ends prg e below s _ _ _ T56 (mkF m 47 #[.val (.ref a), .val (.ref b), .val (.ref f)] [(.ref a44), (.ref a)])
  have f57 := (((F1.ext E32).other W41 (Or.inr (slot_ne (Or.inr (own_w36 hw)) (Or.inr (own_w28 hw)) (by decide) (t := (.array .double)) (t' := (.array .int)) (by decide) (by decide)))).ext E44)
  have f58 := (f49.ext E44)
  obtain ⟨T59, h59, X59, e59, W59, st59⟩ := putF X56 hx hZ hown (host := "") (Or.inl (own_w35 hw)) Via.refl e56 f57 f58 (Or.inr ⟨(own_w36 hw), rfl, hnm⟩) (own_w10 hw) (ty := (.array .double)) (by decide) rfl rfl (g := (mkF m 47 #[.val (.ref a), .val (.ref b), .val (.ref f)] [(.ref a44), (.ref a)])) rfl rfl (hb hby own_d3_47)
  refine own_go st59 ?_
  have Fw59 := f57.same W59
  have N59 := Fr.snoc X59 N41 ge0
  show own_Ends prg e below s _ _ _ T59 (mkF m 50 #[.val (.ref a), .val (.ref b), .val (.ref f)] [])
  refine own_retV X59 hx hlk hret (hb hby own_d3_50) (by decide) (by decide) ?_
  have f60 := ((Fw41.ext E44).other W59 (Or.inr (slot_ne (Or.inr (own_w28 hw)) (Or.inr (own_w36 hw)) (by decide) (t := (.array .int)) (t' := (.array .double)) (by decide) (by decide))))
  have f61 := ((f54.ext E44).other W59 (Ne.symm ne35))
  have f62 := (V44.other W59 (Ne.symm ne50))
  have f63 := ((f47.ext E44).wr W59 (Or.inl (List.mem_of_getElem? (i := 0) rfl)))
  rw [e59]; exact ⟨_, _, _, _, rfl, N59, f63, sz34, sz48, ne55, f60, Fw59, f61, f62⟩
def own_room3_2 : Room := { frames := 1, cells := 2, slots := 4, locals := 15 }
def own_Q3_2 (Z : State) (a : Addr) (b : Addr) (f : Addr) (bk : ClassId) (fk : ClassId) (x0 : Int32) (x1 : Int32) (q0 : UInt64) (q1 : UInt64) (u0 : Value) (u1 : Value) (h0 : Heap) (n0 : Nat) (v : Option Value) (h : Heap) (L : List Loc) : Prop := ∃ (ca : Addr) (pa : Addr) (ck : ClassId) (pk : ClassId), v = none ∧ Fr n0 L ∧ Keep h0 h [a] ∧ h0.size ≤ ca ∧ h0.size ≤ pa ∧ ca ≠ pa ∧ Fld Z h a "com/example/mapwright/mapwright/ArcLoads" "arcs" "[I" (.ref ca) ∧ Fld Z h a "com/example/mapwright/mapwright/ArcLoads" "perUnit" "[D" (.ref pa) ∧ Arv Z h ca ck .int (2 : Int32) [(.int x0), (.int x1)] (.int (0 : Int32)) ∧ Arv Z h pa pk .double (2 : Int32) [(.double q0), (.double q1)] (.double 0)
theorem own_ef_rm3_2 (m : MethodId) (x0 : Addr) (x1 : Addr) (x2 : Addr) : entryFrame m #[(.ref x0), (.ref x1), (.ref x2)] 3 = mkF m 0 #[.val (.ref x0), .val (.ref x1), .val (.ref x2)] [] := by first | (simp [entryFrame, mkF, argsToLocals, Value.category]; done) | rfl
set_option maxRecDepth 65536 in
set_option maxHeartbeats 40000000 in
theorem own_rm3_2 (lch : Launch) (Z : State) (a0 : Array Value) (hw : ∀ d ∈ tables_1, d.before a0 Z = true) (ws : List Jvm.Cond) (a : Addr) (b : Addr) (f : Addr) (bk : ClassId) (fk : ClassId) (x0 : Int32) (x1 : Int32) (q0 : UInt64) (q1 : UInt64) (u0 : Value) (u1 : Value) (h0 : Heap) (n0 : Nat) (Z0 : n0 ≤ h0.size) (E0 : Exa Z h0 a "com/example/mapwright/mapwright/ArcLoads") (F0 : Fld Z h0 a "com/example/mapwright/mapwright/ArcLoads" "arcs" "[I" u0) (F1 : Fld Z h0 a "com/example/mapwright/mapwright/ArcLoads" "perUnit" "[D" u1) (ge0 : n0 ≤ a) (V0 : Arv Z h0 b bk .int (2 : Int32) [(.int x0), (.int x1)] (.int (0 : Int32))) (Eb : Exa Z h0 b "[I") (V1 : Arv Z h0 f fk .double (2 : Int32) [(.double q0), (.double q1)] (.double 0)) (Ef : Exa Z h0 f "[D") (nab : a ≠ b) (naf : a ≠ f) (nbf : b ≠ f) :
    MetFree lch (⟨"com/example/mapwright/mapwright/ArcLoads", "<init>", "([I[D)V"⟩ : MethodName) (head1 (Jvm.Cond.code (⟨"com/example/mapwright/mapwright/ArcLoads", "<init>", "([I[D)V"⟩ : MethodName) prog_1_method_1_code 3 none :: ws) own_room3_2) (fun zz U => zz = #[(.ref a), (.ref b), (.ref f)] ∧ Z.Warmed39 U.vm ∧ U.heap = h0) (fun _ _ _ _ _ => True) (fun _ U o U' => ∃ v L, o = .returned v ∧ own_Q3_2 Z a b f bk fk x0 x1 q0 q1 u0 u1 h0 n0 v U'.heap L ∧ FrameEnd U o U' L own_room3_2.cells own_room3_2.slots) := by
  refine MetFree.of_bodySF (plainFor_of_name own_pn1) hisR ?_
  intro prg e s m args below meth c s₁ Bd hml0 hP hK
  obtain ⟨rfl, hZ, hh⟩ := hP
  have hx := Bd.exec
  have hby := Bd.bytes
  have hml : c.maxLocals = 3 := hml0
  have hown : s.vm.findClass "com/example/mapwright/mapwright/ArcLoads" = some m.cls := findClass_of_methodNamed Bd.named
  have hnm := (name_of_methodNamed Bd.named Bd.method).1
  have hlk : meth.locks = false := BodyLoose.notSynchronized Bd
  have hret := Bd.returns
  have X0 : Stand prg lch e own_room3_2 s m #[(.ref a), (.ref b), (.ref f)] below meth c s₁ [] 0 0 := Stand.of_body Bd
  have e0 : s₁.heap = h0 := by rw [← hh, Bd.state]; rfl
  have N0 := Fr.nil n0
  show own_Ends prg e below s (own_Q3_2 Z a b f bk fk x0 x1 q0 q1 u0 u1 h0 n0) own_room3_2.cells own_room3_2.slots s₁ (entryFrame m #[(.ref a), (.ref b), (.ref f)] 3)
  refine own_cast (own_ef_rm3_2 m a b f) ?_
  have K0 := Keep.refl h0 ([a] : List Addr)
  refine own_aloadN (pc' := 1) X0 hx (hb hby own_d3_0) rfl rfl rfl ?_
  obtain ⟨T31, X31, e31, st31⟩ := initO X0 hx hZ hown (own_w15 hw) (own_w16 hw) (own_w17 hw) e0 (g := (mkF m 1 #[.val (.ref a), .val (.ref b), .val (.ref f)] [(.ref a)])) rfl (by rw [hml]; rfl) rfl (hb hby own_d3_1) (by decide) (W := 0) (by show 2 * 0 + _ ≤ _; exact Nat.le_of_eq rfl) (by decide)
  refine own_go st31 ?_
  show own_Ends prg e below s _ _ _ T31 (mkF m 4 #[.val (.ref a), .val (.ref b), .val (.ref f)] [])
  refine own_aloadN (pc' := 5) X31 hx (hb hby own_d3_4) rfl rfl rfl ?_
  refine own_alen (pc' := 6) X31 hx hZ e31 V0 (hb hby own_d3_5) rfl ?_
  refine own_aloadN (pc' := 7) X31 hx (hb hby own_d3_6) rfl rfl rfl ?_
  refine own_alen (pc' := 8) X31 hx hZ e31 V1 (hb hby own_d3_7) rfl ?_
  refine own_icmpYes (pc' := 28) X31 hx (hb hby own_d3_8) (teq (by decide)).1 (by decide) (by decide) ?_
  refine own_aloadN (pc' := 29) X31 hx (hb hby own_d3_28) rfl rfl rfl ?_
  refine own_aloadN (pc' := 30) X31 hx (hb hby own_d3_29) rfl rfl rfl ?_
  obtain ⟨T32, h32, X32, e32, E32, V32, Ex32, st32⟩ := cloneH X31 hx hZ hown (own_w18 hw) (own_w19 hw) (own_w23 hw) (own_w21 hw) (own_w22 hw) (own_w24 hw) e31 (hs := []) V0 Eb (g := (mkF m 30 #[.val (.ref a), .val (.ref b), .val (.ref f)] [(.ref b), (.ref a)])) rfl (by rw [hml]; rfl) (rest := [(.ref a)]) rfl (hb hby own_d3_30) (by decide) (W := 1) (by exact Nat.le_of_eq rfl) (by decide) (cap := 2) (by decide) (by decide) (by decide)
  refine own_go st32 ?_
  replace V32 : Arv Z h32 h0.size bk .int (2 : Int32) [(.int x0), (.int x1)] (.int (0 : Int32)) := V32
  obtain ⟨a32, g32⟩ : ∃ z, z = h0.size := ⟨_, rfl⟩
  rw [← g32] at V32 Ex32
  have ge33 : n0 ≤ a32 := by rw [g32]; exact Z0
  have sz34 : h0.size ≤ a32 := by rw [g32]; exact K0.1
  have ne35 : a ≠ a32 := Nat.ne_of_lt (by rw [g32]; exact E0.lt)
  have ne36 : b ≠ a32 := Nat.ne_of_lt (by rw [g32]; exact V0.lt)
  have ne37 : f ≠ a32 := Nat.ne_of_lt (by rw [g32]; exact V1.lt)
  show own_Ends prg e below s _ _ _ T32 (mkF m 33 #[.val (.ref a), .val (.ref b), .val (.ref f)] [(.ref h0.size), (.ref a)])
  rw [← g32]
  obtain ⟨T38, X38, e38, st38⟩ := castY X32 hx hZ hown (own_w25 hw) e32 (Ins.self Ex32) (g := (mkF m 33 #[.val (.ref a), .val (.ref b), .val (.ref f)] [(.ref a32), (.ref a)])) rfl rfl (hb hby own_d3_33)
  refine own_go st38 ?_
  show own_Ends prg e below s _ _ _ T38 (mkF m 36 #[.val (.ref a), .val (.ref b), .val (.ref f)] [(.ref a32), (.ref a)])
  have f39 := (F0.ext E32)
  have f40 := (E0.ext E32)
  obtain ⟨T41, h41, X41, e41, W41, st41⟩ := putF X38 hx hZ hown (host := "") (Or.inl (own_w27 hw)) Via.refl e38 f39 f40 (Or.inr ⟨(own_w28 hw), rfl, hnm⟩) (own_w10 hw) (ty := (.array .int)) (by decide) rfl rfl (g := (mkF m 36 #[.val (.ref a), .val (.ref b), .val (.ref f)] [(.ref a32), (.ref a)])) rfl rfl (hb hby own_d3_36)
  refine own_go st41 ?_
  have Fw41 := f39.same W41
  have N41 := Fr.snoc X41 N0 ge0
  show own_Ends prg e below s _ _ _ T41 (mkF m 39 #[.val (.ref a), .val (.ref b), .val (.ref f)] [])
  refine own_aloadN (pc' := 40) X41 hx (hb hby own_d3_39) rfl rfl rfl ?_
  refine own_aloadN (pc' := 41) X41 hx (hb hby own_d3_40) rfl rfl rfl ?_
  have f42 := ((V1.ext E32).other W41 (Ne.symm naf))
  have f43 := ((Ef.ext E32).wr W41)
  obtain ⟨T44, h44, X44, e44, E44, V44, Ex44, st44⟩ := cloneH X41 hx hZ hown (own_w29 hw) (own_w30 hw) (own_w23 hw) (own_w21 hw) (own_w31 hw) (own_w32 hw) e41 (hs := []) f42 f43 (g := (mkF m 41 #[.val (.ref a), .val (.ref b), .val (.ref f)] [(.ref f), (.ref a)])) rfl (by rw [hml]; rfl) (rest := [(.ref a)]) rfl (hb hby own_d3_41) (by decide) (W := 1) (by exact Nat.le_of_eq rfl) (by decide) (cap := 2) (by decide) (by decide) (by decide)
  refine own_go st44 ?_
  replace V44 : Arv Z h44 h41.size fk .double (2 : Int32) [(.double q0), (.double q1)] (.double 0) := V44
  obtain ⟨a44, g44⟩ : ∃ z, z = h41.size := ⟨_, rfl⟩
  rw [← g44] at V44 Ex44
  have f45 := (Nat.le_trans (Nat.le_trans Z0 E32.1) (Keep.of_wr W41).1)
  have ge46 : n0 ≤ a44 := by rw [g44]; exact f45
  have f47 := ((K0.ext E32).wr W41 (Or.inl (List.mem_of_getElem? (i := 0) rfl)))
  have sz48 : h0.size ≤ a44 := by rw [g44]; exact f47.1
  have f49 := (f40.wr W41)
  have ne50 : a ≠ a44 := Nat.ne_of_lt (by rw [g44]; exact f49.lt)
  have f51 := ((V0.ext E32).other W41 (Ne.symm nab))
  have ne52 : b ≠ a44 := Nat.ne_of_lt (by rw [g44]; exact f51.lt)
  have ne53 : f ≠ a44 := Nat.ne_of_lt (by rw [g44]; exact f42.lt)
  have f54 := (V32.other W41 (Ne.symm ne35))
  have ne55 : a32 ≠ a44 := Nat.ne_of_lt (by rw [g44]; exact f54.lt)
  show own_Ends prg e below s _ _ _ T44 (mkF m 44 #[.val (.ref a), .val (.ref b), .val (.ref f)] [(.ref h41.size), (.ref a)])
  rw [← g44]
  obtain ⟨T56, X56, e56, st56⟩ := castY X44 hx hZ hown (own_w33 hw) e44 (Ins.self Ex44) (g := (mkF m 44 #[.val (.ref a), .val (.ref b), .val (.ref f)] [(.ref a44), (.ref a)])) rfl rfl (hb hby own_d3_44)
  refine own_go st56 ?_
  show own_Ends prg e below s _ _ _ T56 (mkF m 47 #[.val (.ref a), .val (.ref b), .val (.ref f)] [(.ref a44), (.ref a)])
  have f57 := (((F1.ext E32).other W41 (Or.inr (slot_ne (Or.inr (own_w36 hw)) (Or.inr (own_w28 hw)) (by decide) (t := (.array .double)) (t' := (.array .int)) (by decide) (by decide)))).ext E44)
  have f58 := (f49.ext E44)
  obtain ⟨T59, h59, X59, e59, W59, st59⟩ := putF X56 hx hZ hown (host := "") (Or.inl (own_w35 hw)) Via.refl e56 f57 f58 (Or.inr ⟨(own_w36 hw), rfl, hnm⟩) (own_w10 hw) (ty := (.array .double)) (by decide) rfl rfl (g := (mkF m 47 #[.val (.ref a), .val (.ref b), .val (.ref f)] [(.ref a44), (.ref a)])) rfl rfl (hb hby own_d3_47)
  refine own_go st59 ?_
  have Fw59 := f57.same W59
  have N59 := Fr.snoc X59 N41 ge0
  show own_Ends prg e below s _ _ _ T59 (mkF m 50 #[.val (.ref a), .val (.ref b), .val (.ref f)] [])
  refine own_retV X59 hx hlk hret (hb hby own_d3_50) (by decide) (by decide) ?_
  have f60 := ((Fw41.ext E44).other W59 (Or.inr (slot_ne (Or.inr (own_w28 hw)) (Or.inr (own_w36 hw)) (by decide) (t := (.array .int)) (t' := (.array .double)) (by decide) (by decide))))
  have f61 := ((f54.ext E44).other W59 (Ne.symm ne35))
  have f62 := (V44.other W59 (Ne.symm ne50))
  have f63 := ((f47.ext E44).wr W59 (Or.inl (List.mem_of_getElem? (i := 0) rfl)))
  rw [e59]; exact ⟨_, _, _, _, rfl, N59, f63, sz34, sz48, ne55, f60, Fw59, f61, f62⟩
def own_room3_3 : Room := { frames := 1, cells := 2, slots := 6, locals := 15 }
def own_Q3_3 (Z : State) (a : Addr) (b : Addr) (f : Addr) (bk : ClassId) (fk : ClassId) (x0 : Int32) (x1 : Int32) (x2 : Int32) (q0 : UInt64) (q1 : UInt64) (q2 : UInt64) (u0 : Value) (u1 : Value) (h0 : Heap) (n0 : Nat) (v : Option Value) (h : Heap) (L : List Loc) : Prop := ∃ (ca : Addr) (pa : Addr) (ck : ClassId) (pk : ClassId), v = none ∧ Fr n0 L ∧ Keep h0 h [a] ∧ h0.size ≤ ca ∧ h0.size ≤ pa ∧ ca ≠ pa ∧ Fld Z h a "com/example/mapwright/mapwright/ArcLoads" "arcs" "[I" (.ref ca) ∧ Fld Z h a "com/example/mapwright/mapwright/ArcLoads" "perUnit" "[D" (.ref pa) ∧ Arv Z h ca ck .int (3 : Int32) [(.int x0), (.int x1), (.int x2)] (.int (0 : Int32)) ∧ Arv Z h pa pk .double (3 : Int32) [(.double q0), (.double q1), (.double q2)] (.double 0)
theorem own_ef_rm3_3 (m : MethodId) (x0 : Addr) (x1 : Addr) (x2 : Addr) : entryFrame m #[(.ref x0), (.ref x1), (.ref x2)] 3 = mkF m 0 #[.val (.ref x0), .val (.ref x1), .val (.ref x2)] [] := by first | (simp [entryFrame, mkF, argsToLocals, Value.category]; done) | rfl
set_option maxRecDepth 65536 in
set_option maxHeartbeats 40000000 in
theorem own_rm3_3 (lch : Launch) (Z : State) (a0 : Array Value) (hw : ∀ d ∈ tables_1, d.before a0 Z = true) (ws : List Jvm.Cond) (a : Addr) (b : Addr) (f : Addr) (bk : ClassId) (fk : ClassId) (x0 : Int32) (x1 : Int32) (x2 : Int32) (q0 : UInt64) (q1 : UInt64) (q2 : UInt64) (u0 : Value) (u1 : Value) (h0 : Heap) (n0 : Nat) (Z0 : n0 ≤ h0.size) (E0 : Exa Z h0 a "com/example/mapwright/mapwright/ArcLoads") (F0 : Fld Z h0 a "com/example/mapwright/mapwright/ArcLoads" "arcs" "[I" u0) (F1 : Fld Z h0 a "com/example/mapwright/mapwright/ArcLoads" "perUnit" "[D" u1) (ge0 : n0 ≤ a) (V0 : Arv Z h0 b bk .int (3 : Int32) [(.int x0), (.int x1), (.int x2)] (.int (0 : Int32))) (Eb : Exa Z h0 b "[I") (V1 : Arv Z h0 f fk .double (3 : Int32) [(.double q0), (.double q1), (.double q2)] (.double 0)) (Ef : Exa Z h0 f "[D") (nab : a ≠ b) (naf : a ≠ f) (nbf : b ≠ f) :
    MetFree lch (⟨"com/example/mapwright/mapwright/ArcLoads", "<init>", "([I[D)V"⟩ : MethodName) (head1 (Jvm.Cond.code (⟨"com/example/mapwright/mapwright/ArcLoads", "<init>", "([I[D)V"⟩ : MethodName) prog_1_method_1_code 3 none :: ws) own_room3_3) (fun zz U => zz = #[(.ref a), (.ref b), (.ref f)] ∧ Z.Warmed39 U.vm ∧ U.heap = h0) (fun _ _ _ _ _ => True) (fun _ U o U' => ∃ v L, o = .returned v ∧ own_Q3_3 Z a b f bk fk x0 x1 x2 q0 q1 q2 u0 u1 h0 n0 v U'.heap L ∧ FrameEnd U o U' L own_room3_3.cells own_room3_3.slots) := by
  refine MetFree.of_bodySF (plainFor_of_name own_pn1) hisR ?_
  intro prg e s m args below meth c s₁ Bd hml0 hP hK
  obtain ⟨rfl, hZ, hh⟩ := hP
  have hx := Bd.exec
  have hby := Bd.bytes
  have hml : c.maxLocals = 3 := hml0
  have hown : s.vm.findClass "com/example/mapwright/mapwright/ArcLoads" = some m.cls := findClass_of_methodNamed Bd.named
  have hnm := (name_of_methodNamed Bd.named Bd.method).1
  have hlk : meth.locks = false := BodyLoose.notSynchronized Bd
  have hret := Bd.returns
  have X0 : Stand prg lch e own_room3_3 s m #[(.ref a), (.ref b), (.ref f)] below meth c s₁ [] 0 0 := Stand.of_body Bd
  have e0 : s₁.heap = h0 := by rw [← hh, Bd.state]; rfl
  have N0 := Fr.nil n0
  show own_Ends prg e below s (own_Q3_3 Z a b f bk fk x0 x1 x2 q0 q1 q2 u0 u1 h0 n0) own_room3_3.cells own_room3_3.slots s₁ (entryFrame m #[(.ref a), (.ref b), (.ref f)] 3)
  refine own_cast (own_ef_rm3_3 m a b f) ?_
  have K0 := Keep.refl h0 ([a] : List Addr)
  refine own_aloadN (pc' := 1) X0 hx (hb hby own_d3_0) rfl rfl rfl ?_
  obtain ⟨T31, X31, e31, st31⟩ := initO X0 hx hZ hown (own_w15 hw) (own_w16 hw) (own_w17 hw) e0 (g := (mkF m 1 #[.val (.ref a), .val (.ref b), .val (.ref f)] [(.ref a)])) rfl (by rw [hml]; rfl) rfl (hb hby own_d3_1) (by decide) (W := 0) (by show 2 * 0 + _ ≤ _; exact Nat.le_of_eq rfl) (by decide)
  refine own_go st31 ?_
  show own_Ends prg e below s _ _ _ T31 (mkF m 4 #[.val (.ref a), .val (.ref b), .val (.ref f)] [])
  refine own_aloadN (pc' := 5) X31 hx (hb hby own_d3_4) rfl rfl rfl ?_
  refine own_alen (pc' := 6) X31 hx hZ e31 V0 (hb hby own_d3_5) rfl ?_
  refine own_aloadN (pc' := 7) X31 hx (hb hby own_d3_6) rfl rfl rfl ?_
  refine own_alen (pc' := 8) X31 hx hZ e31 V1 (hb hby own_d3_7) rfl ?_
  refine own_icmpYes (pc' := 28) X31 hx (hb hby own_d3_8) (teq (by decide)).1 (by decide) (by decide) ?_
  refine own_aloadN (pc' := 29) X31 hx (hb hby own_d3_28) rfl rfl rfl ?_
  refine own_aloadN (pc' := 30) X31 hx (hb hby own_d3_29) rfl rfl rfl ?_
  obtain ⟨T32, h32, X32, e32, E32, V32, Ex32, st32⟩ := cloneH X31 hx hZ hown (own_w18 hw) (own_w19 hw) (own_w23 hw) (own_w21 hw) (own_w22 hw) (own_w24 hw) e31 (hs := []) V0 Eb (g := (mkF m 30 #[.val (.ref a), .val (.ref b), .val (.ref f)] [(.ref b), (.ref a)])) rfl (by rw [hml]; rfl) (rest := [(.ref a)]) rfl (hb hby own_d3_30) (by decide) (W := 1) (by exact Nat.le_of_eq rfl) (by decide) (cap := 3) (by decide) (by decide) (by decide)
  refine own_go st32 ?_
  replace V32 : Arv Z h32 h0.size bk .int (3 : Int32) [(.int x0), (.int x1), (.int x2)] (.int (0 : Int32)) := V32
  obtain ⟨a32, g32⟩ : ∃ z, z = h0.size := ⟨_, rfl⟩
  rw [← g32] at V32 Ex32
  have ge33 : n0 ≤ a32 := by rw [g32]; exact Z0
  have sz34 : h0.size ≤ a32 := by rw [g32]; exact K0.1
  have ne35 : a ≠ a32 := Nat.ne_of_lt (by rw [g32]; exact E0.lt)
  have ne36 : b ≠ a32 := Nat.ne_of_lt (by rw [g32]; exact V0.lt)
  have ne37 : f ≠ a32 := Nat.ne_of_lt (by rw [g32]; exact V1.lt)
  show own_Ends prg e below s _ _ _ T32 (mkF m 33 #[.val (.ref a), .val (.ref b), .val (.ref f)] [(.ref h0.size), (.ref a)])
  rw [← g32]
  obtain ⟨T38, X38, e38, st38⟩ := castY X32 hx hZ hown (own_w25 hw) e32 (Ins.self Ex32) (g := (mkF m 33 #[.val (.ref a), .val (.ref b), .val (.ref f)] [(.ref a32), (.ref a)])) rfl rfl (hb hby own_d3_33)
  refine own_go st38 ?_
  show own_Ends prg e below s _ _ _ T38 (mkF m 36 #[.val (.ref a), .val (.ref b), .val (.ref f)] [(.ref a32), (.ref a)])
  have f39 := (F0.ext E32)
  have f40 := (E0.ext E32)
  obtain ⟨T41, h41, X41, e41, W41, st41⟩ := putF X38 hx hZ hown (host := "") (Or.inl (own_w27 hw)) Via.refl e38 f39 f40 (Or.inr ⟨(own_w28 hw), rfl, hnm⟩) (own_w10 hw) (ty := (.array .int)) (by decide) rfl rfl (g := (mkF m 36 #[.val (.ref a), .val (.ref b), .val (.ref f)] [(.ref a32), (.ref a)])) rfl rfl (hb hby own_d3_36)
  refine own_go st41 ?_
  have Fw41 := f39.same W41
  have N41 := Fr.snoc X41 N0 ge0
  show own_Ends prg e below s _ _ _ T41 (mkF m 39 #[.val (.ref a), .val (.ref b), .val (.ref f)] [])
  refine own_aloadN (pc' := 40) X41 hx (hb hby own_d3_39) rfl rfl rfl ?_
  refine own_aloadN (pc' := 41) X41 hx (hb hby own_d3_40) rfl rfl rfl ?_
  have f42 := ((V1.ext E32).other W41 (Ne.symm naf))
  have f43 := ((Ef.ext E32).wr W41)
  obtain ⟨T44, h44, X44, e44, E44, V44, Ex44, st44⟩ := cloneH X41 hx hZ hown (own_w29 hw) (own_w30 hw) (own_w23 hw) (own_w21 hw) (own_w31 hw) (own_w32 hw) e41 (hs := []) f42 f43 (g := (mkF m 41 #[.val (.ref a), .val (.ref b), .val (.ref f)] [(.ref f), (.ref a)])) rfl (by rw [hml]; rfl) (rest := [(.ref a)]) rfl (hb hby own_d3_41) (by decide) (W := 1) (by exact Nat.le_of_eq rfl) (by decide) (cap := 3) (by decide) (by decide) (by decide)
  refine own_go st44 ?_
  replace V44 : Arv Z h44 h41.size fk .double (3 : Int32) [(.double q0), (.double q1), (.double q2)] (.double 0) := V44
  obtain ⟨a44, g44⟩ : ∃ z, z = h41.size := ⟨_, rfl⟩
  rw [← g44] at V44 Ex44
  have f45 := (Nat.le_trans (Nat.le_trans Z0 E32.1) (Keep.of_wr W41).1)
  have ge46 : n0 ≤ a44 := by rw [g44]; exact f45
  have f47 := ((K0.ext E32).wr W41 (Or.inl (List.mem_of_getElem? (i := 0) rfl)))
  have sz48 : h0.size ≤ a44 := by rw [g44]; exact f47.1
  have f49 := (f40.wr W41)
  have ne50 : a ≠ a44 := Nat.ne_of_lt (by rw [g44]; exact f49.lt)
  have f51 := ((V0.ext E32).other W41 (Ne.symm nab))
  have ne52 : b ≠ a44 := Nat.ne_of_lt (by rw [g44]; exact f51.lt)
  have ne53 : f ≠ a44 := Nat.ne_of_lt (by rw [g44]; exact f42.lt)
  have f54 := (V32.other W41 (Ne.symm ne35))
  have ne55 : a32 ≠ a44 := Nat.ne_of_lt (by rw [g44]; exact f54.lt)
  show own_Ends prg e below s _ _ _ T44 (mkF m 44 #[.val (.ref a), .val (.ref b), .val (.ref f)] [(.ref h41.size), (.ref a)])
  rw [← g44]
  obtain ⟨T56, X56, e56, st56⟩ := castY X44 hx hZ hown (own_w33 hw) e44 (Ins.self Ex44) (g := (mkF m 44 #[.val (.ref a), .val (.ref b), .val (.ref f)] [(.ref a44), (.ref a)])) rfl rfl (hb hby own_d3_44)
  refine own_go st56 ?_
  show own_Ends prg e below s _ _ _ T56 (mkF m 47 #[.val (.ref a), .val (.ref b), .val (.ref f)] [(.ref a44), (.ref a)])
  have f57 := (((F1.ext E32).other W41 (Or.inr (slot_ne (Or.inr (own_w36 hw)) (Or.inr (own_w28 hw)) (by decide) (t := (.array .double)) (t' := (.array .int)) (by decide) (by decide)))).ext E44)
  have f58 := (f49.ext E44)
  obtain ⟨T59, h59, X59, e59, W59, st59⟩ := putF X56 hx hZ hown (host := "") (Or.inl (own_w35 hw)) Via.refl e56 f57 f58 (Or.inr ⟨(own_w36 hw), rfl, hnm⟩) (own_w10 hw) (ty := (.array .double)) (by decide) rfl rfl (g := (mkF m 47 #[.val (.ref a), .val (.ref b), .val (.ref f)] [(.ref a44), (.ref a)])) rfl rfl (hb hby own_d3_47)
  refine own_go st59 ?_
  have Fw59 := f57.same W59
  have N59 := Fr.snoc X59 N41 ge0
  show own_Ends prg e below s _ _ _ T59 (mkF m 50 #[.val (.ref a), .val (.ref b), .val (.ref f)] [])
  refine own_retV X59 hx hlk hret (hb hby own_d3_50) (by decide) (by decide) ?_
  have f60 := ((Fw41.ext E44).other W59 (Or.inr (slot_ne (Or.inr (own_w28 hw)) (Or.inr (own_w36 hw)) (by decide) (t := (.array .int)) (t' := (.array .double)) (by decide) (by decide))))
  have f61 := ((f54.ext E44).other W59 (Ne.symm ne35))
  have f62 := (V44.other W59 (Ne.symm ne50))
  have f63 := ((f47.ext E44).wr W59 (Or.inl (List.mem_of_getElem? (i := 0) rfl)))
  rw [e59]; exact ⟨_, _, _, _, rfl, N59, f63, sz34, sz48, ne55, f60, Fw59, f61, f62⟩
def own_room3_4 : Room := { frames := 1, cells := 2, slots := 8, locals := 15 }
def own_Q3_4 (Z : State) (a : Addr) (b : Addr) (f : Addr) (bk : ClassId) (fk : ClassId) (x0 : Int32) (x1 : Int32) (x2 : Int32) (x3 : Int32) (q0 : UInt64) (q1 : UInt64) (q2 : UInt64) (q3 : UInt64) (u0 : Value) (u1 : Value) (h0 : Heap) (n0 : Nat) (v : Option Value) (h : Heap) (L : List Loc) : Prop := ∃ (ca : Addr) (pa : Addr) (ck : ClassId) (pk : ClassId), v = none ∧ Fr n0 L ∧ Keep h0 h [a] ∧ h0.size ≤ ca ∧ h0.size ≤ pa ∧ ca ≠ pa ∧ Fld Z h a "com/example/mapwright/mapwright/ArcLoads" "arcs" "[I" (.ref ca) ∧ Fld Z h a "com/example/mapwright/mapwright/ArcLoads" "perUnit" "[D" (.ref pa) ∧ Arv Z h ca ck .int (4 : Int32) [(.int x0), (.int x1), (.int x2), (.int x3)] (.int (0 : Int32)) ∧ Arv Z h pa pk .double (4 : Int32) [(.double q0), (.double q1), (.double q2), (.double q3)] (.double 0)
theorem own_ef_rm3_4 (m : MethodId) (x0 : Addr) (x1 : Addr) (x2 : Addr) : entryFrame m #[(.ref x0), (.ref x1), (.ref x2)] 3 = mkF m 0 #[.val (.ref x0), .val (.ref x1), .val (.ref x2)] [] := by first | (simp [entryFrame, mkF, argsToLocals, Value.category]; done) | rfl
set_option maxRecDepth 65536 in
set_option maxHeartbeats 40000000 in
theorem own_rm3_4 (lch : Launch) (Z : State) (a0 : Array Value) (hw : ∀ d ∈ tables_1, d.before a0 Z = true) (ws : List Jvm.Cond) (a : Addr) (b : Addr) (f : Addr) (bk : ClassId) (fk : ClassId) (x0 : Int32) (x1 : Int32) (x2 : Int32) (x3 : Int32) (q0 : UInt64) (q1 : UInt64) (q2 : UInt64) (q3 : UInt64) (u0 : Value) (u1 : Value) (h0 : Heap) (n0 : Nat) (Z0 : n0 ≤ h0.size) (E0 : Exa Z h0 a "com/example/mapwright/mapwright/ArcLoads") (F0 : Fld Z h0 a "com/example/mapwright/mapwright/ArcLoads" "arcs" "[I" u0) (F1 : Fld Z h0 a "com/example/mapwright/mapwright/ArcLoads" "perUnit" "[D" u1) (ge0 : n0 ≤ a) (V0 : Arv Z h0 b bk .int (4 : Int32) [(.int x0), (.int x1), (.int x2), (.int x3)] (.int (0 : Int32))) (Eb : Exa Z h0 b "[I") (V1 : Arv Z h0 f fk .double (4 : Int32) [(.double q0), (.double q1), (.double q2), (.double q3)] (.double 0)) (Ef : Exa Z h0 f "[D") (nab : a ≠ b) (naf : a ≠ f) (nbf : b ≠ f) :
    MetFree lch (⟨"com/example/mapwright/mapwright/ArcLoads", "<init>", "([I[D)V"⟩ : MethodName) (head1 (Jvm.Cond.code (⟨"com/example/mapwright/mapwright/ArcLoads", "<init>", "([I[D)V"⟩ : MethodName) prog_1_method_1_code 3 none :: ws) own_room3_4) (fun zz U => zz = #[(.ref a), (.ref b), (.ref f)] ∧ Z.Warmed39 U.vm ∧ U.heap = h0) (fun _ _ _ _ _ => True) (fun _ U o U' => ∃ v L, o = .returned v ∧ own_Q3_4 Z a b f bk fk x0 x1 x2 x3 q0 q1 q2 q3 u0 u1 h0 n0 v U'.heap L ∧ FrameEnd U o U' L own_room3_4.cells own_room3_4.slots) := by
  refine MetFree.of_bodySF (plainFor_of_name own_pn1) hisR ?_
  intro prg e s m args below meth c s₁ Bd hml0 hP hK
  obtain ⟨rfl, hZ, hh⟩ := hP
  have hx := Bd.exec
  have hby := Bd.bytes
  have hml : c.maxLocals = 3 := hml0
  have hown : s.vm.findClass "com/example/mapwright/mapwright/ArcLoads" = some m.cls := findClass_of_methodNamed Bd.named
  have hnm := (name_of_methodNamed Bd.named Bd.method).1
  have hlk : meth.locks = false := BodyLoose.notSynchronized Bd
  have hret := Bd.returns
  have X0 : Stand prg lch e own_room3_4 s m #[(.ref a), (.ref b), (.ref f)] below meth c s₁ [] 0 0 := Stand.of_body Bd
  have e0 : s₁.heap = h0 := by rw [← hh, Bd.state]; rfl
  have N0 := Fr.nil n0
  show own_Ends prg e below s (own_Q3_4 Z a b f bk fk x0 x1 x2 x3 q0 q1 q2 q3 u0 u1 h0 n0) own_room3_4.cells own_room3_4.slots s₁ (entryFrame m #[(.ref a), (.ref b), (.ref f)] 3)
  refine own_cast (own_ef_rm3_4 m a b f) ?_
  have K0 := Keep.refl h0 ([a] : List Addr)
  refine own_aloadN (pc' := 1) X0 hx (hb hby own_d3_0) rfl rfl rfl ?_
  obtain ⟨T31, X31, e31, st31⟩ := initO X0 hx hZ hown (own_w15 hw) (own_w16 hw) (own_w17 hw) e0 (g := (mkF m 1 #[.val (.ref a), .val (.ref b), .val (.ref f)] [(.ref a)])) rfl (by rw [hml]; rfl) rfl (hb hby own_d3_1) (by decide) (W := 0) (by show 2 * 0 + _ ≤ _; exact Nat.le_of_eq rfl) (by decide)
  refine own_go st31 ?_
  show own_Ends prg e below s _ _ _ T31 (mkF m 4 #[.val (.ref a), .val (.ref b), .val (.ref f)] [])
  refine own_aloadN (pc' := 5) X31 hx (hb hby own_d3_4) rfl rfl rfl ?_
  refine own_alen (pc' := 6) X31 hx hZ e31 V0 (hb hby own_d3_5) rfl ?_
  refine own_aloadN (pc' := 7) X31 hx (hb hby own_d3_6) rfl rfl rfl ?_
  refine own_alen (pc' := 8) X31 hx hZ e31 V1 (hb hby own_d3_7) rfl ?_
  refine own_icmpYes (pc' := 28) X31 hx (hb hby own_d3_8) (teq (by decide)).1 (by decide) (by decide) ?_
  refine own_aloadN (pc' := 29) X31 hx (hb hby own_d3_28) rfl rfl rfl ?_
  refine own_aloadN (pc' := 30) X31 hx (hb hby own_d3_29) rfl rfl rfl ?_
  obtain ⟨T32, h32, X32, e32, E32, V32, Ex32, st32⟩ := cloneH X31 hx hZ hown (own_w18 hw) (own_w19 hw) (own_w23 hw) (own_w21 hw) (own_w22 hw) (own_w24 hw) e31 (hs := []) V0 Eb (g := (mkF m 30 #[.val (.ref a), .val (.ref b), .val (.ref f)] [(.ref b), (.ref a)])) rfl (by rw [hml]; rfl) (rest := [(.ref a)]) rfl (hb hby own_d3_30) (by decide) (W := 1) (by exact Nat.le_of_eq rfl) (by decide) (cap := 4) (by decide) (by decide) (by decide)
  refine own_go st32 ?_
  replace V32 : Arv Z h32 h0.size bk .int (4 : Int32) [(.int x0), (.int x1), (.int x2), (.int x3)] (.int (0 : Int32)) := V32
  obtain ⟨a32, g32⟩ : ∃ z, z = h0.size := ⟨_, rfl⟩
  rw [← g32] at V32 Ex32
  have ge33 : n0 ≤ a32 := by rw [g32]; exact Z0
  have sz34 : h0.size ≤ a32 := by rw [g32]; exact K0.1
  have ne35 : a ≠ a32 := Nat.ne_of_lt (by rw [g32]; exact E0.lt)
  have ne36 : b ≠ a32 := Nat.ne_of_lt (by rw [g32]; exact V0.lt)
  have ne37 : f ≠ a32 := Nat.ne_of_lt (by rw [g32]; exact V1.lt)
  show own_Ends prg e below s _ _ _ T32 (mkF m 33 #[.val (.ref a), .val (.ref b), .val (.ref f)] [(.ref h0.size), (.ref a)])
  rw [← g32]
  obtain ⟨T38, X38, e38, st38⟩ := castY X32 hx hZ hown (own_w25 hw) e32 (Ins.self Ex32) (g := (mkF m 33 #[.val (.ref a), .val (.ref b), .val (.ref f)] [(.ref a32), (.ref a)])) rfl rfl (hb hby own_d3_33)
  refine own_go st38 ?_
  show own_Ends prg e below s _ _ _ T38 (mkF m 36 #[.val (.ref a), .val (.ref b), .val (.ref f)] [(.ref a32), (.ref a)])
  have f39 := (F0.ext E32)
  have f40 := (E0.ext E32)
  obtain ⟨T41, h41, X41, e41, W41, st41⟩ := putF X38 hx hZ hown (host := "") (Or.inl (own_w27 hw)) Via.refl e38 f39 f40 (Or.inr ⟨(own_w28 hw), rfl, hnm⟩) (own_w10 hw) (ty := (.array .int)) (by decide) rfl rfl (g := (mkF m 36 #[.val (.ref a), .val (.ref b), .val (.ref f)] [(.ref a32), (.ref a)])) rfl rfl (hb hby own_d3_36)
  refine own_go st41 ?_
  have Fw41 := f39.same W41
  have N41 := Fr.snoc X41 N0 ge0
  show own_Ends prg e below s _ _ _ T41 (mkF m 39 #[.val (.ref a), .val (.ref b), .val (.ref f)] [])
  refine own_aloadN (pc' := 40) X41 hx (hb hby own_d3_39) rfl rfl rfl ?_
  refine own_aloadN (pc' := 41) X41 hx (hb hby own_d3_40) rfl rfl rfl ?_
  have f42 := ((V1.ext E32).other W41 (Ne.symm naf))
  have f43 := ((Ef.ext E32).wr W41)
  obtain ⟨T44, h44, X44, e44, E44, V44, Ex44, st44⟩ := cloneH X41 hx hZ hown (own_w29 hw) (own_w30 hw) (own_w23 hw) (own_w21 hw) (own_w31 hw) (own_w32 hw) e41 (hs := []) f42 f43 (g := (mkF m 41 #[.val (.ref a), .val (.ref b), .val (.ref f)] [(.ref f), (.ref a)])) rfl (by rw [hml]; rfl) (rest := [(.ref a)]) rfl (hb hby own_d3_41) (by decide) (W := 1) (by exact Nat.le_of_eq rfl) (by decide) (cap := 4) (by decide) (by decide) (by decide)
  refine own_go st44 ?_
  replace V44 : Arv Z h44 h41.size fk .double (4 : Int32) [(.double q0), (.double q1), (.double q2), (.double q3)] (.double 0) := V44
  obtain ⟨a44, g44⟩ : ∃ z, z = h41.size := ⟨_, rfl⟩
  rw [← g44] at V44 Ex44
  have f45 := (Nat.le_trans (Nat.le_trans Z0 E32.1) (Keep.of_wr W41).1)
  have ge46 : n0 ≤ a44 := by rw [g44]; exact f45
  have f47 := ((K0.ext E32).wr W41 (Or.inl (List.mem_of_getElem? (i := 0) rfl)))
  have sz48 : h0.size ≤ a44 := by rw [g44]; exact f47.1
  have f49 := (f40.wr W41)
  have ne50 : a ≠ a44 := Nat.ne_of_lt (by rw [g44]; exact f49.lt)
  have f51 := ((V0.ext E32).other W41 (Ne.symm nab))
  have ne52 : b ≠ a44 := Nat.ne_of_lt (by rw [g44]; exact f51.lt)
  have ne53 : f ≠ a44 := Nat.ne_of_lt (by rw [g44]; exact f42.lt)
  have f54 := (V32.other W41 (Ne.symm ne35))
  have ne55 : a32 ≠ a44 := Nat.ne_of_lt (by rw [g44]; exact f54.lt)
  show own_Ends prg e below s _ _ _ T44 (mkF m 44 #[.val (.ref a), .val (.ref b), .val (.ref f)] [(.ref h41.size), (.ref a)])
  rw [← g44]
  obtain ⟨T56, X56, e56, st56⟩ := castY X44 hx hZ hown (own_w33 hw) e44 (Ins.self Ex44) (g := (mkF m 44 #[.val (.ref a), .val (.ref b), .val (.ref f)] [(.ref a44), (.ref a)])) rfl rfl (hb hby own_d3_44)
  refine own_go st56 ?_
  show own_Ends prg e below s _ _ _ T56 (mkF m 47 #[.val (.ref a), .val (.ref b), .val (.ref f)] [(.ref a44), (.ref a)])
  have f57 := (((F1.ext E32).other W41 (Or.inr (slot_ne (Or.inr (own_w36 hw)) (Or.inr (own_w28 hw)) (by decide) (t := (.array .double)) (t' := (.array .int)) (by decide) (by decide)))).ext E44)
  have f58 := (f49.ext E44)
  obtain ⟨T59, h59, X59, e59, W59, st59⟩ := putF X56 hx hZ hown (host := "") (Or.inl (own_w35 hw)) Via.refl e56 f57 f58 (Or.inr ⟨(own_w36 hw), rfl, hnm⟩) (own_w10 hw) (ty := (.array .double)) (by decide) rfl rfl (g := (mkF m 47 #[.val (.ref a), .val (.ref b), .val (.ref f)] [(.ref a44), (.ref a)])) rfl rfl (hb hby own_d3_47)
  refine own_go st59 ?_
  have Fw59 := f57.same W59
  have N59 := Fr.snoc X59 N41 ge0
  show own_Ends prg e below s _ _ _ T59 (mkF m 50 #[.val (.ref a), .val (.ref b), .val (.ref f)] [])
  refine own_retV X59 hx hlk hret (hb hby own_d3_50) (by decide) (by decide) ?_
  have f60 := ((Fw41.ext E44).other W59 (Or.inr (slot_ne (Or.inr (own_w28 hw)) (Or.inr (own_w36 hw)) (by decide) (t := (.array .int)) (t' := (.array .double)) (by decide) (by decide))))
  have f61 := ((f54.ext E44).other W59 (Ne.symm ne35))
  have f62 := (V44.other W59 (Ne.symm ne50))
  have f63 := ((f47.ext E44).wr W59 (Or.inl (List.mem_of_getElem? (i := 0) rfl)))
  rw [e59]; exact ⟨_, _, _, _, rfl, N59, f63, sz34, sz48, ne55, f60, Fw59, f61, f62⟩
def own_room5_0 : Room := { frames := 0, cells := 0, slots := 0, locals := 0 }
def own_Q5_0 (Z : State) (a : Addr) (g : Addr) (u : UInt64) (ca : Addr) (pa : Addr) (ck : ClassId) (pk : ClassId) (gk : ClassId) (b : Int32) (d : Int32) (i0 : UInt64) (i1 : UInt64) (i2 : UInt64) (i3 : UInt64) (q0 : UInt64) (q1 : UInt64) (q2 : UInt64) (q3 : UInt64) (h0 : Heap) (n0 : Nat) (v : Option Value) (h : Heap) (L : List Loc) : Prop := v = none ∧ Fr n0 L ∧ Keep h0 h [g] ∧ Arv Z h g gk .double (4 : Int32) [(.double (own_exp 0 b d 0 i0 u q0 q1 q2 q3)), (.double (own_exp 1 b d 0 i1 u q0 q1 q2 q3)), (.double (own_exp 2 b d 0 i2 u q0 q1 q2 q3)), (.double (own_exp 3 b d 0 i3 u q0 q1 q2 q3))] (.double 0)
theorem own_ef_rm5_0 (m : MethodId) (x0 : Addr) (x1 : Addr) (x2 : UInt64) : entryFrame m #[(.ref x0), (.ref x1), (.double x2)] 5 = mkF m 0 #[.val (.ref x0), .val (.ref x1), .val (.double x2), .second, .unset] [] := by first | (simp [entryFrame, mkF, argsToLocals, Value.category]; done) | rfl
set_option maxRecDepth 65536 in
set_option maxHeartbeats 40000000 in
theorem own_rm5_0 (lch : Launch) (Z : State) (a0 : Array Value) (hw : ∀ d ∈ tables_1, d.before a0 Z = true) (ws : List Jvm.Cond) (a : Addr) (g : Addr) (u : UInt64) (ca : Addr) (pa : Addr) (ck : ClassId) (pk : ClassId) (gk : ClassId) (b : Int32) (d : Int32) (i0 : UInt64) (i1 : UInt64) (i2 : UInt64) (i3 : UInt64) (q0 : UInt64) (q1 : UInt64) (q2 : UInt64) (q3 : UInt64) (h0 : Heap) (n0 : Nat) (F0 : Fld Z h0 a "com/example/mapwright/mapwright/ArcLoads" "arcs" "[I" (.ref ca)) (F1 : Fld Z h0 a "com/example/mapwright/mapwright/ArcLoads" "perUnit" "[D" (.ref pa)) (V0 : Arv Z h0 ca ck .int (0 : Int32) [] (.int (0 : Int32))) (V1 : Arv Z h0 pa pk .double (0 : Int32) [] (.double 0)) (V2 : Arv Z h0 g gk .double (4 : Int32) [(.double i0), (.double i1), (.double i2), (.double i3)] (.double 0)) (ge0 : n0 ≤ g) (n1 : a ≠ g) (n2 : ca ≠ g) (n3 : pa ≠ g) (hbd : (b = 0 ∧ d = 1) ∨ (b = 0 ∧ d = 3) ∨ (b = 1 ∧ d = 1) ∨ (b = 1 ∧ d = 3) ∨ (b = 2 ∧ d = 1) ∨ (b = 2 ∧ d = 3) ∨ (b = 3 ∧ d = 1) ∨ (b = 3 ∧ d = 3)) (hu : Jvm.Free.Fl.Fin64 u) (hi0 : Jvm.Free.Fl.Fin64 i0) (hi1 : Jvm.Free.Fl.Fin64 i1) (hi2 : Jvm.Free.Fl.Fin64 i2) (hi3 : Jvm.Free.Fl.Fin64 i3) (hq0 : Jvm.Free.Fl.Fin64 q0) (hq1 : Jvm.Free.Fl.Fin64 q1) (hq2 : Jvm.Free.Fl.Fin64 q2) (hq3 : Jvm.Free.Fl.Fin64 q3) :
    MetFree lch (⟨"com/example/mapwright/mapwright/ArcLoads", "addTo", "([DD)V"⟩ : MethodName) (head1 (Jvm.Cond.code (⟨"com/example/mapwright/mapwright/ArcLoads", "addTo", "([DD)V"⟩ : MethodName) prog_1_method_6_code 5 none :: ws) own_room5_0) (fun zz U => zz = #[(.ref a), (.ref g), (.double u)] ∧ Z.Warmed39 U.vm ∧ U.heap = h0) (fun _ _ _ _ _ => True) (fun _ U o U' => ∃ v L, o = .returned v ∧ own_Q5_0 Z a g u ca pa ck pk gk b d i0 i1 i2 i3 q0 q1 q2 q3 h0 n0 v U'.heap L ∧ FrameEnd U o U' L own_room5_0.cells own_room5_0.slots) := by
  refine MetFree.of_bodySF (plainFor_of_name own_pn1) hisR ?_
  intro prg e s m args below meth c s₁ Bd hml0 hP hK
  obtain ⟨rfl, hZ, hh⟩ := hP
  have hx := Bd.exec
  have hby := Bd.bytes
  have hml : c.maxLocals = 5 := hml0
  have hown : s.vm.findClass "com/example/mapwright/mapwright/ArcLoads" = some m.cls := findClass_of_methodNamed Bd.named
  have hnm := (name_of_methodNamed Bd.named Bd.method).1
  have hlk : meth.locks = false := BodyLoose.notSynchronized Bd
  have hret := Bd.returns
  have X0 : Stand prg lch e own_room5_0 s m #[(.ref a), (.ref g), (.double u)] below meth c s₁ [] 0 0 := Stand.of_body Bd
  have e0 : s₁.heap = h0 := by rw [← hh, Bd.state]; rfl
  have N0 := Fr.nil n0
  show own_Ends prg e below s (own_Q5_0 Z a g u ca pa ck pk gk b d i0 i1 i2 i3 q0 q1 q2 q3 h0 n0) own_room5_0.cells own_room5_0.slots s₁ (entryFrame m #[(.ref a), (.ref g), (.double u)] 5)
  refine own_cast (own_ef_rm5_0 m a g u) ?_
  have K0 := Keep.refl h0 ([g] : List Addr)
  rcases hbd with ⟨rfl, rfl⟩ | ⟨rfl, rfl⟩ | ⟨rfl, rfl⟩ | ⟨rfl, rfl⟩ | ⟨rfl, rfl⟩ | ⟨rfl, rfl⟩ | ⟨rfl, rfl⟩ | ⟨rfl, rfl⟩
  · replace V0 : Arv Z h0 ca ck .int (0 : Int32) [] (.int (0 : Int32)) := V0
    refine own_iconst (pc' := 1) (z := (0 : Int32)) X0 hx (hb hby own_d5_0) rfl rfl ?_
    refine own_istore (pc' := 3) (l' := #[.val (.ref a), .val (.ref g), .val (.double u), .second, .val (.int (0 : Int32))]) X0 hx (hb hby own_d5_1) rfl rfl ?_
    refine own_iload (pc' := 5) X0 hx (hb hby own_d5_3) rfl rfl ?_
    refine own_aloadN (pc' := 6) X0 hx (hb hby own_d5_5) rfl rfl rfl ?_
    obtain ⟨T31, X31, e31, st31⟩ := getF X0 hx hZ hown (host := "") (Or.inl (own_w27 hw)) Via.refl e0 F0 (g := (mkF m 6 #[.val (.ref a), .val (.ref g), .val (.double u), .second, .val (.int (0 : Int32))] [(.ref a), (.int (0 : Int32))])) rfl rfl (hb hby own_d5_6)
    refine own_go st31 ?_
    show own_Ends prg e below s _ _ _ T31 (mkF m 9 #[.val (.ref a), .val (.ref g), .val (.double u), .second, .val (.int (0 : Int32))] [(.ref ca), (.int (0 : Int32))])
    refine own_alen (pc' := 10) X31 hx hZ e31 V0 (hb hby own_d5_9) rfl ?_
    refine own_icmpYes (pc' := 40) X31 hx (hb hby own_d5_10) (flt (by decide)).2.1 (by decide) (by decide) ?_
    refine own_retV X31 hx hlk hret (hb hby own_d5_40) (by decide) (by decide) ?_
    rw [e31]; exact ⟨rfl, N0, K0, V2⟩
  · replace V0 : Arv Z h0 ca ck .int (0 : Int32) [] (.int (0 : Int32)) := V0
    refine own_iconst (pc' := 1) (z := (0 : Int32)) X0 hx (hb hby own_d5_0) rfl rfl ?_
    refine own_istore (pc' := 3) (l' := #[.val (.ref a), .val (.ref g), .val (.double u), .second, .val (.int (0 : Int32))]) X0 hx (hb hby own_d5_1) rfl rfl ?_
    refine own_iload (pc' := 5) X0 hx (hb hby own_d5_3) rfl rfl ?_
    refine own_aloadN (pc' := 6) X0 hx (hb hby own_d5_5) rfl rfl rfl ?_
    obtain ⟨T32, X32, e32, st32⟩ := getF X0 hx hZ hown (host := "") (Or.inl (own_w27 hw)) Via.refl e0 F0 (g := (mkF m 6 #[.val (.ref a), .val (.ref g), .val (.double u), .second, .val (.int (0 : Int32))] [(.ref a), (.int (0 : Int32))])) rfl rfl (hb hby own_d5_6)
    refine own_go st32 ?_
    show own_Ends prg e below s _ _ _ T32 (mkF m 9 #[.val (.ref a), .val (.ref g), .val (.double u), .second, .val (.int (0 : Int32))] [(.ref ca), (.int (0 : Int32))])
    refine own_alen (pc' := 10) X32 hx hZ e32 V0 (hb hby own_d5_9) rfl ?_
    refine own_icmpYes (pc' := 40) X32 hx (hb hby own_d5_10) (flt (by decide)).2.1 (by decide) (by decide) ?_
    refine own_retV X32 hx hlk hret (hb hby own_d5_40) (by decide) (by decide) ?_
    rw [e32]; exact ⟨rfl, N0, K0, V2⟩
  · replace V0 : Arv Z h0 ca ck .int (0 : Int32) [] (.int (0 : Int32)) := V0
    refine own_iconst (pc' := 1) (z := (0 : Int32)) X0 hx (hb hby own_d5_0) rfl rfl ?_
    refine own_istore (pc' := 3) (l' := #[.val (.ref a), .val (.ref g), .val (.double u), .second, .val (.int (0 : Int32))]) X0 hx (hb hby own_d5_1) rfl rfl ?_
    refine own_iload (pc' := 5) X0 hx (hb hby own_d5_3) rfl rfl ?_
    refine own_aloadN (pc' := 6) X0 hx (hb hby own_d5_5) rfl rfl rfl ?_
    obtain ⟨T33, X33, e33, st33⟩ := getF X0 hx hZ hown (host := "") (Or.inl (own_w27 hw)) Via.refl e0 F0 (g := (mkF m 6 #[.val (.ref a), .val (.ref g), .val (.double u), .second, .val (.int (0 : Int32))] [(.ref a), (.int (0 : Int32))])) rfl rfl (hb hby own_d5_6)
    refine own_go st33 ?_
    show own_Ends prg e below s _ _ _ T33 (mkF m 9 #[.val (.ref a), .val (.ref g), .val (.double u), .second, .val (.int (0 : Int32))] [(.ref ca), (.int (0 : Int32))])
    refine own_alen (pc' := 10) X33 hx hZ e33 V0 (hb hby own_d5_9) rfl ?_
    refine own_icmpYes (pc' := 40) X33 hx (hb hby own_d5_10) (flt (by decide)).2.1 (by decide) (by decide) ?_
    refine own_retV X33 hx hlk hret (hb hby own_d5_40) (by decide) (by decide) ?_
    rw [e33]; exact ⟨rfl, N0, K0, V2⟩
  · replace V0 : Arv Z h0 ca ck .int (0 : Int32) [] (.int (0 : Int32)) := V0
    refine own_iconst (pc' := 1) (z := (0 : Int32)) X0 hx (hb hby own_d5_0) rfl rfl ?_
    refine own_istore (pc' := 3) (l' := #[.val (.ref a), .val (.ref g), .val (.double u), .second, .val (.int (0 : Int32))]) X0 hx (hb hby own_d5_1) rfl rfl ?_
    refine own_iload (pc' := 5) X0 hx (hb hby own_d5_3) rfl rfl ?_
    refine own_aloadN (pc' := 6) X0 hx (hb hby own_d5_5) rfl rfl rfl ?_
    obtain ⟨T34, X34, e34, st34⟩ := getF X0 hx hZ hown (host := "") (Or.inl (own_w27 hw)) Via.refl e0 F0 (g := (mkF m 6 #[.val (.ref a), .val (.ref g), .val (.double u), .second, .val (.int (0 : Int32))] [(.ref a), (.int (0 : Int32))])) rfl rfl (hb hby own_d5_6)
    refine own_go st34 ?_
    show own_Ends prg e below s _ _ _ T34 (mkF m 9 #[.val (.ref a), .val (.ref g), .val (.double u), .second, .val (.int (0 : Int32))] [(.ref ca), (.int (0 : Int32))])
    refine own_alen (pc' := 10) X34 hx hZ e34 V0 (hb hby own_d5_9) rfl ?_
    refine own_icmpYes (pc' := 40) X34 hx (hb hby own_d5_10) (flt (by decide)).2.1 (by decide) (by decide) ?_
    refine own_retV X34 hx hlk hret (hb hby own_d5_40) (by decide) (by decide) ?_
    rw [e34]; exact ⟨rfl, N0, K0, V2⟩
  · replace V0 : Arv Z h0 ca ck .int (0 : Int32) [] (.int (0 : Int32)) := V0
    refine own_iconst (pc' := 1) (z := (0 : Int32)) X0 hx (hb hby own_d5_0) rfl rfl ?_
    refine own_istore (pc' := 3) (l' := #[.val (.ref a), .val (.ref g), .val (.double u), .second, .val (.int (0 : Int32))]) X0 hx (hb hby own_d5_1) rfl rfl ?_
    refine own_iload (pc' := 5) X0 hx (hb hby own_d5_3) rfl rfl ?_
    refine own_aloadN (pc' := 6) X0 hx (hb hby own_d5_5) rfl rfl rfl ?_
    obtain ⟨T35, X35, e35, st35⟩ := getF X0 hx hZ hown (host := "") (Or.inl (own_w27 hw)) Via.refl e0 F0 (g := (mkF m 6 #[.val (.ref a), .val (.ref g), .val (.double u), .second, .val (.int (0 : Int32))] [(.ref a), (.int (0 : Int32))])) rfl rfl (hb hby own_d5_6)
    refine own_go st35 ?_
    show own_Ends prg e below s _ _ _ T35 (mkF m 9 #[.val (.ref a), .val (.ref g), .val (.double u), .second, .val (.int (0 : Int32))] [(.ref ca), (.int (0 : Int32))])
    refine own_alen (pc' := 10) X35 hx hZ e35 V0 (hb hby own_d5_9) rfl ?_
    refine own_icmpYes (pc' := 40) X35 hx (hb hby own_d5_10) (flt (by decide)).2.1 (by decide) (by decide) ?_
    refine own_retV X35 hx hlk hret (hb hby own_d5_40) (by decide) (by decide) ?_
    rw [e35]; exact ⟨rfl, N0, K0, V2⟩
  · replace V0 : Arv Z h0 ca ck .int (0 : Int32) [] (.int (0 : Int32)) := V0
    refine own_iconst (pc' := 1) (z := (0 : Int32)) X0 hx (hb hby own_d5_0) rfl rfl ?_
    refine own_istore (pc' := 3) (l' := #[.val (.ref a), .val (.ref g), .val (.double u), .second, .val (.int (0 : Int32))]) X0 hx (hb hby own_d5_1) rfl rfl ?_
    refine own_iload (pc' := 5) X0 hx (hb hby own_d5_3) rfl rfl ?_
    refine own_aloadN (pc' := 6) X0 hx (hb hby own_d5_5) rfl rfl rfl ?_
    obtain ⟨T36, X36, e36, st36⟩ := getF X0 hx hZ hown (host := "") (Or.inl (own_w27 hw)) Via.refl e0 F0 (g := (mkF m 6 #[.val (.ref a), .val (.ref g), .val (.double u), .second, .val (.int (0 : Int32))] [(.ref a), (.int (0 : Int32))])) rfl rfl (hb hby own_d5_6)
    refine own_go st36 ?_
    show own_Ends prg e below s _ _ _ T36 (mkF m 9 #[.val (.ref a), .val (.ref g), .val (.double u), .second, .val (.int (0 : Int32))] [(.ref ca), (.int (0 : Int32))])
    refine own_alen (pc' := 10) X36 hx hZ e36 V0 (hb hby own_d5_9) rfl ?_
    refine own_icmpYes (pc' := 40) X36 hx (hb hby own_d5_10) (flt (by decide)).2.1 (by decide) (by decide) ?_
    refine own_retV X36 hx hlk hret (hb hby own_d5_40) (by decide) (by decide) ?_
    rw [e36]; exact ⟨rfl, N0, K0, V2⟩
  · replace V0 : Arv Z h0 ca ck .int (0 : Int32) [] (.int (0 : Int32)) := V0
    refine own_iconst (pc' := 1) (z := (0 : Int32)) X0 hx (hb hby own_d5_0) rfl rfl ?_
    refine own_istore (pc' := 3) (l' := #[.val (.ref a), .val (.ref g), .val (.double u), .second, .val (.int (0 : Int32))]) X0 hx (hb hby own_d5_1) rfl rfl ?_
    refine own_iload (pc' := 5) X0 hx (hb hby own_d5_3) rfl rfl ?_
    refine own_aloadN (pc' := 6) X0 hx (hb hby own_d5_5) rfl rfl rfl ?_
    obtain ⟨T37, X37, e37, st37⟩ := getF X0 hx hZ hown (host := "") (Or.inl (own_w27 hw)) Via.refl e0 F0 (g := (mkF m 6 #[.val (.ref a), .val (.ref g), .val (.double u), .second, .val (.int (0 : Int32))] [(.ref a), (.int (0 : Int32))])) rfl rfl (hb hby own_d5_6)
    refine own_go st37 ?_
    show own_Ends prg e below s _ _ _ T37 (mkF m 9 #[.val (.ref a), .val (.ref g), .val (.double u), .second, .val (.int (0 : Int32))] [(.ref ca), (.int (0 : Int32))])
    refine own_alen (pc' := 10) X37 hx hZ e37 V0 (hb hby own_d5_9) rfl ?_
    refine own_icmpYes (pc' := 40) X37 hx (hb hby own_d5_10) (flt (by decide)).2.1 (by decide) (by decide) ?_
    refine own_retV X37 hx hlk hret (hb hby own_d5_40) (by decide) (by decide) ?_
    rw [e37]; exact ⟨rfl, N0, K0, V2⟩
  · replace V0 : Arv Z h0 ca ck .int (0 : Int32) [] (.int (0 : Int32)) := V0
    refine own_iconst (pc' := 1) (z := (0 : Int32)) X0 hx (hb hby own_d5_0) rfl rfl ?_
    refine own_istore (pc' := 3) (l' := #[.val (.ref a), .val (.ref g), .val (.double u), .second, .val (.int (0 : Int32))]) X0 hx (hb hby own_d5_1) rfl rfl ?_
    refine own_iload (pc' := 5) X0 hx (hb hby own_d5_3) rfl rfl ?_
    refine own_aloadN (pc' := 6) X0 hx (hb hby own_d5_5) rfl rfl rfl ?_
    obtain ⟨T38, X38, e38, st38⟩ := getF X0 hx hZ hown (host := "") (Or.inl (own_w27 hw)) Via.refl e0 F0 (g := (mkF m 6 #[.val (.ref a), .val (.ref g), .val (.double u), .second, .val (.int (0 : Int32))] [(.ref a), (.int (0 : Int32))])) rfl rfl (hb hby own_d5_6)
    refine own_go st38 ?_
    show own_Ends prg e below s _ _ _ T38 (mkF m 9 #[.val (.ref a), .val (.ref g), .val (.double u), .second, .val (.int (0 : Int32))] [(.ref ca), (.int (0 : Int32))])
    refine own_alen (pc' := 10) X38 hx hZ e38 V0 (hb hby own_d5_9) rfl ?_
    refine own_icmpYes (pc' := 40) X38 hx (hb hby own_d5_10) (flt (by decide)).2.1 (by decide) (by decide) ?_
    refine own_retV X38 hx hlk hret (hb hby own_d5_40) (by decide) (by decide) ?_
    rw [e38]; exact ⟨rfl, N0, K0, V2⟩
def own_room5_1 : Room := { frames := 0, cells := 0, slots := 0, locals := 0 }
def own_Q5_1 (Z : State) (a : Addr) (g : Addr) (u : UInt64) (ca : Addr) (pa : Addr) (ck : ClassId) (pk : ClassId) (gk : ClassId) (b : Int32) (d : Int32) (i0 : UInt64) (i1 : UInt64) (i2 : UInt64) (i3 : UInt64) (q0 : UInt64) (q1 : UInt64) (q2 : UInt64) (q3 : UInt64) (h0 : Heap) (n0 : Nat) (v : Option Value) (h : Heap) (L : List Loc) : Prop := v = none ∧ Fr n0 L ∧ Keep h0 h [g] ∧ Arv Z h g gk .double (4 : Int32) [(.double (own_exp 0 b d 1 i0 u q0 q1 q2 q3)), (.double (own_exp 1 b d 1 i1 u q0 q1 q2 q3)), (.double (own_exp 2 b d 1 i2 u q0 q1 q2 q3)), (.double (own_exp 3 b d 1 i3 u q0 q1 q2 q3))] (.double 0)
theorem own_ef_rm5_1 (m : MethodId) (x0 : Addr) (x1 : Addr) (x2 : UInt64) : entryFrame m #[(.ref x0), (.ref x1), (.double x2)] 5 = mkF m 0 #[.val (.ref x0), .val (.ref x1), .val (.double x2), .second, .unset] [] := by first | (simp [entryFrame, mkF, argsToLocals, Value.category]; done) | rfl
set_option maxRecDepth 65536 in
set_option maxHeartbeats 40000000 in
theorem own_rm5_1 (lch : Launch) (Z : State) (a0 : Array Value) (hw : ∀ d ∈ tables_1, d.before a0 Z = true) (ws : List Jvm.Cond) (a : Addr) (g : Addr) (u : UInt64) (ca : Addr) (pa : Addr) (ck : ClassId) (pk : ClassId) (gk : ClassId) (b : Int32) (d : Int32) (i0 : UInt64) (i1 : UInt64) (i2 : UInt64) (i3 : UInt64) (q0 : UInt64) (q1 : UInt64) (q2 : UInt64) (q3 : UInt64) (h0 : Heap) (n0 : Nat) (F0 : Fld Z h0 a "com/example/mapwright/mapwright/ArcLoads" "arcs" "[I" (.ref ca)) (F1 : Fld Z h0 a "com/example/mapwright/mapwright/ArcLoads" "perUnit" "[D" (.ref pa)) (V0 : Arv Z h0 ca ck .int (1 : Int32) [(.int (b &&& (3 : Int32)))] (.int (0 : Int32))) (V1 : Arv Z h0 pa pk .double (1 : Int32) [(.double q0)] (.double 0)) (V2 : Arv Z h0 g gk .double (4 : Int32) [(.double i0), (.double i1), (.double i2), (.double i3)] (.double 0)) (ge0 : n0 ≤ g) (n1 : a ≠ g) (n2 : ca ≠ g) (n3 : pa ≠ g) (hbd : (b = 0 ∧ d = 1) ∨ (b = 0 ∧ d = 3) ∨ (b = 1 ∧ d = 1) ∨ (b = 1 ∧ d = 3) ∨ (b = 2 ∧ d = 1) ∨ (b = 2 ∧ d = 3) ∨ (b = 3 ∧ d = 1) ∨ (b = 3 ∧ d = 3)) (hu : Jvm.Free.Fl.Fin64 u) (hi0 : Jvm.Free.Fl.Fin64 i0) (hi1 : Jvm.Free.Fl.Fin64 i1) (hi2 : Jvm.Free.Fl.Fin64 i2) (hi3 : Jvm.Free.Fl.Fin64 i3) (hq0 : Jvm.Free.Fl.Fin64 q0) (hq1 : Jvm.Free.Fl.Fin64 q1) (hq2 : Jvm.Free.Fl.Fin64 q2) (hq3 : Jvm.Free.Fl.Fin64 q3) :
    MetFree lch (⟨"com/example/mapwright/mapwright/ArcLoads", "addTo", "([DD)V"⟩ : MethodName) (head1 (Jvm.Cond.code (⟨"com/example/mapwright/mapwright/ArcLoads", "addTo", "([DD)V"⟩ : MethodName) prog_1_method_6_code 5 none :: ws) own_room5_1) (fun zz U => zz = #[(.ref a), (.ref g), (.double u)] ∧ Z.Warmed39 U.vm ∧ U.heap = h0) (fun _ _ _ _ _ => True) (fun _ U o U' => ∃ v L, o = .returned v ∧ own_Q5_1 Z a g u ca pa ck pk gk b d i0 i1 i2 i3 q0 q1 q2 q3 h0 n0 v U'.heap L ∧ FrameEnd U o U' L own_room5_1.cells own_room5_1.slots) := by
  refine MetFree.of_bodySF (plainFor_of_name own_pn1) hisR ?_
  intro prg e s m args below meth c s₁ Bd hml0 hP hK
  obtain ⟨rfl, hZ, hh⟩ := hP
  have hx := Bd.exec
  have hby := Bd.bytes
  have hml : c.maxLocals = 5 := hml0
  have hown : s.vm.findClass "com/example/mapwright/mapwright/ArcLoads" = some m.cls := findClass_of_methodNamed Bd.named
  have hnm := (name_of_methodNamed Bd.named Bd.method).1
  have hlk : meth.locks = false := BodyLoose.notSynchronized Bd
  have hret := Bd.returns
  have X0 : Stand prg lch e own_room5_1 s m #[(.ref a), (.ref g), (.double u)] below meth c s₁ [] 0 0 := Stand.of_body Bd
  have e0 : s₁.heap = h0 := by rw [← hh, Bd.state]; rfl
  have N0 := Fr.nil n0
  show own_Ends prg e below s (own_Q5_1 Z a g u ca pa ck pk gk b d i0 i1 i2 i3 q0 q1 q2 q3 h0 n0) own_room5_1.cells own_room5_1.slots s₁ (entryFrame m #[(.ref a), (.ref g), (.double u)] 5)
  refine own_cast (own_ef_rm5_1 m a g u) ?_
  have K0 := Keep.refl h0 ([g] : List Addr)
  rcases hbd with ⟨rfl, rfl⟩ | ⟨rfl, rfl⟩ | ⟨rfl, rfl⟩ | ⟨rfl, rfl⟩ | ⟨rfl, rfl⟩ | ⟨rfl, rfl⟩ | ⟨rfl, rfl⟩ | ⟨rfl, rfl⟩
  · replace V0 : Arv Z h0 ca ck .int (1 : Int32) [(.int (0 : Int32))] (.int (0 : Int32)) := V0
    refine own_iconst (pc' := 1) (z := (0 : Int32)) X0 hx (hb hby own_d5_0) rfl rfl ?_
    refine own_istore (pc' := 3) (l' := #[.val (.ref a), .val (.ref g), .val (.double u), .second, .val (.int (0 : Int32))]) X0 hx (hb hby own_d5_1) rfl rfl ?_
    refine own_iload (pc' := 5) X0 hx (hb hby own_d5_3) rfl rfl ?_
    refine own_aloadN (pc' := 6) X0 hx (hb hby own_d5_5) rfl rfl rfl ?_
    obtain ⟨T31, X31, e31, st31⟩ := getF X0 hx hZ hown (host := "") (Or.inl (own_w27 hw)) Via.refl e0 F0 (g := (mkF m 6 #[.val (.ref a), .val (.ref g), .val (.double u), .second, .val (.int (0 : Int32))] [(.ref a), (.int (0 : Int32))])) rfl rfl (hb hby own_d5_6)
    refine own_go st31 ?_
    show own_Ends prg e below s _ _ _ T31 (mkF m 9 #[.val (.ref a), .val (.ref g), .val (.double u), .second, .val (.int (0 : Int32))] [(.ref ca), (.int (0 : Int32))])
    refine own_alen (pc' := 10) X31 hx hZ e31 V0 (hb hby own_d5_9) rfl ?_
    refine own_icmpNo (pc' := 13) X31 hx (hb hby own_d5_10) rfl (tlt (by decide)).2.1 ?_
    refine own_aloadN (pc' := 14) X31 hx (hb hby own_d5_13) rfl rfl rfl ?_
    refine own_aloadN (pc' := 15) X31 hx (hb hby own_d5_14) rfl rfl rfl ?_
    obtain ⟨T32, X32, e32, st32⟩ := getF X31 hx hZ hown (host := "") (Or.inl (own_w27 hw)) Via.refl e31 F0 (g := (mkF m 15 #[.val (.ref a), .val (.ref g), .val (.double u), .second, .val (.int (0 : Int32))] [(.ref a), (.ref g)])) rfl rfl (hb hby own_d5_15)
    refine own_go st32 ?_
    show own_Ends prg e below s _ _ _ T32 (mkF m 18 #[.val (.ref a), .val (.ref g), .val (.double u), .second, .val (.int (0 : Int32))] [(.ref ca), (.ref g)])
    refine own_iload (pc' := 20) X32 hx (hb hby own_d5_18) rfl rfl ?_
    refine own_iaload (pc' := 21) (v := (.int (0 : Int32))) X32 hx hZ e32 V0 (hb hby own_d5_20) rfl (by decide) rfl ?_
    refine own_dup2 (pc' := 22) X32 hx (hb hby own_d5_21) rfl rfl rfl ?_
    refine own_daload (pc' := 23) (v := (.double i0)) X32 hx hZ e32 V2 (hb hby own_d5_22) rfl (by decide) rfl ?_
    refine own_dloadN (pc' := 24) X32 hx (hb hby own_d5_23) rfl rfl ?_
    refine own_aloadN (pc' := 25) X32 hx (hb hby own_d5_24) rfl rfl rfl ?_
    obtain ⟨T33, X33, e33, st33⟩ := getF X32 hx hZ hown (host := "") (Or.inl (own_w35 hw)) Via.refl e32 F1 (g := (mkF m 25 #[.val (.ref a), .val (.ref g), .val (.double u), .second, .val (.int (0 : Int32))] [(.ref a), (.double u), (.double i0), (.int (0 : Int32)), (.ref g)])) rfl rfl (hb hby own_d5_25)
    refine own_go st33 ?_
    show own_Ends prg e below s _ _ _ T33 (mkF m 28 #[.val (.ref a), .val (.ref g), .val (.double u), .second, .val (.int (0 : Int32))] [(.ref pa), (.double u), (.double i0), (.int (0 : Int32)), (.ref g)])
    refine own_iload (pc' := 30) X33 hx (hb hby own_d5_28) rfl rfl ?_
    refine own_daload (pc' := 31) (v := (.double q0)) X33 hx hZ e33 V1 (hb hby own_d5_30) rfl (by decide) rfl ?_
    refine own_dmul (pc' := 32) (z := (FP.dmul u q0)) X33 hx (hb hby own_d5_31) rfl (Jvm.Free.Fl.dmul_out hu hq0) rfl ?_
    refine own_dadd (pc' := 33) (z := (FP.dadd i0 (FP.dmul u q0))) X33 hx (hb hby own_d5_32) rfl (own_nan hi0 hu hq0) rfl ?_
    refine own_dastore (pc' := 34) X33 hx hZ e33 V2 (hb hby own_d5_33) rfl (by decide) 0 rfl (by simp) N0 ge0 ?_
    intro T34 h34 L34 X34 e34 N34 W34 V34
    replace V34 : Arv Z h34 g gk .double (4 : Int32) [(.double (FP.dadd i0 (FP.dmul u q0))), (.double i1), (.double i2), (.double i3)] (.double 0) := V34
    show own_Ends prg e below s _ _ _ T34 (mkF m 34 #[.val (.ref a), .val (.ref g), .val (.double u), .second, .val (.int (0 : Int32))] [])
    refine own_iinc (pc' := 37) (z := (1 : Int32)) (l' := #[.val (.ref a), .val (.ref g), .val (.double u), .second, .val (.int (1 : Int32))]) X34 hx (hb hby own_d5_34) rfl rfl (by decide) rfl ?_
    refine own_goto (pc' := 3) X34 hx (hb hby own_d5_37) (by decide) (by decide) ?_
    refine own_iload (pc' := 5) X34 hx (hb hby own_d5_3) rfl rfl ?_
    refine own_aloadN (pc' := 6) X34 hx (hb hby own_d5_5) rfl rfl rfl ?_
    have f35 := (F0.other W34 (Or.inl n1))
    obtain ⟨T36, X36, e36, st36⟩ := getF X34 hx hZ hown (host := "") (Or.inl (own_w27 hw)) Via.refl e34 f35 (g := (mkF m 6 #[.val (.ref a), .val (.ref g), .val (.double u), .second, .val (.int (1 : Int32))] [(.ref a), (.int (1 : Int32))])) rfl rfl (hb hby own_d5_6)
    refine own_go st36 ?_
    show own_Ends prg e below s _ _ _ T36 (mkF m 9 #[.val (.ref a), .val (.ref g), .val (.double u), .second, .val (.int (1 : Int32))] [(.ref ca), (.int (1 : Int32))])
    have f37 := (V0.other W34 n2)
    refine own_alen (pc' := 10) X36 hx hZ e36 f37 (hb hby own_d5_9) rfl ?_
    refine own_icmpYes (pc' := 40) X36 hx (hb hby own_d5_10) (flt (by decide)).2.1 (by decide) (by decide) ?_
    refine own_retV X36 hx hlk hret (hb hby own_d5_40) (by decide) (by decide) ?_
    have f38 := (K0.wr W34 (Or.inl (List.mem_of_getElem? (i := 0) rfl)))
    rw [e36]; exact ⟨rfl, N34, f38, V34⟩
  · replace V0 : Arv Z h0 ca ck .int (1 : Int32) [(.int (0 : Int32))] (.int (0 : Int32)) := V0
    refine own_iconst (pc' := 1) (z := (0 : Int32)) X0 hx (hb hby own_d5_0) rfl rfl ?_
    refine own_istore (pc' := 3) (l' := #[.val (.ref a), .val (.ref g), .val (.double u), .second, .val (.int (0 : Int32))]) X0 hx (hb hby own_d5_1) rfl rfl ?_
    refine own_iload (pc' := 5) X0 hx (hb hby own_d5_3) rfl rfl ?_
    refine own_aloadN (pc' := 6) X0 hx (hb hby own_d5_5) rfl rfl rfl ?_
    obtain ⟨T39, X39, e39, st39⟩ := getF X0 hx hZ hown (host := "") (Or.inl (own_w27 hw)) Via.refl e0 F0 (g := (mkF m 6 #[.val (.ref a), .val (.ref g), .val (.double u), .second, .val (.int (0 : Int32))] [(.ref a), (.int (0 : Int32))])) rfl rfl (hb hby own_d5_6)
    refine own_go st39 ?_
    show own_Ends prg e below s _ _ _ T39 (mkF m 9 #[.val (.ref a), .val (.ref g), .val (.double u), .second, .val (.int (0 : Int32))] [(.ref ca), (.int (0 : Int32))])
    refine own_alen (pc' := 10) X39 hx hZ e39 V0 (hb hby own_d5_9) rfl ?_
    refine own_icmpNo (pc' := 13) X39 hx (hb hby own_d5_10) rfl (tlt (by decide)).2.1 ?_
    refine own_aloadN (pc' := 14) X39 hx (hb hby own_d5_13) rfl rfl rfl ?_
    refine own_aloadN (pc' := 15) X39 hx (hb hby own_d5_14) rfl rfl rfl ?_
    obtain ⟨T40, X40, e40, st40⟩ := getF X39 hx hZ hown (host := "") (Or.inl (own_w27 hw)) Via.refl e39 F0 (g := (mkF m 15 #[.val (.ref a), .val (.ref g), .val (.double u), .second, .val (.int (0 : Int32))] [(.ref a), (.ref g)])) rfl rfl (hb hby own_d5_15)
    refine own_go st40 ?_
    show own_Ends prg e below s _ _ _ T40 (mkF m 18 #[.val (.ref a), .val (.ref g), .val (.double u), .second, .val (.int (0 : Int32))] [(.ref ca), (.ref g)])
    refine own_iload (pc' := 20) X40 hx (hb hby own_d5_18) rfl rfl ?_
    refine own_iaload (pc' := 21) (v := (.int (0 : Int32))) X40 hx hZ e40 V0 (hb hby own_d5_20) rfl (by decide) rfl ?_
    refine own_dup2 (pc' := 22) X40 hx (hb hby own_d5_21) rfl rfl rfl ?_
    refine own_daload (pc' := 23) (v := (.double i0)) X40 hx hZ e40 V2 (hb hby own_d5_22) rfl (by decide) rfl ?_
    refine own_dloadN (pc' := 24) X40 hx (hb hby own_d5_23) rfl rfl ?_
    refine own_aloadN (pc' := 25) X40 hx (hb hby own_d5_24) rfl rfl rfl ?_
    obtain ⟨T41, X41, e41, st41⟩ := getF X40 hx hZ hown (host := "") (Or.inl (own_w35 hw)) Via.refl e40 F1 (g := (mkF m 25 #[.val (.ref a), .val (.ref g), .val (.double u), .second, .val (.int (0 : Int32))] [(.ref a), (.double u), (.double i0), (.int (0 : Int32)), (.ref g)])) rfl rfl (hb hby own_d5_25)
    refine own_go st41 ?_
    show own_Ends prg e below s _ _ _ T41 (mkF m 28 #[.val (.ref a), .val (.ref g), .val (.double u), .second, .val (.int (0 : Int32))] [(.ref pa), (.double u), (.double i0), (.int (0 : Int32)), (.ref g)])
    refine own_iload (pc' := 30) X41 hx (hb hby own_d5_28) rfl rfl ?_
    refine own_daload (pc' := 31) (v := (.double q0)) X41 hx hZ e41 V1 (hb hby own_d5_30) rfl (by decide) rfl ?_
    refine own_dmul (pc' := 32) (z := (FP.dmul u q0)) X41 hx (hb hby own_d5_31) rfl (Jvm.Free.Fl.dmul_out hu hq0) rfl ?_
    refine own_dadd (pc' := 33) (z := (FP.dadd i0 (FP.dmul u q0))) X41 hx (hb hby own_d5_32) rfl (own_nan hi0 hu hq0) rfl ?_
    refine own_dastore (pc' := 34) X41 hx hZ e41 V2 (hb hby own_d5_33) rfl (by decide) 0 rfl (by simp) N0 ge0 ?_
    intro T42 h42 L42 X42 e42 N42 W42 V42
    replace V42 : Arv Z h42 g gk .double (4 : Int32) [(.double (FP.dadd i0 (FP.dmul u q0))), (.double i1), (.double i2), (.double i3)] (.double 0) := V42
    show own_Ends prg e below s _ _ _ T42 (mkF m 34 #[.val (.ref a), .val (.ref g), .val (.double u), .second, .val (.int (0 : Int32))] [])
    refine own_iinc (pc' := 37) (z := (1 : Int32)) (l' := #[.val (.ref a), .val (.ref g), .val (.double u), .second, .val (.int (1 : Int32))]) X42 hx (hb hby own_d5_34) rfl rfl (by decide) rfl ?_
    refine own_goto (pc' := 3) X42 hx (hb hby own_d5_37) (by decide) (by decide) ?_
    refine own_iload (pc' := 5) X42 hx (hb hby own_d5_3) rfl rfl ?_
    refine own_aloadN (pc' := 6) X42 hx (hb hby own_d5_5) rfl rfl rfl ?_
    have f43 := (F0.other W42 (Or.inl n1))
    obtain ⟨T44, X44, e44, st44⟩ := getF X42 hx hZ hown (host := "") (Or.inl (own_w27 hw)) Via.refl e42 f43 (g := (mkF m 6 #[.val (.ref a), .val (.ref g), .val (.double u), .second, .val (.int (1 : Int32))] [(.ref a), (.int (1 : Int32))])) rfl rfl (hb hby own_d5_6)
    refine own_go st44 ?_
    show own_Ends prg e below s _ _ _ T44 (mkF m 9 #[.val (.ref a), .val (.ref g), .val (.double u), .second, .val (.int (1 : Int32))] [(.ref ca), (.int (1 : Int32))])
    have f45 := (V0.other W42 n2)
    refine own_alen (pc' := 10) X44 hx hZ e44 f45 (hb hby own_d5_9) rfl ?_
    refine own_icmpYes (pc' := 40) X44 hx (hb hby own_d5_10) (flt (by decide)).2.1 (by decide) (by decide) ?_
    refine own_retV X44 hx hlk hret (hb hby own_d5_40) (by decide) (by decide) ?_
    have f46 := (K0.wr W42 (Or.inl (List.mem_of_getElem? (i := 0) rfl)))
    rw [e44]; exact ⟨rfl, N42, f46, V42⟩
  · replace V0 : Arv Z h0 ca ck .int (1 : Int32) [(.int (1 : Int32))] (.int (0 : Int32)) := V0
    refine own_iconst (pc' := 1) (z := (0 : Int32)) X0 hx (hb hby own_d5_0) rfl rfl ?_
    refine own_istore (pc' := 3) (l' := #[.val (.ref a), .val (.ref g), .val (.double u), .second, .val (.int (0 : Int32))]) X0 hx (hb hby own_d5_1) rfl rfl ?_
    refine own_iload (pc' := 5) X0 hx (hb hby own_d5_3) rfl rfl ?_
    refine own_aloadN (pc' := 6) X0 hx (hb hby own_d5_5) rfl rfl rfl ?_
    obtain ⟨T47, X47, e47, st47⟩ := getF X0 hx hZ hown (host := "") (Or.inl (own_w27 hw)) Via.refl e0 F0 (g := (mkF m 6 #[.val (.ref a), .val (.ref g), .val (.double u), .second, .val (.int (0 : Int32))] [(.ref a), (.int (0 : Int32))])) rfl rfl (hb hby own_d5_6)
    refine own_go st47 ?_
    show own_Ends prg e below s _ _ _ T47 (mkF m 9 #[.val (.ref a), .val (.ref g), .val (.double u), .second, .val (.int (0 : Int32))] [(.ref ca), (.int (0 : Int32))])
    refine own_alen (pc' := 10) X47 hx hZ e47 V0 (hb hby own_d5_9) rfl ?_
    refine own_icmpNo (pc' := 13) X47 hx (hb hby own_d5_10) rfl (tlt (by decide)).2.1 ?_
    refine own_aloadN (pc' := 14) X47 hx (hb hby own_d5_13) rfl rfl rfl ?_
    refine own_aloadN (pc' := 15) X47 hx (hb hby own_d5_14) rfl rfl rfl ?_
    obtain ⟨T48, X48, e48, st48⟩ := getF X47 hx hZ hown (host := "") (Or.inl (own_w27 hw)) Via.refl e47 F0 (g := (mkF m 15 #[.val (.ref a), .val (.ref g), .val (.double u), .second, .val (.int (0 : Int32))] [(.ref a), (.ref g)])) rfl rfl (hb hby own_d5_15)
    refine own_go st48 ?_
    show own_Ends prg e below s _ _ _ T48 (mkF m 18 #[.val (.ref a), .val (.ref g), .val (.double u), .second, .val (.int (0 : Int32))] [(.ref ca), (.ref g)])
    refine own_iload (pc' := 20) X48 hx (hb hby own_d5_18) rfl rfl ?_
    refine own_iaload (pc' := 21) (v := (.int (1 : Int32))) X48 hx hZ e48 V0 (hb hby own_d5_20) rfl (by decide) rfl ?_
    refine own_dup2 (pc' := 22) X48 hx (hb hby own_d5_21) rfl rfl rfl ?_
    refine own_daload (pc' := 23) (v := (.double i1)) X48 hx hZ e48 V2 (hb hby own_d5_22) rfl (by decide) rfl ?_
    refine own_dloadN (pc' := 24) X48 hx (hb hby own_d5_23) rfl rfl ?_
    refine own_aloadN (pc' := 25) X48 hx (hb hby own_d5_24) rfl rfl rfl ?_
    obtain ⟨T49, X49, e49, st49⟩ := getF X48 hx hZ hown (host := "") (Or.inl (own_w35 hw)) Via.refl e48 F1 (g := (mkF m 25 #[.val (.ref a), .val (.ref g), .val (.double u), .second, .val (.int (0 : Int32))] [(.ref a), (.double u), (.double i1), (.int (1 : Int32)), (.ref g)])) rfl rfl (hb hby own_d5_25)
    refine own_go st49 ?_
    show own_Ends prg e below s _ _ _ T49 (mkF m 28 #[.val (.ref a), .val (.ref g), .val (.double u), .second, .val (.int (0 : Int32))] [(.ref pa), (.double u), (.double i1), (.int (1 : Int32)), (.ref g)])
    refine own_iload (pc' := 30) X49 hx (hb hby own_d5_28) rfl rfl ?_
    refine own_daload (pc' := 31) (v := (.double q0)) X49 hx hZ e49 V1 (hb hby own_d5_30) rfl (by decide) rfl ?_
    refine own_dmul (pc' := 32) (z := (FP.dmul u q0)) X49 hx (hb hby own_d5_31) rfl (Jvm.Free.Fl.dmul_out hu hq0) rfl ?_
    refine own_dadd (pc' := 33) (z := (FP.dadd i1 (FP.dmul u q0))) X49 hx (hb hby own_d5_32) rfl (own_nan hi1 hu hq0) rfl ?_
    refine own_dastore (pc' := 34) X49 hx hZ e49 V2 (hb hby own_d5_33) rfl (by decide) 1 rfl (by simp) N0 ge0 ?_
    intro T50 h50 L50 X50 e50 N50 W50 V50
    replace V50 : Arv Z h50 g gk .double (4 : Int32) [(.double i0), (.double (FP.dadd i1 (FP.dmul u q0))), (.double i2), (.double i3)] (.double 0) := V50
    show own_Ends prg e below s _ _ _ T50 (mkF m 34 #[.val (.ref a), .val (.ref g), .val (.double u), .second, .val (.int (0 : Int32))] [])
    refine own_iinc (pc' := 37) (z := (1 : Int32)) (l' := #[.val (.ref a), .val (.ref g), .val (.double u), .second, .val (.int (1 : Int32))]) X50 hx (hb hby own_d5_34) rfl rfl (by decide) rfl ?_
    refine own_goto (pc' := 3) X50 hx (hb hby own_d5_37) (by decide) (by decide) ?_
    refine own_iload (pc' := 5) X50 hx (hb hby own_d5_3) rfl rfl ?_
    refine own_aloadN (pc' := 6) X50 hx (hb hby own_d5_5) rfl rfl rfl ?_
    have f51 := (F0.other W50 (Or.inl n1))
    obtain ⟨T52, X52, e52, st52⟩ := getF X50 hx hZ hown (host := "") (Or.inl (own_w27 hw)) Via.refl e50 f51 (g := (mkF m 6 #[.val (.ref a), .val (.ref g), .val (.double u), .second, .val (.int (1 : Int32))] [(.ref a), (.int (1 : Int32))])) rfl rfl (hb hby own_d5_6)
    refine own_go st52 ?_
    show own_Ends prg e below s _ _ _ T52 (mkF m 9 #[.val (.ref a), .val (.ref g), .val (.double u), .second, .val (.int (1 : Int32))] [(.ref ca), (.int (1 : Int32))])
    have f53 := (V0.other W50 n2)
    refine own_alen (pc' := 10) X52 hx hZ e52 f53 (hb hby own_d5_9) rfl ?_
    refine own_icmpYes (pc' := 40) X52 hx (hb hby own_d5_10) (flt (by decide)).2.1 (by decide) (by decide) ?_
    refine own_retV X52 hx hlk hret (hb hby own_d5_40) (by decide) (by decide) ?_
    have f54 := (K0.wr W50 (Or.inl (List.mem_of_getElem? (i := 0) rfl)))
    rw [e52]; exact ⟨rfl, N50, f54, V50⟩
  · replace V0 : Arv Z h0 ca ck .int (1 : Int32) [(.int (1 : Int32))] (.int (0 : Int32)) := V0
    refine own_iconst (pc' := 1) (z := (0 : Int32)) X0 hx (hb hby own_d5_0) rfl rfl ?_
    refine own_istore (pc' := 3) (l' := #[.val (.ref a), .val (.ref g), .val (.double u), .second, .val (.int (0 : Int32))]) X0 hx (hb hby own_d5_1) rfl rfl ?_
    refine own_iload (pc' := 5) X0 hx (hb hby own_d5_3) rfl rfl ?_
    refine own_aloadN (pc' := 6) X0 hx (hb hby own_d5_5) rfl rfl rfl ?_
    obtain ⟨T55, X55, e55, st55⟩ := getF X0 hx hZ hown (host := "") (Or.inl (own_w27 hw)) Via.refl e0 F0 (g := (mkF m 6 #[.val (.ref a), .val (.ref g), .val (.double u), .second, .val (.int (0 : Int32))] [(.ref a), (.int (0 : Int32))])) rfl rfl (hb hby own_d5_6)
    refine own_go st55 ?_
    show own_Ends prg e below s _ _ _ T55 (mkF m 9 #[.val (.ref a), .val (.ref g), .val (.double u), .second, .val (.int (0 : Int32))] [(.ref ca), (.int (0 : Int32))])
    refine own_alen (pc' := 10) X55 hx hZ e55 V0 (hb hby own_d5_9) rfl ?_
    refine own_icmpNo (pc' := 13) X55 hx (hb hby own_d5_10) rfl (tlt (by decide)).2.1 ?_
    refine own_aloadN (pc' := 14) X55 hx (hb hby own_d5_13) rfl rfl rfl ?_
    refine own_aloadN (pc' := 15) X55 hx (hb hby own_d5_14) rfl rfl rfl ?_
    obtain ⟨T56, X56, e56, st56⟩ := getF X55 hx hZ hown (host := "") (Or.inl (own_w27 hw)) Via.refl e55 F0 (g := (mkF m 15 #[.val (.ref a), .val (.ref g), .val (.double u), .second, .val (.int (0 : Int32))] [(.ref a), (.ref g)])) rfl rfl (hb hby own_d5_15)
    refine own_go st56 ?_
    show own_Ends prg e below s _ _ _ T56 (mkF m 18 #[.val (.ref a), .val (.ref g), .val (.double u), .second, .val (.int (0 : Int32))] [(.ref ca), (.ref g)])
    refine own_iload (pc' := 20) X56 hx (hb hby own_d5_18) rfl rfl ?_
    refine own_iaload (pc' := 21) (v := (.int (1 : Int32))) X56 hx hZ e56 V0 (hb hby own_d5_20) rfl (by decide) rfl ?_
    refine own_dup2 (pc' := 22) X56 hx (hb hby own_d5_21) rfl rfl rfl ?_
    refine own_daload (pc' := 23) (v := (.double i1)) X56 hx hZ e56 V2 (hb hby own_d5_22) rfl (by decide) rfl ?_
    refine own_dloadN (pc' := 24) X56 hx (hb hby own_d5_23) rfl rfl ?_
    refine own_aloadN (pc' := 25) X56 hx (hb hby own_d5_24) rfl rfl rfl ?_
    obtain ⟨T57, X57, e57, st57⟩ := getF X56 hx hZ hown (host := "") (Or.inl (own_w35 hw)) Via.refl e56 F1 (g := (mkF m 25 #[.val (.ref a), .val (.ref g), .val (.double u), .second, .val (.int (0 : Int32))] [(.ref a), (.double u), (.double i1), (.int (1 : Int32)), (.ref g)])) rfl rfl (hb hby own_d5_25)
    refine own_go st57 ?_
    show own_Ends prg e below s _ _ _ T57 (mkF m 28 #[.val (.ref a), .val (.ref g), .val (.double u), .second, .val (.int (0 : Int32))] [(.ref pa), (.double u), (.double i1), (.int (1 : Int32)), (.ref g)])
    refine own_iload (pc' := 30) X57 hx (hb hby own_d5_28) rfl rfl ?_
    refine own_daload (pc' := 31) (v := (.double q0)) X57 hx hZ e57 V1 (hb hby own_d5_30) rfl (by decide) rfl ?_
    refine own_dmul (pc' := 32) (z := (FP.dmul u q0)) X57 hx (hb hby own_d5_31) rfl (Jvm.Free.Fl.dmul_out hu hq0) rfl ?_
    refine own_dadd (pc' := 33) (z := (FP.dadd i1 (FP.dmul u q0))) X57 hx (hb hby own_d5_32) rfl (own_nan hi1 hu hq0) rfl ?_
    refine own_dastore (pc' := 34) X57 hx hZ e57 V2 (hb hby own_d5_33) rfl (by decide) 1 rfl (by simp) N0 ge0 ?_
    intro T58 h58 L58 X58 e58 N58 W58 V58
    replace V58 : Arv Z h58 g gk .double (4 : Int32) [(.double i0), (.double (FP.dadd i1 (FP.dmul u q0))), (.double i2), (.double i3)] (.double 0) := V58
    show own_Ends prg e below s _ _ _ T58 (mkF m 34 #[.val (.ref a), .val (.ref g), .val (.double u), .second, .val (.int (0 : Int32))] [])
    refine own_iinc (pc' := 37) (z := (1 : Int32)) (l' := #[.val (.ref a), .val (.ref g), .val (.double u), .second, .val (.int (1 : Int32))]) X58 hx (hb hby own_d5_34) rfl rfl (by decide) rfl ?_
    refine own_goto (pc' := 3) X58 hx (hb hby own_d5_37) (by decide) (by decide) ?_
    refine own_iload (pc' := 5) X58 hx (hb hby own_d5_3) rfl rfl ?_
    refine own_aloadN (pc' := 6) X58 hx (hb hby own_d5_5) rfl rfl rfl ?_
    have f59 := (F0.other W58 (Or.inl n1))
    obtain ⟨T60, X60, e60, st60⟩ := getF X58 hx hZ hown (host := "") (Or.inl (own_w27 hw)) Via.refl e58 f59 (g := (mkF m 6 #[.val (.ref a), .val (.ref g), .val (.double u), .second, .val (.int (1 : Int32))] [(.ref a), (.int (1 : Int32))])) rfl rfl (hb hby own_d5_6)
    refine own_go st60 ?_
    show own_Ends prg e below s _ _ _ T60 (mkF m 9 #[.val (.ref a), .val (.ref g), .val (.double u), .second, .val (.int (1 : Int32))] [(.ref ca), (.int (1 : Int32))])
    have f61 := (V0.other W58 n2)
    refine own_alen (pc' := 10) X60 hx hZ e60 f61 (hb hby own_d5_9) rfl ?_
    refine own_icmpYes (pc' := 40) X60 hx (hb hby own_d5_10) (flt (by decide)).2.1 (by decide) (by decide) ?_
    refine own_retV X60 hx hlk hret (hb hby own_d5_40) (by decide) (by decide) ?_
    have f62 := (K0.wr W58 (Or.inl (List.mem_of_getElem? (i := 0) rfl)))
    rw [e60]; exact ⟨rfl, N58, f62, V58⟩
  · replace V0 : Arv Z h0 ca ck .int (1 : Int32) [(.int (2 : Int32))] (.int (0 : Int32)) := V0
    refine own_iconst (pc' := 1) (z := (0 : Int32)) X0 hx (hb hby own_d5_0) rfl rfl ?_
    refine own_istore (pc' := 3) (l' := #[.val (.ref a), .val (.ref g), .val (.double u), .second, .val (.int (0 : Int32))]) X0 hx (hb hby own_d5_1) rfl rfl ?_
    refine own_iload (pc' := 5) X0 hx (hb hby own_d5_3) rfl rfl ?_
    refine own_aloadN (pc' := 6) X0 hx (hb hby own_d5_5) rfl rfl rfl ?_
    obtain ⟨T63, X63, e63, st63⟩ := getF X0 hx hZ hown (host := "") (Or.inl (own_w27 hw)) Via.refl e0 F0 (g := (mkF m 6 #[.val (.ref a), .val (.ref g), .val (.double u), .second, .val (.int (0 : Int32))] [(.ref a), (.int (0 : Int32))])) rfl rfl (hb hby own_d5_6)
    refine own_go st63 ?_
    show own_Ends prg e below s _ _ _ T63 (mkF m 9 #[.val (.ref a), .val (.ref g), .val (.double u), .second, .val (.int (0 : Int32))] [(.ref ca), (.int (0 : Int32))])
    refine own_alen (pc' := 10) X63 hx hZ e63 V0 (hb hby own_d5_9) rfl ?_
    refine own_icmpNo (pc' := 13) X63 hx (hb hby own_d5_10) rfl (tlt (by decide)).2.1 ?_
    refine own_aloadN (pc' := 14) X63 hx (hb hby own_d5_13) rfl rfl rfl ?_
    refine own_aloadN (pc' := 15) X63 hx (hb hby own_d5_14) rfl rfl rfl ?_
    obtain ⟨T64, X64, e64, st64⟩ := getF X63 hx hZ hown (host := "") (Or.inl (own_w27 hw)) Via.refl e63 F0 (g := (mkF m 15 #[.val (.ref a), .val (.ref g), .val (.double u), .second, .val (.int (0 : Int32))] [(.ref a), (.ref g)])) rfl rfl (hb hby own_d5_15)
    refine own_go st64 ?_
    show own_Ends prg e below s _ _ _ T64 (mkF m 18 #[.val (.ref a), .val (.ref g), .val (.double u), .second, .val (.int (0 : Int32))] [(.ref ca), (.ref g)])
    refine own_iload (pc' := 20) X64 hx (hb hby own_d5_18) rfl rfl ?_
    refine own_iaload (pc' := 21) (v := (.int (2 : Int32))) X64 hx hZ e64 V0 (hb hby own_d5_20) rfl (by decide) rfl ?_
    refine own_dup2 (pc' := 22) X64 hx (hb hby own_d5_21) rfl rfl rfl ?_
    refine own_daload (pc' := 23) (v := (.double i2)) X64 hx hZ e64 V2 (hb hby own_d5_22) rfl (by decide) rfl ?_
    refine own_dloadN (pc' := 24) X64 hx (hb hby own_d5_23) rfl rfl ?_
    refine own_aloadN (pc' := 25) X64 hx (hb hby own_d5_24) rfl rfl rfl ?_
    obtain ⟨T65, X65, e65, st65⟩ := getF X64 hx hZ hown (host := "") (Or.inl (own_w35 hw)) Via.refl e64 F1 (g := (mkF m 25 #[.val (.ref a), .val (.ref g), .val (.double u), .second, .val (.int (0 : Int32))] [(.ref a), (.double u), (.double i2), (.int (2 : Int32)), (.ref g)])) rfl rfl (hb hby own_d5_25)
    refine own_go st65 ?_
    show own_Ends prg e below s _ _ _ T65 (mkF m 28 #[.val (.ref a), .val (.ref g), .val (.double u), .second, .val (.int (0 : Int32))] [(.ref pa), (.double u), (.double i2), (.int (2 : Int32)), (.ref g)])
    refine own_iload (pc' := 30) X65 hx (hb hby own_d5_28) rfl rfl ?_
    refine own_daload (pc' := 31) (v := (.double q0)) X65 hx hZ e65 V1 (hb hby own_d5_30) rfl (by decide) rfl ?_
    refine own_dmul (pc' := 32) (z := (FP.dmul u q0)) X65 hx (hb hby own_d5_31) rfl (Jvm.Free.Fl.dmul_out hu hq0) rfl ?_
    refine own_dadd (pc' := 33) (z := (FP.dadd i2 (FP.dmul u q0))) X65 hx (hb hby own_d5_32) rfl (own_nan hi2 hu hq0) rfl ?_
    refine own_dastore (pc' := 34) X65 hx hZ e65 V2 (hb hby own_d5_33) rfl (by decide) 2 rfl (by simp) N0 ge0 ?_
    intro T66 h66 L66 X66 e66 N66 W66 V66
    replace V66 : Arv Z h66 g gk .double (4 : Int32) [(.double i0), (.double i1), (.double (FP.dadd i2 (FP.dmul u q0))), (.double i3)] (.double 0) := V66
    show own_Ends prg e below s _ _ _ T66 (mkF m 34 #[.val (.ref a), .val (.ref g), .val (.double u), .second, .val (.int (0 : Int32))] [])
    refine own_iinc (pc' := 37) (z := (1 : Int32)) (l' := #[.val (.ref a), .val (.ref g), .val (.double u), .second, .val (.int (1 : Int32))]) X66 hx (hb hby own_d5_34) rfl rfl (by decide) rfl ?_
    refine own_goto (pc' := 3) X66 hx (hb hby own_d5_37) (by decide) (by decide) ?_
    refine own_iload (pc' := 5) X66 hx (hb hby own_d5_3) rfl rfl ?_
    refine own_aloadN (pc' := 6) X66 hx (hb hby own_d5_5) rfl rfl rfl ?_
    have f67 := (F0.other W66 (Or.inl n1))
    obtain ⟨T68, X68, e68, st68⟩ := getF X66 hx hZ hown (host := "") (Or.inl (own_w27 hw)) Via.refl e66 f67 (g := (mkF m 6 #[.val (.ref a), .val (.ref g), .val (.double u), .second, .val (.int (1 : Int32))] [(.ref a), (.int (1 : Int32))])) rfl rfl (hb hby own_d5_6)
    refine own_go st68 ?_
    show own_Ends prg e below s _ _ _ T68 (mkF m 9 #[.val (.ref a), .val (.ref g), .val (.double u), .second, .val (.int (1 : Int32))] [(.ref ca), (.int (1 : Int32))])
    have f69 := (V0.other W66 n2)
    refine own_alen (pc' := 10) X68 hx hZ e68 f69 (hb hby own_d5_9) rfl ?_
    refine own_icmpYes (pc' := 40) X68 hx (hb hby own_d5_10) (flt (by decide)).2.1 (by decide) (by decide) ?_
    refine own_retV X68 hx hlk hret (hb hby own_d5_40) (by decide) (by decide) ?_
    have f70 := (K0.wr W66 (Or.inl (List.mem_of_getElem? (i := 0) rfl)))
    rw [e68]; exact ⟨rfl, N66, f70, V66⟩
  · replace V0 : Arv Z h0 ca ck .int (1 : Int32) [(.int (2 : Int32))] (.int (0 : Int32)) := V0
    refine own_iconst (pc' := 1) (z := (0 : Int32)) X0 hx (hb hby own_d5_0) rfl rfl ?_
    refine own_istore (pc' := 3) (l' := #[.val (.ref a), .val (.ref g), .val (.double u), .second, .val (.int (0 : Int32))]) X0 hx (hb hby own_d5_1) rfl rfl ?_
    refine own_iload (pc' := 5) X0 hx (hb hby own_d5_3) rfl rfl ?_
    refine own_aloadN (pc' := 6) X0 hx (hb hby own_d5_5) rfl rfl rfl ?_
    obtain ⟨T71, X71, e71, st71⟩ := getF X0 hx hZ hown (host := "") (Or.inl (own_w27 hw)) Via.refl e0 F0 (g := (mkF m 6 #[.val (.ref a), .val (.ref g), .val (.double u), .second, .val (.int (0 : Int32))] [(.ref a), (.int (0 : Int32))])) rfl rfl (hb hby own_d5_6)
    refine own_go st71 ?_
    show own_Ends prg e below s _ _ _ T71 (mkF m 9 #[.val (.ref a), .val (.ref g), .val (.double u), .second, .val (.int (0 : Int32))] [(.ref ca), (.int (0 : Int32))])
    refine own_alen (pc' := 10) X71 hx hZ e71 V0 (hb hby own_d5_9) rfl ?_
    refine own_icmpNo (pc' := 13) X71 hx (hb hby own_d5_10) rfl (tlt (by decide)).2.1 ?_
    refine own_aloadN (pc' := 14) X71 hx (hb hby own_d5_13) rfl rfl rfl ?_
    refine own_aloadN (pc' := 15) X71 hx (hb hby own_d5_14) rfl rfl rfl ?_
    obtain ⟨T72, X72, e72, st72⟩ := getF X71 hx hZ hown (host := "") (Or.inl (own_w27 hw)) Via.refl e71 F0 (g := (mkF m 15 #[.val (.ref a), .val (.ref g), .val (.double u), .second, .val (.int (0 : Int32))] [(.ref a), (.ref g)])) rfl rfl (hb hby own_d5_15)
    refine own_go st72 ?_
    show own_Ends prg e below s _ _ _ T72 (mkF m 18 #[.val (.ref a), .val (.ref g), .val (.double u), .second, .val (.int (0 : Int32))] [(.ref ca), (.ref g)])
    refine own_iload (pc' := 20) X72 hx (hb hby own_d5_18) rfl rfl ?_
    refine own_iaload (pc' := 21) (v := (.int (2 : Int32))) X72 hx hZ e72 V0 (hb hby own_d5_20) rfl (by decide) rfl ?_
    refine own_dup2 (pc' := 22) X72 hx (hb hby own_d5_21) rfl rfl rfl ?_
    refine own_daload (pc' := 23) (v := (.double i2)) X72 hx hZ e72 V2 (hb hby own_d5_22) rfl (by decide) rfl ?_
    refine own_dloadN (pc' := 24) X72 hx (hb hby own_d5_23) rfl rfl ?_
    refine own_aloadN (pc' := 25) X72 hx (hb hby own_d5_24) rfl rfl rfl ?_
    obtain ⟨T73, X73, e73, st73⟩ := getF X72 hx hZ hown (host := "") (Or.inl (own_w35 hw)) Via.refl e72 F1 (g := (mkF m 25 #[.val (.ref a), .val (.ref g), .val (.double u), .second, .val (.int (0 : Int32))] [(.ref a), (.double u), (.double i2), (.int (2 : Int32)), (.ref g)])) rfl rfl (hb hby own_d5_25)
    refine own_go st73 ?_
    show own_Ends prg e below s _ _ _ T73 (mkF m 28 #[.val (.ref a), .val (.ref g), .val (.double u), .second, .val (.int (0 : Int32))] [(.ref pa), (.double u), (.double i2), (.int (2 : Int32)), (.ref g)])
    refine own_iload (pc' := 30) X73 hx (hb hby own_d5_28) rfl rfl ?_
    refine own_daload (pc' := 31) (v := (.double q0)) X73 hx hZ e73 V1 (hb hby own_d5_30) rfl (by decide) rfl ?_
    refine own_dmul (pc' := 32) (z := (FP.dmul u q0)) X73 hx (hb hby own_d5_31) rfl (Jvm.Free.Fl.dmul_out hu hq0) rfl ?_
    refine own_dadd (pc' := 33) (z := (FP.dadd i2 (FP.dmul u q0))) X73 hx (hb hby own_d5_32) rfl (own_nan hi2 hu hq0) rfl ?_
    refine own_dastore (pc' := 34) X73 hx hZ e73 V2 (hb hby own_d5_33) rfl (by decide) 2 rfl (by simp) N0 ge0 ?_
    intro T74 h74 L74 X74 e74 N74 W74 V74
    replace V74 : Arv Z h74 g gk .double (4 : Int32) [(.double i0), (.double i1), (.double (FP.dadd i2 (FP.dmul u q0))), (.double i3)] (.double 0) := V74
    show own_Ends prg e below s _ _ _ T74 (mkF m 34 #[.val (.ref a), .val (.ref g), .val (.double u), .second, .val (.int (0 : Int32))] [])
    refine own_iinc (pc' := 37) (z := (1 : Int32)) (l' := #[.val (.ref a), .val (.ref g), .val (.double u), .second, .val (.int (1 : Int32))]) X74 hx (hb hby own_d5_34) rfl rfl (by decide) rfl ?_
    refine own_goto (pc' := 3) X74 hx (hb hby own_d5_37) (by decide) (by decide) ?_
    refine own_iload (pc' := 5) X74 hx (hb hby own_d5_3) rfl rfl ?_
    refine own_aloadN (pc' := 6) X74 hx (hb hby own_d5_5) rfl rfl rfl ?_
    have f75 := (F0.other W74 (Or.inl n1))
    obtain ⟨T76, X76, e76, st76⟩ := getF X74 hx hZ hown (host := "") (Or.inl (own_w27 hw)) Via.refl e74 f75 (g := (mkF m 6 #[.val (.ref a), .val (.ref g), .val (.double u), .second, .val (.int (1 : Int32))] [(.ref a), (.int (1 : Int32))])) rfl rfl (hb hby own_d5_6)
    refine own_go st76 ?_
    show own_Ends prg e below s _ _ _ T76 (mkF m 9 #[.val (.ref a), .val (.ref g), .val (.double u), .second, .val (.int (1 : Int32))] [(.ref ca), (.int (1 : Int32))])
    have f77 := (V0.other W74 n2)
    refine own_alen (pc' := 10) X76 hx hZ e76 f77 (hb hby own_d5_9) rfl ?_
    refine own_icmpYes (pc' := 40) X76 hx (hb hby own_d5_10) (flt (by decide)).2.1 (by decide) (by decide) ?_
    refine own_retV X76 hx hlk hret (hb hby own_d5_40) (by decide) (by decide) ?_
    have f78 := (K0.wr W74 (Or.inl (List.mem_of_getElem? (i := 0) rfl)))
    rw [e76]; exact ⟨rfl, N74, f78, V74⟩
  · replace V0 : Arv Z h0 ca ck .int (1 : Int32) [(.int (3 : Int32))] (.int (0 : Int32)) := V0
    refine own_iconst (pc' := 1) (z := (0 : Int32)) X0 hx (hb hby own_d5_0) rfl rfl ?_
    refine own_istore (pc' := 3) (l' := #[.val (.ref a), .val (.ref g), .val (.double u), .second, .val (.int (0 : Int32))]) X0 hx (hb hby own_d5_1) rfl rfl ?_
    refine own_iload (pc' := 5) X0 hx (hb hby own_d5_3) rfl rfl ?_
    refine own_aloadN (pc' := 6) X0 hx (hb hby own_d5_5) rfl rfl rfl ?_
    obtain ⟨T79, X79, e79, st79⟩ := getF X0 hx hZ hown (host := "") (Or.inl (own_w27 hw)) Via.refl e0 F0 (g := (mkF m 6 #[.val (.ref a), .val (.ref g), .val (.double u), .second, .val (.int (0 : Int32))] [(.ref a), (.int (0 : Int32))])) rfl rfl (hb hby own_d5_6)
    refine own_go st79 ?_
    show own_Ends prg e below s _ _ _ T79 (mkF m 9 #[.val (.ref a), .val (.ref g), .val (.double u), .second, .val (.int (0 : Int32))] [(.ref ca), (.int (0 : Int32))])
    refine own_alen (pc' := 10) X79 hx hZ e79 V0 (hb hby own_d5_9) rfl ?_
    refine own_icmpNo (pc' := 13) X79 hx (hb hby own_d5_10) rfl (tlt (by decide)).2.1 ?_
    refine own_aloadN (pc' := 14) X79 hx (hb hby own_d5_13) rfl rfl rfl ?_
    refine own_aloadN (pc' := 15) X79 hx (hb hby own_d5_14) rfl rfl rfl ?_
    obtain ⟨T80, X80, e80, st80⟩ := getF X79 hx hZ hown (host := "") (Or.inl (own_w27 hw)) Via.refl e79 F0 (g := (mkF m 15 #[.val (.ref a), .val (.ref g), .val (.double u), .second, .val (.int (0 : Int32))] [(.ref a), (.ref g)])) rfl rfl (hb hby own_d5_15)
    refine own_go st80 ?_
    show own_Ends prg e below s _ _ _ T80 (mkF m 18 #[.val (.ref a), .val (.ref g), .val (.double u), .second, .val (.int (0 : Int32))] [(.ref ca), (.ref g)])
    refine own_iload (pc' := 20) X80 hx (hb hby own_d5_18) rfl rfl ?_
    refine own_iaload (pc' := 21) (v := (.int (3 : Int32))) X80 hx hZ e80 V0 (hb hby own_d5_20) rfl (by decide) rfl ?_
    refine own_dup2 (pc' := 22) X80 hx (hb hby own_d5_21) rfl rfl rfl ?_
    refine own_daload (pc' := 23) (v := (.double i3)) X80 hx hZ e80 V2 (hb hby own_d5_22) rfl (by decide) rfl ?_
    refine own_dloadN (pc' := 24) X80 hx (hb hby own_d5_23) rfl rfl ?_
    refine own_aloadN (pc' := 25) X80 hx (hb hby own_d5_24) rfl rfl rfl ?_
    obtain ⟨T81, X81, e81, st81⟩ := getF X80 hx hZ hown (host := "") (Or.inl (own_w35 hw)) Via.refl e80 F1 (g := (mkF m 25 #[.val (.ref a), .val (.ref g), .val (.double u), .second, .val (.int (0 : Int32))] [(.ref a), (.double u), (.double i3), (.int (3 : Int32)), (.ref g)])) rfl rfl (hb hby own_d5_25)
    refine own_go st81 ?_
    show own_Ends prg e below s _ _ _ T81 (mkF m 28 #[.val (.ref a), .val (.ref g), .val (.double u), .second, .val (.int (0 : Int32))] [(.ref pa), (.double u), (.double i3), (.int (3 : Int32)), (.ref g)])
    refine own_iload (pc' := 30) X81 hx (hb hby own_d5_28) rfl rfl ?_
    refine own_daload (pc' := 31) (v := (.double q0)) X81 hx hZ e81 V1 (hb hby own_d5_30) rfl (by decide) rfl ?_
    refine own_dmul (pc' := 32) (z := (FP.dmul u q0)) X81 hx (hb hby own_d5_31) rfl (Jvm.Free.Fl.dmul_out hu hq0) rfl ?_
    refine own_dadd (pc' := 33) (z := (FP.dadd i3 (FP.dmul u q0))) X81 hx (hb hby own_d5_32) rfl (own_nan hi3 hu hq0) rfl ?_
    refine own_dastore (pc' := 34) X81 hx hZ e81 V2 (hb hby own_d5_33) rfl (by decide) 3 rfl (by simp) N0 ge0 ?_
    intro T82 h82 L82 X82 e82 N82 W82 V82
    replace V82 : Arv Z h82 g gk .double (4 : Int32) [(.double i0), (.double i1), (.double i2), (.double (FP.dadd i3 (FP.dmul u q0)))] (.double 0) := V82
    show own_Ends prg e below s _ _ _ T82 (mkF m 34 #[.val (.ref a), .val (.ref g), .val (.double u), .second, .val (.int (0 : Int32))] [])
    refine own_iinc (pc' := 37) (z := (1 : Int32)) (l' := #[.val (.ref a), .val (.ref g), .val (.double u), .second, .val (.int (1 : Int32))]) X82 hx (hb hby own_d5_34) rfl rfl (by decide) rfl ?_
    refine own_goto (pc' := 3) X82 hx (hb hby own_d5_37) (by decide) (by decide) ?_
    refine own_iload (pc' := 5) X82 hx (hb hby own_d5_3) rfl rfl ?_
    refine own_aloadN (pc' := 6) X82 hx (hb hby own_d5_5) rfl rfl rfl ?_
    have f83 := (F0.other W82 (Or.inl n1))
    obtain ⟨T84, X84, e84, st84⟩ := getF X82 hx hZ hown (host := "") (Or.inl (own_w27 hw)) Via.refl e82 f83 (g := (mkF m 6 #[.val (.ref a), .val (.ref g), .val (.double u), .second, .val (.int (1 : Int32))] [(.ref a), (.int (1 : Int32))])) rfl rfl (hb hby own_d5_6)
    refine own_go st84 ?_
    show own_Ends prg e below s _ _ _ T84 (mkF m 9 #[.val (.ref a), .val (.ref g), .val (.double u), .second, .val (.int (1 : Int32))] [(.ref ca), (.int (1 : Int32))])
    have f85 := (V0.other W82 n2)
    refine own_alen (pc' := 10) X84 hx hZ e84 f85 (hb hby own_d5_9) rfl ?_
    refine own_icmpYes (pc' := 40) X84 hx (hb hby own_d5_10) (flt (by decide)).2.1 (by decide) (by decide) ?_
    refine own_retV X84 hx hlk hret (hb hby own_d5_40) (by decide) (by decide) ?_
    have f86 := (K0.wr W82 (Or.inl (List.mem_of_getElem? (i := 0) rfl)))
    rw [e84]; exact ⟨rfl, N82, f86, V82⟩
  · replace V0 : Arv Z h0 ca ck .int (1 : Int32) [(.int (3 : Int32))] (.int (0 : Int32)) := V0
    refine own_iconst (pc' := 1) (z := (0 : Int32)) X0 hx (hb hby own_d5_0) rfl rfl ?_
    refine own_istore (pc' := 3) (l' := #[.val (.ref a), .val (.ref g), .val (.double u), .second, .val (.int (0 : Int32))]) X0 hx (hb hby own_d5_1) rfl rfl ?_
    refine own_iload (pc' := 5) X0 hx (hb hby own_d5_3) rfl rfl ?_
    refine own_aloadN (pc' := 6) X0 hx (hb hby own_d5_5) rfl rfl rfl ?_
    obtain ⟨T87, X87, e87, st87⟩ := getF X0 hx hZ hown (host := "") (Or.inl (own_w27 hw)) Via.refl e0 F0 (g := (mkF m 6 #[.val (.ref a), .val (.ref g), .val (.double u), .second, .val (.int (0 : Int32))] [(.ref a), (.int (0 : Int32))])) rfl rfl (hb hby own_d5_6)
    refine own_go st87 ?_
    show own_Ends prg e below s _ _ _ T87 (mkF m 9 #[.val (.ref a), .val (.ref g), .val (.double u), .second, .val (.int (0 : Int32))] [(.ref ca), (.int (0 : Int32))])
    refine own_alen (pc' := 10) X87 hx hZ e87 V0 (hb hby own_d5_9) rfl ?_
    refine own_icmpNo (pc' := 13) X87 hx (hb hby own_d5_10) rfl (tlt (by decide)).2.1 ?_
    refine own_aloadN (pc' := 14) X87 hx (hb hby own_d5_13) rfl rfl rfl ?_
    refine own_aloadN (pc' := 15) X87 hx (hb hby own_d5_14) rfl rfl rfl ?_
    obtain ⟨T88, X88, e88, st88⟩ := getF X87 hx hZ hown (host := "") (Or.inl (own_w27 hw)) Via.refl e87 F0 (g := (mkF m 15 #[.val (.ref a), .val (.ref g), .val (.double u), .second, .val (.int (0 : Int32))] [(.ref a), (.ref g)])) rfl rfl (hb hby own_d5_15)
    refine own_go st88 ?_
    show own_Ends prg e below s _ _ _ T88 (mkF m 18 #[.val (.ref a), .val (.ref g), .val (.double u), .second, .val (.int (0 : Int32))] [(.ref ca), (.ref g)])
    refine own_iload (pc' := 20) X88 hx (hb hby own_d5_18) rfl rfl ?_
    refine own_iaload (pc' := 21) (v := (.int (3 : Int32))) X88 hx hZ e88 V0 (hb hby own_d5_20) rfl (by decide) rfl ?_
    refine own_dup2 (pc' := 22) X88 hx (hb hby own_d5_21) rfl rfl rfl ?_
    refine own_daload (pc' := 23) (v := (.double i3)) X88 hx hZ e88 V2 (hb hby own_d5_22) rfl (by decide) rfl ?_
    refine own_dloadN (pc' := 24) X88 hx (hb hby own_d5_23) rfl rfl ?_
    refine own_aloadN (pc' := 25) X88 hx (hb hby own_d5_24) rfl rfl rfl ?_
    obtain ⟨T89, X89, e89, st89⟩ := getF X88 hx hZ hown (host := "") (Or.inl (own_w35 hw)) Via.refl e88 F1 (g := (mkF m 25 #[.val (.ref a), .val (.ref g), .val (.double u), .second, .val (.int (0 : Int32))] [(.ref a), (.double u), (.double i3), (.int (3 : Int32)), (.ref g)])) rfl rfl (hb hby own_d5_25)
    refine own_go st89 ?_
    show own_Ends prg e below s _ _ _ T89 (mkF m 28 #[.val (.ref a), .val (.ref g), .val (.double u), .second, .val (.int (0 : Int32))] [(.ref pa), (.double u), (.double i3), (.int (3 : Int32)), (.ref g)])
    refine own_iload (pc' := 30) X89 hx (hb hby own_d5_28) rfl rfl ?_
    refine own_daload (pc' := 31) (v := (.double q0)) X89 hx hZ e89 V1 (hb hby own_d5_30) rfl (by decide) rfl ?_
    refine own_dmul (pc' := 32) (z := (FP.dmul u q0)) X89 hx (hb hby own_d5_31) rfl (Jvm.Free.Fl.dmul_out hu hq0) rfl ?_
    refine own_dadd (pc' := 33) (z := (FP.dadd i3 (FP.dmul u q0))) X89 hx (hb hby own_d5_32) rfl (own_nan hi3 hu hq0) rfl ?_
    refine own_dastore (pc' := 34) X89 hx hZ e89 V2 (hb hby own_d5_33) rfl (by decide) 3 rfl (by simp) N0 ge0 ?_
    intro T90 h90 L90 X90 e90 N90 W90 V90
    replace V90 : Arv Z h90 g gk .double (4 : Int32) [(.double i0), (.double i1), (.double i2), (.double (FP.dadd i3 (FP.dmul u q0)))] (.double 0) := V90
    show own_Ends prg e below s _ _ _ T90 (mkF m 34 #[.val (.ref a), .val (.ref g), .val (.double u), .second, .val (.int (0 : Int32))] [])
    refine own_iinc (pc' := 37) (z := (1 : Int32)) (l' := #[.val (.ref a), .val (.ref g), .val (.double u), .second, .val (.int (1 : Int32))]) X90 hx (hb hby own_d5_34) rfl rfl (by decide) rfl ?_
    refine own_goto (pc' := 3) X90 hx (hb hby own_d5_37) (by decide) (by decide) ?_
    refine own_iload (pc' := 5) X90 hx (hb hby own_d5_3) rfl rfl ?_
    refine own_aloadN (pc' := 6) X90 hx (hb hby own_d5_5) rfl rfl rfl ?_
    have f91 := (F0.other W90 (Or.inl n1))
    obtain ⟨T92, X92, e92, st92⟩ := getF X90 hx hZ hown (host := "") (Or.inl (own_w27 hw)) Via.refl e90 f91 (g := (mkF m 6 #[.val (.ref a), .val (.ref g), .val (.double u), .second, .val (.int (1 : Int32))] [(.ref a), (.int (1 : Int32))])) rfl rfl (hb hby own_d5_6)
    refine own_go st92 ?_
    show own_Ends prg e below s _ _ _ T92 (mkF m 9 #[.val (.ref a), .val (.ref g), .val (.double u), .second, .val (.int (1 : Int32))] [(.ref ca), (.int (1 : Int32))])
    have f93 := (V0.other W90 n2)
    refine own_alen (pc' := 10) X92 hx hZ e92 f93 (hb hby own_d5_9) rfl ?_
    refine own_icmpYes (pc' := 40) X92 hx (hb hby own_d5_10) (flt (by decide)).2.1 (by decide) (by decide) ?_
    refine own_retV X92 hx hlk hret (hb hby own_d5_40) (by decide) (by decide) ?_
    have f94 := (K0.wr W90 (Or.inl (List.mem_of_getElem? (i := 0) rfl)))
    rw [e92]; exact ⟨rfl, N90, f94, V90⟩
def own_room5_2 : Room := { frames := 0, cells := 0, slots := 0, locals := 0 }
def own_Q5_2 (Z : State) (a : Addr) (g : Addr) (u : UInt64) (ca : Addr) (pa : Addr) (ck : ClassId) (pk : ClassId) (gk : ClassId) (b : Int32) (d : Int32) (i0 : UInt64) (i1 : UInt64) (i2 : UInt64) (i3 : UInt64) (q0 : UInt64) (q1 : UInt64) (q2 : UInt64) (q3 : UInt64) (h0 : Heap) (n0 : Nat) (v : Option Value) (h : Heap) (L : List Loc) : Prop := v = none ∧ Fr n0 L ∧ Keep h0 h [g] ∧ Arv Z h g gk .double (4 : Int32) [(.double (own_exp 0 b d 2 i0 u q0 q1 q2 q3)), (.double (own_exp 1 b d 2 i1 u q0 q1 q2 q3)), (.double (own_exp 2 b d 2 i2 u q0 q1 q2 q3)), (.double (own_exp 3 b d 2 i3 u q0 q1 q2 q3))] (.double 0)
theorem own_ef_rm5_2 (m : MethodId) (x0 : Addr) (x1 : Addr) (x2 : UInt64) : entryFrame m #[(.ref x0), (.ref x1), (.double x2)] 5 = mkF m 0 #[.val (.ref x0), .val (.ref x1), .val (.double x2), .second, .unset] [] := by first | (simp [entryFrame, mkF, argsToLocals, Value.category]; done) | rfl
set_option maxRecDepth 65536 in
set_option maxHeartbeats 40000000 in
theorem own_rm5_2 (lch : Launch) (Z : State) (a0 : Array Value) (hw : ∀ d ∈ tables_1, d.before a0 Z = true) (ws : List Jvm.Cond) (a : Addr) (g : Addr) (u : UInt64) (ca : Addr) (pa : Addr) (ck : ClassId) (pk : ClassId) (gk : ClassId) (b : Int32) (d : Int32) (i0 : UInt64) (i1 : UInt64) (i2 : UInt64) (i3 : UInt64) (q0 : UInt64) (q1 : UInt64) (q2 : UInt64) (q3 : UInt64) (h0 : Heap) (n0 : Nat) (F0 : Fld Z h0 a "com/example/mapwright/mapwright/ArcLoads" "arcs" "[I" (.ref ca)) (F1 : Fld Z h0 a "com/example/mapwright/mapwright/ArcLoads" "perUnit" "[D" (.ref pa)) (V0 : Arv Z h0 ca ck .int (2 : Int32) [(.int (b &&& (3 : Int32))), (.int ((b + d) &&& (3 : Int32)))] (.int (0 : Int32))) (V1 : Arv Z h0 pa pk .double (2 : Int32) [(.double q0), (.double q1)] (.double 0)) (V2 : Arv Z h0 g gk .double (4 : Int32) [(.double i0), (.double i1), (.double i2), (.double i3)] (.double 0)) (ge0 : n0 ≤ g) (n1 : a ≠ g) (n2 : ca ≠ g) (n3 : pa ≠ g) (hbd : (b = 0 ∧ d = 1) ∨ (b = 0 ∧ d = 3) ∨ (b = 1 ∧ d = 1) ∨ (b = 1 ∧ d = 3) ∨ (b = 2 ∧ d = 1) ∨ (b = 2 ∧ d = 3) ∨ (b = 3 ∧ d = 1) ∨ (b = 3 ∧ d = 3)) (hu : Jvm.Free.Fl.Fin64 u) (hi0 : Jvm.Free.Fl.Fin64 i0) (hi1 : Jvm.Free.Fl.Fin64 i1) (hi2 : Jvm.Free.Fl.Fin64 i2) (hi3 : Jvm.Free.Fl.Fin64 i3) (hq0 : Jvm.Free.Fl.Fin64 q0) (hq1 : Jvm.Free.Fl.Fin64 q1) (hq2 : Jvm.Free.Fl.Fin64 q2) (hq3 : Jvm.Free.Fl.Fin64 q3) :
    MetFree lch (⟨"com/example/mapwright/mapwright/ArcLoads", "addTo", "([DD)V"⟩ : MethodName) (head1 (Jvm.Cond.code (⟨"com/example/mapwright/mapwright/ArcLoads", "addTo", "([DD)V"⟩ : MethodName) prog_1_method_6_code 5 none :: ws) own_room5_2) (fun zz U => zz = #[(.ref a), (.ref g), (.double u)] ∧ Z.Warmed39 U.vm ∧ U.heap = h0) (fun _ _ _ _ _ => True) (fun _ U o U' => ∃ v L, o = .returned v ∧ own_Q5_2 Z a g u ca pa ck pk gk b d i0 i1 i2 i3 q0 q1 q2 q3 h0 n0 v U'.heap L ∧ FrameEnd U o U' L own_room5_2.cells own_room5_2.slots) := by
  refine MetFree.of_bodySF (plainFor_of_name own_pn1) hisR ?_
  intro prg e s m args below meth c s₁ Bd hml0 hP hK
  obtain ⟨rfl, hZ, hh⟩ := hP
  have hx := Bd.exec
  have hby := Bd.bytes
  have hml : c.maxLocals = 5 := hml0
  have hown : s.vm.findClass "com/example/mapwright/mapwright/ArcLoads" = some m.cls := findClass_of_methodNamed Bd.named
  have hnm := (name_of_methodNamed Bd.named Bd.method).1
  have hlk : meth.locks = false := BodyLoose.notSynchronized Bd
  have hret := Bd.returns
  have X0 : Stand prg lch e own_room5_2 s m #[(.ref a), (.ref g), (.double u)] below meth c s₁ [] 0 0 := Stand.of_body Bd
  have e0 : s₁.heap = h0 := by rw [← hh, Bd.state]; rfl
  have N0 := Fr.nil n0
  show own_Ends prg e below s (own_Q5_2 Z a g u ca pa ck pk gk b d i0 i1 i2 i3 q0 q1 q2 q3 h0 n0) own_room5_2.cells own_room5_2.slots s₁ (entryFrame m #[(.ref a), (.ref g), (.double u)] 5)
  refine own_cast (own_ef_rm5_2 m a g u) ?_
  have K0 := Keep.refl h0 ([g] : List Addr)
  rcases hbd with ⟨rfl, rfl⟩ | ⟨rfl, rfl⟩ | ⟨rfl, rfl⟩ | ⟨rfl, rfl⟩ | ⟨rfl, rfl⟩ | ⟨rfl, rfl⟩ | ⟨rfl, rfl⟩ | ⟨rfl, rfl⟩
  · replace V0 : Arv Z h0 ca ck .int (2 : Int32) [(.int (0 : Int32)), (.int (1 : Int32))] (.int (0 : Int32)) := V0
    refine own_iconst (pc' := 1) (z := (0 : Int32)) X0 hx (hb hby own_d5_0) rfl rfl ?_
    refine own_istore (pc' := 3) (l' := #[.val (.ref a), .val (.ref g), .val (.double u), .second, .val (.int (0 : Int32))]) X0 hx (hb hby own_d5_1) rfl rfl ?_
    refine own_iload (pc' := 5) X0 hx (hb hby own_d5_3) rfl rfl ?_
    refine own_aloadN (pc' := 6) X0 hx (hb hby own_d5_5) rfl rfl rfl ?_
    obtain ⟨T31, X31, e31, st31⟩ := getF X0 hx hZ hown (host := "") (Or.inl (own_w27 hw)) Via.refl e0 F0 (g := (mkF m 6 #[.val (.ref a), .val (.ref g), .val (.double u), .second, .val (.int (0 : Int32))] [(.ref a), (.int (0 : Int32))])) rfl rfl (hb hby own_d5_6)
    refine own_go st31 ?_
    show own_Ends prg e below s _ _ _ T31 (mkF m 9 #[.val (.ref a), .val (.ref g), .val (.double u), .second, .val (.int (0 : Int32))] [(.ref ca), (.int (0 : Int32))])
    refine own_alen (pc' := 10) X31 hx hZ e31 V0 (hb hby own_d5_9) rfl ?_
    refine own_icmpNo (pc' := 13) X31 hx (hb hby own_d5_10) rfl (tlt (by decide)).2.1 ?_
    refine own_aloadN (pc' := 14) X31 hx (hb hby own_d5_13) rfl rfl rfl ?_
    refine own_aloadN (pc' := 15) X31 hx (hb hby own_d5_14) rfl rfl rfl ?_
    obtain ⟨T32, X32, e32, st32⟩ := getF X31 hx hZ hown (host := "") (Or.inl (own_w27 hw)) Via.refl e31 F0 (g := (mkF m 15 #[.val (.ref a), .val (.ref g), .val (.double u), .second, .val (.int (0 : Int32))] [(.ref a), (.ref g)])) rfl rfl (hb hby own_d5_15)
    refine own_go st32 ?_
    show own_Ends prg e below s _ _ _ T32 (mkF m 18 #[.val (.ref a), .val (.ref g), .val (.double u), .second, .val (.int (0 : Int32))] [(.ref ca), (.ref g)])
    refine own_iload (pc' := 20) X32 hx (hb hby own_d5_18) rfl rfl ?_
    refine own_iaload (pc' := 21) (v := (.int (0 : Int32))) X32 hx hZ e32 V0 (hb hby own_d5_20) rfl (by decide) rfl ?_
    refine own_dup2 (pc' := 22) X32 hx (hb hby own_d5_21) rfl rfl rfl ?_
    refine own_daload (pc' := 23) (v := (.double i0)) X32 hx hZ e32 V2 (hb hby own_d5_22) rfl (by decide) rfl ?_
    refine own_dloadN (pc' := 24) X32 hx (hb hby own_d5_23) rfl rfl ?_
    refine own_aloadN (pc' := 25) X32 hx (hb hby own_d5_24) rfl rfl rfl ?_
    obtain ⟨T33, X33, e33, st33⟩ := getF X32 hx hZ hown (host := "") (Or.inl (own_w35 hw)) Via.refl e32 F1 (g := (mkF m 25 #[.val (.ref a), .val (.ref g), .val (.double u), .second, .val (.int (0 : Int32))] [(.ref a), (.double u), (.double i0), (.int (0 : Int32)), (.ref g)])) rfl rfl (hb hby own_d5_25)
    refine own_go st33 ?_
    show own_Ends prg e below s _ _ _ T33 (mkF m 28 #[.val (.ref a), .val (.ref g), .val (.double u), .second, .val (.int (0 : Int32))] [(.ref pa), (.double u), (.double i0), (.int (0 : Int32)), (.ref g)])
    refine own_iload (pc' := 30) X33 hx (hb hby own_d5_28) rfl rfl ?_
    refine own_daload (pc' := 31) (v := (.double q0)) X33 hx hZ e33 V1 (hb hby own_d5_30) rfl (by decide) rfl ?_
    refine own_dmul (pc' := 32) (z := (FP.dmul u q0)) X33 hx (hb hby own_d5_31) rfl (Jvm.Free.Fl.dmul_out hu hq0) rfl ?_
    refine own_dadd (pc' := 33) (z := (FP.dadd i0 (FP.dmul u q0))) X33 hx (hb hby own_d5_32) rfl (own_nan hi0 hu hq0) rfl ?_
    refine own_dastore (pc' := 34) X33 hx hZ e33 V2 (hb hby own_d5_33) rfl (by decide) 0 rfl (by simp) N0 ge0 ?_
    intro T34 h34 L34 X34 e34 N34 W34 V34
    replace V34 : Arv Z h34 g gk .double (4 : Int32) [(.double (FP.dadd i0 (FP.dmul u q0))), (.double i1), (.double i2), (.double i3)] (.double 0) := V34
    show own_Ends prg e below s _ _ _ T34 (mkF m 34 #[.val (.ref a), .val (.ref g), .val (.double u), .second, .val (.int (0 : Int32))] [])
    refine own_iinc (pc' := 37) (z := (1 : Int32)) (l' := #[.val (.ref a), .val (.ref g), .val (.double u), .second, .val (.int (1 : Int32))]) X34 hx (hb hby own_d5_34) rfl rfl (by decide) rfl ?_
    refine own_goto (pc' := 3) X34 hx (hb hby own_d5_37) (by decide) (by decide) ?_
    refine own_iload (pc' := 5) X34 hx (hb hby own_d5_3) rfl rfl ?_
    refine own_aloadN (pc' := 6) X34 hx (hb hby own_d5_5) rfl rfl rfl ?_
    have f35 := (F0.other W34 (Or.inl n1))
    obtain ⟨T36, X36, e36, st36⟩ := getF X34 hx hZ hown (host := "") (Or.inl (own_w27 hw)) Via.refl e34 f35 (g := (mkF m 6 #[.val (.ref a), .val (.ref g), .val (.double u), .second, .val (.int (1 : Int32))] [(.ref a), (.int (1 : Int32))])) rfl rfl (hb hby own_d5_6)
    refine own_go st36 ?_
    show own_Ends prg e below s _ _ _ T36 (mkF m 9 #[.val (.ref a), .val (.ref g), .val (.double u), .second, .val (.int (1 : Int32))] [(.ref ca), (.int (1 : Int32))])
    have f37 := (V0.other W34 n2)
    refine own_alen (pc' := 10) X36 hx hZ e36 f37 (hb hby own_d5_9) rfl ?_
    refine own_icmpNo (pc' := 13) X36 hx (hb hby own_d5_10) rfl (tlt (by decide)).2.1 ?_
    refine own_aloadN (pc' := 14) X36 hx (hb hby own_d5_13) rfl rfl rfl ?_
    refine own_aloadN (pc' := 15) X36 hx (hb hby own_d5_14) rfl rfl rfl ?_
    obtain ⟨T38, X38, e38, st38⟩ := getF X36 hx hZ hown (host := "") (Or.inl (own_w27 hw)) Via.refl e36 f35 (g := (mkF m 15 #[.val (.ref a), .val (.ref g), .val (.double u), .second, .val (.int (1 : Int32))] [(.ref a), (.ref g)])) rfl rfl (hb hby own_d5_15)
    refine own_go st38 ?_
    show own_Ends prg e below s _ _ _ T38 (mkF m 18 #[.val (.ref a), .val (.ref g), .val (.double u), .second, .val (.int (1 : Int32))] [(.ref ca), (.ref g)])
    refine own_iload (pc' := 20) X38 hx (hb hby own_d5_18) rfl rfl ?_
    refine own_iaload (pc' := 21) (v := (.int (1 : Int32))) X38 hx hZ e38 f37 (hb hby own_d5_20) rfl (by decide) rfl ?_
    refine own_dup2 (pc' := 22) X38 hx (hb hby own_d5_21) rfl rfl rfl ?_
    refine own_daload (pc' := 23) (v := (.double i1)) X38 hx hZ e38 V34 (hb hby own_d5_22) rfl (by decide) rfl ?_
    refine own_dloadN (pc' := 24) X38 hx (hb hby own_d5_23) rfl rfl ?_
    refine own_aloadN (pc' := 25) X38 hx (hb hby own_d5_24) rfl rfl rfl ?_
    have f39 := (F1.other W34 (Or.inl n1))
    obtain ⟨T40, X40, e40, st40⟩ := getF X38 hx hZ hown (host := "") (Or.inl (own_w35 hw)) Via.refl e38 f39 (g := (mkF m 25 #[.val (.ref a), .val (.ref g), .val (.double u), .second, .val (.int (1 : Int32))] [(.ref a), (.double u), (.double i1), (.int (1 : Int32)), (.ref g)])) rfl rfl (hb hby own_d5_25)
    refine own_go st40 ?_
    show own_Ends prg e below s _ _ _ T40 (mkF m 28 #[.val (.ref a), .val (.ref g), .val (.double u), .second, .val (.int (1 : Int32))] [(.ref pa), (.double u), (.double i1), (.int (1 : Int32)), (.ref g)])
    refine own_iload (pc' := 30) X40 hx (hb hby own_d5_28) rfl rfl ?_
    have f41 := (V1.other W34 n3)
    refine own_daload (pc' := 31) (v := (.double q1)) X40 hx hZ e40 f41 (hb hby own_d5_30) rfl (by decide) rfl ?_
    refine own_dmul (pc' := 32) (z := (FP.dmul u q1)) X40 hx (hb hby own_d5_31) rfl (Jvm.Free.Fl.dmul_out hu hq1) rfl ?_
    refine own_dadd (pc' := 33) (z := (FP.dadd i1 (FP.dmul u q1))) X40 hx (hb hby own_d5_32) rfl (own_nan hi1 hu hq1) rfl ?_
    refine own_dastore (pc' := 34) X40 hx hZ e40 V34 (hb hby own_d5_33) rfl (by decide) 1 rfl (by simp) N34 ge0 ?_
    intro T42 h42 L42 X42 e42 N42 W42 V42
    replace V42 : Arv Z h42 g gk .double (4 : Int32) [(.double (FP.dadd i0 (FP.dmul u q0))), (.double (FP.dadd i1 (FP.dmul u q1))), (.double i2), (.double i3)] (.double 0) := V42
    show own_Ends prg e below s _ _ _ T42 (mkF m 34 #[.val (.ref a), .val (.ref g), .val (.double u), .second, .val (.int (1 : Int32))] [])
    refine own_iinc (pc' := 37) (z := (2 : Int32)) (l' := #[.val (.ref a), .val (.ref g), .val (.double u), .second, .val (.int (2 : Int32))]) X42 hx (hb hby own_d5_34) rfl rfl (by decide) rfl ?_
    refine own_goto (pc' := 3) X42 hx (hb hby own_d5_37) (by decide) (by decide) ?_
    refine own_iload (pc' := 5) X42 hx (hb hby own_d5_3) rfl rfl ?_
    refine own_aloadN (pc' := 6) X42 hx (hb hby own_d5_5) rfl rfl rfl ?_
    have f43 := (f35.other W42 (Or.inl n1))
    obtain ⟨T44, X44, e44, st44⟩ := getF X42 hx hZ hown (host := "") (Or.inl (own_w27 hw)) Via.refl e42 f43 (g := (mkF m 6 #[.val (.ref a), .val (.ref g), .val (.double u), .second, .val (.int (2 : Int32))] [(.ref a), (.int (2 : Int32))])) rfl rfl (hb hby own_d5_6)
    refine own_go st44 ?_
    show own_Ends prg e below s _ _ _ T44 (mkF m 9 #[.val (.ref a), .val (.ref g), .val (.double u), .second, .val (.int (2 : Int32))] [(.ref ca), (.int (2 : Int32))])
    have f45 := (f37.other W42 n2)
    refine own_alen (pc' := 10) X44 hx hZ e44 f45 (hb hby own_d5_9) rfl ?_
    refine own_icmpYes (pc' := 40) X44 hx (hb hby own_d5_10) (flt (by decide)).2.1 (by decide) (by decide) ?_
    refine own_retV X44 hx hlk hret (hb hby own_d5_40) (by decide) (by decide) ?_
    have f46 := ((K0.wr W34 (Or.inl (List.mem_of_getElem? (i := 0) rfl))).wr W42 (Or.inl (List.mem_of_getElem? (i := 0) rfl)))
    rw [e44]; exact ⟨rfl, N42, f46, V42⟩
  · replace V0 : Arv Z h0 ca ck .int (2 : Int32) [(.int (0 : Int32)), (.int (3 : Int32))] (.int (0 : Int32)) := V0
    refine own_iconst (pc' := 1) (z := (0 : Int32)) X0 hx (hb hby own_d5_0) rfl rfl ?_
    refine own_istore (pc' := 3) (l' := #[.val (.ref a), .val (.ref g), .val (.double u), .second, .val (.int (0 : Int32))]) X0 hx (hb hby own_d5_1) rfl rfl ?_
    refine own_iload (pc' := 5) X0 hx (hb hby own_d5_3) rfl rfl ?_
    refine own_aloadN (pc' := 6) X0 hx (hb hby own_d5_5) rfl rfl rfl ?_
    obtain ⟨T47, X47, e47, st47⟩ := getF X0 hx hZ hown (host := "") (Or.inl (own_w27 hw)) Via.refl e0 F0 (g := (mkF m 6 #[.val (.ref a), .val (.ref g), .val (.double u), .second, .val (.int (0 : Int32))] [(.ref a), (.int (0 : Int32))])) rfl rfl (hb hby own_d5_6)
    refine own_go st47 ?_
    show own_Ends prg e below s _ _ _ T47 (mkF m 9 #[.val (.ref a), .val (.ref g), .val (.double u), .second, .val (.int (0 : Int32))] [(.ref ca), (.int (0 : Int32))])
    refine own_alen (pc' := 10) X47 hx hZ e47 V0 (hb hby own_d5_9) rfl ?_
    refine own_icmpNo (pc' := 13) X47 hx (hb hby own_d5_10) rfl (tlt (by decide)).2.1 ?_
    refine own_aloadN (pc' := 14) X47 hx (hb hby own_d5_13) rfl rfl rfl ?_
    refine own_aloadN (pc' := 15) X47 hx (hb hby own_d5_14) rfl rfl rfl ?_
    obtain ⟨T48, X48, e48, st48⟩ := getF X47 hx hZ hown (host := "") (Or.inl (own_w27 hw)) Via.refl e47 F0 (g := (mkF m 15 #[.val (.ref a), .val (.ref g), .val (.double u), .second, .val (.int (0 : Int32))] [(.ref a), (.ref g)])) rfl rfl (hb hby own_d5_15)
    refine own_go st48 ?_
    show own_Ends prg e below s _ _ _ T48 (mkF m 18 #[.val (.ref a), .val (.ref g), .val (.double u), .second, .val (.int (0 : Int32))] [(.ref ca), (.ref g)])
    refine own_iload (pc' := 20) X48 hx (hb hby own_d5_18) rfl rfl ?_
    refine own_iaload (pc' := 21) (v := (.int (0 : Int32))) X48 hx hZ e48 V0 (hb hby own_d5_20) rfl (by decide) rfl ?_
    refine own_dup2 (pc' := 22) X48 hx (hb hby own_d5_21) rfl rfl rfl ?_
    refine own_daload (pc' := 23) (v := (.double i0)) X48 hx hZ e48 V2 (hb hby own_d5_22) rfl (by decide) rfl ?_
    refine own_dloadN (pc' := 24) X48 hx (hb hby own_d5_23) rfl rfl ?_
    refine own_aloadN (pc' := 25) X48 hx (hb hby own_d5_24) rfl rfl rfl ?_
    obtain ⟨T49, X49, e49, st49⟩ := getF X48 hx hZ hown (host := "") (Or.inl (own_w35 hw)) Via.refl e48 F1 (g := (mkF m 25 #[.val (.ref a), .val (.ref g), .val (.double u), .second, .val (.int (0 : Int32))] [(.ref a), (.double u), (.double i0), (.int (0 : Int32)), (.ref g)])) rfl rfl (hb hby own_d5_25)
    refine own_go st49 ?_
    show own_Ends prg e below s _ _ _ T49 (mkF m 28 #[.val (.ref a), .val (.ref g), .val (.double u), .second, .val (.int (0 : Int32))] [(.ref pa), (.double u), (.double i0), (.int (0 : Int32)), (.ref g)])
    refine own_iload (pc' := 30) X49 hx (hb hby own_d5_28) rfl rfl ?_
    refine own_daload (pc' := 31) (v := (.double q0)) X49 hx hZ e49 V1 (hb hby own_d5_30) rfl (by decide) rfl ?_
    refine own_dmul (pc' := 32) (z := (FP.dmul u q0)) X49 hx (hb hby own_d5_31) rfl (Jvm.Free.Fl.dmul_out hu hq0) rfl ?_
    refine own_dadd (pc' := 33) (z := (FP.dadd i0 (FP.dmul u q0))) X49 hx (hb hby own_d5_32) rfl (own_nan hi0 hu hq0) rfl ?_
    refine own_dastore (pc' := 34) X49 hx hZ e49 V2 (hb hby own_d5_33) rfl (by decide) 0 rfl (by simp) N0 ge0 ?_
    intro T50 h50 L50 X50 e50 N50 W50 V50
    replace V50 : Arv Z h50 g gk .double (4 : Int32) [(.double (FP.dadd i0 (FP.dmul u q0))), (.double i1), (.double i2), (.double i3)] (.double 0) := V50
    show own_Ends prg e below s _ _ _ T50 (mkF m 34 #[.val (.ref a), .val (.ref g), .val (.double u), .second, .val (.int (0 : Int32))] [])
    refine own_iinc (pc' := 37) (z := (1 : Int32)) (l' := #[.val (.ref a), .val (.ref g), .val (.double u), .second, .val (.int (1 : Int32))]) X50 hx (hb hby own_d5_34) rfl rfl (by decide) rfl ?_
    refine own_goto (pc' := 3) X50 hx (hb hby own_d5_37) (by decide) (by decide) ?_
    refine own_iload (pc' := 5) X50 hx (hb hby own_d5_3) rfl rfl ?_
    refine own_aloadN (pc' := 6) X50 hx (hb hby own_d5_5) rfl rfl rfl ?_
    have f51 := (F0.other W50 (Or.inl n1))
    obtain ⟨T52, X52, e52, st52⟩ := getF X50 hx hZ hown (host := "") (Or.inl (own_w27 hw)) Via.refl e50 f51 (g := (mkF m 6 #[.val (.ref a), .val (.ref g), .val (.double u), .second, .val (.int (1 : Int32))] [(.ref a), (.int (1 : Int32))])) rfl rfl (hb hby own_d5_6)
    refine own_go st52 ?_
    show own_Ends prg e below s _ _ _ T52 (mkF m 9 #[.val (.ref a), .val (.ref g), .val (.double u), .second, .val (.int (1 : Int32))] [(.ref ca), (.int (1 : Int32))])
    have f53 := (V0.other W50 n2)
    refine own_alen (pc' := 10) X52 hx hZ e52 f53 (hb hby own_d5_9) rfl ?_
    refine own_icmpNo (pc' := 13) X52 hx (hb hby own_d5_10) rfl (tlt (by decide)).2.1 ?_
    refine own_aloadN (pc' := 14) X52 hx (hb hby own_d5_13) rfl rfl rfl ?_
    refine own_aloadN (pc' := 15) X52 hx (hb hby own_d5_14) rfl rfl rfl ?_
    obtain ⟨T54, X54, e54, st54⟩ := getF X52 hx hZ hown (host := "") (Or.inl (own_w27 hw)) Via.refl e52 f51 (g := (mkF m 15 #[.val (.ref a), .val (.ref g), .val (.double u), .second, .val (.int (1 : Int32))] [(.ref a), (.ref g)])) rfl rfl (hb hby own_d5_15)
    refine own_go st54 ?_
    show own_Ends prg e below s _ _ _ T54 (mkF m 18 #[.val (.ref a), .val (.ref g), .val (.double u), .second, .val (.int (1 : Int32))] [(.ref ca), (.ref g)])
    refine own_iload (pc' := 20) X54 hx (hb hby own_d5_18) rfl rfl ?_
    refine own_iaload (pc' := 21) (v := (.int (3 : Int32))) X54 hx hZ e54 f53 (hb hby own_d5_20) rfl (by decide) rfl ?_
    refine own_dup2 (pc' := 22) X54 hx (hb hby own_d5_21) rfl rfl rfl ?_
    refine own_daload (pc' := 23) (v := (.double i3)) X54 hx hZ e54 V50 (hb hby own_d5_22) rfl (by decide) rfl ?_
    refine own_dloadN (pc' := 24) X54 hx (hb hby own_d5_23) rfl rfl ?_
    refine own_aloadN (pc' := 25) X54 hx (hb hby own_d5_24) rfl rfl rfl ?_
    have f55 := (F1.other W50 (Or.inl n1))
    obtain ⟨T56, X56, e56, st56⟩ := getF X54 hx hZ hown (host := "") (Or.inl (own_w35 hw)) Via.refl e54 f55 (g := (mkF m 25 #[.val (.ref a), .val (.ref g), .val (.double u), .second, .val (.int (1 : Int32))] [(.ref a), (.double u), (.double i3), (.int (3 : Int32)), (.ref g)])) rfl rfl (hb hby own_d5_25)
    refine own_go st56 ?_
    show own_Ends prg e below s _ _ _ T56 (mkF m 28 #[.val (.ref a), .val (.ref g), .val (.double u), .second, .val (.int (1 : Int32))] [(.ref pa), (.double u), (.double i3), (.int (3 : Int32)), (.ref g)])
    refine own_iload (pc' := 30) X56 hx (hb hby own_d5_28) rfl rfl ?_
    have f57 := (V1.other W50 n3)
    refine own_daload (pc' := 31) (v := (.double q1)) X56 hx hZ e56 f57 (hb hby own_d5_30) rfl (by decide) rfl ?_
    refine own_dmul (pc' := 32) (z := (FP.dmul u q1)) X56 hx (hb hby own_d5_31) rfl (Jvm.Free.Fl.dmul_out hu hq1) rfl ?_
    refine own_dadd (pc' := 33) (z := (FP.dadd i3 (FP.dmul u q1))) X56 hx (hb hby own_d5_32) rfl (own_nan hi3 hu hq1) rfl ?_
    refine own_dastore (pc' := 34) X56 hx hZ e56 V50 (hb hby own_d5_33) rfl (by decide) 3 rfl (by simp) N50 ge0 ?_
    intro T58 h58 L58 X58 e58 N58 W58 V58
    replace V58 : Arv Z h58 g gk .double (4 : Int32) [(.double (FP.dadd i0 (FP.dmul u q0))), (.double i1), (.double i2), (.double (FP.dadd i3 (FP.dmul u q1)))] (.double 0) := V58
    show own_Ends prg e below s _ _ _ T58 (mkF m 34 #[.val (.ref a), .val (.ref g), .val (.double u), .second, .val (.int (1 : Int32))] [])
    refine own_iinc (pc' := 37) (z := (2 : Int32)) (l' := #[.val (.ref a), .val (.ref g), .val (.double u), .second, .val (.int (2 : Int32))]) X58 hx (hb hby own_d5_34) rfl rfl (by decide) rfl ?_
    refine own_goto (pc' := 3) X58 hx (hb hby own_d5_37) (by decide) (by decide) ?_
    refine own_iload (pc' := 5) X58 hx (hb hby own_d5_3) rfl rfl ?_
    refine own_aloadN (pc' := 6) X58 hx (hb hby own_d5_5) rfl rfl rfl ?_
    have f59 := (f51.other W58 (Or.inl n1))
    obtain ⟨T60, X60, e60, st60⟩ := getF X58 hx hZ hown (host := "") (Or.inl (own_w27 hw)) Via.refl e58 f59 (g := (mkF m 6 #[.val (.ref a), .val (.ref g), .val (.double u), .second, .val (.int (2 : Int32))] [(.ref a), (.int (2 : Int32))])) rfl rfl (hb hby own_d5_6)
    refine own_go st60 ?_
    show own_Ends prg e below s _ _ _ T60 (mkF m 9 #[.val (.ref a), .val (.ref g), .val (.double u), .second, .val (.int (2 : Int32))] [(.ref ca), (.int (2 : Int32))])
    have f61 := (f53.other W58 n2)
    refine own_alen (pc' := 10) X60 hx hZ e60 f61 (hb hby own_d5_9) rfl ?_
    refine own_icmpYes (pc' := 40) X60 hx (hb hby own_d5_10) (flt (by decide)).2.1 (by decide) (by decide) ?_
    refine own_retV X60 hx hlk hret (hb hby own_d5_40) (by decide) (by decide) ?_
    have f62 := ((K0.wr W50 (Or.inl (List.mem_of_getElem? (i := 0) rfl))).wr W58 (Or.inl (List.mem_of_getElem? (i := 0) rfl)))
    rw [e60]; exact ⟨rfl, N58, f62, V58⟩
  · replace V0 : Arv Z h0 ca ck .int (2 : Int32) [(.int (1 : Int32)), (.int (2 : Int32))] (.int (0 : Int32)) := V0
    refine own_iconst (pc' := 1) (z := (0 : Int32)) X0 hx (hb hby own_d5_0) rfl rfl ?_
    refine own_istore (pc' := 3) (l' := #[.val (.ref a), .val (.ref g), .val (.double u), .second, .val (.int (0 : Int32))]) X0 hx (hb hby own_d5_1) rfl rfl ?_
    refine own_iload (pc' := 5) X0 hx (hb hby own_d5_3) rfl rfl ?_
    refine own_aloadN (pc' := 6) X0 hx (hb hby own_d5_5) rfl rfl rfl ?_
    obtain ⟨T63, X63, e63, st63⟩ := getF X0 hx hZ hown (host := "") (Or.inl (own_w27 hw)) Via.refl e0 F0 (g := (mkF m 6 #[.val (.ref a), .val (.ref g), .val (.double u), .second, .val (.int (0 : Int32))] [(.ref a), (.int (0 : Int32))])) rfl rfl (hb hby own_d5_6)
    refine own_go st63 ?_
    show own_Ends prg e below s _ _ _ T63 (mkF m 9 #[.val (.ref a), .val (.ref g), .val (.double u), .second, .val (.int (0 : Int32))] [(.ref ca), (.int (0 : Int32))])
    refine own_alen (pc' := 10) X63 hx hZ e63 V0 (hb hby own_d5_9) rfl ?_
    refine own_icmpNo (pc' := 13) X63 hx (hb hby own_d5_10) rfl (tlt (by decide)).2.1 ?_
    refine own_aloadN (pc' := 14) X63 hx (hb hby own_d5_13) rfl rfl rfl ?_
    refine own_aloadN (pc' := 15) X63 hx (hb hby own_d5_14) rfl rfl rfl ?_
    obtain ⟨T64, X64, e64, st64⟩ := getF X63 hx hZ hown (host := "") (Or.inl (own_w27 hw)) Via.refl e63 F0 (g := (mkF m 15 #[.val (.ref a), .val (.ref g), .val (.double u), .second, .val (.int (0 : Int32))] [(.ref a), (.ref g)])) rfl rfl (hb hby own_d5_15)
    refine own_go st64 ?_
    show own_Ends prg e below s _ _ _ T64 (mkF m 18 #[.val (.ref a), .val (.ref g), .val (.double u), .second, .val (.int (0 : Int32))] [(.ref ca), (.ref g)])
    refine own_iload (pc' := 20) X64 hx (hb hby own_d5_18) rfl rfl ?_
    refine own_iaload (pc' := 21) (v := (.int (1 : Int32))) X64 hx hZ e64 V0 (hb hby own_d5_20) rfl (by decide) rfl ?_
    refine own_dup2 (pc' := 22) X64 hx (hb hby own_d5_21) rfl rfl rfl ?_
    refine own_daload (pc' := 23) (v := (.double i1)) X64 hx hZ e64 V2 (hb hby own_d5_22) rfl (by decide) rfl ?_
    refine own_dloadN (pc' := 24) X64 hx (hb hby own_d5_23) rfl rfl ?_
    refine own_aloadN (pc' := 25) X64 hx (hb hby own_d5_24) rfl rfl rfl ?_
    obtain ⟨T65, X65, e65, st65⟩ := getF X64 hx hZ hown (host := "") (Or.inl (own_w35 hw)) Via.refl e64 F1 (g := (mkF m 25 #[.val (.ref a), .val (.ref g), .val (.double u), .second, .val (.int (0 : Int32))] [(.ref a), (.double u), (.double i1), (.int (1 : Int32)), (.ref g)])) rfl rfl (hb hby own_d5_25)
    refine own_go st65 ?_
    show own_Ends prg e below s _ _ _ T65 (mkF m 28 #[.val (.ref a), .val (.ref g), .val (.double u), .second, .val (.int (0 : Int32))] [(.ref pa), (.double u), (.double i1), (.int (1 : Int32)), (.ref g)])
    refine own_iload (pc' := 30) X65 hx (hb hby own_d5_28) rfl rfl ?_
    refine own_daload (pc' := 31) (v := (.double q0)) X65 hx hZ e65 V1 (hb hby own_d5_30) rfl (by decide) rfl ?_
    refine own_dmul (pc' := 32) (z := (FP.dmul u q0)) X65 hx (hb hby own_d5_31) rfl (Jvm.Free.Fl.dmul_out hu hq0) rfl ?_
    refine own_dadd (pc' := 33) (z := (FP.dadd i1 (FP.dmul u q0))) X65 hx (hb hby own_d5_32) rfl (own_nan hi1 hu hq0) rfl ?_
    refine own_dastore (pc' := 34) X65 hx hZ e65 V2 (hb hby own_d5_33) rfl (by decide) 1 rfl (by simp) N0 ge0 ?_
    intro T66 h66 L66 X66 e66 N66 W66 V66
    replace V66 : Arv Z h66 g gk .double (4 : Int32) [(.double i0), (.double (FP.dadd i1 (FP.dmul u q0))), (.double i2), (.double i3)] (.double 0) := V66
    show own_Ends prg e below s _ _ _ T66 (mkF m 34 #[.val (.ref a), .val (.ref g), .val (.double u), .second, .val (.int (0 : Int32))] [])
    refine own_iinc (pc' := 37) (z := (1 : Int32)) (l' := #[.val (.ref a), .val (.ref g), .val (.double u), .second, .val (.int (1 : Int32))]) X66 hx (hb hby own_d5_34) rfl rfl (by decide) rfl ?_
    refine own_goto (pc' := 3) X66 hx (hb hby own_d5_37) (by decide) (by decide) ?_
    refine own_iload (pc' := 5) X66 hx (hb hby own_d5_3) rfl rfl ?_
    refine own_aloadN (pc' := 6) X66 hx (hb hby own_d5_5) rfl rfl rfl ?_
    have f67 := (F0.other W66 (Or.inl n1))
    obtain ⟨T68, X68, e68, st68⟩ := getF X66 hx hZ hown (host := "") (Or.inl (own_w27 hw)) Via.refl e66 f67 (g := (mkF m 6 #[.val (.ref a), .val (.ref g), .val (.double u), .second, .val (.int (1 : Int32))] [(.ref a), (.int (1 : Int32))])) rfl rfl (hb hby own_d5_6)
    refine own_go st68 ?_
    show own_Ends prg e below s _ _ _ T68 (mkF m 9 #[.val (.ref a), .val (.ref g), .val (.double u), .second, .val (.int (1 : Int32))] [(.ref ca), (.int (1 : Int32))])
    have f69 := (V0.other W66 n2)
    refine own_alen (pc' := 10) X68 hx hZ e68 f69 (hb hby own_d5_9) rfl ?_
    refine own_icmpNo (pc' := 13) X68 hx (hb hby own_d5_10) rfl (tlt (by decide)).2.1 ?_
    refine own_aloadN (pc' := 14) X68 hx (hb hby own_d5_13) rfl rfl rfl ?_
    refine own_aloadN (pc' := 15) X68 hx (hb hby own_d5_14) rfl rfl rfl ?_
    obtain ⟨T70, X70, e70, st70⟩ := getF X68 hx hZ hown (host := "") (Or.inl (own_w27 hw)) Via.refl e68 f67 (g := (mkF m 15 #[.val (.ref a), .val (.ref g), .val (.double u), .second, .val (.int (1 : Int32))] [(.ref a), (.ref g)])) rfl rfl (hb hby own_d5_15)
    refine own_go st70 ?_
    show own_Ends prg e below s _ _ _ T70 (mkF m 18 #[.val (.ref a), .val (.ref g), .val (.double u), .second, .val (.int (1 : Int32))] [(.ref ca), (.ref g)])
    refine own_iload (pc' := 20) X70 hx (hb hby own_d5_18) rfl rfl ?_
    refine own_iaload (pc' := 21) (v := (.int (2 : Int32))) X70 hx hZ e70 f69 (hb hby own_d5_20) rfl (by decide) rfl ?_
    refine own_dup2 (pc' := 22) X70 hx (hb hby own_d5_21) rfl rfl rfl ?_
    refine own_daload (pc' := 23) (v := (.double i2)) X70 hx hZ e70 V66 (hb hby own_d5_22) rfl (by decide) rfl ?_
    refine own_dloadN (pc' := 24) X70 hx (hb hby own_d5_23) rfl rfl ?_
    refine own_aloadN (pc' := 25) X70 hx (hb hby own_d5_24) rfl rfl rfl ?_
    have f71 := (F1.other W66 (Or.inl n1))
    obtain ⟨T72, X72, e72, st72⟩ := getF X70 hx hZ hown (host := "") (Or.inl (own_w35 hw)) Via.refl e70 f71 (g := (mkF m 25 #[.val (.ref a), .val (.ref g), .val (.double u), .second, .val (.int (1 : Int32))] [(.ref a), (.double u), (.double i2), (.int (2 : Int32)), (.ref g)])) rfl rfl (hb hby own_d5_25)
    refine own_go st72 ?_
    show own_Ends prg e below s _ _ _ T72 (mkF m 28 #[.val (.ref a), .val (.ref g), .val (.double u), .second, .val (.int (1 : Int32))] [(.ref pa), (.double u), (.double i2), (.int (2 : Int32)), (.ref g)])
    refine own_iload (pc' := 30) X72 hx (hb hby own_d5_28) rfl rfl ?_
    have f73 := (V1.other W66 n3)
    refine own_daload (pc' := 31) (v := (.double q1)) X72 hx hZ e72 f73 (hb hby own_d5_30) rfl (by decide) rfl ?_
    refine own_dmul (pc' := 32) (z := (FP.dmul u q1)) X72 hx (hb hby own_d5_31) rfl (Jvm.Free.Fl.dmul_out hu hq1) rfl ?_
    refine own_dadd (pc' := 33) (z := (FP.dadd i2 (FP.dmul u q1))) X72 hx (hb hby own_d5_32) rfl (own_nan hi2 hu hq1) rfl ?_
    refine own_dastore (pc' := 34) X72 hx hZ e72 V66 (hb hby own_d5_33) rfl (by decide) 2 rfl (by simp) N66 ge0 ?_
    intro T74 h74 L74 X74 e74 N74 W74 V74
    replace V74 : Arv Z h74 g gk .double (4 : Int32) [(.double i0), (.double (FP.dadd i1 (FP.dmul u q0))), (.double (FP.dadd i2 (FP.dmul u q1))), (.double i3)] (.double 0) := V74
    show own_Ends prg e below s _ _ _ T74 (mkF m 34 #[.val (.ref a), .val (.ref g), .val (.double u), .second, .val (.int (1 : Int32))] [])
    refine own_iinc (pc' := 37) (z := (2 : Int32)) (l' := #[.val (.ref a), .val (.ref g), .val (.double u), .second, .val (.int (2 : Int32))]) X74 hx (hb hby own_d5_34) rfl rfl (by decide) rfl ?_
    refine own_goto (pc' := 3) X74 hx (hb hby own_d5_37) (by decide) (by decide) ?_
    refine own_iload (pc' := 5) X74 hx (hb hby own_d5_3) rfl rfl ?_
    refine own_aloadN (pc' := 6) X74 hx (hb hby own_d5_5) rfl rfl rfl ?_
    have f75 := (f67.other W74 (Or.inl n1))
    obtain ⟨T76, X76, e76, st76⟩ := getF X74 hx hZ hown (host := "") (Or.inl (own_w27 hw)) Via.refl e74 f75 (g := (mkF m 6 #[.val (.ref a), .val (.ref g), .val (.double u), .second, .val (.int (2 : Int32))] [(.ref a), (.int (2 : Int32))])) rfl rfl (hb hby own_d5_6)
    refine own_go st76 ?_
    show own_Ends prg e below s _ _ _ T76 (mkF m 9 #[.val (.ref a), .val (.ref g), .val (.double u), .second, .val (.int (2 : Int32))] [(.ref ca), (.int (2 : Int32))])
    have f77 := (f69.other W74 n2)
    refine own_alen (pc' := 10) X76 hx hZ e76 f77 (hb hby own_d5_9) rfl ?_
    refine own_icmpYes (pc' := 40) X76 hx (hb hby own_d5_10) (flt (by decide)).2.1 (by decide) (by decide) ?_
    refine own_retV X76 hx hlk hret (hb hby own_d5_40) (by decide) (by decide) ?_
    have f78 := ((K0.wr W66 (Or.inl (List.mem_of_getElem? (i := 0) rfl))).wr W74 (Or.inl (List.mem_of_getElem? (i := 0) rfl)))
    rw [e76]; exact ⟨rfl, N74, f78, V74⟩
  · replace V0 : Arv Z h0 ca ck .int (2 : Int32) [(.int (1 : Int32)), (.int (0 : Int32))] (.int (0 : Int32)) := V0
    refine own_iconst (pc' := 1) (z := (0 : Int32)) X0 hx (hb hby own_d5_0) rfl rfl ?_
    refine own_istore (pc' := 3) (l' := #[.val (.ref a), .val (.ref g), .val (.double u), .second, .val (.int (0 : Int32))]) X0 hx (hb hby own_d5_1) rfl rfl ?_
    refine own_iload (pc' := 5) X0 hx (hb hby own_d5_3) rfl rfl ?_
    refine own_aloadN (pc' := 6) X0 hx (hb hby own_d5_5) rfl rfl rfl ?_
    obtain ⟨T79, X79, e79, st79⟩ := getF X0 hx hZ hown (host := "") (Or.inl (own_w27 hw)) Via.refl e0 F0 (g := (mkF m 6 #[.val (.ref a), .val (.ref g), .val (.double u), .second, .val (.int (0 : Int32))] [(.ref a), (.int (0 : Int32))])) rfl rfl (hb hby own_d5_6)
    refine own_go st79 ?_
    show own_Ends prg e below s _ _ _ T79 (mkF m 9 #[.val (.ref a), .val (.ref g), .val (.double u), .second, .val (.int (0 : Int32))] [(.ref ca), (.int (0 : Int32))])
    refine own_alen (pc' := 10) X79 hx hZ e79 V0 (hb hby own_d5_9) rfl ?_
    refine own_icmpNo (pc' := 13) X79 hx (hb hby own_d5_10) rfl (tlt (by decide)).2.1 ?_
    refine own_aloadN (pc' := 14) X79 hx (hb hby own_d5_13) rfl rfl rfl ?_
    refine own_aloadN (pc' := 15) X79 hx (hb hby own_d5_14) rfl rfl rfl ?_
    obtain ⟨T80, X80, e80, st80⟩ := getF X79 hx hZ hown (host := "") (Or.inl (own_w27 hw)) Via.refl e79 F0 (g := (mkF m 15 #[.val (.ref a), .val (.ref g), .val (.double u), .second, .val (.int (0 : Int32))] [(.ref a), (.ref g)])) rfl rfl (hb hby own_d5_15)
    refine own_go st80 ?_
    show own_Ends prg e below s _ _ _ T80 (mkF m 18 #[.val (.ref a), .val (.ref g), .val (.double u), .second, .val (.int (0 : Int32))] [(.ref ca), (.ref g)])
    refine own_iload (pc' := 20) X80 hx (hb hby own_d5_18) rfl rfl ?_
    refine own_iaload (pc' := 21) (v := (.int (1 : Int32))) X80 hx hZ e80 V0 (hb hby own_d5_20) rfl (by decide) rfl ?_
    refine own_dup2 (pc' := 22) X80 hx (hb hby own_d5_21) rfl rfl rfl ?_
    refine own_daload (pc' := 23) (v := (.double i1)) X80 hx hZ e80 V2 (hb hby own_d5_22) rfl (by decide) rfl ?_
    refine own_dloadN (pc' := 24) X80 hx (hb hby own_d5_23) rfl rfl ?_
    refine own_aloadN (pc' := 25) X80 hx (hb hby own_d5_24) rfl rfl rfl ?_
    obtain ⟨T81, X81, e81, st81⟩ := getF X80 hx hZ hown (host := "") (Or.inl (own_w35 hw)) Via.refl e80 F1 (g := (mkF m 25 #[.val (.ref a), .val (.ref g), .val (.double u), .second, .val (.int (0 : Int32))] [(.ref a), (.double u), (.double i1), (.int (1 : Int32)), (.ref g)])) rfl rfl (hb hby own_d5_25)
    refine own_go st81 ?_
    show own_Ends prg e below s _ _ _ T81 (mkF m 28 #[.val (.ref a), .val (.ref g), .val (.double u), .second, .val (.int (0 : Int32))] [(.ref pa), (.double u), (.double i1), (.int (1 : Int32)), (.ref g)])
    refine own_iload (pc' := 30) X81 hx (hb hby own_d5_28) rfl rfl ?_
    refine own_daload (pc' := 31) (v := (.double q0)) X81 hx hZ e81 V1 (hb hby own_d5_30) rfl (by decide) rfl ?_
    refine own_dmul (pc' := 32) (z := (FP.dmul u q0)) X81 hx (hb hby own_d5_31) rfl (Jvm.Free.Fl.dmul_out hu hq0) rfl ?_
    refine own_dadd (pc' := 33) (z := (FP.dadd i1 (FP.dmul u q0))) X81 hx (hb hby own_d5_32) rfl (own_nan hi1 hu hq0) rfl ?_
    refine own_dastore (pc' := 34) X81 hx hZ e81 V2 (hb hby own_d5_33) rfl (by decide) 1 rfl (by simp) N0 ge0 ?_
    intro T82 h82 L82 X82 e82 N82 W82 V82
    replace V82 : Arv Z h82 g gk .double (4 : Int32) [(.double i0), (.double (FP.dadd i1 (FP.dmul u q0))), (.double i2), (.double i3)] (.double 0) := V82
    show own_Ends prg e below s _ _ _ T82 (mkF m 34 #[.val (.ref a), .val (.ref g), .val (.double u), .second, .val (.int (0 : Int32))] [])
    refine own_iinc (pc' := 37) (z := (1 : Int32)) (l' := #[.val (.ref a), .val (.ref g), .val (.double u), .second, .val (.int (1 : Int32))]) X82 hx (hb hby own_d5_34) rfl rfl (by decide) rfl ?_
    refine own_goto (pc' := 3) X82 hx (hb hby own_d5_37) (by decide) (by decide) ?_
    refine own_iload (pc' := 5) X82 hx (hb hby own_d5_3) rfl rfl ?_
    refine own_aloadN (pc' := 6) X82 hx (hb hby own_d5_5) rfl rfl rfl ?_
    have f83 := (F0.other W82 (Or.inl n1))
    obtain ⟨T84, X84, e84, st84⟩ := getF X82 hx hZ hown (host := "") (Or.inl (own_w27 hw)) Via.refl e82 f83 (g := (mkF m 6 #[.val (.ref a), .val (.ref g), .val (.double u), .second, .val (.int (1 : Int32))] [(.ref a), (.int (1 : Int32))])) rfl rfl (hb hby own_d5_6)
    refine own_go st84 ?_
    show own_Ends prg e below s _ _ _ T84 (mkF m 9 #[.val (.ref a), .val (.ref g), .val (.double u), .second, .val (.int (1 : Int32))] [(.ref ca), (.int (1 : Int32))])
    have f85 := (V0.other W82 n2)
    refine own_alen (pc' := 10) X84 hx hZ e84 f85 (hb hby own_d5_9) rfl ?_
    refine own_icmpNo (pc' := 13) X84 hx (hb hby own_d5_10) rfl (tlt (by decide)).2.1 ?_
    refine own_aloadN (pc' := 14) X84 hx (hb hby own_d5_13) rfl rfl rfl ?_
    refine own_aloadN (pc' := 15) X84 hx (hb hby own_d5_14) rfl rfl rfl ?_
    obtain ⟨T86, X86, e86, st86⟩ := getF X84 hx hZ hown (host := "") (Or.inl (own_w27 hw)) Via.refl e84 f83 (g := (mkF m 15 #[.val (.ref a), .val (.ref g), .val (.double u), .second, .val (.int (1 : Int32))] [(.ref a), (.ref g)])) rfl rfl (hb hby own_d5_15)
    refine own_go st86 ?_
    show own_Ends prg e below s _ _ _ T86 (mkF m 18 #[.val (.ref a), .val (.ref g), .val (.double u), .second, .val (.int (1 : Int32))] [(.ref ca), (.ref g)])
    refine own_iload (pc' := 20) X86 hx (hb hby own_d5_18) rfl rfl ?_
    refine own_iaload (pc' := 21) (v := (.int (0 : Int32))) X86 hx hZ e86 f85 (hb hby own_d5_20) rfl (by decide) rfl ?_
    refine own_dup2 (pc' := 22) X86 hx (hb hby own_d5_21) rfl rfl rfl ?_
    refine own_daload (pc' := 23) (v := (.double i0)) X86 hx hZ e86 V82 (hb hby own_d5_22) rfl (by decide) rfl ?_
    refine own_dloadN (pc' := 24) X86 hx (hb hby own_d5_23) rfl rfl ?_
    refine own_aloadN (pc' := 25) X86 hx (hb hby own_d5_24) rfl rfl rfl ?_
    have f87 := (F1.other W82 (Or.inl n1))
    obtain ⟨T88, X88, e88, st88⟩ := getF X86 hx hZ hown (host := "") (Or.inl (own_w35 hw)) Via.refl e86 f87 (g := (mkF m 25 #[.val (.ref a), .val (.ref g), .val (.double u), .second, .val (.int (1 : Int32))] [(.ref a), (.double u), (.double i0), (.int (0 : Int32)), (.ref g)])) rfl rfl (hb hby own_d5_25)
    refine own_go st88 ?_
    show own_Ends prg e below s _ _ _ T88 (mkF m 28 #[.val (.ref a), .val (.ref g), .val (.double u), .second, .val (.int (1 : Int32))] [(.ref pa), (.double u), (.double i0), (.int (0 : Int32)), (.ref g)])
    refine own_iload (pc' := 30) X88 hx (hb hby own_d5_28) rfl rfl ?_
    have f89 := (V1.other W82 n3)
    refine own_daload (pc' := 31) (v := (.double q1)) X88 hx hZ e88 f89 (hb hby own_d5_30) rfl (by decide) rfl ?_
    refine own_dmul (pc' := 32) (z := (FP.dmul u q1)) X88 hx (hb hby own_d5_31) rfl (Jvm.Free.Fl.dmul_out hu hq1) rfl ?_
    refine own_dadd (pc' := 33) (z := (FP.dadd i0 (FP.dmul u q1))) X88 hx (hb hby own_d5_32) rfl (own_nan hi0 hu hq1) rfl ?_
    refine own_dastore (pc' := 34) X88 hx hZ e88 V82 (hb hby own_d5_33) rfl (by decide) 0 rfl (by simp) N82 ge0 ?_
    intro T90 h90 L90 X90 e90 N90 W90 V90
    replace V90 : Arv Z h90 g gk .double (4 : Int32) [(.double (FP.dadd i0 (FP.dmul u q1))), (.double (FP.dadd i1 (FP.dmul u q0))), (.double i2), (.double i3)] (.double 0) := V90
    show own_Ends prg e below s _ _ _ T90 (mkF m 34 #[.val (.ref a), .val (.ref g), .val (.double u), .second, .val (.int (1 : Int32))] [])
    refine own_iinc (pc' := 37) (z := (2 : Int32)) (l' := #[.val (.ref a), .val (.ref g), .val (.double u), .second, .val (.int (2 : Int32))]) X90 hx (hb hby own_d5_34) rfl rfl (by decide) rfl ?_
    refine own_goto (pc' := 3) X90 hx (hb hby own_d5_37) (by decide) (by decide) ?_
    refine own_iload (pc' := 5) X90 hx (hb hby own_d5_3) rfl rfl ?_
    refine own_aloadN (pc' := 6) X90 hx (hb hby own_d5_5) rfl rfl rfl ?_
    have f91 := (f83.other W90 (Or.inl n1))
    obtain ⟨T92, X92, e92, st92⟩ := getF X90 hx hZ hown (host := "") (Or.inl (own_w27 hw)) Via.refl e90 f91 (g := (mkF m 6 #[.val (.ref a), .val (.ref g), .val (.double u), .second, .val (.int (2 : Int32))] [(.ref a), (.int (2 : Int32))])) rfl rfl (hb hby own_d5_6)
    refine own_go st92 ?_
    show own_Ends prg e below s _ _ _ T92 (mkF m 9 #[.val (.ref a), .val (.ref g), .val (.double u), .second, .val (.int (2 : Int32))] [(.ref ca), (.int (2 : Int32))])
    have f93 := (f85.other W90 n2)
    refine own_alen (pc' := 10) X92 hx hZ e92 f93 (hb hby own_d5_9) rfl ?_
    refine own_icmpYes (pc' := 40) X92 hx (hb hby own_d5_10) (flt (by decide)).2.1 (by decide) (by decide) ?_
    refine own_retV X92 hx hlk hret (hb hby own_d5_40) (by decide) (by decide) ?_
    have f94 := ((K0.wr W82 (Or.inl (List.mem_of_getElem? (i := 0) rfl))).wr W90 (Or.inl (List.mem_of_getElem? (i := 0) rfl)))
    rw [e92]; exact ⟨rfl, N90, f94, V90⟩
  · replace V0 : Arv Z h0 ca ck .int (2 : Int32) [(.int (2 : Int32)), (.int (3 : Int32))] (.int (0 : Int32)) := V0
    refine own_iconst (pc' := 1) (z := (0 : Int32)) X0 hx (hb hby own_d5_0) rfl rfl ?_
    refine own_istore (pc' := 3) (l' := #[.val (.ref a), .val (.ref g), .val (.double u), .second, .val (.int (0 : Int32))]) X0 hx (hb hby own_d5_1) rfl rfl ?_
    refine own_iload (pc' := 5) X0 hx (hb hby own_d5_3) rfl rfl ?_
    refine own_aloadN (pc' := 6) X0 hx (hb hby own_d5_5) rfl rfl rfl ?_
    obtain ⟨T95, X95, e95, st95⟩ := getF X0 hx hZ hown (host := "") (Or.inl (own_w27 hw)) Via.refl e0 F0 (g := (mkF m 6 #[.val (.ref a), .val (.ref g), .val (.double u), .second, .val (.int (0 : Int32))] [(.ref a), (.int (0 : Int32))])) rfl rfl (hb hby own_d5_6)
    refine own_go st95 ?_
    show own_Ends prg e below s _ _ _ T95 (mkF m 9 #[.val (.ref a), .val (.ref g), .val (.double u), .second, .val (.int (0 : Int32))] [(.ref ca), (.int (0 : Int32))])
    refine own_alen (pc' := 10) X95 hx hZ e95 V0 (hb hby own_d5_9) rfl ?_
    refine own_icmpNo (pc' := 13) X95 hx (hb hby own_d5_10) rfl (tlt (by decide)).2.1 ?_
    refine own_aloadN (pc' := 14) X95 hx (hb hby own_d5_13) rfl rfl rfl ?_
    refine own_aloadN (pc' := 15) X95 hx (hb hby own_d5_14) rfl rfl rfl ?_
    obtain ⟨T96, X96, e96, st96⟩ := getF X95 hx hZ hown (host := "") (Or.inl (own_w27 hw)) Via.refl e95 F0 (g := (mkF m 15 #[.val (.ref a), .val (.ref g), .val (.double u), .second, .val (.int (0 : Int32))] [(.ref a), (.ref g)])) rfl rfl (hb hby own_d5_15)
    refine own_go st96 ?_
    show own_Ends prg e below s _ _ _ T96 (mkF m 18 #[.val (.ref a), .val (.ref g), .val (.double u), .second, .val (.int (0 : Int32))] [(.ref ca), (.ref g)])
    refine own_iload (pc' := 20) X96 hx (hb hby own_d5_18) rfl rfl ?_
    refine own_iaload (pc' := 21) (v := (.int (2 : Int32))) X96 hx hZ e96 V0 (hb hby own_d5_20) rfl (by decide) rfl ?_
    refine own_dup2 (pc' := 22) X96 hx (hb hby own_d5_21) rfl rfl rfl ?_
    refine own_daload (pc' := 23) (v := (.double i2)) X96 hx hZ e96 V2 (hb hby own_d5_22) rfl (by decide) rfl ?_
    refine own_dloadN (pc' := 24) X96 hx (hb hby own_d5_23) rfl rfl ?_
    refine own_aloadN (pc' := 25) X96 hx (hb hby own_d5_24) rfl rfl rfl ?_
    obtain ⟨T97, X97, e97, st97⟩ := getF X96 hx hZ hown (host := "") (Or.inl (own_w35 hw)) Via.refl e96 F1 (g := (mkF m 25 #[.val (.ref a), .val (.ref g), .val (.double u), .second, .val (.int (0 : Int32))] [(.ref a), (.double u), (.double i2), (.int (2 : Int32)), (.ref g)])) rfl rfl (hb hby own_d5_25)
    refine own_go st97 ?_
    show own_Ends prg e below s _ _ _ T97 (mkF m 28 #[.val (.ref a), .val (.ref g), .val (.double u), .second, .val (.int (0 : Int32))] [(.ref pa), (.double u), (.double i2), (.int (2 : Int32)), (.ref g)])
    refine own_iload (pc' := 30) X97 hx (hb hby own_d5_28) rfl rfl ?_
    refine own_daload (pc' := 31) (v := (.double q0)) X97 hx hZ e97 V1 (hb hby own_d5_30) rfl (by decide) rfl ?_
    refine own_dmul (pc' := 32) (z := (FP.dmul u q0)) X97 hx (hb hby own_d5_31) rfl (Jvm.Free.Fl.dmul_out hu hq0) rfl ?_
    refine own_dadd (pc' := 33) (z := (FP.dadd i2 (FP.dmul u q0))) X97 hx (hb hby own_d5_32) rfl (own_nan hi2 hu hq0) rfl ?_
    refine own_dastore (pc' := 34) X97 hx hZ e97 V2 (hb hby own_d5_33) rfl (by decide) 2 rfl (by simp) N0 ge0 ?_
    intro T98 h98 L98 X98 e98 N98 W98 V98
    replace V98 : Arv Z h98 g gk .double (4 : Int32) [(.double i0), (.double i1), (.double (FP.dadd i2 (FP.dmul u q0))), (.double i3)] (.double 0) := V98
    show own_Ends prg e below s _ _ _ T98 (mkF m 34 #[.val (.ref a), .val (.ref g), .val (.double u), .second, .val (.int (0 : Int32))] [])
    refine own_iinc (pc' := 37) (z := (1 : Int32)) (l' := #[.val (.ref a), .val (.ref g), .val (.double u), .second, .val (.int (1 : Int32))]) X98 hx (hb hby own_d5_34) rfl rfl (by decide) rfl ?_
    refine own_goto (pc' := 3) X98 hx (hb hby own_d5_37) (by decide) (by decide) ?_
    refine own_iload (pc' := 5) X98 hx (hb hby own_d5_3) rfl rfl ?_
    refine own_aloadN (pc' := 6) X98 hx (hb hby own_d5_5) rfl rfl rfl ?_
    have f99 := (F0.other W98 (Or.inl n1))
    obtain ⟨T100, X100, e100, st100⟩ := getF X98 hx hZ hown (host := "") (Or.inl (own_w27 hw)) Via.refl e98 f99 (g := (mkF m 6 #[.val (.ref a), .val (.ref g), .val (.double u), .second, .val (.int (1 : Int32))] [(.ref a), (.int (1 : Int32))])) rfl rfl (hb hby own_d5_6)
    refine own_go st100 ?_
    show own_Ends prg e below s _ _ _ T100 (mkF m 9 #[.val (.ref a), .val (.ref g), .val (.double u), .second, .val (.int (1 : Int32))] [(.ref ca), (.int (1 : Int32))])
    have f101 := (V0.other W98 n2)
    refine own_alen (pc' := 10) X100 hx hZ e100 f101 (hb hby own_d5_9) rfl ?_
    refine own_icmpNo (pc' := 13) X100 hx (hb hby own_d5_10) rfl (tlt (by decide)).2.1 ?_
    refine own_aloadN (pc' := 14) X100 hx (hb hby own_d5_13) rfl rfl rfl ?_
    refine own_aloadN (pc' := 15) X100 hx (hb hby own_d5_14) rfl rfl rfl ?_
    obtain ⟨T102, X102, e102, st102⟩ := getF X100 hx hZ hown (host := "") (Or.inl (own_w27 hw)) Via.refl e100 f99 (g := (mkF m 15 #[.val (.ref a), .val (.ref g), .val (.double u), .second, .val (.int (1 : Int32))] [(.ref a), (.ref g)])) rfl rfl (hb hby own_d5_15)
    refine own_go st102 ?_
    show own_Ends prg e below s _ _ _ T102 (mkF m 18 #[.val (.ref a), .val (.ref g), .val (.double u), .second, .val (.int (1 : Int32))] [(.ref ca), (.ref g)])
    refine own_iload (pc' := 20) X102 hx (hb hby own_d5_18) rfl rfl ?_
    refine own_iaload (pc' := 21) (v := (.int (3 : Int32))) X102 hx hZ e102 f101 (hb hby own_d5_20) rfl (by decide) rfl ?_
    refine own_dup2 (pc' := 22) X102 hx (hb hby own_d5_21) rfl rfl rfl ?_
    refine own_daload (pc' := 23) (v := (.double i3)) X102 hx hZ e102 V98 (hb hby own_d5_22) rfl (by decide) rfl ?_
    refine own_dloadN (pc' := 24) X102 hx (hb hby own_d5_23) rfl rfl ?_
    refine own_aloadN (pc' := 25) X102 hx (hb hby own_d5_24) rfl rfl rfl ?_
    have f103 := (F1.other W98 (Or.inl n1))
    obtain ⟨T104, X104, e104, st104⟩ := getF X102 hx hZ hown (host := "") (Or.inl (own_w35 hw)) Via.refl e102 f103 (g := (mkF m 25 #[.val (.ref a), .val (.ref g), .val (.double u), .second, .val (.int (1 : Int32))] [(.ref a), (.double u), (.double i3), (.int (3 : Int32)), (.ref g)])) rfl rfl (hb hby own_d5_25)
    refine own_go st104 ?_
    show own_Ends prg e below s _ _ _ T104 (mkF m 28 #[.val (.ref a), .val (.ref g), .val (.double u), .second, .val (.int (1 : Int32))] [(.ref pa), (.double u), (.double i3), (.int (3 : Int32)), (.ref g)])
    refine own_iload (pc' := 30) X104 hx (hb hby own_d5_28) rfl rfl ?_
    have f105 := (V1.other W98 n3)
    refine own_daload (pc' := 31) (v := (.double q1)) X104 hx hZ e104 f105 (hb hby own_d5_30) rfl (by decide) rfl ?_
    refine own_dmul (pc' := 32) (z := (FP.dmul u q1)) X104 hx (hb hby own_d5_31) rfl (Jvm.Free.Fl.dmul_out hu hq1) rfl ?_
    refine own_dadd (pc' := 33) (z := (FP.dadd i3 (FP.dmul u q1))) X104 hx (hb hby own_d5_32) rfl (own_nan hi3 hu hq1) rfl ?_
    refine own_dastore (pc' := 34) X104 hx hZ e104 V98 (hb hby own_d5_33) rfl (by decide) 3 rfl (by simp) N98 ge0 ?_
    intro T106 h106 L106 X106 e106 N106 W106 V106
    replace V106 : Arv Z h106 g gk .double (4 : Int32) [(.double i0), (.double i1), (.double (FP.dadd i2 (FP.dmul u q0))), (.double (FP.dadd i3 (FP.dmul u q1)))] (.double 0) := V106
    show own_Ends prg e below s _ _ _ T106 (mkF m 34 #[.val (.ref a), .val (.ref g), .val (.double u), .second, .val (.int (1 : Int32))] [])
    refine own_iinc (pc' := 37) (z := (2 : Int32)) (l' := #[.val (.ref a), .val (.ref g), .val (.double u), .second, .val (.int (2 : Int32))]) X106 hx (hb hby own_d5_34) rfl rfl (by decide) rfl ?_
    refine own_goto (pc' := 3) X106 hx (hb hby own_d5_37) (by decide) (by decide) ?_
    refine own_iload (pc' := 5) X106 hx (hb hby own_d5_3) rfl rfl ?_
    refine own_aloadN (pc' := 6) X106 hx (hb hby own_d5_5) rfl rfl rfl ?_
    have f107 := (f99.other W106 (Or.inl n1))
    obtain ⟨T108, X108, e108, st108⟩ := getF X106 hx hZ hown (host := "") (Or.inl (own_w27 hw)) Via.refl e106 f107 (g := (mkF m 6 #[.val (.ref a), .val (.ref g), .val (.double u), .second, .val (.int (2 : Int32))] [(.ref a), (.int (2 : Int32))])) rfl rfl (hb hby own_d5_6)
    refine own_go st108 ?_
    show own_Ends prg e below s _ _ _ T108 (mkF m 9 #[.val (.ref a), .val (.ref g), .val (.double u), .second, .val (.int (2 : Int32))] [(.ref ca), (.int (2 : Int32))])
    have f109 := (f101.other W106 n2)
    refine own_alen (pc' := 10) X108 hx hZ e108 f109 (hb hby own_d5_9) rfl ?_
    refine own_icmpYes (pc' := 40) X108 hx (hb hby own_d5_10) (flt (by decide)).2.1 (by decide) (by decide) ?_
    refine own_retV X108 hx hlk hret (hb hby own_d5_40) (by decide) (by decide) ?_
    have f110 := ((K0.wr W98 (Or.inl (List.mem_of_getElem? (i := 0) rfl))).wr W106 (Or.inl (List.mem_of_getElem? (i := 0) rfl)))
    rw [e108]; exact ⟨rfl, N106, f110, V106⟩
  · replace V0 : Arv Z h0 ca ck .int (2 : Int32) [(.int (2 : Int32)), (.int (1 : Int32))] (.int (0 : Int32)) := V0
    refine own_iconst (pc' := 1) (z := (0 : Int32)) X0 hx (hb hby own_d5_0) rfl rfl ?_
    refine own_istore (pc' := 3) (l' := #[.val (.ref a), .val (.ref g), .val (.double u), .second, .val (.int (0 : Int32))]) X0 hx (hb hby own_d5_1) rfl rfl ?_
    refine own_iload (pc' := 5) X0 hx (hb hby own_d5_3) rfl rfl ?_
    refine own_aloadN (pc' := 6) X0 hx (hb hby own_d5_5) rfl rfl rfl ?_
    obtain ⟨T111, X111, e111, st111⟩ := getF X0 hx hZ hown (host := "") (Or.inl (own_w27 hw)) Via.refl e0 F0 (g := (mkF m 6 #[.val (.ref a), .val (.ref g), .val (.double u), .second, .val (.int (0 : Int32))] [(.ref a), (.int (0 : Int32))])) rfl rfl (hb hby own_d5_6)
    refine own_go st111 ?_
    show own_Ends prg e below s _ _ _ T111 (mkF m 9 #[.val (.ref a), .val (.ref g), .val (.double u), .second, .val (.int (0 : Int32))] [(.ref ca), (.int (0 : Int32))])
    refine own_alen (pc' := 10) X111 hx hZ e111 V0 (hb hby own_d5_9) rfl ?_
    refine own_icmpNo (pc' := 13) X111 hx (hb hby own_d5_10) rfl (tlt (by decide)).2.1 ?_
    refine own_aloadN (pc' := 14) X111 hx (hb hby own_d5_13) rfl rfl rfl ?_
    refine own_aloadN (pc' := 15) X111 hx (hb hby own_d5_14) rfl rfl rfl ?_
    obtain ⟨T112, X112, e112, st112⟩ := getF X111 hx hZ hown (host := "") (Or.inl (own_w27 hw)) Via.refl e111 F0 (g := (mkF m 15 #[.val (.ref a), .val (.ref g), .val (.double u), .second, .val (.int (0 : Int32))] [(.ref a), (.ref g)])) rfl rfl (hb hby own_d5_15)
    refine own_go st112 ?_
    show own_Ends prg e below s _ _ _ T112 (mkF m 18 #[.val (.ref a), .val (.ref g), .val (.double u), .second, .val (.int (0 : Int32))] [(.ref ca), (.ref g)])
    refine own_iload (pc' := 20) X112 hx (hb hby own_d5_18) rfl rfl ?_
    refine own_iaload (pc' := 21) (v := (.int (2 : Int32))) X112 hx hZ e112 V0 (hb hby own_d5_20) rfl (by decide) rfl ?_
    refine own_dup2 (pc' := 22) X112 hx (hb hby own_d5_21) rfl rfl rfl ?_
    refine own_daload (pc' := 23) (v := (.double i2)) X112 hx hZ e112 V2 (hb hby own_d5_22) rfl (by decide) rfl ?_
    refine own_dloadN (pc' := 24) X112 hx (hb hby own_d5_23) rfl rfl ?_
    refine own_aloadN (pc' := 25) X112 hx (hb hby own_d5_24) rfl rfl rfl ?_
    obtain ⟨T113, X113, e113, st113⟩ := getF X112 hx hZ hown (host := "") (Or.inl (own_w35 hw)) Via.refl e112 F1 (g := (mkF m 25 #[.val (.ref a), .val (.ref g), .val (.double u), .second, .val (.int (0 : Int32))] [(.ref a), (.double u), (.double i2), (.int (2 : Int32)), (.ref g)])) rfl rfl (hb hby own_d5_25)
    refine own_go st113 ?_
    show own_Ends prg e below s _ _ _ T113 (mkF m 28 #[.val (.ref a), .val (.ref g), .val (.double u), .second, .val (.int (0 : Int32))] [(.ref pa), (.double u), (.double i2), (.int (2 : Int32)), (.ref g)])
    refine own_iload (pc' := 30) X113 hx (hb hby own_d5_28) rfl rfl ?_
    refine own_daload (pc' := 31) (v := (.double q0)) X113 hx hZ e113 V1 (hb hby own_d5_30) rfl (by decide) rfl ?_
    refine own_dmul (pc' := 32) (z := (FP.dmul u q0)) X113 hx (hb hby own_d5_31) rfl (Jvm.Free.Fl.dmul_out hu hq0) rfl ?_
    refine own_dadd (pc' := 33) (z := (FP.dadd i2 (FP.dmul u q0))) X113 hx (hb hby own_d5_32) rfl (own_nan hi2 hu hq0) rfl ?_
    refine own_dastore (pc' := 34) X113 hx hZ e113 V2 (hb hby own_d5_33) rfl (by decide) 2 rfl (by simp) N0 ge0 ?_
    intro T114 h114 L114 X114 e114 N114 W114 V114
    replace V114 : Arv Z h114 g gk .double (4 : Int32) [(.double i0), (.double i1), (.double (FP.dadd i2 (FP.dmul u q0))), (.double i3)] (.double 0) := V114
    show own_Ends prg e below s _ _ _ T114 (mkF m 34 #[.val (.ref a), .val (.ref g), .val (.double u), .second, .val (.int (0 : Int32))] [])
    refine own_iinc (pc' := 37) (z := (1 : Int32)) (l' := #[.val (.ref a), .val (.ref g), .val (.double u), .second, .val (.int (1 : Int32))]) X114 hx (hb hby own_d5_34) rfl rfl (by decide) rfl ?_
    refine own_goto (pc' := 3) X114 hx (hb hby own_d5_37) (by decide) (by decide) ?_
    refine own_iload (pc' := 5) X114 hx (hb hby own_d5_3) rfl rfl ?_
    refine own_aloadN (pc' := 6) X114 hx (hb hby own_d5_5) rfl rfl rfl ?_
    have f115 := (F0.other W114 (Or.inl n1))
    obtain ⟨T116, X116, e116, st116⟩ := getF X114 hx hZ hown (host := "") (Or.inl (own_w27 hw)) Via.refl e114 f115 (g := (mkF m 6 #[.val (.ref a), .val (.ref g), .val (.double u), .second, .val (.int (1 : Int32))] [(.ref a), (.int (1 : Int32))])) rfl rfl (hb hby own_d5_6)
    refine own_go st116 ?_
    show own_Ends prg e below s _ _ _ T116 (mkF m 9 #[.val (.ref a), .val (.ref g), .val (.double u), .second, .val (.int (1 : Int32))] [(.ref ca), (.int (1 : Int32))])
    have f117 := (V0.other W114 n2)
    refine own_alen (pc' := 10) X116 hx hZ e116 f117 (hb hby own_d5_9) rfl ?_
    refine own_icmpNo (pc' := 13) X116 hx (hb hby own_d5_10) rfl (tlt (by decide)).2.1 ?_
    refine own_aloadN (pc' := 14) X116 hx (hb hby own_d5_13) rfl rfl rfl ?_
    refine own_aloadN (pc' := 15) X116 hx (hb hby own_d5_14) rfl rfl rfl ?_
    obtain ⟨T118, X118, e118, st118⟩ := getF X116 hx hZ hown (host := "") (Or.inl (own_w27 hw)) Via.refl e116 f115 (g := (mkF m 15 #[.val (.ref a), .val (.ref g), .val (.double u), .second, .val (.int (1 : Int32))] [(.ref a), (.ref g)])) rfl rfl (hb hby own_d5_15)
    refine own_go st118 ?_
    show own_Ends prg e below s _ _ _ T118 (mkF m 18 #[.val (.ref a), .val (.ref g), .val (.double u), .second, .val (.int (1 : Int32))] [(.ref ca), (.ref g)])
    refine own_iload (pc' := 20) X118 hx (hb hby own_d5_18) rfl rfl ?_
    refine own_iaload (pc' := 21) (v := (.int (1 : Int32))) X118 hx hZ e118 f117 (hb hby own_d5_20) rfl (by decide) rfl ?_
    refine own_dup2 (pc' := 22) X118 hx (hb hby own_d5_21) rfl rfl rfl ?_
    refine own_daload (pc' := 23) (v := (.double i1)) X118 hx hZ e118 V114 (hb hby own_d5_22) rfl (by decide) rfl ?_
    refine own_dloadN (pc' := 24) X118 hx (hb hby own_d5_23) rfl rfl ?_
    refine own_aloadN (pc' := 25) X118 hx (hb hby own_d5_24) rfl rfl rfl ?_
    have f119 := (F1.other W114 (Or.inl n1))
    obtain ⟨T120, X120, e120, st120⟩ := getF X118 hx hZ hown (host := "") (Or.inl (own_w35 hw)) Via.refl e118 f119 (g := (mkF m 25 #[.val (.ref a), .val (.ref g), .val (.double u), .second, .val (.int (1 : Int32))] [(.ref a), (.double u), (.double i1), (.int (1 : Int32)), (.ref g)])) rfl rfl (hb hby own_d5_25)
    refine own_go st120 ?_
    show own_Ends prg e below s _ _ _ T120 (mkF m 28 #[.val (.ref a), .val (.ref g), .val (.double u), .second, .val (.int (1 : Int32))] [(.ref pa), (.double u), (.double i1), (.int (1 : Int32)), (.ref g)])
    refine own_iload (pc' := 30) X120 hx (hb hby own_d5_28) rfl rfl ?_
    have f121 := (V1.other W114 n3)
    refine own_daload (pc' := 31) (v := (.double q1)) X120 hx hZ e120 f121 (hb hby own_d5_30) rfl (by decide) rfl ?_
    refine own_dmul (pc' := 32) (z := (FP.dmul u q1)) X120 hx (hb hby own_d5_31) rfl (Jvm.Free.Fl.dmul_out hu hq1) rfl ?_
    refine own_dadd (pc' := 33) (z := (FP.dadd i1 (FP.dmul u q1))) X120 hx (hb hby own_d5_32) rfl (own_nan hi1 hu hq1) rfl ?_
    refine own_dastore (pc' := 34) X120 hx hZ e120 V114 (hb hby own_d5_33) rfl (by decide) 1 rfl (by simp) N114 ge0 ?_
    intro T122 h122 L122 X122 e122 N122 W122 V122
    replace V122 : Arv Z h122 g gk .double (4 : Int32) [(.double i0), (.double (FP.dadd i1 (FP.dmul u q1))), (.double (FP.dadd i2 (FP.dmul u q0))), (.double i3)] (.double 0) := V122
    show own_Ends prg e below s _ _ _ T122 (mkF m 34 #[.val (.ref a), .val (.ref g), .val (.double u), .second, .val (.int (1 : Int32))] [])
    refine own_iinc (pc' := 37) (z := (2 : Int32)) (l' := #[.val (.ref a), .val (.ref g), .val (.double u), .second, .val (.int (2 : Int32))]) X122 hx (hb hby own_d5_34) rfl rfl (by decide) rfl ?_
    refine own_goto (pc' := 3) X122 hx (hb hby own_d5_37) (by decide) (by decide) ?_
    refine own_iload (pc' := 5) X122 hx (hb hby own_d5_3) rfl rfl ?_
    refine own_aloadN (pc' := 6) X122 hx (hb hby own_d5_5) rfl rfl rfl ?_
    have f123 := (f115.other W122 (Or.inl n1))
    obtain ⟨T124, X124, e124, st124⟩ := getF X122 hx hZ hown (host := "") (Or.inl (own_w27 hw)) Via.refl e122 f123 (g := (mkF m 6 #[.val (.ref a), .val (.ref g), .val (.double u), .second, .val (.int (2 : Int32))] [(.ref a), (.int (2 : Int32))])) rfl rfl (hb hby own_d5_6)
    refine own_go st124 ?_
    show own_Ends prg e below s _ _ _ T124 (mkF m 9 #[.val (.ref a), .val (.ref g), .val (.double u), .second, .val (.int (2 : Int32))] [(.ref ca), (.int (2 : Int32))])
    have f125 := (f117.other W122 n2)
    refine own_alen (pc' := 10) X124 hx hZ e124 f125 (hb hby own_d5_9) rfl ?_
    refine own_icmpYes (pc' := 40) X124 hx (hb hby own_d5_10) (flt (by decide)).2.1 (by decide) (by decide) ?_
    refine own_retV X124 hx hlk hret (hb hby own_d5_40) (by decide) (by decide) ?_
    have f126 := ((K0.wr W114 (Or.inl (List.mem_of_getElem? (i := 0) rfl))).wr W122 (Or.inl (List.mem_of_getElem? (i := 0) rfl)))
    rw [e124]; exact ⟨rfl, N122, f126, V122⟩
  · replace V0 : Arv Z h0 ca ck .int (2 : Int32) [(.int (3 : Int32)), (.int (0 : Int32))] (.int (0 : Int32)) := V0
    refine own_iconst (pc' := 1) (z := (0 : Int32)) X0 hx (hb hby own_d5_0) rfl rfl ?_
    refine own_istore (pc' := 3) (l' := #[.val (.ref a), .val (.ref g), .val (.double u), .second, .val (.int (0 : Int32))]) X0 hx (hb hby own_d5_1) rfl rfl ?_
    refine own_iload (pc' := 5) X0 hx (hb hby own_d5_3) rfl rfl ?_
    refine own_aloadN (pc' := 6) X0 hx (hb hby own_d5_5) rfl rfl rfl ?_
    obtain ⟨T127, X127, e127, st127⟩ := getF X0 hx hZ hown (host := "") (Or.inl (own_w27 hw)) Via.refl e0 F0 (g := (mkF m 6 #[.val (.ref a), .val (.ref g), .val (.double u), .second, .val (.int (0 : Int32))] [(.ref a), (.int (0 : Int32))])) rfl rfl (hb hby own_d5_6)
    refine own_go st127 ?_
    show own_Ends prg e below s _ _ _ T127 (mkF m 9 #[.val (.ref a), .val (.ref g), .val (.double u), .second, .val (.int (0 : Int32))] [(.ref ca), (.int (0 : Int32))])
    refine own_alen (pc' := 10) X127 hx hZ e127 V0 (hb hby own_d5_9) rfl ?_
    refine own_icmpNo (pc' := 13) X127 hx (hb hby own_d5_10) rfl (tlt (by decide)).2.1 ?_
    refine own_aloadN (pc' := 14) X127 hx (hb hby own_d5_13) rfl rfl rfl ?_
    refine own_aloadN (pc' := 15) X127 hx (hb hby own_d5_14) rfl rfl rfl ?_
    obtain ⟨T128, X128, e128, st128⟩ := getF X127 hx hZ hown (host := "") (Or.inl (own_w27 hw)) Via.refl e127 F0 (g := (mkF m 15 #[.val (.ref a), .val (.ref g), .val (.double u), .second, .val (.int (0 : Int32))] [(.ref a), (.ref g)])) rfl rfl (hb hby own_d5_15)
    refine own_go st128 ?_
    show own_Ends prg e below s _ _ _ T128 (mkF m 18 #[.val (.ref a), .val (.ref g), .val (.double u), .second, .val (.int (0 : Int32))] [(.ref ca), (.ref g)])
    refine own_iload (pc' := 20) X128 hx (hb hby own_d5_18) rfl rfl ?_
    refine own_iaload (pc' := 21) (v := (.int (3 : Int32))) X128 hx hZ e128 V0 (hb hby own_d5_20) rfl (by decide) rfl ?_
    refine own_dup2 (pc' := 22) X128 hx (hb hby own_d5_21) rfl rfl rfl ?_
    refine own_daload (pc' := 23) (v := (.double i3)) X128 hx hZ e128 V2 (hb hby own_d5_22) rfl (by decide) rfl ?_
    refine own_dloadN (pc' := 24) X128 hx (hb hby own_d5_23) rfl rfl ?_
    refine own_aloadN (pc' := 25) X128 hx (hb hby own_d5_24) rfl rfl rfl ?_
    obtain ⟨T129, X129, e129, st129⟩ := getF X128 hx hZ hown (host := "") (Or.inl (own_w35 hw)) Via.refl e128 F1 (g := (mkF m 25 #[.val (.ref a), .val (.ref g), .val (.double u), .second, .val (.int (0 : Int32))] [(.ref a), (.double u), (.double i3), (.int (3 : Int32)), (.ref g)])) rfl rfl (hb hby own_d5_25)
    refine own_go st129 ?_
    show own_Ends prg e below s _ _ _ T129 (mkF m 28 #[.val (.ref a), .val (.ref g), .val (.double u), .second, .val (.int (0 : Int32))] [(.ref pa), (.double u), (.double i3), (.int (3 : Int32)), (.ref g)])
    refine own_iload (pc' := 30) X129 hx (hb hby own_d5_28) rfl rfl ?_
    refine own_daload (pc' := 31) (v := (.double q0)) X129 hx hZ e129 V1 (hb hby own_d5_30) rfl (by decide) rfl ?_
    refine own_dmul (pc' := 32) (z := (FP.dmul u q0)) X129 hx (hb hby own_d5_31) rfl (Jvm.Free.Fl.dmul_out hu hq0) rfl ?_
    refine own_dadd (pc' := 33) (z := (FP.dadd i3 (FP.dmul u q0))) X129 hx (hb hby own_d5_32) rfl (own_nan hi3 hu hq0) rfl ?_
    refine own_dastore (pc' := 34) X129 hx hZ e129 V2 (hb hby own_d5_33) rfl (by decide) 3 rfl (by simp) N0 ge0 ?_
    intro T130 h130 L130 X130 e130 N130 W130 V130
    replace V130 : Arv Z h130 g gk .double (4 : Int32) [(.double i0), (.double i1), (.double i2), (.double (FP.dadd i3 (FP.dmul u q0)))] (.double 0) := V130
    show own_Ends prg e below s _ _ _ T130 (mkF m 34 #[.val (.ref a), .val (.ref g), .val (.double u), .second, .val (.int (0 : Int32))] [])
    refine own_iinc (pc' := 37) (z := (1 : Int32)) (l' := #[.val (.ref a), .val (.ref g), .val (.double u), .second, .val (.int (1 : Int32))]) X130 hx (hb hby own_d5_34) rfl rfl (by decide) rfl ?_
    refine own_goto (pc' := 3) X130 hx (hb hby own_d5_37) (by decide) (by decide) ?_
    refine own_iload (pc' := 5) X130 hx (hb hby own_d5_3) rfl rfl ?_
    refine own_aloadN (pc' := 6) X130 hx (hb hby own_d5_5) rfl rfl rfl ?_
    have f131 := (F0.other W130 (Or.inl n1))
    obtain ⟨T132, X132, e132, st132⟩ := getF X130 hx hZ hown (host := "") (Or.inl (own_w27 hw)) Via.refl e130 f131 (g := (mkF m 6 #[.val (.ref a), .val (.ref g), .val (.double u), .second, .val (.int (1 : Int32))] [(.ref a), (.int (1 : Int32))])) rfl rfl (hb hby own_d5_6)
    refine own_go st132 ?_
    show own_Ends prg e below s _ _ _ T132 (mkF m 9 #[.val (.ref a), .val (.ref g), .val (.double u), .second, .val (.int (1 : Int32))] [(.ref ca), (.int (1 : Int32))])
    have f133 := (V0.other W130 n2)
    refine own_alen (pc' := 10) X132 hx hZ e132 f133 (hb hby own_d5_9) rfl ?_
    refine own_icmpNo (pc' := 13) X132 hx (hb hby own_d5_10) rfl (tlt (by decide)).2.1 ?_
    refine own_aloadN (pc' := 14) X132 hx (hb hby own_d5_13) rfl rfl rfl ?_
    refine own_aloadN (pc' := 15) X132 hx (hb hby own_d5_14) rfl rfl rfl ?_
    obtain ⟨T134, X134, e134, st134⟩ := getF X132 hx hZ hown (host := "") (Or.inl (own_w27 hw)) Via.refl e132 f131 (g := (mkF m 15 #[.val (.ref a), .val (.ref g), .val (.double u), .second, .val (.int (1 : Int32))] [(.ref a), (.ref g)])) rfl rfl (hb hby own_d5_15)
    refine own_go st134 ?_
    show own_Ends prg e below s _ _ _ T134 (mkF m 18 #[.val (.ref a), .val (.ref g), .val (.double u), .second, .val (.int (1 : Int32))] [(.ref ca), (.ref g)])
    refine own_iload (pc' := 20) X134 hx (hb hby own_d5_18) rfl rfl ?_
    refine own_iaload (pc' := 21) (v := (.int (0 : Int32))) X134 hx hZ e134 f133 (hb hby own_d5_20) rfl (by decide) rfl ?_
    refine own_dup2 (pc' := 22) X134 hx (hb hby own_d5_21) rfl rfl rfl ?_
    refine own_daload (pc' := 23) (v := (.double i0)) X134 hx hZ e134 V130 (hb hby own_d5_22) rfl (by decide) rfl ?_
    refine own_dloadN (pc' := 24) X134 hx (hb hby own_d5_23) rfl rfl ?_
    refine own_aloadN (pc' := 25) X134 hx (hb hby own_d5_24) rfl rfl rfl ?_
    have f135 := (F1.other W130 (Or.inl n1))
    obtain ⟨T136, X136, e136, st136⟩ := getF X134 hx hZ hown (host := "") (Or.inl (own_w35 hw)) Via.refl e134 f135 (g := (mkF m 25 #[.val (.ref a), .val (.ref g), .val (.double u), .second, .val (.int (1 : Int32))] [(.ref a), (.double u), (.double i0), (.int (0 : Int32)), (.ref g)])) rfl rfl (hb hby own_d5_25)
    refine own_go st136 ?_
    show own_Ends prg e below s _ _ _ T136 (mkF m 28 #[.val (.ref a), .val (.ref g), .val (.double u), .second, .val (.int (1 : Int32))] [(.ref pa), (.double u), (.double i0), (.int (0 : Int32)), (.ref g)])
    refine own_iload (pc' := 30) X136 hx (hb hby own_d5_28) rfl rfl ?_
    have f137 := (V1.other W130 n3)
    refine own_daload (pc' := 31) (v := (.double q1)) X136 hx hZ e136 f137 (hb hby own_d5_30) rfl (by decide) rfl ?_
    refine own_dmul (pc' := 32) (z := (FP.dmul u q1)) X136 hx (hb hby own_d5_31) rfl (Jvm.Free.Fl.dmul_out hu hq1) rfl ?_
    refine own_dadd (pc' := 33) (z := (FP.dadd i0 (FP.dmul u q1))) X136 hx (hb hby own_d5_32) rfl (own_nan hi0 hu hq1) rfl ?_
    refine own_dastore (pc' := 34) X136 hx hZ e136 V130 (hb hby own_d5_33) rfl (by decide) 0 rfl (by simp) N130 ge0 ?_
    intro T138 h138 L138 X138 e138 N138 W138 V138
    replace V138 : Arv Z h138 g gk .double (4 : Int32) [(.double (FP.dadd i0 (FP.dmul u q1))), (.double i1), (.double i2), (.double (FP.dadd i3 (FP.dmul u q0)))] (.double 0) := V138
    show own_Ends prg e below s _ _ _ T138 (mkF m 34 #[.val (.ref a), .val (.ref g), .val (.double u), .second, .val (.int (1 : Int32))] [])
    refine own_iinc (pc' := 37) (z := (2 : Int32)) (l' := #[.val (.ref a), .val (.ref g), .val (.double u), .second, .val (.int (2 : Int32))]) X138 hx (hb hby own_d5_34) rfl rfl (by decide) rfl ?_
    refine own_goto (pc' := 3) X138 hx (hb hby own_d5_37) (by decide) (by decide) ?_
    refine own_iload (pc' := 5) X138 hx (hb hby own_d5_3) rfl rfl ?_
    refine own_aloadN (pc' := 6) X138 hx (hb hby own_d5_5) rfl rfl rfl ?_
    have f139 := (f131.other W138 (Or.inl n1))
    obtain ⟨T140, X140, e140, st140⟩ := getF X138 hx hZ hown (host := "") (Or.inl (own_w27 hw)) Via.refl e138 f139 (g := (mkF m 6 #[.val (.ref a), .val (.ref g), .val (.double u), .second, .val (.int (2 : Int32))] [(.ref a), (.int (2 : Int32))])) rfl rfl (hb hby own_d5_6)
    refine own_go st140 ?_
    show own_Ends prg e below s _ _ _ T140 (mkF m 9 #[.val (.ref a), .val (.ref g), .val (.double u), .second, .val (.int (2 : Int32))] [(.ref ca), (.int (2 : Int32))])
    have f141 := (f133.other W138 n2)
    refine own_alen (pc' := 10) X140 hx hZ e140 f141 (hb hby own_d5_9) rfl ?_
    refine own_icmpYes (pc' := 40) X140 hx (hb hby own_d5_10) (flt (by decide)).2.1 (by decide) (by decide) ?_
    refine own_retV X140 hx hlk hret (hb hby own_d5_40) (by decide) (by decide) ?_
    have f142 := ((K0.wr W130 (Or.inl (List.mem_of_getElem? (i := 0) rfl))).wr W138 (Or.inl (List.mem_of_getElem? (i := 0) rfl)))
    rw [e140]; exact ⟨rfl, N138, f142, V138⟩
  · replace V0 : Arv Z h0 ca ck .int (2 : Int32) [(.int (3 : Int32)), (.int (2 : Int32))] (.int (0 : Int32)) := V0
    refine own_iconst (pc' := 1) (z := (0 : Int32)) X0 hx (hb hby own_d5_0) rfl rfl ?_
    refine own_istore (pc' := 3) (l' := #[.val (.ref a), .val (.ref g), .val (.double u), .second, .val (.int (0 : Int32))]) X0 hx (hb hby own_d5_1) rfl rfl ?_
    refine own_iload (pc' := 5) X0 hx (hb hby own_d5_3) rfl rfl ?_
    refine own_aloadN (pc' := 6) X0 hx (hb hby own_d5_5) rfl rfl rfl ?_
    obtain ⟨T143, X143, e143, st143⟩ := getF X0 hx hZ hown (host := "") (Or.inl (own_w27 hw)) Via.refl e0 F0 (g := (mkF m 6 #[.val (.ref a), .val (.ref g), .val (.double u), .second, .val (.int (0 : Int32))] [(.ref a), (.int (0 : Int32))])) rfl rfl (hb hby own_d5_6)
    refine own_go st143 ?_
    show own_Ends prg e below s _ _ _ T143 (mkF m 9 #[.val (.ref a), .val (.ref g), .val (.double u), .second, .val (.int (0 : Int32))] [(.ref ca), (.int (0 : Int32))])
    refine own_alen (pc' := 10) X143 hx hZ e143 V0 (hb hby own_d5_9) rfl ?_
    refine own_icmpNo (pc' := 13) X143 hx (hb hby own_d5_10) rfl (tlt (by decide)).2.1 ?_
    refine own_aloadN (pc' := 14) X143 hx (hb hby own_d5_13) rfl rfl rfl ?_
    refine own_aloadN (pc' := 15) X143 hx (hb hby own_d5_14) rfl rfl rfl ?_
    obtain ⟨T144, X144, e144, st144⟩ := getF X143 hx hZ hown (host := "") (Or.inl (own_w27 hw)) Via.refl e143 F0 (g := (mkF m 15 #[.val (.ref a), .val (.ref g), .val (.double u), .second, .val (.int (0 : Int32))] [(.ref a), (.ref g)])) rfl rfl (hb hby own_d5_15)
    refine own_go st144 ?_
    show own_Ends prg e below s _ _ _ T144 (mkF m 18 #[.val (.ref a), .val (.ref g), .val (.double u), .second, .val (.int (0 : Int32))] [(.ref ca), (.ref g)])
    refine own_iload (pc' := 20) X144 hx (hb hby own_d5_18) rfl rfl ?_
    refine own_iaload (pc' := 21) (v := (.int (3 : Int32))) X144 hx hZ e144 V0 (hb hby own_d5_20) rfl (by decide) rfl ?_
    refine own_dup2 (pc' := 22) X144 hx (hb hby own_d5_21) rfl rfl rfl ?_
    refine own_daload (pc' := 23) (v := (.double i3)) X144 hx hZ e144 V2 (hb hby own_d5_22) rfl (by decide) rfl ?_
    refine own_dloadN (pc' := 24) X144 hx (hb hby own_d5_23) rfl rfl ?_
    refine own_aloadN (pc' := 25) X144 hx (hb hby own_d5_24) rfl rfl rfl ?_
    obtain ⟨T145, X145, e145, st145⟩ := getF X144 hx hZ hown (host := "") (Or.inl (own_w35 hw)) Via.refl e144 F1 (g := (mkF m 25 #[.val (.ref a), .val (.ref g), .val (.double u), .second, .val (.int (0 : Int32))] [(.ref a), (.double u), (.double i3), (.int (3 : Int32)), (.ref g)])) rfl rfl (hb hby own_d5_25)
    refine own_go st145 ?_
    show own_Ends prg e below s _ _ _ T145 (mkF m 28 #[.val (.ref a), .val (.ref g), .val (.double u), .second, .val (.int (0 : Int32))] [(.ref pa), (.double u), (.double i3), (.int (3 : Int32)), (.ref g)])
    refine own_iload (pc' := 30) X145 hx (hb hby own_d5_28) rfl rfl ?_
    refine own_daload (pc' := 31) (v := (.double q0)) X145 hx hZ e145 V1 (hb hby own_d5_30) rfl (by decide) rfl ?_
    refine own_dmul (pc' := 32) (z := (FP.dmul u q0)) X145 hx (hb hby own_d5_31) rfl (Jvm.Free.Fl.dmul_out hu hq0) rfl ?_
    refine own_dadd (pc' := 33) (z := (FP.dadd i3 (FP.dmul u q0))) X145 hx (hb hby own_d5_32) rfl (own_nan hi3 hu hq0) rfl ?_
    refine own_dastore (pc' := 34) X145 hx hZ e145 V2 (hb hby own_d5_33) rfl (by decide) 3 rfl (by simp) N0 ge0 ?_
    intro T146 h146 L146 X146 e146 N146 W146 V146
    replace V146 : Arv Z h146 g gk .double (4 : Int32) [(.double i0), (.double i1), (.double i2), (.double (FP.dadd i3 (FP.dmul u q0)))] (.double 0) := V146
    show own_Ends prg e below s _ _ _ T146 (mkF m 34 #[.val (.ref a), .val (.ref g), .val (.double u), .second, .val (.int (0 : Int32))] [])
    refine own_iinc (pc' := 37) (z := (1 : Int32)) (l' := #[.val (.ref a), .val (.ref g), .val (.double u), .second, .val (.int (1 : Int32))]) X146 hx (hb hby own_d5_34) rfl rfl (by decide) rfl ?_
    refine own_goto (pc' := 3) X146 hx (hb hby own_d5_37) (by decide) (by decide) ?_
    refine own_iload (pc' := 5) X146 hx (hb hby own_d5_3) rfl rfl ?_
    refine own_aloadN (pc' := 6) X146 hx (hb hby own_d5_5) rfl rfl rfl ?_
    have f147 := (F0.other W146 (Or.inl n1))
    obtain ⟨T148, X148, e148, st148⟩ := getF X146 hx hZ hown (host := "") (Or.inl (own_w27 hw)) Via.refl e146 f147 (g := (mkF m 6 #[.val (.ref a), .val (.ref g), .val (.double u), .second, .val (.int (1 : Int32))] [(.ref a), (.int (1 : Int32))])) rfl rfl (hb hby own_d5_6)
    refine own_go st148 ?_
    show own_Ends prg e below s _ _ _ T148 (mkF m 9 #[.val (.ref a), .val (.ref g), .val (.double u), .second, .val (.int (1 : Int32))] [(.ref ca), (.int (1 : Int32))])
    have f149 := (V0.other W146 n2)
    refine own_alen (pc' := 10) X148 hx hZ e148 f149 (hb hby own_d5_9) rfl ?_
    refine own_icmpNo (pc' := 13) X148 hx (hb hby own_d5_10) rfl (tlt (by decide)).2.1 ?_
    refine own_aloadN (pc' := 14) X148 hx (hb hby own_d5_13) rfl rfl rfl ?_
    refine own_aloadN (pc' := 15) X148 hx (hb hby own_d5_14) rfl rfl rfl ?_
    obtain ⟨T150, X150, e150, st150⟩ := getF X148 hx hZ hown (host := "") (Or.inl (own_w27 hw)) Via.refl e148 f147 (g := (mkF m 15 #[.val (.ref a), .val (.ref g), .val (.double u), .second, .val (.int (1 : Int32))] [(.ref a), (.ref g)])) rfl rfl (hb hby own_d5_15)
    refine own_go st150 ?_
    show own_Ends prg e below s _ _ _ T150 (mkF m 18 #[.val (.ref a), .val (.ref g), .val (.double u), .second, .val (.int (1 : Int32))] [(.ref ca), (.ref g)])
    refine own_iload (pc' := 20) X150 hx (hb hby own_d5_18) rfl rfl ?_
    refine own_iaload (pc' := 21) (v := (.int (2 : Int32))) X150 hx hZ e150 f149 (hb hby own_d5_20) rfl (by decide) rfl ?_
    refine own_dup2 (pc' := 22) X150 hx (hb hby own_d5_21) rfl rfl rfl ?_
    refine own_daload (pc' := 23) (v := (.double i2)) X150 hx hZ e150 V146 (hb hby own_d5_22) rfl (by decide) rfl ?_
    refine own_dloadN (pc' := 24) X150 hx (hb hby own_d5_23) rfl rfl ?_
    refine own_aloadN (pc' := 25) X150 hx (hb hby own_d5_24) rfl rfl rfl ?_
    have f151 := (F1.other W146 (Or.inl n1))
    obtain ⟨T152, X152, e152, st152⟩ := getF X150 hx hZ hown (host := "") (Or.inl (own_w35 hw)) Via.refl e150 f151 (g := (mkF m 25 #[.val (.ref a), .val (.ref g), .val (.double u), .second, .val (.int (1 : Int32))] [(.ref a), (.double u), (.double i2), (.int (2 : Int32)), (.ref g)])) rfl rfl (hb hby own_d5_25)
    refine own_go st152 ?_
    show own_Ends prg e below s _ _ _ T152 (mkF m 28 #[.val (.ref a), .val (.ref g), .val (.double u), .second, .val (.int (1 : Int32))] [(.ref pa), (.double u), (.double i2), (.int (2 : Int32)), (.ref g)])
    refine own_iload (pc' := 30) X152 hx (hb hby own_d5_28) rfl rfl ?_
    have f153 := (V1.other W146 n3)
    refine own_daload (pc' := 31) (v := (.double q1)) X152 hx hZ e152 f153 (hb hby own_d5_30) rfl (by decide) rfl ?_
    refine own_dmul (pc' := 32) (z := (FP.dmul u q1)) X152 hx (hb hby own_d5_31) rfl (Jvm.Free.Fl.dmul_out hu hq1) rfl ?_
    refine own_dadd (pc' := 33) (z := (FP.dadd i2 (FP.dmul u q1))) X152 hx (hb hby own_d5_32) rfl (own_nan hi2 hu hq1) rfl ?_
    refine own_dastore (pc' := 34) X152 hx hZ e152 V146 (hb hby own_d5_33) rfl (by decide) 2 rfl (by simp) N146 ge0 ?_
    intro T154 h154 L154 X154 e154 N154 W154 V154
    replace V154 : Arv Z h154 g gk .double (4 : Int32) [(.double i0), (.double i1), (.double (FP.dadd i2 (FP.dmul u q1))), (.double (FP.dadd i3 (FP.dmul u q0)))] (.double 0) := V154
    show own_Ends prg e below s _ _ _ T154 (mkF m 34 #[.val (.ref a), .val (.ref g), .val (.double u), .second, .val (.int (1 : Int32))] [])
    refine own_iinc (pc' := 37) (z := (2 : Int32)) (l' := #[.val (.ref a), .val (.ref g), .val (.double u), .second, .val (.int (2 : Int32))]) X154 hx (hb hby own_d5_34) rfl rfl (by decide) rfl ?_
    refine own_goto (pc' := 3) X154 hx (hb hby own_d5_37) (by decide) (by decide) ?_
    refine own_iload (pc' := 5) X154 hx (hb hby own_d5_3) rfl rfl ?_
    refine own_aloadN (pc' := 6) X154 hx (hb hby own_d5_5) rfl rfl rfl ?_
    have f155 := (f147.other W154 (Or.inl n1))
    obtain ⟨T156, X156, e156, st156⟩ := getF X154 hx hZ hown (host := "") (Or.inl (own_w27 hw)) Via.refl e154 f155 (g := (mkF m 6 #[.val (.ref a), .val (.ref g), .val (.double u), .second, .val (.int (2 : Int32))] [(.ref a), (.int (2 : Int32))])) rfl rfl (hb hby own_d5_6)
    refine own_go st156 ?_
    show own_Ends prg e below s _ _ _ T156 (mkF m 9 #[.val (.ref a), .val (.ref g), .val (.double u), .second, .val (.int (2 : Int32))] [(.ref ca), (.int (2 : Int32))])
    have f157 := (f149.other W154 n2)
    refine own_alen (pc' := 10) X156 hx hZ e156 f157 (hb hby own_d5_9) rfl ?_
    refine own_icmpYes (pc' := 40) X156 hx (hb hby own_d5_10) (flt (by decide)).2.1 (by decide) (by decide) ?_
    refine own_retV X156 hx hlk hret (hb hby own_d5_40) (by decide) (by decide) ?_
    have f158 := ((K0.wr W146 (Or.inl (List.mem_of_getElem? (i := 0) rfl))).wr W154 (Or.inl (List.mem_of_getElem? (i := 0) rfl)))
    rw [e156]; exact ⟨rfl, N154, f158, V154⟩
def own_room5_3 : Room := { frames := 0, cells := 0, slots := 0, locals := 0 }
def own_Q5_3 (Z : State) (a : Addr) (g : Addr) (u : UInt64) (ca : Addr) (pa : Addr) (ck : ClassId) (pk : ClassId) (gk : ClassId) (b : Int32) (d : Int32) (i0 : UInt64) (i1 : UInt64) (i2 : UInt64) (i3 : UInt64) (q0 : UInt64) (q1 : UInt64) (q2 : UInt64) (q3 : UInt64) (h0 : Heap) (n0 : Nat) (v : Option Value) (h : Heap) (L : List Loc) : Prop := v = none ∧ Fr n0 L ∧ Keep h0 h [g] ∧ Arv Z h g gk .double (4 : Int32) [(.double (own_exp 0 b d 3 i0 u q0 q1 q2 q3)), (.double (own_exp 1 b d 3 i1 u q0 q1 q2 q3)), (.double (own_exp 2 b d 3 i2 u q0 q1 q2 q3)), (.double (own_exp 3 b d 3 i3 u q0 q1 q2 q3))] (.double 0)
theorem own_ef_rm5_3 (m : MethodId) (x0 : Addr) (x1 : Addr) (x2 : UInt64) : entryFrame m #[(.ref x0), (.ref x1), (.double x2)] 5 = mkF m 0 #[.val (.ref x0), .val (.ref x1), .val (.double x2), .second, .unset] [] := by first | (simp [entryFrame, mkF, argsToLocals, Value.category]; done) | rfl
set_option maxRecDepth 65536 in
set_option maxHeartbeats 40000000 in
theorem own_rm5_3 (lch : Launch) (Z : State) (a0 : Array Value) (hw : ∀ d ∈ tables_1, d.before a0 Z = true) (ws : List Jvm.Cond) (a : Addr) (g : Addr) (u : UInt64) (ca : Addr) (pa : Addr) (ck : ClassId) (pk : ClassId) (gk : ClassId) (b : Int32) (d : Int32) (i0 : UInt64) (i1 : UInt64) (i2 : UInt64) (i3 : UInt64) (q0 : UInt64) (q1 : UInt64) (q2 : UInt64) (q3 : UInt64) (h0 : Heap) (n0 : Nat) (F0 : Fld Z h0 a "com/example/mapwright/mapwright/ArcLoads" "arcs" "[I" (.ref ca)) (F1 : Fld Z h0 a "com/example/mapwright/mapwright/ArcLoads" "perUnit" "[D" (.ref pa)) (V0 : Arv Z h0 ca ck .int (3 : Int32) [(.int (b &&& (3 : Int32))), (.int ((b + d) &&& (3 : Int32))), (.int ((b + ((2 : Int32) * d)) &&& (3 : Int32)))] (.int (0 : Int32))) (V1 : Arv Z h0 pa pk .double (3 : Int32) [(.double q0), (.double q1), (.double q2)] (.double 0)) (V2 : Arv Z h0 g gk .double (4 : Int32) [(.double i0), (.double i1), (.double i2), (.double i3)] (.double 0)) (ge0 : n0 ≤ g) (n1 : a ≠ g) (n2 : ca ≠ g) (n3 : pa ≠ g) (hbd : (b = 0 ∧ d = 1) ∨ (b = 0 ∧ d = 3) ∨ (b = 1 ∧ d = 1) ∨ (b = 1 ∧ d = 3) ∨ (b = 2 ∧ d = 1) ∨ (b = 2 ∧ d = 3) ∨ (b = 3 ∧ d = 1) ∨ (b = 3 ∧ d = 3)) (hu : Jvm.Free.Fl.Fin64 u) (hi0 : Jvm.Free.Fl.Fin64 i0) (hi1 : Jvm.Free.Fl.Fin64 i1) (hi2 : Jvm.Free.Fl.Fin64 i2) (hi3 : Jvm.Free.Fl.Fin64 i3) (hq0 : Jvm.Free.Fl.Fin64 q0) (hq1 : Jvm.Free.Fl.Fin64 q1) (hq2 : Jvm.Free.Fl.Fin64 q2) (hq3 : Jvm.Free.Fl.Fin64 q3) :
    MetFree lch (⟨"com/example/mapwright/mapwright/ArcLoads", "addTo", "([DD)V"⟩ : MethodName) (head1 (Jvm.Cond.code (⟨"com/example/mapwright/mapwright/ArcLoads", "addTo", "([DD)V"⟩ : MethodName) prog_1_method_6_code 5 none :: ws) own_room5_3) (fun zz U => zz = #[(.ref a), (.ref g), (.double u)] ∧ Z.Warmed39 U.vm ∧ U.heap = h0) (fun _ _ _ _ _ => True) (fun _ U o U' => ∃ v L, o = .returned v ∧ own_Q5_3 Z a g u ca pa ck pk gk b d i0 i1 i2 i3 q0 q1 q2 q3 h0 n0 v U'.heap L ∧ FrameEnd U o U' L own_room5_3.cells own_room5_3.slots) := by
  refine MetFree.of_bodySF (plainFor_of_name own_pn1) hisR ?_
  intro prg e s m args below meth c s₁ Bd hml0 hP hK
  obtain ⟨rfl, hZ, hh⟩ := hP
  have hx := Bd.exec
  have hby := Bd.bytes
  have hml : c.maxLocals = 5 := hml0
  have hown : s.vm.findClass "com/example/mapwright/mapwright/ArcLoads" = some m.cls := findClass_of_methodNamed Bd.named
  have hnm := (name_of_methodNamed Bd.named Bd.method).1
  have hlk : meth.locks = false := BodyLoose.notSynchronized Bd
  have hret := Bd.returns
  have X0 : Stand prg lch e own_room5_3 s m #[(.ref a), (.ref g), (.double u)] below meth c s₁ [] 0 0 := Stand.of_body Bd
  have e0 : s₁.heap = h0 := by rw [← hh, Bd.state]; rfl
  have N0 := Fr.nil n0
  show own_Ends prg e below s (own_Q5_3 Z a g u ca pa ck pk gk b d i0 i1 i2 i3 q0 q1 q2 q3 h0 n0) own_room5_3.cells own_room5_3.slots s₁ (entryFrame m #[(.ref a), (.ref g), (.double u)] 5)
  refine own_cast (own_ef_rm5_3 m a g u) ?_
  have K0 := Keep.refl h0 ([g] : List Addr)
  rcases hbd with ⟨rfl, rfl⟩ | ⟨rfl, rfl⟩ | ⟨rfl, rfl⟩ | ⟨rfl, rfl⟩ | ⟨rfl, rfl⟩ | ⟨rfl, rfl⟩ | ⟨rfl, rfl⟩ | ⟨rfl, rfl⟩
  · replace V0 : Arv Z h0 ca ck .int (3 : Int32) [(.int (0 : Int32)), (.int (1 : Int32)), (.int (2 : Int32))] (.int (0 : Int32)) := V0
    refine own_iconst (pc' := 1) (z := (0 : Int32)) X0 hx (hb hby own_d5_0) rfl rfl ?_
    refine own_istore (pc' := 3) (l' := #[.val (.ref a), .val (.ref g), .val (.double u), .second, .val (.int (0 : Int32))]) X0 hx (hb hby own_d5_1) rfl rfl ?_
    refine own_iload (pc' := 5) X0 hx (hb hby own_d5_3) rfl rfl ?_
    refine own_aloadN (pc' := 6) X0 hx (hb hby own_d5_5) rfl rfl rfl ?_
    obtain ⟨T31, X31, e31, st31⟩ := getF X0 hx hZ hown (host := "") (Or.inl (own_w27 hw)) Via.refl e0 F0 (g := (mkF m 6 #[.val (.ref a), .val (.ref g), .val (.double u), .second, .val (.int (0 : Int32))] [(.ref a), (.int (0 : Int32))])) rfl rfl (hb hby own_d5_6)
    refine own_go st31 ?_
    show own_Ends prg e below s _ _ _ T31 (mkF m 9 #[.val (.ref a), .val (.ref g), .val (.double u), .second, .val (.int (0 : Int32))] [(.ref ca), (.int (0 : Int32))])
    refine own_alen (pc' := 10) X31 hx hZ e31 V0 (hb hby own_d5_9) rfl ?_
    refine own_icmpNo (pc' := 13) X31 hx (hb hby own_d5_10) rfl (tlt (by decide)).2.1 ?_
    refine own_aloadN (pc' := 14) X31 hx (hb hby own_d5_13) rfl rfl rfl ?_
    refine own_aloadN (pc' := 15) X31 hx (hb hby own_d5_14) rfl rfl rfl ?_
    obtain ⟨T32, X32, e32, st32⟩ := getF X31 hx hZ hown (host := "") (Or.inl (own_w27 hw)) Via.refl e31 F0 (g := (mkF m 15 #[.val (.ref a), .val (.ref g), .val (.double u), .second, .val (.int (0 : Int32))] [(.ref a), (.ref g)])) rfl rfl (hb hby own_d5_15)
    refine own_go st32 ?_
    show own_Ends prg e below s _ _ _ T32 (mkF m 18 #[.val (.ref a), .val (.ref g), .val (.double u), .second, .val (.int (0 : Int32))] [(.ref ca), (.ref g)])
    refine own_iload (pc' := 20) X32 hx (hb hby own_d5_18) rfl rfl ?_
    refine own_iaload (pc' := 21) (v := (.int (0 : Int32))) X32 hx hZ e32 V0 (hb hby own_d5_20) rfl (by decide) rfl ?_
    refine own_dup2 (pc' := 22) X32 hx (hb hby own_d5_21) rfl rfl rfl ?_
    refine own_daload (pc' := 23) (v := (.double i0)) X32 hx hZ e32 V2 (hb hby own_d5_22) rfl (by decide) rfl ?_
    refine own_dloadN (pc' := 24) X32 hx (hb hby own_d5_23) rfl rfl ?_
    refine own_aloadN (pc' := 25) X32 hx (hb hby own_d5_24) rfl rfl rfl ?_
    obtain ⟨T33, X33, e33, st33⟩ := getF X32 hx hZ hown (host := "") (Or.inl (own_w35 hw)) Via.refl e32 F1 (g := (mkF m 25 #[.val (.ref a), .val (.ref g), .val (.double u), .second, .val (.int (0 : Int32))] [(.ref a), (.double u), (.double i0), (.int (0 : Int32)), (.ref g)])) rfl rfl (hb hby own_d5_25)
    refine own_go st33 ?_
    show own_Ends prg e below s _ _ _ T33 (mkF m 28 #[.val (.ref a), .val (.ref g), .val (.double u), .second, .val (.int (0 : Int32))] [(.ref pa), (.double u), (.double i0), (.int (0 : Int32)), (.ref g)])
    refine own_iload (pc' := 30) X33 hx (hb hby own_d5_28) rfl rfl ?_
    refine own_daload (pc' := 31) (v := (.double q0)) X33 hx hZ e33 V1 (hb hby own_d5_30) rfl (by decide) rfl ?_
    refine own_dmul (pc' := 32) (z := (FP.dmul u q0)) X33 hx (hb hby own_d5_31) rfl (Jvm.Free.Fl.dmul_out hu hq0) rfl ?_
    refine own_dadd (pc' := 33) (z := (FP.dadd i0 (FP.dmul u q0))) X33 hx (hb hby own_d5_32) rfl (own_nan hi0 hu hq0) rfl ?_
    refine own_dastore (pc' := 34) X33 hx hZ e33 V2 (hb hby own_d5_33) rfl (by decide) 0 rfl (by simp) N0 ge0 ?_
    intro T34 h34 L34 X34 e34 N34 W34 V34
    replace V34 : Arv Z h34 g gk .double (4 : Int32) [(.double (FP.dadd i0 (FP.dmul u q0))), (.double i1), (.double i2), (.double i3)] (.double 0) := V34
    show own_Ends prg e below s _ _ _ T34 (mkF m 34 #[.val (.ref a), .val (.ref g), .val (.double u), .second, .val (.int (0 : Int32))] [])
    refine own_iinc (pc' := 37) (z := (1 : Int32)) (l' := #[.val (.ref a), .val (.ref g), .val (.double u), .second, .val (.int (1 : Int32))]) X34 hx (hb hby own_d5_34) rfl rfl (by decide) rfl ?_
    refine own_goto (pc' := 3) X34 hx (hb hby own_d5_37) (by decide) (by decide) ?_
    refine own_iload (pc' := 5) X34 hx (hb hby own_d5_3) rfl rfl ?_
    refine own_aloadN (pc' := 6) X34 hx (hb hby own_d5_5) rfl rfl rfl ?_
    have f35 := (F0.other W34 (Or.inl n1))
    obtain ⟨T36, X36, e36, st36⟩ := getF X34 hx hZ hown (host := "") (Or.inl (own_w27 hw)) Via.refl e34 f35 (g := (mkF m 6 #[.val (.ref a), .val (.ref g), .val (.double u), .second, .val (.int (1 : Int32))] [(.ref a), (.int (1 : Int32))])) rfl rfl (hb hby own_d5_6)
    refine own_go st36 ?_
    show own_Ends prg e below s _ _ _ T36 (mkF m 9 #[.val (.ref a), .val (.ref g), .val (.double u), .second, .val (.int (1 : Int32))] [(.ref ca), (.int (1 : Int32))])
    have f37 := (V0.other W34 n2)
    refine own_alen (pc' := 10) X36 hx hZ e36 f37 (hb hby own_d5_9) rfl ?_
    refine own_icmpNo (pc' := 13) X36 hx (hb hby own_d5_10) rfl (tlt (by decide)).2.1 ?_
    refine own_aloadN (pc' := 14) X36 hx (hb hby own_d5_13) rfl rfl rfl ?_
    refine own_aloadN (pc' := 15) X36 hx (hb hby own_d5_14) rfl rfl rfl ?_
    obtain ⟨T38, X38, e38, st38⟩ := getF X36 hx hZ hown (host := "") (Or.inl (own_w27 hw)) Via.refl e36 f35 (g := (mkF m 15 #[.val (.ref a), .val (.ref g), .val (.double u), .second, .val (.int (1 : Int32))] [(.ref a), (.ref g)])) rfl rfl (hb hby own_d5_15)
    refine own_go st38 ?_
    show own_Ends prg e below s _ _ _ T38 (mkF m 18 #[.val (.ref a), .val (.ref g), .val (.double u), .second, .val (.int (1 : Int32))] [(.ref ca), (.ref g)])
    refine own_iload (pc' := 20) X38 hx (hb hby own_d5_18) rfl rfl ?_
    refine own_iaload (pc' := 21) (v := (.int (1 : Int32))) X38 hx hZ e38 f37 (hb hby own_d5_20) rfl (by decide) rfl ?_
    refine own_dup2 (pc' := 22) X38 hx (hb hby own_d5_21) rfl rfl rfl ?_
    refine own_daload (pc' := 23) (v := (.double i1)) X38 hx hZ e38 V34 (hb hby own_d5_22) rfl (by decide) rfl ?_
    refine own_dloadN (pc' := 24) X38 hx (hb hby own_d5_23) rfl rfl ?_
    refine own_aloadN (pc' := 25) X38 hx (hb hby own_d5_24) rfl rfl rfl ?_
    have f39 := (F1.other W34 (Or.inl n1))
    obtain ⟨T40, X40, e40, st40⟩ := getF X38 hx hZ hown (host := "") (Or.inl (own_w35 hw)) Via.refl e38 f39 (g := (mkF m 25 #[.val (.ref a), .val (.ref g), .val (.double u), .second, .val (.int (1 : Int32))] [(.ref a), (.double u), (.double i1), (.int (1 : Int32)), (.ref g)])) rfl rfl (hb hby own_d5_25)
    refine own_go st40 ?_
    show own_Ends prg e below s _ _ _ T40 (mkF m 28 #[.val (.ref a), .val (.ref g), .val (.double u), .second, .val (.int (1 : Int32))] [(.ref pa), (.double u), (.double i1), (.int (1 : Int32)), (.ref g)])
    refine own_iload (pc' := 30) X40 hx (hb hby own_d5_28) rfl rfl ?_
    have f41 := (V1.other W34 n3)
    refine own_daload (pc' := 31) (v := (.double q1)) X40 hx hZ e40 f41 (hb hby own_d5_30) rfl (by decide) rfl ?_
    refine own_dmul (pc' := 32) (z := (FP.dmul u q1)) X40 hx (hb hby own_d5_31) rfl (Jvm.Free.Fl.dmul_out hu hq1) rfl ?_
    refine own_dadd (pc' := 33) (z := (FP.dadd i1 (FP.dmul u q1))) X40 hx (hb hby own_d5_32) rfl (own_nan hi1 hu hq1) rfl ?_
    refine own_dastore (pc' := 34) X40 hx hZ e40 V34 (hb hby own_d5_33) rfl (by decide) 1 rfl (by simp) N34 ge0 ?_
    intro T42 h42 L42 X42 e42 N42 W42 V42
    replace V42 : Arv Z h42 g gk .double (4 : Int32) [(.double (FP.dadd i0 (FP.dmul u q0))), (.double (FP.dadd i1 (FP.dmul u q1))), (.double i2), (.double i3)] (.double 0) := V42
    show own_Ends prg e below s _ _ _ T42 (mkF m 34 #[.val (.ref a), .val (.ref g), .val (.double u), .second, .val (.int (1 : Int32))] [])
    refine own_iinc (pc' := 37) (z := (2 : Int32)) (l' := #[.val (.ref a), .val (.ref g), .val (.double u), .second, .val (.int (2 : Int32))]) X42 hx (hb hby own_d5_34) rfl rfl (by decide) rfl ?_
    refine own_goto (pc' := 3) X42 hx (hb hby own_d5_37) (by decide) (by decide) ?_
    refine own_iload (pc' := 5) X42 hx (hb hby own_d5_3) rfl rfl ?_
    refine own_aloadN (pc' := 6) X42 hx (hb hby own_d5_5) rfl rfl rfl ?_
    have f43 := (f35.other W42 (Or.inl n1))
    obtain ⟨T44, X44, e44, st44⟩ := getF X42 hx hZ hown (host := "") (Or.inl (own_w27 hw)) Via.refl e42 f43 (g := (mkF m 6 #[.val (.ref a), .val (.ref g), .val (.double u), .second, .val (.int (2 : Int32))] [(.ref a), (.int (2 : Int32))])) rfl rfl (hb hby own_d5_6)
    refine own_go st44 ?_
    show own_Ends prg e below s _ _ _ T44 (mkF m 9 #[.val (.ref a), .val (.ref g), .val (.double u), .second, .val (.int (2 : Int32))] [(.ref ca), (.int (2 : Int32))])
    have f45 := (f37.other W42 n2)
    refine own_alen (pc' := 10) X44 hx hZ e44 f45 (hb hby own_d5_9) rfl ?_
    refine own_icmpNo (pc' := 13) X44 hx (hb hby own_d5_10) rfl (tlt (by decide)).2.1 ?_
    refine own_aloadN (pc' := 14) X44 hx (hb hby own_d5_13) rfl rfl rfl ?_
    refine own_aloadN (pc' := 15) X44 hx (hb hby own_d5_14) rfl rfl rfl ?_
    obtain ⟨T46, X46, e46, st46⟩ := getF X44 hx hZ hown (host := "") (Or.inl (own_w27 hw)) Via.refl e44 f43 (g := (mkF m 15 #[.val (.ref a), .val (.ref g), .val (.double u), .second, .val (.int (2 : Int32))] [(.ref a), (.ref g)])) rfl rfl (hb hby own_d5_15)
    refine own_go st46 ?_
    show own_Ends prg e below s _ _ _ T46 (mkF m 18 #[.val (.ref a), .val (.ref g), .val (.double u), .second, .val (.int (2 : Int32))] [(.ref ca), (.ref g)])
    refine own_iload (pc' := 20) X46 hx (hb hby own_d5_18) rfl rfl ?_
    refine own_iaload (pc' := 21) (v := (.int (2 : Int32))) X46 hx hZ e46 f45 (hb hby own_d5_20) rfl (by decide) rfl ?_
    refine own_dup2 (pc' := 22) X46 hx (hb hby own_d5_21) rfl rfl rfl ?_
    refine own_daload (pc' := 23) (v := (.double i2)) X46 hx hZ e46 V42 (hb hby own_d5_22) rfl (by decide) rfl ?_
    refine own_dloadN (pc' := 24) X46 hx (hb hby own_d5_23) rfl rfl ?_
    refine own_aloadN (pc' := 25) X46 hx (hb hby own_d5_24) rfl rfl rfl ?_
    have f47 := (f39.other W42 (Or.inl n1))
    obtain ⟨T48, X48, e48, st48⟩ := getF X46 hx hZ hown (host := "") (Or.inl (own_w35 hw)) Via.refl e46 f47 (g := (mkF m 25 #[.val (.ref a), .val (.ref g), .val (.double u), .second, .val (.int (2 : Int32))] [(.ref a), (.double u), (.double i2), (.int (2 : Int32)), (.ref g)])) rfl rfl (hb hby own_d5_25)
    refine own_go st48 ?_
    show own_Ends prg e below s _ _ _ T48 (mkF m 28 #[.val (.ref a), .val (.ref g), .val (.double u), .second, .val (.int (2 : Int32))] [(.ref pa), (.double u), (.double i2), (.int (2 : Int32)), (.ref g)])
    refine own_iload (pc' := 30) X48 hx (hb hby own_d5_28) rfl rfl ?_
    have f49 := (f41.other W42 n3)
    refine own_daload (pc' := 31) (v := (.double q2)) X48 hx hZ e48 f49 (hb hby own_d5_30) rfl (by decide) rfl ?_
    refine own_dmul (pc' := 32) (z := (FP.dmul u q2)) X48 hx (hb hby own_d5_31) rfl (Jvm.Free.Fl.dmul_out hu hq2) rfl ?_
    refine own_dadd (pc' := 33) (z := (FP.dadd i2 (FP.dmul u q2))) X48 hx (hb hby own_d5_32) rfl (own_nan hi2 hu hq2) rfl ?_
    refine own_dastore (pc' := 34) X48 hx hZ e48 V42 (hb hby own_d5_33) rfl (by decide) 2 rfl (by simp) N42 ge0 ?_
    intro T50 h50 L50 X50 e50 N50 W50 V50
    replace V50 : Arv Z h50 g gk .double (4 : Int32) [(.double (FP.dadd i0 (FP.dmul u q0))), (.double (FP.dadd i1 (FP.dmul u q1))), (.double (FP.dadd i2 (FP.dmul u q2))), (.double i3)] (.double 0) := V50
    show own_Ends prg e below s _ _ _ T50 (mkF m 34 #[.val (.ref a), .val (.ref g), .val (.double u), .second, .val (.int (2 : Int32))] [])
    refine own_iinc (pc' := 37) (z := (3 : Int32)) (l' := #[.val (.ref a), .val (.ref g), .val (.double u), .second, .val (.int (3 : Int32))]) X50 hx (hb hby own_d5_34) rfl rfl (by decide) rfl ?_
    refine own_goto (pc' := 3) X50 hx (hb hby own_d5_37) (by decide) (by decide) ?_
    refine own_iload (pc' := 5) X50 hx (hb hby own_d5_3) rfl rfl ?_
    refine own_aloadN (pc' := 6) X50 hx (hb hby own_d5_5) rfl rfl rfl ?_
    have f51 := (f43.other W50 (Or.inl n1))
    obtain ⟨T52, X52, e52, st52⟩ := getF X50 hx hZ hown (host := "") (Or.inl (own_w27 hw)) Via.refl e50 f51 (g := (mkF m 6 #[.val (.ref a), .val (.ref g), .val (.double u), .second, .val (.int (3 : Int32))] [(.ref a), (.int (3 : Int32))])) rfl rfl (hb hby own_d5_6)
    refine own_go st52 ?_
    show own_Ends prg e below s _ _ _ T52 (mkF m 9 #[.val (.ref a), .val (.ref g), .val (.double u), .second, .val (.int (3 : Int32))] [(.ref ca), (.int (3 : Int32))])
    have f53 := (f45.other W50 n2)
    refine own_alen (pc' := 10) X52 hx hZ e52 f53 (hb hby own_d5_9) rfl ?_
    refine own_icmpYes (pc' := 40) X52 hx (hb hby own_d5_10) (flt (by decide)).2.1 (by decide) (by decide) ?_
    refine own_retV X52 hx hlk hret (hb hby own_d5_40) (by decide) (by decide) ?_
    have f54 := (((K0.wr W34 (Or.inl (List.mem_of_getElem? (i := 0) rfl))).wr W42 (Or.inl (List.mem_of_getElem? (i := 0) rfl))).wr W50 (Or.inl (List.mem_of_getElem? (i := 0) rfl)))
    rw [e52]; exact ⟨rfl, N50, f54, V50⟩
  · replace V0 : Arv Z h0 ca ck .int (3 : Int32) [(.int (0 : Int32)), (.int (3 : Int32)), (.int (2 : Int32))] (.int (0 : Int32)) := V0
    refine own_iconst (pc' := 1) (z := (0 : Int32)) X0 hx (hb hby own_d5_0) rfl rfl ?_
    refine own_istore (pc' := 3) (l' := #[.val (.ref a), .val (.ref g), .val (.double u), .second, .val (.int (0 : Int32))]) X0 hx (hb hby own_d5_1) rfl rfl ?_
    refine own_iload (pc' := 5) X0 hx (hb hby own_d5_3) rfl rfl ?_
    refine own_aloadN (pc' := 6) X0 hx (hb hby own_d5_5) rfl rfl rfl ?_
    obtain ⟨T55, X55, e55, st55⟩ := getF X0 hx hZ hown (host := "") (Or.inl (own_w27 hw)) Via.refl e0 F0 (g := (mkF m 6 #[.val (.ref a), .val (.ref g), .val (.double u), .second, .val (.int (0 : Int32))] [(.ref a), (.int (0 : Int32))])) rfl rfl (hb hby own_d5_6)
    refine own_go st55 ?_
    show own_Ends prg e below s _ _ _ T55 (mkF m 9 #[.val (.ref a), .val (.ref g), .val (.double u), .second, .val (.int (0 : Int32))] [(.ref ca), (.int (0 : Int32))])
    refine own_alen (pc' := 10) X55 hx hZ e55 V0 (hb hby own_d5_9) rfl ?_
    refine own_icmpNo (pc' := 13) X55 hx (hb hby own_d5_10) rfl (tlt (by decide)).2.1 ?_
    refine own_aloadN (pc' := 14) X55 hx (hb hby own_d5_13) rfl rfl rfl ?_
    refine own_aloadN (pc' := 15) X55 hx (hb hby own_d5_14) rfl rfl rfl ?_
    obtain ⟨T56, X56, e56, st56⟩ := getF X55 hx hZ hown (host := "") (Or.inl (own_w27 hw)) Via.refl e55 F0 (g := (mkF m 15 #[.val (.ref a), .val (.ref g), .val (.double u), .second, .val (.int (0 : Int32))] [(.ref a), (.ref g)])) rfl rfl (hb hby own_d5_15)
    refine own_go st56 ?_
    show own_Ends prg e below s _ _ _ T56 (mkF m 18 #[.val (.ref a), .val (.ref g), .val (.double u), .second, .val (.int (0 : Int32))] [(.ref ca), (.ref g)])
    refine own_iload (pc' := 20) X56 hx (hb hby own_d5_18) rfl rfl ?_
    refine own_iaload (pc' := 21) (v := (.int (0 : Int32))) X56 hx hZ e56 V0 (hb hby own_d5_20) rfl (by decide) rfl ?_
    refine own_dup2 (pc' := 22) X56 hx (hb hby own_d5_21) rfl rfl rfl ?_
    refine own_daload (pc' := 23) (v := (.double i0)) X56 hx hZ e56 V2 (hb hby own_d5_22) rfl (by decide) rfl ?_
    refine own_dloadN (pc' := 24) X56 hx (hb hby own_d5_23) rfl rfl ?_
    refine own_aloadN (pc' := 25) X56 hx (hb hby own_d5_24) rfl rfl rfl ?_
    obtain ⟨T57, X57, e57, st57⟩ := getF X56 hx hZ hown (host := "") (Or.inl (own_w35 hw)) Via.refl e56 F1 (g := (mkF m 25 #[.val (.ref a), .val (.ref g), .val (.double u), .second, .val (.int (0 : Int32))] [(.ref a), (.double u), (.double i0), (.int (0 : Int32)), (.ref g)])) rfl rfl (hb hby own_d5_25)
    refine own_go st57 ?_
    show own_Ends prg e below s _ _ _ T57 (mkF m 28 #[.val (.ref a), .val (.ref g), .val (.double u), .second, .val (.int (0 : Int32))] [(.ref pa), (.double u), (.double i0), (.int (0 : Int32)), (.ref g)])
    refine own_iload (pc' := 30) X57 hx (hb hby own_d5_28) rfl rfl ?_
    refine own_daload (pc' := 31) (v := (.double q0)) X57 hx hZ e57 V1 (hb hby own_d5_30) rfl (by decide) rfl ?_
    refine own_dmul (pc' := 32) (z := (FP.dmul u q0)) X57 hx (hb hby own_d5_31) rfl (Jvm.Free.Fl.dmul_out hu hq0) rfl ?_
    refine own_dadd (pc' := 33) (z := (FP.dadd i0 (FP.dmul u q0))) X57 hx (hb hby own_d5_32) rfl (own_nan hi0 hu hq0) rfl ?_
    refine own_dastore (pc' := 34) X57 hx hZ e57 V2 (hb hby own_d5_33) rfl (by decide) 0 rfl (by simp) N0 ge0 ?_
    intro T58 h58 L58 X58 e58 N58 W58 V58
    replace V58 : Arv Z h58 g gk .double (4 : Int32) [(.double (FP.dadd i0 (FP.dmul u q0))), (.double i1), (.double i2), (.double i3)] (.double 0) := V58
    show own_Ends prg e below s _ _ _ T58 (mkF m 34 #[.val (.ref a), .val (.ref g), .val (.double u), .second, .val (.int (0 : Int32))] [])
    refine own_iinc (pc' := 37) (z := (1 : Int32)) (l' := #[.val (.ref a), .val (.ref g), .val (.double u), .second, .val (.int (1 : Int32))]) X58 hx (hb hby own_d5_34) rfl rfl (by decide) rfl ?_
    refine own_goto (pc' := 3) X58 hx (hb hby own_d5_37) (by decide) (by decide) ?_
    refine own_iload (pc' := 5) X58 hx (hb hby own_d5_3) rfl rfl ?_
    refine own_aloadN (pc' := 6) X58 hx (hb hby own_d5_5) rfl rfl rfl ?_
    have f59 := (F0.other W58 (Or.inl n1))
    obtain ⟨T60, X60, e60, st60⟩ := getF X58 hx hZ hown (host := "") (Or.inl (own_w27 hw)) Via.refl e58 f59 (g := (mkF m 6 #[.val (.ref a), .val (.ref g), .val (.double u), .second, .val (.int (1 : Int32))] [(.ref a), (.int (1 : Int32))])) rfl rfl (hb hby own_d5_6)
    refine own_go st60 ?_
    show own_Ends prg e below s _ _ _ T60 (mkF m 9 #[.val (.ref a), .val (.ref g), .val (.double u), .second, .val (.int (1 : Int32))] [(.ref ca), (.int (1 : Int32))])
    have f61 := (V0.other W58 n2)
    refine own_alen (pc' := 10) X60 hx hZ e60 f61 (hb hby own_d5_9) rfl ?_
    refine own_icmpNo (pc' := 13) X60 hx (hb hby own_d5_10) rfl (tlt (by decide)).2.1 ?_
    refine own_aloadN (pc' := 14) X60 hx (hb hby own_d5_13) rfl rfl rfl ?_
    refine own_aloadN (pc' := 15) X60 hx (hb hby own_d5_14) rfl rfl rfl ?_
    obtain ⟨T62, X62, e62, st62⟩ := getF X60 hx hZ hown (host := "") (Or.inl (own_w27 hw)) Via.refl e60 f59 (g := (mkF m 15 #[.val (.ref a), .val (.ref g), .val (.double u), .second, .val (.int (1 : Int32))] [(.ref a), (.ref g)])) rfl rfl (hb hby own_d5_15)
    refine own_go st62 ?_
    show own_Ends prg e below s _ _ _ T62 (mkF m 18 #[.val (.ref a), .val (.ref g), .val (.double u), .second, .val (.int (1 : Int32))] [(.ref ca), (.ref g)])
    refine own_iload (pc' := 20) X62 hx (hb hby own_d5_18) rfl rfl ?_
    refine own_iaload (pc' := 21) (v := (.int (3 : Int32))) X62 hx hZ e62 f61 (hb hby own_d5_20) rfl (by decide) rfl ?_
    refine own_dup2 (pc' := 22) X62 hx (hb hby own_d5_21) rfl rfl rfl ?_
    refine own_daload (pc' := 23) (v := (.double i3)) X62 hx hZ e62 V58 (hb hby own_d5_22) rfl (by decide) rfl ?_
    refine own_dloadN (pc' := 24) X62 hx (hb hby own_d5_23) rfl rfl ?_
    refine own_aloadN (pc' := 25) X62 hx (hb hby own_d5_24) rfl rfl rfl ?_
    have f63 := (F1.other W58 (Or.inl n1))
    obtain ⟨T64, X64, e64, st64⟩ := getF X62 hx hZ hown (host := "") (Or.inl (own_w35 hw)) Via.refl e62 f63 (g := (mkF m 25 #[.val (.ref a), .val (.ref g), .val (.double u), .second, .val (.int (1 : Int32))] [(.ref a), (.double u), (.double i3), (.int (3 : Int32)), (.ref g)])) rfl rfl (hb hby own_d5_25)
    refine own_go st64 ?_
    show own_Ends prg e below s _ _ _ T64 (mkF m 28 #[.val (.ref a), .val (.ref g), .val (.double u), .second, .val (.int (1 : Int32))] [(.ref pa), (.double u), (.double i3), (.int (3 : Int32)), (.ref g)])
    refine own_iload (pc' := 30) X64 hx (hb hby own_d5_28) rfl rfl ?_
    have f65 := (V1.other W58 n3)
    refine own_daload (pc' := 31) (v := (.double q1)) X64 hx hZ e64 f65 (hb hby own_d5_30) rfl (by decide) rfl ?_
    refine own_dmul (pc' := 32) (z := (FP.dmul u q1)) X64 hx (hb hby own_d5_31) rfl (Jvm.Free.Fl.dmul_out hu hq1) rfl ?_
    refine own_dadd (pc' := 33) (z := (FP.dadd i3 (FP.dmul u q1))) X64 hx (hb hby own_d5_32) rfl (own_nan hi3 hu hq1) rfl ?_
    refine own_dastore (pc' := 34) X64 hx hZ e64 V58 (hb hby own_d5_33) rfl (by decide) 3 rfl (by simp) N58 ge0 ?_
    intro T66 h66 L66 X66 e66 N66 W66 V66
    replace V66 : Arv Z h66 g gk .double (4 : Int32) [(.double (FP.dadd i0 (FP.dmul u q0))), (.double i1), (.double i2), (.double (FP.dadd i3 (FP.dmul u q1)))] (.double 0) := V66
    show own_Ends prg e below s _ _ _ T66 (mkF m 34 #[.val (.ref a), .val (.ref g), .val (.double u), .second, .val (.int (1 : Int32))] [])
    refine own_iinc (pc' := 37) (z := (2 : Int32)) (l' := #[.val (.ref a), .val (.ref g), .val (.double u), .second, .val (.int (2 : Int32))]) X66 hx (hb hby own_d5_34) rfl rfl (by decide) rfl ?_
    refine own_goto (pc' := 3) X66 hx (hb hby own_d5_37) (by decide) (by decide) ?_
    refine own_iload (pc' := 5) X66 hx (hb hby own_d5_3) rfl rfl ?_
    refine own_aloadN (pc' := 6) X66 hx (hb hby own_d5_5) rfl rfl rfl ?_
    have f67 := (f59.other W66 (Or.inl n1))
    obtain ⟨T68, X68, e68, st68⟩ := getF X66 hx hZ hown (host := "") (Or.inl (own_w27 hw)) Via.refl e66 f67 (g := (mkF m 6 #[.val (.ref a), .val (.ref g), .val (.double u), .second, .val (.int (2 : Int32))] [(.ref a), (.int (2 : Int32))])) rfl rfl (hb hby own_d5_6)
    refine own_go st68 ?_
    show own_Ends prg e below s _ _ _ T68 (mkF m 9 #[.val (.ref a), .val (.ref g), .val (.double u), .second, .val (.int (2 : Int32))] [(.ref ca), (.int (2 : Int32))])
    have f69 := (f61.other W66 n2)
    refine own_alen (pc' := 10) X68 hx hZ e68 f69 (hb hby own_d5_9) rfl ?_
    refine own_icmpNo (pc' := 13) X68 hx (hb hby own_d5_10) rfl (tlt (by decide)).2.1 ?_
    refine own_aloadN (pc' := 14) X68 hx (hb hby own_d5_13) rfl rfl rfl ?_
    refine own_aloadN (pc' := 15) X68 hx (hb hby own_d5_14) rfl rfl rfl ?_
    obtain ⟨T70, X70, e70, st70⟩ := getF X68 hx hZ hown (host := "") (Or.inl (own_w27 hw)) Via.refl e68 f67 (g := (mkF m 15 #[.val (.ref a), .val (.ref g), .val (.double u), .second, .val (.int (2 : Int32))] [(.ref a), (.ref g)])) rfl rfl (hb hby own_d5_15)
    refine own_go st70 ?_
    show own_Ends prg e below s _ _ _ T70 (mkF m 18 #[.val (.ref a), .val (.ref g), .val (.double u), .second, .val (.int (2 : Int32))] [(.ref ca), (.ref g)])
    refine own_iload (pc' := 20) X70 hx (hb hby own_d5_18) rfl rfl ?_
    refine own_iaload (pc' := 21) (v := (.int (2 : Int32))) X70 hx hZ e70 f69 (hb hby own_d5_20) rfl (by decide) rfl ?_
    refine own_dup2 (pc' := 22) X70 hx (hb hby own_d5_21) rfl rfl rfl ?_
    refine own_daload (pc' := 23) (v := (.double i2)) X70 hx hZ e70 V66 (hb hby own_d5_22) rfl (by decide) rfl ?_
    refine own_dloadN (pc' := 24) X70 hx (hb hby own_d5_23) rfl rfl ?_
    refine own_aloadN (pc' := 25) X70 hx (hb hby own_d5_24) rfl rfl rfl ?_
    have f71 := (f63.other W66 (Or.inl n1))
    obtain ⟨T72, X72, e72, st72⟩ := getF X70 hx hZ hown (host := "") (Or.inl (own_w35 hw)) Via.refl e70 f71 (g := (mkF m 25 #[.val (.ref a), .val (.ref g), .val (.double u), .second, .val (.int (2 : Int32))] [(.ref a), (.double u), (.double i2), (.int (2 : Int32)), (.ref g)])) rfl rfl (hb hby own_d5_25)
    refine own_go st72 ?_
    show own_Ends prg e below s _ _ _ T72 (mkF m 28 #[.val (.ref a), .val (.ref g), .val (.double u), .second, .val (.int (2 : Int32))] [(.ref pa), (.double u), (.double i2), (.int (2 : Int32)), (.ref g)])
    refine own_iload (pc' := 30) X72 hx (hb hby own_d5_28) rfl rfl ?_
    have f73 := (f65.other W66 n3)
    refine own_daload (pc' := 31) (v := (.double q2)) X72 hx hZ e72 f73 (hb hby own_d5_30) rfl (by decide) rfl ?_
    refine own_dmul (pc' := 32) (z := (FP.dmul u q2)) X72 hx (hb hby own_d5_31) rfl (Jvm.Free.Fl.dmul_out hu hq2) rfl ?_
    refine own_dadd (pc' := 33) (z := (FP.dadd i2 (FP.dmul u q2))) X72 hx (hb hby own_d5_32) rfl (own_nan hi2 hu hq2) rfl ?_
    refine own_dastore (pc' := 34) X72 hx hZ e72 V66 (hb hby own_d5_33) rfl (by decide) 2 rfl (by simp) N66 ge0 ?_
    intro T74 h74 L74 X74 e74 N74 W74 V74
    replace V74 : Arv Z h74 g gk .double (4 : Int32) [(.double (FP.dadd i0 (FP.dmul u q0))), (.double i1), (.double (FP.dadd i2 (FP.dmul u q2))), (.double (FP.dadd i3 (FP.dmul u q1)))] (.double 0) := V74
    show own_Ends prg e below s _ _ _ T74 (mkF m 34 #[.val (.ref a), .val (.ref g), .val (.double u), .second, .val (.int (2 : Int32))] [])
    refine own_iinc (pc' := 37) (z := (3 : Int32)) (l' := #[.val (.ref a), .val (.ref g), .val (.double u), .second, .val (.int (3 : Int32))]) X74 hx (hb hby own_d5_34) rfl rfl (by decide) rfl ?_
    refine own_goto (pc' := 3) X74 hx (hb hby own_d5_37) (by decide) (by decide) ?_
    refine own_iload (pc' := 5) X74 hx (hb hby own_d5_3) rfl rfl ?_
    refine own_aloadN (pc' := 6) X74 hx (hb hby own_d5_5) rfl rfl rfl ?_
    have f75 := (f67.other W74 (Or.inl n1))
    obtain ⟨T76, X76, e76, st76⟩ := getF X74 hx hZ hown (host := "") (Or.inl (own_w27 hw)) Via.refl e74 f75 (g := (mkF m 6 #[.val (.ref a), .val (.ref g), .val (.double u), .second, .val (.int (3 : Int32))] [(.ref a), (.int (3 : Int32))])) rfl rfl (hb hby own_d5_6)
    refine own_go st76 ?_
    show own_Ends prg e below s _ _ _ T76 (mkF m 9 #[.val (.ref a), .val (.ref g), .val (.double u), .second, .val (.int (3 : Int32))] [(.ref ca), (.int (3 : Int32))])
    have f77 := (f69.other W74 n2)
    refine own_alen (pc' := 10) X76 hx hZ e76 f77 (hb hby own_d5_9) rfl ?_
    refine own_icmpYes (pc' := 40) X76 hx (hb hby own_d5_10) (flt (by decide)).2.1 (by decide) (by decide) ?_
    refine own_retV X76 hx hlk hret (hb hby own_d5_40) (by decide) (by decide) ?_
    have f78 := (((K0.wr W58 (Or.inl (List.mem_of_getElem? (i := 0) rfl))).wr W66 (Or.inl (List.mem_of_getElem? (i := 0) rfl))).wr W74 (Or.inl (List.mem_of_getElem? (i := 0) rfl)))
    rw [e76]; exact ⟨rfl, N74, f78, V74⟩
  · replace V0 : Arv Z h0 ca ck .int (3 : Int32) [(.int (1 : Int32)), (.int (2 : Int32)), (.int (3 : Int32))] (.int (0 : Int32)) := V0
    refine own_iconst (pc' := 1) (z := (0 : Int32)) X0 hx (hb hby own_d5_0) rfl rfl ?_
    refine own_istore (pc' := 3) (l' := #[.val (.ref a), .val (.ref g), .val (.double u), .second, .val (.int (0 : Int32))]) X0 hx (hb hby own_d5_1) rfl rfl ?_
    refine own_iload (pc' := 5) X0 hx (hb hby own_d5_3) rfl rfl ?_
    refine own_aloadN (pc' := 6) X0 hx (hb hby own_d5_5) rfl rfl rfl ?_
    obtain ⟨T79, X79, e79, st79⟩ := getF X0 hx hZ hown (host := "") (Or.inl (own_w27 hw)) Via.refl e0 F0 (g := (mkF m 6 #[.val (.ref a), .val (.ref g), .val (.double u), .second, .val (.int (0 : Int32))] [(.ref a), (.int (0 : Int32))])) rfl rfl (hb hby own_d5_6)
    refine own_go st79 ?_
    show own_Ends prg e below s _ _ _ T79 (mkF m 9 #[.val (.ref a), .val (.ref g), .val (.double u), .second, .val (.int (0 : Int32))] [(.ref ca), (.int (0 : Int32))])
    refine own_alen (pc' := 10) X79 hx hZ e79 V0 (hb hby own_d5_9) rfl ?_
    refine own_icmpNo (pc' := 13) X79 hx (hb hby own_d5_10) rfl (tlt (by decide)).2.1 ?_
    refine own_aloadN (pc' := 14) X79 hx (hb hby own_d5_13) rfl rfl rfl ?_
    refine own_aloadN (pc' := 15) X79 hx (hb hby own_d5_14) rfl rfl rfl ?_
    obtain ⟨T80, X80, e80, st80⟩ := getF X79 hx hZ hown (host := "") (Or.inl (own_w27 hw)) Via.refl e79 F0 (g := (mkF m 15 #[.val (.ref a), .val (.ref g), .val (.double u), .second, .val (.int (0 : Int32))] [(.ref a), (.ref g)])) rfl rfl (hb hby own_d5_15)
    refine own_go st80 ?_
    show own_Ends prg e below s _ _ _ T80 (mkF m 18 #[.val (.ref a), .val (.ref g), .val (.double u), .second, .val (.int (0 : Int32))] [(.ref ca), (.ref g)])
    refine own_iload (pc' := 20) X80 hx (hb hby own_d5_18) rfl rfl ?_
    refine own_iaload (pc' := 21) (v := (.int (1 : Int32))) X80 hx hZ e80 V0 (hb hby own_d5_20) rfl (by decide) rfl ?_
    refine own_dup2 (pc' := 22) X80 hx (hb hby own_d5_21) rfl rfl rfl ?_
    refine own_daload (pc' := 23) (v := (.double i1)) X80 hx hZ e80 V2 (hb hby own_d5_22) rfl (by decide) rfl ?_
    refine own_dloadN (pc' := 24) X80 hx (hb hby own_d5_23) rfl rfl ?_
    refine own_aloadN (pc' := 25) X80 hx (hb hby own_d5_24) rfl rfl rfl ?_
    obtain ⟨T81, X81, e81, st81⟩ := getF X80 hx hZ hown (host := "") (Or.inl (own_w35 hw)) Via.refl e80 F1 (g := (mkF m 25 #[.val (.ref a), .val (.ref g), .val (.double u), .second, .val (.int (0 : Int32))] [(.ref a), (.double u), (.double i1), (.int (1 : Int32)), (.ref g)])) rfl rfl (hb hby own_d5_25)
    refine own_go st81 ?_
    show own_Ends prg e below s _ _ _ T81 (mkF m 28 #[.val (.ref a), .val (.ref g), .val (.double u), .second, .val (.int (0 : Int32))] [(.ref pa), (.double u), (.double i1), (.int (1 : Int32)), (.ref g)])
    refine own_iload (pc' := 30) X81 hx (hb hby own_d5_28) rfl rfl ?_
    refine own_daload (pc' := 31) (v := (.double q0)) X81 hx hZ e81 V1 (hb hby own_d5_30) rfl (by decide) rfl ?_
    refine own_dmul (pc' := 32) (z := (FP.dmul u q0)) X81 hx (hb hby own_d5_31) rfl (Jvm.Free.Fl.dmul_out hu hq0) rfl ?_
    refine own_dadd (pc' := 33) (z := (FP.dadd i1 (FP.dmul u q0))) X81 hx (hb hby own_d5_32) rfl (own_nan hi1 hu hq0) rfl ?_
    refine own_dastore (pc' := 34) X81 hx hZ e81 V2 (hb hby own_d5_33) rfl (by decide) 1 rfl (by simp) N0 ge0 ?_
    intro T82 h82 L82 X82 e82 N82 W82 V82
    replace V82 : Arv Z h82 g gk .double (4 : Int32) [(.double i0), (.double (FP.dadd i1 (FP.dmul u q0))), (.double i2), (.double i3)] (.double 0) := V82
    show own_Ends prg e below s _ _ _ T82 (mkF m 34 #[.val (.ref a), .val (.ref g), .val (.double u), .second, .val (.int (0 : Int32))] [])
    refine own_iinc (pc' := 37) (z := (1 : Int32)) (l' := #[.val (.ref a), .val (.ref g), .val (.double u), .second, .val (.int (1 : Int32))]) X82 hx (hb hby own_d5_34) rfl rfl (by decide) rfl ?_
    refine own_goto (pc' := 3) X82 hx (hb hby own_d5_37) (by decide) (by decide) ?_
    refine own_iload (pc' := 5) X82 hx (hb hby own_d5_3) rfl rfl ?_
    refine own_aloadN (pc' := 6) X82 hx (hb hby own_d5_5) rfl rfl rfl ?_
    have f83 := (F0.other W82 (Or.inl n1))
    obtain ⟨T84, X84, e84, st84⟩ := getF X82 hx hZ hown (host := "") (Or.inl (own_w27 hw)) Via.refl e82 f83 (g := (mkF m 6 #[.val (.ref a), .val (.ref g), .val (.double u), .second, .val (.int (1 : Int32))] [(.ref a), (.int (1 : Int32))])) rfl rfl (hb hby own_d5_6)
    refine own_go st84 ?_
    show own_Ends prg e below s _ _ _ T84 (mkF m 9 #[.val (.ref a), .val (.ref g), .val (.double u), .second, .val (.int (1 : Int32))] [(.ref ca), (.int (1 : Int32))])
    have f85 := (V0.other W82 n2)
    refine own_alen (pc' := 10) X84 hx hZ e84 f85 (hb hby own_d5_9) rfl ?_
    refine own_icmpNo (pc' := 13) X84 hx (hb hby own_d5_10) rfl (tlt (by decide)).2.1 ?_
    refine own_aloadN (pc' := 14) X84 hx (hb hby own_d5_13) rfl rfl rfl ?_
    refine own_aloadN (pc' := 15) X84 hx (hb hby own_d5_14) rfl rfl rfl ?_
    obtain ⟨T86, X86, e86, st86⟩ := getF X84 hx hZ hown (host := "") (Or.inl (own_w27 hw)) Via.refl e84 f83 (g := (mkF m 15 #[.val (.ref a), .val (.ref g), .val (.double u), .second, .val (.int (1 : Int32))] [(.ref a), (.ref g)])) rfl rfl (hb hby own_d5_15)
    refine own_go st86 ?_
    show own_Ends prg e below s _ _ _ T86 (mkF m 18 #[.val (.ref a), .val (.ref g), .val (.double u), .second, .val (.int (1 : Int32))] [(.ref ca), (.ref g)])
    refine own_iload (pc' := 20) X86 hx (hb hby own_d5_18) rfl rfl ?_
    refine own_iaload (pc' := 21) (v := (.int (2 : Int32))) X86 hx hZ e86 f85 (hb hby own_d5_20) rfl (by decide) rfl ?_
    refine own_dup2 (pc' := 22) X86 hx (hb hby own_d5_21) rfl rfl rfl ?_
    refine own_daload (pc' := 23) (v := (.double i2)) X86 hx hZ e86 V82 (hb hby own_d5_22) rfl (by decide) rfl ?_
    refine own_dloadN (pc' := 24) X86 hx (hb hby own_d5_23) rfl rfl ?_
    refine own_aloadN (pc' := 25) X86 hx (hb hby own_d5_24) rfl rfl rfl ?_
    have f87 := (F1.other W82 (Or.inl n1))
    obtain ⟨T88, X88, e88, st88⟩ := getF X86 hx hZ hown (host := "") (Or.inl (own_w35 hw)) Via.refl e86 f87 (g := (mkF m 25 #[.val (.ref a), .val (.ref g), .val (.double u), .second, .val (.int (1 : Int32))] [(.ref a), (.double u), (.double i2), (.int (2 : Int32)), (.ref g)])) rfl rfl (hb hby own_d5_25)
    refine own_go st88 ?_
    show own_Ends prg e below s _ _ _ T88 (mkF m 28 #[.val (.ref a), .val (.ref g), .val (.double u), .second, .val (.int (1 : Int32))] [(.ref pa), (.double u), (.double i2), (.int (2 : Int32)), (.ref g)])
    refine own_iload (pc' := 30) X88 hx (hb hby own_d5_28) rfl rfl ?_
    have f89 := (V1.other W82 n3)
    refine own_daload (pc' := 31) (v := (.double q1)) X88 hx hZ e88 f89 (hb hby own_d5_30) rfl (by decide) rfl ?_
    refine own_dmul (pc' := 32) (z := (FP.dmul u q1)) X88 hx (hb hby own_d5_31) rfl (Jvm.Free.Fl.dmul_out hu hq1) rfl ?_
    refine own_dadd (pc' := 33) (z := (FP.dadd i2 (FP.dmul u q1))) X88 hx (hb hby own_d5_32) rfl (own_nan hi2 hu hq1) rfl ?_
    refine own_dastore (pc' := 34) X88 hx hZ e88 V82 (hb hby own_d5_33) rfl (by decide) 2 rfl (by simp) N82 ge0 ?_
    intro T90 h90 L90 X90 e90 N90 W90 V90
    replace V90 : Arv Z h90 g gk .double (4 : Int32) [(.double i0), (.double (FP.dadd i1 (FP.dmul u q0))), (.double (FP.dadd i2 (FP.dmul u q1))), (.double i3)] (.double 0) := V90
    show own_Ends prg e below s _ _ _ T90 (mkF m 34 #[.val (.ref a), .val (.ref g), .val (.double u), .second, .val (.int (1 : Int32))] [])
    refine own_iinc (pc' := 37) (z := (2 : Int32)) (l' := #[.val (.ref a), .val (.ref g), .val (.double u), .second, .val (.int (2 : Int32))]) X90 hx (hb hby own_d5_34) rfl rfl (by decide) rfl ?_
    refine own_goto (pc' := 3) X90 hx (hb hby own_d5_37) (by decide) (by decide) ?_
    refine own_iload (pc' := 5) X90 hx (hb hby own_d5_3) rfl rfl ?_
    refine own_aloadN (pc' := 6) X90 hx (hb hby own_d5_5) rfl rfl rfl ?_
    have f91 := (f83.other W90 (Or.inl n1))
    obtain ⟨T92, X92, e92, st92⟩ := getF X90 hx hZ hown (host := "") (Or.inl (own_w27 hw)) Via.refl e90 f91 (g := (mkF m 6 #[.val (.ref a), .val (.ref g), .val (.double u), .second, .val (.int (2 : Int32))] [(.ref a), (.int (2 : Int32))])) rfl rfl (hb hby own_d5_6)
    refine own_go st92 ?_
    show own_Ends prg e below s _ _ _ T92 (mkF m 9 #[.val (.ref a), .val (.ref g), .val (.double u), .second, .val (.int (2 : Int32))] [(.ref ca), (.int (2 : Int32))])
    have f93 := (f85.other W90 n2)
    refine own_alen (pc' := 10) X92 hx hZ e92 f93 (hb hby own_d5_9) rfl ?_
    refine own_icmpNo (pc' := 13) X92 hx (hb hby own_d5_10) rfl (tlt (by decide)).2.1 ?_
    refine own_aloadN (pc' := 14) X92 hx (hb hby own_d5_13) rfl rfl rfl ?_
    refine own_aloadN (pc' := 15) X92 hx (hb hby own_d5_14) rfl rfl rfl ?_
    obtain ⟨T94, X94, e94, st94⟩ := getF X92 hx hZ hown (host := "") (Or.inl (own_w27 hw)) Via.refl e92 f91 (g := (mkF m 15 #[.val (.ref a), .val (.ref g), .val (.double u), .second, .val (.int (2 : Int32))] [(.ref a), (.ref g)])) rfl rfl (hb hby own_d5_15)
    refine own_go st94 ?_
    show own_Ends prg e below s _ _ _ T94 (mkF m 18 #[.val (.ref a), .val (.ref g), .val (.double u), .second, .val (.int (2 : Int32))] [(.ref ca), (.ref g)])
    refine own_iload (pc' := 20) X94 hx (hb hby own_d5_18) rfl rfl ?_
    refine own_iaload (pc' := 21) (v := (.int (3 : Int32))) X94 hx hZ e94 f93 (hb hby own_d5_20) rfl (by decide) rfl ?_
    refine own_dup2 (pc' := 22) X94 hx (hb hby own_d5_21) rfl rfl rfl ?_
    refine own_daload (pc' := 23) (v := (.double i3)) X94 hx hZ e94 V90 (hb hby own_d5_22) rfl (by decide) rfl ?_
    refine own_dloadN (pc' := 24) X94 hx (hb hby own_d5_23) rfl rfl ?_
    refine own_aloadN (pc' := 25) X94 hx (hb hby own_d5_24) rfl rfl rfl ?_
    have f95 := (f87.other W90 (Or.inl n1))
    obtain ⟨T96, X96, e96, st96⟩ := getF X94 hx hZ hown (host := "") (Or.inl (own_w35 hw)) Via.refl e94 f95 (g := (mkF m 25 #[.val (.ref a), .val (.ref g), .val (.double u), .second, .val (.int (2 : Int32))] [(.ref a), (.double u), (.double i3), (.int (3 : Int32)), (.ref g)])) rfl rfl (hb hby own_d5_25)
    refine own_go st96 ?_
    show own_Ends prg e below s _ _ _ T96 (mkF m 28 #[.val (.ref a), .val (.ref g), .val (.double u), .second, .val (.int (2 : Int32))] [(.ref pa), (.double u), (.double i3), (.int (3 : Int32)), (.ref g)])
    refine own_iload (pc' := 30) X96 hx (hb hby own_d5_28) rfl rfl ?_
    have f97 := (f89.other W90 n3)
    refine own_daload (pc' := 31) (v := (.double q2)) X96 hx hZ e96 f97 (hb hby own_d5_30) rfl (by decide) rfl ?_
    refine own_dmul (pc' := 32) (z := (FP.dmul u q2)) X96 hx (hb hby own_d5_31) rfl (Jvm.Free.Fl.dmul_out hu hq2) rfl ?_
    refine own_dadd (pc' := 33) (z := (FP.dadd i3 (FP.dmul u q2))) X96 hx (hb hby own_d5_32) rfl (own_nan hi3 hu hq2) rfl ?_
    refine own_dastore (pc' := 34) X96 hx hZ e96 V90 (hb hby own_d5_33) rfl (by decide) 3 rfl (by simp) N90 ge0 ?_
    intro T98 h98 L98 X98 e98 N98 W98 V98
    replace V98 : Arv Z h98 g gk .double (4 : Int32) [(.double i0), (.double (FP.dadd i1 (FP.dmul u q0))), (.double (FP.dadd i2 (FP.dmul u q1))), (.double (FP.dadd i3 (FP.dmul u q2)))] (.double 0) := V98
    show own_Ends prg e below s _ _ _ T98 (mkF m 34 #[.val (.ref a), .val (.ref g), .val (.double u), .second, .val (.int (2 : Int32))] [])
    refine own_iinc (pc' := 37) (z := (3 : Int32)) (l' := #[.val (.ref a), .val (.ref g), .val (.double u), .second, .val (.int (3 : Int32))]) X98 hx (hb hby own_d5_34) rfl rfl (by decide) rfl ?_
    refine own_goto (pc' := 3) X98 hx (hb hby own_d5_37) (by decide) (by decide) ?_
    refine own_iload (pc' := 5) X98 hx (hb hby own_d5_3) rfl rfl ?_
    refine own_aloadN (pc' := 6) X98 hx (hb hby own_d5_5) rfl rfl rfl ?_
    have f99 := (f91.other W98 (Or.inl n1))
    obtain ⟨T100, X100, e100, st100⟩ := getF X98 hx hZ hown (host := "") (Or.inl (own_w27 hw)) Via.refl e98 f99 (g := (mkF m 6 #[.val (.ref a), .val (.ref g), .val (.double u), .second, .val (.int (3 : Int32))] [(.ref a), (.int (3 : Int32))])) rfl rfl (hb hby own_d5_6)
    refine own_go st100 ?_
    show own_Ends prg e below s _ _ _ T100 (mkF m 9 #[.val (.ref a), .val (.ref g), .val (.double u), .second, .val (.int (3 : Int32))] [(.ref ca), (.int (3 : Int32))])
    have f101 := (f93.other W98 n2)
    refine own_alen (pc' := 10) X100 hx hZ e100 f101 (hb hby own_d5_9) rfl ?_
    refine own_icmpYes (pc' := 40) X100 hx (hb hby own_d5_10) (flt (by decide)).2.1 (by decide) (by decide) ?_
    refine own_retV X100 hx hlk hret (hb hby own_d5_40) (by decide) (by decide) ?_
    have f102 := (((K0.wr W82 (Or.inl (List.mem_of_getElem? (i := 0) rfl))).wr W90 (Or.inl (List.mem_of_getElem? (i := 0) rfl))).wr W98 (Or.inl (List.mem_of_getElem? (i := 0) rfl)))
    rw [e100]; exact ⟨rfl, N98, f102, V98⟩
  · replace V0 : Arv Z h0 ca ck .int (3 : Int32) [(.int (1 : Int32)), (.int (0 : Int32)), (.int (3 : Int32))] (.int (0 : Int32)) := V0
    refine own_iconst (pc' := 1) (z := (0 : Int32)) X0 hx (hb hby own_d5_0) rfl rfl ?_
    refine own_istore (pc' := 3) (l' := #[.val (.ref a), .val (.ref g), .val (.double u), .second, .val (.int (0 : Int32))]) X0 hx (hb hby own_d5_1) rfl rfl ?_
    refine own_iload (pc' := 5) X0 hx (hb hby own_d5_3) rfl rfl ?_
    refine own_aloadN (pc' := 6) X0 hx (hb hby own_d5_5) rfl rfl rfl ?_
    obtain ⟨T103, X103, e103, st103⟩ := getF X0 hx hZ hown (host := "") (Or.inl (own_w27 hw)) Via.refl e0 F0 (g := (mkF m 6 #[.val (.ref a), .val (.ref g), .val (.double u), .second, .val (.int (0 : Int32))] [(.ref a), (.int (0 : Int32))])) rfl rfl (hb hby own_d5_6)
    refine own_go st103 ?_
    show own_Ends prg e below s _ _ _ T103 (mkF m 9 #[.val (.ref a), .val (.ref g), .val (.double u), .second, .val (.int (0 : Int32))] [(.ref ca), (.int (0 : Int32))])
    refine own_alen (pc' := 10) X103 hx hZ e103 V0 (hb hby own_d5_9) rfl ?_
    refine own_icmpNo (pc' := 13) X103 hx (hb hby own_d5_10) rfl (tlt (by decide)).2.1 ?_
    refine own_aloadN (pc' := 14) X103 hx (hb hby own_d5_13) rfl rfl rfl ?_
    refine own_aloadN (pc' := 15) X103 hx (hb hby own_d5_14) rfl rfl rfl ?_
    obtain ⟨T104, X104, e104, st104⟩ := getF X103 hx hZ hown (host := "") (Or.inl (own_w27 hw)) Via.refl e103 F0 (g := (mkF m 15 #[.val (.ref a), .val (.ref g), .val (.double u), .second, .val (.int (0 : Int32))] [(.ref a), (.ref g)])) rfl rfl (hb hby own_d5_15)
    refine own_go st104 ?_
    show own_Ends prg e below s _ _ _ T104 (mkF m 18 #[.val (.ref a), .val (.ref g), .val (.double u), .second, .val (.int (0 : Int32))] [(.ref ca), (.ref g)])
    refine own_iload (pc' := 20) X104 hx (hb hby own_d5_18) rfl rfl ?_
    refine own_iaload (pc' := 21) (v := (.int (1 : Int32))) X104 hx hZ e104 V0 (hb hby own_d5_20) rfl (by decide) rfl ?_
    refine own_dup2 (pc' := 22) X104 hx (hb hby own_d5_21) rfl rfl rfl ?_
    refine own_daload (pc' := 23) (v := (.double i1)) X104 hx hZ e104 V2 (hb hby own_d5_22) rfl (by decide) rfl ?_
    refine own_dloadN (pc' := 24) X104 hx (hb hby own_d5_23) rfl rfl ?_
    refine own_aloadN (pc' := 25) X104 hx (hb hby own_d5_24) rfl rfl rfl ?_
    obtain ⟨T105, X105, e105, st105⟩ := getF X104 hx hZ hown (host := "") (Or.inl (own_w35 hw)) Via.refl e104 F1 (g := (mkF m 25 #[.val (.ref a), .val (.ref g), .val (.double u), .second, .val (.int (0 : Int32))] [(.ref a), (.double u), (.double i1), (.int (1 : Int32)), (.ref g)])) rfl rfl (hb hby own_d5_25)
    refine own_go st105 ?_
    show own_Ends prg e below s _ _ _ T105 (mkF m 28 #[.val (.ref a), .val (.ref g), .val (.double u), .second, .val (.int (0 : Int32))] [(.ref pa), (.double u), (.double i1), (.int (1 : Int32)), (.ref g)])
    refine own_iload (pc' := 30) X105 hx (hb hby own_d5_28) rfl rfl ?_
    refine own_daload (pc' := 31) (v := (.double q0)) X105 hx hZ e105 V1 (hb hby own_d5_30) rfl (by decide) rfl ?_
    refine own_dmul (pc' := 32) (z := (FP.dmul u q0)) X105 hx (hb hby own_d5_31) rfl (Jvm.Free.Fl.dmul_out hu hq0) rfl ?_
    refine own_dadd (pc' := 33) (z := (FP.dadd i1 (FP.dmul u q0))) X105 hx (hb hby own_d5_32) rfl (own_nan hi1 hu hq0) rfl ?_
    refine own_dastore (pc' := 34) X105 hx hZ e105 V2 (hb hby own_d5_33) rfl (by decide) 1 rfl (by simp) N0 ge0 ?_
    intro T106 h106 L106 X106 e106 N106 W106 V106
    replace V106 : Arv Z h106 g gk .double (4 : Int32) [(.double i0), (.double (FP.dadd i1 (FP.dmul u q0))), (.double i2), (.double i3)] (.double 0) := V106
    show own_Ends prg e below s _ _ _ T106 (mkF m 34 #[.val (.ref a), .val (.ref g), .val (.double u), .second, .val (.int (0 : Int32))] [])
    refine own_iinc (pc' := 37) (z := (1 : Int32)) (l' := #[.val (.ref a), .val (.ref g), .val (.double u), .second, .val (.int (1 : Int32))]) X106 hx (hb hby own_d5_34) rfl rfl (by decide) rfl ?_
    refine own_goto (pc' := 3) X106 hx (hb hby own_d5_37) (by decide) (by decide) ?_
    refine own_iload (pc' := 5) X106 hx (hb hby own_d5_3) rfl rfl ?_
    refine own_aloadN (pc' := 6) X106 hx (hb hby own_d5_5) rfl rfl rfl ?_
    have f107 := (F0.other W106 (Or.inl n1))
    obtain ⟨T108, X108, e108, st108⟩ := getF X106 hx hZ hown (host := "") (Or.inl (own_w27 hw)) Via.refl e106 f107 (g := (mkF m 6 #[.val (.ref a), .val (.ref g), .val (.double u), .second, .val (.int (1 : Int32))] [(.ref a), (.int (1 : Int32))])) rfl rfl (hb hby own_d5_6)
    refine own_go st108 ?_
    show own_Ends prg e below s _ _ _ T108 (mkF m 9 #[.val (.ref a), .val (.ref g), .val (.double u), .second, .val (.int (1 : Int32))] [(.ref ca), (.int (1 : Int32))])
    have f109 := (V0.other W106 n2)
    refine own_alen (pc' := 10) X108 hx hZ e108 f109 (hb hby own_d5_9) rfl ?_
    refine own_icmpNo (pc' := 13) X108 hx (hb hby own_d5_10) rfl (tlt (by decide)).2.1 ?_
    refine own_aloadN (pc' := 14) X108 hx (hb hby own_d5_13) rfl rfl rfl ?_
    refine own_aloadN (pc' := 15) X108 hx (hb hby own_d5_14) rfl rfl rfl ?_
    obtain ⟨T110, X110, e110, st110⟩ := getF X108 hx hZ hown (host := "") (Or.inl (own_w27 hw)) Via.refl e108 f107 (g := (mkF m 15 #[.val (.ref a), .val (.ref g), .val (.double u), .second, .val (.int (1 : Int32))] [(.ref a), (.ref g)])) rfl rfl (hb hby own_d5_15)
    refine own_go st110 ?_
    show own_Ends prg e below s _ _ _ T110 (mkF m 18 #[.val (.ref a), .val (.ref g), .val (.double u), .second, .val (.int (1 : Int32))] [(.ref ca), (.ref g)])
    refine own_iload (pc' := 20) X110 hx (hb hby own_d5_18) rfl rfl ?_
    refine own_iaload (pc' := 21) (v := (.int (0 : Int32))) X110 hx hZ e110 f109 (hb hby own_d5_20) rfl (by decide) rfl ?_
    refine own_dup2 (pc' := 22) X110 hx (hb hby own_d5_21) rfl rfl rfl ?_
    refine own_daload (pc' := 23) (v := (.double i0)) X110 hx hZ e110 V106 (hb hby own_d5_22) rfl (by decide) rfl ?_
    refine own_dloadN (pc' := 24) X110 hx (hb hby own_d5_23) rfl rfl ?_
    refine own_aloadN (pc' := 25) X110 hx (hb hby own_d5_24) rfl rfl rfl ?_
    have f111 := (F1.other W106 (Or.inl n1))
    obtain ⟨T112, X112, e112, st112⟩ := getF X110 hx hZ hown (host := "") (Or.inl (own_w35 hw)) Via.refl e110 f111 (g := (mkF m 25 #[.val (.ref a), .val (.ref g), .val (.double u), .second, .val (.int (1 : Int32))] [(.ref a), (.double u), (.double i0), (.int (0 : Int32)), (.ref g)])) rfl rfl (hb hby own_d5_25)
    refine own_go st112 ?_
    show own_Ends prg e below s _ _ _ T112 (mkF m 28 #[.val (.ref a), .val (.ref g), .val (.double u), .second, .val (.int (1 : Int32))] [(.ref pa), (.double u), (.double i0), (.int (0 : Int32)), (.ref g)])
    refine own_iload (pc' := 30) X112 hx (hb hby own_d5_28) rfl rfl ?_
    have f113 := (V1.other W106 n3)
    refine own_daload (pc' := 31) (v := (.double q1)) X112 hx hZ e112 f113 (hb hby own_d5_30) rfl (by decide) rfl ?_
    refine own_dmul (pc' := 32) (z := (FP.dmul u q1)) X112 hx (hb hby own_d5_31) rfl (Jvm.Free.Fl.dmul_out hu hq1) rfl ?_
    refine own_dadd (pc' := 33) (z := (FP.dadd i0 (FP.dmul u q1))) X112 hx (hb hby own_d5_32) rfl (own_nan hi0 hu hq1) rfl ?_
    refine own_dastore (pc' := 34) X112 hx hZ e112 V106 (hb hby own_d5_33) rfl (by decide) 0 rfl (by simp) N106 ge0 ?_
    intro T114 h114 L114 X114 e114 N114 W114 V114
    replace V114 : Arv Z h114 g gk .double (4 : Int32) [(.double (FP.dadd i0 (FP.dmul u q1))), (.double (FP.dadd i1 (FP.dmul u q0))), (.double i2), (.double i3)] (.double 0) := V114
    show own_Ends prg e below s _ _ _ T114 (mkF m 34 #[.val (.ref a), .val (.ref g), .val (.double u), .second, .val (.int (1 : Int32))] [])
    refine own_iinc (pc' := 37) (z := (2 : Int32)) (l' := #[.val (.ref a), .val (.ref g), .val (.double u), .second, .val (.int (2 : Int32))]) X114 hx (hb hby own_d5_34) rfl rfl (by decide) rfl ?_
    refine own_goto (pc' := 3) X114 hx (hb hby own_d5_37) (by decide) (by decide) ?_
    refine own_iload (pc' := 5) X114 hx (hb hby own_d5_3) rfl rfl ?_
    refine own_aloadN (pc' := 6) X114 hx (hb hby own_d5_5) rfl rfl rfl ?_
    have f115 := (f107.other W114 (Or.inl n1))
    obtain ⟨T116, X116, e116, st116⟩ := getF X114 hx hZ hown (host := "") (Or.inl (own_w27 hw)) Via.refl e114 f115 (g := (mkF m 6 #[.val (.ref a), .val (.ref g), .val (.double u), .second, .val (.int (2 : Int32))] [(.ref a), (.int (2 : Int32))])) rfl rfl (hb hby own_d5_6)
    refine own_go st116 ?_
    show own_Ends prg e below s _ _ _ T116 (mkF m 9 #[.val (.ref a), .val (.ref g), .val (.double u), .second, .val (.int (2 : Int32))] [(.ref ca), (.int (2 : Int32))])
    have f117 := (f109.other W114 n2)
    refine own_alen (pc' := 10) X116 hx hZ e116 f117 (hb hby own_d5_9) rfl ?_
    refine own_icmpNo (pc' := 13) X116 hx (hb hby own_d5_10) rfl (tlt (by decide)).2.1 ?_
    refine own_aloadN (pc' := 14) X116 hx (hb hby own_d5_13) rfl rfl rfl ?_
    refine own_aloadN (pc' := 15) X116 hx (hb hby own_d5_14) rfl rfl rfl ?_
    obtain ⟨T118, X118, e118, st118⟩ := getF X116 hx hZ hown (host := "") (Or.inl (own_w27 hw)) Via.refl e116 f115 (g := (mkF m 15 #[.val (.ref a), .val (.ref g), .val (.double u), .second, .val (.int (2 : Int32))] [(.ref a), (.ref g)])) rfl rfl (hb hby own_d5_15)
    refine own_go st118 ?_
    show own_Ends prg e below s _ _ _ T118 (mkF m 18 #[.val (.ref a), .val (.ref g), .val (.double u), .second, .val (.int (2 : Int32))] [(.ref ca), (.ref g)])
    refine own_iload (pc' := 20) X118 hx (hb hby own_d5_18) rfl rfl ?_
    refine own_iaload (pc' := 21) (v := (.int (3 : Int32))) X118 hx hZ e118 f117 (hb hby own_d5_20) rfl (by decide) rfl ?_
    refine own_dup2 (pc' := 22) X118 hx (hb hby own_d5_21) rfl rfl rfl ?_
    refine own_daload (pc' := 23) (v := (.double i3)) X118 hx hZ e118 V114 (hb hby own_d5_22) rfl (by decide) rfl ?_
    refine own_dloadN (pc' := 24) X118 hx (hb hby own_d5_23) rfl rfl ?_
    refine own_aloadN (pc' := 25) X118 hx (hb hby own_d5_24) rfl rfl rfl ?_
    have f119 := (f111.other W114 (Or.inl n1))
    obtain ⟨T120, X120, e120, st120⟩ := getF X118 hx hZ hown (host := "") (Or.inl (own_w35 hw)) Via.refl e118 f119 (g := (mkF m 25 #[.val (.ref a), .val (.ref g), .val (.double u), .second, .val (.int (2 : Int32))] [(.ref a), (.double u), (.double i3), (.int (3 : Int32)), (.ref g)])) rfl rfl (hb hby own_d5_25)
    refine own_go st120 ?_
    show own_Ends prg e below s _ _ _ T120 (mkF m 28 #[.val (.ref a), .val (.ref g), .val (.double u), .second, .val (.int (2 : Int32))] [(.ref pa), (.double u), (.double i3), (.int (3 : Int32)), (.ref g)])
    refine own_iload (pc' := 30) X120 hx (hb hby own_d5_28) rfl rfl ?_
    have f121 := (f113.other W114 n3)
    refine own_daload (pc' := 31) (v := (.double q2)) X120 hx hZ e120 f121 (hb hby own_d5_30) rfl (by decide) rfl ?_
    refine own_dmul (pc' := 32) (z := (FP.dmul u q2)) X120 hx (hb hby own_d5_31) rfl (Jvm.Free.Fl.dmul_out hu hq2) rfl ?_
    refine own_dadd (pc' := 33) (z := (FP.dadd i3 (FP.dmul u q2))) X120 hx (hb hby own_d5_32) rfl (own_nan hi3 hu hq2) rfl ?_
    refine own_dastore (pc' := 34) X120 hx hZ e120 V114 (hb hby own_d5_33) rfl (by decide) 3 rfl (by simp) N114 ge0 ?_
    intro T122 h122 L122 X122 e122 N122 W122 V122
    replace V122 : Arv Z h122 g gk .double (4 : Int32) [(.double (FP.dadd i0 (FP.dmul u q1))), (.double (FP.dadd i1 (FP.dmul u q0))), (.double i2), (.double (FP.dadd i3 (FP.dmul u q2)))] (.double 0) := V122
    show own_Ends prg e below s _ _ _ T122 (mkF m 34 #[.val (.ref a), .val (.ref g), .val (.double u), .second, .val (.int (2 : Int32))] [])
    refine own_iinc (pc' := 37) (z := (3 : Int32)) (l' := #[.val (.ref a), .val (.ref g), .val (.double u), .second, .val (.int (3 : Int32))]) X122 hx (hb hby own_d5_34) rfl rfl (by decide) rfl ?_
    refine own_goto (pc' := 3) X122 hx (hb hby own_d5_37) (by decide) (by decide) ?_
    refine own_iload (pc' := 5) X122 hx (hb hby own_d5_3) rfl rfl ?_
    refine own_aloadN (pc' := 6) X122 hx (hb hby own_d5_5) rfl rfl rfl ?_
    have f123 := (f115.other W122 (Or.inl n1))
    obtain ⟨T124, X124, e124, st124⟩ := getF X122 hx hZ hown (host := "") (Or.inl (own_w27 hw)) Via.refl e122 f123 (g := (mkF m 6 #[.val (.ref a), .val (.ref g), .val (.double u), .second, .val (.int (3 : Int32))] [(.ref a), (.int (3 : Int32))])) rfl rfl (hb hby own_d5_6)
    refine own_go st124 ?_
    show own_Ends prg e below s _ _ _ T124 (mkF m 9 #[.val (.ref a), .val (.ref g), .val (.double u), .second, .val (.int (3 : Int32))] [(.ref ca), (.int (3 : Int32))])
    have f125 := (f117.other W122 n2)
    refine own_alen (pc' := 10) X124 hx hZ e124 f125 (hb hby own_d5_9) rfl ?_
    refine own_icmpYes (pc' := 40) X124 hx (hb hby own_d5_10) (flt (by decide)).2.1 (by decide) (by decide) ?_
    refine own_retV X124 hx hlk hret (hb hby own_d5_40) (by decide) (by decide) ?_
    have f126 := (((K0.wr W106 (Or.inl (List.mem_of_getElem? (i := 0) rfl))).wr W114 (Or.inl (List.mem_of_getElem? (i := 0) rfl))).wr W122 (Or.inl (List.mem_of_getElem? (i := 0) rfl)))
    rw [e124]; exact ⟨rfl, N122, f126, V122⟩
  · replace V0 : Arv Z h0 ca ck .int (3 : Int32) [(.int (2 : Int32)), (.int (3 : Int32)), (.int (0 : Int32))] (.int (0 : Int32)) := V0
    refine own_iconst (pc' := 1) (z := (0 : Int32)) X0 hx (hb hby own_d5_0) rfl rfl ?_
    refine own_istore (pc' := 3) (l' := #[.val (.ref a), .val (.ref g), .val (.double u), .second, .val (.int (0 : Int32))]) X0 hx (hb hby own_d5_1) rfl rfl ?_
    refine own_iload (pc' := 5) X0 hx (hb hby own_d5_3) rfl rfl ?_
    refine own_aloadN (pc' := 6) X0 hx (hb hby own_d5_5) rfl rfl rfl ?_
    obtain ⟨T127, X127, e127, st127⟩ := getF X0 hx hZ hown (host := "") (Or.inl (own_w27 hw)) Via.refl e0 F0 (g := (mkF m 6 #[.val (.ref a), .val (.ref g), .val (.double u), .second, .val (.int (0 : Int32))] [(.ref a), (.int (0 : Int32))])) rfl rfl (hb hby own_d5_6)
    refine own_go st127 ?_
    show own_Ends prg e below s _ _ _ T127 (mkF m 9 #[.val (.ref a), .val (.ref g), .val (.double u), .second, .val (.int (0 : Int32))] [(.ref ca), (.int (0 : Int32))])
    refine own_alen (pc' := 10) X127 hx hZ e127 V0 (hb hby own_d5_9) rfl ?_
    refine own_icmpNo (pc' := 13) X127 hx (hb hby own_d5_10) rfl (tlt (by decide)).2.1 ?_
    refine own_aloadN (pc' := 14) X127 hx (hb hby own_d5_13) rfl rfl rfl ?_
    refine own_aloadN (pc' := 15) X127 hx (hb hby own_d5_14) rfl rfl rfl ?_
    obtain ⟨T128, X128, e128, st128⟩ := getF X127 hx hZ hown (host := "") (Or.inl (own_w27 hw)) Via.refl e127 F0 (g := (mkF m 15 #[.val (.ref a), .val (.ref g), .val (.double u), .second, .val (.int (0 : Int32))] [(.ref a), (.ref g)])) rfl rfl (hb hby own_d5_15)
    refine own_go st128 ?_
    show own_Ends prg e below s _ _ _ T128 (mkF m 18 #[.val (.ref a), .val (.ref g), .val (.double u), .second, .val (.int (0 : Int32))] [(.ref ca), (.ref g)])
    refine own_iload (pc' := 20) X128 hx (hb hby own_d5_18) rfl rfl ?_
    refine own_iaload (pc' := 21) (v := (.int (2 : Int32))) X128 hx hZ e128 V0 (hb hby own_d5_20) rfl (by decide) rfl ?_
    refine own_dup2 (pc' := 22) X128 hx (hb hby own_d5_21) rfl rfl rfl ?_
    refine own_daload (pc' := 23) (v := (.double i2)) X128 hx hZ e128 V2 (hb hby own_d5_22) rfl (by decide) rfl ?_
    refine own_dloadN (pc' := 24) X128 hx (hb hby own_d5_23) rfl rfl ?_
    refine own_aloadN (pc' := 25) X128 hx (hb hby own_d5_24) rfl rfl rfl ?_
    obtain ⟨T129, X129, e129, st129⟩ := getF X128 hx hZ hown (host := "") (Or.inl (own_w35 hw)) Via.refl e128 F1 (g := (mkF m 25 #[.val (.ref a), .val (.ref g), .val (.double u), .second, .val (.int (0 : Int32))] [(.ref a), (.double u), (.double i2), (.int (2 : Int32)), (.ref g)])) rfl rfl (hb hby own_d5_25)
    refine own_go st129 ?_
    show own_Ends prg e below s _ _ _ T129 (mkF m 28 #[.val (.ref a), .val (.ref g), .val (.double u), .second, .val (.int (0 : Int32))] [(.ref pa), (.double u), (.double i2), (.int (2 : Int32)), (.ref g)])
    refine own_iload (pc' := 30) X129 hx (hb hby own_d5_28) rfl rfl ?_
    refine own_daload (pc' := 31) (v := (.double q0)) X129 hx hZ e129 V1 (hb hby own_d5_30) rfl (by decide) rfl ?_
    refine own_dmul (pc' := 32) (z := (FP.dmul u q0)) X129 hx (hb hby own_d5_31) rfl (Jvm.Free.Fl.dmul_out hu hq0) rfl ?_
    refine own_dadd (pc' := 33) (z := (FP.dadd i2 (FP.dmul u q0))) X129 hx (hb hby own_d5_32) rfl (own_nan hi2 hu hq0) rfl ?_
    refine own_dastore (pc' := 34) X129 hx hZ e129 V2 (hb hby own_d5_33) rfl (by decide) 2 rfl (by simp) N0 ge0 ?_
    intro T130 h130 L130 X130 e130 N130 W130 V130
    replace V130 : Arv Z h130 g gk .double (4 : Int32) [(.double i0), (.double i1), (.double (FP.dadd i2 (FP.dmul u q0))), (.double i3)] (.double 0) := V130
    show own_Ends prg e below s _ _ _ T130 (mkF m 34 #[.val (.ref a), .val (.ref g), .val (.double u), .second, .val (.int (0 : Int32))] [])
    refine own_iinc (pc' := 37) (z := (1 : Int32)) (l' := #[.val (.ref a), .val (.ref g), .val (.double u), .second, .val (.int (1 : Int32))]) X130 hx (hb hby own_d5_34) rfl rfl (by decide) rfl ?_
    refine own_goto (pc' := 3) X130 hx (hb hby own_d5_37) (by decide) (by decide) ?_
    refine own_iload (pc' := 5) X130 hx (hb hby own_d5_3) rfl rfl ?_
    refine own_aloadN (pc' := 6) X130 hx (hb hby own_d5_5) rfl rfl rfl ?_
    have f131 := (F0.other W130 (Or.inl n1))
    obtain ⟨T132, X132, e132, st132⟩ := getF X130 hx hZ hown (host := "") (Or.inl (own_w27 hw)) Via.refl e130 f131 (g := (mkF m 6 #[.val (.ref a), .val (.ref g), .val (.double u), .second, .val (.int (1 : Int32))] [(.ref a), (.int (1 : Int32))])) rfl rfl (hb hby own_d5_6)
    refine own_go st132 ?_
    show own_Ends prg e below s _ _ _ T132 (mkF m 9 #[.val (.ref a), .val (.ref g), .val (.double u), .second, .val (.int (1 : Int32))] [(.ref ca), (.int (1 : Int32))])
    have f133 := (V0.other W130 n2)
    refine own_alen (pc' := 10) X132 hx hZ e132 f133 (hb hby own_d5_9) rfl ?_
    refine own_icmpNo (pc' := 13) X132 hx (hb hby own_d5_10) rfl (tlt (by decide)).2.1 ?_
    refine own_aloadN (pc' := 14) X132 hx (hb hby own_d5_13) rfl rfl rfl ?_
    refine own_aloadN (pc' := 15) X132 hx (hb hby own_d5_14) rfl rfl rfl ?_
    obtain ⟨T134, X134, e134, st134⟩ := getF X132 hx hZ hown (host := "") (Or.inl (own_w27 hw)) Via.refl e132 f131 (g := (mkF m 15 #[.val (.ref a), .val (.ref g), .val (.double u), .second, .val (.int (1 : Int32))] [(.ref a), (.ref g)])) rfl rfl (hb hby own_d5_15)
    refine own_go st134 ?_
    show own_Ends prg e below s _ _ _ T134 (mkF m 18 #[.val (.ref a), .val (.ref g), .val (.double u), .second, .val (.int (1 : Int32))] [(.ref ca), (.ref g)])
    refine own_iload (pc' := 20) X134 hx (hb hby own_d5_18) rfl rfl ?_
    refine own_iaload (pc' := 21) (v := (.int (3 : Int32))) X134 hx hZ e134 f133 (hb hby own_d5_20) rfl (by decide) rfl ?_
    refine own_dup2 (pc' := 22) X134 hx (hb hby own_d5_21) rfl rfl rfl ?_
    refine own_daload (pc' := 23) (v := (.double i3)) X134 hx hZ e134 V130 (hb hby own_d5_22) rfl (by decide) rfl ?_
    refine own_dloadN (pc' := 24) X134 hx (hb hby own_d5_23) rfl rfl ?_
    refine own_aloadN (pc' := 25) X134 hx (hb hby own_d5_24) rfl rfl rfl ?_
    have f135 := (F1.other W130 (Or.inl n1))
    obtain ⟨T136, X136, e136, st136⟩ := getF X134 hx hZ hown (host := "") (Or.inl (own_w35 hw)) Via.refl e134 f135 (g := (mkF m 25 #[.val (.ref a), .val (.ref g), .val (.double u), .second, .val (.int (1 : Int32))] [(.ref a), (.double u), (.double i3), (.int (3 : Int32)), (.ref g)])) rfl rfl (hb hby own_d5_25)
    refine own_go st136 ?_
    show own_Ends prg e below s _ _ _ T136 (mkF m 28 #[.val (.ref a), .val (.ref g), .val (.double u), .second, .val (.int (1 : Int32))] [(.ref pa), (.double u), (.double i3), (.int (3 : Int32)), (.ref g)])
    refine own_iload (pc' := 30) X136 hx (hb hby own_d5_28) rfl rfl ?_
    have f137 := (V1.other W130 n3)
    refine own_daload (pc' := 31) (v := (.double q1)) X136 hx hZ e136 f137 (hb hby own_d5_30) rfl (by decide) rfl ?_
    refine own_dmul (pc' := 32) (z := (FP.dmul u q1)) X136 hx (hb hby own_d5_31) rfl (Jvm.Free.Fl.dmul_out hu hq1) rfl ?_
    refine own_dadd (pc' := 33) (z := (FP.dadd i3 (FP.dmul u q1))) X136 hx (hb hby own_d5_32) rfl (own_nan hi3 hu hq1) rfl ?_
    refine own_dastore (pc' := 34) X136 hx hZ e136 V130 (hb hby own_d5_33) rfl (by decide) 3 rfl (by simp) N130 ge0 ?_
    intro T138 h138 L138 X138 e138 N138 W138 V138
    replace V138 : Arv Z h138 g gk .double (4 : Int32) [(.double i0), (.double i1), (.double (FP.dadd i2 (FP.dmul u q0))), (.double (FP.dadd i3 (FP.dmul u q1)))] (.double 0) := V138
    show own_Ends prg e below s _ _ _ T138 (mkF m 34 #[.val (.ref a), .val (.ref g), .val (.double u), .second, .val (.int (1 : Int32))] [])
    refine own_iinc (pc' := 37) (z := (2 : Int32)) (l' := #[.val (.ref a), .val (.ref g), .val (.double u), .second, .val (.int (2 : Int32))]) X138 hx (hb hby own_d5_34) rfl rfl (by decide) rfl ?_
    refine own_goto (pc' := 3) X138 hx (hb hby own_d5_37) (by decide) (by decide) ?_
    refine own_iload (pc' := 5) X138 hx (hb hby own_d5_3) rfl rfl ?_
    refine own_aloadN (pc' := 6) X138 hx (hb hby own_d5_5) rfl rfl rfl ?_
    have f139 := (f131.other W138 (Or.inl n1))
    obtain ⟨T140, X140, e140, st140⟩ := getF X138 hx hZ hown (host := "") (Or.inl (own_w27 hw)) Via.refl e138 f139 (g := (mkF m 6 #[.val (.ref a), .val (.ref g), .val (.double u), .second, .val (.int (2 : Int32))] [(.ref a), (.int (2 : Int32))])) rfl rfl (hb hby own_d5_6)
    refine own_go st140 ?_
    show own_Ends prg e below s _ _ _ T140 (mkF m 9 #[.val (.ref a), .val (.ref g), .val (.double u), .second, .val (.int (2 : Int32))] [(.ref ca), (.int (2 : Int32))])
    have f141 := (f133.other W138 n2)
    refine own_alen (pc' := 10) X140 hx hZ e140 f141 (hb hby own_d5_9) rfl ?_
    refine own_icmpNo (pc' := 13) X140 hx (hb hby own_d5_10) rfl (tlt (by decide)).2.1 ?_
    refine own_aloadN (pc' := 14) X140 hx (hb hby own_d5_13) rfl rfl rfl ?_
    refine own_aloadN (pc' := 15) X140 hx (hb hby own_d5_14) rfl rfl rfl ?_
    obtain ⟨T142, X142, e142, st142⟩ := getF X140 hx hZ hown (host := "") (Or.inl (own_w27 hw)) Via.refl e140 f139 (g := (mkF m 15 #[.val (.ref a), .val (.ref g), .val (.double u), .second, .val (.int (2 : Int32))] [(.ref a), (.ref g)])) rfl rfl (hb hby own_d5_15)
    refine own_go st142 ?_
    show own_Ends prg e below s _ _ _ T142 (mkF m 18 #[.val (.ref a), .val (.ref g), .val (.double u), .second, .val (.int (2 : Int32))] [(.ref ca), (.ref g)])
    refine own_iload (pc' := 20) X142 hx (hb hby own_d5_18) rfl rfl ?_
    refine own_iaload (pc' := 21) (v := (.int (0 : Int32))) X142 hx hZ e142 f141 (hb hby own_d5_20) rfl (by decide) rfl ?_
    refine own_dup2 (pc' := 22) X142 hx (hb hby own_d5_21) rfl rfl rfl ?_
    refine own_daload (pc' := 23) (v := (.double i0)) X142 hx hZ e142 V138 (hb hby own_d5_22) rfl (by decide) rfl ?_
    refine own_dloadN (pc' := 24) X142 hx (hb hby own_d5_23) rfl rfl ?_
    refine own_aloadN (pc' := 25) X142 hx (hb hby own_d5_24) rfl rfl rfl ?_
    have f143 := (f135.other W138 (Or.inl n1))
    obtain ⟨T144, X144, e144, st144⟩ := getF X142 hx hZ hown (host := "") (Or.inl (own_w35 hw)) Via.refl e142 f143 (g := (mkF m 25 #[.val (.ref a), .val (.ref g), .val (.double u), .second, .val (.int (2 : Int32))] [(.ref a), (.double u), (.double i0), (.int (0 : Int32)), (.ref g)])) rfl rfl (hb hby own_d5_25)
    refine own_go st144 ?_
    show own_Ends prg e below s _ _ _ T144 (mkF m 28 #[.val (.ref a), .val (.ref g), .val (.double u), .second, .val (.int (2 : Int32))] [(.ref pa), (.double u), (.double i0), (.int (0 : Int32)), (.ref g)])
    refine own_iload (pc' := 30) X144 hx (hb hby own_d5_28) rfl rfl ?_
    have f145 := (f137.other W138 n3)
    refine own_daload (pc' := 31) (v := (.double q2)) X144 hx hZ e144 f145 (hb hby own_d5_30) rfl (by decide) rfl ?_
    refine own_dmul (pc' := 32) (z := (FP.dmul u q2)) X144 hx (hb hby own_d5_31) rfl (Jvm.Free.Fl.dmul_out hu hq2) rfl ?_
    refine own_dadd (pc' := 33) (z := (FP.dadd i0 (FP.dmul u q2))) X144 hx (hb hby own_d5_32) rfl (own_nan hi0 hu hq2) rfl ?_
    refine own_dastore (pc' := 34) X144 hx hZ e144 V138 (hb hby own_d5_33) rfl (by decide) 0 rfl (by simp) N138 ge0 ?_
    intro T146 h146 L146 X146 e146 N146 W146 V146
    replace V146 : Arv Z h146 g gk .double (4 : Int32) [(.double (FP.dadd i0 (FP.dmul u q2))), (.double i1), (.double (FP.dadd i2 (FP.dmul u q0))), (.double (FP.dadd i3 (FP.dmul u q1)))] (.double 0) := V146
    show own_Ends prg e below s _ _ _ T146 (mkF m 34 #[.val (.ref a), .val (.ref g), .val (.double u), .second, .val (.int (2 : Int32))] [])
    refine own_iinc (pc' := 37) (z := (3 : Int32)) (l' := #[.val (.ref a), .val (.ref g), .val (.double u), .second, .val (.int (3 : Int32))]) X146 hx (hb hby own_d5_34) rfl rfl (by decide) rfl ?_
    refine own_goto (pc' := 3) X146 hx (hb hby own_d5_37) (by decide) (by decide) ?_
    refine own_iload (pc' := 5) X146 hx (hb hby own_d5_3) rfl rfl ?_
    refine own_aloadN (pc' := 6) X146 hx (hb hby own_d5_5) rfl rfl rfl ?_
    have f147 := (f139.other W146 (Or.inl n1))
    obtain ⟨T148, X148, e148, st148⟩ := getF X146 hx hZ hown (host := "") (Or.inl (own_w27 hw)) Via.refl e146 f147 (g := (mkF m 6 #[.val (.ref a), .val (.ref g), .val (.double u), .second, .val (.int (3 : Int32))] [(.ref a), (.int (3 : Int32))])) rfl rfl (hb hby own_d5_6)
    refine own_go st148 ?_
    show own_Ends prg e below s _ _ _ T148 (mkF m 9 #[.val (.ref a), .val (.ref g), .val (.double u), .second, .val (.int (3 : Int32))] [(.ref ca), (.int (3 : Int32))])
    have f149 := (f141.other W146 n2)
    refine own_alen (pc' := 10) X148 hx hZ e148 f149 (hb hby own_d5_9) rfl ?_
    refine own_icmpYes (pc' := 40) X148 hx (hb hby own_d5_10) (flt (by decide)).2.1 (by decide) (by decide) ?_
    refine own_retV X148 hx hlk hret (hb hby own_d5_40) (by decide) (by decide) ?_
    have f150 := (((K0.wr W130 (Or.inl (List.mem_of_getElem? (i := 0) rfl))).wr W138 (Or.inl (List.mem_of_getElem? (i := 0) rfl))).wr W146 (Or.inl (List.mem_of_getElem? (i := 0) rfl)))
    rw [e148]; exact ⟨rfl, N146, f150, V146⟩
  · replace V0 : Arv Z h0 ca ck .int (3 : Int32) [(.int (2 : Int32)), (.int (1 : Int32)), (.int (0 : Int32))] (.int (0 : Int32)) := V0
    refine own_iconst (pc' := 1) (z := (0 : Int32)) X0 hx (hb hby own_d5_0) rfl rfl ?_
    refine own_istore (pc' := 3) (l' := #[.val (.ref a), .val (.ref g), .val (.double u), .second, .val (.int (0 : Int32))]) X0 hx (hb hby own_d5_1) rfl rfl ?_
    refine own_iload (pc' := 5) X0 hx (hb hby own_d5_3) rfl rfl ?_
    refine own_aloadN (pc' := 6) X0 hx (hb hby own_d5_5) rfl rfl rfl ?_
    obtain ⟨T151, X151, e151, st151⟩ := getF X0 hx hZ hown (host := "") (Or.inl (own_w27 hw)) Via.refl e0 F0 (g := (mkF m 6 #[.val (.ref a), .val (.ref g), .val (.double u), .second, .val (.int (0 : Int32))] [(.ref a), (.int (0 : Int32))])) rfl rfl (hb hby own_d5_6)
    refine own_go st151 ?_
    show own_Ends prg e below s _ _ _ T151 (mkF m 9 #[.val (.ref a), .val (.ref g), .val (.double u), .second, .val (.int (0 : Int32))] [(.ref ca), (.int (0 : Int32))])
    refine own_alen (pc' := 10) X151 hx hZ e151 V0 (hb hby own_d5_9) rfl ?_
    refine own_icmpNo (pc' := 13) X151 hx (hb hby own_d5_10) rfl (tlt (by decide)).2.1 ?_
    refine own_aloadN (pc' := 14) X151 hx (hb hby own_d5_13) rfl rfl rfl ?_
    refine own_aloadN (pc' := 15) X151 hx (hb hby own_d5_14) rfl rfl rfl ?_
    obtain ⟨T152, X152, e152, st152⟩ := getF X151 hx hZ hown (host := "") (Or.inl (own_w27 hw)) Via.refl e151 F0 (g := (mkF m 15 #[.val (.ref a), .val (.ref g), .val (.double u), .second, .val (.int (0 : Int32))] [(.ref a), (.ref g)])) rfl rfl (hb hby own_d5_15)
    refine own_go st152 ?_
    show own_Ends prg e below s _ _ _ T152 (mkF m 18 #[.val (.ref a), .val (.ref g), .val (.double u), .second, .val (.int (0 : Int32))] [(.ref ca), (.ref g)])
    refine own_iload (pc' := 20) X152 hx (hb hby own_d5_18) rfl rfl ?_
    refine own_iaload (pc' := 21) (v := (.int (2 : Int32))) X152 hx hZ e152 V0 (hb hby own_d5_20) rfl (by decide) rfl ?_
    refine own_dup2 (pc' := 22) X152 hx (hb hby own_d5_21) rfl rfl rfl ?_
    refine own_daload (pc' := 23) (v := (.double i2)) X152 hx hZ e152 V2 (hb hby own_d5_22) rfl (by decide) rfl ?_
    refine own_dloadN (pc' := 24) X152 hx (hb hby own_d5_23) rfl rfl ?_
    refine own_aloadN (pc' := 25) X152 hx (hb hby own_d5_24) rfl rfl rfl ?_
    obtain ⟨T153, X153, e153, st153⟩ := getF X152 hx hZ hown (host := "") (Or.inl (own_w35 hw)) Via.refl e152 F1 (g := (mkF m 25 #[.val (.ref a), .val (.ref g), .val (.double u), .second, .val (.int (0 : Int32))] [(.ref a), (.double u), (.double i2), (.int (2 : Int32)), (.ref g)])) rfl rfl (hb hby own_d5_25)
    refine own_go st153 ?_
    show own_Ends prg e below s _ _ _ T153 (mkF m 28 #[.val (.ref a), .val (.ref g), .val (.double u), .second, .val (.int (0 : Int32))] [(.ref pa), (.double u), (.double i2), (.int (2 : Int32)), (.ref g)])
    refine own_iload (pc' := 30) X153 hx (hb hby own_d5_28) rfl rfl ?_
    refine own_daload (pc' := 31) (v := (.double q0)) X153 hx hZ e153 V1 (hb hby own_d5_30) rfl (by decide) rfl ?_
    refine own_dmul (pc' := 32) (z := (FP.dmul u q0)) X153 hx (hb hby own_d5_31) rfl (Jvm.Free.Fl.dmul_out hu hq0) rfl ?_
    refine own_dadd (pc' := 33) (z := (FP.dadd i2 (FP.dmul u q0))) X153 hx (hb hby own_d5_32) rfl (own_nan hi2 hu hq0) rfl ?_
    refine own_dastore (pc' := 34) X153 hx hZ e153 V2 (hb hby own_d5_33) rfl (by decide) 2 rfl (by simp) N0 ge0 ?_
    intro T154 h154 L154 X154 e154 N154 W154 V154
    replace V154 : Arv Z h154 g gk .double (4 : Int32) [(.double i0), (.double i1), (.double (FP.dadd i2 (FP.dmul u q0))), (.double i3)] (.double 0) := V154
    show own_Ends prg e below s _ _ _ T154 (mkF m 34 #[.val (.ref a), .val (.ref g), .val (.double u), .second, .val (.int (0 : Int32))] [])
    refine own_iinc (pc' := 37) (z := (1 : Int32)) (l' := #[.val (.ref a), .val (.ref g), .val (.double u), .second, .val (.int (1 : Int32))]) X154 hx (hb hby own_d5_34) rfl rfl (by decide) rfl ?_
    refine own_goto (pc' := 3) X154 hx (hb hby own_d5_37) (by decide) (by decide) ?_
    refine own_iload (pc' := 5) X154 hx (hb hby own_d5_3) rfl rfl ?_
    refine own_aloadN (pc' := 6) X154 hx (hb hby own_d5_5) rfl rfl rfl ?_
    have f155 := (F0.other W154 (Or.inl n1))
    obtain ⟨T156, X156, e156, st156⟩ := getF X154 hx hZ hown (host := "") (Or.inl (own_w27 hw)) Via.refl e154 f155 (g := (mkF m 6 #[.val (.ref a), .val (.ref g), .val (.double u), .second, .val (.int (1 : Int32))] [(.ref a), (.int (1 : Int32))])) rfl rfl (hb hby own_d5_6)
    refine own_go st156 ?_
    show own_Ends prg e below s _ _ _ T156 (mkF m 9 #[.val (.ref a), .val (.ref g), .val (.double u), .second, .val (.int (1 : Int32))] [(.ref ca), (.int (1 : Int32))])
    have f157 := (V0.other W154 n2)
    refine own_alen (pc' := 10) X156 hx hZ e156 f157 (hb hby own_d5_9) rfl ?_
    refine own_icmpNo (pc' := 13) X156 hx (hb hby own_d5_10) rfl (tlt (by decide)).2.1 ?_
    refine own_aloadN (pc' := 14) X156 hx (hb hby own_d5_13) rfl rfl rfl ?_
    refine own_aloadN (pc' := 15) X156 hx (hb hby own_d5_14) rfl rfl rfl ?_
    obtain ⟨T158, X158, e158, st158⟩ := getF X156 hx hZ hown (host := "") (Or.inl (own_w27 hw)) Via.refl e156 f155 (g := (mkF m 15 #[.val (.ref a), .val (.ref g), .val (.double u), .second, .val (.int (1 : Int32))] [(.ref a), (.ref g)])) rfl rfl (hb hby own_d5_15)
    refine own_go st158 ?_
    show own_Ends prg e below s _ _ _ T158 (mkF m 18 #[.val (.ref a), .val (.ref g), .val (.double u), .second, .val (.int (1 : Int32))] [(.ref ca), (.ref g)])
    refine own_iload (pc' := 20) X158 hx (hb hby own_d5_18) rfl rfl ?_
    refine own_iaload (pc' := 21) (v := (.int (1 : Int32))) X158 hx hZ e158 f157 (hb hby own_d5_20) rfl (by decide) rfl ?_
    refine own_dup2 (pc' := 22) X158 hx (hb hby own_d5_21) rfl rfl rfl ?_
    refine own_daload (pc' := 23) (v := (.double i1)) X158 hx hZ e158 V154 (hb hby own_d5_22) rfl (by decide) rfl ?_
    refine own_dloadN (pc' := 24) X158 hx (hb hby own_d5_23) rfl rfl ?_
    refine own_aloadN (pc' := 25) X158 hx (hb hby own_d5_24) rfl rfl rfl ?_
    have f159 := (F1.other W154 (Or.inl n1))
    obtain ⟨T160, X160, e160, st160⟩ := getF X158 hx hZ hown (host := "") (Or.inl (own_w35 hw)) Via.refl e158 f159 (g := (mkF m 25 #[.val (.ref a), .val (.ref g), .val (.double u), .second, .val (.int (1 : Int32))] [(.ref a), (.double u), (.double i1), (.int (1 : Int32)), (.ref g)])) rfl rfl (hb hby own_d5_25)
    refine own_go st160 ?_
    show own_Ends prg e below s _ _ _ T160 (mkF m 28 #[.val (.ref a), .val (.ref g), .val (.double u), .second, .val (.int (1 : Int32))] [(.ref pa), (.double u), (.double i1), (.int (1 : Int32)), (.ref g)])
    refine own_iload (pc' := 30) X160 hx (hb hby own_d5_28) rfl rfl ?_
    have f161 := (V1.other W154 n3)
    refine own_daload (pc' := 31) (v := (.double q1)) X160 hx hZ e160 f161 (hb hby own_d5_30) rfl (by decide) rfl ?_
    refine own_dmul (pc' := 32) (z := (FP.dmul u q1)) X160 hx (hb hby own_d5_31) rfl (Jvm.Free.Fl.dmul_out hu hq1) rfl ?_
    refine own_dadd (pc' := 33) (z := (FP.dadd i1 (FP.dmul u q1))) X160 hx (hb hby own_d5_32) rfl (own_nan hi1 hu hq1) rfl ?_
    refine own_dastore (pc' := 34) X160 hx hZ e160 V154 (hb hby own_d5_33) rfl (by decide) 1 rfl (by simp) N154 ge0 ?_
    intro T162 h162 L162 X162 e162 N162 W162 V162
    replace V162 : Arv Z h162 g gk .double (4 : Int32) [(.double i0), (.double (FP.dadd i1 (FP.dmul u q1))), (.double (FP.dadd i2 (FP.dmul u q0))), (.double i3)] (.double 0) := V162
    show own_Ends prg e below s _ _ _ T162 (mkF m 34 #[.val (.ref a), .val (.ref g), .val (.double u), .second, .val (.int (1 : Int32))] [])
    refine own_iinc (pc' := 37) (z := (2 : Int32)) (l' := #[.val (.ref a), .val (.ref g), .val (.double u), .second, .val (.int (2 : Int32))]) X162 hx (hb hby own_d5_34) rfl rfl (by decide) rfl ?_
    refine own_goto (pc' := 3) X162 hx (hb hby own_d5_37) (by decide) (by decide) ?_
    refine own_iload (pc' := 5) X162 hx (hb hby own_d5_3) rfl rfl ?_
    refine own_aloadN (pc' := 6) X162 hx (hb hby own_d5_5) rfl rfl rfl ?_
    have f163 := (f155.other W162 (Or.inl n1))
    obtain ⟨T164, X164, e164, st164⟩ := getF X162 hx hZ hown (host := "") (Or.inl (own_w27 hw)) Via.refl e162 f163 (g := (mkF m 6 #[.val (.ref a), .val (.ref g), .val (.double u), .second, .val (.int (2 : Int32))] [(.ref a), (.int (2 : Int32))])) rfl rfl (hb hby own_d5_6)
    refine own_go st164 ?_
    show own_Ends prg e below s _ _ _ T164 (mkF m 9 #[.val (.ref a), .val (.ref g), .val (.double u), .second, .val (.int (2 : Int32))] [(.ref ca), (.int (2 : Int32))])
    have f165 := (f157.other W162 n2)
    refine own_alen (pc' := 10) X164 hx hZ e164 f165 (hb hby own_d5_9) rfl ?_
    refine own_icmpNo (pc' := 13) X164 hx (hb hby own_d5_10) rfl (tlt (by decide)).2.1 ?_
    refine own_aloadN (pc' := 14) X164 hx (hb hby own_d5_13) rfl rfl rfl ?_
    refine own_aloadN (pc' := 15) X164 hx (hb hby own_d5_14) rfl rfl rfl ?_
    obtain ⟨T166, X166, e166, st166⟩ := getF X164 hx hZ hown (host := "") (Or.inl (own_w27 hw)) Via.refl e164 f163 (g := (mkF m 15 #[.val (.ref a), .val (.ref g), .val (.double u), .second, .val (.int (2 : Int32))] [(.ref a), (.ref g)])) rfl rfl (hb hby own_d5_15)
    refine own_go st166 ?_
    show own_Ends prg e below s _ _ _ T166 (mkF m 18 #[.val (.ref a), .val (.ref g), .val (.double u), .second, .val (.int (2 : Int32))] [(.ref ca), (.ref g)])
    refine own_iload (pc' := 20) X166 hx (hb hby own_d5_18) rfl rfl ?_
    refine own_iaload (pc' := 21) (v := (.int (0 : Int32))) X166 hx hZ e166 f165 (hb hby own_d5_20) rfl (by decide) rfl ?_
    refine own_dup2 (pc' := 22) X166 hx (hb hby own_d5_21) rfl rfl rfl ?_
    refine own_daload (pc' := 23) (v := (.double i0)) X166 hx hZ e166 V162 (hb hby own_d5_22) rfl (by decide) rfl ?_
    refine own_dloadN (pc' := 24) X166 hx (hb hby own_d5_23) rfl rfl ?_
    refine own_aloadN (pc' := 25) X166 hx (hb hby own_d5_24) rfl rfl rfl ?_
    have f167 := (f159.other W162 (Or.inl n1))
    obtain ⟨T168, X168, e168, st168⟩ := getF X166 hx hZ hown (host := "") (Or.inl (own_w35 hw)) Via.refl e166 f167 (g := (mkF m 25 #[.val (.ref a), .val (.ref g), .val (.double u), .second, .val (.int (2 : Int32))] [(.ref a), (.double u), (.double i0), (.int (0 : Int32)), (.ref g)])) rfl rfl (hb hby own_d5_25)
    refine own_go st168 ?_
    show own_Ends prg e below s _ _ _ T168 (mkF m 28 #[.val (.ref a), .val (.ref g), .val (.double u), .second, .val (.int (2 : Int32))] [(.ref pa), (.double u), (.double i0), (.int (0 : Int32)), (.ref g)])
    refine own_iload (pc' := 30) X168 hx (hb hby own_d5_28) rfl rfl ?_
    have f169 := (f161.other W162 n3)
    refine own_daload (pc' := 31) (v := (.double q2)) X168 hx hZ e168 f169 (hb hby own_d5_30) rfl (by decide) rfl ?_
    refine own_dmul (pc' := 32) (z := (FP.dmul u q2)) X168 hx (hb hby own_d5_31) rfl (Jvm.Free.Fl.dmul_out hu hq2) rfl ?_
    refine own_dadd (pc' := 33) (z := (FP.dadd i0 (FP.dmul u q2))) X168 hx (hb hby own_d5_32) rfl (own_nan hi0 hu hq2) rfl ?_
    refine own_dastore (pc' := 34) X168 hx hZ e168 V162 (hb hby own_d5_33) rfl (by decide) 0 rfl (by simp) N162 ge0 ?_
    intro T170 h170 L170 X170 e170 N170 W170 V170
    replace V170 : Arv Z h170 g gk .double (4 : Int32) [(.double (FP.dadd i0 (FP.dmul u q2))), (.double (FP.dadd i1 (FP.dmul u q1))), (.double (FP.dadd i2 (FP.dmul u q0))), (.double i3)] (.double 0) := V170
    show own_Ends prg e below s _ _ _ T170 (mkF m 34 #[.val (.ref a), .val (.ref g), .val (.double u), .second, .val (.int (2 : Int32))] [])
    refine own_iinc (pc' := 37) (z := (3 : Int32)) (l' := #[.val (.ref a), .val (.ref g), .val (.double u), .second, .val (.int (3 : Int32))]) X170 hx (hb hby own_d5_34) rfl rfl (by decide) rfl ?_
    refine own_goto (pc' := 3) X170 hx (hb hby own_d5_37) (by decide) (by decide) ?_
    refine own_iload (pc' := 5) X170 hx (hb hby own_d5_3) rfl rfl ?_
    refine own_aloadN (pc' := 6) X170 hx (hb hby own_d5_5) rfl rfl rfl ?_
    have f171 := (f163.other W170 (Or.inl n1))
    obtain ⟨T172, X172, e172, st172⟩ := getF X170 hx hZ hown (host := "") (Or.inl (own_w27 hw)) Via.refl e170 f171 (g := (mkF m 6 #[.val (.ref a), .val (.ref g), .val (.double u), .second, .val (.int (3 : Int32))] [(.ref a), (.int (3 : Int32))])) rfl rfl (hb hby own_d5_6)
    refine own_go st172 ?_
    show own_Ends prg e below s _ _ _ T172 (mkF m 9 #[.val (.ref a), .val (.ref g), .val (.double u), .second, .val (.int (3 : Int32))] [(.ref ca), (.int (3 : Int32))])
    have f173 := (f165.other W170 n2)
    refine own_alen (pc' := 10) X172 hx hZ e172 f173 (hb hby own_d5_9) rfl ?_
    refine own_icmpYes (pc' := 40) X172 hx (hb hby own_d5_10) (flt (by decide)).2.1 (by decide) (by decide) ?_
    refine own_retV X172 hx hlk hret (hb hby own_d5_40) (by decide) (by decide) ?_
    have f174 := (((K0.wr W154 (Or.inl (List.mem_of_getElem? (i := 0) rfl))).wr W162 (Or.inl (List.mem_of_getElem? (i := 0) rfl))).wr W170 (Or.inl (List.mem_of_getElem? (i := 0) rfl)))
    rw [e172]; exact ⟨rfl, N170, f174, V170⟩
  · replace V0 : Arv Z h0 ca ck .int (3 : Int32) [(.int (3 : Int32)), (.int (0 : Int32)), (.int (1 : Int32))] (.int (0 : Int32)) := V0
    refine own_iconst (pc' := 1) (z := (0 : Int32)) X0 hx (hb hby own_d5_0) rfl rfl ?_
    refine own_istore (pc' := 3) (l' := #[.val (.ref a), .val (.ref g), .val (.double u), .second, .val (.int (0 : Int32))]) X0 hx (hb hby own_d5_1) rfl rfl ?_
    refine own_iload (pc' := 5) X0 hx (hb hby own_d5_3) rfl rfl ?_
    refine own_aloadN (pc' := 6) X0 hx (hb hby own_d5_5) rfl rfl rfl ?_
    obtain ⟨T175, X175, e175, st175⟩ := getF X0 hx hZ hown (host := "") (Or.inl (own_w27 hw)) Via.refl e0 F0 (g := (mkF m 6 #[.val (.ref a), .val (.ref g), .val (.double u), .second, .val (.int (0 : Int32))] [(.ref a), (.int (0 : Int32))])) rfl rfl (hb hby own_d5_6)
    refine own_go st175 ?_
    show own_Ends prg e below s _ _ _ T175 (mkF m 9 #[.val (.ref a), .val (.ref g), .val (.double u), .second, .val (.int (0 : Int32))] [(.ref ca), (.int (0 : Int32))])
    refine own_alen (pc' := 10) X175 hx hZ e175 V0 (hb hby own_d5_9) rfl ?_
    refine own_icmpNo (pc' := 13) X175 hx (hb hby own_d5_10) rfl (tlt (by decide)).2.1 ?_
    refine own_aloadN (pc' := 14) X175 hx (hb hby own_d5_13) rfl rfl rfl ?_
    refine own_aloadN (pc' := 15) X175 hx (hb hby own_d5_14) rfl rfl rfl ?_
    obtain ⟨T176, X176, e176, st176⟩ := getF X175 hx hZ hown (host := "") (Or.inl (own_w27 hw)) Via.refl e175 F0 (g := (mkF m 15 #[.val (.ref a), .val (.ref g), .val (.double u), .second, .val (.int (0 : Int32))] [(.ref a), (.ref g)])) rfl rfl (hb hby own_d5_15)
    refine own_go st176 ?_
    show own_Ends prg e below s _ _ _ T176 (mkF m 18 #[.val (.ref a), .val (.ref g), .val (.double u), .second, .val (.int (0 : Int32))] [(.ref ca), (.ref g)])
    refine own_iload (pc' := 20) X176 hx (hb hby own_d5_18) rfl rfl ?_
    refine own_iaload (pc' := 21) (v := (.int (3 : Int32))) X176 hx hZ e176 V0 (hb hby own_d5_20) rfl (by decide) rfl ?_
    refine own_dup2 (pc' := 22) X176 hx (hb hby own_d5_21) rfl rfl rfl ?_
    refine own_daload (pc' := 23) (v := (.double i3)) X176 hx hZ e176 V2 (hb hby own_d5_22) rfl (by decide) rfl ?_
    refine own_dloadN (pc' := 24) X176 hx (hb hby own_d5_23) rfl rfl ?_
    refine own_aloadN (pc' := 25) X176 hx (hb hby own_d5_24) rfl rfl rfl ?_
    obtain ⟨T177, X177, e177, st177⟩ := getF X176 hx hZ hown (host := "") (Or.inl (own_w35 hw)) Via.refl e176 F1 (g := (mkF m 25 #[.val (.ref a), .val (.ref g), .val (.double u), .second, .val (.int (0 : Int32))] [(.ref a), (.double u), (.double i3), (.int (3 : Int32)), (.ref g)])) rfl rfl (hb hby own_d5_25)
    refine own_go st177 ?_
    show own_Ends prg e below s _ _ _ T177 (mkF m 28 #[.val (.ref a), .val (.ref g), .val (.double u), .second, .val (.int (0 : Int32))] [(.ref pa), (.double u), (.double i3), (.int (3 : Int32)), (.ref g)])
    refine own_iload (pc' := 30) X177 hx (hb hby own_d5_28) rfl rfl ?_
    refine own_daload (pc' := 31) (v := (.double q0)) X177 hx hZ e177 V1 (hb hby own_d5_30) rfl (by decide) rfl ?_
    refine own_dmul (pc' := 32) (z := (FP.dmul u q0)) X177 hx (hb hby own_d5_31) rfl (Jvm.Free.Fl.dmul_out hu hq0) rfl ?_
    refine own_dadd (pc' := 33) (z := (FP.dadd i3 (FP.dmul u q0))) X177 hx (hb hby own_d5_32) rfl (own_nan hi3 hu hq0) rfl ?_
    refine own_dastore (pc' := 34) X177 hx hZ e177 V2 (hb hby own_d5_33) rfl (by decide) 3 rfl (by simp) N0 ge0 ?_
    intro T178 h178 L178 X178 e178 N178 W178 V178
    replace V178 : Arv Z h178 g gk .double (4 : Int32) [(.double i0), (.double i1), (.double i2), (.double (FP.dadd i3 (FP.dmul u q0)))] (.double 0) := V178
    show own_Ends prg e below s _ _ _ T178 (mkF m 34 #[.val (.ref a), .val (.ref g), .val (.double u), .second, .val (.int (0 : Int32))] [])
    refine own_iinc (pc' := 37) (z := (1 : Int32)) (l' := #[.val (.ref a), .val (.ref g), .val (.double u), .second, .val (.int (1 : Int32))]) X178 hx (hb hby own_d5_34) rfl rfl (by decide) rfl ?_
    refine own_goto (pc' := 3) X178 hx (hb hby own_d5_37) (by decide) (by decide) ?_
    refine own_iload (pc' := 5) X178 hx (hb hby own_d5_3) rfl rfl ?_
    refine own_aloadN (pc' := 6) X178 hx (hb hby own_d5_5) rfl rfl rfl ?_
    have f179 := (F0.other W178 (Or.inl n1))
    obtain ⟨T180, X180, e180, st180⟩ := getF X178 hx hZ hown (host := "") (Or.inl (own_w27 hw)) Via.refl e178 f179 (g := (mkF m 6 #[.val (.ref a), .val (.ref g), .val (.double u), .second, .val (.int (1 : Int32))] [(.ref a), (.int (1 : Int32))])) rfl rfl (hb hby own_d5_6)
    refine own_go st180 ?_
    show own_Ends prg e below s _ _ _ T180 (mkF m 9 #[.val (.ref a), .val (.ref g), .val (.double u), .second, .val (.int (1 : Int32))] [(.ref ca), (.int (1 : Int32))])
    have f181 := (V0.other W178 n2)
    refine own_alen (pc' := 10) X180 hx hZ e180 f181 (hb hby own_d5_9) rfl ?_
    refine own_icmpNo (pc' := 13) X180 hx (hb hby own_d5_10) rfl (tlt (by decide)).2.1 ?_
    refine own_aloadN (pc' := 14) X180 hx (hb hby own_d5_13) rfl rfl rfl ?_
    refine own_aloadN (pc' := 15) X180 hx (hb hby own_d5_14) rfl rfl rfl ?_
    obtain ⟨T182, X182, e182, st182⟩ := getF X180 hx hZ hown (host := "") (Or.inl (own_w27 hw)) Via.refl e180 f179 (g := (mkF m 15 #[.val (.ref a), .val (.ref g), .val (.double u), .second, .val (.int (1 : Int32))] [(.ref a), (.ref g)])) rfl rfl (hb hby own_d5_15)
    refine own_go st182 ?_
    show own_Ends prg e below s _ _ _ T182 (mkF m 18 #[.val (.ref a), .val (.ref g), .val (.double u), .second, .val (.int (1 : Int32))] [(.ref ca), (.ref g)])
    refine own_iload (pc' := 20) X182 hx (hb hby own_d5_18) rfl rfl ?_
    refine own_iaload (pc' := 21) (v := (.int (0 : Int32))) X182 hx hZ e182 f181 (hb hby own_d5_20) rfl (by decide) rfl ?_
    refine own_dup2 (pc' := 22) X182 hx (hb hby own_d5_21) rfl rfl rfl ?_
    refine own_daload (pc' := 23) (v := (.double i0)) X182 hx hZ e182 V178 (hb hby own_d5_22) rfl (by decide) rfl ?_
    refine own_dloadN (pc' := 24) X182 hx (hb hby own_d5_23) rfl rfl ?_
    refine own_aloadN (pc' := 25) X182 hx (hb hby own_d5_24) rfl rfl rfl ?_
    have f183 := (F1.other W178 (Or.inl n1))
    obtain ⟨T184, X184, e184, st184⟩ := getF X182 hx hZ hown (host := "") (Or.inl (own_w35 hw)) Via.refl e182 f183 (g := (mkF m 25 #[.val (.ref a), .val (.ref g), .val (.double u), .second, .val (.int (1 : Int32))] [(.ref a), (.double u), (.double i0), (.int (0 : Int32)), (.ref g)])) rfl rfl (hb hby own_d5_25)
    refine own_go st184 ?_
    show own_Ends prg e below s _ _ _ T184 (mkF m 28 #[.val (.ref a), .val (.ref g), .val (.double u), .second, .val (.int (1 : Int32))] [(.ref pa), (.double u), (.double i0), (.int (0 : Int32)), (.ref g)])
    refine own_iload (pc' := 30) X184 hx (hb hby own_d5_28) rfl rfl ?_
    have f185 := (V1.other W178 n3)
    refine own_daload (pc' := 31) (v := (.double q1)) X184 hx hZ e184 f185 (hb hby own_d5_30) rfl (by decide) rfl ?_
    refine own_dmul (pc' := 32) (z := (FP.dmul u q1)) X184 hx (hb hby own_d5_31) rfl (Jvm.Free.Fl.dmul_out hu hq1) rfl ?_
    refine own_dadd (pc' := 33) (z := (FP.dadd i0 (FP.dmul u q1))) X184 hx (hb hby own_d5_32) rfl (own_nan hi0 hu hq1) rfl ?_
    refine own_dastore (pc' := 34) X184 hx hZ e184 V178 (hb hby own_d5_33) rfl (by decide) 0 rfl (by simp) N178 ge0 ?_
    intro T186 h186 L186 X186 e186 N186 W186 V186
    replace V186 : Arv Z h186 g gk .double (4 : Int32) [(.double (FP.dadd i0 (FP.dmul u q1))), (.double i1), (.double i2), (.double (FP.dadd i3 (FP.dmul u q0)))] (.double 0) := V186
    show own_Ends prg e below s _ _ _ T186 (mkF m 34 #[.val (.ref a), .val (.ref g), .val (.double u), .second, .val (.int (1 : Int32))] [])
    refine own_iinc (pc' := 37) (z := (2 : Int32)) (l' := #[.val (.ref a), .val (.ref g), .val (.double u), .second, .val (.int (2 : Int32))]) X186 hx (hb hby own_d5_34) rfl rfl (by decide) rfl ?_
    refine own_goto (pc' := 3) X186 hx (hb hby own_d5_37) (by decide) (by decide) ?_
    refine own_iload (pc' := 5) X186 hx (hb hby own_d5_3) rfl rfl ?_
    refine own_aloadN (pc' := 6) X186 hx (hb hby own_d5_5) rfl rfl rfl ?_
    have f187 := (f179.other W186 (Or.inl n1))
    obtain ⟨T188, X188, e188, st188⟩ := getF X186 hx hZ hown (host := "") (Or.inl (own_w27 hw)) Via.refl e186 f187 (g := (mkF m 6 #[.val (.ref a), .val (.ref g), .val (.double u), .second, .val (.int (2 : Int32))] [(.ref a), (.int (2 : Int32))])) rfl rfl (hb hby own_d5_6)
    refine own_go st188 ?_
    show own_Ends prg e below s _ _ _ T188 (mkF m 9 #[.val (.ref a), .val (.ref g), .val (.double u), .second, .val (.int (2 : Int32))] [(.ref ca), (.int (2 : Int32))])
    have f189 := (f181.other W186 n2)
    refine own_alen (pc' := 10) X188 hx hZ e188 f189 (hb hby own_d5_9) rfl ?_
    refine own_icmpNo (pc' := 13) X188 hx (hb hby own_d5_10) rfl (tlt (by decide)).2.1 ?_
    refine own_aloadN (pc' := 14) X188 hx (hb hby own_d5_13) rfl rfl rfl ?_
    refine own_aloadN (pc' := 15) X188 hx (hb hby own_d5_14) rfl rfl rfl ?_
    obtain ⟨T190, X190, e190, st190⟩ := getF X188 hx hZ hown (host := "") (Or.inl (own_w27 hw)) Via.refl e188 f187 (g := (mkF m 15 #[.val (.ref a), .val (.ref g), .val (.double u), .second, .val (.int (2 : Int32))] [(.ref a), (.ref g)])) rfl rfl (hb hby own_d5_15)
    refine own_go st190 ?_
    show own_Ends prg e below s _ _ _ T190 (mkF m 18 #[.val (.ref a), .val (.ref g), .val (.double u), .second, .val (.int (2 : Int32))] [(.ref ca), (.ref g)])
    refine own_iload (pc' := 20) X190 hx (hb hby own_d5_18) rfl rfl ?_
    refine own_iaload (pc' := 21) (v := (.int (1 : Int32))) X190 hx hZ e190 f189 (hb hby own_d5_20) rfl (by decide) rfl ?_
    refine own_dup2 (pc' := 22) X190 hx (hb hby own_d5_21) rfl rfl rfl ?_
    refine own_daload (pc' := 23) (v := (.double i1)) X190 hx hZ e190 V186 (hb hby own_d5_22) rfl (by decide) rfl ?_
    refine own_dloadN (pc' := 24) X190 hx (hb hby own_d5_23) rfl rfl ?_
    refine own_aloadN (pc' := 25) X190 hx (hb hby own_d5_24) rfl rfl rfl ?_
    have f191 := (f183.other W186 (Or.inl n1))
    obtain ⟨T192, X192, e192, st192⟩ := getF X190 hx hZ hown (host := "") (Or.inl (own_w35 hw)) Via.refl e190 f191 (g := (mkF m 25 #[.val (.ref a), .val (.ref g), .val (.double u), .second, .val (.int (2 : Int32))] [(.ref a), (.double u), (.double i1), (.int (1 : Int32)), (.ref g)])) rfl rfl (hb hby own_d5_25)
    refine own_go st192 ?_
    show own_Ends prg e below s _ _ _ T192 (mkF m 28 #[.val (.ref a), .val (.ref g), .val (.double u), .second, .val (.int (2 : Int32))] [(.ref pa), (.double u), (.double i1), (.int (1 : Int32)), (.ref g)])
    refine own_iload (pc' := 30) X192 hx (hb hby own_d5_28) rfl rfl ?_
    have f193 := (f185.other W186 n3)
    refine own_daload (pc' := 31) (v := (.double q2)) X192 hx hZ e192 f193 (hb hby own_d5_30) rfl (by decide) rfl ?_
    refine own_dmul (pc' := 32) (z := (FP.dmul u q2)) X192 hx (hb hby own_d5_31) rfl (Jvm.Free.Fl.dmul_out hu hq2) rfl ?_
    refine own_dadd (pc' := 33) (z := (FP.dadd i1 (FP.dmul u q2))) X192 hx (hb hby own_d5_32) rfl (own_nan hi1 hu hq2) rfl ?_
    refine own_dastore (pc' := 34) X192 hx hZ e192 V186 (hb hby own_d5_33) rfl (by decide) 1 rfl (by simp) N186 ge0 ?_
    intro T194 h194 L194 X194 e194 N194 W194 V194
    replace V194 : Arv Z h194 g gk .double (4 : Int32) [(.double (FP.dadd i0 (FP.dmul u q1))), (.double (FP.dadd i1 (FP.dmul u q2))), (.double i2), (.double (FP.dadd i3 (FP.dmul u q0)))] (.double 0) := V194
    show own_Ends prg e below s _ _ _ T194 (mkF m 34 #[.val (.ref a), .val (.ref g), .val (.double u), .second, .val (.int (2 : Int32))] [])
    refine own_iinc (pc' := 37) (z := (3 : Int32)) (l' := #[.val (.ref a), .val (.ref g), .val (.double u), .second, .val (.int (3 : Int32))]) X194 hx (hb hby own_d5_34) rfl rfl (by decide) rfl ?_
    refine own_goto (pc' := 3) X194 hx (hb hby own_d5_37) (by decide) (by decide) ?_
    refine own_iload (pc' := 5) X194 hx (hb hby own_d5_3) rfl rfl ?_
    refine own_aloadN (pc' := 6) X194 hx (hb hby own_d5_5) rfl rfl rfl ?_
    have f195 := (f187.other W194 (Or.inl n1))
    obtain ⟨T196, X196, e196, st196⟩ := getF X194 hx hZ hown (host := "") (Or.inl (own_w27 hw)) Via.refl e194 f195 (g := (mkF m 6 #[.val (.ref a), .val (.ref g), .val (.double u), .second, .val (.int (3 : Int32))] [(.ref a), (.int (3 : Int32))])) rfl rfl (hb hby own_d5_6)
    refine own_go st196 ?_
    show own_Ends prg e below s _ _ _ T196 (mkF m 9 #[.val (.ref a), .val (.ref g), .val (.double u), .second, .val (.int (3 : Int32))] [(.ref ca), (.int (3 : Int32))])
    have f197 := (f189.other W194 n2)
    refine own_alen (pc' := 10) X196 hx hZ e196 f197 (hb hby own_d5_9) rfl ?_
    refine own_icmpYes (pc' := 40) X196 hx (hb hby own_d5_10) (flt (by decide)).2.1 (by decide) (by decide) ?_
    refine own_retV X196 hx hlk hret (hb hby own_d5_40) (by decide) (by decide) ?_
    have f198 := (((K0.wr W178 (Or.inl (List.mem_of_getElem? (i := 0) rfl))).wr W186 (Or.inl (List.mem_of_getElem? (i := 0) rfl))).wr W194 (Or.inl (List.mem_of_getElem? (i := 0) rfl)))
    rw [e196]; exact ⟨rfl, N194, f198, V194⟩
  · replace V0 : Arv Z h0 ca ck .int (3 : Int32) [(.int (3 : Int32)), (.int (2 : Int32)), (.int (1 : Int32))] (.int (0 : Int32)) := V0
    refine own_iconst (pc' := 1) (z := (0 : Int32)) X0 hx (hb hby own_d5_0) rfl rfl ?_
    refine own_istore (pc' := 3) (l' := #[.val (.ref a), .val (.ref g), .val (.double u), .second, .val (.int (0 : Int32))]) X0 hx (hb hby own_d5_1) rfl rfl ?_
    refine own_iload (pc' := 5) X0 hx (hb hby own_d5_3) rfl rfl ?_
    refine own_aloadN (pc' := 6) X0 hx (hb hby own_d5_5) rfl rfl rfl ?_
    obtain ⟨T199, X199, e199, st199⟩ := getF X0 hx hZ hown (host := "") (Or.inl (own_w27 hw)) Via.refl e0 F0 (g := (mkF m 6 #[.val (.ref a), .val (.ref g), .val (.double u), .second, .val (.int (0 : Int32))] [(.ref a), (.int (0 : Int32))])) rfl rfl (hb hby own_d5_6)
    refine own_go st199 ?_
    show own_Ends prg e below s _ _ _ T199 (mkF m 9 #[.val (.ref a), .val (.ref g), .val (.double u), .second, .val (.int (0 : Int32))] [(.ref ca), (.int (0 : Int32))])
    refine own_alen (pc' := 10) X199 hx hZ e199 V0 (hb hby own_d5_9) rfl ?_
    refine own_icmpNo (pc' := 13) X199 hx (hb hby own_d5_10) rfl (tlt (by decide)).2.1 ?_
    refine own_aloadN (pc' := 14) X199 hx (hb hby own_d5_13) rfl rfl rfl ?_
    refine own_aloadN (pc' := 15) X199 hx (hb hby own_d5_14) rfl rfl rfl ?_
    obtain ⟨T200, X200, e200, st200⟩ := getF X199 hx hZ hown (host := "") (Or.inl (own_w27 hw)) Via.refl e199 F0 (g := (mkF m 15 #[.val (.ref a), .val (.ref g), .val (.double u), .second, .val (.int (0 : Int32))] [(.ref a), (.ref g)])) rfl rfl (hb hby own_d5_15)
    refine own_go st200 ?_
    show own_Ends prg e below s _ _ _ T200 (mkF m 18 #[.val (.ref a), .val (.ref g), .val (.double u), .second, .val (.int (0 : Int32))] [(.ref ca), (.ref g)])
    refine own_iload (pc' := 20) X200 hx (hb hby own_d5_18) rfl rfl ?_
    refine own_iaload (pc' := 21) (v := (.int (3 : Int32))) X200 hx hZ e200 V0 (hb hby own_d5_20) rfl (by decide) rfl ?_
    refine own_dup2 (pc' := 22) X200 hx (hb hby own_d5_21) rfl rfl rfl ?_
    refine own_daload (pc' := 23) (v := (.double i3)) X200 hx hZ e200 V2 (hb hby own_d5_22) rfl (by decide) rfl ?_
    refine own_dloadN (pc' := 24) X200 hx (hb hby own_d5_23) rfl rfl ?_
    refine own_aloadN (pc' := 25) X200 hx (hb hby own_d5_24) rfl rfl rfl ?_
    obtain ⟨T201, X201, e201, st201⟩ := getF X200 hx hZ hown (host := "") (Or.inl (own_w35 hw)) Via.refl e200 F1 (g := (mkF m 25 #[.val (.ref a), .val (.ref g), .val (.double u), .second, .val (.int (0 : Int32))] [(.ref a), (.double u), (.double i3), (.int (3 : Int32)), (.ref g)])) rfl rfl (hb hby own_d5_25)
    refine own_go st201 ?_
    show own_Ends prg e below s _ _ _ T201 (mkF m 28 #[.val (.ref a), .val (.ref g), .val (.double u), .second, .val (.int (0 : Int32))] [(.ref pa), (.double u), (.double i3), (.int (3 : Int32)), (.ref g)])
    refine own_iload (pc' := 30) X201 hx (hb hby own_d5_28) rfl rfl ?_
    refine own_daload (pc' := 31) (v := (.double q0)) X201 hx hZ e201 V1 (hb hby own_d5_30) rfl (by decide) rfl ?_
    refine own_dmul (pc' := 32) (z := (FP.dmul u q0)) X201 hx (hb hby own_d5_31) rfl (Jvm.Free.Fl.dmul_out hu hq0) rfl ?_
    refine own_dadd (pc' := 33) (z := (FP.dadd i3 (FP.dmul u q0))) X201 hx (hb hby own_d5_32) rfl (own_nan hi3 hu hq0) rfl ?_
    refine own_dastore (pc' := 34) X201 hx hZ e201 V2 (hb hby own_d5_33) rfl (by decide) 3 rfl (by simp) N0 ge0 ?_
    intro T202 h202 L202 X202 e202 N202 W202 V202
    replace V202 : Arv Z h202 g gk .double (4 : Int32) [(.double i0), (.double i1), (.double i2), (.double (FP.dadd i3 (FP.dmul u q0)))] (.double 0) := V202
    show own_Ends prg e below s _ _ _ T202 (mkF m 34 #[.val (.ref a), .val (.ref g), .val (.double u), .second, .val (.int (0 : Int32))] [])
    refine own_iinc (pc' := 37) (z := (1 : Int32)) (l' := #[.val (.ref a), .val (.ref g), .val (.double u), .second, .val (.int (1 : Int32))]) X202 hx (hb hby own_d5_34) rfl rfl (by decide) rfl ?_
    refine own_goto (pc' := 3) X202 hx (hb hby own_d5_37) (by decide) (by decide) ?_
    refine own_iload (pc' := 5) X202 hx (hb hby own_d5_3) rfl rfl ?_
    refine own_aloadN (pc' := 6) X202 hx (hb hby own_d5_5) rfl rfl rfl ?_
    have f203 := (F0.other W202 (Or.inl n1))
    obtain ⟨T204, X204, e204, st204⟩ := getF X202 hx hZ hown (host := "") (Or.inl (own_w27 hw)) Via.refl e202 f203 (g := (mkF m 6 #[.val (.ref a), .val (.ref g), .val (.double u), .second, .val (.int (1 : Int32))] [(.ref a), (.int (1 : Int32))])) rfl rfl (hb hby own_d5_6)
    refine own_go st204 ?_
    show own_Ends prg e below s _ _ _ T204 (mkF m 9 #[.val (.ref a), .val (.ref g), .val (.double u), .second, .val (.int (1 : Int32))] [(.ref ca), (.int (1 : Int32))])
    have f205 := (V0.other W202 n2)
    refine own_alen (pc' := 10) X204 hx hZ e204 f205 (hb hby own_d5_9) rfl ?_
    refine own_icmpNo (pc' := 13) X204 hx (hb hby own_d5_10) rfl (tlt (by decide)).2.1 ?_
    refine own_aloadN (pc' := 14) X204 hx (hb hby own_d5_13) rfl rfl rfl ?_
    refine own_aloadN (pc' := 15) X204 hx (hb hby own_d5_14) rfl rfl rfl ?_
    obtain ⟨T206, X206, e206, st206⟩ := getF X204 hx hZ hown (host := "") (Or.inl (own_w27 hw)) Via.refl e204 f203 (g := (mkF m 15 #[.val (.ref a), .val (.ref g), .val (.double u), .second, .val (.int (1 : Int32))] [(.ref a), (.ref g)])) rfl rfl (hb hby own_d5_15)
    refine own_go st206 ?_
    show own_Ends prg e below s _ _ _ T206 (mkF m 18 #[.val (.ref a), .val (.ref g), .val (.double u), .second, .val (.int (1 : Int32))] [(.ref ca), (.ref g)])
    refine own_iload (pc' := 20) X206 hx (hb hby own_d5_18) rfl rfl ?_
    refine own_iaload (pc' := 21) (v := (.int (2 : Int32))) X206 hx hZ e206 f205 (hb hby own_d5_20) rfl (by decide) rfl ?_
    refine own_dup2 (pc' := 22) X206 hx (hb hby own_d5_21) rfl rfl rfl ?_
    refine own_daload (pc' := 23) (v := (.double i2)) X206 hx hZ e206 V202 (hb hby own_d5_22) rfl (by decide) rfl ?_
    refine own_dloadN (pc' := 24) X206 hx (hb hby own_d5_23) rfl rfl ?_
    refine own_aloadN (pc' := 25) X206 hx (hb hby own_d5_24) rfl rfl rfl ?_
    have f207 := (F1.other W202 (Or.inl n1))
    obtain ⟨T208, X208, e208, st208⟩ := getF X206 hx hZ hown (host := "") (Or.inl (own_w35 hw)) Via.refl e206 f207 (g := (mkF m 25 #[.val (.ref a), .val (.ref g), .val (.double u), .second, .val (.int (1 : Int32))] [(.ref a), (.double u), (.double i2), (.int (2 : Int32)), (.ref g)])) rfl rfl (hb hby own_d5_25)
    refine own_go st208 ?_
    show own_Ends prg e below s _ _ _ T208 (mkF m 28 #[.val (.ref a), .val (.ref g), .val (.double u), .second, .val (.int (1 : Int32))] [(.ref pa), (.double u), (.double i2), (.int (2 : Int32)), (.ref g)])
    refine own_iload (pc' := 30) X208 hx (hb hby own_d5_28) rfl rfl ?_
    have f209 := (V1.other W202 n3)
    refine own_daload (pc' := 31) (v := (.double q1)) X208 hx hZ e208 f209 (hb hby own_d5_30) rfl (by decide) rfl ?_
    refine own_dmul (pc' := 32) (z := (FP.dmul u q1)) X208 hx (hb hby own_d5_31) rfl (Jvm.Free.Fl.dmul_out hu hq1) rfl ?_
    refine own_dadd (pc' := 33) (z := (FP.dadd i2 (FP.dmul u q1))) X208 hx (hb hby own_d5_32) rfl (own_nan hi2 hu hq1) rfl ?_
    refine own_dastore (pc' := 34) X208 hx hZ e208 V202 (hb hby own_d5_33) rfl (by decide) 2 rfl (by simp) N202 ge0 ?_
    intro T210 h210 L210 X210 e210 N210 W210 V210
    replace V210 : Arv Z h210 g gk .double (4 : Int32) [(.double i0), (.double i1), (.double (FP.dadd i2 (FP.dmul u q1))), (.double (FP.dadd i3 (FP.dmul u q0)))] (.double 0) := V210
    show own_Ends prg e below s _ _ _ T210 (mkF m 34 #[.val (.ref a), .val (.ref g), .val (.double u), .second, .val (.int (1 : Int32))] [])
    refine own_iinc (pc' := 37) (z := (2 : Int32)) (l' := #[.val (.ref a), .val (.ref g), .val (.double u), .second, .val (.int (2 : Int32))]) X210 hx (hb hby own_d5_34) rfl rfl (by decide) rfl ?_
    refine own_goto (pc' := 3) X210 hx (hb hby own_d5_37) (by decide) (by decide) ?_
    refine own_iload (pc' := 5) X210 hx (hb hby own_d5_3) rfl rfl ?_
    refine own_aloadN (pc' := 6) X210 hx (hb hby own_d5_5) rfl rfl rfl ?_
    have f211 := (f203.other W210 (Or.inl n1))
    obtain ⟨T212, X212, e212, st212⟩ := getF X210 hx hZ hown (host := "") (Or.inl (own_w27 hw)) Via.refl e210 f211 (g := (mkF m 6 #[.val (.ref a), .val (.ref g), .val (.double u), .second, .val (.int (2 : Int32))] [(.ref a), (.int (2 : Int32))])) rfl rfl (hb hby own_d5_6)
    refine own_go st212 ?_
    show own_Ends prg e below s _ _ _ T212 (mkF m 9 #[.val (.ref a), .val (.ref g), .val (.double u), .second, .val (.int (2 : Int32))] [(.ref ca), (.int (2 : Int32))])
    have f213 := (f205.other W210 n2)
    refine own_alen (pc' := 10) X212 hx hZ e212 f213 (hb hby own_d5_9) rfl ?_
    refine own_icmpNo (pc' := 13) X212 hx (hb hby own_d5_10) rfl (tlt (by decide)).2.1 ?_
    refine own_aloadN (pc' := 14) X212 hx (hb hby own_d5_13) rfl rfl rfl ?_
    refine own_aloadN (pc' := 15) X212 hx (hb hby own_d5_14) rfl rfl rfl ?_
    obtain ⟨T214, X214, e214, st214⟩ := getF X212 hx hZ hown (host := "") (Or.inl (own_w27 hw)) Via.refl e212 f211 (g := (mkF m 15 #[.val (.ref a), .val (.ref g), .val (.double u), .second, .val (.int (2 : Int32))] [(.ref a), (.ref g)])) rfl rfl (hb hby own_d5_15)
    refine own_go st214 ?_
    show own_Ends prg e below s _ _ _ T214 (mkF m 18 #[.val (.ref a), .val (.ref g), .val (.double u), .second, .val (.int (2 : Int32))] [(.ref ca), (.ref g)])
    refine own_iload (pc' := 20) X214 hx (hb hby own_d5_18) rfl rfl ?_
    refine own_iaload (pc' := 21) (v := (.int (1 : Int32))) X214 hx hZ e214 f213 (hb hby own_d5_20) rfl (by decide) rfl ?_
    refine own_dup2 (pc' := 22) X214 hx (hb hby own_d5_21) rfl rfl rfl ?_
    refine own_daload (pc' := 23) (v := (.double i1)) X214 hx hZ e214 V210 (hb hby own_d5_22) rfl (by decide) rfl ?_
    refine own_dloadN (pc' := 24) X214 hx (hb hby own_d5_23) rfl rfl ?_
    refine own_aloadN (pc' := 25) X214 hx (hb hby own_d5_24) rfl rfl rfl ?_
    have f215 := (f207.other W210 (Or.inl n1))
    obtain ⟨T216, X216, e216, st216⟩ := getF X214 hx hZ hown (host := "") (Or.inl (own_w35 hw)) Via.refl e214 f215 (g := (mkF m 25 #[.val (.ref a), .val (.ref g), .val (.double u), .second, .val (.int (2 : Int32))] [(.ref a), (.double u), (.double i1), (.int (1 : Int32)), (.ref g)])) rfl rfl (hb hby own_d5_25)
    refine own_go st216 ?_
    show own_Ends prg e below s _ _ _ T216 (mkF m 28 #[.val (.ref a), .val (.ref g), .val (.double u), .second, .val (.int (2 : Int32))] [(.ref pa), (.double u), (.double i1), (.int (1 : Int32)), (.ref g)])
    refine own_iload (pc' := 30) X216 hx (hb hby own_d5_28) rfl rfl ?_
    have f217 := (f209.other W210 n3)
    refine own_daload (pc' := 31) (v := (.double q2)) X216 hx hZ e216 f217 (hb hby own_d5_30) rfl (by decide) rfl ?_
    refine own_dmul (pc' := 32) (z := (FP.dmul u q2)) X216 hx (hb hby own_d5_31) rfl (Jvm.Free.Fl.dmul_out hu hq2) rfl ?_
    refine own_dadd (pc' := 33) (z := (FP.dadd i1 (FP.dmul u q2))) X216 hx (hb hby own_d5_32) rfl (own_nan hi1 hu hq2) rfl ?_
    refine own_dastore (pc' := 34) X216 hx hZ e216 V210 (hb hby own_d5_33) rfl (by decide) 1 rfl (by simp) N210 ge0 ?_
    intro T218 h218 L218 X218 e218 N218 W218 V218
    replace V218 : Arv Z h218 g gk .double (4 : Int32) [(.double i0), (.double (FP.dadd i1 (FP.dmul u q2))), (.double (FP.dadd i2 (FP.dmul u q1))), (.double (FP.dadd i3 (FP.dmul u q0)))] (.double 0) := V218
    show own_Ends prg e below s _ _ _ T218 (mkF m 34 #[.val (.ref a), .val (.ref g), .val (.double u), .second, .val (.int (2 : Int32))] [])
    refine own_iinc (pc' := 37) (z := (3 : Int32)) (l' := #[.val (.ref a), .val (.ref g), .val (.double u), .second, .val (.int (3 : Int32))]) X218 hx (hb hby own_d5_34) rfl rfl (by decide) rfl ?_
    refine own_goto (pc' := 3) X218 hx (hb hby own_d5_37) (by decide) (by decide) ?_
    refine own_iload (pc' := 5) X218 hx (hb hby own_d5_3) rfl rfl ?_
    refine own_aloadN (pc' := 6) X218 hx (hb hby own_d5_5) rfl rfl rfl ?_
    have f219 := (f211.other W218 (Or.inl n1))
    obtain ⟨T220, X220, e220, st220⟩ := getF X218 hx hZ hown (host := "") (Or.inl (own_w27 hw)) Via.refl e218 f219 (g := (mkF m 6 #[.val (.ref a), .val (.ref g), .val (.double u), .second, .val (.int (3 : Int32))] [(.ref a), (.int (3 : Int32))])) rfl rfl (hb hby own_d5_6)
    refine own_go st220 ?_
    show own_Ends prg e below s _ _ _ T220 (mkF m 9 #[.val (.ref a), .val (.ref g), .val (.double u), .second, .val (.int (3 : Int32))] [(.ref ca), (.int (3 : Int32))])
    have f221 := (f213.other W218 n2)
    refine own_alen (pc' := 10) X220 hx hZ e220 f221 (hb hby own_d5_9) rfl ?_
    refine own_icmpYes (pc' := 40) X220 hx (hb hby own_d5_10) (flt (by decide)).2.1 (by decide) (by decide) ?_
    refine own_retV X220 hx hlk hret (hb hby own_d5_40) (by decide) (by decide) ?_
    have f222 := (((K0.wr W202 (Or.inl (List.mem_of_getElem? (i := 0) rfl))).wr W210 (Or.inl (List.mem_of_getElem? (i := 0) rfl))).wr W218 (Or.inl (List.mem_of_getElem? (i := 0) rfl)))
    rw [e220]; exact ⟨rfl, N218, f222, V218⟩
def own_room5_4 : Room := { frames := 0, cells := 0, slots := 0, locals := 0 }
def own_Q5_4 (Z : State) (a : Addr) (g : Addr) (u : UInt64) (ca : Addr) (pa : Addr) (ck : ClassId) (pk : ClassId) (gk : ClassId) (b : Int32) (d : Int32) (i0 : UInt64) (i1 : UInt64) (i2 : UInt64) (i3 : UInt64) (q0 : UInt64) (q1 : UInt64) (q2 : UInt64) (q3 : UInt64) (h0 : Heap) (n0 : Nat) (v : Option Value) (h : Heap) (L : List Loc) : Prop := v = none ∧ Fr n0 L ∧ Keep h0 h [g] ∧ Arv Z h g gk .double (4 : Int32) [(.double (own_exp 0 b d 4 i0 u q0 q1 q2 q3)), (.double (own_exp 1 b d 4 i1 u q0 q1 q2 q3)), (.double (own_exp 2 b d 4 i2 u q0 q1 q2 q3)), (.double (own_exp 3 b d 4 i3 u q0 q1 q2 q3))] (.double 0)
theorem own_ef_rm5_4 (m : MethodId) (x0 : Addr) (x1 : Addr) (x2 : UInt64) : entryFrame m #[(.ref x0), (.ref x1), (.double x2)] 5 = mkF m 0 #[.val (.ref x0), .val (.ref x1), .val (.double x2), .second, .unset] [] := by first | (simp [entryFrame, mkF, argsToLocals, Value.category]; done) | rfl
set_option maxRecDepth 65536 in
set_option maxHeartbeats 40000000 in
theorem own_rm5_4 (lch : Launch) (Z : State) (a0 : Array Value) (hw : ∀ d ∈ tables_1, d.before a0 Z = true) (ws : List Jvm.Cond) (a : Addr) (g : Addr) (u : UInt64) (ca : Addr) (pa : Addr) (ck : ClassId) (pk : ClassId) (gk : ClassId) (b : Int32) (d : Int32) (i0 : UInt64) (i1 : UInt64) (i2 : UInt64) (i3 : UInt64) (q0 : UInt64) (q1 : UInt64) (q2 : UInt64) (q3 : UInt64) (h0 : Heap) (n0 : Nat) (F0 : Fld Z h0 a "com/example/mapwright/mapwright/ArcLoads" "arcs" "[I" (.ref ca)) (F1 : Fld Z h0 a "com/example/mapwright/mapwright/ArcLoads" "perUnit" "[D" (.ref pa)) (V0 : Arv Z h0 ca ck .int (4 : Int32) [(.int (b &&& (3 : Int32))), (.int ((b + d) &&& (3 : Int32))), (.int ((b + ((2 : Int32) * d)) &&& (3 : Int32))), (.int ((b + ((3 : Int32) * d)) &&& (3 : Int32)))] (.int (0 : Int32))) (V1 : Arv Z h0 pa pk .double (4 : Int32) [(.double q0), (.double q1), (.double q2), (.double q3)] (.double 0)) (V2 : Arv Z h0 g gk .double (4 : Int32) [(.double i0), (.double i1), (.double i2), (.double i3)] (.double 0)) (ge0 : n0 ≤ g) (n1 : a ≠ g) (n2 : ca ≠ g) (n3 : pa ≠ g) (hbd : (b = 0 ∧ d = 1) ∨ (b = 0 ∧ d = 3) ∨ (b = 1 ∧ d = 1) ∨ (b = 1 ∧ d = 3) ∨ (b = 2 ∧ d = 1) ∨ (b = 2 ∧ d = 3) ∨ (b = 3 ∧ d = 1) ∨ (b = 3 ∧ d = 3)) (hu : Jvm.Free.Fl.Fin64 u) (hi0 : Jvm.Free.Fl.Fin64 i0) (hi1 : Jvm.Free.Fl.Fin64 i1) (hi2 : Jvm.Free.Fl.Fin64 i2) (hi3 : Jvm.Free.Fl.Fin64 i3) (hq0 : Jvm.Free.Fl.Fin64 q0) (hq1 : Jvm.Free.Fl.Fin64 q1) (hq2 : Jvm.Free.Fl.Fin64 q2) (hq3 : Jvm.Free.Fl.Fin64 q3) :
    MetFree lch (⟨"com/example/mapwright/mapwright/ArcLoads", "addTo", "([DD)V"⟩ : MethodName) (head1 (Jvm.Cond.code (⟨"com/example/mapwright/mapwright/ArcLoads", "addTo", "([DD)V"⟩ : MethodName) prog_1_method_6_code 5 none :: ws) own_room5_4) (fun zz U => zz = #[(.ref a), (.ref g), (.double u)] ∧ Z.Warmed39 U.vm ∧ U.heap = h0) (fun _ _ _ _ _ => True) (fun _ U o U' => ∃ v L, o = .returned v ∧ own_Q5_4 Z a g u ca pa ck pk gk b d i0 i1 i2 i3 q0 q1 q2 q3 h0 n0 v U'.heap L ∧ FrameEnd U o U' L own_room5_4.cells own_room5_4.slots) := by
  refine MetFree.of_bodySF (plainFor_of_name own_pn1) hisR ?_
  intro prg e s m args below meth c s₁ Bd hml0 hP hK
  obtain ⟨rfl, hZ, hh⟩ := hP
  have hx := Bd.exec
  have hby := Bd.bytes
  have hml : c.maxLocals = 5 := hml0
  have hown : s.vm.findClass "com/example/mapwright/mapwright/ArcLoads" = some m.cls := findClass_of_methodNamed Bd.named
  have hnm := (name_of_methodNamed Bd.named Bd.method).1
  have hlk : meth.locks = false := BodyLoose.notSynchronized Bd
  have hret := Bd.returns
  have X0 : Stand prg lch e own_room5_4 s m #[(.ref a), (.ref g), (.double u)] below meth c s₁ [] 0 0 := Stand.of_body Bd
  have e0 : s₁.heap = h0 := by rw [← hh, Bd.state]; rfl
  have N0 := Fr.nil n0
  show own_Ends prg e below s (own_Q5_4 Z a g u ca pa ck pk gk b d i0 i1 i2 i3 q0 q1 q2 q3 h0 n0) own_room5_4.cells own_room5_4.slots s₁ (entryFrame m #[(.ref a), (.ref g), (.double u)] 5)
  refine own_cast (own_ef_rm5_4 m a g u) ?_
  have K0 := Keep.refl h0 ([g] : List Addr)
  rcases hbd with ⟨rfl, rfl⟩ | ⟨rfl, rfl⟩ | ⟨rfl, rfl⟩ | ⟨rfl, rfl⟩ | ⟨rfl, rfl⟩ | ⟨rfl, rfl⟩ | ⟨rfl, rfl⟩ | ⟨rfl, rfl⟩
  · replace V0 : Arv Z h0 ca ck .int (4 : Int32) [(.int (0 : Int32)), (.int (1 : Int32)), (.int (2 : Int32)), (.int (3 : Int32))] (.int (0 : Int32)) := V0
    refine own_iconst (pc' := 1) (z := (0 : Int32)) X0 hx (hb hby own_d5_0) rfl rfl ?_
    refine own_istore (pc' := 3) (l' := #[.val (.ref a), .val (.ref g), .val (.double u), .second, .val (.int (0 : Int32))]) X0 hx (hb hby own_d5_1) rfl rfl ?_
    refine own_iload (pc' := 5) X0 hx (hb hby own_d5_3) rfl rfl ?_
    refine own_aloadN (pc' := 6) X0 hx (hb hby own_d5_5) rfl rfl rfl ?_
    obtain ⟨T31, X31, e31, st31⟩ := getF X0 hx hZ hown (host := "") (Or.inl (own_w27 hw)) Via.refl e0 F0 (g := (mkF m 6 #[.val (.ref a), .val (.ref g), .val (.double u), .second, .val (.int (0 : Int32))] [(.ref a), (.int (0 : Int32))])) rfl rfl (hb hby own_d5_6)
    refine own_go st31 ?_
    show own_Ends prg e below s _ _ _ T31 (mkF m 9 #[.val (.ref a), .val (.ref g), .val (.double u), .second, .val (.int (0 : Int32))] [(.ref ca), (.int (0 : Int32))])
    refine own_alen (pc' := 10) X31 hx hZ e31 V0 (hb hby own_d5_9) rfl ?_
    refine own_icmpNo (pc' := 13) X31 hx (hb hby own_d5_10) rfl (tlt (by decide)).2.1 ?_
    refine own_aloadN (pc' := 14) X31 hx (hb hby own_d5_13) rfl rfl rfl ?_
    refine own_aloadN (pc' := 15) X31 hx (hb hby own_d5_14) rfl rfl rfl ?_
    obtain ⟨T32, X32, e32, st32⟩ := getF X31 hx hZ hown (host := "") (Or.inl (own_w27 hw)) Via.refl e31 F0 (g := (mkF m 15 #[.val (.ref a), .val (.ref g), .val (.double u), .second, .val (.int (0 : Int32))] [(.ref a), (.ref g)])) rfl rfl (hb hby own_d5_15)
    refine own_go st32 ?_
    show own_Ends prg e below s _ _ _ T32 (mkF m 18 #[.val (.ref a), .val (.ref g), .val (.double u), .second, .val (.int (0 : Int32))] [(.ref ca), (.ref g)])
    refine own_iload (pc' := 20) X32 hx (hb hby own_d5_18) rfl rfl ?_
    refine own_iaload (pc' := 21) (v := (.int (0 : Int32))) X32 hx hZ e32 V0 (hb hby own_d5_20) rfl (by decide) rfl ?_
    refine own_dup2 (pc' := 22) X32 hx (hb hby own_d5_21) rfl rfl rfl ?_
    refine own_daload (pc' := 23) (v := (.double i0)) X32 hx hZ e32 V2 (hb hby own_d5_22) rfl (by decide) rfl ?_
    refine own_dloadN (pc' := 24) X32 hx (hb hby own_d5_23) rfl rfl ?_
    refine own_aloadN (pc' := 25) X32 hx (hb hby own_d5_24) rfl rfl rfl ?_
    obtain ⟨T33, X33, e33, st33⟩ := getF X32 hx hZ hown (host := "") (Or.inl (own_w35 hw)) Via.refl e32 F1 (g := (mkF m 25 #[.val (.ref a), .val (.ref g), .val (.double u), .second, .val (.int (0 : Int32))] [(.ref a), (.double u), (.double i0), (.int (0 : Int32)), (.ref g)])) rfl rfl (hb hby own_d5_25)
    refine own_go st33 ?_
    show own_Ends prg e below s _ _ _ T33 (mkF m 28 #[.val (.ref a), .val (.ref g), .val (.double u), .second, .val (.int (0 : Int32))] [(.ref pa), (.double u), (.double i0), (.int (0 : Int32)), (.ref g)])
    refine own_iload (pc' := 30) X33 hx (hb hby own_d5_28) rfl rfl ?_
    refine own_daload (pc' := 31) (v := (.double q0)) X33 hx hZ e33 V1 (hb hby own_d5_30) rfl (by decide) rfl ?_
    refine own_dmul (pc' := 32) (z := (FP.dmul u q0)) X33 hx (hb hby own_d5_31) rfl (Jvm.Free.Fl.dmul_out hu hq0) rfl ?_
    refine own_dadd (pc' := 33) (z := (FP.dadd i0 (FP.dmul u q0))) X33 hx (hb hby own_d5_32) rfl (own_nan hi0 hu hq0) rfl ?_
    refine own_dastore (pc' := 34) X33 hx hZ e33 V2 (hb hby own_d5_33) rfl (by decide) 0 rfl (by simp) N0 ge0 ?_
    intro T34 h34 L34 X34 e34 N34 W34 V34
    replace V34 : Arv Z h34 g gk .double (4 : Int32) [(.double (FP.dadd i0 (FP.dmul u q0))), (.double i1), (.double i2), (.double i3)] (.double 0) := V34
    show own_Ends prg e below s _ _ _ T34 (mkF m 34 #[.val (.ref a), .val (.ref g), .val (.double u), .second, .val (.int (0 : Int32))] [])
    refine own_iinc (pc' := 37) (z := (1 : Int32)) (l' := #[.val (.ref a), .val (.ref g), .val (.double u), .second, .val (.int (1 : Int32))]) X34 hx (hb hby own_d5_34) rfl rfl (by decide) rfl ?_
    refine own_goto (pc' := 3) X34 hx (hb hby own_d5_37) (by decide) (by decide) ?_
    refine own_iload (pc' := 5) X34 hx (hb hby own_d5_3) rfl rfl ?_
    refine own_aloadN (pc' := 6) X34 hx (hb hby own_d5_5) rfl rfl rfl ?_
    have f35 := (F0.other W34 (Or.inl n1))
    obtain ⟨T36, X36, e36, st36⟩ := getF X34 hx hZ hown (host := "") (Or.inl (own_w27 hw)) Via.refl e34 f35 (g := (mkF m 6 #[.val (.ref a), .val (.ref g), .val (.double u), .second, .val (.int (1 : Int32))] [(.ref a), (.int (1 : Int32))])) rfl rfl (hb hby own_d5_6)
    refine own_go st36 ?_
    show own_Ends prg e below s _ _ _ T36 (mkF m 9 #[.val (.ref a), .val (.ref g), .val (.double u), .second, .val (.int (1 : Int32))] [(.ref ca), (.int (1 : Int32))])
    have f37 := (V0.other W34 n2)
    refine own_alen (pc' := 10) X36 hx hZ e36 f37 (hb hby own_d5_9) rfl ?_
    refine own_icmpNo (pc' := 13) X36 hx (hb hby own_d5_10) rfl (tlt (by decide)).2.1 ?_
    refine own_aloadN (pc' := 14) X36 hx (hb hby own_d5_13) rfl rfl rfl ?_
    refine own_aloadN (pc' := 15) X36 hx (hb hby own_d5_14) rfl rfl rfl ?_
    obtain ⟨T38, X38, e38, st38⟩ := getF X36 hx hZ hown (host := "") (Or.inl (own_w27 hw)) Via.refl e36 f35 (g := (mkF m 15 #[.val (.ref a), .val (.ref g), .val (.double u), .second, .val (.int (1 : Int32))] [(.ref a), (.ref g)])) rfl rfl (hb hby own_d5_15)
    refine own_go st38 ?_
    show own_Ends prg e below s _ _ _ T38 (mkF m 18 #[.val (.ref a), .val (.ref g), .val (.double u), .second, .val (.int (1 : Int32))] [(.ref ca), (.ref g)])
    refine own_iload (pc' := 20) X38 hx (hb hby own_d5_18) rfl rfl ?_
    refine own_iaload (pc' := 21) (v := (.int (1 : Int32))) X38 hx hZ e38 f37 (hb hby own_d5_20) rfl (by decide) rfl ?_
    refine own_dup2 (pc' := 22) X38 hx (hb hby own_d5_21) rfl rfl rfl ?_
    refine own_daload (pc' := 23) (v := (.double i1)) X38 hx hZ e38 V34 (hb hby own_d5_22) rfl (by decide) rfl ?_
    refine own_dloadN (pc' := 24) X38 hx (hb hby own_d5_23) rfl rfl ?_
    refine own_aloadN (pc' := 25) X38 hx (hb hby own_d5_24) rfl rfl rfl ?_
    have f39 := (F1.other W34 (Or.inl n1))
    obtain ⟨T40, X40, e40, st40⟩ := getF X38 hx hZ hown (host := "") (Or.inl (own_w35 hw)) Via.refl e38 f39 (g := (mkF m 25 #[.val (.ref a), .val (.ref g), .val (.double u), .second, .val (.int (1 : Int32))] [(.ref a), (.double u), (.double i1), (.int (1 : Int32)), (.ref g)])) rfl rfl (hb hby own_d5_25)
    refine own_go st40 ?_
    show own_Ends prg e below s _ _ _ T40 (mkF m 28 #[.val (.ref a), .val (.ref g), .val (.double u), .second, .val (.int (1 : Int32))] [(.ref pa), (.double u), (.double i1), (.int (1 : Int32)), (.ref g)])
    refine own_iload (pc' := 30) X40 hx (hb hby own_d5_28) rfl rfl ?_
    have f41 := (V1.other W34 n3)
    refine own_daload (pc' := 31) (v := (.double q1)) X40 hx hZ e40 f41 (hb hby own_d5_30) rfl (by decide) rfl ?_
    refine own_dmul (pc' := 32) (z := (FP.dmul u q1)) X40 hx (hb hby own_d5_31) rfl (Jvm.Free.Fl.dmul_out hu hq1) rfl ?_
    refine own_dadd (pc' := 33) (z := (FP.dadd i1 (FP.dmul u q1))) X40 hx (hb hby own_d5_32) rfl (own_nan hi1 hu hq1) rfl ?_
    refine own_dastore (pc' := 34) X40 hx hZ e40 V34 (hb hby own_d5_33) rfl (by decide) 1 rfl (by simp) N34 ge0 ?_
    intro T42 h42 L42 X42 e42 N42 W42 V42
    replace V42 : Arv Z h42 g gk .double (4 : Int32) [(.double (FP.dadd i0 (FP.dmul u q0))), (.double (FP.dadd i1 (FP.dmul u q1))), (.double i2), (.double i3)] (.double 0) := V42
    show own_Ends prg e below s _ _ _ T42 (mkF m 34 #[.val (.ref a), .val (.ref g), .val (.double u), .second, .val (.int (1 : Int32))] [])
    refine own_iinc (pc' := 37) (z := (2 : Int32)) (l' := #[.val (.ref a), .val (.ref g), .val (.double u), .second, .val (.int (2 : Int32))]) X42 hx (hb hby own_d5_34) rfl rfl (by decide) rfl ?_
    refine own_goto (pc' := 3) X42 hx (hb hby own_d5_37) (by decide) (by decide) ?_
    refine own_iload (pc' := 5) X42 hx (hb hby own_d5_3) rfl rfl ?_
    refine own_aloadN (pc' := 6) X42 hx (hb hby own_d5_5) rfl rfl rfl ?_
    have f43 := (f35.other W42 (Or.inl n1))
    obtain ⟨T44, X44, e44, st44⟩ := getF X42 hx hZ hown (host := "") (Or.inl (own_w27 hw)) Via.refl e42 f43 (g := (mkF m 6 #[.val (.ref a), .val (.ref g), .val (.double u), .second, .val (.int (2 : Int32))] [(.ref a), (.int (2 : Int32))])) rfl rfl (hb hby own_d5_6)
    refine own_go st44 ?_
    show own_Ends prg e below s _ _ _ T44 (mkF m 9 #[.val (.ref a), .val (.ref g), .val (.double u), .second, .val (.int (2 : Int32))] [(.ref ca), (.int (2 : Int32))])
    have f45 := (f37.other W42 n2)
    refine own_alen (pc' := 10) X44 hx hZ e44 f45 (hb hby own_d5_9) rfl ?_
    refine own_icmpNo (pc' := 13) X44 hx (hb hby own_d5_10) rfl (tlt (by decide)).2.1 ?_
    refine own_aloadN (pc' := 14) X44 hx (hb hby own_d5_13) rfl rfl rfl ?_
    refine own_aloadN (pc' := 15) X44 hx (hb hby own_d5_14) rfl rfl rfl ?_
    obtain ⟨T46, X46, e46, st46⟩ := getF X44 hx hZ hown (host := "") (Or.inl (own_w27 hw)) Via.refl e44 f43 (g := (mkF m 15 #[.val (.ref a), .val (.ref g), .val (.double u), .second, .val (.int (2 : Int32))] [(.ref a), (.ref g)])) rfl rfl (hb hby own_d5_15)
    refine own_go st46 ?_
    show own_Ends prg e below s _ _ _ T46 (mkF m 18 #[.val (.ref a), .val (.ref g), .val (.double u), .second, .val (.int (2 : Int32))] [(.ref ca), (.ref g)])
    refine own_iload (pc' := 20) X46 hx (hb hby own_d5_18) rfl rfl ?_
    refine own_iaload (pc' := 21) (v := (.int (2 : Int32))) X46 hx hZ e46 f45 (hb hby own_d5_20) rfl (by decide) rfl ?_
    refine own_dup2 (pc' := 22) X46 hx (hb hby own_d5_21) rfl rfl rfl ?_
    refine own_daload (pc' := 23) (v := (.double i2)) X46 hx hZ e46 V42 (hb hby own_d5_22) rfl (by decide) rfl ?_
    refine own_dloadN (pc' := 24) X46 hx (hb hby own_d5_23) rfl rfl ?_
    refine own_aloadN (pc' := 25) X46 hx (hb hby own_d5_24) rfl rfl rfl ?_
    have f47 := (f39.other W42 (Or.inl n1))
    obtain ⟨T48, X48, e48, st48⟩ := getF X46 hx hZ hown (host := "") (Or.inl (own_w35 hw)) Via.refl e46 f47 (g := (mkF m 25 #[.val (.ref a), .val (.ref g), .val (.double u), .second, .val (.int (2 : Int32))] [(.ref a), (.double u), (.double i2), (.int (2 : Int32)), (.ref g)])) rfl rfl (hb hby own_d5_25)
    refine own_go st48 ?_
    show own_Ends prg e below s _ _ _ T48 (mkF m 28 #[.val (.ref a), .val (.ref g), .val (.double u), .second, .val (.int (2 : Int32))] [(.ref pa), (.double u), (.double i2), (.int (2 : Int32)), (.ref g)])
    refine own_iload (pc' := 30) X48 hx (hb hby own_d5_28) rfl rfl ?_
    have f49 := (f41.other W42 n3)
    refine own_daload (pc' := 31) (v := (.double q2)) X48 hx hZ e48 f49 (hb hby own_d5_30) rfl (by decide) rfl ?_
    refine own_dmul (pc' := 32) (z := (FP.dmul u q2)) X48 hx (hb hby own_d5_31) rfl (Jvm.Free.Fl.dmul_out hu hq2) rfl ?_
    refine own_dadd (pc' := 33) (z := (FP.dadd i2 (FP.dmul u q2))) X48 hx (hb hby own_d5_32) rfl (own_nan hi2 hu hq2) rfl ?_
    refine own_dastore (pc' := 34) X48 hx hZ e48 V42 (hb hby own_d5_33) rfl (by decide) 2 rfl (by simp) N42 ge0 ?_
    intro T50 h50 L50 X50 e50 N50 W50 V50
    replace V50 : Arv Z h50 g gk .double (4 : Int32) [(.double (FP.dadd i0 (FP.dmul u q0))), (.double (FP.dadd i1 (FP.dmul u q1))), (.double (FP.dadd i2 (FP.dmul u q2))), (.double i3)] (.double 0) := V50
    show own_Ends prg e below s _ _ _ T50 (mkF m 34 #[.val (.ref a), .val (.ref g), .val (.double u), .second, .val (.int (2 : Int32))] [])
    refine own_iinc (pc' := 37) (z := (3 : Int32)) (l' := #[.val (.ref a), .val (.ref g), .val (.double u), .second, .val (.int (3 : Int32))]) X50 hx (hb hby own_d5_34) rfl rfl (by decide) rfl ?_
    refine own_goto (pc' := 3) X50 hx (hb hby own_d5_37) (by decide) (by decide) ?_
    refine own_iload (pc' := 5) X50 hx (hb hby own_d5_3) rfl rfl ?_
    refine own_aloadN (pc' := 6) X50 hx (hb hby own_d5_5) rfl rfl rfl ?_
    have f51 := (f43.other W50 (Or.inl n1))
    obtain ⟨T52, X52, e52, st52⟩ := getF X50 hx hZ hown (host := "") (Or.inl (own_w27 hw)) Via.refl e50 f51 (g := (mkF m 6 #[.val (.ref a), .val (.ref g), .val (.double u), .second, .val (.int (3 : Int32))] [(.ref a), (.int (3 : Int32))])) rfl rfl (hb hby own_d5_6)
    refine own_go st52 ?_
    show own_Ends prg e below s _ _ _ T52 (mkF m 9 #[.val (.ref a), .val (.ref g), .val (.double u), .second, .val (.int (3 : Int32))] [(.ref ca), (.int (3 : Int32))])
    have f53 := (f45.other W50 n2)
    refine own_alen (pc' := 10) X52 hx hZ e52 f53 (hb hby own_d5_9) rfl ?_
    refine own_icmpNo (pc' := 13) X52 hx (hb hby own_d5_10) rfl (tlt (by decide)).2.1 ?_
    refine own_aloadN (pc' := 14) X52 hx (hb hby own_d5_13) rfl rfl rfl ?_
    refine own_aloadN (pc' := 15) X52 hx (hb hby own_d5_14) rfl rfl rfl ?_
    obtain ⟨T54, X54, e54, st54⟩ := getF X52 hx hZ hown (host := "") (Or.inl (own_w27 hw)) Via.refl e52 f51 (g := (mkF m 15 #[.val (.ref a), .val (.ref g), .val (.double u), .second, .val (.int (3 : Int32))] [(.ref a), (.ref g)])) rfl rfl (hb hby own_d5_15)
    refine own_go st54 ?_
    show own_Ends prg e below s _ _ _ T54 (mkF m 18 #[.val (.ref a), .val (.ref g), .val (.double u), .second, .val (.int (3 : Int32))] [(.ref ca), (.ref g)])
    refine own_iload (pc' := 20) X54 hx (hb hby own_d5_18) rfl rfl ?_
    refine own_iaload (pc' := 21) (v := (.int (3 : Int32))) X54 hx hZ e54 f53 (hb hby own_d5_20) rfl (by decide) rfl ?_
    refine own_dup2 (pc' := 22) X54 hx (hb hby own_d5_21) rfl rfl rfl ?_
    refine own_daload (pc' := 23) (v := (.double i3)) X54 hx hZ e54 V50 (hb hby own_d5_22) rfl (by decide) rfl ?_
    refine own_dloadN (pc' := 24) X54 hx (hb hby own_d5_23) rfl rfl ?_
    refine own_aloadN (pc' := 25) X54 hx (hb hby own_d5_24) rfl rfl rfl ?_
    have f55 := (f47.other W50 (Or.inl n1))
    obtain ⟨T56, X56, e56, st56⟩ := getF X54 hx hZ hown (host := "") (Or.inl (own_w35 hw)) Via.refl e54 f55 (g := (mkF m 25 #[.val (.ref a), .val (.ref g), .val (.double u), .second, .val (.int (3 : Int32))] [(.ref a), (.double u), (.double i3), (.int (3 : Int32)), (.ref g)])) rfl rfl (hb hby own_d5_25)
    refine own_go st56 ?_
    show own_Ends prg e below s _ _ _ T56 (mkF m 28 #[.val (.ref a), .val (.ref g), .val (.double u), .second, .val (.int (3 : Int32))] [(.ref pa), (.double u), (.double i3), (.int (3 : Int32)), (.ref g)])
    refine own_iload (pc' := 30) X56 hx (hb hby own_d5_28) rfl rfl ?_
    have f57 := (f49.other W50 n3)
    refine own_daload (pc' := 31) (v := (.double q3)) X56 hx hZ e56 f57 (hb hby own_d5_30) rfl (by decide) rfl ?_
    refine own_dmul (pc' := 32) (z := (FP.dmul u q3)) X56 hx (hb hby own_d5_31) rfl (Jvm.Free.Fl.dmul_out hu hq3) rfl ?_
    refine own_dadd (pc' := 33) (z := (FP.dadd i3 (FP.dmul u q3))) X56 hx (hb hby own_d5_32) rfl (own_nan hi3 hu hq3) rfl ?_
    refine own_dastore (pc' := 34) X56 hx hZ e56 V50 (hb hby own_d5_33) rfl (by decide) 3 rfl (by simp) N50 ge0 ?_
    intro T58 h58 L58 X58 e58 N58 W58 V58
    replace V58 : Arv Z h58 g gk .double (4 : Int32) [(.double (FP.dadd i0 (FP.dmul u q0))), (.double (FP.dadd i1 (FP.dmul u q1))), (.double (FP.dadd i2 (FP.dmul u q2))), (.double (FP.dadd i3 (FP.dmul u q3)))] (.double 0) := V58
    show own_Ends prg e below s _ _ _ T58 (mkF m 34 #[.val (.ref a), .val (.ref g), .val (.double u), .second, .val (.int (3 : Int32))] [])
    refine own_iinc (pc' := 37) (z := (4 : Int32)) (l' := #[.val (.ref a), .val (.ref g), .val (.double u), .second, .val (.int (4 : Int32))]) X58 hx (hb hby own_d5_34) rfl rfl (by decide) rfl ?_
    refine own_goto (pc' := 3) X58 hx (hb hby own_d5_37) (by decide) (by decide) ?_
    refine own_iload (pc' := 5) X58 hx (hb hby own_d5_3) rfl rfl ?_
    refine own_aloadN (pc' := 6) X58 hx (hb hby own_d5_5) rfl rfl rfl ?_
    have f59 := (f51.other W58 (Or.inl n1))
    obtain ⟨T60, X60, e60, st60⟩ := getF X58 hx hZ hown (host := "") (Or.inl (own_w27 hw)) Via.refl e58 f59 (g := (mkF m 6 #[.val (.ref a), .val (.ref g), .val (.double u), .second, .val (.int (4 : Int32))] [(.ref a), (.int (4 : Int32))])) rfl rfl (hb hby own_d5_6)
    refine own_go st60 ?_
    show own_Ends prg e below s _ _ _ T60 (mkF m 9 #[.val (.ref a), .val (.ref g), .val (.double u), .second, .val (.int (4 : Int32))] [(.ref ca), (.int (4 : Int32))])
    have f61 := (f53.other W58 n2)
    refine own_alen (pc' := 10) X60 hx hZ e60 f61 (hb hby own_d5_9) rfl ?_
    refine own_icmpYes (pc' := 40) X60 hx (hb hby own_d5_10) (flt (by decide)).2.1 (by decide) (by decide) ?_
    refine own_retV X60 hx hlk hret (hb hby own_d5_40) (by decide) (by decide) ?_
    have f62 := ((((K0.wr W34 (Or.inl (List.mem_of_getElem? (i := 0) rfl))).wr W42 (Or.inl (List.mem_of_getElem? (i := 0) rfl))).wr W50 (Or.inl (List.mem_of_getElem? (i := 0) rfl))).wr W58 (Or.inl (List.mem_of_getElem? (i := 0) rfl)))
    rw [e60]; exact ⟨rfl, N58, f62, V58⟩
  · replace V0 : Arv Z h0 ca ck .int (4 : Int32) [(.int (0 : Int32)), (.int (3 : Int32)), (.int (2 : Int32)), (.int (1 : Int32))] (.int (0 : Int32)) := V0
    refine own_iconst (pc' := 1) (z := (0 : Int32)) X0 hx (hb hby own_d5_0) rfl rfl ?_
    refine own_istore (pc' := 3) (l' := #[.val (.ref a), .val (.ref g), .val (.double u), .second, .val (.int (0 : Int32))]) X0 hx (hb hby own_d5_1) rfl rfl ?_
    refine own_iload (pc' := 5) X0 hx (hb hby own_d5_3) rfl rfl ?_
    refine own_aloadN (pc' := 6) X0 hx (hb hby own_d5_5) rfl rfl rfl ?_
    obtain ⟨T63, X63, e63, st63⟩ := getF X0 hx hZ hown (host := "") (Or.inl (own_w27 hw)) Via.refl e0 F0 (g := (mkF m 6 #[.val (.ref a), .val (.ref g), .val (.double u), .second, .val (.int (0 : Int32))] [(.ref a), (.int (0 : Int32))])) rfl rfl (hb hby own_d5_6)
    refine own_go st63 ?_
    show own_Ends prg e below s _ _ _ T63 (mkF m 9 #[.val (.ref a), .val (.ref g), .val (.double u), .second, .val (.int (0 : Int32))] [(.ref ca), (.int (0 : Int32))])
    refine own_alen (pc' := 10) X63 hx hZ e63 V0 (hb hby own_d5_9) rfl ?_
    refine own_icmpNo (pc' := 13) X63 hx (hb hby own_d5_10) rfl (tlt (by decide)).2.1 ?_
    refine own_aloadN (pc' := 14) X63 hx (hb hby own_d5_13) rfl rfl rfl ?_
    refine own_aloadN (pc' := 15) X63 hx (hb hby own_d5_14) rfl rfl rfl ?_
    obtain ⟨T64, X64, e64, st64⟩ := getF X63 hx hZ hown (host := "") (Or.inl (own_w27 hw)) Via.refl e63 F0 (g := (mkF m 15 #[.val (.ref a), .val (.ref g), .val (.double u), .second, .val (.int (0 : Int32))] [(.ref a), (.ref g)])) rfl rfl (hb hby own_d5_15)
    refine own_go st64 ?_
    show own_Ends prg e below s _ _ _ T64 (mkF m 18 #[.val (.ref a), .val (.ref g), .val (.double u), .second, .val (.int (0 : Int32))] [(.ref ca), (.ref g)])
    refine own_iload (pc' := 20) X64 hx (hb hby own_d5_18) rfl rfl ?_
    refine own_iaload (pc' := 21) (v := (.int (0 : Int32))) X64 hx hZ e64 V0 (hb hby own_d5_20) rfl (by decide) rfl ?_
    refine own_dup2 (pc' := 22) X64 hx (hb hby own_d5_21) rfl rfl rfl ?_
    refine own_daload (pc' := 23) (v := (.double i0)) X64 hx hZ e64 V2 (hb hby own_d5_22) rfl (by decide) rfl ?_
    refine own_dloadN (pc' := 24) X64 hx (hb hby own_d5_23) rfl rfl ?_
    refine own_aloadN (pc' := 25) X64 hx (hb hby own_d5_24) rfl rfl rfl ?_
    obtain ⟨T65, X65, e65, st65⟩ := getF X64 hx hZ hown (host := "") (Or.inl (own_w35 hw)) Via.refl e64 F1 (g := (mkF m 25 #[.val (.ref a), .val (.ref g), .val (.double u), .second, .val (.int (0 : Int32))] [(.ref a), (.double u), (.double i0), (.int (0 : Int32)), (.ref g)])) rfl rfl (hb hby own_d5_25)
    refine own_go st65 ?_
    show own_Ends prg e below s _ _ _ T65 (mkF m 28 #[.val (.ref a), .val (.ref g), .val (.double u), .second, .val (.int (0 : Int32))] [(.ref pa), (.double u), (.double i0), (.int (0 : Int32)), (.ref g)])
    refine own_iload (pc' := 30) X65 hx (hb hby own_d5_28) rfl rfl ?_
    refine own_daload (pc' := 31) (v := (.double q0)) X65 hx hZ e65 V1 (hb hby own_d5_30) rfl (by decide) rfl ?_
    refine own_dmul (pc' := 32) (z := (FP.dmul u q0)) X65 hx (hb hby own_d5_31) rfl (Jvm.Free.Fl.dmul_out hu hq0) rfl ?_
    refine own_dadd (pc' := 33) (z := (FP.dadd i0 (FP.dmul u q0))) X65 hx (hb hby own_d5_32) rfl (own_nan hi0 hu hq0) rfl ?_
    refine own_dastore (pc' := 34) X65 hx hZ e65 V2 (hb hby own_d5_33) rfl (by decide) 0 rfl (by simp) N0 ge0 ?_
    intro T66 h66 L66 X66 e66 N66 W66 V66
    replace V66 : Arv Z h66 g gk .double (4 : Int32) [(.double (FP.dadd i0 (FP.dmul u q0))), (.double i1), (.double i2), (.double i3)] (.double 0) := V66
    show own_Ends prg e below s _ _ _ T66 (mkF m 34 #[.val (.ref a), .val (.ref g), .val (.double u), .second, .val (.int (0 : Int32))] [])
    refine own_iinc (pc' := 37) (z := (1 : Int32)) (l' := #[.val (.ref a), .val (.ref g), .val (.double u), .second, .val (.int (1 : Int32))]) X66 hx (hb hby own_d5_34) rfl rfl (by decide) rfl ?_
    refine own_goto (pc' := 3) X66 hx (hb hby own_d5_37) (by decide) (by decide) ?_
    refine own_iload (pc' := 5) X66 hx (hb hby own_d5_3) rfl rfl ?_
    refine own_aloadN (pc' := 6) X66 hx (hb hby own_d5_5) rfl rfl rfl ?_
    have f67 := (F0.other W66 (Or.inl n1))
    obtain ⟨T68, X68, e68, st68⟩ := getF X66 hx hZ hown (host := "") (Or.inl (own_w27 hw)) Via.refl e66 f67 (g := (mkF m 6 #[.val (.ref a), .val (.ref g), .val (.double u), .second, .val (.int (1 : Int32))] [(.ref a), (.int (1 : Int32))])) rfl rfl (hb hby own_d5_6)
    refine own_go st68 ?_
    show own_Ends prg e below s _ _ _ T68 (mkF m 9 #[.val (.ref a), .val (.ref g), .val (.double u), .second, .val (.int (1 : Int32))] [(.ref ca), (.int (1 : Int32))])
    have f69 := (V0.other W66 n2)
    refine own_alen (pc' := 10) X68 hx hZ e68 f69 (hb hby own_d5_9) rfl ?_
    refine own_icmpNo (pc' := 13) X68 hx (hb hby own_d5_10) rfl (tlt (by decide)).2.1 ?_
    refine own_aloadN (pc' := 14) X68 hx (hb hby own_d5_13) rfl rfl rfl ?_
    refine own_aloadN (pc' := 15) X68 hx (hb hby own_d5_14) rfl rfl rfl ?_
    obtain ⟨T70, X70, e70, st70⟩ := getF X68 hx hZ hown (host := "") (Or.inl (own_w27 hw)) Via.refl e68 f67 (g := (mkF m 15 #[.val (.ref a), .val (.ref g), .val (.double u), .second, .val (.int (1 : Int32))] [(.ref a), (.ref g)])) rfl rfl (hb hby own_d5_15)
    refine own_go st70 ?_
    show own_Ends prg e below s _ _ _ T70 (mkF m 18 #[.val (.ref a), .val (.ref g), .val (.double u), .second, .val (.int (1 : Int32))] [(.ref ca), (.ref g)])
    refine own_iload (pc' := 20) X70 hx (hb hby own_d5_18) rfl rfl ?_
    refine own_iaload (pc' := 21) (v := (.int (3 : Int32))) X70 hx hZ e70 f69 (hb hby own_d5_20) rfl (by decide) rfl ?_
    refine own_dup2 (pc' := 22) X70 hx (hb hby own_d5_21) rfl rfl rfl ?_
    refine own_daload (pc' := 23) (v := (.double i3)) X70 hx hZ e70 V66 (hb hby own_d5_22) rfl (by decide) rfl ?_
    refine own_dloadN (pc' := 24) X70 hx (hb hby own_d5_23) rfl rfl ?_
    refine own_aloadN (pc' := 25) X70 hx (hb hby own_d5_24) rfl rfl rfl ?_
    have f71 := (F1.other W66 (Or.inl n1))
    obtain ⟨T72, X72, e72, st72⟩ := getF X70 hx hZ hown (host := "") (Or.inl (own_w35 hw)) Via.refl e70 f71 (g := (mkF m 25 #[.val (.ref a), .val (.ref g), .val (.double u), .second, .val (.int (1 : Int32))] [(.ref a), (.double u), (.double i3), (.int (3 : Int32)), (.ref g)])) rfl rfl (hb hby own_d5_25)
    refine own_go st72 ?_
    show own_Ends prg e below s _ _ _ T72 (mkF m 28 #[.val (.ref a), .val (.ref g), .val (.double u), .second, .val (.int (1 : Int32))] [(.ref pa), (.double u), (.double i3), (.int (3 : Int32)), (.ref g)])
    refine own_iload (pc' := 30) X72 hx (hb hby own_d5_28) rfl rfl ?_
    have f73 := (V1.other W66 n3)
    refine own_daload (pc' := 31) (v := (.double q1)) X72 hx hZ e72 f73 (hb hby own_d5_30) rfl (by decide) rfl ?_
    refine own_dmul (pc' := 32) (z := (FP.dmul u q1)) X72 hx (hb hby own_d5_31) rfl (Jvm.Free.Fl.dmul_out hu hq1) rfl ?_
    refine own_dadd (pc' := 33) (z := (FP.dadd i3 (FP.dmul u q1))) X72 hx (hb hby own_d5_32) rfl (own_nan hi3 hu hq1) rfl ?_
    refine own_dastore (pc' := 34) X72 hx hZ e72 V66 (hb hby own_d5_33) rfl (by decide) 3 rfl (by simp) N66 ge0 ?_
    intro T74 h74 L74 X74 e74 N74 W74 V74
    replace V74 : Arv Z h74 g gk .double (4 : Int32) [(.double (FP.dadd i0 (FP.dmul u q0))), (.double i1), (.double i2), (.double (FP.dadd i3 (FP.dmul u q1)))] (.double 0) := V74
    show own_Ends prg e below s _ _ _ T74 (mkF m 34 #[.val (.ref a), .val (.ref g), .val (.double u), .second, .val (.int (1 : Int32))] [])
    refine own_iinc (pc' := 37) (z := (2 : Int32)) (l' := #[.val (.ref a), .val (.ref g), .val (.double u), .second, .val (.int (2 : Int32))]) X74 hx (hb hby own_d5_34) rfl rfl (by decide) rfl ?_
    refine own_goto (pc' := 3) X74 hx (hb hby own_d5_37) (by decide) (by decide) ?_
    refine own_iload (pc' := 5) X74 hx (hb hby own_d5_3) rfl rfl ?_
    refine own_aloadN (pc' := 6) X74 hx (hb hby own_d5_5) rfl rfl rfl ?_
    have f75 := (f67.other W74 (Or.inl n1))
    obtain ⟨T76, X76, e76, st76⟩ := getF X74 hx hZ hown (host := "") (Or.inl (own_w27 hw)) Via.refl e74 f75 (g := (mkF m 6 #[.val (.ref a), .val (.ref g), .val (.double u), .second, .val (.int (2 : Int32))] [(.ref a), (.int (2 : Int32))])) rfl rfl (hb hby own_d5_6)
    refine own_go st76 ?_
    show own_Ends prg e below s _ _ _ T76 (mkF m 9 #[.val (.ref a), .val (.ref g), .val (.double u), .second, .val (.int (2 : Int32))] [(.ref ca), (.int (2 : Int32))])
    have f77 := (f69.other W74 n2)
    refine own_alen (pc' := 10) X76 hx hZ e76 f77 (hb hby own_d5_9) rfl ?_
    refine own_icmpNo (pc' := 13) X76 hx (hb hby own_d5_10) rfl (tlt (by decide)).2.1 ?_
    refine own_aloadN (pc' := 14) X76 hx (hb hby own_d5_13) rfl rfl rfl ?_
    refine own_aloadN (pc' := 15) X76 hx (hb hby own_d5_14) rfl rfl rfl ?_
    obtain ⟨T78, X78, e78, st78⟩ := getF X76 hx hZ hown (host := "") (Or.inl (own_w27 hw)) Via.refl e76 f75 (g := (mkF m 15 #[.val (.ref a), .val (.ref g), .val (.double u), .second, .val (.int (2 : Int32))] [(.ref a), (.ref g)])) rfl rfl (hb hby own_d5_15)
    refine own_go st78 ?_
    show own_Ends prg e below s _ _ _ T78 (mkF m 18 #[.val (.ref a), .val (.ref g), .val (.double u), .second, .val (.int (2 : Int32))] [(.ref ca), (.ref g)])
    refine own_iload (pc' := 20) X78 hx (hb hby own_d5_18) rfl rfl ?_
    refine own_iaload (pc' := 21) (v := (.int (2 : Int32))) X78 hx hZ e78 f77 (hb hby own_d5_20) rfl (by decide) rfl ?_
    refine own_dup2 (pc' := 22) X78 hx (hb hby own_d5_21) rfl rfl rfl ?_
    refine own_daload (pc' := 23) (v := (.double i2)) X78 hx hZ e78 V74 (hb hby own_d5_22) rfl (by decide) rfl ?_
    refine own_dloadN (pc' := 24) X78 hx (hb hby own_d5_23) rfl rfl ?_
    refine own_aloadN (pc' := 25) X78 hx (hb hby own_d5_24) rfl rfl rfl ?_
    have f79 := (f71.other W74 (Or.inl n1))
    obtain ⟨T80, X80, e80, st80⟩ := getF X78 hx hZ hown (host := "") (Or.inl (own_w35 hw)) Via.refl e78 f79 (g := (mkF m 25 #[.val (.ref a), .val (.ref g), .val (.double u), .second, .val (.int (2 : Int32))] [(.ref a), (.double u), (.double i2), (.int (2 : Int32)), (.ref g)])) rfl rfl (hb hby own_d5_25)
    refine own_go st80 ?_
    show own_Ends prg e below s _ _ _ T80 (mkF m 28 #[.val (.ref a), .val (.ref g), .val (.double u), .second, .val (.int (2 : Int32))] [(.ref pa), (.double u), (.double i2), (.int (2 : Int32)), (.ref g)])
    refine own_iload (pc' := 30) X80 hx (hb hby own_d5_28) rfl rfl ?_
    have f81 := (f73.other W74 n3)
    refine own_daload (pc' := 31) (v := (.double q2)) X80 hx hZ e80 f81 (hb hby own_d5_30) rfl (by decide) rfl ?_
    refine own_dmul (pc' := 32) (z := (FP.dmul u q2)) X80 hx (hb hby own_d5_31) rfl (Jvm.Free.Fl.dmul_out hu hq2) rfl ?_
    refine own_dadd (pc' := 33) (z := (FP.dadd i2 (FP.dmul u q2))) X80 hx (hb hby own_d5_32) rfl (own_nan hi2 hu hq2) rfl ?_
    refine own_dastore (pc' := 34) X80 hx hZ e80 V74 (hb hby own_d5_33) rfl (by decide) 2 rfl (by simp) N74 ge0 ?_
    intro T82 h82 L82 X82 e82 N82 W82 V82
    replace V82 : Arv Z h82 g gk .double (4 : Int32) [(.double (FP.dadd i0 (FP.dmul u q0))), (.double i1), (.double (FP.dadd i2 (FP.dmul u q2))), (.double (FP.dadd i3 (FP.dmul u q1)))] (.double 0) := V82
    show own_Ends prg e below s _ _ _ T82 (mkF m 34 #[.val (.ref a), .val (.ref g), .val (.double u), .second, .val (.int (2 : Int32))] [])
    refine own_iinc (pc' := 37) (z := (3 : Int32)) (l' := #[.val (.ref a), .val (.ref g), .val (.double u), .second, .val (.int (3 : Int32))]) X82 hx (hb hby own_d5_34) rfl rfl (by decide) rfl ?_
    refine own_goto (pc' := 3) X82 hx (hb hby own_d5_37) (by decide) (by decide) ?_
    refine own_iload (pc' := 5) X82 hx (hb hby own_d5_3) rfl rfl ?_
    refine own_aloadN (pc' := 6) X82 hx (hb hby own_d5_5) rfl rfl rfl ?_
    have f83 := (f75.other W82 (Or.inl n1))
    obtain ⟨T84, X84, e84, st84⟩ := getF X82 hx hZ hown (host := "") (Or.inl (own_w27 hw)) Via.refl e82 f83 (g := (mkF m 6 #[.val (.ref a), .val (.ref g), .val (.double u), .second, .val (.int (3 : Int32))] [(.ref a), (.int (3 : Int32))])) rfl rfl (hb hby own_d5_6)
    refine own_go st84 ?_
    show own_Ends prg e below s _ _ _ T84 (mkF m 9 #[.val (.ref a), .val (.ref g), .val (.double u), .second, .val (.int (3 : Int32))] [(.ref ca), (.int (3 : Int32))])
    have f85 := (f77.other W82 n2)
    refine own_alen (pc' := 10) X84 hx hZ e84 f85 (hb hby own_d5_9) rfl ?_
    refine own_icmpNo (pc' := 13) X84 hx (hb hby own_d5_10) rfl (tlt (by decide)).2.1 ?_
    refine own_aloadN (pc' := 14) X84 hx (hb hby own_d5_13) rfl rfl rfl ?_
    refine own_aloadN (pc' := 15) X84 hx (hb hby own_d5_14) rfl rfl rfl ?_
    obtain ⟨T86, X86, e86, st86⟩ := getF X84 hx hZ hown (host := "") (Or.inl (own_w27 hw)) Via.refl e84 f83 (g := (mkF m 15 #[.val (.ref a), .val (.ref g), .val (.double u), .second, .val (.int (3 : Int32))] [(.ref a), (.ref g)])) rfl rfl (hb hby own_d5_15)
    refine own_go st86 ?_
    show own_Ends prg e below s _ _ _ T86 (mkF m 18 #[.val (.ref a), .val (.ref g), .val (.double u), .second, .val (.int (3 : Int32))] [(.ref ca), (.ref g)])
    refine own_iload (pc' := 20) X86 hx (hb hby own_d5_18) rfl rfl ?_
    refine own_iaload (pc' := 21) (v := (.int (1 : Int32))) X86 hx hZ e86 f85 (hb hby own_d5_20) rfl (by decide) rfl ?_
    refine own_dup2 (pc' := 22) X86 hx (hb hby own_d5_21) rfl rfl rfl ?_
    refine own_daload (pc' := 23) (v := (.double i1)) X86 hx hZ e86 V82 (hb hby own_d5_22) rfl (by decide) rfl ?_
    refine own_dloadN (pc' := 24) X86 hx (hb hby own_d5_23) rfl rfl ?_
    refine own_aloadN (pc' := 25) X86 hx (hb hby own_d5_24) rfl rfl rfl ?_
    have f87 := (f79.other W82 (Or.inl n1))
    obtain ⟨T88, X88, e88, st88⟩ := getF X86 hx hZ hown (host := "") (Or.inl (own_w35 hw)) Via.refl e86 f87 (g := (mkF m 25 #[.val (.ref a), .val (.ref g), .val (.double u), .second, .val (.int (3 : Int32))] [(.ref a), (.double u), (.double i1), (.int (1 : Int32)), (.ref g)])) rfl rfl (hb hby own_d5_25)
    refine own_go st88 ?_
    show own_Ends prg e below s _ _ _ T88 (mkF m 28 #[.val (.ref a), .val (.ref g), .val (.double u), .second, .val (.int (3 : Int32))] [(.ref pa), (.double u), (.double i1), (.int (1 : Int32)), (.ref g)])
    refine own_iload (pc' := 30) X88 hx (hb hby own_d5_28) rfl rfl ?_
    have f89 := (f81.other W82 n3)
    refine own_daload (pc' := 31) (v := (.double q3)) X88 hx hZ e88 f89 (hb hby own_d5_30) rfl (by decide) rfl ?_
    refine own_dmul (pc' := 32) (z := (FP.dmul u q3)) X88 hx (hb hby own_d5_31) rfl (Jvm.Free.Fl.dmul_out hu hq3) rfl ?_
    refine own_dadd (pc' := 33) (z := (FP.dadd i1 (FP.dmul u q3))) X88 hx (hb hby own_d5_32) rfl (own_nan hi1 hu hq3) rfl ?_
    refine own_dastore (pc' := 34) X88 hx hZ e88 V82 (hb hby own_d5_33) rfl (by decide) 1 rfl (by simp) N82 ge0 ?_
    intro T90 h90 L90 X90 e90 N90 W90 V90
    replace V90 : Arv Z h90 g gk .double (4 : Int32) [(.double (FP.dadd i0 (FP.dmul u q0))), (.double (FP.dadd i1 (FP.dmul u q3))), (.double (FP.dadd i2 (FP.dmul u q2))), (.double (FP.dadd i3 (FP.dmul u q1)))] (.double 0) := V90
    show own_Ends prg e below s _ _ _ T90 (mkF m 34 #[.val (.ref a), .val (.ref g), .val (.double u), .second, .val (.int (3 : Int32))] [])
    refine own_iinc (pc' := 37) (z := (4 : Int32)) (l' := #[.val (.ref a), .val (.ref g), .val (.double u), .second, .val (.int (4 : Int32))]) X90 hx (hb hby own_d5_34) rfl rfl (by decide) rfl ?_
    refine own_goto (pc' := 3) X90 hx (hb hby own_d5_37) (by decide) (by decide) ?_
    refine own_iload (pc' := 5) X90 hx (hb hby own_d5_3) rfl rfl ?_
    refine own_aloadN (pc' := 6) X90 hx (hb hby own_d5_5) rfl rfl rfl ?_
    have f91 := (f83.other W90 (Or.inl n1))
    obtain ⟨T92, X92, e92, st92⟩ := getF X90 hx hZ hown (host := "") (Or.inl (own_w27 hw)) Via.refl e90 f91 (g := (mkF m 6 #[.val (.ref a), .val (.ref g), .val (.double u), .second, .val (.int (4 : Int32))] [(.ref a), (.int (4 : Int32))])) rfl rfl (hb hby own_d5_6)
    refine own_go st92 ?_
    show own_Ends prg e below s _ _ _ T92 (mkF m 9 #[.val (.ref a), .val (.ref g), .val (.double u), .second, .val (.int (4 : Int32))] [(.ref ca), (.int (4 : Int32))])
    have f93 := (f85.other W90 n2)
    refine own_alen (pc' := 10) X92 hx hZ e92 f93 (hb hby own_d5_9) rfl ?_
    refine own_icmpYes (pc' := 40) X92 hx (hb hby own_d5_10) (flt (by decide)).2.1 (by decide) (by decide) ?_
    refine own_retV X92 hx hlk hret (hb hby own_d5_40) (by decide) (by decide) ?_
    have f94 := ((((K0.wr W66 (Or.inl (List.mem_of_getElem? (i := 0) rfl))).wr W74 (Or.inl (List.mem_of_getElem? (i := 0) rfl))).wr W82 (Or.inl (List.mem_of_getElem? (i := 0) rfl))).wr W90 (Or.inl (List.mem_of_getElem? (i := 0) rfl)))
    rw [e92]; exact ⟨rfl, N90, f94, V90⟩
  · replace V0 : Arv Z h0 ca ck .int (4 : Int32) [(.int (1 : Int32)), (.int (2 : Int32)), (.int (3 : Int32)), (.int (0 : Int32))] (.int (0 : Int32)) := V0
    refine own_iconst (pc' := 1) (z := (0 : Int32)) X0 hx (hb hby own_d5_0) rfl rfl ?_
    refine own_istore (pc' := 3) (l' := #[.val (.ref a), .val (.ref g), .val (.double u), .second, .val (.int (0 : Int32))]) X0 hx (hb hby own_d5_1) rfl rfl ?_
    refine own_iload (pc' := 5) X0 hx (hb hby own_d5_3) rfl rfl ?_
    refine own_aloadN (pc' := 6) X0 hx (hb hby own_d5_5) rfl rfl rfl ?_
    obtain ⟨T95, X95, e95, st95⟩ := getF X0 hx hZ hown (host := "") (Or.inl (own_w27 hw)) Via.refl e0 F0 (g := (mkF m 6 #[.val (.ref a), .val (.ref g), .val (.double u), .second, .val (.int (0 : Int32))] [(.ref a), (.int (0 : Int32))])) rfl rfl (hb hby own_d5_6)
    refine own_go st95 ?_
    show own_Ends prg e below s _ _ _ T95 (mkF m 9 #[.val (.ref a), .val (.ref g), .val (.double u), .second, .val (.int (0 : Int32))] [(.ref ca), (.int (0 : Int32))])
    refine own_alen (pc' := 10) X95 hx hZ e95 V0 (hb hby own_d5_9) rfl ?_
    refine own_icmpNo (pc' := 13) X95 hx (hb hby own_d5_10) rfl (tlt (by decide)).2.1 ?_
    refine own_aloadN (pc' := 14) X95 hx (hb hby own_d5_13) rfl rfl rfl ?_
    refine own_aloadN (pc' := 15) X95 hx (hb hby own_d5_14) rfl rfl rfl ?_
    obtain ⟨T96, X96, e96, st96⟩ := getF X95 hx hZ hown (host := "") (Or.inl (own_w27 hw)) Via.refl e95 F0 (g := (mkF m 15 #[.val (.ref a), .val (.ref g), .val (.double u), .second, .val (.int (0 : Int32))] [(.ref a), (.ref g)])) rfl rfl (hb hby own_d5_15)
    refine own_go st96 ?_
    show own_Ends prg e below s _ _ _ T96 (mkF m 18 #[.val (.ref a), .val (.ref g), .val (.double u), .second, .val (.int (0 : Int32))] [(.ref ca), (.ref g)])
    refine own_iload (pc' := 20) X96 hx (hb hby own_d5_18) rfl rfl ?_
    refine own_iaload (pc' := 21) (v := (.int (1 : Int32))) X96 hx hZ e96 V0 (hb hby own_d5_20) rfl (by decide) rfl ?_
    refine own_dup2 (pc' := 22) X96 hx (hb hby own_d5_21) rfl rfl rfl ?_
    refine own_daload (pc' := 23) (v := (.double i1)) X96 hx hZ e96 V2 (hb hby own_d5_22) rfl (by decide) rfl ?_
    refine own_dloadN (pc' := 24) X96 hx (hb hby own_d5_23) rfl rfl ?_
    refine own_aloadN (pc' := 25) X96 hx (hb hby own_d5_24) rfl rfl rfl ?_
    obtain ⟨T97, X97, e97, st97⟩ := getF X96 hx hZ hown (host := "") (Or.inl (own_w35 hw)) Via.refl e96 F1 (g := (mkF m 25 #[.val (.ref a), .val (.ref g), .val (.double u), .second, .val (.int (0 : Int32))] [(.ref a), (.double u), (.double i1), (.int (1 : Int32)), (.ref g)])) rfl rfl (hb hby own_d5_25)
    refine own_go st97 ?_
    show own_Ends prg e below s _ _ _ T97 (mkF m 28 #[.val (.ref a), .val (.ref g), .val (.double u), .second, .val (.int (0 : Int32))] [(.ref pa), (.double u), (.double i1), (.int (1 : Int32)), (.ref g)])
    refine own_iload (pc' := 30) X97 hx (hb hby own_d5_28) rfl rfl ?_
    refine own_daload (pc' := 31) (v := (.double q0)) X97 hx hZ e97 V1 (hb hby own_d5_30) rfl (by decide) rfl ?_
    refine own_dmul (pc' := 32) (z := (FP.dmul u q0)) X97 hx (hb hby own_d5_31) rfl (Jvm.Free.Fl.dmul_out hu hq0) rfl ?_
    refine own_dadd (pc' := 33) (z := (FP.dadd i1 (FP.dmul u q0))) X97 hx (hb hby own_d5_32) rfl (own_nan hi1 hu hq0) rfl ?_
    refine own_dastore (pc' := 34) X97 hx hZ e97 V2 (hb hby own_d5_33) rfl (by decide) 1 rfl (by simp) N0 ge0 ?_
    intro T98 h98 L98 X98 e98 N98 W98 V98
    replace V98 : Arv Z h98 g gk .double (4 : Int32) [(.double i0), (.double (FP.dadd i1 (FP.dmul u q0))), (.double i2), (.double i3)] (.double 0) := V98
    show own_Ends prg e below s _ _ _ T98 (mkF m 34 #[.val (.ref a), .val (.ref g), .val (.double u), .second, .val (.int (0 : Int32))] [])
    refine own_iinc (pc' := 37) (z := (1 : Int32)) (l' := #[.val (.ref a), .val (.ref g), .val (.double u), .second, .val (.int (1 : Int32))]) X98 hx (hb hby own_d5_34) rfl rfl (by decide) rfl ?_
    refine own_goto (pc' := 3) X98 hx (hb hby own_d5_37) (by decide) (by decide) ?_
    refine own_iload (pc' := 5) X98 hx (hb hby own_d5_3) rfl rfl ?_
    refine own_aloadN (pc' := 6) X98 hx (hb hby own_d5_5) rfl rfl rfl ?_
    have f99 := (F0.other W98 (Or.inl n1))
    obtain ⟨T100, X100, e100, st100⟩ := getF X98 hx hZ hown (host := "") (Or.inl (own_w27 hw)) Via.refl e98 f99 (g := (mkF m 6 #[.val (.ref a), .val (.ref g), .val (.double u), .second, .val (.int (1 : Int32))] [(.ref a), (.int (1 : Int32))])) rfl rfl (hb hby own_d5_6)
    refine own_go st100 ?_
    show own_Ends prg e below s _ _ _ T100 (mkF m 9 #[.val (.ref a), .val (.ref g), .val (.double u), .second, .val (.int (1 : Int32))] [(.ref ca), (.int (1 : Int32))])
    have f101 := (V0.other W98 n2)
    refine own_alen (pc' := 10) X100 hx hZ e100 f101 (hb hby own_d5_9) rfl ?_
    refine own_icmpNo (pc' := 13) X100 hx (hb hby own_d5_10) rfl (tlt (by decide)).2.1 ?_
    refine own_aloadN (pc' := 14) X100 hx (hb hby own_d5_13) rfl rfl rfl ?_
    refine own_aloadN (pc' := 15) X100 hx (hb hby own_d5_14) rfl rfl rfl ?_
    obtain ⟨T102, X102, e102, st102⟩ := getF X100 hx hZ hown (host := "") (Or.inl (own_w27 hw)) Via.refl e100 f99 (g := (mkF m 15 #[.val (.ref a), .val (.ref g), .val (.double u), .second, .val (.int (1 : Int32))] [(.ref a), (.ref g)])) rfl rfl (hb hby own_d5_15)
    refine own_go st102 ?_
    show own_Ends prg e below s _ _ _ T102 (mkF m 18 #[.val (.ref a), .val (.ref g), .val (.double u), .second, .val (.int (1 : Int32))] [(.ref ca), (.ref g)])
    refine own_iload (pc' := 20) X102 hx (hb hby own_d5_18) rfl rfl ?_
    refine own_iaload (pc' := 21) (v := (.int (2 : Int32))) X102 hx hZ e102 f101 (hb hby own_d5_20) rfl (by decide) rfl ?_
    refine own_dup2 (pc' := 22) X102 hx (hb hby own_d5_21) rfl rfl rfl ?_
    refine own_daload (pc' := 23) (v := (.double i2)) X102 hx hZ e102 V98 (hb hby own_d5_22) rfl (by decide) rfl ?_
    refine own_dloadN (pc' := 24) X102 hx (hb hby own_d5_23) rfl rfl ?_
    refine own_aloadN (pc' := 25) X102 hx (hb hby own_d5_24) rfl rfl rfl ?_
    have f103 := (F1.other W98 (Or.inl n1))
    obtain ⟨T104, X104, e104, st104⟩ := getF X102 hx hZ hown (host := "") (Or.inl (own_w35 hw)) Via.refl e102 f103 (g := (mkF m 25 #[.val (.ref a), .val (.ref g), .val (.double u), .second, .val (.int (1 : Int32))] [(.ref a), (.double u), (.double i2), (.int (2 : Int32)), (.ref g)])) rfl rfl (hb hby own_d5_25)
    refine own_go st104 ?_
    show own_Ends prg e below s _ _ _ T104 (mkF m 28 #[.val (.ref a), .val (.ref g), .val (.double u), .second, .val (.int (1 : Int32))] [(.ref pa), (.double u), (.double i2), (.int (2 : Int32)), (.ref g)])
    refine own_iload (pc' := 30) X104 hx (hb hby own_d5_28) rfl rfl ?_
    have f105 := (V1.other W98 n3)
    refine own_daload (pc' := 31) (v := (.double q1)) X104 hx hZ e104 f105 (hb hby own_d5_30) rfl (by decide) rfl ?_
    refine own_dmul (pc' := 32) (z := (FP.dmul u q1)) X104 hx (hb hby own_d5_31) rfl (Jvm.Free.Fl.dmul_out hu hq1) rfl ?_
    refine own_dadd (pc' := 33) (z := (FP.dadd i2 (FP.dmul u q1))) X104 hx (hb hby own_d5_32) rfl (own_nan hi2 hu hq1) rfl ?_
    refine own_dastore (pc' := 34) X104 hx hZ e104 V98 (hb hby own_d5_33) rfl (by decide) 2 rfl (by simp) N98 ge0 ?_
    intro T106 h106 L106 X106 e106 N106 W106 V106
    replace V106 : Arv Z h106 g gk .double (4 : Int32) [(.double i0), (.double (FP.dadd i1 (FP.dmul u q0))), (.double (FP.dadd i2 (FP.dmul u q1))), (.double i3)] (.double 0) := V106
    show own_Ends prg e below s _ _ _ T106 (mkF m 34 #[.val (.ref a), .val (.ref g), .val (.double u), .second, .val (.int (1 : Int32))] [])
    refine own_iinc (pc' := 37) (z := (2 : Int32)) (l' := #[.val (.ref a), .val (.ref g), .val (.double u), .second, .val (.int (2 : Int32))]) X106 hx (hb hby own_d5_34) rfl rfl (by decide) rfl ?_
    refine own_goto (pc' := 3) X106 hx (hb hby own_d5_37) (by decide) (by decide) ?_
    refine own_iload (pc' := 5) X106 hx (hb hby own_d5_3) rfl rfl ?_
    refine own_aloadN (pc' := 6) X106 hx (hb hby own_d5_5) rfl rfl rfl ?_
    have f107 := (f99.other W106 (Or.inl n1))
    obtain ⟨T108, X108, e108, st108⟩ := getF X106 hx hZ hown (host := "") (Or.inl (own_w27 hw)) Via.refl e106 f107 (g := (mkF m 6 #[.val (.ref a), .val (.ref g), .val (.double u), .second, .val (.int (2 : Int32))] [(.ref a), (.int (2 : Int32))])) rfl rfl (hb hby own_d5_6)
    refine own_go st108 ?_
    show own_Ends prg e below s _ _ _ T108 (mkF m 9 #[.val (.ref a), .val (.ref g), .val (.double u), .second, .val (.int (2 : Int32))] [(.ref ca), (.int (2 : Int32))])
    have f109 := (f101.other W106 n2)
    refine own_alen (pc' := 10) X108 hx hZ e108 f109 (hb hby own_d5_9) rfl ?_
    refine own_icmpNo (pc' := 13) X108 hx (hb hby own_d5_10) rfl (tlt (by decide)).2.1 ?_
    refine own_aloadN (pc' := 14) X108 hx (hb hby own_d5_13) rfl rfl rfl ?_
    refine own_aloadN (pc' := 15) X108 hx (hb hby own_d5_14) rfl rfl rfl ?_
    obtain ⟨T110, X110, e110, st110⟩ := getF X108 hx hZ hown (host := "") (Or.inl (own_w27 hw)) Via.refl e108 f107 (g := (mkF m 15 #[.val (.ref a), .val (.ref g), .val (.double u), .second, .val (.int (2 : Int32))] [(.ref a), (.ref g)])) rfl rfl (hb hby own_d5_15)
    refine own_go st110 ?_
    show own_Ends prg e below s _ _ _ T110 (mkF m 18 #[.val (.ref a), .val (.ref g), .val (.double u), .second, .val (.int (2 : Int32))] [(.ref ca), (.ref g)])
    refine own_iload (pc' := 20) X110 hx (hb hby own_d5_18) rfl rfl ?_
    refine own_iaload (pc' := 21) (v := (.int (3 : Int32))) X110 hx hZ e110 f109 (hb hby own_d5_20) rfl (by decide) rfl ?_
    refine own_dup2 (pc' := 22) X110 hx (hb hby own_d5_21) rfl rfl rfl ?_
    refine own_daload (pc' := 23) (v := (.double i3)) X110 hx hZ e110 V106 (hb hby own_d5_22) rfl (by decide) rfl ?_
    refine own_dloadN (pc' := 24) X110 hx (hb hby own_d5_23) rfl rfl ?_
    refine own_aloadN (pc' := 25) X110 hx (hb hby own_d5_24) rfl rfl rfl ?_
    have f111 := (f103.other W106 (Or.inl n1))
    obtain ⟨T112, X112, e112, st112⟩ := getF X110 hx hZ hown (host := "") (Or.inl (own_w35 hw)) Via.refl e110 f111 (g := (mkF m 25 #[.val (.ref a), .val (.ref g), .val (.double u), .second, .val (.int (2 : Int32))] [(.ref a), (.double u), (.double i3), (.int (3 : Int32)), (.ref g)])) rfl rfl (hb hby own_d5_25)
    refine own_go st112 ?_
    show own_Ends prg e below s _ _ _ T112 (mkF m 28 #[.val (.ref a), .val (.ref g), .val (.double u), .second, .val (.int (2 : Int32))] [(.ref pa), (.double u), (.double i3), (.int (3 : Int32)), (.ref g)])
    refine own_iload (pc' := 30) X112 hx (hb hby own_d5_28) rfl rfl ?_
    have f113 := (f105.other W106 n3)
    refine own_daload (pc' := 31) (v := (.double q2)) X112 hx hZ e112 f113 (hb hby own_d5_30) rfl (by decide) rfl ?_
    refine own_dmul (pc' := 32) (z := (FP.dmul u q2)) X112 hx (hb hby own_d5_31) rfl (Jvm.Free.Fl.dmul_out hu hq2) rfl ?_
    refine own_dadd (pc' := 33) (z := (FP.dadd i3 (FP.dmul u q2))) X112 hx (hb hby own_d5_32) rfl (own_nan hi3 hu hq2) rfl ?_
    refine own_dastore (pc' := 34) X112 hx hZ e112 V106 (hb hby own_d5_33) rfl (by decide) 3 rfl (by simp) N106 ge0 ?_
    intro T114 h114 L114 X114 e114 N114 W114 V114
    replace V114 : Arv Z h114 g gk .double (4 : Int32) [(.double i0), (.double (FP.dadd i1 (FP.dmul u q0))), (.double (FP.dadd i2 (FP.dmul u q1))), (.double (FP.dadd i3 (FP.dmul u q2)))] (.double 0) := V114
    show own_Ends prg e below s _ _ _ T114 (mkF m 34 #[.val (.ref a), .val (.ref g), .val (.double u), .second, .val (.int (2 : Int32))] [])
    refine own_iinc (pc' := 37) (z := (3 : Int32)) (l' := #[.val (.ref a), .val (.ref g), .val (.double u), .second, .val (.int (3 : Int32))]) X114 hx (hb hby own_d5_34) rfl rfl (by decide) rfl ?_
    refine own_goto (pc' := 3) X114 hx (hb hby own_d5_37) (by decide) (by decide) ?_
    refine own_iload (pc' := 5) X114 hx (hb hby own_d5_3) rfl rfl ?_
    refine own_aloadN (pc' := 6) X114 hx (hb hby own_d5_5) rfl rfl rfl ?_
    have f115 := (f107.other W114 (Or.inl n1))
    obtain ⟨T116, X116, e116, st116⟩ := getF X114 hx hZ hown (host := "") (Or.inl (own_w27 hw)) Via.refl e114 f115 (g := (mkF m 6 #[.val (.ref a), .val (.ref g), .val (.double u), .second, .val (.int (3 : Int32))] [(.ref a), (.int (3 : Int32))])) rfl rfl (hb hby own_d5_6)
    refine own_go st116 ?_
    show own_Ends prg e below s _ _ _ T116 (mkF m 9 #[.val (.ref a), .val (.ref g), .val (.double u), .second, .val (.int (3 : Int32))] [(.ref ca), (.int (3 : Int32))])
    have f117 := (f109.other W114 n2)
    refine own_alen (pc' := 10) X116 hx hZ e116 f117 (hb hby own_d5_9) rfl ?_
    refine own_icmpNo (pc' := 13) X116 hx (hb hby own_d5_10) rfl (tlt (by decide)).2.1 ?_
    refine own_aloadN (pc' := 14) X116 hx (hb hby own_d5_13) rfl rfl rfl ?_
    refine own_aloadN (pc' := 15) X116 hx (hb hby own_d5_14) rfl rfl rfl ?_
    obtain ⟨T118, X118, e118, st118⟩ := getF X116 hx hZ hown (host := "") (Or.inl (own_w27 hw)) Via.refl e116 f115 (g := (mkF m 15 #[.val (.ref a), .val (.ref g), .val (.double u), .second, .val (.int (3 : Int32))] [(.ref a), (.ref g)])) rfl rfl (hb hby own_d5_15)
    refine own_go st118 ?_
    show own_Ends prg e below s _ _ _ T118 (mkF m 18 #[.val (.ref a), .val (.ref g), .val (.double u), .second, .val (.int (3 : Int32))] [(.ref ca), (.ref g)])
    refine own_iload (pc' := 20) X118 hx (hb hby own_d5_18) rfl rfl ?_
    refine own_iaload (pc' := 21) (v := (.int (0 : Int32))) X118 hx hZ e118 f117 (hb hby own_d5_20) rfl (by decide) rfl ?_
    refine own_dup2 (pc' := 22) X118 hx (hb hby own_d5_21) rfl rfl rfl ?_
    refine own_daload (pc' := 23) (v := (.double i0)) X118 hx hZ e118 V114 (hb hby own_d5_22) rfl (by decide) rfl ?_
    refine own_dloadN (pc' := 24) X118 hx (hb hby own_d5_23) rfl rfl ?_
    refine own_aloadN (pc' := 25) X118 hx (hb hby own_d5_24) rfl rfl rfl ?_
    have f119 := (f111.other W114 (Or.inl n1))
    obtain ⟨T120, X120, e120, st120⟩ := getF X118 hx hZ hown (host := "") (Or.inl (own_w35 hw)) Via.refl e118 f119 (g := (mkF m 25 #[.val (.ref a), .val (.ref g), .val (.double u), .second, .val (.int (3 : Int32))] [(.ref a), (.double u), (.double i0), (.int (0 : Int32)), (.ref g)])) rfl rfl (hb hby own_d5_25)
    refine own_go st120 ?_
    show own_Ends prg e below s _ _ _ T120 (mkF m 28 #[.val (.ref a), .val (.ref g), .val (.double u), .second, .val (.int (3 : Int32))] [(.ref pa), (.double u), (.double i0), (.int (0 : Int32)), (.ref g)])
    refine own_iload (pc' := 30) X120 hx (hb hby own_d5_28) rfl rfl ?_
    have f121 := (f113.other W114 n3)
    refine own_daload (pc' := 31) (v := (.double q3)) X120 hx hZ e120 f121 (hb hby own_d5_30) rfl (by decide) rfl ?_
    refine own_dmul (pc' := 32) (z := (FP.dmul u q3)) X120 hx (hb hby own_d5_31) rfl (Jvm.Free.Fl.dmul_out hu hq3) rfl ?_
    refine own_dadd (pc' := 33) (z := (FP.dadd i0 (FP.dmul u q3))) X120 hx (hb hby own_d5_32) rfl (own_nan hi0 hu hq3) rfl ?_
    refine own_dastore (pc' := 34) X120 hx hZ e120 V114 (hb hby own_d5_33) rfl (by decide) 0 rfl (by simp) N114 ge0 ?_
    intro T122 h122 L122 X122 e122 N122 W122 V122
    replace V122 : Arv Z h122 g gk .double (4 : Int32) [(.double (FP.dadd i0 (FP.dmul u q3))), (.double (FP.dadd i1 (FP.dmul u q0))), (.double (FP.dadd i2 (FP.dmul u q1))), (.double (FP.dadd i3 (FP.dmul u q2)))] (.double 0) := V122
    show own_Ends prg e below s _ _ _ T122 (mkF m 34 #[.val (.ref a), .val (.ref g), .val (.double u), .second, .val (.int (3 : Int32))] [])
    refine own_iinc (pc' := 37) (z := (4 : Int32)) (l' := #[.val (.ref a), .val (.ref g), .val (.double u), .second, .val (.int (4 : Int32))]) X122 hx (hb hby own_d5_34) rfl rfl (by decide) rfl ?_
    refine own_goto (pc' := 3) X122 hx (hb hby own_d5_37) (by decide) (by decide) ?_
    refine own_iload (pc' := 5) X122 hx (hb hby own_d5_3) rfl rfl ?_
    refine own_aloadN (pc' := 6) X122 hx (hb hby own_d5_5) rfl rfl rfl ?_
    have f123 := (f115.other W122 (Or.inl n1))
    obtain ⟨T124, X124, e124, st124⟩ := getF X122 hx hZ hown (host := "") (Or.inl (own_w27 hw)) Via.refl e122 f123 (g := (mkF m 6 #[.val (.ref a), .val (.ref g), .val (.double u), .second, .val (.int (4 : Int32))] [(.ref a), (.int (4 : Int32))])) rfl rfl (hb hby own_d5_6)
    refine own_go st124 ?_
    show own_Ends prg e below s _ _ _ T124 (mkF m 9 #[.val (.ref a), .val (.ref g), .val (.double u), .second, .val (.int (4 : Int32))] [(.ref ca), (.int (4 : Int32))])
    have f125 := (f117.other W122 n2)
    refine own_alen (pc' := 10) X124 hx hZ e124 f125 (hb hby own_d5_9) rfl ?_
    refine own_icmpYes (pc' := 40) X124 hx (hb hby own_d5_10) (flt (by decide)).2.1 (by decide) (by decide) ?_
    refine own_retV X124 hx hlk hret (hb hby own_d5_40) (by decide) (by decide) ?_
    have f126 := ((((K0.wr W98 (Or.inl (List.mem_of_getElem? (i := 0) rfl))).wr W106 (Or.inl (List.mem_of_getElem? (i := 0) rfl))).wr W114 (Or.inl (List.mem_of_getElem? (i := 0) rfl))).wr W122 (Or.inl (List.mem_of_getElem? (i := 0) rfl)))
    rw [e124]; exact ⟨rfl, N122, f126, V122⟩
  · replace V0 : Arv Z h0 ca ck .int (4 : Int32) [(.int (1 : Int32)), (.int (0 : Int32)), (.int (3 : Int32)), (.int (2 : Int32))] (.int (0 : Int32)) := V0
    refine own_iconst (pc' := 1) (z := (0 : Int32)) X0 hx (hb hby own_d5_0) rfl rfl ?_
    refine own_istore (pc' := 3) (l' := #[.val (.ref a), .val (.ref g), .val (.double u), .second, .val (.int (0 : Int32))]) X0 hx (hb hby own_d5_1) rfl rfl ?_
    refine own_iload (pc' := 5) X0 hx (hb hby own_d5_3) rfl rfl ?_
    refine own_aloadN (pc' := 6) X0 hx (hb hby own_d5_5) rfl rfl rfl ?_
    obtain ⟨T127, X127, e127, st127⟩ := getF X0 hx hZ hown (host := "") (Or.inl (own_w27 hw)) Via.refl e0 F0 (g := (mkF m 6 #[.val (.ref a), .val (.ref g), .val (.double u), .second, .val (.int (0 : Int32))] [(.ref a), (.int (0 : Int32))])) rfl rfl (hb hby own_d5_6)
    refine own_go st127 ?_
    show own_Ends prg e below s _ _ _ T127 (mkF m 9 #[.val (.ref a), .val (.ref g), .val (.double u), .second, .val (.int (0 : Int32))] [(.ref ca), (.int (0 : Int32))])
    refine own_alen (pc' := 10) X127 hx hZ e127 V0 (hb hby own_d5_9) rfl ?_
    refine own_icmpNo (pc' := 13) X127 hx (hb hby own_d5_10) rfl (tlt (by decide)).2.1 ?_
    refine own_aloadN (pc' := 14) X127 hx (hb hby own_d5_13) rfl rfl rfl ?_
    refine own_aloadN (pc' := 15) X127 hx (hb hby own_d5_14) rfl rfl rfl ?_
    obtain ⟨T128, X128, e128, st128⟩ := getF X127 hx hZ hown (host := "") (Or.inl (own_w27 hw)) Via.refl e127 F0 (g := (mkF m 15 #[.val (.ref a), .val (.ref g), .val (.double u), .second, .val (.int (0 : Int32))] [(.ref a), (.ref g)])) rfl rfl (hb hby own_d5_15)
    refine own_go st128 ?_
    show own_Ends prg e below s _ _ _ T128 (mkF m 18 #[.val (.ref a), .val (.ref g), .val (.double u), .second, .val (.int (0 : Int32))] [(.ref ca), (.ref g)])
    refine own_iload (pc' := 20) X128 hx (hb hby own_d5_18) rfl rfl ?_
    refine own_iaload (pc' := 21) (v := (.int (1 : Int32))) X128 hx hZ e128 V0 (hb hby own_d5_20) rfl (by decide) rfl ?_
    refine own_dup2 (pc' := 22) X128 hx (hb hby own_d5_21) rfl rfl rfl ?_
    refine own_daload (pc' := 23) (v := (.double i1)) X128 hx hZ e128 V2 (hb hby own_d5_22) rfl (by decide) rfl ?_
    refine own_dloadN (pc' := 24) X128 hx (hb hby own_d5_23) rfl rfl ?_
    refine own_aloadN (pc' := 25) X128 hx (hb hby own_d5_24) rfl rfl rfl ?_
    obtain ⟨T129, X129, e129, st129⟩ := getF X128 hx hZ hown (host := "") (Or.inl (own_w35 hw)) Via.refl e128 F1 (g := (mkF m 25 #[.val (.ref a), .val (.ref g), .val (.double u), .second, .val (.int (0 : Int32))] [(.ref a), (.double u), (.double i1), (.int (1 : Int32)), (.ref g)])) rfl rfl (hb hby own_d5_25)
    refine own_go st129 ?_
    show own_Ends prg e below s _ _ _ T129 (mkF m 28 #[.val (.ref a), .val (.ref g), .val (.double u), .second, .val (.int (0 : Int32))] [(.ref pa), (.double u), (.double i1), (.int (1 : Int32)), (.ref g)])
    refine own_iload (pc' := 30) X129 hx (hb hby own_d5_28) rfl rfl ?_
    refine own_daload (pc' := 31) (v := (.double q0)) X129 hx hZ e129 V1 (hb hby own_d5_30) rfl (by decide) rfl ?_
    refine own_dmul (pc' := 32) (z := (FP.dmul u q0)) X129 hx (hb hby own_d5_31) rfl (Jvm.Free.Fl.dmul_out hu hq0) rfl ?_
    refine own_dadd (pc' := 33) (z := (FP.dadd i1 (FP.dmul u q0))) X129 hx (hb hby own_d5_32) rfl (own_nan hi1 hu hq0) rfl ?_
    refine own_dastore (pc' := 34) X129 hx hZ e129 V2 (hb hby own_d5_33) rfl (by decide) 1 rfl (by simp) N0 ge0 ?_
    intro T130 h130 L130 X130 e130 N130 W130 V130
    replace V130 : Arv Z h130 g gk .double (4 : Int32) [(.double i0), (.double (FP.dadd i1 (FP.dmul u q0))), (.double i2), (.double i3)] (.double 0) := V130
    show own_Ends prg e below s _ _ _ T130 (mkF m 34 #[.val (.ref a), .val (.ref g), .val (.double u), .second, .val (.int (0 : Int32))] [])
    refine own_iinc (pc' := 37) (z := (1 : Int32)) (l' := #[.val (.ref a), .val (.ref g), .val (.double u), .second, .val (.int (1 : Int32))]) X130 hx (hb hby own_d5_34) rfl rfl (by decide) rfl ?_
    refine own_goto (pc' := 3) X130 hx (hb hby own_d5_37) (by decide) (by decide) ?_
    refine own_iload (pc' := 5) X130 hx (hb hby own_d5_3) rfl rfl ?_
    refine own_aloadN (pc' := 6) X130 hx (hb hby own_d5_5) rfl rfl rfl ?_
    have f131 := (F0.other W130 (Or.inl n1))
    obtain ⟨T132, X132, e132, st132⟩ := getF X130 hx hZ hown (host := "") (Or.inl (own_w27 hw)) Via.refl e130 f131 (g := (mkF m 6 #[.val (.ref a), .val (.ref g), .val (.double u), .second, .val (.int (1 : Int32))] [(.ref a), (.int (1 : Int32))])) rfl rfl (hb hby own_d5_6)
    refine own_go st132 ?_
    show own_Ends prg e below s _ _ _ T132 (mkF m 9 #[.val (.ref a), .val (.ref g), .val (.double u), .second, .val (.int (1 : Int32))] [(.ref ca), (.int (1 : Int32))])
    have f133 := (V0.other W130 n2)
    refine own_alen (pc' := 10) X132 hx hZ e132 f133 (hb hby own_d5_9) rfl ?_
    refine own_icmpNo (pc' := 13) X132 hx (hb hby own_d5_10) rfl (tlt (by decide)).2.1 ?_
    refine own_aloadN (pc' := 14) X132 hx (hb hby own_d5_13) rfl rfl rfl ?_
    refine own_aloadN (pc' := 15) X132 hx (hb hby own_d5_14) rfl rfl rfl ?_
    obtain ⟨T134, X134, e134, st134⟩ := getF X132 hx hZ hown (host := "") (Or.inl (own_w27 hw)) Via.refl e132 f131 (g := (mkF m 15 #[.val (.ref a), .val (.ref g), .val (.double u), .second, .val (.int (1 : Int32))] [(.ref a), (.ref g)])) rfl rfl (hb hby own_d5_15)
    refine own_go st134 ?_
    show own_Ends prg e below s _ _ _ T134 (mkF m 18 #[.val (.ref a), .val (.ref g), .val (.double u), .second, .val (.int (1 : Int32))] [(.ref ca), (.ref g)])
    refine own_iload (pc' := 20) X134 hx (hb hby own_d5_18) rfl rfl ?_
    refine own_iaload (pc' := 21) (v := (.int (0 : Int32))) X134 hx hZ e134 f133 (hb hby own_d5_20) rfl (by decide) rfl ?_
    refine own_dup2 (pc' := 22) X134 hx (hb hby own_d5_21) rfl rfl rfl ?_
    refine own_daload (pc' := 23) (v := (.double i0)) X134 hx hZ e134 V130 (hb hby own_d5_22) rfl (by decide) rfl ?_
    refine own_dloadN (pc' := 24) X134 hx (hb hby own_d5_23) rfl rfl ?_
    refine own_aloadN (pc' := 25) X134 hx (hb hby own_d5_24) rfl rfl rfl ?_
    have f135 := (F1.other W130 (Or.inl n1))
    obtain ⟨T136, X136, e136, st136⟩ := getF X134 hx hZ hown (host := "") (Or.inl (own_w35 hw)) Via.refl e134 f135 (g := (mkF m 25 #[.val (.ref a), .val (.ref g), .val (.double u), .second, .val (.int (1 : Int32))] [(.ref a), (.double u), (.double i0), (.int (0 : Int32)), (.ref g)])) rfl rfl (hb hby own_d5_25)
    refine own_go st136 ?_
    show own_Ends prg e below s _ _ _ T136 (mkF m 28 #[.val (.ref a), .val (.ref g), .val (.double u), .second, .val (.int (1 : Int32))] [(.ref pa), (.double u), (.double i0), (.int (0 : Int32)), (.ref g)])
    refine own_iload (pc' := 30) X136 hx (hb hby own_d5_28) rfl rfl ?_
    have f137 := (V1.other W130 n3)
    refine own_daload (pc' := 31) (v := (.double q1)) X136 hx hZ e136 f137 (hb hby own_d5_30) rfl (by decide) rfl ?_
    refine own_dmul (pc' := 32) (z := (FP.dmul u q1)) X136 hx (hb hby own_d5_31) rfl (Jvm.Free.Fl.dmul_out hu hq1) rfl ?_
    refine own_dadd (pc' := 33) (z := (FP.dadd i0 (FP.dmul u q1))) X136 hx (hb hby own_d5_32) rfl (own_nan hi0 hu hq1) rfl ?_
    refine own_dastore (pc' := 34) X136 hx hZ e136 V130 (hb hby own_d5_33) rfl (by decide) 0 rfl (by simp) N130 ge0 ?_
    intro T138 h138 L138 X138 e138 N138 W138 V138
    replace V138 : Arv Z h138 g gk .double (4 : Int32) [(.double (FP.dadd i0 (FP.dmul u q1))), (.double (FP.dadd i1 (FP.dmul u q0))), (.double i2), (.double i3)] (.double 0) := V138
    show own_Ends prg e below s _ _ _ T138 (mkF m 34 #[.val (.ref a), .val (.ref g), .val (.double u), .second, .val (.int (1 : Int32))] [])
    refine own_iinc (pc' := 37) (z := (2 : Int32)) (l' := #[.val (.ref a), .val (.ref g), .val (.double u), .second, .val (.int (2 : Int32))]) X138 hx (hb hby own_d5_34) rfl rfl (by decide) rfl ?_
    refine own_goto (pc' := 3) X138 hx (hb hby own_d5_37) (by decide) (by decide) ?_
    refine own_iload (pc' := 5) X138 hx (hb hby own_d5_3) rfl rfl ?_
    refine own_aloadN (pc' := 6) X138 hx (hb hby own_d5_5) rfl rfl rfl ?_
    have f139 := (f131.other W138 (Or.inl n1))
    obtain ⟨T140, X140, e140, st140⟩ := getF X138 hx hZ hown (host := "") (Or.inl (own_w27 hw)) Via.refl e138 f139 (g := (mkF m 6 #[.val (.ref a), .val (.ref g), .val (.double u), .second, .val (.int (2 : Int32))] [(.ref a), (.int (2 : Int32))])) rfl rfl (hb hby own_d5_6)
    refine own_go st140 ?_
    show own_Ends prg e below s _ _ _ T140 (mkF m 9 #[.val (.ref a), .val (.ref g), .val (.double u), .second, .val (.int (2 : Int32))] [(.ref ca), (.int (2 : Int32))])
    have f141 := (f133.other W138 n2)
    refine own_alen (pc' := 10) X140 hx hZ e140 f141 (hb hby own_d5_9) rfl ?_
    refine own_icmpNo (pc' := 13) X140 hx (hb hby own_d5_10) rfl (tlt (by decide)).2.1 ?_
    refine own_aloadN (pc' := 14) X140 hx (hb hby own_d5_13) rfl rfl rfl ?_
    refine own_aloadN (pc' := 15) X140 hx (hb hby own_d5_14) rfl rfl rfl ?_
    obtain ⟨T142, X142, e142, st142⟩ := getF X140 hx hZ hown (host := "") (Or.inl (own_w27 hw)) Via.refl e140 f139 (g := (mkF m 15 #[.val (.ref a), .val (.ref g), .val (.double u), .second, .val (.int (2 : Int32))] [(.ref a), (.ref g)])) rfl rfl (hb hby own_d5_15)
    refine own_go st142 ?_
    show own_Ends prg e below s _ _ _ T142 (mkF m 18 #[.val (.ref a), .val (.ref g), .val (.double u), .second, .val (.int (2 : Int32))] [(.ref ca), (.ref g)])
    refine own_iload (pc' := 20) X142 hx (hb hby own_d5_18) rfl rfl ?_
    refine own_iaload (pc' := 21) (v := (.int (3 : Int32))) X142 hx hZ e142 f141 (hb hby own_d5_20) rfl (by decide) rfl ?_
    refine own_dup2 (pc' := 22) X142 hx (hb hby own_d5_21) rfl rfl rfl ?_
    refine own_daload (pc' := 23) (v := (.double i3)) X142 hx hZ e142 V138 (hb hby own_d5_22) rfl (by decide) rfl ?_
    refine own_dloadN (pc' := 24) X142 hx (hb hby own_d5_23) rfl rfl ?_
    refine own_aloadN (pc' := 25) X142 hx (hb hby own_d5_24) rfl rfl rfl ?_
    have f143 := (f135.other W138 (Or.inl n1))
    obtain ⟨T144, X144, e144, st144⟩ := getF X142 hx hZ hown (host := "") (Or.inl (own_w35 hw)) Via.refl e142 f143 (g := (mkF m 25 #[.val (.ref a), .val (.ref g), .val (.double u), .second, .val (.int (2 : Int32))] [(.ref a), (.double u), (.double i3), (.int (3 : Int32)), (.ref g)])) rfl rfl (hb hby own_d5_25)
    refine own_go st144 ?_
    show own_Ends prg e below s _ _ _ T144 (mkF m 28 #[.val (.ref a), .val (.ref g), .val (.double u), .second, .val (.int (2 : Int32))] [(.ref pa), (.double u), (.double i3), (.int (3 : Int32)), (.ref g)])
    refine own_iload (pc' := 30) X144 hx (hb hby own_d5_28) rfl rfl ?_
    have f145 := (f137.other W138 n3)
    refine own_daload (pc' := 31) (v := (.double q2)) X144 hx hZ e144 f145 (hb hby own_d5_30) rfl (by decide) rfl ?_
    refine own_dmul (pc' := 32) (z := (FP.dmul u q2)) X144 hx (hb hby own_d5_31) rfl (Jvm.Free.Fl.dmul_out hu hq2) rfl ?_
    refine own_dadd (pc' := 33) (z := (FP.dadd i3 (FP.dmul u q2))) X144 hx (hb hby own_d5_32) rfl (own_nan hi3 hu hq2) rfl ?_
    refine own_dastore (pc' := 34) X144 hx hZ e144 V138 (hb hby own_d5_33) rfl (by decide) 3 rfl (by simp) N138 ge0 ?_
    intro T146 h146 L146 X146 e146 N146 W146 V146
    replace V146 : Arv Z h146 g gk .double (4 : Int32) [(.double (FP.dadd i0 (FP.dmul u q1))), (.double (FP.dadd i1 (FP.dmul u q0))), (.double i2), (.double (FP.dadd i3 (FP.dmul u q2)))] (.double 0) := V146
    show own_Ends prg e below s _ _ _ T146 (mkF m 34 #[.val (.ref a), .val (.ref g), .val (.double u), .second, .val (.int (2 : Int32))] [])
    refine own_iinc (pc' := 37) (z := (3 : Int32)) (l' := #[.val (.ref a), .val (.ref g), .val (.double u), .second, .val (.int (3 : Int32))]) X146 hx (hb hby own_d5_34) rfl rfl (by decide) rfl ?_
    refine own_goto (pc' := 3) X146 hx (hb hby own_d5_37) (by decide) (by decide) ?_
    refine own_iload (pc' := 5) X146 hx (hb hby own_d5_3) rfl rfl ?_
    refine own_aloadN (pc' := 6) X146 hx (hb hby own_d5_5) rfl rfl rfl ?_
    have f147 := (f139.other W146 (Or.inl n1))
    obtain ⟨T148, X148, e148, st148⟩ := getF X146 hx hZ hown (host := "") (Or.inl (own_w27 hw)) Via.refl e146 f147 (g := (mkF m 6 #[.val (.ref a), .val (.ref g), .val (.double u), .second, .val (.int (3 : Int32))] [(.ref a), (.int (3 : Int32))])) rfl rfl (hb hby own_d5_6)
    refine own_go st148 ?_
    show own_Ends prg e below s _ _ _ T148 (mkF m 9 #[.val (.ref a), .val (.ref g), .val (.double u), .second, .val (.int (3 : Int32))] [(.ref ca), (.int (3 : Int32))])
    have f149 := (f141.other W146 n2)
    refine own_alen (pc' := 10) X148 hx hZ e148 f149 (hb hby own_d5_9) rfl ?_
    refine own_icmpNo (pc' := 13) X148 hx (hb hby own_d5_10) rfl (tlt (by decide)).2.1 ?_
    refine own_aloadN (pc' := 14) X148 hx (hb hby own_d5_13) rfl rfl rfl ?_
    refine own_aloadN (pc' := 15) X148 hx (hb hby own_d5_14) rfl rfl rfl ?_
    obtain ⟨T150, X150, e150, st150⟩ := getF X148 hx hZ hown (host := "") (Or.inl (own_w27 hw)) Via.refl e148 f147 (g := (mkF m 15 #[.val (.ref a), .val (.ref g), .val (.double u), .second, .val (.int (3 : Int32))] [(.ref a), (.ref g)])) rfl rfl (hb hby own_d5_15)
    refine own_go st150 ?_
    show own_Ends prg e below s _ _ _ T150 (mkF m 18 #[.val (.ref a), .val (.ref g), .val (.double u), .second, .val (.int (3 : Int32))] [(.ref ca), (.ref g)])
    refine own_iload (pc' := 20) X150 hx (hb hby own_d5_18) rfl rfl ?_
    refine own_iaload (pc' := 21) (v := (.int (2 : Int32))) X150 hx hZ e150 f149 (hb hby own_d5_20) rfl (by decide) rfl ?_
    refine own_dup2 (pc' := 22) X150 hx (hb hby own_d5_21) rfl rfl rfl ?_
    refine own_daload (pc' := 23) (v := (.double i2)) X150 hx hZ e150 V146 (hb hby own_d5_22) rfl (by decide) rfl ?_
    refine own_dloadN (pc' := 24) X150 hx (hb hby own_d5_23) rfl rfl ?_
    refine own_aloadN (pc' := 25) X150 hx (hb hby own_d5_24) rfl rfl rfl ?_
    have f151 := (f143.other W146 (Or.inl n1))
    obtain ⟨T152, X152, e152, st152⟩ := getF X150 hx hZ hown (host := "") (Or.inl (own_w35 hw)) Via.refl e150 f151 (g := (mkF m 25 #[.val (.ref a), .val (.ref g), .val (.double u), .second, .val (.int (3 : Int32))] [(.ref a), (.double u), (.double i2), (.int (2 : Int32)), (.ref g)])) rfl rfl (hb hby own_d5_25)
    refine own_go st152 ?_
    show own_Ends prg e below s _ _ _ T152 (mkF m 28 #[.val (.ref a), .val (.ref g), .val (.double u), .second, .val (.int (3 : Int32))] [(.ref pa), (.double u), (.double i2), (.int (2 : Int32)), (.ref g)])
    refine own_iload (pc' := 30) X152 hx (hb hby own_d5_28) rfl rfl ?_
    have f153 := (f145.other W146 n3)
    refine own_daload (pc' := 31) (v := (.double q3)) X152 hx hZ e152 f153 (hb hby own_d5_30) rfl (by decide) rfl ?_
    refine own_dmul (pc' := 32) (z := (FP.dmul u q3)) X152 hx (hb hby own_d5_31) rfl (Jvm.Free.Fl.dmul_out hu hq3) rfl ?_
    refine own_dadd (pc' := 33) (z := (FP.dadd i2 (FP.dmul u q3))) X152 hx (hb hby own_d5_32) rfl (own_nan hi2 hu hq3) rfl ?_
    refine own_dastore (pc' := 34) X152 hx hZ e152 V146 (hb hby own_d5_33) rfl (by decide) 2 rfl (by simp) N146 ge0 ?_
    intro T154 h154 L154 X154 e154 N154 W154 V154
    replace V154 : Arv Z h154 g gk .double (4 : Int32) [(.double (FP.dadd i0 (FP.dmul u q1))), (.double (FP.dadd i1 (FP.dmul u q0))), (.double (FP.dadd i2 (FP.dmul u q3))), (.double (FP.dadd i3 (FP.dmul u q2)))] (.double 0) := V154
    show own_Ends prg e below s _ _ _ T154 (mkF m 34 #[.val (.ref a), .val (.ref g), .val (.double u), .second, .val (.int (3 : Int32))] [])
    refine own_iinc (pc' := 37) (z := (4 : Int32)) (l' := #[.val (.ref a), .val (.ref g), .val (.double u), .second, .val (.int (4 : Int32))]) X154 hx (hb hby own_d5_34) rfl rfl (by decide) rfl ?_
    refine own_goto (pc' := 3) X154 hx (hb hby own_d5_37) (by decide) (by decide) ?_
    refine own_iload (pc' := 5) X154 hx (hb hby own_d5_3) rfl rfl ?_
    refine own_aloadN (pc' := 6) X154 hx (hb hby own_d5_5) rfl rfl rfl ?_
    have f155 := (f147.other W154 (Or.inl n1))
    obtain ⟨T156, X156, e156, st156⟩ := getF X154 hx hZ hown (host := "") (Or.inl (own_w27 hw)) Via.refl e154 f155 (g := (mkF m 6 #[.val (.ref a), .val (.ref g), .val (.double u), .second, .val (.int (4 : Int32))] [(.ref a), (.int (4 : Int32))])) rfl rfl (hb hby own_d5_6)
    refine own_go st156 ?_
    show own_Ends prg e below s _ _ _ T156 (mkF m 9 #[.val (.ref a), .val (.ref g), .val (.double u), .second, .val (.int (4 : Int32))] [(.ref ca), (.int (4 : Int32))])
    have f157 := (f149.other W154 n2)
    refine own_alen (pc' := 10) X156 hx hZ e156 f157 (hb hby own_d5_9) rfl ?_
    refine own_icmpYes (pc' := 40) X156 hx (hb hby own_d5_10) (flt (by decide)).2.1 (by decide) (by decide) ?_
    refine own_retV X156 hx hlk hret (hb hby own_d5_40) (by decide) (by decide) ?_
    have f158 := ((((K0.wr W130 (Or.inl (List.mem_of_getElem? (i := 0) rfl))).wr W138 (Or.inl (List.mem_of_getElem? (i := 0) rfl))).wr W146 (Or.inl (List.mem_of_getElem? (i := 0) rfl))).wr W154 (Or.inl (List.mem_of_getElem? (i := 0) rfl)))
    rw [e156]; exact ⟨rfl, N154, f158, V154⟩
  · replace V0 : Arv Z h0 ca ck .int (4 : Int32) [(.int (2 : Int32)), (.int (3 : Int32)), (.int (0 : Int32)), (.int (1 : Int32))] (.int (0 : Int32)) := V0
    refine own_iconst (pc' := 1) (z := (0 : Int32)) X0 hx (hb hby own_d5_0) rfl rfl ?_
    refine own_istore (pc' := 3) (l' := #[.val (.ref a), .val (.ref g), .val (.double u), .second, .val (.int (0 : Int32))]) X0 hx (hb hby own_d5_1) rfl rfl ?_
    refine own_iload (pc' := 5) X0 hx (hb hby own_d5_3) rfl rfl ?_
    refine own_aloadN (pc' := 6) X0 hx (hb hby own_d5_5) rfl rfl rfl ?_
    obtain ⟨T159, X159, e159, st159⟩ := getF X0 hx hZ hown (host := "") (Or.inl (own_w27 hw)) Via.refl e0 F0 (g := (mkF m 6 #[.val (.ref a), .val (.ref g), .val (.double u), .second, .val (.int (0 : Int32))] [(.ref a), (.int (0 : Int32))])) rfl rfl (hb hby own_d5_6)
    refine own_go st159 ?_
    show own_Ends prg e below s _ _ _ T159 (mkF m 9 #[.val (.ref a), .val (.ref g), .val (.double u), .second, .val (.int (0 : Int32))] [(.ref ca), (.int (0 : Int32))])
    refine own_alen (pc' := 10) X159 hx hZ e159 V0 (hb hby own_d5_9) rfl ?_
    refine own_icmpNo (pc' := 13) X159 hx (hb hby own_d5_10) rfl (tlt (by decide)).2.1 ?_
    refine own_aloadN (pc' := 14) X159 hx (hb hby own_d5_13) rfl rfl rfl ?_
    refine own_aloadN (pc' := 15) X159 hx (hb hby own_d5_14) rfl rfl rfl ?_
    obtain ⟨T160, X160, e160, st160⟩ := getF X159 hx hZ hown (host := "") (Or.inl (own_w27 hw)) Via.refl e159 F0 (g := (mkF m 15 #[.val (.ref a), .val (.ref g), .val (.double u), .second, .val (.int (0 : Int32))] [(.ref a), (.ref g)])) rfl rfl (hb hby own_d5_15)
    refine own_go st160 ?_
    show own_Ends prg e below s _ _ _ T160 (mkF m 18 #[.val (.ref a), .val (.ref g), .val (.double u), .second, .val (.int (0 : Int32))] [(.ref ca), (.ref g)])
    refine own_iload (pc' := 20) X160 hx (hb hby own_d5_18) rfl rfl ?_
    refine own_iaload (pc' := 21) (v := (.int (2 : Int32))) X160 hx hZ e160 V0 (hb hby own_d5_20) rfl (by decide) rfl ?_
    refine own_dup2 (pc' := 22) X160 hx (hb hby own_d5_21) rfl rfl rfl ?_
    refine own_daload (pc' := 23) (v := (.double i2)) X160 hx hZ e160 V2 (hb hby own_d5_22) rfl (by decide) rfl ?_
    refine own_dloadN (pc' := 24) X160 hx (hb hby own_d5_23) rfl rfl ?_
    refine own_aloadN (pc' := 25) X160 hx (hb hby own_d5_24) rfl rfl rfl ?_
    obtain ⟨T161, X161, e161, st161⟩ := getF X160 hx hZ hown (host := "") (Or.inl (own_w35 hw)) Via.refl e160 F1 (g := (mkF m 25 #[.val (.ref a), .val (.ref g), .val (.double u), .second, .val (.int (0 : Int32))] [(.ref a), (.double u), (.double i2), (.int (2 : Int32)), (.ref g)])) rfl rfl (hb hby own_d5_25)
    refine own_go st161 ?_
    show own_Ends prg e below s _ _ _ T161 (mkF m 28 #[.val (.ref a), .val (.ref g), .val (.double u), .second, .val (.int (0 : Int32))] [(.ref pa), (.double u), (.double i2), (.int (2 : Int32)), (.ref g)])
    refine own_iload (pc' := 30) X161 hx (hb hby own_d5_28) rfl rfl ?_
    refine own_daload (pc' := 31) (v := (.double q0)) X161 hx hZ e161 V1 (hb hby own_d5_30) rfl (by decide) rfl ?_
    refine own_dmul (pc' := 32) (z := (FP.dmul u q0)) X161 hx (hb hby own_d5_31) rfl (Jvm.Free.Fl.dmul_out hu hq0) rfl ?_
    refine own_dadd (pc' := 33) (z := (FP.dadd i2 (FP.dmul u q0))) X161 hx (hb hby own_d5_32) rfl (own_nan hi2 hu hq0) rfl ?_
    refine own_dastore (pc' := 34) X161 hx hZ e161 V2 (hb hby own_d5_33) rfl (by decide) 2 rfl (by simp) N0 ge0 ?_
    intro T162 h162 L162 X162 e162 N162 W162 V162
    replace V162 : Arv Z h162 g gk .double (4 : Int32) [(.double i0), (.double i1), (.double (FP.dadd i2 (FP.dmul u q0))), (.double i3)] (.double 0) := V162
    show own_Ends prg e below s _ _ _ T162 (mkF m 34 #[.val (.ref a), .val (.ref g), .val (.double u), .second, .val (.int (0 : Int32))] [])
    refine own_iinc (pc' := 37) (z := (1 : Int32)) (l' := #[.val (.ref a), .val (.ref g), .val (.double u), .second, .val (.int (1 : Int32))]) X162 hx (hb hby own_d5_34) rfl rfl (by decide) rfl ?_
    refine own_goto (pc' := 3) X162 hx (hb hby own_d5_37) (by decide) (by decide) ?_
    refine own_iload (pc' := 5) X162 hx (hb hby own_d5_3) rfl rfl ?_
    refine own_aloadN (pc' := 6) X162 hx (hb hby own_d5_5) rfl rfl rfl ?_
    have f163 := (F0.other W162 (Or.inl n1))
    obtain ⟨T164, X164, e164, st164⟩ := getF X162 hx hZ hown (host := "") (Or.inl (own_w27 hw)) Via.refl e162 f163 (g := (mkF m 6 #[.val (.ref a), .val (.ref g), .val (.double u), .second, .val (.int (1 : Int32))] [(.ref a), (.int (1 : Int32))])) rfl rfl (hb hby own_d5_6)
    refine own_go st164 ?_
    show own_Ends prg e below s _ _ _ T164 (mkF m 9 #[.val (.ref a), .val (.ref g), .val (.double u), .second, .val (.int (1 : Int32))] [(.ref ca), (.int (1 : Int32))])
    have f165 := (V0.other W162 n2)
    refine own_alen (pc' := 10) X164 hx hZ e164 f165 (hb hby own_d5_9) rfl ?_
    refine own_icmpNo (pc' := 13) X164 hx (hb hby own_d5_10) rfl (tlt (by decide)).2.1 ?_
    refine own_aloadN (pc' := 14) X164 hx (hb hby own_d5_13) rfl rfl rfl ?_
    refine own_aloadN (pc' := 15) X164 hx (hb hby own_d5_14) rfl rfl rfl ?_
    obtain ⟨T166, X166, e166, st166⟩ := getF X164 hx hZ hown (host := "") (Or.inl (own_w27 hw)) Via.refl e164 f163 (g := (mkF m 15 #[.val (.ref a), .val (.ref g), .val (.double u), .second, .val (.int (1 : Int32))] [(.ref a), (.ref g)])) rfl rfl (hb hby own_d5_15)
    refine own_go st166 ?_
    show own_Ends prg e below s _ _ _ T166 (mkF m 18 #[.val (.ref a), .val (.ref g), .val (.double u), .second, .val (.int (1 : Int32))] [(.ref ca), (.ref g)])
    refine own_iload (pc' := 20) X166 hx (hb hby own_d5_18) rfl rfl ?_
    refine own_iaload (pc' := 21) (v := (.int (3 : Int32))) X166 hx hZ e166 f165 (hb hby own_d5_20) rfl (by decide) rfl ?_
    refine own_dup2 (pc' := 22) X166 hx (hb hby own_d5_21) rfl rfl rfl ?_
    refine own_daload (pc' := 23) (v := (.double i3)) X166 hx hZ e166 V162 (hb hby own_d5_22) rfl (by decide) rfl ?_
    refine own_dloadN (pc' := 24) X166 hx (hb hby own_d5_23) rfl rfl ?_
    refine own_aloadN (pc' := 25) X166 hx (hb hby own_d5_24) rfl rfl rfl ?_
    have f167 := (F1.other W162 (Or.inl n1))
    obtain ⟨T168, X168, e168, st168⟩ := getF X166 hx hZ hown (host := "") (Or.inl (own_w35 hw)) Via.refl e166 f167 (g := (mkF m 25 #[.val (.ref a), .val (.ref g), .val (.double u), .second, .val (.int (1 : Int32))] [(.ref a), (.double u), (.double i3), (.int (3 : Int32)), (.ref g)])) rfl rfl (hb hby own_d5_25)
    refine own_go st168 ?_
    show own_Ends prg e below s _ _ _ T168 (mkF m 28 #[.val (.ref a), .val (.ref g), .val (.double u), .second, .val (.int (1 : Int32))] [(.ref pa), (.double u), (.double i3), (.int (3 : Int32)), (.ref g)])
    refine own_iload (pc' := 30) X168 hx (hb hby own_d5_28) rfl rfl ?_
    have f169 := (V1.other W162 n3)
    refine own_daload (pc' := 31) (v := (.double q1)) X168 hx hZ e168 f169 (hb hby own_d5_30) rfl (by decide) rfl ?_
    refine own_dmul (pc' := 32) (z := (FP.dmul u q1)) X168 hx (hb hby own_d5_31) rfl (Jvm.Free.Fl.dmul_out hu hq1) rfl ?_
    refine own_dadd (pc' := 33) (z := (FP.dadd i3 (FP.dmul u q1))) X168 hx (hb hby own_d5_32) rfl (own_nan hi3 hu hq1) rfl ?_
    refine own_dastore (pc' := 34) X168 hx hZ e168 V162 (hb hby own_d5_33) rfl (by decide) 3 rfl (by simp) N162 ge0 ?_
    intro T170 h170 L170 X170 e170 N170 W170 V170
    replace V170 : Arv Z h170 g gk .double (4 : Int32) [(.double i0), (.double i1), (.double (FP.dadd i2 (FP.dmul u q0))), (.double (FP.dadd i3 (FP.dmul u q1)))] (.double 0) := V170
    show own_Ends prg e below s _ _ _ T170 (mkF m 34 #[.val (.ref a), .val (.ref g), .val (.double u), .second, .val (.int (1 : Int32))] [])
    refine own_iinc (pc' := 37) (z := (2 : Int32)) (l' := #[.val (.ref a), .val (.ref g), .val (.double u), .second, .val (.int (2 : Int32))]) X170 hx (hb hby own_d5_34) rfl rfl (by decide) rfl ?_
    refine own_goto (pc' := 3) X170 hx (hb hby own_d5_37) (by decide) (by decide) ?_
    refine own_iload (pc' := 5) X170 hx (hb hby own_d5_3) rfl rfl ?_
    refine own_aloadN (pc' := 6) X170 hx (hb hby own_d5_5) rfl rfl rfl ?_
    have f171 := (f163.other W170 (Or.inl n1))
    obtain ⟨T172, X172, e172, st172⟩ := getF X170 hx hZ hown (host := "") (Or.inl (own_w27 hw)) Via.refl e170 f171 (g := (mkF m 6 #[.val (.ref a), .val (.ref g), .val (.double u), .second, .val (.int (2 : Int32))] [(.ref a), (.int (2 : Int32))])) rfl rfl (hb hby own_d5_6)
    refine own_go st172 ?_
    show own_Ends prg e below s _ _ _ T172 (mkF m 9 #[.val (.ref a), .val (.ref g), .val (.double u), .second, .val (.int (2 : Int32))] [(.ref ca), (.int (2 : Int32))])
    have f173 := (f165.other W170 n2)
    refine own_alen (pc' := 10) X172 hx hZ e172 f173 (hb hby own_d5_9) rfl ?_
    refine own_icmpNo (pc' := 13) X172 hx (hb hby own_d5_10) rfl (tlt (by decide)).2.1 ?_
    refine own_aloadN (pc' := 14) X172 hx (hb hby own_d5_13) rfl rfl rfl ?_
    refine own_aloadN (pc' := 15) X172 hx (hb hby own_d5_14) rfl rfl rfl ?_
    obtain ⟨T174, X174, e174, st174⟩ := getF X172 hx hZ hown (host := "") (Or.inl (own_w27 hw)) Via.refl e172 f171 (g := (mkF m 15 #[.val (.ref a), .val (.ref g), .val (.double u), .second, .val (.int (2 : Int32))] [(.ref a), (.ref g)])) rfl rfl (hb hby own_d5_15)
    refine own_go st174 ?_
    show own_Ends prg e below s _ _ _ T174 (mkF m 18 #[.val (.ref a), .val (.ref g), .val (.double u), .second, .val (.int (2 : Int32))] [(.ref ca), (.ref g)])
    refine own_iload (pc' := 20) X174 hx (hb hby own_d5_18) rfl rfl ?_
    refine own_iaload (pc' := 21) (v := (.int (0 : Int32))) X174 hx hZ e174 f173 (hb hby own_d5_20) rfl (by decide) rfl ?_
    refine own_dup2 (pc' := 22) X174 hx (hb hby own_d5_21) rfl rfl rfl ?_
    refine own_daload (pc' := 23) (v := (.double i0)) X174 hx hZ e174 V170 (hb hby own_d5_22) rfl (by decide) rfl ?_
    refine own_dloadN (pc' := 24) X174 hx (hb hby own_d5_23) rfl rfl ?_
    refine own_aloadN (pc' := 25) X174 hx (hb hby own_d5_24) rfl rfl rfl ?_
    have f175 := (f167.other W170 (Or.inl n1))
    obtain ⟨T176, X176, e176, st176⟩ := getF X174 hx hZ hown (host := "") (Or.inl (own_w35 hw)) Via.refl e174 f175 (g := (mkF m 25 #[.val (.ref a), .val (.ref g), .val (.double u), .second, .val (.int (2 : Int32))] [(.ref a), (.double u), (.double i0), (.int (0 : Int32)), (.ref g)])) rfl rfl (hb hby own_d5_25)
    refine own_go st176 ?_
    show own_Ends prg e below s _ _ _ T176 (mkF m 28 #[.val (.ref a), .val (.ref g), .val (.double u), .second, .val (.int (2 : Int32))] [(.ref pa), (.double u), (.double i0), (.int (0 : Int32)), (.ref g)])
    refine own_iload (pc' := 30) X176 hx (hb hby own_d5_28) rfl rfl ?_
    have f177 := (f169.other W170 n3)
    refine own_daload (pc' := 31) (v := (.double q2)) X176 hx hZ e176 f177 (hb hby own_d5_30) rfl (by decide) rfl ?_
    refine own_dmul (pc' := 32) (z := (FP.dmul u q2)) X176 hx (hb hby own_d5_31) rfl (Jvm.Free.Fl.dmul_out hu hq2) rfl ?_
    refine own_dadd (pc' := 33) (z := (FP.dadd i0 (FP.dmul u q2))) X176 hx (hb hby own_d5_32) rfl (own_nan hi0 hu hq2) rfl ?_
    refine own_dastore (pc' := 34) X176 hx hZ e176 V170 (hb hby own_d5_33) rfl (by decide) 0 rfl (by simp) N170 ge0 ?_
    intro T178 h178 L178 X178 e178 N178 W178 V178
    replace V178 : Arv Z h178 g gk .double (4 : Int32) [(.double (FP.dadd i0 (FP.dmul u q2))), (.double i1), (.double (FP.dadd i2 (FP.dmul u q0))), (.double (FP.dadd i3 (FP.dmul u q1)))] (.double 0) := V178
    show own_Ends prg e below s _ _ _ T178 (mkF m 34 #[.val (.ref a), .val (.ref g), .val (.double u), .second, .val (.int (2 : Int32))] [])
    refine own_iinc (pc' := 37) (z := (3 : Int32)) (l' := #[.val (.ref a), .val (.ref g), .val (.double u), .second, .val (.int (3 : Int32))]) X178 hx (hb hby own_d5_34) rfl rfl (by decide) rfl ?_
    refine own_goto (pc' := 3) X178 hx (hb hby own_d5_37) (by decide) (by decide) ?_
    refine own_iload (pc' := 5) X178 hx (hb hby own_d5_3) rfl rfl ?_
    refine own_aloadN (pc' := 6) X178 hx (hb hby own_d5_5) rfl rfl rfl ?_
    have f179 := (f171.other W178 (Or.inl n1))
    obtain ⟨T180, X180, e180, st180⟩ := getF X178 hx hZ hown (host := "") (Or.inl (own_w27 hw)) Via.refl e178 f179 (g := (mkF m 6 #[.val (.ref a), .val (.ref g), .val (.double u), .second, .val (.int (3 : Int32))] [(.ref a), (.int (3 : Int32))])) rfl rfl (hb hby own_d5_6)
    refine own_go st180 ?_
    show own_Ends prg e below s _ _ _ T180 (mkF m 9 #[.val (.ref a), .val (.ref g), .val (.double u), .second, .val (.int (3 : Int32))] [(.ref ca), (.int (3 : Int32))])
    have f181 := (f173.other W178 n2)
    refine own_alen (pc' := 10) X180 hx hZ e180 f181 (hb hby own_d5_9) rfl ?_
    refine own_icmpNo (pc' := 13) X180 hx (hb hby own_d5_10) rfl (tlt (by decide)).2.1 ?_
    refine own_aloadN (pc' := 14) X180 hx (hb hby own_d5_13) rfl rfl rfl ?_
    refine own_aloadN (pc' := 15) X180 hx (hb hby own_d5_14) rfl rfl rfl ?_
    obtain ⟨T182, X182, e182, st182⟩ := getF X180 hx hZ hown (host := "") (Or.inl (own_w27 hw)) Via.refl e180 f179 (g := (mkF m 15 #[.val (.ref a), .val (.ref g), .val (.double u), .second, .val (.int (3 : Int32))] [(.ref a), (.ref g)])) rfl rfl (hb hby own_d5_15)
    refine own_go st182 ?_
    show own_Ends prg e below s _ _ _ T182 (mkF m 18 #[.val (.ref a), .val (.ref g), .val (.double u), .second, .val (.int (3 : Int32))] [(.ref ca), (.ref g)])
    refine own_iload (pc' := 20) X182 hx (hb hby own_d5_18) rfl rfl ?_
    refine own_iaload (pc' := 21) (v := (.int (1 : Int32))) X182 hx hZ e182 f181 (hb hby own_d5_20) rfl (by decide) rfl ?_
    refine own_dup2 (pc' := 22) X182 hx (hb hby own_d5_21) rfl rfl rfl ?_
    refine own_daload (pc' := 23) (v := (.double i1)) X182 hx hZ e182 V178 (hb hby own_d5_22) rfl (by decide) rfl ?_
    refine own_dloadN (pc' := 24) X182 hx (hb hby own_d5_23) rfl rfl ?_
    refine own_aloadN (pc' := 25) X182 hx (hb hby own_d5_24) rfl rfl rfl ?_
    have f183 := (f175.other W178 (Or.inl n1))
    obtain ⟨T184, X184, e184, st184⟩ := getF X182 hx hZ hown (host := "") (Or.inl (own_w35 hw)) Via.refl e182 f183 (g := (mkF m 25 #[.val (.ref a), .val (.ref g), .val (.double u), .second, .val (.int (3 : Int32))] [(.ref a), (.double u), (.double i1), (.int (1 : Int32)), (.ref g)])) rfl rfl (hb hby own_d5_25)
    refine own_go st184 ?_
    show own_Ends prg e below s _ _ _ T184 (mkF m 28 #[.val (.ref a), .val (.ref g), .val (.double u), .second, .val (.int (3 : Int32))] [(.ref pa), (.double u), (.double i1), (.int (1 : Int32)), (.ref g)])
    refine own_iload (pc' := 30) X184 hx (hb hby own_d5_28) rfl rfl ?_
    have f185 := (f177.other W178 n3)
    refine own_daload (pc' := 31) (v := (.double q3)) X184 hx hZ e184 f185 (hb hby own_d5_30) rfl (by decide) rfl ?_
    refine own_dmul (pc' := 32) (z := (FP.dmul u q3)) X184 hx (hb hby own_d5_31) rfl (Jvm.Free.Fl.dmul_out hu hq3) rfl ?_
    refine own_dadd (pc' := 33) (z := (FP.dadd i1 (FP.dmul u q3))) X184 hx (hb hby own_d5_32) rfl (own_nan hi1 hu hq3) rfl ?_
    refine own_dastore (pc' := 34) X184 hx hZ e184 V178 (hb hby own_d5_33) rfl (by decide) 1 rfl (by simp) N178 ge0 ?_
    intro T186 h186 L186 X186 e186 N186 W186 V186
    replace V186 : Arv Z h186 g gk .double (4 : Int32) [(.double (FP.dadd i0 (FP.dmul u q2))), (.double (FP.dadd i1 (FP.dmul u q3))), (.double (FP.dadd i2 (FP.dmul u q0))), (.double (FP.dadd i3 (FP.dmul u q1)))] (.double 0) := V186
    show own_Ends prg e below s _ _ _ T186 (mkF m 34 #[.val (.ref a), .val (.ref g), .val (.double u), .second, .val (.int (3 : Int32))] [])
    refine own_iinc (pc' := 37) (z := (4 : Int32)) (l' := #[.val (.ref a), .val (.ref g), .val (.double u), .second, .val (.int (4 : Int32))]) X186 hx (hb hby own_d5_34) rfl rfl (by decide) rfl ?_
    refine own_goto (pc' := 3) X186 hx (hb hby own_d5_37) (by decide) (by decide) ?_
    refine own_iload (pc' := 5) X186 hx (hb hby own_d5_3) rfl rfl ?_
    refine own_aloadN (pc' := 6) X186 hx (hb hby own_d5_5) rfl rfl rfl ?_
    have f187 := (f179.other W186 (Or.inl n1))
    obtain ⟨T188, X188, e188, st188⟩ := getF X186 hx hZ hown (host := "") (Or.inl (own_w27 hw)) Via.refl e186 f187 (g := (mkF m 6 #[.val (.ref a), .val (.ref g), .val (.double u), .second, .val (.int (4 : Int32))] [(.ref a), (.int (4 : Int32))])) rfl rfl (hb hby own_d5_6)
    refine own_go st188 ?_
    show own_Ends prg e below s _ _ _ T188 (mkF m 9 #[.val (.ref a), .val (.ref g), .val (.double u), .second, .val (.int (4 : Int32))] [(.ref ca), (.int (4 : Int32))])
    have f189 := (f181.other W186 n2)
    refine own_alen (pc' := 10) X188 hx hZ e188 f189 (hb hby own_d5_9) rfl ?_
    refine own_icmpYes (pc' := 40) X188 hx (hb hby own_d5_10) (flt (by decide)).2.1 (by decide) (by decide) ?_
    refine own_retV X188 hx hlk hret (hb hby own_d5_40) (by decide) (by decide) ?_
    have f190 := ((((K0.wr W162 (Or.inl (List.mem_of_getElem? (i := 0) rfl))).wr W170 (Or.inl (List.mem_of_getElem? (i := 0) rfl))).wr W178 (Or.inl (List.mem_of_getElem? (i := 0) rfl))).wr W186 (Or.inl (List.mem_of_getElem? (i := 0) rfl)))
    rw [e188]; exact ⟨rfl, N186, f190, V186⟩
  · replace V0 : Arv Z h0 ca ck .int (4 : Int32) [(.int (2 : Int32)), (.int (1 : Int32)), (.int (0 : Int32)), (.int (3 : Int32))] (.int (0 : Int32)) := V0
    refine own_iconst (pc' := 1) (z := (0 : Int32)) X0 hx (hb hby own_d5_0) rfl rfl ?_
    refine own_istore (pc' := 3) (l' := #[.val (.ref a), .val (.ref g), .val (.double u), .second, .val (.int (0 : Int32))]) X0 hx (hb hby own_d5_1) rfl rfl ?_
    refine own_iload (pc' := 5) X0 hx (hb hby own_d5_3) rfl rfl ?_
    refine own_aloadN (pc' := 6) X0 hx (hb hby own_d5_5) rfl rfl rfl ?_
    obtain ⟨T191, X191, e191, st191⟩ := getF X0 hx hZ hown (host := "") (Or.inl (own_w27 hw)) Via.refl e0 F0 (g := (mkF m 6 #[.val (.ref a), .val (.ref g), .val (.double u), .second, .val (.int (0 : Int32))] [(.ref a), (.int (0 : Int32))])) rfl rfl (hb hby own_d5_6)
    refine own_go st191 ?_
    show own_Ends prg e below s _ _ _ T191 (mkF m 9 #[.val (.ref a), .val (.ref g), .val (.double u), .second, .val (.int (0 : Int32))] [(.ref ca), (.int (0 : Int32))])
    refine own_alen (pc' := 10) X191 hx hZ e191 V0 (hb hby own_d5_9) rfl ?_
    refine own_icmpNo (pc' := 13) X191 hx (hb hby own_d5_10) rfl (tlt (by decide)).2.1 ?_
    refine own_aloadN (pc' := 14) X191 hx (hb hby own_d5_13) rfl rfl rfl ?_
    refine own_aloadN (pc' := 15) X191 hx (hb hby own_d5_14) rfl rfl rfl ?_
    obtain ⟨T192, X192, e192, st192⟩ := getF X191 hx hZ hown (host := "") (Or.inl (own_w27 hw)) Via.refl e191 F0 (g := (mkF m 15 #[.val (.ref a), .val (.ref g), .val (.double u), .second, .val (.int (0 : Int32))] [(.ref a), (.ref g)])) rfl rfl (hb hby own_d5_15)
    refine own_go st192 ?_
    show own_Ends prg e below s _ _ _ T192 (mkF m 18 #[.val (.ref a), .val (.ref g), .val (.double u), .second, .val (.int (0 : Int32))] [(.ref ca), (.ref g)])
    refine own_iload (pc' := 20) X192 hx (hb hby own_d5_18) rfl rfl ?_
    refine own_iaload (pc' := 21) (v := (.int (2 : Int32))) X192 hx hZ e192 V0 (hb hby own_d5_20) rfl (by decide) rfl ?_
    refine own_dup2 (pc' := 22) X192 hx (hb hby own_d5_21) rfl rfl rfl ?_
    refine own_daload (pc' := 23) (v := (.double i2)) X192 hx hZ e192 V2 (hb hby own_d5_22) rfl (by decide) rfl ?_
    refine own_dloadN (pc' := 24) X192 hx (hb hby own_d5_23) rfl rfl ?_
    refine own_aloadN (pc' := 25) X192 hx (hb hby own_d5_24) rfl rfl rfl ?_
    obtain ⟨T193, X193, e193, st193⟩ := getF X192 hx hZ hown (host := "") (Or.inl (own_w35 hw)) Via.refl e192 F1 (g := (mkF m 25 #[.val (.ref a), .val (.ref g), .val (.double u), .second, .val (.int (0 : Int32))] [(.ref a), (.double u), (.double i2), (.int (2 : Int32)), (.ref g)])) rfl rfl (hb hby own_d5_25)
    refine own_go st193 ?_
    show own_Ends prg e below s _ _ _ T193 (mkF m 28 #[.val (.ref a), .val (.ref g), .val (.double u), .second, .val (.int (0 : Int32))] [(.ref pa), (.double u), (.double i2), (.int (2 : Int32)), (.ref g)])
    refine own_iload (pc' := 30) X193 hx (hb hby own_d5_28) rfl rfl ?_
    refine own_daload (pc' := 31) (v := (.double q0)) X193 hx hZ e193 V1 (hb hby own_d5_30) rfl (by decide) rfl ?_
    refine own_dmul (pc' := 32) (z := (FP.dmul u q0)) X193 hx (hb hby own_d5_31) rfl (Jvm.Free.Fl.dmul_out hu hq0) rfl ?_
    refine own_dadd (pc' := 33) (z := (FP.dadd i2 (FP.dmul u q0))) X193 hx (hb hby own_d5_32) rfl (own_nan hi2 hu hq0) rfl ?_
    refine own_dastore (pc' := 34) X193 hx hZ e193 V2 (hb hby own_d5_33) rfl (by decide) 2 rfl (by simp) N0 ge0 ?_
    intro T194 h194 L194 X194 e194 N194 W194 V194
    replace V194 : Arv Z h194 g gk .double (4 : Int32) [(.double i0), (.double i1), (.double (FP.dadd i2 (FP.dmul u q0))), (.double i3)] (.double 0) := V194
    show own_Ends prg e below s _ _ _ T194 (mkF m 34 #[.val (.ref a), .val (.ref g), .val (.double u), .second, .val (.int (0 : Int32))] [])
    refine own_iinc (pc' := 37) (z := (1 : Int32)) (l' := #[.val (.ref a), .val (.ref g), .val (.double u), .second, .val (.int (1 : Int32))]) X194 hx (hb hby own_d5_34) rfl rfl (by decide) rfl ?_
    refine own_goto (pc' := 3) X194 hx (hb hby own_d5_37) (by decide) (by decide) ?_
    refine own_iload (pc' := 5) X194 hx (hb hby own_d5_3) rfl rfl ?_
    refine own_aloadN (pc' := 6) X194 hx (hb hby own_d5_5) rfl rfl rfl ?_
    have f195 := (F0.other W194 (Or.inl n1))
    obtain ⟨T196, X196, e196, st196⟩ := getF X194 hx hZ hown (host := "") (Or.inl (own_w27 hw)) Via.refl e194 f195 (g := (mkF m 6 #[.val (.ref a), .val (.ref g), .val (.double u), .second, .val (.int (1 : Int32))] [(.ref a), (.int (1 : Int32))])) rfl rfl (hb hby own_d5_6)
    refine own_go st196 ?_
    show own_Ends prg e below s _ _ _ T196 (mkF m 9 #[.val (.ref a), .val (.ref g), .val (.double u), .second, .val (.int (1 : Int32))] [(.ref ca), (.int (1 : Int32))])
    have f197 := (V0.other W194 n2)
    refine own_alen (pc' := 10) X196 hx hZ e196 f197 (hb hby own_d5_9) rfl ?_
    refine own_icmpNo (pc' := 13) X196 hx (hb hby own_d5_10) rfl (tlt (by decide)).2.1 ?_
    refine own_aloadN (pc' := 14) X196 hx (hb hby own_d5_13) rfl rfl rfl ?_
    refine own_aloadN (pc' := 15) X196 hx (hb hby own_d5_14) rfl rfl rfl ?_
    obtain ⟨T198, X198, e198, st198⟩ := getF X196 hx hZ hown (host := "") (Or.inl (own_w27 hw)) Via.refl e196 f195 (g := (mkF m 15 #[.val (.ref a), .val (.ref g), .val (.double u), .second, .val (.int (1 : Int32))] [(.ref a), (.ref g)])) rfl rfl (hb hby own_d5_15)
    refine own_go st198 ?_
    show own_Ends prg e below s _ _ _ T198 (mkF m 18 #[.val (.ref a), .val (.ref g), .val (.double u), .second, .val (.int (1 : Int32))] [(.ref ca), (.ref g)])
    refine own_iload (pc' := 20) X198 hx (hb hby own_d5_18) rfl rfl ?_
    refine own_iaload (pc' := 21) (v := (.int (1 : Int32))) X198 hx hZ e198 f197 (hb hby own_d5_20) rfl (by decide) rfl ?_
    refine own_dup2 (pc' := 22) X198 hx (hb hby own_d5_21) rfl rfl rfl ?_
    refine own_daload (pc' := 23) (v := (.double i1)) X198 hx hZ e198 V194 (hb hby own_d5_22) rfl (by decide) rfl ?_
    refine own_dloadN (pc' := 24) X198 hx (hb hby own_d5_23) rfl rfl ?_
    refine own_aloadN (pc' := 25) X198 hx (hb hby own_d5_24) rfl rfl rfl ?_
    have f199 := (F1.other W194 (Or.inl n1))
    obtain ⟨T200, X200, e200, st200⟩ := getF X198 hx hZ hown (host := "") (Or.inl (own_w35 hw)) Via.refl e198 f199 (g := (mkF m 25 #[.val (.ref a), .val (.ref g), .val (.double u), .second, .val (.int (1 : Int32))] [(.ref a), (.double u), (.double i1), (.int (1 : Int32)), (.ref g)])) rfl rfl (hb hby own_d5_25)
    refine own_go st200 ?_
    show own_Ends prg e below s _ _ _ T200 (mkF m 28 #[.val (.ref a), .val (.ref g), .val (.double u), .second, .val (.int (1 : Int32))] [(.ref pa), (.double u), (.double i1), (.int (1 : Int32)), (.ref g)])
    refine own_iload (pc' := 30) X200 hx (hb hby own_d5_28) rfl rfl ?_
    have f201 := (V1.other W194 n3)
    refine own_daload (pc' := 31) (v := (.double q1)) X200 hx hZ e200 f201 (hb hby own_d5_30) rfl (by decide) rfl ?_
    refine own_dmul (pc' := 32) (z := (FP.dmul u q1)) X200 hx (hb hby own_d5_31) rfl (Jvm.Free.Fl.dmul_out hu hq1) rfl ?_
    refine own_dadd (pc' := 33) (z := (FP.dadd i1 (FP.dmul u q1))) X200 hx (hb hby own_d5_32) rfl (own_nan hi1 hu hq1) rfl ?_
    refine own_dastore (pc' := 34) X200 hx hZ e200 V194 (hb hby own_d5_33) rfl (by decide) 1 rfl (by simp) N194 ge0 ?_
    intro T202 h202 L202 X202 e202 N202 W202 V202
    replace V202 : Arv Z h202 g gk .double (4 : Int32) [(.double i0), (.double (FP.dadd i1 (FP.dmul u q1))), (.double (FP.dadd i2 (FP.dmul u q0))), (.double i3)] (.double 0) := V202
    show own_Ends prg e below s _ _ _ T202 (mkF m 34 #[.val (.ref a), .val (.ref g), .val (.double u), .second, .val (.int (1 : Int32))] [])
    refine own_iinc (pc' := 37) (z := (2 : Int32)) (l' := #[.val (.ref a), .val (.ref g), .val (.double u), .second, .val (.int (2 : Int32))]) X202 hx (hb hby own_d5_34) rfl rfl (by decide) rfl ?_
    refine own_goto (pc' := 3) X202 hx (hb hby own_d5_37) (by decide) (by decide) ?_
    refine own_iload (pc' := 5) X202 hx (hb hby own_d5_3) rfl rfl ?_
    refine own_aloadN (pc' := 6) X202 hx (hb hby own_d5_5) rfl rfl rfl ?_
    have f203 := (f195.other W202 (Or.inl n1))
    obtain ⟨T204, X204, e204, st204⟩ := getF X202 hx hZ hown (host := "") (Or.inl (own_w27 hw)) Via.refl e202 f203 (g := (mkF m 6 #[.val (.ref a), .val (.ref g), .val (.double u), .second, .val (.int (2 : Int32))] [(.ref a), (.int (2 : Int32))])) rfl rfl (hb hby own_d5_6)
    refine own_go st204 ?_
    show own_Ends prg e below s _ _ _ T204 (mkF m 9 #[.val (.ref a), .val (.ref g), .val (.double u), .second, .val (.int (2 : Int32))] [(.ref ca), (.int (2 : Int32))])
    have f205 := (f197.other W202 n2)
    refine own_alen (pc' := 10) X204 hx hZ e204 f205 (hb hby own_d5_9) rfl ?_
    refine own_icmpNo (pc' := 13) X204 hx (hb hby own_d5_10) rfl (tlt (by decide)).2.1 ?_
    refine own_aloadN (pc' := 14) X204 hx (hb hby own_d5_13) rfl rfl rfl ?_
    refine own_aloadN (pc' := 15) X204 hx (hb hby own_d5_14) rfl rfl rfl ?_
    obtain ⟨T206, X206, e206, st206⟩ := getF X204 hx hZ hown (host := "") (Or.inl (own_w27 hw)) Via.refl e204 f203 (g := (mkF m 15 #[.val (.ref a), .val (.ref g), .val (.double u), .second, .val (.int (2 : Int32))] [(.ref a), (.ref g)])) rfl rfl (hb hby own_d5_15)
    refine own_go st206 ?_
    show own_Ends prg e below s _ _ _ T206 (mkF m 18 #[.val (.ref a), .val (.ref g), .val (.double u), .second, .val (.int (2 : Int32))] [(.ref ca), (.ref g)])
    refine own_iload (pc' := 20) X206 hx (hb hby own_d5_18) rfl rfl ?_
    refine own_iaload (pc' := 21) (v := (.int (0 : Int32))) X206 hx hZ e206 f205 (hb hby own_d5_20) rfl (by decide) rfl ?_
    refine own_dup2 (pc' := 22) X206 hx (hb hby own_d5_21) rfl rfl rfl ?_
    refine own_daload (pc' := 23) (v := (.double i0)) X206 hx hZ e206 V202 (hb hby own_d5_22) rfl (by decide) rfl ?_
    refine own_dloadN (pc' := 24) X206 hx (hb hby own_d5_23) rfl rfl ?_
    refine own_aloadN (pc' := 25) X206 hx (hb hby own_d5_24) rfl rfl rfl ?_
    have f207 := (f199.other W202 (Or.inl n1))
    obtain ⟨T208, X208, e208, st208⟩ := getF X206 hx hZ hown (host := "") (Or.inl (own_w35 hw)) Via.refl e206 f207 (g := (mkF m 25 #[.val (.ref a), .val (.ref g), .val (.double u), .second, .val (.int (2 : Int32))] [(.ref a), (.double u), (.double i0), (.int (0 : Int32)), (.ref g)])) rfl rfl (hb hby own_d5_25)
    refine own_go st208 ?_
    show own_Ends prg e below s _ _ _ T208 (mkF m 28 #[.val (.ref a), .val (.ref g), .val (.double u), .second, .val (.int (2 : Int32))] [(.ref pa), (.double u), (.double i0), (.int (0 : Int32)), (.ref g)])
    refine own_iload (pc' := 30) X208 hx (hb hby own_d5_28) rfl rfl ?_
    have f209 := (f201.other W202 n3)
    refine own_daload (pc' := 31) (v := (.double q2)) X208 hx hZ e208 f209 (hb hby own_d5_30) rfl (by decide) rfl ?_
    refine own_dmul (pc' := 32) (z := (FP.dmul u q2)) X208 hx (hb hby own_d5_31) rfl (Jvm.Free.Fl.dmul_out hu hq2) rfl ?_
    refine own_dadd (pc' := 33) (z := (FP.dadd i0 (FP.dmul u q2))) X208 hx (hb hby own_d5_32) rfl (own_nan hi0 hu hq2) rfl ?_
    refine own_dastore (pc' := 34) X208 hx hZ e208 V202 (hb hby own_d5_33) rfl (by decide) 0 rfl (by simp) N202 ge0 ?_
    intro T210 h210 L210 X210 e210 N210 W210 V210
    replace V210 : Arv Z h210 g gk .double (4 : Int32) [(.double (FP.dadd i0 (FP.dmul u q2))), (.double (FP.dadd i1 (FP.dmul u q1))), (.double (FP.dadd i2 (FP.dmul u q0))), (.double i3)] (.double 0) := V210
    show own_Ends prg e below s _ _ _ T210 (mkF m 34 #[.val (.ref a), .val (.ref g), .val (.double u), .second, .val (.int (2 : Int32))] [])
    refine own_iinc (pc' := 37) (z := (3 : Int32)) (l' := #[.val (.ref a), .val (.ref g), .val (.double u), .second, .val (.int (3 : Int32))]) X210 hx (hb hby own_d5_34) rfl rfl (by decide) rfl ?_
    refine own_goto (pc' := 3) X210 hx (hb hby own_d5_37) (by decide) (by decide) ?_
    refine own_iload (pc' := 5) X210 hx (hb hby own_d5_3) rfl rfl ?_
    refine own_aloadN (pc' := 6) X210 hx (hb hby own_d5_5) rfl rfl rfl ?_
    have f211 := (f203.other W210 (Or.inl n1))
    obtain ⟨T212, X212, e212, st212⟩ := getF X210 hx hZ hown (host := "") (Or.inl (own_w27 hw)) Via.refl e210 f211 (g := (mkF m 6 #[.val (.ref a), .val (.ref g), .val (.double u), .second, .val (.int (3 : Int32))] [(.ref a), (.int (3 : Int32))])) rfl rfl (hb hby own_d5_6)
    refine own_go st212 ?_
    show own_Ends prg e below s _ _ _ T212 (mkF m 9 #[.val (.ref a), .val (.ref g), .val (.double u), .second, .val (.int (3 : Int32))] [(.ref ca), (.int (3 : Int32))])
    have f213 := (f205.other W210 n2)
    refine own_alen (pc' := 10) X212 hx hZ e212 f213 (hb hby own_d5_9) rfl ?_
    refine own_icmpNo (pc' := 13) X212 hx (hb hby own_d5_10) rfl (tlt (by decide)).2.1 ?_
    refine own_aloadN (pc' := 14) X212 hx (hb hby own_d5_13) rfl rfl rfl ?_
    refine own_aloadN (pc' := 15) X212 hx (hb hby own_d5_14) rfl rfl rfl ?_
    obtain ⟨T214, X214, e214, st214⟩ := getF X212 hx hZ hown (host := "") (Or.inl (own_w27 hw)) Via.refl e212 f211 (g := (mkF m 15 #[.val (.ref a), .val (.ref g), .val (.double u), .second, .val (.int (3 : Int32))] [(.ref a), (.ref g)])) rfl rfl (hb hby own_d5_15)
    refine own_go st214 ?_
    show own_Ends prg e below s _ _ _ T214 (mkF m 18 #[.val (.ref a), .val (.ref g), .val (.double u), .second, .val (.int (3 : Int32))] [(.ref ca), (.ref g)])
    refine own_iload (pc' := 20) X214 hx (hb hby own_d5_18) rfl rfl ?_
    refine own_iaload (pc' := 21) (v := (.int (3 : Int32))) X214 hx hZ e214 f213 (hb hby own_d5_20) rfl (by decide) rfl ?_
    refine own_dup2 (pc' := 22) X214 hx (hb hby own_d5_21) rfl rfl rfl ?_
    refine own_daload (pc' := 23) (v := (.double i3)) X214 hx hZ e214 V210 (hb hby own_d5_22) rfl (by decide) rfl ?_
    refine own_dloadN (pc' := 24) X214 hx (hb hby own_d5_23) rfl rfl ?_
    refine own_aloadN (pc' := 25) X214 hx (hb hby own_d5_24) rfl rfl rfl ?_
    have f215 := (f207.other W210 (Or.inl n1))
    obtain ⟨T216, X216, e216, st216⟩ := getF X214 hx hZ hown (host := "") (Or.inl (own_w35 hw)) Via.refl e214 f215 (g := (mkF m 25 #[.val (.ref a), .val (.ref g), .val (.double u), .second, .val (.int (3 : Int32))] [(.ref a), (.double u), (.double i3), (.int (3 : Int32)), (.ref g)])) rfl rfl (hb hby own_d5_25)
    refine own_go st216 ?_
    show own_Ends prg e below s _ _ _ T216 (mkF m 28 #[.val (.ref a), .val (.ref g), .val (.double u), .second, .val (.int (3 : Int32))] [(.ref pa), (.double u), (.double i3), (.int (3 : Int32)), (.ref g)])
    refine own_iload (pc' := 30) X216 hx (hb hby own_d5_28) rfl rfl ?_
    have f217 := (f209.other W210 n3)
    refine own_daload (pc' := 31) (v := (.double q3)) X216 hx hZ e216 f217 (hb hby own_d5_30) rfl (by decide) rfl ?_
    refine own_dmul (pc' := 32) (z := (FP.dmul u q3)) X216 hx (hb hby own_d5_31) rfl (Jvm.Free.Fl.dmul_out hu hq3) rfl ?_
    refine own_dadd (pc' := 33) (z := (FP.dadd i3 (FP.dmul u q3))) X216 hx (hb hby own_d5_32) rfl (own_nan hi3 hu hq3) rfl ?_
    refine own_dastore (pc' := 34) X216 hx hZ e216 V210 (hb hby own_d5_33) rfl (by decide) 3 rfl (by simp) N210 ge0 ?_
    intro T218 h218 L218 X218 e218 N218 W218 V218
    replace V218 : Arv Z h218 g gk .double (4 : Int32) [(.double (FP.dadd i0 (FP.dmul u q2))), (.double (FP.dadd i1 (FP.dmul u q1))), (.double (FP.dadd i2 (FP.dmul u q0))), (.double (FP.dadd i3 (FP.dmul u q3)))] (.double 0) := V218
    show own_Ends prg e below s _ _ _ T218 (mkF m 34 #[.val (.ref a), .val (.ref g), .val (.double u), .second, .val (.int (3 : Int32))] [])
    refine own_iinc (pc' := 37) (z := (4 : Int32)) (l' := #[.val (.ref a), .val (.ref g), .val (.double u), .second, .val (.int (4 : Int32))]) X218 hx (hb hby own_d5_34) rfl rfl (by decide) rfl ?_
    refine own_goto (pc' := 3) X218 hx (hb hby own_d5_37) (by decide) (by decide) ?_
    refine own_iload (pc' := 5) X218 hx (hb hby own_d5_3) rfl rfl ?_
    refine own_aloadN (pc' := 6) X218 hx (hb hby own_d5_5) rfl rfl rfl ?_
    have f219 := (f211.other W218 (Or.inl n1))
    obtain ⟨T220, X220, e220, st220⟩ := getF X218 hx hZ hown (host := "") (Or.inl (own_w27 hw)) Via.refl e218 f219 (g := (mkF m 6 #[.val (.ref a), .val (.ref g), .val (.double u), .second, .val (.int (4 : Int32))] [(.ref a), (.int (4 : Int32))])) rfl rfl (hb hby own_d5_6)
    refine own_go st220 ?_
    show own_Ends prg e below s _ _ _ T220 (mkF m 9 #[.val (.ref a), .val (.ref g), .val (.double u), .second, .val (.int (4 : Int32))] [(.ref ca), (.int (4 : Int32))])
    have f221 := (f213.other W218 n2)
    refine own_alen (pc' := 10) X220 hx hZ e220 f221 (hb hby own_d5_9) rfl ?_
    refine own_icmpYes (pc' := 40) X220 hx (hb hby own_d5_10) (flt (by decide)).2.1 (by decide) (by decide) ?_
    refine own_retV X220 hx hlk hret (hb hby own_d5_40) (by decide) (by decide) ?_
    have f222 := ((((K0.wr W194 (Or.inl (List.mem_of_getElem? (i := 0) rfl))).wr W202 (Or.inl (List.mem_of_getElem? (i := 0) rfl))).wr W210 (Or.inl (List.mem_of_getElem? (i := 0) rfl))).wr W218 (Or.inl (List.mem_of_getElem? (i := 0) rfl)))
    rw [e220]; exact ⟨rfl, N218, f222, V218⟩
  · replace V0 : Arv Z h0 ca ck .int (4 : Int32) [(.int (3 : Int32)), (.int (0 : Int32)), (.int (1 : Int32)), (.int (2 : Int32))] (.int (0 : Int32)) := V0
    refine own_iconst (pc' := 1) (z := (0 : Int32)) X0 hx (hb hby own_d5_0) rfl rfl ?_
    refine own_istore (pc' := 3) (l' := #[.val (.ref a), .val (.ref g), .val (.double u), .second, .val (.int (0 : Int32))]) X0 hx (hb hby own_d5_1) rfl rfl ?_
    refine own_iload (pc' := 5) X0 hx (hb hby own_d5_3) rfl rfl ?_
    refine own_aloadN (pc' := 6) X0 hx (hb hby own_d5_5) rfl rfl rfl ?_
    obtain ⟨T223, X223, e223, st223⟩ := getF X0 hx hZ hown (host := "") (Or.inl (own_w27 hw)) Via.refl e0 F0 (g := (mkF m 6 #[.val (.ref a), .val (.ref g), .val (.double u), .second, .val (.int (0 : Int32))] [(.ref a), (.int (0 : Int32))])) rfl rfl (hb hby own_d5_6)
    refine own_go st223 ?_
    show own_Ends prg e below s _ _ _ T223 (mkF m 9 #[.val (.ref a), .val (.ref g), .val (.double u), .second, .val (.int (0 : Int32))] [(.ref ca), (.int (0 : Int32))])
    refine own_alen (pc' := 10) X223 hx hZ e223 V0 (hb hby own_d5_9) rfl ?_
    refine own_icmpNo (pc' := 13) X223 hx (hb hby own_d5_10) rfl (tlt (by decide)).2.1 ?_
    refine own_aloadN (pc' := 14) X223 hx (hb hby own_d5_13) rfl rfl rfl ?_
    refine own_aloadN (pc' := 15) X223 hx (hb hby own_d5_14) rfl rfl rfl ?_
    obtain ⟨T224, X224, e224, st224⟩ := getF X223 hx hZ hown (host := "") (Or.inl (own_w27 hw)) Via.refl e223 F0 (g := (mkF m 15 #[.val (.ref a), .val (.ref g), .val (.double u), .second, .val (.int (0 : Int32))] [(.ref a), (.ref g)])) rfl rfl (hb hby own_d5_15)
    refine own_go st224 ?_
    show own_Ends prg e below s _ _ _ T224 (mkF m 18 #[.val (.ref a), .val (.ref g), .val (.double u), .second, .val (.int (0 : Int32))] [(.ref ca), (.ref g)])
    refine own_iload (pc' := 20) X224 hx (hb hby own_d5_18) rfl rfl ?_
    refine own_iaload (pc' := 21) (v := (.int (3 : Int32))) X224 hx hZ e224 V0 (hb hby own_d5_20) rfl (by decide) rfl ?_
    refine own_dup2 (pc' := 22) X224 hx (hb hby own_d5_21) rfl rfl rfl ?_
    refine own_daload (pc' := 23) (v := (.double i3)) X224 hx hZ e224 V2 (hb hby own_d5_22) rfl (by decide) rfl ?_
    refine own_dloadN (pc' := 24) X224 hx (hb hby own_d5_23) rfl rfl ?_
    refine own_aloadN (pc' := 25) X224 hx (hb hby own_d5_24) rfl rfl rfl ?_
    obtain ⟨T225, X225, e225, st225⟩ := getF X224 hx hZ hown (host := "") (Or.inl (own_w35 hw)) Via.refl e224 F1 (g := (mkF m 25 #[.val (.ref a), .val (.ref g), .val (.double u), .second, .val (.int (0 : Int32))] [(.ref a), (.double u), (.double i3), (.int (3 : Int32)), (.ref g)])) rfl rfl (hb hby own_d5_25)
    refine own_go st225 ?_
    show own_Ends prg e below s _ _ _ T225 (mkF m 28 #[.val (.ref a), .val (.ref g), .val (.double u), .second, .val (.int (0 : Int32))] [(.ref pa), (.double u), (.double i3), (.int (3 : Int32)), (.ref g)])
    refine own_iload (pc' := 30) X225 hx (hb hby own_d5_28) rfl rfl ?_
    refine own_daload (pc' := 31) (v := (.double q0)) X225 hx hZ e225 V1 (hb hby own_d5_30) rfl (by decide) rfl ?_
    refine own_dmul (pc' := 32) (z := (FP.dmul u q0)) X225 hx (hb hby own_d5_31) rfl (Jvm.Free.Fl.dmul_out hu hq0) rfl ?_
    refine own_dadd (pc' := 33) (z := (FP.dadd i3 (FP.dmul u q0))) X225 hx (hb hby own_d5_32) rfl (own_nan hi3 hu hq0) rfl ?_
    refine own_dastore (pc' := 34) X225 hx hZ e225 V2 (hb hby own_d5_33) rfl (by decide) 3 rfl (by simp) N0 ge0 ?_
    intro T226 h226 L226 X226 e226 N226 W226 V226
    replace V226 : Arv Z h226 g gk .double (4 : Int32) [(.double i0), (.double i1), (.double i2), (.double (FP.dadd i3 (FP.dmul u q0)))] (.double 0) := V226
    show own_Ends prg e below s _ _ _ T226 (mkF m 34 #[.val (.ref a), .val (.ref g), .val (.double u), .second, .val (.int (0 : Int32))] [])
    refine own_iinc (pc' := 37) (z := (1 : Int32)) (l' := #[.val (.ref a), .val (.ref g), .val (.double u), .second, .val (.int (1 : Int32))]) X226 hx (hb hby own_d5_34) rfl rfl (by decide) rfl ?_
    refine own_goto (pc' := 3) X226 hx (hb hby own_d5_37) (by decide) (by decide) ?_
    refine own_iload (pc' := 5) X226 hx (hb hby own_d5_3) rfl rfl ?_
    refine own_aloadN (pc' := 6) X226 hx (hb hby own_d5_5) rfl rfl rfl ?_
    have f227 := (F0.other W226 (Or.inl n1))
    obtain ⟨T228, X228, e228, st228⟩ := getF X226 hx hZ hown (host := "") (Or.inl (own_w27 hw)) Via.refl e226 f227 (g := (mkF m 6 #[.val (.ref a), .val (.ref g), .val (.double u), .second, .val (.int (1 : Int32))] [(.ref a), (.int (1 : Int32))])) rfl rfl (hb hby own_d5_6)
    refine own_go st228 ?_
    show own_Ends prg e below s _ _ _ T228 (mkF m 9 #[.val (.ref a), .val (.ref g), .val (.double u), .second, .val (.int (1 : Int32))] [(.ref ca), (.int (1 : Int32))])
    have f229 := (V0.other W226 n2)
    refine own_alen (pc' := 10) X228 hx hZ e228 f229 (hb hby own_d5_9) rfl ?_
    refine own_icmpNo (pc' := 13) X228 hx (hb hby own_d5_10) rfl (tlt (by decide)).2.1 ?_
    refine own_aloadN (pc' := 14) X228 hx (hb hby own_d5_13) rfl rfl rfl ?_
    refine own_aloadN (pc' := 15) X228 hx (hb hby own_d5_14) rfl rfl rfl ?_
    obtain ⟨T230, X230, e230, st230⟩ := getF X228 hx hZ hown (host := "") (Or.inl (own_w27 hw)) Via.refl e228 f227 (g := (mkF m 15 #[.val (.ref a), .val (.ref g), .val (.double u), .second, .val (.int (1 : Int32))] [(.ref a), (.ref g)])) rfl rfl (hb hby own_d5_15)
    refine own_go st230 ?_
    show own_Ends prg e below s _ _ _ T230 (mkF m 18 #[.val (.ref a), .val (.ref g), .val (.double u), .second, .val (.int (1 : Int32))] [(.ref ca), (.ref g)])
    refine own_iload (pc' := 20) X230 hx (hb hby own_d5_18) rfl rfl ?_
    refine own_iaload (pc' := 21) (v := (.int (0 : Int32))) X230 hx hZ e230 f229 (hb hby own_d5_20) rfl (by decide) rfl ?_
    refine own_dup2 (pc' := 22) X230 hx (hb hby own_d5_21) rfl rfl rfl ?_
    refine own_daload (pc' := 23) (v := (.double i0)) X230 hx hZ e230 V226 (hb hby own_d5_22) rfl (by decide) rfl ?_
    refine own_dloadN (pc' := 24) X230 hx (hb hby own_d5_23) rfl rfl ?_
    refine own_aloadN (pc' := 25) X230 hx (hb hby own_d5_24) rfl rfl rfl ?_
    have f231 := (F1.other W226 (Or.inl n1))
    obtain ⟨T232, X232, e232, st232⟩ := getF X230 hx hZ hown (host := "") (Or.inl (own_w35 hw)) Via.refl e230 f231 (g := (mkF m 25 #[.val (.ref a), .val (.ref g), .val (.double u), .second, .val (.int (1 : Int32))] [(.ref a), (.double u), (.double i0), (.int (0 : Int32)), (.ref g)])) rfl rfl (hb hby own_d5_25)
    refine own_go st232 ?_
    show own_Ends prg e below s _ _ _ T232 (mkF m 28 #[.val (.ref a), .val (.ref g), .val (.double u), .second, .val (.int (1 : Int32))] [(.ref pa), (.double u), (.double i0), (.int (0 : Int32)), (.ref g)])
    refine own_iload (pc' := 30) X232 hx (hb hby own_d5_28) rfl rfl ?_
    have f233 := (V1.other W226 n3)
    refine own_daload (pc' := 31) (v := (.double q1)) X232 hx hZ e232 f233 (hb hby own_d5_30) rfl (by decide) rfl ?_
    refine own_dmul (pc' := 32) (z := (FP.dmul u q1)) X232 hx (hb hby own_d5_31) rfl (Jvm.Free.Fl.dmul_out hu hq1) rfl ?_
    refine own_dadd (pc' := 33) (z := (FP.dadd i0 (FP.dmul u q1))) X232 hx (hb hby own_d5_32) rfl (own_nan hi0 hu hq1) rfl ?_
    refine own_dastore (pc' := 34) X232 hx hZ e232 V226 (hb hby own_d5_33) rfl (by decide) 0 rfl (by simp) N226 ge0 ?_
    intro T234 h234 L234 X234 e234 N234 W234 V234
    replace V234 : Arv Z h234 g gk .double (4 : Int32) [(.double (FP.dadd i0 (FP.dmul u q1))), (.double i1), (.double i2), (.double (FP.dadd i3 (FP.dmul u q0)))] (.double 0) := V234
    show own_Ends prg e below s _ _ _ T234 (mkF m 34 #[.val (.ref a), .val (.ref g), .val (.double u), .second, .val (.int (1 : Int32))] [])
    refine own_iinc (pc' := 37) (z := (2 : Int32)) (l' := #[.val (.ref a), .val (.ref g), .val (.double u), .second, .val (.int (2 : Int32))]) X234 hx (hb hby own_d5_34) rfl rfl (by decide) rfl ?_
    refine own_goto (pc' := 3) X234 hx (hb hby own_d5_37) (by decide) (by decide) ?_
    refine own_iload (pc' := 5) X234 hx (hb hby own_d5_3) rfl rfl ?_
    refine own_aloadN (pc' := 6) X234 hx (hb hby own_d5_5) rfl rfl rfl ?_
    have f235 := (f227.other W234 (Or.inl n1))
    obtain ⟨T236, X236, e236, st236⟩ := getF X234 hx hZ hown (host := "") (Or.inl (own_w27 hw)) Via.refl e234 f235 (g := (mkF m 6 #[.val (.ref a), .val (.ref g), .val (.double u), .second, .val (.int (2 : Int32))] [(.ref a), (.int (2 : Int32))])) rfl rfl (hb hby own_d5_6)
    refine own_go st236 ?_
    show own_Ends prg e below s _ _ _ T236 (mkF m 9 #[.val (.ref a), .val (.ref g), .val (.double u), .second, .val (.int (2 : Int32))] [(.ref ca), (.int (2 : Int32))])
    have f237 := (f229.other W234 n2)
    refine own_alen (pc' := 10) X236 hx hZ e236 f237 (hb hby own_d5_9) rfl ?_
    refine own_icmpNo (pc' := 13) X236 hx (hb hby own_d5_10) rfl (tlt (by decide)).2.1 ?_
    refine own_aloadN (pc' := 14) X236 hx (hb hby own_d5_13) rfl rfl rfl ?_
    refine own_aloadN (pc' := 15) X236 hx (hb hby own_d5_14) rfl rfl rfl ?_
    obtain ⟨T238, X238, e238, st238⟩ := getF X236 hx hZ hown (host := "") (Or.inl (own_w27 hw)) Via.refl e236 f235 (g := (mkF m 15 #[.val (.ref a), .val (.ref g), .val (.double u), .second, .val (.int (2 : Int32))] [(.ref a), (.ref g)])) rfl rfl (hb hby own_d5_15)
    refine own_go st238 ?_
    show own_Ends prg e below s _ _ _ T238 (mkF m 18 #[.val (.ref a), .val (.ref g), .val (.double u), .second, .val (.int (2 : Int32))] [(.ref ca), (.ref g)])
    refine own_iload (pc' := 20) X238 hx (hb hby own_d5_18) rfl rfl ?_
    refine own_iaload (pc' := 21) (v := (.int (1 : Int32))) X238 hx hZ e238 f237 (hb hby own_d5_20) rfl (by decide) rfl ?_
    refine own_dup2 (pc' := 22) X238 hx (hb hby own_d5_21) rfl rfl rfl ?_
    refine own_daload (pc' := 23) (v := (.double i1)) X238 hx hZ e238 V234 (hb hby own_d5_22) rfl (by decide) rfl ?_
    refine own_dloadN (pc' := 24) X238 hx (hb hby own_d5_23) rfl rfl ?_
    refine own_aloadN (pc' := 25) X238 hx (hb hby own_d5_24) rfl rfl rfl ?_
    have f239 := (f231.other W234 (Or.inl n1))
    obtain ⟨T240, X240, e240, st240⟩ := getF X238 hx hZ hown (host := "") (Or.inl (own_w35 hw)) Via.refl e238 f239 (g := (mkF m 25 #[.val (.ref a), .val (.ref g), .val (.double u), .second, .val (.int (2 : Int32))] [(.ref a), (.double u), (.double i1), (.int (1 : Int32)), (.ref g)])) rfl rfl (hb hby own_d5_25)
    refine own_go st240 ?_
    show own_Ends prg e below s _ _ _ T240 (mkF m 28 #[.val (.ref a), .val (.ref g), .val (.double u), .second, .val (.int (2 : Int32))] [(.ref pa), (.double u), (.double i1), (.int (1 : Int32)), (.ref g)])
    refine own_iload (pc' := 30) X240 hx (hb hby own_d5_28) rfl rfl ?_
    have f241 := (f233.other W234 n3)
    refine own_daload (pc' := 31) (v := (.double q2)) X240 hx hZ e240 f241 (hb hby own_d5_30) rfl (by decide) rfl ?_
    refine own_dmul (pc' := 32) (z := (FP.dmul u q2)) X240 hx (hb hby own_d5_31) rfl (Jvm.Free.Fl.dmul_out hu hq2) rfl ?_
    refine own_dadd (pc' := 33) (z := (FP.dadd i1 (FP.dmul u q2))) X240 hx (hb hby own_d5_32) rfl (own_nan hi1 hu hq2) rfl ?_
    refine own_dastore (pc' := 34) X240 hx hZ e240 V234 (hb hby own_d5_33) rfl (by decide) 1 rfl (by simp) N234 ge0 ?_
    intro T242 h242 L242 X242 e242 N242 W242 V242
    replace V242 : Arv Z h242 g gk .double (4 : Int32) [(.double (FP.dadd i0 (FP.dmul u q1))), (.double (FP.dadd i1 (FP.dmul u q2))), (.double i2), (.double (FP.dadd i3 (FP.dmul u q0)))] (.double 0) := V242
    show own_Ends prg e below s _ _ _ T242 (mkF m 34 #[.val (.ref a), .val (.ref g), .val (.double u), .second, .val (.int (2 : Int32))] [])
    refine own_iinc (pc' := 37) (z := (3 : Int32)) (l' := #[.val (.ref a), .val (.ref g), .val (.double u), .second, .val (.int (3 : Int32))]) X242 hx (hb hby own_d5_34) rfl rfl (by decide) rfl ?_
    refine own_goto (pc' := 3) X242 hx (hb hby own_d5_37) (by decide) (by decide) ?_
    refine own_iload (pc' := 5) X242 hx (hb hby own_d5_3) rfl rfl ?_
    refine own_aloadN (pc' := 6) X242 hx (hb hby own_d5_5) rfl rfl rfl ?_
    have f243 := (f235.other W242 (Or.inl n1))
    obtain ⟨T244, X244, e244, st244⟩ := getF X242 hx hZ hown (host := "") (Or.inl (own_w27 hw)) Via.refl e242 f243 (g := (mkF m 6 #[.val (.ref a), .val (.ref g), .val (.double u), .second, .val (.int (3 : Int32))] [(.ref a), (.int (3 : Int32))])) rfl rfl (hb hby own_d5_6)
    refine own_go st244 ?_
    show own_Ends prg e below s _ _ _ T244 (mkF m 9 #[.val (.ref a), .val (.ref g), .val (.double u), .second, .val (.int (3 : Int32))] [(.ref ca), (.int (3 : Int32))])
    have f245 := (f237.other W242 n2)
    refine own_alen (pc' := 10) X244 hx hZ e244 f245 (hb hby own_d5_9) rfl ?_
    refine own_icmpNo (pc' := 13) X244 hx (hb hby own_d5_10) rfl (tlt (by decide)).2.1 ?_
    refine own_aloadN (pc' := 14) X244 hx (hb hby own_d5_13) rfl rfl rfl ?_
    refine own_aloadN (pc' := 15) X244 hx (hb hby own_d5_14) rfl rfl rfl ?_
    obtain ⟨T246, X246, e246, st246⟩ := getF X244 hx hZ hown (host := "") (Or.inl (own_w27 hw)) Via.refl e244 f243 (g := (mkF m 15 #[.val (.ref a), .val (.ref g), .val (.double u), .second, .val (.int (3 : Int32))] [(.ref a), (.ref g)])) rfl rfl (hb hby own_d5_15)
    refine own_go st246 ?_
    show own_Ends prg e below s _ _ _ T246 (mkF m 18 #[.val (.ref a), .val (.ref g), .val (.double u), .second, .val (.int (3 : Int32))] [(.ref ca), (.ref g)])
    refine own_iload (pc' := 20) X246 hx (hb hby own_d5_18) rfl rfl ?_
    refine own_iaload (pc' := 21) (v := (.int (2 : Int32))) X246 hx hZ e246 f245 (hb hby own_d5_20) rfl (by decide) rfl ?_
    refine own_dup2 (pc' := 22) X246 hx (hb hby own_d5_21) rfl rfl rfl ?_
    refine own_daload (pc' := 23) (v := (.double i2)) X246 hx hZ e246 V242 (hb hby own_d5_22) rfl (by decide) rfl ?_
    refine own_dloadN (pc' := 24) X246 hx (hb hby own_d5_23) rfl rfl ?_
    refine own_aloadN (pc' := 25) X246 hx (hb hby own_d5_24) rfl rfl rfl ?_
    have f247 := (f239.other W242 (Or.inl n1))
    obtain ⟨T248, X248, e248, st248⟩ := getF X246 hx hZ hown (host := "") (Or.inl (own_w35 hw)) Via.refl e246 f247 (g := (mkF m 25 #[.val (.ref a), .val (.ref g), .val (.double u), .second, .val (.int (3 : Int32))] [(.ref a), (.double u), (.double i2), (.int (2 : Int32)), (.ref g)])) rfl rfl (hb hby own_d5_25)
    refine own_go st248 ?_
    show own_Ends prg e below s _ _ _ T248 (mkF m 28 #[.val (.ref a), .val (.ref g), .val (.double u), .second, .val (.int (3 : Int32))] [(.ref pa), (.double u), (.double i2), (.int (2 : Int32)), (.ref g)])
    refine own_iload (pc' := 30) X248 hx (hb hby own_d5_28) rfl rfl ?_
    have f249 := (f241.other W242 n3)
    refine own_daload (pc' := 31) (v := (.double q3)) X248 hx hZ e248 f249 (hb hby own_d5_30) rfl (by decide) rfl ?_
    refine own_dmul (pc' := 32) (z := (FP.dmul u q3)) X248 hx (hb hby own_d5_31) rfl (Jvm.Free.Fl.dmul_out hu hq3) rfl ?_
    refine own_dadd (pc' := 33) (z := (FP.dadd i2 (FP.dmul u q3))) X248 hx (hb hby own_d5_32) rfl (own_nan hi2 hu hq3) rfl ?_
    refine own_dastore (pc' := 34) X248 hx hZ e248 V242 (hb hby own_d5_33) rfl (by decide) 2 rfl (by simp) N242 ge0 ?_
    intro T250 h250 L250 X250 e250 N250 W250 V250
    replace V250 : Arv Z h250 g gk .double (4 : Int32) [(.double (FP.dadd i0 (FP.dmul u q1))), (.double (FP.dadd i1 (FP.dmul u q2))), (.double (FP.dadd i2 (FP.dmul u q3))), (.double (FP.dadd i3 (FP.dmul u q0)))] (.double 0) := V250
    show own_Ends prg e below s _ _ _ T250 (mkF m 34 #[.val (.ref a), .val (.ref g), .val (.double u), .second, .val (.int (3 : Int32))] [])
    refine own_iinc (pc' := 37) (z := (4 : Int32)) (l' := #[.val (.ref a), .val (.ref g), .val (.double u), .second, .val (.int (4 : Int32))]) X250 hx (hb hby own_d5_34) rfl rfl (by decide) rfl ?_
    refine own_goto (pc' := 3) X250 hx (hb hby own_d5_37) (by decide) (by decide) ?_
    refine own_iload (pc' := 5) X250 hx (hb hby own_d5_3) rfl rfl ?_
    refine own_aloadN (pc' := 6) X250 hx (hb hby own_d5_5) rfl rfl rfl ?_
    have f251 := (f243.other W250 (Or.inl n1))
    obtain ⟨T252, X252, e252, st252⟩ := getF X250 hx hZ hown (host := "") (Or.inl (own_w27 hw)) Via.refl e250 f251 (g := (mkF m 6 #[.val (.ref a), .val (.ref g), .val (.double u), .second, .val (.int (4 : Int32))] [(.ref a), (.int (4 : Int32))])) rfl rfl (hb hby own_d5_6)
    refine own_go st252 ?_
    show own_Ends prg e below s _ _ _ T252 (mkF m 9 #[.val (.ref a), .val (.ref g), .val (.double u), .second, .val (.int (4 : Int32))] [(.ref ca), (.int (4 : Int32))])
    have f253 := (f245.other W250 n2)
    refine own_alen (pc' := 10) X252 hx hZ e252 f253 (hb hby own_d5_9) rfl ?_
    refine own_icmpYes (pc' := 40) X252 hx (hb hby own_d5_10) (flt (by decide)).2.1 (by decide) (by decide) ?_
    refine own_retV X252 hx hlk hret (hb hby own_d5_40) (by decide) (by decide) ?_
    have f254 := ((((K0.wr W226 (Or.inl (List.mem_of_getElem? (i := 0) rfl))).wr W234 (Or.inl (List.mem_of_getElem? (i := 0) rfl))).wr W242 (Or.inl (List.mem_of_getElem? (i := 0) rfl))).wr W250 (Or.inl (List.mem_of_getElem? (i := 0) rfl)))
    rw [e252]; exact ⟨rfl, N250, f254, V250⟩
  · replace V0 : Arv Z h0 ca ck .int (4 : Int32) [(.int (3 : Int32)), (.int (2 : Int32)), (.int (1 : Int32)), (.int (0 : Int32))] (.int (0 : Int32)) := V0
    refine own_iconst (pc' := 1) (z := (0 : Int32)) X0 hx (hb hby own_d5_0) rfl rfl ?_
    refine own_istore (pc' := 3) (l' := #[.val (.ref a), .val (.ref g), .val (.double u), .second, .val (.int (0 : Int32))]) X0 hx (hb hby own_d5_1) rfl rfl ?_
    refine own_iload (pc' := 5) X0 hx (hb hby own_d5_3) rfl rfl ?_
    refine own_aloadN (pc' := 6) X0 hx (hb hby own_d5_5) rfl rfl rfl ?_
    obtain ⟨T255, X255, e255, st255⟩ := getF X0 hx hZ hown (host := "") (Or.inl (own_w27 hw)) Via.refl e0 F0 (g := (mkF m 6 #[.val (.ref a), .val (.ref g), .val (.double u), .second, .val (.int (0 : Int32))] [(.ref a), (.int (0 : Int32))])) rfl rfl (hb hby own_d5_6)
    refine own_go st255 ?_
    show own_Ends prg e below s _ _ _ T255 (mkF m 9 #[.val (.ref a), .val (.ref g), .val (.double u), .second, .val (.int (0 : Int32))] [(.ref ca), (.int (0 : Int32))])
    refine own_alen (pc' := 10) X255 hx hZ e255 V0 (hb hby own_d5_9) rfl ?_
    refine own_icmpNo (pc' := 13) X255 hx (hb hby own_d5_10) rfl (tlt (by decide)).2.1 ?_
    refine own_aloadN (pc' := 14) X255 hx (hb hby own_d5_13) rfl rfl rfl ?_
    refine own_aloadN (pc' := 15) X255 hx (hb hby own_d5_14) rfl rfl rfl ?_
    obtain ⟨T256, X256, e256, st256⟩ := getF X255 hx hZ hown (host := "") (Or.inl (own_w27 hw)) Via.refl e255 F0 (g := (mkF m 15 #[.val (.ref a), .val (.ref g), .val (.double u), .second, .val (.int (0 : Int32))] [(.ref a), (.ref g)])) rfl rfl (hb hby own_d5_15)
    refine own_go st256 ?_
    show own_Ends prg e below s _ _ _ T256 (mkF m 18 #[.val (.ref a), .val (.ref g), .val (.double u), .second, .val (.int (0 : Int32))] [(.ref ca), (.ref g)])
    refine own_iload (pc' := 20) X256 hx (hb hby own_d5_18) rfl rfl ?_
    refine own_iaload (pc' := 21) (v := (.int (3 : Int32))) X256 hx hZ e256 V0 (hb hby own_d5_20) rfl (by decide) rfl ?_
    refine own_dup2 (pc' := 22) X256 hx (hb hby own_d5_21) rfl rfl rfl ?_
    refine own_daload (pc' := 23) (v := (.double i3)) X256 hx hZ e256 V2 (hb hby own_d5_22) rfl (by decide) rfl ?_
    refine own_dloadN (pc' := 24) X256 hx (hb hby own_d5_23) rfl rfl ?_
    refine own_aloadN (pc' := 25) X256 hx (hb hby own_d5_24) rfl rfl rfl ?_
    obtain ⟨T257, X257, e257, st257⟩ := getF X256 hx hZ hown (host := "") (Or.inl (own_w35 hw)) Via.refl e256 F1 (g := (mkF m 25 #[.val (.ref a), .val (.ref g), .val (.double u), .second, .val (.int (0 : Int32))] [(.ref a), (.double u), (.double i3), (.int (3 : Int32)), (.ref g)])) rfl rfl (hb hby own_d5_25)
    refine own_go st257 ?_
    show own_Ends prg e below s _ _ _ T257 (mkF m 28 #[.val (.ref a), .val (.ref g), .val (.double u), .second, .val (.int (0 : Int32))] [(.ref pa), (.double u), (.double i3), (.int (3 : Int32)), (.ref g)])
    refine own_iload (pc' := 30) X257 hx (hb hby own_d5_28) rfl rfl ?_
    refine own_daload (pc' := 31) (v := (.double q0)) X257 hx hZ e257 V1 (hb hby own_d5_30) rfl (by decide) rfl ?_
    refine own_dmul (pc' := 32) (z := (FP.dmul u q0)) X257 hx (hb hby own_d5_31) rfl (Jvm.Free.Fl.dmul_out hu hq0) rfl ?_
    refine own_dadd (pc' := 33) (z := (FP.dadd i3 (FP.dmul u q0))) X257 hx (hb hby own_d5_32) rfl (own_nan hi3 hu hq0) rfl ?_
    refine own_dastore (pc' := 34) X257 hx hZ e257 V2 (hb hby own_d5_33) rfl (by decide) 3 rfl (by simp) N0 ge0 ?_
    intro T258 h258 L258 X258 e258 N258 W258 V258
    replace V258 : Arv Z h258 g gk .double (4 : Int32) [(.double i0), (.double i1), (.double i2), (.double (FP.dadd i3 (FP.dmul u q0)))] (.double 0) := V258
    show own_Ends prg e below s _ _ _ T258 (mkF m 34 #[.val (.ref a), .val (.ref g), .val (.double u), .second, .val (.int (0 : Int32))] [])
    refine own_iinc (pc' := 37) (z := (1 : Int32)) (l' := #[.val (.ref a), .val (.ref g), .val (.double u), .second, .val (.int (1 : Int32))]) X258 hx (hb hby own_d5_34) rfl rfl (by decide) rfl ?_
    refine own_goto (pc' := 3) X258 hx (hb hby own_d5_37) (by decide) (by decide) ?_
    refine own_iload (pc' := 5) X258 hx (hb hby own_d5_3) rfl rfl ?_
    refine own_aloadN (pc' := 6) X258 hx (hb hby own_d5_5) rfl rfl rfl ?_
    have f259 := (F0.other W258 (Or.inl n1))
    obtain ⟨T260, X260, e260, st260⟩ := getF X258 hx hZ hown (host := "") (Or.inl (own_w27 hw)) Via.refl e258 f259 (g := (mkF m 6 #[.val (.ref a), .val (.ref g), .val (.double u), .second, .val (.int (1 : Int32))] [(.ref a), (.int (1 : Int32))])) rfl rfl (hb hby own_d5_6)
    refine own_go st260 ?_
    show own_Ends prg e below s _ _ _ T260 (mkF m 9 #[.val (.ref a), .val (.ref g), .val (.double u), .second, .val (.int (1 : Int32))] [(.ref ca), (.int (1 : Int32))])
    have f261 := (V0.other W258 n2)
    refine own_alen (pc' := 10) X260 hx hZ e260 f261 (hb hby own_d5_9) rfl ?_
    refine own_icmpNo (pc' := 13) X260 hx (hb hby own_d5_10) rfl (tlt (by decide)).2.1 ?_
    refine own_aloadN (pc' := 14) X260 hx (hb hby own_d5_13) rfl rfl rfl ?_
    refine own_aloadN (pc' := 15) X260 hx (hb hby own_d5_14) rfl rfl rfl ?_
    obtain ⟨T262, X262, e262, st262⟩ := getF X260 hx hZ hown (host := "") (Or.inl (own_w27 hw)) Via.refl e260 f259 (g := (mkF m 15 #[.val (.ref a), .val (.ref g), .val (.double u), .second, .val (.int (1 : Int32))] [(.ref a), (.ref g)])) rfl rfl (hb hby own_d5_15)
    refine own_go st262 ?_
    show own_Ends prg e below s _ _ _ T262 (mkF m 18 #[.val (.ref a), .val (.ref g), .val (.double u), .second, .val (.int (1 : Int32))] [(.ref ca), (.ref g)])
    refine own_iload (pc' := 20) X262 hx (hb hby own_d5_18) rfl rfl ?_
    refine own_iaload (pc' := 21) (v := (.int (2 : Int32))) X262 hx hZ e262 f261 (hb hby own_d5_20) rfl (by decide) rfl ?_
    refine own_dup2 (pc' := 22) X262 hx (hb hby own_d5_21) rfl rfl rfl ?_
    refine own_daload (pc' := 23) (v := (.double i2)) X262 hx hZ e262 V258 (hb hby own_d5_22) rfl (by decide) rfl ?_
    refine own_dloadN (pc' := 24) X262 hx (hb hby own_d5_23) rfl rfl ?_
    refine own_aloadN (pc' := 25) X262 hx (hb hby own_d5_24) rfl rfl rfl ?_
    have f263 := (F1.other W258 (Or.inl n1))
    obtain ⟨T264, X264, e264, st264⟩ := getF X262 hx hZ hown (host := "") (Or.inl (own_w35 hw)) Via.refl e262 f263 (g := (mkF m 25 #[.val (.ref a), .val (.ref g), .val (.double u), .second, .val (.int (1 : Int32))] [(.ref a), (.double u), (.double i2), (.int (2 : Int32)), (.ref g)])) rfl rfl (hb hby own_d5_25)
    refine own_go st264 ?_
    show own_Ends prg e below s _ _ _ T264 (mkF m 28 #[.val (.ref a), .val (.ref g), .val (.double u), .second, .val (.int (1 : Int32))] [(.ref pa), (.double u), (.double i2), (.int (2 : Int32)), (.ref g)])
    refine own_iload (pc' := 30) X264 hx (hb hby own_d5_28) rfl rfl ?_
    have f265 := (V1.other W258 n3)
    refine own_daload (pc' := 31) (v := (.double q1)) X264 hx hZ e264 f265 (hb hby own_d5_30) rfl (by decide) rfl ?_
    refine own_dmul (pc' := 32) (z := (FP.dmul u q1)) X264 hx (hb hby own_d5_31) rfl (Jvm.Free.Fl.dmul_out hu hq1) rfl ?_
    refine own_dadd (pc' := 33) (z := (FP.dadd i2 (FP.dmul u q1))) X264 hx (hb hby own_d5_32) rfl (own_nan hi2 hu hq1) rfl ?_
    refine own_dastore (pc' := 34) X264 hx hZ e264 V258 (hb hby own_d5_33) rfl (by decide) 2 rfl (by simp) N258 ge0 ?_
    intro T266 h266 L266 X266 e266 N266 W266 V266
    replace V266 : Arv Z h266 g gk .double (4 : Int32) [(.double i0), (.double i1), (.double (FP.dadd i2 (FP.dmul u q1))), (.double (FP.dadd i3 (FP.dmul u q0)))] (.double 0) := V266
    show own_Ends prg e below s _ _ _ T266 (mkF m 34 #[.val (.ref a), .val (.ref g), .val (.double u), .second, .val (.int (1 : Int32))] [])
    refine own_iinc (pc' := 37) (z := (2 : Int32)) (l' := #[.val (.ref a), .val (.ref g), .val (.double u), .second, .val (.int (2 : Int32))]) X266 hx (hb hby own_d5_34) rfl rfl (by decide) rfl ?_
    refine own_goto (pc' := 3) X266 hx (hb hby own_d5_37) (by decide) (by decide) ?_
    refine own_iload (pc' := 5) X266 hx (hb hby own_d5_3) rfl rfl ?_
    refine own_aloadN (pc' := 6) X266 hx (hb hby own_d5_5) rfl rfl rfl ?_
    have f267 := (f259.other W266 (Or.inl n1))
    obtain ⟨T268, X268, e268, st268⟩ := getF X266 hx hZ hown (host := "") (Or.inl (own_w27 hw)) Via.refl e266 f267 (g := (mkF m 6 #[.val (.ref a), .val (.ref g), .val (.double u), .second, .val (.int (2 : Int32))] [(.ref a), (.int (2 : Int32))])) rfl rfl (hb hby own_d5_6)
    refine own_go st268 ?_
    show own_Ends prg e below s _ _ _ T268 (mkF m 9 #[.val (.ref a), .val (.ref g), .val (.double u), .second, .val (.int (2 : Int32))] [(.ref ca), (.int (2 : Int32))])
    have f269 := (f261.other W266 n2)
    refine own_alen (pc' := 10) X268 hx hZ e268 f269 (hb hby own_d5_9) rfl ?_
    refine own_icmpNo (pc' := 13) X268 hx (hb hby own_d5_10) rfl (tlt (by decide)).2.1 ?_
    refine own_aloadN (pc' := 14) X268 hx (hb hby own_d5_13) rfl rfl rfl ?_
    refine own_aloadN (pc' := 15) X268 hx (hb hby own_d5_14) rfl rfl rfl ?_
    obtain ⟨T270, X270, e270, st270⟩ := getF X268 hx hZ hown (host := "") (Or.inl (own_w27 hw)) Via.refl e268 f267 (g := (mkF m 15 #[.val (.ref a), .val (.ref g), .val (.double u), .second, .val (.int (2 : Int32))] [(.ref a), (.ref g)])) rfl rfl (hb hby own_d5_15)
    refine own_go st270 ?_
    show own_Ends prg e below s _ _ _ T270 (mkF m 18 #[.val (.ref a), .val (.ref g), .val (.double u), .second, .val (.int (2 : Int32))] [(.ref ca), (.ref g)])
    refine own_iload (pc' := 20) X270 hx (hb hby own_d5_18) rfl rfl ?_
    refine own_iaload (pc' := 21) (v := (.int (1 : Int32))) X270 hx hZ e270 f269 (hb hby own_d5_20) rfl (by decide) rfl ?_
    refine own_dup2 (pc' := 22) X270 hx (hb hby own_d5_21) rfl rfl rfl ?_
    refine own_daload (pc' := 23) (v := (.double i1)) X270 hx hZ e270 V266 (hb hby own_d5_22) rfl (by decide) rfl ?_
    refine own_dloadN (pc' := 24) X270 hx (hb hby own_d5_23) rfl rfl ?_
    refine own_aloadN (pc' := 25) X270 hx (hb hby own_d5_24) rfl rfl rfl ?_
    have f271 := (f263.other W266 (Or.inl n1))
    obtain ⟨T272, X272, e272, st272⟩ := getF X270 hx hZ hown (host := "") (Or.inl (own_w35 hw)) Via.refl e270 f271 (g := (mkF m 25 #[.val (.ref a), .val (.ref g), .val (.double u), .second, .val (.int (2 : Int32))] [(.ref a), (.double u), (.double i1), (.int (1 : Int32)), (.ref g)])) rfl rfl (hb hby own_d5_25)
    refine own_go st272 ?_
    show own_Ends prg e below s _ _ _ T272 (mkF m 28 #[.val (.ref a), .val (.ref g), .val (.double u), .second, .val (.int (2 : Int32))] [(.ref pa), (.double u), (.double i1), (.int (1 : Int32)), (.ref g)])
    refine own_iload (pc' := 30) X272 hx (hb hby own_d5_28) rfl rfl ?_
    have f273 := (f265.other W266 n3)
    refine own_daload (pc' := 31) (v := (.double q2)) X272 hx hZ e272 f273 (hb hby own_d5_30) rfl (by decide) rfl ?_
    refine own_dmul (pc' := 32) (z := (FP.dmul u q2)) X272 hx (hb hby own_d5_31) rfl (Jvm.Free.Fl.dmul_out hu hq2) rfl ?_
    refine own_dadd (pc' := 33) (z := (FP.dadd i1 (FP.dmul u q2))) X272 hx (hb hby own_d5_32) rfl (own_nan hi1 hu hq2) rfl ?_
    refine own_dastore (pc' := 34) X272 hx hZ e272 V266 (hb hby own_d5_33) rfl (by decide) 1 rfl (by simp) N266 ge0 ?_
    intro T274 h274 L274 X274 e274 N274 W274 V274
    replace V274 : Arv Z h274 g gk .double (4 : Int32) [(.double i0), (.double (FP.dadd i1 (FP.dmul u q2))), (.double (FP.dadd i2 (FP.dmul u q1))), (.double (FP.dadd i3 (FP.dmul u q0)))] (.double 0) := V274
    show own_Ends prg e below s _ _ _ T274 (mkF m 34 #[.val (.ref a), .val (.ref g), .val (.double u), .second, .val (.int (2 : Int32))] [])
    refine own_iinc (pc' := 37) (z := (3 : Int32)) (l' := #[.val (.ref a), .val (.ref g), .val (.double u), .second, .val (.int (3 : Int32))]) X274 hx (hb hby own_d5_34) rfl rfl (by decide) rfl ?_
    refine own_goto (pc' := 3) X274 hx (hb hby own_d5_37) (by decide) (by decide) ?_
    refine own_iload (pc' := 5) X274 hx (hb hby own_d5_3) rfl rfl ?_
    refine own_aloadN (pc' := 6) X274 hx (hb hby own_d5_5) rfl rfl rfl ?_
    have f275 := (f267.other W274 (Or.inl n1))
    obtain ⟨T276, X276, e276, st276⟩ := getF X274 hx hZ hown (host := "") (Or.inl (own_w27 hw)) Via.refl e274 f275 (g := (mkF m 6 #[.val (.ref a), .val (.ref g), .val (.double u), .second, .val (.int (3 : Int32))] [(.ref a), (.int (3 : Int32))])) rfl rfl (hb hby own_d5_6)
    refine own_go st276 ?_
    show own_Ends prg e below s _ _ _ T276 (mkF m 9 #[.val (.ref a), .val (.ref g), .val (.double u), .second, .val (.int (3 : Int32))] [(.ref ca), (.int (3 : Int32))])
    have f277 := (f269.other W274 n2)
    refine own_alen (pc' := 10) X276 hx hZ e276 f277 (hb hby own_d5_9) rfl ?_
    refine own_icmpNo (pc' := 13) X276 hx (hb hby own_d5_10) rfl (tlt (by decide)).2.1 ?_
    refine own_aloadN (pc' := 14) X276 hx (hb hby own_d5_13) rfl rfl rfl ?_
    refine own_aloadN (pc' := 15) X276 hx (hb hby own_d5_14) rfl rfl rfl ?_
    obtain ⟨T278, X278, e278, st278⟩ := getF X276 hx hZ hown (host := "") (Or.inl (own_w27 hw)) Via.refl e276 f275 (g := (mkF m 15 #[.val (.ref a), .val (.ref g), .val (.double u), .second, .val (.int (3 : Int32))] [(.ref a), (.ref g)])) rfl rfl (hb hby own_d5_15)
    refine own_go st278 ?_
    show own_Ends prg e below s _ _ _ T278 (mkF m 18 #[.val (.ref a), .val (.ref g), .val (.double u), .second, .val (.int (3 : Int32))] [(.ref ca), (.ref g)])
    refine own_iload (pc' := 20) X278 hx (hb hby own_d5_18) rfl rfl ?_
    refine own_iaload (pc' := 21) (v := (.int (0 : Int32))) X278 hx hZ e278 f277 (hb hby own_d5_20) rfl (by decide) rfl ?_
    refine own_dup2 (pc' := 22) X278 hx (hb hby own_d5_21) rfl rfl rfl ?_
    refine own_daload (pc' := 23) (v := (.double i0)) X278 hx hZ e278 V274 (hb hby own_d5_22) rfl (by decide) rfl ?_
    refine own_dloadN (pc' := 24) X278 hx (hb hby own_d5_23) rfl rfl ?_
    refine own_aloadN (pc' := 25) X278 hx (hb hby own_d5_24) rfl rfl rfl ?_
    have f279 := (f271.other W274 (Or.inl n1))
    obtain ⟨T280, X280, e280, st280⟩ := getF X278 hx hZ hown (host := "") (Or.inl (own_w35 hw)) Via.refl e278 f279 (g := (mkF m 25 #[.val (.ref a), .val (.ref g), .val (.double u), .second, .val (.int (3 : Int32))] [(.ref a), (.double u), (.double i0), (.int (0 : Int32)), (.ref g)])) rfl rfl (hb hby own_d5_25)
    refine own_go st280 ?_
    show own_Ends prg e below s _ _ _ T280 (mkF m 28 #[.val (.ref a), .val (.ref g), .val (.double u), .second, .val (.int (3 : Int32))] [(.ref pa), (.double u), (.double i0), (.int (0 : Int32)), (.ref g)])
    refine own_iload (pc' := 30) X280 hx (hb hby own_d5_28) rfl rfl ?_
    have f281 := (f273.other W274 n3)
    refine own_daload (pc' := 31) (v := (.double q3)) X280 hx hZ e280 f281 (hb hby own_d5_30) rfl (by decide) rfl ?_
    refine own_dmul (pc' := 32) (z := (FP.dmul u q3)) X280 hx (hb hby own_d5_31) rfl (Jvm.Free.Fl.dmul_out hu hq3) rfl ?_
    refine own_dadd (pc' := 33) (z := (FP.dadd i0 (FP.dmul u q3))) X280 hx (hb hby own_d5_32) rfl (own_nan hi0 hu hq3) rfl ?_
    refine own_dastore (pc' := 34) X280 hx hZ e280 V274 (hb hby own_d5_33) rfl (by decide) 0 rfl (by simp) N274 ge0 ?_
    intro T282 h282 L282 X282 e282 N282 W282 V282
    replace V282 : Arv Z h282 g gk .double (4 : Int32) [(.double (FP.dadd i0 (FP.dmul u q3))), (.double (FP.dadd i1 (FP.dmul u q2))), (.double (FP.dadd i2 (FP.dmul u q1))), (.double (FP.dadd i3 (FP.dmul u q0)))] (.double 0) := V282
    show own_Ends prg e below s _ _ _ T282 (mkF m 34 #[.val (.ref a), .val (.ref g), .val (.double u), .second, .val (.int (3 : Int32))] [])
    refine own_iinc (pc' := 37) (z := (4 : Int32)) (l' := #[.val (.ref a), .val (.ref g), .val (.double u), .second, .val (.int (4 : Int32))]) X282 hx (hb hby own_d5_34) rfl rfl (by decide) rfl ?_
    refine own_goto (pc' := 3) X282 hx (hb hby own_d5_37) (by decide) (by decide) ?_
    refine own_iload (pc' := 5) X282 hx (hb hby own_d5_3) rfl rfl ?_
    refine own_aloadN (pc' := 6) X282 hx (hb hby own_d5_5) rfl rfl rfl ?_
    have f283 := (f275.other W282 (Or.inl n1))
    obtain ⟨T284, X284, e284, st284⟩ := getF X282 hx hZ hown (host := "") (Or.inl (own_w27 hw)) Via.refl e282 f283 (g := (mkF m 6 #[.val (.ref a), .val (.ref g), .val (.double u), .second, .val (.int (4 : Int32))] [(.ref a), (.int (4 : Int32))])) rfl rfl (hb hby own_d5_6)
    refine own_go st284 ?_
    show own_Ends prg e below s _ _ _ T284 (mkF m 9 #[.val (.ref a), .val (.ref g), .val (.double u), .second, .val (.int (4 : Int32))] [(.ref ca), (.int (4 : Int32))])
    have f285 := (f277.other W282 n2)
    refine own_alen (pc' := 10) X284 hx hZ e284 f285 (hb hby own_d5_9) rfl ?_
    refine own_icmpYes (pc' := 40) X284 hx (hb hby own_d5_10) (flt (by decide)).2.1 (by decide) (by decide) ?_
    refine own_retV X284 hx hlk hret (hb hby own_d5_40) (by decide) (by decide) ?_
    have f286 := ((((K0.wr W258 (Or.inl (List.mem_of_getElem? (i := 0) rfl))).wr W266 (Or.inl (List.mem_of_getElem? (i := 0) rfl))).wr W274 (Or.inl (List.mem_of_getElem? (i := 0) rfl))).wr W282 (Or.inl (List.mem_of_getElem? (i := 0) rfl)))
    rw [e284]; exact ⟨rfl, N282, f286, V282⟩
def own_room6 : Room := { frames := 0, cells := 0, slots := 0, locals := 0 }
def own_Q6 (Z : State) (j : Int32) (b : Int32) (d : Int32) (n : Int32) (i : UInt64) (u : UInt64) (q0 : UInt64) (q1 : UInt64) (q2 : UInt64) (q3 : UInt64) (h0 : Heap) (n0 : Nat) (v : Option Value) (h : Heap) (L : List Loc) : Prop := v = some (.double (own_exp j b d n i u q0 q1 q2 q3)) ∧ Fr n0 L ∧ h = h0
theorem own_ef_rm6 (m : MethodId) (x0 : Int32) (x1 : Int32) (x2 : Int32) (x3 : Int32) (x4 : UInt64) (x5 : UInt64) (x6 : UInt64) (x7 : UInt64) (x8 : UInt64) (x9 : UInt64) : entryFrame m #[(.int x0), (.int x1), (.int x2), (.int x3), (.double x4), (.double x5), (.double x6), (.double x7), (.double x8), (.double x9)] 19 = mkF m 0 #[.val (.int x0), .val (.int x1), .val (.int x2), .val (.int x3), .val (.double x4), .second, .val (.double x5), .second, .val (.double x6), .second, .val (.double x7), .second, .val (.double x8), .second, .val (.double x9), .second, .unset, .unset, .unset] [] := by first | (simp [entryFrame, mkF, argsToLocals, Value.category]; done) | rfl
set_option maxRecDepth 65536 in
set_option maxHeartbeats 40000000 in
theorem own_rm6 (lch : Launch) (Z : State) (a0 : Array Value) (hw : ∀ d ∈ tables_1, d.before a0 Z = true) (ws : List Jvm.Cond) (j : Int32) (b : Int32) (d : Int32) (n : Int32) (i : UInt64) (u : UInt64) (q0 : UInt64) (q1 : UInt64) (q2 : UInt64) (q3 : UInt64) (h0 : Heap) (n0 : Nat) (hi : Jvm.Free.Fl.Fin64 i) (hu : Jvm.Free.Fl.Fin64 u) (hq0 : Jvm.Free.Fl.Fin64 q0) (hq1 : Jvm.Free.Fl.Fin64 q1) (hq2 : Jvm.Free.Fl.Fin64 q2) (hq3 : Jvm.Free.Fl.Fin64 q3) :
    MetFree lch (⟨"com/example/mapwright/mapwright/ArcLoadsAddToPinLaw", "expected", "(IIIIDDDDDD)D"⟩ : MethodName) (head1 (Jvm.Cond.code (⟨"com/example/mapwright/mapwright/ArcLoadsAddToPinLaw", "expected", "(IIIIDDDDDD)D"⟩ : MethodName) method_5_code 19 (some .double) :: ws) own_room6) (fun zz U => zz = #[(.int j), (.int b), (.int d), (.int n), (.double i), (.double u), (.double q0), (.double q1), (.double q2), (.double q3)] ∧ Z.Warmed39 U.vm ∧ U.heap = h0) (fun _ _ _ _ _ => True) (fun _ U o U' => ∃ v L, o = .returned v ∧ own_Q6 Z j b d n i u q0 q1 q2 q3 h0 n0 v U'.heap L ∧ FrameEnd U o U' L own_room6.cells own_room6.slots) := by
  refine MetFree.of_bodySF (plainFor_of_name own_pn0) hisR ?_
  intro prg e s m args below meth c s₁ Bd hml0 hP hK
  obtain ⟨rfl, hZ, hh⟩ := hP
  have hx := Bd.exec
  have hby := Bd.bytes
  have hml : c.maxLocals = 19 := hml0
  have hown : s.vm.findClass "com/example/mapwright/mapwright/ArcLoadsAddToPinLaw" = some m.cls := findClass_of_methodNamed Bd.named
  have hnm := (name_of_methodNamed Bd.named Bd.method).1
  have hlk : meth.locks = false := BodyLoose.notSynchronized Bd
  have hret := Bd.returns
  have X0 : Stand prg lch e own_room6 s m #[(.int j), (.int b), (.int d), (.int n), (.double i), (.double u), (.double q0), (.double q1), (.double q2), (.double q3)] below meth c s₁ [] 0 0 := Stand.of_body Bd
  have e0 : s₁.heap = h0 := by rw [← hh, Bd.state]; rfl
  have N0 := Fr.nil n0
  show own_Ends prg e below s (own_Q6 Z j b d n i u q0 q1 q2 q3 h0 n0) own_room6.cells own_room6.slots s₁ (entryFrame m #[(.int j), (.int b), (.int d), (.int n), (.double i), (.double u), (.double q0), (.double q1), (.double q2), (.double q3)] 19)
  refine own_cast (own_ef_rm6 m j b d n i u q0 q1 q2 q3) ?_
  refine own_iloadN (pc' := 1) X0 hx (hb hby own_d6_0) rfl rfl ?_
  refine own_iloadN (pc' := 2) X0 hx (hb hby own_d6_1) rfl rfl ?_
  refine own_isub (pc' := 3) (z := (j - b)) X0 hx (hb hby own_d6_2) rfl rfl ?_
  refine own_iloadN (pc' := 4) X0 hx (hb hby own_d6_3) rfl rfl ?_
  refine own_imul (pc' := 5) (z := ((j - b) * d)) X0 hx (hb hby own_d6_4) rfl rfl ?_
  refine own_iconst (pc' := 6) (z := (3 : Int32)) X0 hx (hb hby own_d6_5) rfl rfl ?_
  obtain ⟨t31, ht31⟩ : ∃ z, (((j - b) * d) &&& (3 : Int32)) = z := ⟨_, rfl⟩
  refine own_iand (pc' := 7) (z := t31) X0 hx (hb hby own_d6_6) rfl ht31 ?_
  refine own_istore (pc' := 9) (l' := #[.val (.int j), .val (.int b), .val (.int d), .val (.int n), .val (.double i), .second, .val (.double u), .second, .val (.double q0), .second, .val (.double q1), .second, .val (.double q2), .second, .val (.double q3), .second, .val (.int t31), .unset, .unset]) X0 hx (hb hby own_d6_7) rfl rfl ?_
  refine own_iload (pc' := 11) X0 hx (hb hby own_d6_9) rfl rfl ?_
  refine own_iloadN (pc' := 12) X0 hx (hb hby own_d6_11) rfl rfl ?_
  by_cases hc12_32 : t31 < n
  · refine own_icmpYes (pc' := 18) X0 hx (hb hby own_d6_12) (tlt hc12_32).1 (by decide) (by decide) ?_
    refine own_iload (pc' := 20) X0 hx (hb hby own_d6_18) rfl rfl ?_
    by_cases hc20_33 : t31 = (0 : Int32)
    · refine own_ifNo (pc' := 23) X0 hx (hb hby own_d6_20) rfl (teq hc20_33).2 ?_
      refine own_dload (pc' := 25) X0 hx (hb hby own_d6_23) rfl rfl ?_
      refine own_goto (pc' := 52) X0 hx (hb hby own_d6_25) (by decide) (by decide) ?_
      refine own_dstore (pc' := 54) (l' := #[.val (.int j), .val (.int b), .val (.int d), .val (.int n), .val (.double i), .second, .val (.double u), .second, .val (.double q0), .second, .val (.double q1), .second, .val (.double q2), .second, .val (.double q3), .second, .val (.int t31), .val (.double q0), .second]) X0 hx (hb hby own_d6_52) rfl rfl ?_
      refine own_dload (pc' := 56) X0 hx (hb hby own_d6_54) rfl rfl ?_
      refine own_dload (pc' := 58) X0 hx (hb hby own_d6_56) rfl rfl ?_
      refine own_dload (pc' := 60) X0 hx (hb hby own_d6_58) rfl rfl ?_
      refine own_dmul (pc' := 61) (z := (FP.dmul u q0)) X0 hx (hb hby own_d6_60) rfl (Jvm.Free.Fl.dmul_out hu hq0) rfl ?_
      refine own_dadd (pc' := 62) (z := (FP.dadd i (FP.dmul u q0))) X0 hx (hb hby own_d6_61) rfl (own_nan hi hu hq0) rfl ?_
      refine own_retD X0 hx hlk hret (hb hby own_d6_62) (by decide) (by decide) ?_
      refine ⟨?_, N0, e0⟩
      unfold own_exp own_pick
      rw [ht31]
      rw [if_pos hc12_32, if_pos hc20_33]
    · refine own_ifYes (pc' := 28) X0 hx (hb hby own_d6_20) (feq hc20_33).2 (by decide) (by decide) ?_
      refine own_iload (pc' := 30) X0 hx (hb hby own_d6_28) rfl rfl ?_
      refine own_iconst (pc' := 31) (z := (1 : Int32)) X0 hx (hb hby own_d6_30) rfl rfl ?_
      by_cases hc31_34 : t31 = (1 : Int32)
      · refine own_icmpNo (pc' := 34) X0 hx (hb hby own_d6_31) rfl (teq hc31_34).2 ?_
        refine own_dload (pc' := 36) X0 hx (hb hby own_d6_34) rfl rfl ?_
        refine own_goto (pc' := 52) X0 hx (hb hby own_d6_36) (by decide) (by decide) ?_
        refine own_dstore (pc' := 54) (l' := #[.val (.int j), .val (.int b), .val (.int d), .val (.int n), .val (.double i), .second, .val (.double u), .second, .val (.double q0), .second, .val (.double q1), .second, .val (.double q2), .second, .val (.double q3), .second, .val (.int t31), .val (.double q1), .second]) X0 hx (hb hby own_d6_52) rfl rfl ?_
        refine own_dload (pc' := 56) X0 hx (hb hby own_d6_54) rfl rfl ?_
        refine own_dload (pc' := 58) X0 hx (hb hby own_d6_56) rfl rfl ?_
        refine own_dload (pc' := 60) X0 hx (hb hby own_d6_58) rfl rfl ?_
        refine own_dmul (pc' := 61) (z := (FP.dmul u q1)) X0 hx (hb hby own_d6_60) rfl (Jvm.Free.Fl.dmul_out hu hq1) rfl ?_
        refine own_dadd (pc' := 62) (z := (FP.dadd i (FP.dmul u q1))) X0 hx (hb hby own_d6_61) rfl (own_nan hi hu hq1) rfl ?_
        refine own_retD X0 hx hlk hret (hb hby own_d6_62) (by decide) (by decide) ?_
        refine ⟨?_, N0, e0⟩
        unfold own_exp own_pick
        rw [ht31]
        rw [if_pos hc12_32, if_neg hc20_33, if_pos hc31_34]
      · refine own_icmpYes (pc' := 39) X0 hx (hb hby own_d6_31) (feq hc31_34).2 (by decide) (by decide) ?_
        refine own_iload (pc' := 41) X0 hx (hb hby own_d6_39) rfl rfl ?_
        refine own_iconst (pc' := 42) (z := (2 : Int32)) X0 hx (hb hby own_d6_41) rfl rfl ?_
        by_cases hc42_35 : t31 = (2 : Int32)
        · refine own_icmpNo (pc' := 45) X0 hx (hb hby own_d6_42) rfl (teq hc42_35).2 ?_
          refine own_dload (pc' := 47) X0 hx (hb hby own_d6_45) rfl rfl ?_
          refine own_goto (pc' := 52) X0 hx (hb hby own_d6_47) (by decide) (by decide) ?_
          refine own_dstore (pc' := 54) (l' := #[.val (.int j), .val (.int b), .val (.int d), .val (.int n), .val (.double i), .second, .val (.double u), .second, .val (.double q0), .second, .val (.double q1), .second, .val (.double q2), .second, .val (.double q3), .second, .val (.int t31), .val (.double q2), .second]) X0 hx (hb hby own_d6_52) rfl rfl ?_
          refine own_dload (pc' := 56) X0 hx (hb hby own_d6_54) rfl rfl ?_
          refine own_dload (pc' := 58) X0 hx (hb hby own_d6_56) rfl rfl ?_
          refine own_dload (pc' := 60) X0 hx (hb hby own_d6_58) rfl rfl ?_
          refine own_dmul (pc' := 61) (z := (FP.dmul u q2)) X0 hx (hb hby own_d6_60) rfl (Jvm.Free.Fl.dmul_out hu hq2) rfl ?_
          refine own_dadd (pc' := 62) (z := (FP.dadd i (FP.dmul u q2))) X0 hx (hb hby own_d6_61) rfl (own_nan hi hu hq2) rfl ?_
          refine own_retD X0 hx hlk hret (hb hby own_d6_62) (by decide) (by decide) ?_
          refine ⟨?_, N0, e0⟩
          unfold own_exp own_pick
          rw [ht31]
          rw [if_pos hc12_32, if_neg hc20_33, if_neg hc31_34, if_pos hc42_35]
        · refine own_icmpYes (pc' := 50) X0 hx (hb hby own_d6_42) (feq hc42_35).2 (by decide) (by decide) ?_
          refine own_dload (pc' := 52) X0 hx (hb hby own_d6_50) rfl rfl ?_
          refine own_dstore (pc' := 54) (l' := #[.val (.int j), .val (.int b), .val (.int d), .val (.int n), .val (.double i), .second, .val (.double u), .second, .val (.double q0), .second, .val (.double q1), .second, .val (.double q2), .second, .val (.double q3), .second, .val (.int t31), .val (.double q3), .second]) X0 hx (hb hby own_d6_52) rfl rfl ?_
          refine own_dload (pc' := 56) X0 hx (hb hby own_d6_54) rfl rfl ?_
          refine own_dload (pc' := 58) X0 hx (hb hby own_d6_56) rfl rfl ?_
          refine own_dload (pc' := 60) X0 hx (hb hby own_d6_58) rfl rfl ?_
          refine own_dmul (pc' := 61) (z := (FP.dmul u q3)) X0 hx (hb hby own_d6_60) rfl (Jvm.Free.Fl.dmul_out hu hq3) rfl ?_
          refine own_dadd (pc' := 62) (z := (FP.dadd i (FP.dmul u q3))) X0 hx (hb hby own_d6_61) rfl (own_nan hi hu hq3) rfl ?_
          refine own_retD X0 hx hlk hret (hb hby own_d6_62) (by decide) (by decide) ?_
          refine ⟨?_, N0, e0⟩
          unfold own_exp own_pick
          rw [ht31]
          rw [if_pos hc12_32, if_neg hc20_33, if_neg hc31_34, if_neg hc42_35]
  · refine own_icmpNo (pc' := 15) X0 hx (hb hby own_d6_12) rfl (flt hc12_32).1 ?_
    refine own_dload (pc' := 17) X0 hx (hb hby own_d6_15) rfl rfl ?_
    refine own_retD X0 hx hlk hret (hb hby own_d6_17) (by decide) (by decide) ?_
    refine ⟨?_, N0, e0⟩
    unfold own_exp own_pick
    rw [ht31]
    rw [if_neg hc12_32]
def own_Q0 (Z : State) (p0 : Int32) (p1 : Int32) (p2 : Int32) (q3 : Int64) (p4 : Int32) (h0 : Heap) (n0 : Nat) (v : Option Value) (h : Heap) (L : List Loc) : Prop := v = some (.int 1) ∧ Fr n0 L
theorem own_ef_rm0 (m : MethodId) (x0 : Int32) (x1 : Int32) (x2 : Int32) (x3 : Int64) (x4 : Int32) : entryFrame m #[(.int x0), (.int x1), (.int x2), (.long x3), (.int x4)] maxLocals = mkF m 0 #[.val (.int x0), .val (.int x1), .val (.int x2), .val (.long x3), .second, .val (.int x4), .unset, .unset, .unset, .unset, .unset, .unset, .unset, .unset, .unset, .unset, .unset, .unset, .unset, .unset, .unset, .unset, .unset, .unset, .unset, .unset, .unset, .unset, .unset, .unset, .unset] [] := by first | (simp [entryFrame, mkF, argsToLocals, Value.category, maxLocals]; done) | rfl
set_option maxRecDepth 65536 in
set_option maxHeartbeats 40000000 in
theorem own_rm0 (lch : Launch) (Z : State) (a0 : Array Value) (hw : ∀ d ∈ tables_1, d.before a0 Z = true) (ws : List Jvm.Cond) (p0 : Int32) (p1 : Int32) (p2 : Int32) (q3 : Int64) (p4 : Int32) (h0 : Heap) (n0 : Nat) (Z0 : n0 ≤ h0.size) :
    MetFree lch x (head1 (Jvm.Cond.code x code maxLocals ret :: ws) room_1) (fun zz U => zz = #[(.int p0), (.int p1), (.int p2), (.long q3), (.int p4)] ∧ Z.Warmed39 U.vm ∧ U.heap = h0) (fun _ _ _ _ _ => True) (fun _ U o U' => ∃ v L, o = .returned v ∧ own_Q0 Z p0 p1 p2 q3 p4 h0 n0 v U'.heap L ∧ FrameEnd U o U' L 24 128) := by
  refine MetFree.of_bodySF (plainFor_of_name own_pn0) hisR ?_
  intro prg e s m args below meth c s₁ Bd hml0 hP hK
  obtain ⟨rfl, hZ, hh⟩ := hP
  have hx := Bd.exec
  have hby := Bd.bytes
  have hml : c.maxLocals = 31 := hml0
  have hown : s.vm.findClass "com/example/mapwright/mapwright/ArcLoadsAddToPinLaw" = some m.cls := findClass_of_methodNamed Bd.named
  have hnm := (name_of_methodNamed Bd.named Bd.method).1
  have hlk : meth.locks = false := BodyLoose.notSynchronized Bd
  have hret := Bd.returns
  have X0 : Stand prg lch e room_1 s m #[(.int p0), (.int p1), (.int p2), (.long q3), (.int p4)] below meth c s₁ [] 0 0 := Stand.of_body Bd
  have e0 : s₁.heap = h0 := by rw [← hh, Bd.state]; rfl
  have N0 := Fr.nil n0
  show own_Ends prg e below s (own_Q0 Z p0 p1 p2 q3 p4 h0 n0) 24 128 s₁ (entryFrame m #[(.int p0), (.int p1), (.int p2), (.long q3), (.int p4)] maxLocals)
  refine own_cast (own_ef_rm0 m p0 p1 p2 q3 p4) ?_
  refine own_iload (pc' := 2) X0 hx (hb hby at_0) rfl rfl ?_
  refine own_bipush (pc' := 4) (z := (7 : Int32)) X0 hx (hb hby at_2) rfl rfl ?_
  refine own_iand (pc' := 5) (z := (p4 &&& (7 : Int32))) X0 hx (hb hby at_4) rfl rfl ?_
  refine own_iconst (pc' := 6) (z := (5 : Int32)) X0 hx (hb hby at_5) rfl rfl ?_
  obtain ⟨n31, hn31⟩ : ∃ z, ((p4 &&& (7 : Int32)) % (5 : Int32)) = z := ⟨_, rfl⟩
  refine own_irem (pc' := 7) (z := n31) X0 hx (hb hby at_6) rfl (by decide) hn31 ?_
  refine own_istore (pc' := 9) (l' := #[.val (.int p0), .val (.int p1), .val (.int p2), .val (.long q3), .second, .val (.int p4), .val (.int n31), .unset, .unset, .unset, .unset, .unset, .unset, .unset, .unset, .unset, .unset, .unset, .unset, .unset, .unset, .unset, .unset, .unset, .unset, .unset, .unset, .unset, .unset, .unset, .unset]) X0 hx (hb hby at_7) rfl rfl ?_
  refine own_iloadN (pc' := 10) X0 hx (hb hby at_9) rfl rfl ?_
  refine own_iconst (pc' := 11) (z := (3 : Int32)) X0 hx (hb hby at_10) rfl rfl ?_
  obtain ⟨b32, hb32⟩ : ∃ z, (p0 &&& (3 : Int32)) = z := ⟨_, rfl⟩
  refine own_iand (pc' := 12) (z := b32) X0 hx (hb hby at_11) rfl hb32 ?_
  refine own_istore (pc' := 14) (l' := #[.val (.int p0), .val (.int p1), .val (.int p2), .val (.long q3), .second, .val (.int p4), .val (.int n31), .val (.int b32), .unset, .unset, .unset, .unset, .unset, .unset, .unset, .unset, .unset, .unset, .unset, .unset, .unset, .unset, .unset, .unset, .unset, .unset, .unset, .unset, .unset, .unset, .unset]) X0 hx (hb hby at_12) rfl rfl ?_
  have hb4 := own_bq4 hb32
  have K33 : ∀ (dd : Int32) (hdd : dd = 1 ∨ dd = 3), own_Ends prg e below s (own_Q0 Z p0 p1 p2 q3 p4 h0 n0) 24 128 s₁ (mkF m 27 #[.val (.int p0), .val (.int p1), .val (.int p2), .val (.long q3), .second, .val (.int p4), .val (.int n31), .val (.int b32), .unset, .unset, .unset, .unset, .unset, .unset, .unset, .unset, .unset, .unset, .unset, .unset, .unset, .unset, .unset, .unset, .unset, .unset, .unset, .unset, .unset, .unset, .unset] [(.int dd)]) := by
    intro dd hdd
    refine own_istore (pc' := 29) (l' := #[.val (.int p0), .val (.int p1), .val (.int p2), .val (.long q3), .second, .val (.int p4), .val (.int n31), .val (.int b32), .val (.int dd), .unset, .unset, .unset, .unset, .unset, .unset, .unset, .unset, .unset, .unset, .unset, .unset, .unset, .unset, .unset, .unset, .unset, .unset, .unset, .unset, .unset, .unset]) X0 hx (hb hby at_27) rfl rfl ?_
    refine own_iloadN (pc' := 30) X0 hx (hb hby at_29) rfl rfl ?_
    refine own_i2b (pc' := 31) (z := p1.toInt8.toInt32) X0 hx (hb hby at_30) rfl rfl ?_
    obtain ⟨d34, hd34⟩ : ∃ z, (FP.i2d p1.toInt8.toInt32) = z := ⟨_, rfl⟩
    refine own_i2d (pc' := 32) (z := d34) X0 hx (hb hby at_31) rfl hd34 ?_
    refine own_dstore (pc' := 34) (l' := #[.val (.int p0), .val (.int p1), .val (.int p2), .val (.long q3), .second, .val (.int p4), .val (.int n31), .val (.int b32), .val (.int dd), .val (.double d34), .second, .unset, .unset, .unset, .unset, .unset, .unset, .unset, .unset, .unset, .unset, .unset, .unset, .unset, .unset, .unset, .unset, .unset, .unset, .unset, .unset]) X0 hx (hb hby at_32) rfl rfl ?_
    refine own_iloadN (pc' := 35) X0 hx (hb hby at_34) rfl rfl ?_
    refine own_bipush (pc' := 37) (z := (8 : Int32)) X0 hx (hb hby at_35) rfl rfl ?_
    refine own_ishr (pc' := 38) (z := (p1 >>> ((8 : Int32) &&& 31))) X0 hx (hb hby at_37) rfl rfl ?_
    refine own_i2b (pc' := 39) (z := (p1 >>> ((8 : Int32) &&& 31)).toInt8.toInt32) X0 hx (hb hby at_38) rfl rfl ?_
    obtain ⟨d35, hd35⟩ : ∃ z, (FP.i2d (p1 >>> ((8 : Int32) &&& 31)).toInt8.toInt32) = z := ⟨_, rfl⟩
    refine own_i2d (pc' := 40) (z := d35) X0 hx (hb hby at_39) rfl hd35 ?_
    refine own_dstore (pc' := 42) (l' := #[.val (.int p0), .val (.int p1), .val (.int p2), .val (.long q3), .second, .val (.int p4), .val (.int n31), .val (.int b32), .val (.int dd), .val (.double d34), .second, .val (.double d35), .second, .unset, .unset, .unset, .unset, .unset, .unset, .unset, .unset, .unset, .unset, .unset, .unset, .unset, .unset, .unset, .unset, .unset, .unset]) X0 hx (hb hby at_40) rfl rfl ?_
    refine own_iloadN (pc' := 43) X0 hx (hb hby at_42) rfl rfl ?_
    refine own_bipush (pc' := 45) (z := (16 : Int32)) X0 hx (hb hby at_43) rfl rfl ?_
    refine own_ishr (pc' := 46) (z := (p1 >>> ((16 : Int32) &&& 31))) X0 hx (hb hby at_45) rfl rfl ?_
    refine own_i2b (pc' := 47) (z := (p1 >>> ((16 : Int32) &&& 31)).toInt8.toInt32) X0 hx (hb hby at_46) rfl rfl ?_
    obtain ⟨d36, hd36⟩ : ∃ z, (FP.i2d (p1 >>> ((16 : Int32) &&& 31)).toInt8.toInt32) = z := ⟨_, rfl⟩
    refine own_i2d (pc' := 48) (z := d36) X0 hx (hb hby at_47) rfl hd36 ?_
    refine own_dstore (pc' := 50) (l' := #[.val (.int p0), .val (.int p1), .val (.int p2), .val (.long q3), .second, .val (.int p4), .val (.int n31), .val (.int b32), .val (.int dd), .val (.double d34), .second, .val (.double d35), .second, .val (.double d36), .second, .unset, .unset, .unset, .unset, .unset, .unset, .unset, .unset, .unset, .unset, .unset, .unset, .unset, .unset, .unset, .unset]) X0 hx (hb hby at_48) rfl rfl ?_
    refine own_iloadN (pc' := 51) X0 hx (hb hby at_50) rfl rfl ?_
    refine own_bipush (pc' := 53) (z := (24 : Int32)) X0 hx (hb hby at_51) rfl rfl ?_
    refine own_ishr (pc' := 54) (z := (p1 >>> ((24 : Int32) &&& 31))) X0 hx (hb hby at_53) rfl rfl ?_
    refine own_i2b (pc' := 55) (z := (p1 >>> ((24 : Int32) &&& 31)).toInt8.toInt32) X0 hx (hb hby at_54) rfl rfl ?_
    obtain ⟨d37, hd37⟩ : ∃ z, (FP.i2d (p1 >>> ((24 : Int32) &&& 31)).toInt8.toInt32) = z := ⟨_, rfl⟩
    refine own_i2d (pc' := 56) (z := d37) X0 hx (hb hby at_55) rfl hd37 ?_
    refine own_dstore (pc' := 58) (l' := #[.val (.int p0), .val (.int p1), .val (.int p2), .val (.long q3), .second, .val (.int p4), .val (.int n31), .val (.int b32), .val (.int dd), .val (.double d34), .second, .val (.double d35), .second, .val (.double d36), .second, .val (.double d37), .second, .unset, .unset, .unset, .unset, .unset, .unset, .unset, .unset, .unset, .unset, .unset, .unset, .unset, .unset]) X0 hx (hb hby at_56) rfl rfl ?_
    refine own_lloadN (pc' := 59) X0 hx (hb hby at_58) rfl rfl ?_
    refine own_l2i (pc' := 60) (z := q3.toInt32) X0 hx (hb hby at_59) rfl rfl ?_
    refine own_i2s (pc' := 61) (z := q3.toInt32.toInt16.toInt32) X0 hx (hb hby at_60) rfl rfl ?_
    obtain ⟨d38, hd38⟩ : ∃ z, (FP.i2d q3.toInt32.toInt16.toInt32) = z := ⟨_, rfl⟩
    refine own_i2d (pc' := 62) (z := d38) X0 hx (hb hby at_61) rfl hd38 ?_
    refine own_dstore (pc' := 64) (l' := #[.val (.int p0), .val (.int p1), .val (.int p2), .val (.long q3), .second, .val (.int p4), .val (.int n31), .val (.int b32), .val (.int dd), .val (.double d34), .second, .val (.double d35), .second, .val (.double d36), .second, .val (.double d37), .second, .val (.double d38), .second, .unset, .unset, .unset, .unset, .unset, .unset, .unset, .unset, .unset, .unset, .unset, .unset]) X0 hx (hb hby at_62) rfl rfl ?_
    refine own_lloadN (pc' := 65) X0 hx (hb hby at_64) rfl rfl ?_
    refine own_bipush (pc' := 67) (z := (16 : Int32)) X0 hx (hb hby at_65) rfl rfl ?_
    refine own_lshr (pc' := 68) (z := (q3 >>> ((16 : Int32) &&& 0x3f).toInt64)) X0 hx (hb hby at_67) rfl rfl ?_
    refine own_l2i (pc' := 69) (z := (q3 >>> ((16 : Int32) &&& 0x3f).toInt64).toInt32) X0 hx (hb hby at_68) rfl rfl ?_
    refine own_i2s (pc' := 70) (z := (q3 >>> ((16 : Int32) &&& 0x3f).toInt64).toInt32.toInt16.toInt32) X0 hx (hb hby at_69) rfl rfl ?_
    obtain ⟨d39, hd39⟩ : ∃ z, (FP.i2d (q3 >>> ((16 : Int32) &&& 0x3f).toInt64).toInt32.toInt16.toInt32) = z := ⟨_, rfl⟩
    refine own_i2d (pc' := 71) (z := d39) X0 hx (hb hby at_70) rfl hd39 ?_
    refine own_dstore (pc' := 73) (l' := #[.val (.int p0), .val (.int p1), .val (.int p2), .val (.long q3), .second, .val (.int p4), .val (.int n31), .val (.int b32), .val (.int dd), .val (.double d34), .second, .val (.double d35), .second, .val (.double d36), .second, .val (.double d37), .second, .val (.double d38), .second, .val (.double d39), .second, .unset, .unset, .unset, .unset, .unset, .unset, .unset, .unset, .unset, .unset]) X0 hx (hb hby at_71) rfl rfl ?_
    refine own_lloadN (pc' := 74) X0 hx (hb hby at_73) rfl rfl ?_
    refine own_bipush (pc' := 76) (z := (32 : Int32)) X0 hx (hb hby at_74) rfl rfl ?_
    refine own_lshr (pc' := 77) (z := (q3 >>> ((32 : Int32) &&& 0x3f).toInt64)) X0 hx (hb hby at_76) rfl rfl ?_
    refine own_l2i (pc' := 78) (z := (q3 >>> ((32 : Int32) &&& 0x3f).toInt64).toInt32) X0 hx (hb hby at_77) rfl rfl ?_
    refine own_i2s (pc' := 79) (z := (q3 >>> ((32 : Int32) &&& 0x3f).toInt64).toInt32.toInt16.toInt32) X0 hx (hb hby at_78) rfl rfl ?_
    obtain ⟨d40, hd40⟩ : ∃ z, (FP.i2d (q3 >>> ((32 : Int32) &&& 0x3f).toInt64).toInt32.toInt16.toInt32) = z := ⟨_, rfl⟩
    refine own_i2d (pc' := 80) (z := d40) X0 hx (hb hby at_79) rfl hd40 ?_
    refine own_dstore (pc' := 82) (l' := #[.val (.int p0), .val (.int p1), .val (.int p2), .val (.long q3), .second, .val (.int p4), .val (.int n31), .val (.int b32), .val (.int dd), .val (.double d34), .second, .val (.double d35), .second, .val (.double d36), .second, .val (.double d37), .second, .val (.double d38), .second, .val (.double d39), .second, .val (.double d40), .second, .unset, .unset, .unset, .unset, .unset, .unset, .unset, .unset]) X0 hx (hb hby at_80) rfl rfl ?_
    refine own_lloadN (pc' := 83) X0 hx (hb hby at_82) rfl rfl ?_
    refine own_bipush (pc' := 85) (z := (48 : Int32)) X0 hx (hb hby at_83) rfl rfl ?_
    refine own_lshr (pc' := 86) (z := (q3 >>> ((48 : Int32) &&& 0x3f).toInt64)) X0 hx (hb hby at_85) rfl rfl ?_
    refine own_l2i (pc' := 87) (z := (q3 >>> ((48 : Int32) &&& 0x3f).toInt64).toInt32) X0 hx (hb hby at_86) rfl rfl ?_
    refine own_i2s (pc' := 88) (z := (q3 >>> ((48 : Int32) &&& 0x3f).toInt64).toInt32.toInt16.toInt32) X0 hx (hb hby at_87) rfl rfl ?_
    obtain ⟨d41, hd41⟩ : ∃ z, (FP.i2d (q3 >>> ((48 : Int32) &&& 0x3f).toInt64).toInt32.toInt16.toInt32) = z := ⟨_, rfl⟩
    refine own_i2d (pc' := 89) (z := d41) X0 hx (hb hby at_88) rfl hd41 ?_
    refine own_dstore (pc' := 91) (l' := #[.val (.int p0), .val (.int p1), .val (.int p2), .val (.long q3), .second, .val (.int p4), .val (.int n31), .val (.int b32), .val (.int dd), .val (.double d34), .second, .val (.double d35), .second, .val (.double d36), .second, .val (.double d37), .second, .val (.double d38), .second, .val (.double d39), .second, .val (.double d40), .second, .val (.double d41), .second, .unset, .unset, .unset, .unset, .unset, .unset]) X0 hx (hb hby at_89) rfl rfl ?_
    have hbd : (b32 = 0 ∧ dd = 1) ∨ (b32 = 0 ∧ dd = 3) ∨ (b32 = 1 ∧ dd = 1) ∨ (b32 = 1 ∧ dd = 3) ∨ (b32 = 2 ∧ dd = 1) ∨ (b32 = 2 ∧ dd = 3) ∨ (b32 = 3 ∧ dd = 1) ∨ (b32 = 3 ∧ dd = 3) := by
      rcases hb4 with q | q | q | q <;> rcases hdd with r | r <;> subst r <;> simp [q]
    have fd34 : Jvm.Free.Fl.Fin64 d34 := by rw [← hd34]; exact Jvm.Free.Fl.i2d_fin _
    have fd35 : Jvm.Free.Fl.Fin64 d35 := by rw [← hd35]; exact Jvm.Free.Fl.i2d_fin _
    have fd36 : Jvm.Free.Fl.Fin64 d36 := by rw [← hd36]; exact Jvm.Free.Fl.i2d_fin _
    have fd37 : Jvm.Free.Fl.Fin64 d37 := by rw [← hd37]; exact Jvm.Free.Fl.i2d_fin _
    have fd38 : Jvm.Free.Fl.Fin64 d38 := by rw [← hd38]; exact Jvm.Free.Fl.i2d_fin _
    have fd39 : Jvm.Free.Fl.Fin64 d39 := by rw [← hd39]; exact Jvm.Free.Fl.i2d_fin _
    have fd40 : Jvm.Free.Fl.Fin64 d40 := by rw [← hd40]; exact Jvm.Free.Fl.i2d_fin _
    have fd41 : Jvm.Free.Fl.Fin64 d41 := by rw [← hd41]; exact Jvm.Free.Fl.i2d_fin _
    rcases own_n5 hn31 with rfl | rfl | rfl | rfl | rfl
    · refine own_iload (pc' := 93) X0 hx (hb hby at_91) rfl rfl ?_
      refine own_iload (pc' := 95) X0 hx (hb hby at_93) rfl rfl ?_
      refine own_iload (pc' := 97) X0 hx (hb hby at_95) rfl rfl ?_
      refine own_callS (pc' := 100) (y := (⟨"com/example/mapwright/mapwright/ArcLoadsAddToPinLaw", "arcsOf", "(III)[I"⟩ : MethodName)) (W := 0) (rm := own_room1_0) (argsL := [(.int (0 : Int32)), (.int b32), (.int dd)]) (rest := []) X0 hx hZ e0 hown (by rw [hml]; rfl) (own_w0 hw) (own_w1 hw) (own_w2 hw) (own_w3 hw) (by decide) (own_rm1_0 lch Z a0 hw [] b32 dd h0 n0 Z0) (by decide) (by decide) (by decide) (by decide) (lenOf own_pd0 rfl) rfl (by exact Nat.le_of_eq rfl) (hb hby at_97) rfl ?_
      intro T42 Lc42 v42 X42 hQ42
      obtain ⟨ra42, rk42, rfl, Nq42, Kq42, G42_0, G42_1, G42_2⟩ := hQ42
      have N42 := Fr.app N0 Nq42
      have ge43 : n0 ≤ ra42 := Nat.le_trans Z0 G42_0
      show own_Ends prg e below s _ _ _ T42 (mkF m 100 #[.val (.int p0), .val (.int p1), .val (.int p2), .val (.long q3), .second, .val (.int p4), .val (.int (0 : Int32)), .val (.int b32), .val (.int dd), .val (.double d34), .second, .val (.double d35), .second, .val (.double d36), .second, .val (.double d37), .second, .val (.double d38), .second, .val (.double d39), .second, .val (.double d40), .second, .val (.double d41), .second, .unset, .unset, .unset, .unset, .unset, .unset] [(.ref ra42)])
      refine own_astore (pc' := 102) (l' := #[.val (.int p0), .val (.int p1), .val (.int p2), .val (.long q3), .second, .val (.int p4), .val (.int (0 : Int32)), .val (.int b32), .val (.int dd), .val (.double d34), .second, .val (.double d35), .second, .val (.double d36), .second, .val (.double d37), .second, .val (.double d38), .second, .val (.double d39), .second, .val (.double d40), .second, .val (.double d41), .second, .val (.ref ra42), .unset, .unset, .unset, .unset, .unset]) X42 hx (hb hby at_100) rfl rfl rfl ?_
      refine own_iload (pc' := 104) X42 hx (hb hby at_102) rfl rfl ?_
      refine own_dload (pc' := 106) X42 hx (hb hby at_104) rfl rfl ?_
      refine own_dload (pc' := 108) X42 hx (hb hby at_106) rfl rfl ?_
      refine own_dload (pc' := 110) X42 hx (hb hby at_108) rfl rfl ?_
      refine own_dload (pc' := 112) X42 hx (hb hby at_110) rfl rfl ?_
      have f44 := (Nat.le_trans Z0 Kq42.1)
      refine own_callS (pc' := 115) (y := (⟨"com/example/mapwright/mapwright/ArcLoadsAddToPinLaw", "perOf", "(IDDDD)[D"⟩ : MethodName)) (W := 0) (rm := own_room2_0) (argsL := [(.int (0 : Int32)), (.double d34), (.double d35), (.double d36), (.double d37)]) (rest := []) X42 hx hZ rfl hown (by rw [hml]; rfl) (own_w5 hw) (own_w6 hw) (own_w2 hw) (own_w7 hw) (by decide) (own_rm2_0 lch Z a0 hw [] d34 d35 d36 d37 T42.heap n0 f44) (by decide) (by decide) (by decide) (by decide) (lenOf own_pd1 rfl) rfl (by exact Nat.le_of_eq rfl) (hb hby at_112) rfl ?_
      intro T45 Lc45 v45 X45 hQ45
      obtain ⟨ra45, rk45, rfl, Nq45, Kq45, G45_0, G45_1, G45_2⟩ := hQ45
      have N45 := Fr.app N42 Nq45
      have ge46 : n0 ≤ ra45 := Nat.le_trans f44 G45_0
      have ne47 : ra42 ≠ ra45 := Nat.ne_of_lt (Nat.lt_of_lt_of_le G42_1.lt G45_0)
      show own_Ends prg e below s _ _ _ T45 (mkF m 115 #[.val (.int p0), .val (.int p1), .val (.int p2), .val (.long q3), .second, .val (.int p4), .val (.int (0 : Int32)), .val (.int b32), .val (.int dd), .val (.double d34), .second, .val (.double d35), .second, .val (.double d36), .second, .val (.double d37), .second, .val (.double d38), .second, .val (.double d39), .second, .val (.double d40), .second, .val (.double d41), .second, .val (.ref ra42), .unset, .unset, .unset, .unset, .unset] [(.ref ra45)])
      refine own_astore (pc' := 117) (l' := #[.val (.int p0), .val (.int p1), .val (.int p2), .val (.long q3), .second, .val (.int p4), .val (.int (0 : Int32)), .val (.int b32), .val (.int dd), .val (.double d34), .second, .val (.double d35), .second, .val (.double d36), .second, .val (.double d37), .second, .val (.double d38), .second, .val (.double d39), .second, .val (.double d40), .second, .val (.double d41), .second, .val (.ref ra42), .val (.ref ra45), .unset, .unset, .unset, .unset]) X45 hx (hb hby at_115) rfl rfl rfl ?_
      obtain ⟨T48, h48, X48, e48, E48, A48, D48, -, st48⟩ := newO X45 hx hZ hown (own_w9 hw) (own_w10 hw) (own_w11 hw) rfl (g := (mkF m 117 #[.val (.int p0), .val (.int p1), .val (.int p2), .val (.long q3), .second, .val (.int p4), .val (.int (0 : Int32)), .val (.int b32), .val (.int dd), .val (.double d34), .second, .val (.double d35), .second, .val (.double d36), .second, .val (.double d37), .second, .val (.double d38), .second, .val (.double d39), .second, .val (.double d40), .second, .val (.double d41), .second, .val (.ref ra42), .val (.ref ra45), .unset, .unset, .unset, .unset] [])) rfl (hb hby at_117) (by decide) (by decide)
      refine own_go st48 ?_
      obtain ⟨a48, g48⟩ : ∃ z, z = T45.heap.size := ⟨_, rfl⟩
      rw [← g48] at A48 D48
      have f49 := (Nat.le_trans f44 Kq45.1)
      have ge50 : n0 ≤ a48 := by rw [g48]; exact f49
      have f51 := (G42_1.keep Kq45 nin0)
      have ne52 : ra42 ≠ a48 := Nat.ne_of_lt (by rw [g48]; exact f51.lt)
      have ne53 : ra45 ≠ a48 := Nat.ne_of_lt (by rw [g48]; exact G45_1.lt)
      have F54 : Fld Z h48 a48 "com/example/mapwright/mapwright/ArcLoads" "arcs" "[I" .null := D48 (Or.inr (own_w28 hw)) (ty := (.array .int)) (by decide)
      have F55 : Fld Z h48 a48 "com/example/mapwright/mapwright/ArcLoads" "perUnit" "[D" .null := D48 (Or.inr (own_w36 hw)) (ty := (.array .double)) (by decide)
      show own_Ends prg e below s _ _ _ T48 (mkF m 120 #[.val (.int p0), .val (.int p1), .val (.int p2), .val (.long q3), .second, .val (.int p4), .val (.int (0 : Int32)), .val (.int b32), .val (.int dd), .val (.double d34), .second, .val (.double d35), .second, .val (.double d36), .second, .val (.double d37), .second, .val (.double d38), .second, .val (.double d39), .second, .val (.double d40), .second, .val (.double d41), .second, .val (.ref ra42), .val (.ref ra45), .unset, .unset, .unset, .unset] [(.ref T45.heap.size)])
      rw [← g48]
      refine own_dup (pc' := 121) X48 hx (hb hby at_120) rfl rfl ?_
      refine own_aload (pc' := 123) X48 hx (hb hby at_121) rfl rfl rfl ?_
      refine own_aload (pc' := 125) X48 hx (hb hby at_123) rfl rfl rfl ?_
      have f56 := (f51.ext E48)
      have f57 := ((G42_2.keep Kq45).ext E48)
      have f58 := (G45_1.ext E48)
      have f59 := (G45_2.ext E48)
      have f60 := (Nat.le_trans f49 E48.1)
      refine own_callC (pc' := 128) (y := (⟨"com/example/mapwright/mapwright/ArcLoads", "<init>", "([I[D)V"⟩ : MethodName)) (W := 1) (rm := own_room3_0) (argsL := [(.ref ra42), (.ref ra45)]) (rest := [(.ref a48)]) (b := a48) X48 hx hZ e48 hown (by rw [hml]; rfl) rfl rfl (own_w12 hw) (own_w13 hw) (own_w11 hw) (own_w14 hw) (by decide) (own_rm3_0 lch Z a0 hw [] a48 ra42 ra45 rk42 rk45   _ _ h48 n0 f60 A48 F54 F55 ge50 f56 f57 f58 f59 (Ne.symm ne52) (Ne.symm ne53) ne47) (by decide) (by decide) (by decide) (by decide) (lenOf own_pd2 rfl) rfl (by exact Nat.le_of_eq rfl) (hb hby at_125) rfl ?_
      intro T61 Lc61 v61 X61 hQ61
      obtain ⟨ca61, pa61, ck61, pk61, rfl, Nq61, Kq61, G61_0, G61_1, G61_2, G61_3, G61_4, G61_5, G61_6⟩ := hQ61
      have N61 := Fr.app N45 Nq61
      have ge62 : n0 ≤ ca61 := Nat.le_trans f60 G61_0
      have ne63 : ra42 ≠ ca61 := Nat.ne_of_lt (Nat.lt_of_lt_of_le f56.lt G61_0)
      have ne64 : ra45 ≠ ca61 := Nat.ne_of_lt (Nat.lt_of_lt_of_le f58.lt G61_0)
      have ne65 : a48 ≠ ca61 := Nat.ne_of_lt (Nat.lt_of_lt_of_le A48.lt G61_0)
      have ge66 : n0 ≤ pa61 := Nat.le_trans f60 G61_1
      have ne67 : ra42 ≠ pa61 := Nat.ne_of_lt (Nat.lt_of_lt_of_le f56.lt G61_1)
      have ne68 : ra45 ≠ pa61 := Nat.ne_of_lt (Nat.lt_of_lt_of_le f58.lt G61_1)
      have ne69 : a48 ≠ pa61 := Nat.ne_of_lt (Nat.lt_of_lt_of_le A48.lt G61_1)
      show own_Ends prg e below s _ _ _ T61 (mkF m 128 #[.val (.int p0), .val (.int p1), .val (.int p2), .val (.long q3), .second, .val (.int p4), .val (.int (0 : Int32)), .val (.int b32), .val (.int dd), .val (.double d34), .second, .val (.double d35), .second, .val (.double d36), .second, .val (.double d37), .second, .val (.double d38), .second, .val (.double d39), .second, .val (.double d40), .second, .val (.double d41), .second, .val (.ref ra42), .val (.ref ra45), .unset, .unset, .unset, .unset] [(.ref a48)])
      refine own_astore (pc' := 130) (l' := #[.val (.int p0), .val (.int p1), .val (.int p2), .val (.long q3), .second, .val (.int p4), .val (.int (0 : Int32)), .val (.int b32), .val (.int dd), .val (.double d34), .second, .val (.double d35), .second, .val (.double d36), .second, .val (.double d37), .second, .val (.double d38), .second, .val (.double d39), .second, .val (.double d40), .second, .val (.double d41), .second, .val (.ref ra42), .val (.ref ra45), .val (.ref a48), .unset, .unset, .unset]) X61 hx (hb hby at_128) rfl rfl rfl ?_
      refine own_iconst (pc' := 131) (z := (4 : Int32)) X61 hx (hb hby at_130) rfl rfl ?_
      refine own_newarr (pc' := 133) (aty := .double) X61 hx hZ (own_w8 hw) rfl (hb hby at_131) rfl (by decide) 4 4 (by decide) (by decide) (by decide) (by decide) ?_
      intro T70 h70 a70 k70 X70 e70 E70 g70 V70
      replace V70 : Arv Z h70 a70 k70 .double (4 : Int32) [(.double 0), (.double 0), (.double 0), (.double 0)] (.double 0) := V70
      have f71 := (Nat.le_trans f60 Kq61.1)
      have ge72 : n0 ≤ a70 := by rw [g70]; exact f71
      have f73 := (f56.keep Kq61 (ninS ne52 nin0))
      have ne74 : ra42 ≠ a70 := Nat.ne_of_lt (by rw [g70]; exact f73.lt)
      have f75 := (f58.keep Kq61 (ninS ne53 nin0))
      have ne76 : ra45 ≠ a70 := Nat.ne_of_lt (by rw [g70]; exact f75.lt)
      have f77 := (A48.keep Kq61)
      have ne78 : a48 ≠ a70 := Nat.ne_of_lt (by rw [g70]; exact f77.lt)
      have ne79 : ca61 ≠ a70 := Nat.ne_of_lt (by rw [g70]; exact G61_5.lt)
      have ne80 : pa61 ≠ a70 := Nat.ne_of_lt (by rw [g70]; exact G61_6.lt)
      show own_Ends prg e below s _ _ _ T70 (mkF m 133 #[.val (.int p0), .val (.int p1), .val (.int p2), .val (.long q3), .second, .val (.int p4), .val (.int (0 : Int32)), .val (.int b32), .val (.int dd), .val (.double d34), .second, .val (.double d35), .second, .val (.double d36), .second, .val (.double d37), .second, .val (.double d38), .second, .val (.double d39), .second, .val (.double d40), .second, .val (.double d41), .second, .val (.ref ra42), .val (.ref ra45), .val (.ref a48), .unset, .unset, .unset] [(.ref a70)])
      refine own_astore (pc' := 135) (l' := #[.val (.int p0), .val (.int p1), .val (.int p2), .val (.long q3), .second, .val (.int p4), .val (.int (0 : Int32)), .val (.int b32), .val (.int dd), .val (.double d34), .second, .val (.double d35), .second, .val (.double d36), .second, .val (.double d37), .second, .val (.double d38), .second, .val (.double d39), .second, .val (.double d40), .second, .val (.double d41), .second, .val (.ref ra42), .val (.ref ra45), .val (.ref a48), .val (.ref a70), .unset, .unset]) X70 hx (hb hby at_133) rfl rfl rfl ?_
      refine own_aload (pc' := 137) X70 hx (hb hby at_135) rfl rfl rfl ?_
      refine own_iconst (pc' := 138) (z := (0 : Int32)) X70 hx (hb hby at_137) rfl rfl ?_
      refine own_dload (pc' := 140) X70 hx (hb hby at_138) rfl rfl ?_
      refine own_dastore (pc' := 141) X70 hx hZ e70 V70 (hb hby at_140) rfl (by decide) 0 rfl (by simp) N61 ge72 ?_
      intro T81 h81 L81 X81 e81 N81 W81 V81
      replace V81 : Arv Z h81 a70 k70 .double (4 : Int32) [(.double d38), (.double 0), (.double 0), (.double 0)] (.double 0) := V81
      show own_Ends prg e below s _ _ _ T81 (mkF m 141 #[.val (.int p0), .val (.int p1), .val (.int p2), .val (.long q3), .second, .val (.int p4), .val (.int (0 : Int32)), .val (.int b32), .val (.int dd), .val (.double d34), .second, .val (.double d35), .second, .val (.double d36), .second, .val (.double d37), .second, .val (.double d38), .second, .val (.double d39), .second, .val (.double d40), .second, .val (.double d41), .second, .val (.ref ra42), .val (.ref ra45), .val (.ref a48), .val (.ref a70), .unset, .unset] [])
      refine own_aload (pc' := 143) X81 hx (hb hby at_141) rfl rfl rfl ?_
      refine own_iconst (pc' := 144) (z := (1 : Int32)) X81 hx (hb hby at_143) rfl rfl ?_
      refine own_dload (pc' := 146) X81 hx (hb hby at_144) rfl rfl ?_
      refine own_dastore (pc' := 147) X81 hx hZ e81 V81 (hb hby at_146) rfl (by decide) 1 rfl (by simp) N81 ge72 ?_
      intro T82 h82 L82 X82 e82 N82 W82 V82
      replace V82 : Arv Z h82 a70 k70 .double (4 : Int32) [(.double d38), (.double d39), (.double 0), (.double 0)] (.double 0) := V82
      show own_Ends prg e below s _ _ _ T82 (mkF m 147 #[.val (.int p0), .val (.int p1), .val (.int p2), .val (.long q3), .second, .val (.int p4), .val (.int (0 : Int32)), .val (.int b32), .val (.int dd), .val (.double d34), .second, .val (.double d35), .second, .val (.double d36), .second, .val (.double d37), .second, .val (.double d38), .second, .val (.double d39), .second, .val (.double d40), .second, .val (.double d41), .second, .val (.ref ra42), .val (.ref ra45), .val (.ref a48), .val (.ref a70), .unset, .unset] [])
      refine own_aload (pc' := 149) X82 hx (hb hby at_147) rfl rfl rfl ?_
      refine own_iconst (pc' := 150) (z := (2 : Int32)) X82 hx (hb hby at_149) rfl rfl ?_
      refine own_dload (pc' := 152) X82 hx (hb hby at_150) rfl rfl ?_
      refine own_dastore (pc' := 153) X82 hx hZ e82 V82 (hb hby at_152) rfl (by decide) 2 rfl (by simp) N82 ge72 ?_
      intro T83 h83 L83 X83 e83 N83 W83 V83
      replace V83 : Arv Z h83 a70 k70 .double (4 : Int32) [(.double d38), (.double d39), (.double d40), (.double 0)] (.double 0) := V83
      show own_Ends prg e below s _ _ _ T83 (mkF m 153 #[.val (.int p0), .val (.int p1), .val (.int p2), .val (.long q3), .second, .val (.int p4), .val (.int (0 : Int32)), .val (.int b32), .val (.int dd), .val (.double d34), .second, .val (.double d35), .second, .val (.double d36), .second, .val (.double d37), .second, .val (.double d38), .second, .val (.double d39), .second, .val (.double d40), .second, .val (.double d41), .second, .val (.ref ra42), .val (.ref ra45), .val (.ref a48), .val (.ref a70), .unset, .unset] [])
      refine own_aload (pc' := 155) X83 hx (hb hby at_153) rfl rfl rfl ?_
      refine own_iconst (pc' := 156) (z := (3 : Int32)) X83 hx (hb hby at_155) rfl rfl ?_
      refine own_dload (pc' := 158) X83 hx (hb hby at_156) rfl rfl ?_
      refine own_dastore (pc' := 159) X83 hx hZ e83 V83 (hb hby at_158) rfl (by decide) 3 rfl (by simp) N83 ge72 ?_
      intro T84 h84 L84 X84 e84 N84 W84 V84
      replace V84 : Arv Z h84 a70 k70 .double (4 : Int32) [(.double d38), (.double d39), (.double d40), (.double d41)] (.double 0) := V84
      show own_Ends prg e below s _ _ _ T84 (mkF m 159 #[.val (.int p0), .val (.int p1), .val (.int p2), .val (.long q3), .second, .val (.int p4), .val (.int (0 : Int32)), .val (.int b32), .val (.int dd), .val (.double d34), .second, .val (.double d35), .second, .val (.double d36), .second, .val (.double d37), .second, .val (.double d38), .second, .val (.double d39), .second, .val (.double d40), .second, .val (.double d41), .second, .val (.ref ra42), .val (.ref ra45), .val (.ref a48), .val (.ref a70), .unset, .unset] [])
      refine own_iloadN (pc' := 160) X84 hx (hb hby at_159) rfl rfl ?_
      obtain ⟨d85, hd85⟩ : ∃ z, (FP.i2d p2) = z := ⟨_, rfl⟩
      refine own_i2d (pc' := 161) (z := d85) X84 hx (hb hby at_160) rfl hd85 ?_
      refine own_dstore (pc' := 163) (l' := #[.val (.int p0), .val (.int p1), .val (.int p2), .val (.long q3), .second, .val (.int p4), .val (.int (0 : Int32)), .val (.int b32), .val (.int dd), .val (.double d34), .second, .val (.double d35), .second, .val (.double d36), .second, .val (.double d37), .second, .val (.double d38), .second, .val (.double d39), .second, .val (.double d40), .second, .val (.double d41), .second, .val (.ref ra42), .val (.ref ra45), .val (.ref a48), .val (.ref a70), .val (.double d85), .second]) X84 hx (hb hby at_161) rfl rfl ?_
      have fd85 : Jvm.Free.Fl.Fin64 d85 := by rw [← hd85]; exact Jvm.Free.Fl.i2d_fin _
      refine own_aload (pc' := 165) X84 hx (hb hby at_163) rfl rfl rfl ?_
      refine own_aload (pc' := 167) X84 hx (hb hby at_165) rfl rfl rfl ?_
      refine own_dload (pc' := 169) X84 hx (hb hby at_167) rfl rfl ?_
      have f86 := (((((G61_3.ext E70).other W81 (Or.inl ne78)).other W82 (Or.inl ne78)).other W83 (Or.inl ne78)).other W84 (Or.inl ne78))
      have f87 := (((((G61_4.ext E70).other W81 (Or.inl ne78)).other W82 (Or.inl ne78)).other W83 (Or.inl ne78)).other W84 (Or.inl ne78))
      have f88 := (((((G61_5.ext E70).other W81 ne79).other W82 ne79).other W83 ne79).other W84 ne79)
      have f89 := (((((G61_6.ext E70).other W81 ne80).other W82 ne80).other W83 ne80).other W84 ne80)
      have f91 := (((((f77.ext E70).wr W81).wr W82).wr W83).wr W84)
      refine own_callV (pc' := 172) (y := (⟨"com/example/mapwright/mapwright/ArcLoads", "addTo", "([DD)V"⟩ : MethodName)) (W := 0) (rm := own_room5_0) (argsL := [(.ref a70), (.double d85)]) (rest := []) (b := a48) (C := "com/example/mapwright/mapwright/ArcLoads") X84 hx hZ e84 hown (by rw [hml]; rfl) f91 (own_w37 hw) (own_w38 hw) (own_w40 hw) (own_w39 hw) (own_w11 hw) (own_w41 hw) (by decide) (own_rm5_0 lch Z a0 hw [] a48 a70 d85 ca61 pa61 ck61 pk61 k70 b32 dd d38 d39 d40 d41 d34 d35 d36 d37 h84 n0 f86 f87 f88 f89 V84 ge72 ne78 ne79 ne80 hbd fd85 fd38 fd39 fd40 fd41 fd34 fd35 fd36 fd37) (by decide) (by decide) (by decide) (by decide) (lenOf own_pd3 rfl) rfl (by exact Nat.le_of_eq rfl) (hb hby at_169) rfl ?_
      intro T90 Lc90 v90 X90 hQ90
      obtain ⟨rfl, Nq90, Kq90, G90_0⟩ := hQ90
      have N90 := Fr.app N84 Nq90
      show own_Ends prg e below s _ _ _ T90 (mkF m 172 #[.val (.int p0), .val (.int p1), .val (.int p2), .val (.long q3), .second, .val (.int p4), .val (.int (0 : Int32)), .val (.int b32), .val (.int dd), .val (.double d34), .second, .val (.double d35), .second, .val (.double d36), .second, .val (.double d37), .second, .val (.double d38), .second, .val (.double d39), .second, .val (.double d40), .second, .val (.double d41), .second, .val (.ref ra42), .val (.ref ra45), .val (.ref a48), .val (.ref a70), .val (.double d85), .second] [])
      refine own_aload (pc' := 174) X90 hx (hb hby at_172) rfl rfl rfl ?_
      refine own_iconst (pc' := 175) (z := (0 : Int32)) X90 hx (hb hby at_174) rfl rfl ?_
      refine own_daload (pc' := 176) (v := (.double (own_exp 0 b32 dd 0 d38 d85 d34 d35 d36 d37))) X90 hx hZ rfl G90_0 (hb hby at_175) rfl (by decide) rfl ?_
      refine own_iconst (pc' := 177) (z := (0 : Int32)) X90 hx (hb hby at_176) rfl rfl ?_
      refine own_iload (pc' := 179) X90 hx (hb hby at_177) rfl rfl ?_
      refine own_iload (pc' := 181) X90 hx (hb hby at_179) rfl rfl ?_
      refine own_iload (pc' := 183) X90 hx (hb hby at_181) rfl rfl ?_
      refine own_dload (pc' := 185) X90 hx (hb hby at_183) rfl rfl ?_
      refine own_dload (pc' := 187) X90 hx (hb hby at_185) rfl rfl ?_
      refine own_dload (pc' := 189) X90 hx (hb hby at_187) rfl rfl ?_
      refine own_dload (pc' := 191) X90 hx (hb hby at_189) rfl rfl ?_
      refine own_dload (pc' := 193) X90 hx (hb hby at_191) rfl rfl ?_
      refine own_dload (pc' := 195) X90 hx (hb hby at_193) rfl rfl ?_
      refine own_callS (pc' := 198) (y := (⟨"com/example/mapwright/mapwright/ArcLoadsAddToPinLaw", "expected", "(IIIIDDDDDD)D"⟩ : MethodName)) (W := 2) (rm := own_room6) (argsL := [(.int (0 : Int32)), (.int b32), (.int dd), (.int (0 : Int32)), (.double d38), (.double d85), (.double d34), (.double d35), (.double d36), (.double d37)]) (rest := [(.double (own_exp 0 b32 dd 0 d38 d85 d34 d35 d36 d37))]) X90 hx hZ rfl hown (by rw [hml]; rfl) (own_w42 hw) (own_w43 hw) (own_w2 hw) (own_w44 hw) (by decide) (own_rm6 lch Z a0 hw [] (0 : Int32) b32 dd (0 : Int32) d38 d85 d34 d35 d36 d37 T90.heap n0 fd38 fd85 fd34 fd35 fd36 fd37) (by decide) (by decide) (by decide) (by decide) (lenOf own_pd4 rfl) rfl (by exact Nat.le_of_eq rfl) (hb hby at_195) rfl ?_
      intro T92 Lc92 v92 X92 hQ92
      obtain ⟨rfl, Nq92, Kq92⟩ := hQ92
      have N92 := Fr.app N90 Nq92
      show own_Ends prg e below s _ _ _ T92 (mkF m 198 #[.val (.int p0), .val (.int p1), .val (.int p2), .val (.long q3), .second, .val (.int p4), .val (.int (0 : Int32)), .val (.int b32), .val (.int dd), .val (.double d34), .second, .val (.double d35), .second, .val (.double d36), .second, .val (.double d37), .second, .val (.double d38), .second, .val (.double d39), .second, .val (.double d40), .second, .val (.double d41), .second, .val (.ref ra42), .val (.ref ra45), .val (.ref a48), .val (.ref a70), .val (.double d85), .second] [(.double (own_exp 0 b32 dd 0 d38 d85 d34 d35 d36 d37)), (.double (own_exp 0 b32 dd 0 d38 d85 d34 d35 d36 d37))])
      refine own_dcmp (pc' := 199) (z := (0 : Int32)) X92 hx (hb hby at_198) rfl (dcmpV_self (own_exp_nn fd38 fd85 fd34 fd35 fd36 fd37) _) ?_
      refine own_ifNo (pc' := 202) X92 hx (hb hby at_199) rfl (teq (by decide)).2 ?_
      refine own_aload (pc' := 204) X92 hx (hb hby at_202) rfl rfl rfl ?_
      refine own_iconst (pc' := 205) (z := (1 : Int32)) X92 hx (hb hby at_204) rfl rfl ?_
      refine own_daload (pc' := 206) (v := (.double (own_exp 1 b32 dd 0 d39 d85 d34 d35 d36 d37))) X92 hx hZ Kq92 G90_0 (hb hby at_205) rfl (by decide) rfl ?_
      refine own_iconst (pc' := 207) (z := (1 : Int32)) X92 hx (hb hby at_206) rfl rfl ?_
      refine own_iload (pc' := 209) X92 hx (hb hby at_207) rfl rfl ?_
      refine own_iload (pc' := 211) X92 hx (hb hby at_209) rfl rfl ?_
      refine own_iload (pc' := 213) X92 hx (hb hby at_211) rfl rfl ?_
      refine own_dload (pc' := 215) X92 hx (hb hby at_213) rfl rfl ?_
      refine own_dload (pc' := 217) X92 hx (hb hby at_215) rfl rfl ?_
      refine own_dload (pc' := 219) X92 hx (hb hby at_217) rfl rfl ?_
      refine own_dload (pc' := 221) X92 hx (hb hby at_219) rfl rfl ?_
      refine own_dload (pc' := 223) X92 hx (hb hby at_221) rfl rfl ?_
      refine own_dload (pc' := 225) X92 hx (hb hby at_223) rfl rfl ?_
      refine own_callS (pc' := 228) (y := (⟨"com/example/mapwright/mapwright/ArcLoadsAddToPinLaw", "expected", "(IIIIDDDDDD)D"⟩ : MethodName)) (W := 2) (rm := own_room6) (argsL := [(.int (1 : Int32)), (.int b32), (.int dd), (.int (0 : Int32)), (.double d39), (.double d85), (.double d34), (.double d35), (.double d36), (.double d37)]) (rest := [(.double (own_exp 1 b32 dd 0 d39 d85 d34 d35 d36 d37))]) X92 hx hZ Kq92 hown (by rw [hml]; rfl) (own_w42 hw) (own_w43 hw) (own_w2 hw) (own_w44 hw) (by decide) (own_rm6 lch Z a0 hw [] (1 : Int32) b32 dd (0 : Int32) d39 d85 d34 d35 d36 d37 T90.heap n0 fd39 fd85 fd34 fd35 fd36 fd37) (by decide) (by decide) (by decide) (by decide) (lenOf own_pd4 rfl) rfl (by exact Nat.le_of_eq rfl) (hb hby at_225) rfl ?_
      intro T93 Lc93 v93 X93 hQ93
      obtain ⟨rfl, Nq93, Kq93⟩ := hQ93
      have N93 := Fr.app N92 Nq93
      show own_Ends prg e below s _ _ _ T93 (mkF m 228 #[.val (.int p0), .val (.int p1), .val (.int p2), .val (.long q3), .second, .val (.int p4), .val (.int (0 : Int32)), .val (.int b32), .val (.int dd), .val (.double d34), .second, .val (.double d35), .second, .val (.double d36), .second, .val (.double d37), .second, .val (.double d38), .second, .val (.double d39), .second, .val (.double d40), .second, .val (.double d41), .second, .val (.ref ra42), .val (.ref ra45), .val (.ref a48), .val (.ref a70), .val (.double d85), .second] [(.double (own_exp 1 b32 dd 0 d39 d85 d34 d35 d36 d37)), (.double (own_exp 1 b32 dd 0 d39 d85 d34 d35 d36 d37))])
      refine own_dcmp (pc' := 229) (z := (0 : Int32)) X93 hx (hb hby at_228) rfl (dcmpV_self (own_exp_nn fd39 fd85 fd34 fd35 fd36 fd37) _) ?_
      refine own_ifNo (pc' := 232) X93 hx (hb hby at_229) rfl (teq (by decide)).2 ?_
      refine own_aload (pc' := 234) X93 hx (hb hby at_232) rfl rfl rfl ?_
      refine own_iconst (pc' := 235) (z := (2 : Int32)) X93 hx (hb hby at_234) rfl rfl ?_
      refine own_daload (pc' := 236) (v := (.double (own_exp 2 b32 dd 0 d40 d85 d34 d35 d36 d37))) X93 hx hZ Kq93 G90_0 (hb hby at_235) rfl (by decide) rfl ?_
      refine own_iconst (pc' := 237) (z := (2 : Int32)) X93 hx (hb hby at_236) rfl rfl ?_
      refine own_iload (pc' := 239) X93 hx (hb hby at_237) rfl rfl ?_
      refine own_iload (pc' := 241) X93 hx (hb hby at_239) rfl rfl ?_
      refine own_iload (pc' := 243) X93 hx (hb hby at_241) rfl rfl ?_
      refine own_dload (pc' := 245) X93 hx (hb hby at_243) rfl rfl ?_
      refine own_dload (pc' := 247) X93 hx (hb hby at_245) rfl rfl ?_
      refine own_dload (pc' := 249) X93 hx (hb hby at_247) rfl rfl ?_
      refine own_dload (pc' := 251) X93 hx (hb hby at_249) rfl rfl ?_
      refine own_dload (pc' := 253) X93 hx (hb hby at_251) rfl rfl ?_
      refine own_dload (pc' := 255) X93 hx (hb hby at_253) rfl rfl ?_
      refine own_callS (pc' := 258) (y := (⟨"com/example/mapwright/mapwright/ArcLoadsAddToPinLaw", "expected", "(IIIIDDDDDD)D"⟩ : MethodName)) (W := 2) (rm := own_room6) (argsL := [(.int (2 : Int32)), (.int b32), (.int dd), (.int (0 : Int32)), (.double d40), (.double d85), (.double d34), (.double d35), (.double d36), (.double d37)]) (rest := [(.double (own_exp 2 b32 dd 0 d40 d85 d34 d35 d36 d37))]) X93 hx hZ Kq93 hown (by rw [hml]; rfl) (own_w42 hw) (own_w43 hw) (own_w2 hw) (own_w44 hw) (by decide) (own_rm6 lch Z a0 hw [] (2 : Int32) b32 dd (0 : Int32) d40 d85 d34 d35 d36 d37 T90.heap n0 fd40 fd85 fd34 fd35 fd36 fd37) (by decide) (by decide) (by decide) (by decide) (lenOf own_pd4 rfl) rfl (by exact Nat.le_of_eq rfl) (hb hby at_255) rfl ?_
      intro T94 Lc94 v94 X94 hQ94
      obtain ⟨rfl, Nq94, Kq94⟩ := hQ94
      have N94 := Fr.app N93 Nq94
      show own_Ends prg e below s _ _ _ T94 (mkF m 258 #[.val (.int p0), .val (.int p1), .val (.int p2), .val (.long q3), .second, .val (.int p4), .val (.int (0 : Int32)), .val (.int b32), .val (.int dd), .val (.double d34), .second, .val (.double d35), .second, .val (.double d36), .second, .val (.double d37), .second, .val (.double d38), .second, .val (.double d39), .second, .val (.double d40), .second, .val (.double d41), .second, .val (.ref ra42), .val (.ref ra45), .val (.ref a48), .val (.ref a70), .val (.double d85), .second] [(.double (own_exp 2 b32 dd 0 d40 d85 d34 d35 d36 d37)), (.double (own_exp 2 b32 dd 0 d40 d85 d34 d35 d36 d37))])
      refine own_dcmp (pc' := 259) (z := (0 : Int32)) X94 hx (hb hby at_258) rfl (dcmpV_self (own_exp_nn fd40 fd85 fd34 fd35 fd36 fd37) _) ?_
      refine own_ifNo (pc' := 262) X94 hx (hb hby at_259) rfl (teq (by decide)).2 ?_
      refine own_aload (pc' := 264) X94 hx (hb hby at_262) rfl rfl rfl ?_
      refine own_iconst (pc' := 265) (z := (3 : Int32)) X94 hx (hb hby at_264) rfl rfl ?_
      refine own_daload (pc' := 266) (v := (.double (own_exp 3 b32 dd 0 d41 d85 d34 d35 d36 d37))) X94 hx hZ Kq94 G90_0 (hb hby at_265) rfl (by decide) rfl ?_
      refine own_iconst (pc' := 267) (z := (3 : Int32)) X94 hx (hb hby at_266) rfl rfl ?_
      refine own_iload (pc' := 269) X94 hx (hb hby at_267) rfl rfl ?_
      refine own_iload (pc' := 271) X94 hx (hb hby at_269) rfl rfl ?_
      refine own_iload (pc' := 273) X94 hx (hb hby at_271) rfl rfl ?_
      refine own_dload (pc' := 275) X94 hx (hb hby at_273) rfl rfl ?_
      refine own_dload (pc' := 277) X94 hx (hb hby at_275) rfl rfl ?_
      refine own_dload (pc' := 279) X94 hx (hb hby at_277) rfl rfl ?_
      refine own_dload (pc' := 281) X94 hx (hb hby at_279) rfl rfl ?_
      refine own_dload (pc' := 283) X94 hx (hb hby at_281) rfl rfl ?_
      refine own_dload (pc' := 285) X94 hx (hb hby at_283) rfl rfl ?_
      refine own_callS (pc' := 288) (y := (⟨"com/example/mapwright/mapwright/ArcLoadsAddToPinLaw", "expected", "(IIIIDDDDDD)D"⟩ : MethodName)) (W := 2) (rm := own_room6) (argsL := [(.int (3 : Int32)), (.int b32), (.int dd), (.int (0 : Int32)), (.double d41), (.double d85), (.double d34), (.double d35), (.double d36), (.double d37)]) (rest := [(.double (own_exp 3 b32 dd 0 d41 d85 d34 d35 d36 d37))]) X94 hx hZ Kq94 hown (by rw [hml]; rfl) (own_w42 hw) (own_w43 hw) (own_w2 hw) (own_w44 hw) (by decide) (own_rm6 lch Z a0 hw [] (3 : Int32) b32 dd (0 : Int32) d41 d85 d34 d35 d36 d37 T90.heap n0 fd41 fd85 fd34 fd35 fd36 fd37) (by decide) (by decide) (by decide) (by decide) (lenOf own_pd4 rfl) rfl (by exact Nat.le_of_eq rfl) (hb hby at_285) rfl ?_
      intro T95 Lc95 v95 X95 hQ95
      obtain ⟨rfl, Nq95, Kq95⟩ := hQ95
      have N95 := Fr.app N94 Nq95
      show own_Ends prg e below s _ _ _ T95 (mkF m 288 #[.val (.int p0), .val (.int p1), .val (.int p2), .val (.long q3), .second, .val (.int p4), .val (.int (0 : Int32)), .val (.int b32), .val (.int dd), .val (.double d34), .second, .val (.double d35), .second, .val (.double d36), .second, .val (.double d37), .second, .val (.double d38), .second, .val (.double d39), .second, .val (.double d40), .second, .val (.double d41), .second, .val (.ref ra42), .val (.ref ra45), .val (.ref a48), .val (.ref a70), .val (.double d85), .second] [(.double (own_exp 3 b32 dd 0 d41 d85 d34 d35 d36 d37)), (.double (own_exp 3 b32 dd 0 d41 d85 d34 d35 d36 d37))])
      refine own_dcmp (pc' := 289) (z := (0 : Int32)) X95 hx (hb hby at_288) rfl (dcmpV_self (own_exp_nn fd41 fd85 fd34 fd35 fd36 fd37) _) ?_
      refine own_ifNo (pc' := 292) X95 hx (hb hby at_289) rfl (teq (by decide)).2 ?_
      refine own_iconst (pc' := 293) (z := (1 : Int32)) X95 hx (hb hby at_292) rfl rfl ?_
      refine own_goto (pc' := 297) X95 hx (hb hby at_293) (by decide) (by decide) ?_
      refine own_retN X95 hx hlk hret (by simp) (hb hby at_297) (by decide) (by decide) ?_
      exact ⟨rfl, N95⟩
    · refine own_iload (pc' := 93) X0 hx (hb hby at_91) rfl rfl ?_
      refine own_iload (pc' := 95) X0 hx (hb hby at_93) rfl rfl ?_
      refine own_iload (pc' := 97) X0 hx (hb hby at_95) rfl rfl ?_
      refine own_callS (pc' := 100) (y := (⟨"com/example/mapwright/mapwright/ArcLoadsAddToPinLaw", "arcsOf", "(III)[I"⟩ : MethodName)) (W := 0) (rm := own_room1_1) (argsL := [(.int (1 : Int32)), (.int b32), (.int dd)]) (rest := []) X0 hx hZ e0 hown (by rw [hml]; rfl) (own_w0 hw) (own_w1 hw) (own_w2 hw) (own_w3 hw) (by decide) (own_rm1_1 lch Z a0 hw [] b32 dd h0 n0 Z0) (by decide) (by decide) (by decide) (by decide) (lenOf own_pd0 rfl) rfl (by exact Nat.le_of_eq rfl) (hb hby at_97) rfl ?_
      intro T96 Lc96 v96 X96 hQ96
      obtain ⟨ra96, rk96, rfl, Nq96, Kq96, G96_0, G96_1, G96_2⟩ := hQ96
      have N96 := Fr.app N0 Nq96
      have ge97 : n0 ≤ ra96 := Nat.le_trans Z0 G96_0
      show own_Ends prg e below s _ _ _ T96 (mkF m 100 #[.val (.int p0), .val (.int p1), .val (.int p2), .val (.long q3), .second, .val (.int p4), .val (.int (1 : Int32)), .val (.int b32), .val (.int dd), .val (.double d34), .second, .val (.double d35), .second, .val (.double d36), .second, .val (.double d37), .second, .val (.double d38), .second, .val (.double d39), .second, .val (.double d40), .second, .val (.double d41), .second, .unset, .unset, .unset, .unset, .unset, .unset] [(.ref ra96)])
      refine own_astore (pc' := 102) (l' := #[.val (.int p0), .val (.int p1), .val (.int p2), .val (.long q3), .second, .val (.int p4), .val (.int (1 : Int32)), .val (.int b32), .val (.int dd), .val (.double d34), .second, .val (.double d35), .second, .val (.double d36), .second, .val (.double d37), .second, .val (.double d38), .second, .val (.double d39), .second, .val (.double d40), .second, .val (.double d41), .second, .val (.ref ra96), .unset, .unset, .unset, .unset, .unset]) X96 hx (hb hby at_100) rfl rfl rfl ?_
      refine own_iload (pc' := 104) X96 hx (hb hby at_102) rfl rfl ?_
      refine own_dload (pc' := 106) X96 hx (hb hby at_104) rfl rfl ?_
      refine own_dload (pc' := 108) X96 hx (hb hby at_106) rfl rfl ?_
      refine own_dload (pc' := 110) X96 hx (hb hby at_108) rfl rfl ?_
      refine own_dload (pc' := 112) X96 hx (hb hby at_110) rfl rfl ?_
      have f98 := (Nat.le_trans Z0 Kq96.1)
      refine own_callS (pc' := 115) (y := (⟨"com/example/mapwright/mapwright/ArcLoadsAddToPinLaw", "perOf", "(IDDDD)[D"⟩ : MethodName)) (W := 0) (rm := own_room2_1) (argsL := [(.int (1 : Int32)), (.double d34), (.double d35), (.double d36), (.double d37)]) (rest := []) X96 hx hZ rfl hown (by rw [hml]; rfl) (own_w5 hw) (own_w6 hw) (own_w2 hw) (own_w7 hw) (by decide) (own_rm2_1 lch Z a0 hw [] d34 d35 d36 d37 T96.heap n0 f98) (by decide) (by decide) (by decide) (by decide) (lenOf own_pd1 rfl) rfl (by exact Nat.le_of_eq rfl) (hb hby at_112) rfl ?_
      intro T99 Lc99 v99 X99 hQ99
      obtain ⟨ra99, rk99, rfl, Nq99, Kq99, G99_0, G99_1, G99_2⟩ := hQ99
      have N99 := Fr.app N96 Nq99
      have ge100 : n0 ≤ ra99 := Nat.le_trans f98 G99_0
      have ne101 : ra96 ≠ ra99 := Nat.ne_of_lt (Nat.lt_of_lt_of_le G96_1.lt G99_0)
      show own_Ends prg e below s _ _ _ T99 (mkF m 115 #[.val (.int p0), .val (.int p1), .val (.int p2), .val (.long q3), .second, .val (.int p4), .val (.int (1 : Int32)), .val (.int b32), .val (.int dd), .val (.double d34), .second, .val (.double d35), .second, .val (.double d36), .second, .val (.double d37), .second, .val (.double d38), .second, .val (.double d39), .second, .val (.double d40), .second, .val (.double d41), .second, .val (.ref ra96), .unset, .unset, .unset, .unset, .unset] [(.ref ra99)])
      refine own_astore (pc' := 117) (l' := #[.val (.int p0), .val (.int p1), .val (.int p2), .val (.long q3), .second, .val (.int p4), .val (.int (1 : Int32)), .val (.int b32), .val (.int dd), .val (.double d34), .second, .val (.double d35), .second, .val (.double d36), .second, .val (.double d37), .second, .val (.double d38), .second, .val (.double d39), .second, .val (.double d40), .second, .val (.double d41), .second, .val (.ref ra96), .val (.ref ra99), .unset, .unset, .unset, .unset]) X99 hx (hb hby at_115) rfl rfl rfl ?_
      obtain ⟨T102, h102, X102, e102, E102, A102, D102, -, st102⟩ := newO X99 hx hZ hown (own_w9 hw) (own_w10 hw) (own_w11 hw) rfl (g := (mkF m 117 #[.val (.int p0), .val (.int p1), .val (.int p2), .val (.long q3), .second, .val (.int p4), .val (.int (1 : Int32)), .val (.int b32), .val (.int dd), .val (.double d34), .second, .val (.double d35), .second, .val (.double d36), .second, .val (.double d37), .second, .val (.double d38), .second, .val (.double d39), .second, .val (.double d40), .second, .val (.double d41), .second, .val (.ref ra96), .val (.ref ra99), .unset, .unset, .unset, .unset] [])) rfl (hb hby at_117) (by decide) (by decide)
      refine own_go st102 ?_
      obtain ⟨a102, g102⟩ : ∃ z, z = T99.heap.size := ⟨_, rfl⟩
      rw [← g102] at A102 D102
      have f103 := (Nat.le_trans f98 Kq99.1)
      have ge104 : n0 ≤ a102 := by rw [g102]; exact f103
      have f105 := (G96_1.keep Kq99 nin0)
      have ne106 : ra96 ≠ a102 := Nat.ne_of_lt (by rw [g102]; exact f105.lt)
      have ne107 : ra99 ≠ a102 := Nat.ne_of_lt (by rw [g102]; exact G99_1.lt)
      have F108 : Fld Z h102 a102 "com/example/mapwright/mapwright/ArcLoads" "arcs" "[I" .null := D102 (Or.inr (own_w28 hw)) (ty := (.array .int)) (by decide)
      have F109 : Fld Z h102 a102 "com/example/mapwright/mapwright/ArcLoads" "perUnit" "[D" .null := D102 (Or.inr (own_w36 hw)) (ty := (.array .double)) (by decide)
      show own_Ends prg e below s _ _ _ T102 (mkF m 120 #[.val (.int p0), .val (.int p1), .val (.int p2), .val (.long q3), .second, .val (.int p4), .val (.int (1 : Int32)), .val (.int b32), .val (.int dd), .val (.double d34), .second, .val (.double d35), .second, .val (.double d36), .second, .val (.double d37), .second, .val (.double d38), .second, .val (.double d39), .second, .val (.double d40), .second, .val (.double d41), .second, .val (.ref ra96), .val (.ref ra99), .unset, .unset, .unset, .unset] [(.ref T99.heap.size)])
      rw [← g102]
      refine own_dup (pc' := 121) X102 hx (hb hby at_120) rfl rfl ?_
      refine own_aload (pc' := 123) X102 hx (hb hby at_121) rfl rfl rfl ?_
      refine own_aload (pc' := 125) X102 hx (hb hby at_123) rfl rfl rfl ?_
      have f110 := (f105.ext E102)
      have f111 := ((G96_2.keep Kq99).ext E102)
      have f112 := (G99_1.ext E102)
      have f113 := (G99_2.ext E102)
      have f114 := (Nat.le_trans f103 E102.1)
      refine own_callC (pc' := 128) (y := (⟨"com/example/mapwright/mapwright/ArcLoads", "<init>", "([I[D)V"⟩ : MethodName)) (W := 1) (rm := own_room3_1) (argsL := [(.ref ra96), (.ref ra99)]) (rest := [(.ref a102)]) (b := a102) X102 hx hZ e102 hown (by rw [hml]; rfl) rfl rfl (own_w12 hw) (own_w13 hw) (own_w11 hw) (own_w14 hw) (by decide) (own_rm3_1 lch Z a0 hw [] a102 ra96 ra99 rk96 rk99 (b32 &&& (3 : Int32)) d34 _ _ h102 n0 f114 A102 F108 F109 ge104 f110 f111 f112 f113 (Ne.symm ne106) (Ne.symm ne107) ne101) (by decide) (by decide) (by decide) (by decide) (lenOf own_pd2 rfl) rfl (by exact Nat.le_of_eq rfl) (hb hby at_125) rfl ?_
      intro T115 Lc115 v115 X115 hQ115
      obtain ⟨ca115, pa115, ck115, pk115, rfl, Nq115, Kq115, G115_0, G115_1, G115_2, G115_3, G115_4, G115_5, G115_6⟩ := hQ115
      have N115 := Fr.app N99 Nq115
      have ge116 : n0 ≤ ca115 := Nat.le_trans f114 G115_0
      have ne117 : ra96 ≠ ca115 := Nat.ne_of_lt (Nat.lt_of_lt_of_le f110.lt G115_0)
      have ne118 : ra99 ≠ ca115 := Nat.ne_of_lt (Nat.lt_of_lt_of_le f112.lt G115_0)
      have ne119 : a102 ≠ ca115 := Nat.ne_of_lt (Nat.lt_of_lt_of_le A102.lt G115_0)
      have ge120 : n0 ≤ pa115 := Nat.le_trans f114 G115_1
      have ne121 : ra96 ≠ pa115 := Nat.ne_of_lt (Nat.lt_of_lt_of_le f110.lt G115_1)
      have ne122 : ra99 ≠ pa115 := Nat.ne_of_lt (Nat.lt_of_lt_of_le f112.lt G115_1)
      have ne123 : a102 ≠ pa115 := Nat.ne_of_lt (Nat.lt_of_lt_of_le A102.lt G115_1)
      show own_Ends prg e below s _ _ _ T115 (mkF m 128 #[.val (.int p0), .val (.int p1), .val (.int p2), .val (.long q3), .second, .val (.int p4), .val (.int (1 : Int32)), .val (.int b32), .val (.int dd), .val (.double d34), .second, .val (.double d35), .second, .val (.double d36), .second, .val (.double d37), .second, .val (.double d38), .second, .val (.double d39), .second, .val (.double d40), .second, .val (.double d41), .second, .val (.ref ra96), .val (.ref ra99), .unset, .unset, .unset, .unset] [(.ref a102)])
      refine own_astore (pc' := 130) (l' := #[.val (.int p0), .val (.int p1), .val (.int p2), .val (.long q3), .second, .val (.int p4), .val (.int (1 : Int32)), .val (.int b32), .val (.int dd), .val (.double d34), .second, .val (.double d35), .second, .val (.double d36), .second, .val (.double d37), .second, .val (.double d38), .second, .val (.double d39), .second, .val (.double d40), .second, .val (.double d41), .second, .val (.ref ra96), .val (.ref ra99), .val (.ref a102), .unset, .unset, .unset]) X115 hx (hb hby at_128) rfl rfl rfl ?_
      refine own_iconst (pc' := 131) (z := (4 : Int32)) X115 hx (hb hby at_130) rfl rfl ?_
      refine own_newarr (pc' := 133) (aty := .double) X115 hx hZ (own_w8 hw) rfl (hb hby at_131) rfl (by decide) 4 4 (by decide) (by decide) (by decide) (by decide) ?_
      intro T124 h124 a124 k124 X124 e124 E124 g124 V124
      replace V124 : Arv Z h124 a124 k124 .double (4 : Int32) [(.double 0), (.double 0), (.double 0), (.double 0)] (.double 0) := V124
      have f125 := (Nat.le_trans f114 Kq115.1)
      have ge126 : n0 ≤ a124 := by rw [g124]; exact f125
      have f127 := (f110.keep Kq115 (ninS ne106 nin0))
      have ne128 : ra96 ≠ a124 := Nat.ne_of_lt (by rw [g124]; exact f127.lt)
      have f129 := (f112.keep Kq115 (ninS ne107 nin0))
      have ne130 : ra99 ≠ a124 := Nat.ne_of_lt (by rw [g124]; exact f129.lt)
      have f131 := (A102.keep Kq115)
      have ne132 : a102 ≠ a124 := Nat.ne_of_lt (by rw [g124]; exact f131.lt)
      have ne133 : ca115 ≠ a124 := Nat.ne_of_lt (by rw [g124]; exact G115_5.lt)
      have ne134 : pa115 ≠ a124 := Nat.ne_of_lt (by rw [g124]; exact G115_6.lt)
      show own_Ends prg e below s _ _ _ T124 (mkF m 133 #[.val (.int p0), .val (.int p1), .val (.int p2), .val (.long q3), .second, .val (.int p4), .val (.int (1 : Int32)), .val (.int b32), .val (.int dd), .val (.double d34), .second, .val (.double d35), .second, .val (.double d36), .second, .val (.double d37), .second, .val (.double d38), .second, .val (.double d39), .second, .val (.double d40), .second, .val (.double d41), .second, .val (.ref ra96), .val (.ref ra99), .val (.ref a102), .unset, .unset, .unset] [(.ref a124)])
      refine own_astore (pc' := 135) (l' := #[.val (.int p0), .val (.int p1), .val (.int p2), .val (.long q3), .second, .val (.int p4), .val (.int (1 : Int32)), .val (.int b32), .val (.int dd), .val (.double d34), .second, .val (.double d35), .second, .val (.double d36), .second, .val (.double d37), .second, .val (.double d38), .second, .val (.double d39), .second, .val (.double d40), .second, .val (.double d41), .second, .val (.ref ra96), .val (.ref ra99), .val (.ref a102), .val (.ref a124), .unset, .unset]) X124 hx (hb hby at_133) rfl rfl rfl ?_
      refine own_aload (pc' := 137) X124 hx (hb hby at_135) rfl rfl rfl ?_
      refine own_iconst (pc' := 138) (z := (0 : Int32)) X124 hx (hb hby at_137) rfl rfl ?_
      refine own_dload (pc' := 140) X124 hx (hb hby at_138) rfl rfl ?_
      refine own_dastore (pc' := 141) X124 hx hZ e124 V124 (hb hby at_140) rfl (by decide) 0 rfl (by simp) N115 ge126 ?_
      intro T135 h135 L135 X135 e135 N135 W135 V135
      replace V135 : Arv Z h135 a124 k124 .double (4 : Int32) [(.double d38), (.double 0), (.double 0), (.double 0)] (.double 0) := V135
      show own_Ends prg e below s _ _ _ T135 (mkF m 141 #[.val (.int p0), .val (.int p1), .val (.int p2), .val (.long q3), .second, .val (.int p4), .val (.int (1 : Int32)), .val (.int b32), .val (.int dd), .val (.double d34), .second, .val (.double d35), .second, .val (.double d36), .second, .val (.double d37), .second, .val (.double d38), .second, .val (.double d39), .second, .val (.double d40), .second, .val (.double d41), .second, .val (.ref ra96), .val (.ref ra99), .val (.ref a102), .val (.ref a124), .unset, .unset] [])
      refine own_aload (pc' := 143) X135 hx (hb hby at_141) rfl rfl rfl ?_
      refine own_iconst (pc' := 144) (z := (1 : Int32)) X135 hx (hb hby at_143) rfl rfl ?_
      refine own_dload (pc' := 146) X135 hx (hb hby at_144) rfl rfl ?_
      refine own_dastore (pc' := 147) X135 hx hZ e135 V135 (hb hby at_146) rfl (by decide) 1 rfl (by simp) N135 ge126 ?_
      intro T136 h136 L136 X136 e136 N136 W136 V136
      replace V136 : Arv Z h136 a124 k124 .double (4 : Int32) [(.double d38), (.double d39), (.double 0), (.double 0)] (.double 0) := V136
      show own_Ends prg e below s _ _ _ T136 (mkF m 147 #[.val (.int p0), .val (.int p1), .val (.int p2), .val (.long q3), .second, .val (.int p4), .val (.int (1 : Int32)), .val (.int b32), .val (.int dd), .val (.double d34), .second, .val (.double d35), .second, .val (.double d36), .second, .val (.double d37), .second, .val (.double d38), .second, .val (.double d39), .second, .val (.double d40), .second, .val (.double d41), .second, .val (.ref ra96), .val (.ref ra99), .val (.ref a102), .val (.ref a124), .unset, .unset] [])
      refine own_aload (pc' := 149) X136 hx (hb hby at_147) rfl rfl rfl ?_
      refine own_iconst (pc' := 150) (z := (2 : Int32)) X136 hx (hb hby at_149) rfl rfl ?_
      refine own_dload (pc' := 152) X136 hx (hb hby at_150) rfl rfl ?_
      refine own_dastore (pc' := 153) X136 hx hZ e136 V136 (hb hby at_152) rfl (by decide) 2 rfl (by simp) N136 ge126 ?_
      intro T137 h137 L137 X137 e137 N137 W137 V137
      replace V137 : Arv Z h137 a124 k124 .double (4 : Int32) [(.double d38), (.double d39), (.double d40), (.double 0)] (.double 0) := V137
      show own_Ends prg e below s _ _ _ T137 (mkF m 153 #[.val (.int p0), .val (.int p1), .val (.int p2), .val (.long q3), .second, .val (.int p4), .val (.int (1 : Int32)), .val (.int b32), .val (.int dd), .val (.double d34), .second, .val (.double d35), .second, .val (.double d36), .second, .val (.double d37), .second, .val (.double d38), .second, .val (.double d39), .second, .val (.double d40), .second, .val (.double d41), .second, .val (.ref ra96), .val (.ref ra99), .val (.ref a102), .val (.ref a124), .unset, .unset] [])
      refine own_aload (pc' := 155) X137 hx (hb hby at_153) rfl rfl rfl ?_
      refine own_iconst (pc' := 156) (z := (3 : Int32)) X137 hx (hb hby at_155) rfl rfl ?_
      refine own_dload (pc' := 158) X137 hx (hb hby at_156) rfl rfl ?_
      refine own_dastore (pc' := 159) X137 hx hZ e137 V137 (hb hby at_158) rfl (by decide) 3 rfl (by simp) N137 ge126 ?_
      intro T138 h138 L138 X138 e138 N138 W138 V138
      replace V138 : Arv Z h138 a124 k124 .double (4 : Int32) [(.double d38), (.double d39), (.double d40), (.double d41)] (.double 0) := V138
      show own_Ends prg e below s _ _ _ T138 (mkF m 159 #[.val (.int p0), .val (.int p1), .val (.int p2), .val (.long q3), .second, .val (.int p4), .val (.int (1 : Int32)), .val (.int b32), .val (.int dd), .val (.double d34), .second, .val (.double d35), .second, .val (.double d36), .second, .val (.double d37), .second, .val (.double d38), .second, .val (.double d39), .second, .val (.double d40), .second, .val (.double d41), .second, .val (.ref ra96), .val (.ref ra99), .val (.ref a102), .val (.ref a124), .unset, .unset] [])
      refine own_iloadN (pc' := 160) X138 hx (hb hby at_159) rfl rfl ?_
      obtain ⟨d139, hd139⟩ : ∃ z, (FP.i2d p2) = z := ⟨_, rfl⟩
      refine own_i2d (pc' := 161) (z := d139) X138 hx (hb hby at_160) rfl hd139 ?_
      refine own_dstore (pc' := 163) (l' := #[.val (.int p0), .val (.int p1), .val (.int p2), .val (.long q3), .second, .val (.int p4), .val (.int (1 : Int32)), .val (.int b32), .val (.int dd), .val (.double d34), .second, .val (.double d35), .second, .val (.double d36), .second, .val (.double d37), .second, .val (.double d38), .second, .val (.double d39), .second, .val (.double d40), .second, .val (.double d41), .second, .val (.ref ra96), .val (.ref ra99), .val (.ref a102), .val (.ref a124), .val (.double d139), .second]) X138 hx (hb hby at_161) rfl rfl ?_
      have fd139 : Jvm.Free.Fl.Fin64 d139 := by rw [← hd139]; exact Jvm.Free.Fl.i2d_fin _
      refine own_aload (pc' := 165) X138 hx (hb hby at_163) rfl rfl rfl ?_
      refine own_aload (pc' := 167) X138 hx (hb hby at_165) rfl rfl rfl ?_
      refine own_dload (pc' := 169) X138 hx (hb hby at_167) rfl rfl ?_
      have f140 := (((((G115_3.ext E124).other W135 (Or.inl ne132)).other W136 (Or.inl ne132)).other W137 (Or.inl ne132)).other W138 (Or.inl ne132))
      have f141 := (((((G115_4.ext E124).other W135 (Or.inl ne132)).other W136 (Or.inl ne132)).other W137 (Or.inl ne132)).other W138 (Or.inl ne132))
      have f142 := (((((G115_5.ext E124).other W135 ne133).other W136 ne133).other W137 ne133).other W138 ne133)
      have f143 := (((((G115_6.ext E124).other W135 ne134).other W136 ne134).other W137 ne134).other W138 ne134)
      have f145 := (((((f131.ext E124).wr W135).wr W136).wr W137).wr W138)
      refine own_callV (pc' := 172) (y := (⟨"com/example/mapwright/mapwright/ArcLoads", "addTo", "([DD)V"⟩ : MethodName)) (W := 0) (rm := own_room5_1) (argsL := [(.ref a124), (.double d139)]) (rest := []) (b := a102) (C := "com/example/mapwright/mapwright/ArcLoads") X138 hx hZ e138 hown (by rw [hml]; rfl) f145 (own_w37 hw) (own_w38 hw) (own_w40 hw) (own_w39 hw) (own_w11 hw) (own_w41 hw) (by decide) (own_rm5_1 lch Z a0 hw [] a102 a124 d139 ca115 pa115 ck115 pk115 k124 b32 dd d38 d39 d40 d41 d34 d35 d36 d37 h138 n0 f140 f141 f142 f143 V138 ge126 ne132 ne133 ne134 hbd fd139 fd38 fd39 fd40 fd41 fd34 fd35 fd36 fd37) (by decide) (by decide) (by decide) (by decide) (lenOf own_pd3 rfl) rfl (by exact Nat.le_of_eq rfl) (hb hby at_169) rfl ?_
      intro T144 Lc144 v144 X144 hQ144
      obtain ⟨rfl, Nq144, Kq144, G144_0⟩ := hQ144
      have N144 := Fr.app N138 Nq144
      show own_Ends prg e below s _ _ _ T144 (mkF m 172 #[.val (.int p0), .val (.int p1), .val (.int p2), .val (.long q3), .second, .val (.int p4), .val (.int (1 : Int32)), .val (.int b32), .val (.int dd), .val (.double d34), .second, .val (.double d35), .second, .val (.double d36), .second, .val (.double d37), .second, .val (.double d38), .second, .val (.double d39), .second, .val (.double d40), .second, .val (.double d41), .second, .val (.ref ra96), .val (.ref ra99), .val (.ref a102), .val (.ref a124), .val (.double d139), .second] [])
      refine own_aload (pc' := 174) X144 hx (hb hby at_172) rfl rfl rfl ?_
      refine own_iconst (pc' := 175) (z := (0 : Int32)) X144 hx (hb hby at_174) rfl rfl ?_
      refine own_daload (pc' := 176) (v := (.double (own_exp 0 b32 dd 1 d38 d139 d34 d35 d36 d37))) X144 hx hZ rfl G144_0 (hb hby at_175) rfl (by decide) rfl ?_
      refine own_iconst (pc' := 177) (z := (0 : Int32)) X144 hx (hb hby at_176) rfl rfl ?_
      refine own_iload (pc' := 179) X144 hx (hb hby at_177) rfl rfl ?_
      refine own_iload (pc' := 181) X144 hx (hb hby at_179) rfl rfl ?_
      refine own_iload (pc' := 183) X144 hx (hb hby at_181) rfl rfl ?_
      refine own_dload (pc' := 185) X144 hx (hb hby at_183) rfl rfl ?_
      refine own_dload (pc' := 187) X144 hx (hb hby at_185) rfl rfl ?_
      refine own_dload (pc' := 189) X144 hx (hb hby at_187) rfl rfl ?_
      refine own_dload (pc' := 191) X144 hx (hb hby at_189) rfl rfl ?_
      refine own_dload (pc' := 193) X144 hx (hb hby at_191) rfl rfl ?_
      refine own_dload (pc' := 195) X144 hx (hb hby at_193) rfl rfl ?_
      refine own_callS (pc' := 198) (y := (⟨"com/example/mapwright/mapwright/ArcLoadsAddToPinLaw", "expected", "(IIIIDDDDDD)D"⟩ : MethodName)) (W := 2) (rm := own_room6) (argsL := [(.int (0 : Int32)), (.int b32), (.int dd), (.int (1 : Int32)), (.double d38), (.double d139), (.double d34), (.double d35), (.double d36), (.double d37)]) (rest := [(.double (own_exp 0 b32 dd 1 d38 d139 d34 d35 d36 d37))]) X144 hx hZ rfl hown (by rw [hml]; rfl) (own_w42 hw) (own_w43 hw) (own_w2 hw) (own_w44 hw) (by decide) (own_rm6 lch Z a0 hw [] (0 : Int32) b32 dd (1 : Int32) d38 d139 d34 d35 d36 d37 T144.heap n0 fd38 fd139 fd34 fd35 fd36 fd37) (by decide) (by decide) (by decide) (by decide) (lenOf own_pd4 rfl) rfl (by exact Nat.le_of_eq rfl) (hb hby at_195) rfl ?_
      intro T146 Lc146 v146 X146 hQ146
      obtain ⟨rfl, Nq146, Kq146⟩ := hQ146
      have N146 := Fr.app N144 Nq146
      show own_Ends prg e below s _ _ _ T146 (mkF m 198 #[.val (.int p0), .val (.int p1), .val (.int p2), .val (.long q3), .second, .val (.int p4), .val (.int (1 : Int32)), .val (.int b32), .val (.int dd), .val (.double d34), .second, .val (.double d35), .second, .val (.double d36), .second, .val (.double d37), .second, .val (.double d38), .second, .val (.double d39), .second, .val (.double d40), .second, .val (.double d41), .second, .val (.ref ra96), .val (.ref ra99), .val (.ref a102), .val (.ref a124), .val (.double d139), .second] [(.double (own_exp 0 b32 dd 1 d38 d139 d34 d35 d36 d37)), (.double (own_exp 0 b32 dd 1 d38 d139 d34 d35 d36 d37))])
      refine own_dcmp (pc' := 199) (z := (0 : Int32)) X146 hx (hb hby at_198) rfl (dcmpV_self (own_exp_nn fd38 fd139 fd34 fd35 fd36 fd37) _) ?_
      refine own_ifNo (pc' := 202) X146 hx (hb hby at_199) rfl (teq (by decide)).2 ?_
      refine own_aload (pc' := 204) X146 hx (hb hby at_202) rfl rfl rfl ?_
      refine own_iconst (pc' := 205) (z := (1 : Int32)) X146 hx (hb hby at_204) rfl rfl ?_
      refine own_daload (pc' := 206) (v := (.double (own_exp 1 b32 dd 1 d39 d139 d34 d35 d36 d37))) X146 hx hZ Kq146 G144_0 (hb hby at_205) rfl (by decide) rfl ?_
      refine own_iconst (pc' := 207) (z := (1 : Int32)) X146 hx (hb hby at_206) rfl rfl ?_
      refine own_iload (pc' := 209) X146 hx (hb hby at_207) rfl rfl ?_
      refine own_iload (pc' := 211) X146 hx (hb hby at_209) rfl rfl ?_
      refine own_iload (pc' := 213) X146 hx (hb hby at_211) rfl rfl ?_
      refine own_dload (pc' := 215) X146 hx (hb hby at_213) rfl rfl ?_
      refine own_dload (pc' := 217) X146 hx (hb hby at_215) rfl rfl ?_
      refine own_dload (pc' := 219) X146 hx (hb hby at_217) rfl rfl ?_
      refine own_dload (pc' := 221) X146 hx (hb hby at_219) rfl rfl ?_
      refine own_dload (pc' := 223) X146 hx (hb hby at_221) rfl rfl ?_
      refine own_dload (pc' := 225) X146 hx (hb hby at_223) rfl rfl ?_
      refine own_callS (pc' := 228) (y := (⟨"com/example/mapwright/mapwright/ArcLoadsAddToPinLaw", "expected", "(IIIIDDDDDD)D"⟩ : MethodName)) (W := 2) (rm := own_room6) (argsL := [(.int (1 : Int32)), (.int b32), (.int dd), (.int (1 : Int32)), (.double d39), (.double d139), (.double d34), (.double d35), (.double d36), (.double d37)]) (rest := [(.double (own_exp 1 b32 dd 1 d39 d139 d34 d35 d36 d37))]) X146 hx hZ Kq146 hown (by rw [hml]; rfl) (own_w42 hw) (own_w43 hw) (own_w2 hw) (own_w44 hw) (by decide) (own_rm6 lch Z a0 hw [] (1 : Int32) b32 dd (1 : Int32) d39 d139 d34 d35 d36 d37 T144.heap n0 fd39 fd139 fd34 fd35 fd36 fd37) (by decide) (by decide) (by decide) (by decide) (lenOf own_pd4 rfl) rfl (by exact Nat.le_of_eq rfl) (hb hby at_225) rfl ?_
      intro T147 Lc147 v147 X147 hQ147
      obtain ⟨rfl, Nq147, Kq147⟩ := hQ147
      have N147 := Fr.app N146 Nq147
      show own_Ends prg e below s _ _ _ T147 (mkF m 228 #[.val (.int p0), .val (.int p1), .val (.int p2), .val (.long q3), .second, .val (.int p4), .val (.int (1 : Int32)), .val (.int b32), .val (.int dd), .val (.double d34), .second, .val (.double d35), .second, .val (.double d36), .second, .val (.double d37), .second, .val (.double d38), .second, .val (.double d39), .second, .val (.double d40), .second, .val (.double d41), .second, .val (.ref ra96), .val (.ref ra99), .val (.ref a102), .val (.ref a124), .val (.double d139), .second] [(.double (own_exp 1 b32 dd 1 d39 d139 d34 d35 d36 d37)), (.double (own_exp 1 b32 dd 1 d39 d139 d34 d35 d36 d37))])
      refine own_dcmp (pc' := 229) (z := (0 : Int32)) X147 hx (hb hby at_228) rfl (dcmpV_self (own_exp_nn fd39 fd139 fd34 fd35 fd36 fd37) _) ?_
      refine own_ifNo (pc' := 232) X147 hx (hb hby at_229) rfl (teq (by decide)).2 ?_
      refine own_aload (pc' := 234) X147 hx (hb hby at_232) rfl rfl rfl ?_
      refine own_iconst (pc' := 235) (z := (2 : Int32)) X147 hx (hb hby at_234) rfl rfl ?_
      refine own_daload (pc' := 236) (v := (.double (own_exp 2 b32 dd 1 d40 d139 d34 d35 d36 d37))) X147 hx hZ Kq147 G144_0 (hb hby at_235) rfl (by decide) rfl ?_
      refine own_iconst (pc' := 237) (z := (2 : Int32)) X147 hx (hb hby at_236) rfl rfl ?_
      refine own_iload (pc' := 239) X147 hx (hb hby at_237) rfl rfl ?_
      refine own_iload (pc' := 241) X147 hx (hb hby at_239) rfl rfl ?_
      refine own_iload (pc' := 243) X147 hx (hb hby at_241) rfl rfl ?_
      refine own_dload (pc' := 245) X147 hx (hb hby at_243) rfl rfl ?_
      refine own_dload (pc' := 247) X147 hx (hb hby at_245) rfl rfl ?_
      refine own_dload (pc' := 249) X147 hx (hb hby at_247) rfl rfl ?_
      refine own_dload (pc' := 251) X147 hx (hb hby at_249) rfl rfl ?_
      refine own_dload (pc' := 253) X147 hx (hb hby at_251) rfl rfl ?_
      refine own_dload (pc' := 255) X147 hx (hb hby at_253) rfl rfl ?_
      refine own_callS (pc' := 258) (y := (⟨"com/example/mapwright/mapwright/ArcLoadsAddToPinLaw", "expected", "(IIIIDDDDDD)D"⟩ : MethodName)) (W := 2) (rm := own_room6) (argsL := [(.int (2 : Int32)), (.int b32), (.int dd), (.int (1 : Int32)), (.double d40), (.double d139), (.double d34), (.double d35), (.double d36), (.double d37)]) (rest := [(.double (own_exp 2 b32 dd 1 d40 d139 d34 d35 d36 d37))]) X147 hx hZ Kq147 hown (by rw [hml]; rfl) (own_w42 hw) (own_w43 hw) (own_w2 hw) (own_w44 hw) (by decide) (own_rm6 lch Z a0 hw [] (2 : Int32) b32 dd (1 : Int32) d40 d139 d34 d35 d36 d37 T144.heap n0 fd40 fd139 fd34 fd35 fd36 fd37) (by decide) (by decide) (by decide) (by decide) (lenOf own_pd4 rfl) rfl (by exact Nat.le_of_eq rfl) (hb hby at_255) rfl ?_
      intro T148 Lc148 v148 X148 hQ148
      obtain ⟨rfl, Nq148, Kq148⟩ := hQ148
      have N148 := Fr.app N147 Nq148
      show own_Ends prg e below s _ _ _ T148 (mkF m 258 #[.val (.int p0), .val (.int p1), .val (.int p2), .val (.long q3), .second, .val (.int p4), .val (.int (1 : Int32)), .val (.int b32), .val (.int dd), .val (.double d34), .second, .val (.double d35), .second, .val (.double d36), .second, .val (.double d37), .second, .val (.double d38), .second, .val (.double d39), .second, .val (.double d40), .second, .val (.double d41), .second, .val (.ref ra96), .val (.ref ra99), .val (.ref a102), .val (.ref a124), .val (.double d139), .second] [(.double (own_exp 2 b32 dd 1 d40 d139 d34 d35 d36 d37)), (.double (own_exp 2 b32 dd 1 d40 d139 d34 d35 d36 d37))])
      refine own_dcmp (pc' := 259) (z := (0 : Int32)) X148 hx (hb hby at_258) rfl (dcmpV_self (own_exp_nn fd40 fd139 fd34 fd35 fd36 fd37) _) ?_
      refine own_ifNo (pc' := 262) X148 hx (hb hby at_259) rfl (teq (by decide)).2 ?_
      refine own_aload (pc' := 264) X148 hx (hb hby at_262) rfl rfl rfl ?_
      refine own_iconst (pc' := 265) (z := (3 : Int32)) X148 hx (hb hby at_264) rfl rfl ?_
      refine own_daload (pc' := 266) (v := (.double (own_exp 3 b32 dd 1 d41 d139 d34 d35 d36 d37))) X148 hx hZ Kq148 G144_0 (hb hby at_265) rfl (by decide) rfl ?_
      refine own_iconst (pc' := 267) (z := (3 : Int32)) X148 hx (hb hby at_266) rfl rfl ?_
      refine own_iload (pc' := 269) X148 hx (hb hby at_267) rfl rfl ?_
      refine own_iload (pc' := 271) X148 hx (hb hby at_269) rfl rfl ?_
      refine own_iload (pc' := 273) X148 hx (hb hby at_271) rfl rfl ?_
      refine own_dload (pc' := 275) X148 hx (hb hby at_273) rfl rfl ?_
      refine own_dload (pc' := 277) X148 hx (hb hby at_275) rfl rfl ?_
      refine own_dload (pc' := 279) X148 hx (hb hby at_277) rfl rfl ?_
      refine own_dload (pc' := 281) X148 hx (hb hby at_279) rfl rfl ?_
      refine own_dload (pc' := 283) X148 hx (hb hby at_281) rfl rfl ?_
      refine own_dload (pc' := 285) X148 hx (hb hby at_283) rfl rfl ?_
      refine own_callS (pc' := 288) (y := (⟨"com/example/mapwright/mapwright/ArcLoadsAddToPinLaw", "expected", "(IIIIDDDDDD)D"⟩ : MethodName)) (W := 2) (rm := own_room6) (argsL := [(.int (3 : Int32)), (.int b32), (.int dd), (.int (1 : Int32)), (.double d41), (.double d139), (.double d34), (.double d35), (.double d36), (.double d37)]) (rest := [(.double (own_exp 3 b32 dd 1 d41 d139 d34 d35 d36 d37))]) X148 hx hZ Kq148 hown (by rw [hml]; rfl) (own_w42 hw) (own_w43 hw) (own_w2 hw) (own_w44 hw) (by decide) (own_rm6 lch Z a0 hw [] (3 : Int32) b32 dd (1 : Int32) d41 d139 d34 d35 d36 d37 T144.heap n0 fd41 fd139 fd34 fd35 fd36 fd37) (by decide) (by decide) (by decide) (by decide) (lenOf own_pd4 rfl) rfl (by exact Nat.le_of_eq rfl) (hb hby at_285) rfl ?_
      intro T149 Lc149 v149 X149 hQ149
      obtain ⟨rfl, Nq149, Kq149⟩ := hQ149
      have N149 := Fr.app N148 Nq149
      show own_Ends prg e below s _ _ _ T149 (mkF m 288 #[.val (.int p0), .val (.int p1), .val (.int p2), .val (.long q3), .second, .val (.int p4), .val (.int (1 : Int32)), .val (.int b32), .val (.int dd), .val (.double d34), .second, .val (.double d35), .second, .val (.double d36), .second, .val (.double d37), .second, .val (.double d38), .second, .val (.double d39), .second, .val (.double d40), .second, .val (.double d41), .second, .val (.ref ra96), .val (.ref ra99), .val (.ref a102), .val (.ref a124), .val (.double d139), .second] [(.double (own_exp 3 b32 dd 1 d41 d139 d34 d35 d36 d37)), (.double (own_exp 3 b32 dd 1 d41 d139 d34 d35 d36 d37))])
      refine own_dcmp (pc' := 289) (z := (0 : Int32)) X149 hx (hb hby at_288) rfl (dcmpV_self (own_exp_nn fd41 fd139 fd34 fd35 fd36 fd37) _) ?_
      refine own_ifNo (pc' := 292) X149 hx (hb hby at_289) rfl (teq (by decide)).2 ?_
      refine own_iconst (pc' := 293) (z := (1 : Int32)) X149 hx (hb hby at_292) rfl rfl ?_
      refine own_goto (pc' := 297) X149 hx (hb hby at_293) (by decide) (by decide) ?_
      refine own_retN X149 hx hlk hret (by simp) (hb hby at_297) (by decide) (by decide) ?_
      exact ⟨rfl, N149⟩
    · refine own_iload (pc' := 93) X0 hx (hb hby at_91) rfl rfl ?_
      refine own_iload (pc' := 95) X0 hx (hb hby at_93) rfl rfl ?_
      refine own_iload (pc' := 97) X0 hx (hb hby at_95) rfl rfl ?_
      refine own_callS (pc' := 100) (y := (⟨"com/example/mapwright/mapwright/ArcLoadsAddToPinLaw", "arcsOf", "(III)[I"⟩ : MethodName)) (W := 0) (rm := own_room1_2) (argsL := [(.int (2 : Int32)), (.int b32), (.int dd)]) (rest := []) X0 hx hZ e0 hown (by rw [hml]; rfl) (own_w0 hw) (own_w1 hw) (own_w2 hw) (own_w3 hw) (by decide) (own_rm1_2 lch Z a0 hw [] b32 dd h0 n0 Z0) (by decide) (by decide) (by decide) (by decide) (lenOf own_pd0 rfl) rfl (by exact Nat.le_of_eq rfl) (hb hby at_97) rfl ?_
      intro T150 Lc150 v150 X150 hQ150
      obtain ⟨ra150, rk150, rfl, Nq150, Kq150, G150_0, G150_1, G150_2⟩ := hQ150
      have N150 := Fr.app N0 Nq150
      have ge151 : n0 ≤ ra150 := Nat.le_trans Z0 G150_0
      show own_Ends prg e below s _ _ _ T150 (mkF m 100 #[.val (.int p0), .val (.int p1), .val (.int p2), .val (.long q3), .second, .val (.int p4), .val (.int (2 : Int32)), .val (.int b32), .val (.int dd), .val (.double d34), .second, .val (.double d35), .second, .val (.double d36), .second, .val (.double d37), .second, .val (.double d38), .second, .val (.double d39), .second, .val (.double d40), .second, .val (.double d41), .second, .unset, .unset, .unset, .unset, .unset, .unset] [(.ref ra150)])
      refine own_astore (pc' := 102) (l' := #[.val (.int p0), .val (.int p1), .val (.int p2), .val (.long q3), .second, .val (.int p4), .val (.int (2 : Int32)), .val (.int b32), .val (.int dd), .val (.double d34), .second, .val (.double d35), .second, .val (.double d36), .second, .val (.double d37), .second, .val (.double d38), .second, .val (.double d39), .second, .val (.double d40), .second, .val (.double d41), .second, .val (.ref ra150), .unset, .unset, .unset, .unset, .unset]) X150 hx (hb hby at_100) rfl rfl rfl ?_
      refine own_iload (pc' := 104) X150 hx (hb hby at_102) rfl rfl ?_
      refine own_dload (pc' := 106) X150 hx (hb hby at_104) rfl rfl ?_
      refine own_dload (pc' := 108) X150 hx (hb hby at_106) rfl rfl ?_
      refine own_dload (pc' := 110) X150 hx (hb hby at_108) rfl rfl ?_
      refine own_dload (pc' := 112) X150 hx (hb hby at_110) rfl rfl ?_
      have f152 := (Nat.le_trans Z0 Kq150.1)
      refine own_callS (pc' := 115) (y := (⟨"com/example/mapwright/mapwright/ArcLoadsAddToPinLaw", "perOf", "(IDDDD)[D"⟩ : MethodName)) (W := 0) (rm := own_room2_2) (argsL := [(.int (2 : Int32)), (.double d34), (.double d35), (.double d36), (.double d37)]) (rest := []) X150 hx hZ rfl hown (by rw [hml]; rfl) (own_w5 hw) (own_w6 hw) (own_w2 hw) (own_w7 hw) (by decide) (own_rm2_2 lch Z a0 hw [] d34 d35 d36 d37 T150.heap n0 f152) (by decide) (by decide) (by decide) (by decide) (lenOf own_pd1 rfl) rfl (by exact Nat.le_of_eq rfl) (hb hby at_112) rfl ?_
      intro T153 Lc153 v153 X153 hQ153
      obtain ⟨ra153, rk153, rfl, Nq153, Kq153, G153_0, G153_1, G153_2⟩ := hQ153
      have N153 := Fr.app N150 Nq153
      have ge154 : n0 ≤ ra153 := Nat.le_trans f152 G153_0
      have ne155 : ra150 ≠ ra153 := Nat.ne_of_lt (Nat.lt_of_lt_of_le G150_1.lt G153_0)
      show own_Ends prg e below s _ _ _ T153 (mkF m 115 #[.val (.int p0), .val (.int p1), .val (.int p2), .val (.long q3), .second, .val (.int p4), .val (.int (2 : Int32)), .val (.int b32), .val (.int dd), .val (.double d34), .second, .val (.double d35), .second, .val (.double d36), .second, .val (.double d37), .second, .val (.double d38), .second, .val (.double d39), .second, .val (.double d40), .second, .val (.double d41), .second, .val (.ref ra150), .unset, .unset, .unset, .unset, .unset] [(.ref ra153)])
      refine own_astore (pc' := 117) (l' := #[.val (.int p0), .val (.int p1), .val (.int p2), .val (.long q3), .second, .val (.int p4), .val (.int (2 : Int32)), .val (.int b32), .val (.int dd), .val (.double d34), .second, .val (.double d35), .second, .val (.double d36), .second, .val (.double d37), .second, .val (.double d38), .second, .val (.double d39), .second, .val (.double d40), .second, .val (.double d41), .second, .val (.ref ra150), .val (.ref ra153), .unset, .unset, .unset, .unset]) X153 hx (hb hby at_115) rfl rfl rfl ?_
      obtain ⟨T156, h156, X156, e156, E156, A156, D156, -, st156⟩ := newO X153 hx hZ hown (own_w9 hw) (own_w10 hw) (own_w11 hw) rfl (g := (mkF m 117 #[.val (.int p0), .val (.int p1), .val (.int p2), .val (.long q3), .second, .val (.int p4), .val (.int (2 : Int32)), .val (.int b32), .val (.int dd), .val (.double d34), .second, .val (.double d35), .second, .val (.double d36), .second, .val (.double d37), .second, .val (.double d38), .second, .val (.double d39), .second, .val (.double d40), .second, .val (.double d41), .second, .val (.ref ra150), .val (.ref ra153), .unset, .unset, .unset, .unset] [])) rfl (hb hby at_117) (by decide) (by decide)
      refine own_go st156 ?_
      obtain ⟨a156, g156⟩ : ∃ z, z = T153.heap.size := ⟨_, rfl⟩
      rw [← g156] at A156 D156
      have f157 := (Nat.le_trans f152 Kq153.1)
      have ge158 : n0 ≤ a156 := by rw [g156]; exact f157
      have f159 := (G150_1.keep Kq153 nin0)
      have ne160 : ra150 ≠ a156 := Nat.ne_of_lt (by rw [g156]; exact f159.lt)
      have ne161 : ra153 ≠ a156 := Nat.ne_of_lt (by rw [g156]; exact G153_1.lt)
      have F162 : Fld Z h156 a156 "com/example/mapwright/mapwright/ArcLoads" "arcs" "[I" .null := D156 (Or.inr (own_w28 hw)) (ty := (.array .int)) (by decide)
      have F163 : Fld Z h156 a156 "com/example/mapwright/mapwright/ArcLoads" "perUnit" "[D" .null := D156 (Or.inr (own_w36 hw)) (ty := (.array .double)) (by decide)
      show own_Ends prg e below s _ _ _ T156 (mkF m 120 #[.val (.int p0), .val (.int p1), .val (.int p2), .val (.long q3), .second, .val (.int p4), .val (.int (2 : Int32)), .val (.int b32), .val (.int dd), .val (.double d34), .second, .val (.double d35), .second, .val (.double d36), .second, .val (.double d37), .second, .val (.double d38), .second, .val (.double d39), .second, .val (.double d40), .second, .val (.double d41), .second, .val (.ref ra150), .val (.ref ra153), .unset, .unset, .unset, .unset] [(.ref T153.heap.size)])
      rw [← g156]
      refine own_dup (pc' := 121) X156 hx (hb hby at_120) rfl rfl ?_
      refine own_aload (pc' := 123) X156 hx (hb hby at_121) rfl rfl rfl ?_
      refine own_aload (pc' := 125) X156 hx (hb hby at_123) rfl rfl rfl ?_
      have f164 := (f159.ext E156)
      have f165 := ((G150_2.keep Kq153).ext E156)
      have f166 := (G153_1.ext E156)
      have f167 := (G153_2.ext E156)
      have f168 := (Nat.le_trans f157 E156.1)
      refine own_callC (pc' := 128) (y := (⟨"com/example/mapwright/mapwright/ArcLoads", "<init>", "([I[D)V"⟩ : MethodName)) (W := 1) (rm := own_room3_2) (argsL := [(.ref ra150), (.ref ra153)]) (rest := [(.ref a156)]) (b := a156) X156 hx hZ e156 hown (by rw [hml]; rfl) rfl rfl (own_w12 hw) (own_w13 hw) (own_w11 hw) (own_w14 hw) (by decide) (own_rm3_2 lch Z a0 hw [] a156 ra150 ra153 rk150 rk153 (b32 &&& (3 : Int32)) ((b32 + dd) &&& (3 : Int32)) d34 d35 _ _ h156 n0 f168 A156 F162 F163 ge158 f164 f165 f166 f167 (Ne.symm ne160) (Ne.symm ne161) ne155) (by decide) (by decide) (by decide) (by decide) (lenOf own_pd2 rfl) rfl (by exact Nat.le_of_eq rfl) (hb hby at_125) rfl ?_
      intro T169 Lc169 v169 X169 hQ169
      obtain ⟨ca169, pa169, ck169, pk169, rfl, Nq169, Kq169, G169_0, G169_1, G169_2, G169_3, G169_4, G169_5, G169_6⟩ := hQ169
      have N169 := Fr.app N153 Nq169
      have ge170 : n0 ≤ ca169 := Nat.le_trans f168 G169_0
      have ne171 : ra150 ≠ ca169 := Nat.ne_of_lt (Nat.lt_of_lt_of_le f164.lt G169_0)
      have ne172 : ra153 ≠ ca169 := Nat.ne_of_lt (Nat.lt_of_lt_of_le f166.lt G169_0)
      have ne173 : a156 ≠ ca169 := Nat.ne_of_lt (Nat.lt_of_lt_of_le A156.lt G169_0)
      have ge174 : n0 ≤ pa169 := Nat.le_trans f168 G169_1
      have ne175 : ra150 ≠ pa169 := Nat.ne_of_lt (Nat.lt_of_lt_of_le f164.lt G169_1)
      have ne176 : ra153 ≠ pa169 := Nat.ne_of_lt (Nat.lt_of_lt_of_le f166.lt G169_1)
      have ne177 : a156 ≠ pa169 := Nat.ne_of_lt (Nat.lt_of_lt_of_le A156.lt G169_1)
      show own_Ends prg e below s _ _ _ T169 (mkF m 128 #[.val (.int p0), .val (.int p1), .val (.int p2), .val (.long q3), .second, .val (.int p4), .val (.int (2 : Int32)), .val (.int b32), .val (.int dd), .val (.double d34), .second, .val (.double d35), .second, .val (.double d36), .second, .val (.double d37), .second, .val (.double d38), .second, .val (.double d39), .second, .val (.double d40), .second, .val (.double d41), .second, .val (.ref ra150), .val (.ref ra153), .unset, .unset, .unset, .unset] [(.ref a156)])
      refine own_astore (pc' := 130) (l' := #[.val (.int p0), .val (.int p1), .val (.int p2), .val (.long q3), .second, .val (.int p4), .val (.int (2 : Int32)), .val (.int b32), .val (.int dd), .val (.double d34), .second, .val (.double d35), .second, .val (.double d36), .second, .val (.double d37), .second, .val (.double d38), .second, .val (.double d39), .second, .val (.double d40), .second, .val (.double d41), .second, .val (.ref ra150), .val (.ref ra153), .val (.ref a156), .unset, .unset, .unset]) X169 hx (hb hby at_128) rfl rfl rfl ?_
      refine own_iconst (pc' := 131) (z := (4 : Int32)) X169 hx (hb hby at_130) rfl rfl ?_
      refine own_newarr (pc' := 133) (aty := .double) X169 hx hZ (own_w8 hw) rfl (hb hby at_131) rfl (by decide) 4 4 (by decide) (by decide) (by decide) (by decide) ?_
      intro T178 h178 a178 k178 X178 e178 E178 g178 V178
      replace V178 : Arv Z h178 a178 k178 .double (4 : Int32) [(.double 0), (.double 0), (.double 0), (.double 0)] (.double 0) := V178
      have f179 := (Nat.le_trans f168 Kq169.1)
      have ge180 : n0 ≤ a178 := by rw [g178]; exact f179
      have f181 := (f164.keep Kq169 (ninS ne160 nin0))
      have ne182 : ra150 ≠ a178 := Nat.ne_of_lt (by rw [g178]; exact f181.lt)
      have f183 := (f166.keep Kq169 (ninS ne161 nin0))
      have ne184 : ra153 ≠ a178 := Nat.ne_of_lt (by rw [g178]; exact f183.lt)
      have f185 := (A156.keep Kq169)
      have ne186 : a156 ≠ a178 := Nat.ne_of_lt (by rw [g178]; exact f185.lt)
      have ne187 : ca169 ≠ a178 := Nat.ne_of_lt (by rw [g178]; exact G169_5.lt)
      have ne188 : pa169 ≠ a178 := Nat.ne_of_lt (by rw [g178]; exact G169_6.lt)
      show own_Ends prg e below s _ _ _ T178 (mkF m 133 #[.val (.int p0), .val (.int p1), .val (.int p2), .val (.long q3), .second, .val (.int p4), .val (.int (2 : Int32)), .val (.int b32), .val (.int dd), .val (.double d34), .second, .val (.double d35), .second, .val (.double d36), .second, .val (.double d37), .second, .val (.double d38), .second, .val (.double d39), .second, .val (.double d40), .second, .val (.double d41), .second, .val (.ref ra150), .val (.ref ra153), .val (.ref a156), .unset, .unset, .unset] [(.ref a178)])
      refine own_astore (pc' := 135) (l' := #[.val (.int p0), .val (.int p1), .val (.int p2), .val (.long q3), .second, .val (.int p4), .val (.int (2 : Int32)), .val (.int b32), .val (.int dd), .val (.double d34), .second, .val (.double d35), .second, .val (.double d36), .second, .val (.double d37), .second, .val (.double d38), .second, .val (.double d39), .second, .val (.double d40), .second, .val (.double d41), .second, .val (.ref ra150), .val (.ref ra153), .val (.ref a156), .val (.ref a178), .unset, .unset]) X178 hx (hb hby at_133) rfl rfl rfl ?_
      refine own_aload (pc' := 137) X178 hx (hb hby at_135) rfl rfl rfl ?_
      refine own_iconst (pc' := 138) (z := (0 : Int32)) X178 hx (hb hby at_137) rfl rfl ?_
      refine own_dload (pc' := 140) X178 hx (hb hby at_138) rfl rfl ?_
      refine own_dastore (pc' := 141) X178 hx hZ e178 V178 (hb hby at_140) rfl (by decide) 0 rfl (by simp) N169 ge180 ?_
      intro T189 h189 L189 X189 e189 N189 W189 V189
      replace V189 : Arv Z h189 a178 k178 .double (4 : Int32) [(.double d38), (.double 0), (.double 0), (.double 0)] (.double 0) := V189
      show own_Ends prg e below s _ _ _ T189 (mkF m 141 #[.val (.int p0), .val (.int p1), .val (.int p2), .val (.long q3), .second, .val (.int p4), .val (.int (2 : Int32)), .val (.int b32), .val (.int dd), .val (.double d34), .second, .val (.double d35), .second, .val (.double d36), .second, .val (.double d37), .second, .val (.double d38), .second, .val (.double d39), .second, .val (.double d40), .second, .val (.double d41), .second, .val (.ref ra150), .val (.ref ra153), .val (.ref a156), .val (.ref a178), .unset, .unset] [])
      refine own_aload (pc' := 143) X189 hx (hb hby at_141) rfl rfl rfl ?_
      refine own_iconst (pc' := 144) (z := (1 : Int32)) X189 hx (hb hby at_143) rfl rfl ?_
      refine own_dload (pc' := 146) X189 hx (hb hby at_144) rfl rfl ?_
      refine own_dastore (pc' := 147) X189 hx hZ e189 V189 (hb hby at_146) rfl (by decide) 1 rfl (by simp) N189 ge180 ?_
      intro T190 h190 L190 X190 e190 N190 W190 V190
      replace V190 : Arv Z h190 a178 k178 .double (4 : Int32) [(.double d38), (.double d39), (.double 0), (.double 0)] (.double 0) := V190
      show own_Ends prg e below s _ _ _ T190 (mkF m 147 #[.val (.int p0), .val (.int p1), .val (.int p2), .val (.long q3), .second, .val (.int p4), .val (.int (2 : Int32)), .val (.int b32), .val (.int dd), .val (.double d34), .second, .val (.double d35), .second, .val (.double d36), .second, .val (.double d37), .second, .val (.double d38), .second, .val (.double d39), .second, .val (.double d40), .second, .val (.double d41), .second, .val (.ref ra150), .val (.ref ra153), .val (.ref a156), .val (.ref a178), .unset, .unset] [])
      refine own_aload (pc' := 149) X190 hx (hb hby at_147) rfl rfl rfl ?_
      refine own_iconst (pc' := 150) (z := (2 : Int32)) X190 hx (hb hby at_149) rfl rfl ?_
      refine own_dload (pc' := 152) X190 hx (hb hby at_150) rfl rfl ?_
      refine own_dastore (pc' := 153) X190 hx hZ e190 V190 (hb hby at_152) rfl (by decide) 2 rfl (by simp) N190 ge180 ?_
      intro T191 h191 L191 X191 e191 N191 W191 V191
      replace V191 : Arv Z h191 a178 k178 .double (4 : Int32) [(.double d38), (.double d39), (.double d40), (.double 0)] (.double 0) := V191
      show own_Ends prg e below s _ _ _ T191 (mkF m 153 #[.val (.int p0), .val (.int p1), .val (.int p2), .val (.long q3), .second, .val (.int p4), .val (.int (2 : Int32)), .val (.int b32), .val (.int dd), .val (.double d34), .second, .val (.double d35), .second, .val (.double d36), .second, .val (.double d37), .second, .val (.double d38), .second, .val (.double d39), .second, .val (.double d40), .second, .val (.double d41), .second, .val (.ref ra150), .val (.ref ra153), .val (.ref a156), .val (.ref a178), .unset, .unset] [])
      refine own_aload (pc' := 155) X191 hx (hb hby at_153) rfl rfl rfl ?_
      refine own_iconst (pc' := 156) (z := (3 : Int32)) X191 hx (hb hby at_155) rfl rfl ?_
      refine own_dload (pc' := 158) X191 hx (hb hby at_156) rfl rfl ?_
      refine own_dastore (pc' := 159) X191 hx hZ e191 V191 (hb hby at_158) rfl (by decide) 3 rfl (by simp) N191 ge180 ?_
      intro T192 h192 L192 X192 e192 N192 W192 V192
      replace V192 : Arv Z h192 a178 k178 .double (4 : Int32) [(.double d38), (.double d39), (.double d40), (.double d41)] (.double 0) := V192
      show own_Ends prg e below s _ _ _ T192 (mkF m 159 #[.val (.int p0), .val (.int p1), .val (.int p2), .val (.long q3), .second, .val (.int p4), .val (.int (2 : Int32)), .val (.int b32), .val (.int dd), .val (.double d34), .second, .val (.double d35), .second, .val (.double d36), .second, .val (.double d37), .second, .val (.double d38), .second, .val (.double d39), .second, .val (.double d40), .second, .val (.double d41), .second, .val (.ref ra150), .val (.ref ra153), .val (.ref a156), .val (.ref a178), .unset, .unset] [])
      refine own_iloadN (pc' := 160) X192 hx (hb hby at_159) rfl rfl ?_
      obtain ⟨d193, hd193⟩ : ∃ z, (FP.i2d p2) = z := ⟨_, rfl⟩
      refine own_i2d (pc' := 161) (z := d193) X192 hx (hb hby at_160) rfl hd193 ?_
      refine own_dstore (pc' := 163) (l' := #[.val (.int p0), .val (.int p1), .val (.int p2), .val (.long q3), .second, .val (.int p4), .val (.int (2 : Int32)), .val (.int b32), .val (.int dd), .val (.double d34), .second, .val (.double d35), .second, .val (.double d36), .second, .val (.double d37), .second, .val (.double d38), .second, .val (.double d39), .second, .val (.double d40), .second, .val (.double d41), .second, .val (.ref ra150), .val (.ref ra153), .val (.ref a156), .val (.ref a178), .val (.double d193), .second]) X192 hx (hb hby at_161) rfl rfl ?_
      have fd193 : Jvm.Free.Fl.Fin64 d193 := by rw [← hd193]; exact Jvm.Free.Fl.i2d_fin _
      refine own_aload (pc' := 165) X192 hx (hb hby at_163) rfl rfl rfl ?_
      refine own_aload (pc' := 167) X192 hx (hb hby at_165) rfl rfl rfl ?_
      refine own_dload (pc' := 169) X192 hx (hb hby at_167) rfl rfl ?_
      have f194 := (((((G169_3.ext E178).other W189 (Or.inl ne186)).other W190 (Or.inl ne186)).other W191 (Or.inl ne186)).other W192 (Or.inl ne186))
      have f195 := (((((G169_4.ext E178).other W189 (Or.inl ne186)).other W190 (Or.inl ne186)).other W191 (Or.inl ne186)).other W192 (Or.inl ne186))
      have f196 := (((((G169_5.ext E178).other W189 ne187).other W190 ne187).other W191 ne187).other W192 ne187)
      have f197 := (((((G169_6.ext E178).other W189 ne188).other W190 ne188).other W191 ne188).other W192 ne188)
      have f199 := (((((f185.ext E178).wr W189).wr W190).wr W191).wr W192)
      refine own_callV (pc' := 172) (y := (⟨"com/example/mapwright/mapwright/ArcLoads", "addTo", "([DD)V"⟩ : MethodName)) (W := 0) (rm := own_room5_2) (argsL := [(.ref a178), (.double d193)]) (rest := []) (b := a156) (C := "com/example/mapwright/mapwright/ArcLoads") X192 hx hZ e192 hown (by rw [hml]; rfl) f199 (own_w37 hw) (own_w38 hw) (own_w40 hw) (own_w39 hw) (own_w11 hw) (own_w41 hw) (by decide) (own_rm5_2 lch Z a0 hw [] a156 a178 d193 ca169 pa169 ck169 pk169 k178 b32 dd d38 d39 d40 d41 d34 d35 d36 d37 h192 n0 f194 f195 f196 f197 V192 ge180 ne186 ne187 ne188 hbd fd193 fd38 fd39 fd40 fd41 fd34 fd35 fd36 fd37) (by decide) (by decide) (by decide) (by decide) (lenOf own_pd3 rfl) rfl (by exact Nat.le_of_eq rfl) (hb hby at_169) rfl ?_
      intro T198 Lc198 v198 X198 hQ198
      obtain ⟨rfl, Nq198, Kq198, G198_0⟩ := hQ198
      have N198 := Fr.app N192 Nq198
      show own_Ends prg e below s _ _ _ T198 (mkF m 172 #[.val (.int p0), .val (.int p1), .val (.int p2), .val (.long q3), .second, .val (.int p4), .val (.int (2 : Int32)), .val (.int b32), .val (.int dd), .val (.double d34), .second, .val (.double d35), .second, .val (.double d36), .second, .val (.double d37), .second, .val (.double d38), .second, .val (.double d39), .second, .val (.double d40), .second, .val (.double d41), .second, .val (.ref ra150), .val (.ref ra153), .val (.ref a156), .val (.ref a178), .val (.double d193), .second] [])
      refine own_aload (pc' := 174) X198 hx (hb hby at_172) rfl rfl rfl ?_
      refine own_iconst (pc' := 175) (z := (0 : Int32)) X198 hx (hb hby at_174) rfl rfl ?_
      refine own_daload (pc' := 176) (v := (.double (own_exp 0 b32 dd 2 d38 d193 d34 d35 d36 d37))) X198 hx hZ rfl G198_0 (hb hby at_175) rfl (by decide) rfl ?_
      refine own_iconst (pc' := 177) (z := (0 : Int32)) X198 hx (hb hby at_176) rfl rfl ?_
      refine own_iload (pc' := 179) X198 hx (hb hby at_177) rfl rfl ?_
      refine own_iload (pc' := 181) X198 hx (hb hby at_179) rfl rfl ?_
      refine own_iload (pc' := 183) X198 hx (hb hby at_181) rfl rfl ?_
      refine own_dload (pc' := 185) X198 hx (hb hby at_183) rfl rfl ?_
      refine own_dload (pc' := 187) X198 hx (hb hby at_185) rfl rfl ?_
      refine own_dload (pc' := 189) X198 hx (hb hby at_187) rfl rfl ?_
      refine own_dload (pc' := 191) X198 hx (hb hby at_189) rfl rfl ?_
      refine own_dload (pc' := 193) X198 hx (hb hby at_191) rfl rfl ?_
      refine own_dload (pc' := 195) X198 hx (hb hby at_193) rfl rfl ?_
      refine own_callS (pc' := 198) (y := (⟨"com/example/mapwright/mapwright/ArcLoadsAddToPinLaw", "expected", "(IIIIDDDDDD)D"⟩ : MethodName)) (W := 2) (rm := own_room6) (argsL := [(.int (0 : Int32)), (.int b32), (.int dd), (.int (2 : Int32)), (.double d38), (.double d193), (.double d34), (.double d35), (.double d36), (.double d37)]) (rest := [(.double (own_exp 0 b32 dd 2 d38 d193 d34 d35 d36 d37))]) X198 hx hZ rfl hown (by rw [hml]; rfl) (own_w42 hw) (own_w43 hw) (own_w2 hw) (own_w44 hw) (by decide) (own_rm6 lch Z a0 hw [] (0 : Int32) b32 dd (2 : Int32) d38 d193 d34 d35 d36 d37 T198.heap n0 fd38 fd193 fd34 fd35 fd36 fd37) (by decide) (by decide) (by decide) (by decide) (lenOf own_pd4 rfl) rfl (by exact Nat.le_of_eq rfl) (hb hby at_195) rfl ?_
      intro T200 Lc200 v200 X200 hQ200
      obtain ⟨rfl, Nq200, Kq200⟩ := hQ200
      have N200 := Fr.app N198 Nq200
      show own_Ends prg e below s _ _ _ T200 (mkF m 198 #[.val (.int p0), .val (.int p1), .val (.int p2), .val (.long q3), .second, .val (.int p4), .val (.int (2 : Int32)), .val (.int b32), .val (.int dd), .val (.double d34), .second, .val (.double d35), .second, .val (.double d36), .second, .val (.double d37), .second, .val (.double d38), .second, .val (.double d39), .second, .val (.double d40), .second, .val (.double d41), .second, .val (.ref ra150), .val (.ref ra153), .val (.ref a156), .val (.ref a178), .val (.double d193), .second] [(.double (own_exp 0 b32 dd 2 d38 d193 d34 d35 d36 d37)), (.double (own_exp 0 b32 dd 2 d38 d193 d34 d35 d36 d37))])
      refine own_dcmp (pc' := 199) (z := (0 : Int32)) X200 hx (hb hby at_198) rfl (dcmpV_self (own_exp_nn fd38 fd193 fd34 fd35 fd36 fd37) _) ?_
      refine own_ifNo (pc' := 202) X200 hx (hb hby at_199) rfl (teq (by decide)).2 ?_
      refine own_aload (pc' := 204) X200 hx (hb hby at_202) rfl rfl rfl ?_
      refine own_iconst (pc' := 205) (z := (1 : Int32)) X200 hx (hb hby at_204) rfl rfl ?_
      refine own_daload (pc' := 206) (v := (.double (own_exp 1 b32 dd 2 d39 d193 d34 d35 d36 d37))) X200 hx hZ Kq200 G198_0 (hb hby at_205) rfl (by decide) rfl ?_
      refine own_iconst (pc' := 207) (z := (1 : Int32)) X200 hx (hb hby at_206) rfl rfl ?_
      refine own_iload (pc' := 209) X200 hx (hb hby at_207) rfl rfl ?_
      refine own_iload (pc' := 211) X200 hx (hb hby at_209) rfl rfl ?_
      refine own_iload (pc' := 213) X200 hx (hb hby at_211) rfl rfl ?_
      refine own_dload (pc' := 215) X200 hx (hb hby at_213) rfl rfl ?_
      refine own_dload (pc' := 217) X200 hx (hb hby at_215) rfl rfl ?_
      refine own_dload (pc' := 219) X200 hx (hb hby at_217) rfl rfl ?_
      refine own_dload (pc' := 221) X200 hx (hb hby at_219) rfl rfl ?_
      refine own_dload (pc' := 223) X200 hx (hb hby at_221) rfl rfl ?_
      refine own_dload (pc' := 225) X200 hx (hb hby at_223) rfl rfl ?_
      refine own_callS (pc' := 228) (y := (⟨"com/example/mapwright/mapwright/ArcLoadsAddToPinLaw", "expected", "(IIIIDDDDDD)D"⟩ : MethodName)) (W := 2) (rm := own_room6) (argsL := [(.int (1 : Int32)), (.int b32), (.int dd), (.int (2 : Int32)), (.double d39), (.double d193), (.double d34), (.double d35), (.double d36), (.double d37)]) (rest := [(.double (own_exp 1 b32 dd 2 d39 d193 d34 d35 d36 d37))]) X200 hx hZ Kq200 hown (by rw [hml]; rfl) (own_w42 hw) (own_w43 hw) (own_w2 hw) (own_w44 hw) (by decide) (own_rm6 lch Z a0 hw [] (1 : Int32) b32 dd (2 : Int32) d39 d193 d34 d35 d36 d37 T198.heap n0 fd39 fd193 fd34 fd35 fd36 fd37) (by decide) (by decide) (by decide) (by decide) (lenOf own_pd4 rfl) rfl (by exact Nat.le_of_eq rfl) (hb hby at_225) rfl ?_
      intro T201 Lc201 v201 X201 hQ201
      obtain ⟨rfl, Nq201, Kq201⟩ := hQ201
      have N201 := Fr.app N200 Nq201
      show own_Ends prg e below s _ _ _ T201 (mkF m 228 #[.val (.int p0), .val (.int p1), .val (.int p2), .val (.long q3), .second, .val (.int p4), .val (.int (2 : Int32)), .val (.int b32), .val (.int dd), .val (.double d34), .second, .val (.double d35), .second, .val (.double d36), .second, .val (.double d37), .second, .val (.double d38), .second, .val (.double d39), .second, .val (.double d40), .second, .val (.double d41), .second, .val (.ref ra150), .val (.ref ra153), .val (.ref a156), .val (.ref a178), .val (.double d193), .second] [(.double (own_exp 1 b32 dd 2 d39 d193 d34 d35 d36 d37)), (.double (own_exp 1 b32 dd 2 d39 d193 d34 d35 d36 d37))])
      refine own_dcmp (pc' := 229) (z := (0 : Int32)) X201 hx (hb hby at_228) rfl (dcmpV_self (own_exp_nn fd39 fd193 fd34 fd35 fd36 fd37) _) ?_
      refine own_ifNo (pc' := 232) X201 hx (hb hby at_229) rfl (teq (by decide)).2 ?_
      refine own_aload (pc' := 234) X201 hx (hb hby at_232) rfl rfl rfl ?_
      refine own_iconst (pc' := 235) (z := (2 : Int32)) X201 hx (hb hby at_234) rfl rfl ?_
      refine own_daload (pc' := 236) (v := (.double (own_exp 2 b32 dd 2 d40 d193 d34 d35 d36 d37))) X201 hx hZ Kq201 G198_0 (hb hby at_235) rfl (by decide) rfl ?_
      refine own_iconst (pc' := 237) (z := (2 : Int32)) X201 hx (hb hby at_236) rfl rfl ?_
      refine own_iload (pc' := 239) X201 hx (hb hby at_237) rfl rfl ?_
      refine own_iload (pc' := 241) X201 hx (hb hby at_239) rfl rfl ?_
      refine own_iload (pc' := 243) X201 hx (hb hby at_241) rfl rfl ?_
      refine own_dload (pc' := 245) X201 hx (hb hby at_243) rfl rfl ?_
      refine own_dload (pc' := 247) X201 hx (hb hby at_245) rfl rfl ?_
      refine own_dload (pc' := 249) X201 hx (hb hby at_247) rfl rfl ?_
      refine own_dload (pc' := 251) X201 hx (hb hby at_249) rfl rfl ?_
      refine own_dload (pc' := 253) X201 hx (hb hby at_251) rfl rfl ?_
      refine own_dload (pc' := 255) X201 hx (hb hby at_253) rfl rfl ?_
      refine own_callS (pc' := 258) (y := (⟨"com/example/mapwright/mapwright/ArcLoadsAddToPinLaw", "expected", "(IIIIDDDDDD)D"⟩ : MethodName)) (W := 2) (rm := own_room6) (argsL := [(.int (2 : Int32)), (.int b32), (.int dd), (.int (2 : Int32)), (.double d40), (.double d193), (.double d34), (.double d35), (.double d36), (.double d37)]) (rest := [(.double (own_exp 2 b32 dd 2 d40 d193 d34 d35 d36 d37))]) X201 hx hZ Kq201 hown (by rw [hml]; rfl) (own_w42 hw) (own_w43 hw) (own_w2 hw) (own_w44 hw) (by decide) (own_rm6 lch Z a0 hw [] (2 : Int32) b32 dd (2 : Int32) d40 d193 d34 d35 d36 d37 T198.heap n0 fd40 fd193 fd34 fd35 fd36 fd37) (by decide) (by decide) (by decide) (by decide) (lenOf own_pd4 rfl) rfl (by exact Nat.le_of_eq rfl) (hb hby at_255) rfl ?_
      intro T202 Lc202 v202 X202 hQ202
      obtain ⟨rfl, Nq202, Kq202⟩ := hQ202
      have N202 := Fr.app N201 Nq202
      show own_Ends prg e below s _ _ _ T202 (mkF m 258 #[.val (.int p0), .val (.int p1), .val (.int p2), .val (.long q3), .second, .val (.int p4), .val (.int (2 : Int32)), .val (.int b32), .val (.int dd), .val (.double d34), .second, .val (.double d35), .second, .val (.double d36), .second, .val (.double d37), .second, .val (.double d38), .second, .val (.double d39), .second, .val (.double d40), .second, .val (.double d41), .second, .val (.ref ra150), .val (.ref ra153), .val (.ref a156), .val (.ref a178), .val (.double d193), .second] [(.double (own_exp 2 b32 dd 2 d40 d193 d34 d35 d36 d37)), (.double (own_exp 2 b32 dd 2 d40 d193 d34 d35 d36 d37))])
      refine own_dcmp (pc' := 259) (z := (0 : Int32)) X202 hx (hb hby at_258) rfl (dcmpV_self (own_exp_nn fd40 fd193 fd34 fd35 fd36 fd37) _) ?_
      refine own_ifNo (pc' := 262) X202 hx (hb hby at_259) rfl (teq (by decide)).2 ?_
      refine own_aload (pc' := 264) X202 hx (hb hby at_262) rfl rfl rfl ?_
      refine own_iconst (pc' := 265) (z := (3 : Int32)) X202 hx (hb hby at_264) rfl rfl ?_
      refine own_daload (pc' := 266) (v := (.double (own_exp 3 b32 dd 2 d41 d193 d34 d35 d36 d37))) X202 hx hZ Kq202 G198_0 (hb hby at_265) rfl (by decide) rfl ?_
      refine own_iconst (pc' := 267) (z := (3 : Int32)) X202 hx (hb hby at_266) rfl rfl ?_
      refine own_iload (pc' := 269) X202 hx (hb hby at_267) rfl rfl ?_
      refine own_iload (pc' := 271) X202 hx (hb hby at_269) rfl rfl ?_
      refine own_iload (pc' := 273) X202 hx (hb hby at_271) rfl rfl ?_
      refine own_dload (pc' := 275) X202 hx (hb hby at_273) rfl rfl ?_
      refine own_dload (pc' := 277) X202 hx (hb hby at_275) rfl rfl ?_
      refine own_dload (pc' := 279) X202 hx (hb hby at_277) rfl rfl ?_
      refine own_dload (pc' := 281) X202 hx (hb hby at_279) rfl rfl ?_
      refine own_dload (pc' := 283) X202 hx (hb hby at_281) rfl rfl ?_
      refine own_dload (pc' := 285) X202 hx (hb hby at_283) rfl rfl ?_
      refine own_callS (pc' := 288) (y := (⟨"com/example/mapwright/mapwright/ArcLoadsAddToPinLaw", "expected", "(IIIIDDDDDD)D"⟩ : MethodName)) (W := 2) (rm := own_room6) (argsL := [(.int (3 : Int32)), (.int b32), (.int dd), (.int (2 : Int32)), (.double d41), (.double d193), (.double d34), (.double d35), (.double d36), (.double d37)]) (rest := [(.double (own_exp 3 b32 dd 2 d41 d193 d34 d35 d36 d37))]) X202 hx hZ Kq202 hown (by rw [hml]; rfl) (own_w42 hw) (own_w43 hw) (own_w2 hw) (own_w44 hw) (by decide) (own_rm6 lch Z a0 hw [] (3 : Int32) b32 dd (2 : Int32) d41 d193 d34 d35 d36 d37 T198.heap n0 fd41 fd193 fd34 fd35 fd36 fd37) (by decide) (by decide) (by decide) (by decide) (lenOf own_pd4 rfl) rfl (by exact Nat.le_of_eq rfl) (hb hby at_285) rfl ?_
      intro T203 Lc203 v203 X203 hQ203
      obtain ⟨rfl, Nq203, Kq203⟩ := hQ203
      have N203 := Fr.app N202 Nq203
      show own_Ends prg e below s _ _ _ T203 (mkF m 288 #[.val (.int p0), .val (.int p1), .val (.int p2), .val (.long q3), .second, .val (.int p4), .val (.int (2 : Int32)), .val (.int b32), .val (.int dd), .val (.double d34), .second, .val (.double d35), .second, .val (.double d36), .second, .val (.double d37), .second, .val (.double d38), .second, .val (.double d39), .second, .val (.double d40), .second, .val (.double d41), .second, .val (.ref ra150), .val (.ref ra153), .val (.ref a156), .val (.ref a178), .val (.double d193), .second] [(.double (own_exp 3 b32 dd 2 d41 d193 d34 d35 d36 d37)), (.double (own_exp 3 b32 dd 2 d41 d193 d34 d35 d36 d37))])
      refine own_dcmp (pc' := 289) (z := (0 : Int32)) X203 hx (hb hby at_288) rfl (dcmpV_self (own_exp_nn fd41 fd193 fd34 fd35 fd36 fd37) _) ?_
      refine own_ifNo (pc' := 292) X203 hx (hb hby at_289) rfl (teq (by decide)).2 ?_
      refine own_iconst (pc' := 293) (z := (1 : Int32)) X203 hx (hb hby at_292) rfl rfl ?_
      refine own_goto (pc' := 297) X203 hx (hb hby at_293) (by decide) (by decide) ?_
      refine own_retN X203 hx hlk hret (by simp) (hb hby at_297) (by decide) (by decide) ?_
      exact ⟨rfl, N203⟩
    · refine own_iload (pc' := 93) X0 hx (hb hby at_91) rfl rfl ?_
      refine own_iload (pc' := 95) X0 hx (hb hby at_93) rfl rfl ?_
      refine own_iload (pc' := 97) X0 hx (hb hby at_95) rfl rfl ?_
      refine own_callS (pc' := 100) (y := (⟨"com/example/mapwright/mapwright/ArcLoadsAddToPinLaw", "arcsOf", "(III)[I"⟩ : MethodName)) (W := 0) (rm := own_room1_3) (argsL := [(.int (3 : Int32)), (.int b32), (.int dd)]) (rest := []) X0 hx hZ e0 hown (by rw [hml]; rfl) (own_w0 hw) (own_w1 hw) (own_w2 hw) (own_w3 hw) (by decide) (own_rm1_3 lch Z a0 hw [] b32 dd h0 n0 Z0) (by decide) (by decide) (by decide) (by decide) (lenOf own_pd0 rfl) rfl (by exact Nat.le_of_eq rfl) (hb hby at_97) rfl ?_
      intro T204 Lc204 v204 X204 hQ204
      obtain ⟨ra204, rk204, rfl, Nq204, Kq204, G204_0, G204_1, G204_2⟩ := hQ204
      have N204 := Fr.app N0 Nq204
      have ge205 : n0 ≤ ra204 := Nat.le_trans Z0 G204_0
      show own_Ends prg e below s _ _ _ T204 (mkF m 100 #[.val (.int p0), .val (.int p1), .val (.int p2), .val (.long q3), .second, .val (.int p4), .val (.int (3 : Int32)), .val (.int b32), .val (.int dd), .val (.double d34), .second, .val (.double d35), .second, .val (.double d36), .second, .val (.double d37), .second, .val (.double d38), .second, .val (.double d39), .second, .val (.double d40), .second, .val (.double d41), .second, .unset, .unset, .unset, .unset, .unset, .unset] [(.ref ra204)])
      refine own_astore (pc' := 102) (l' := #[.val (.int p0), .val (.int p1), .val (.int p2), .val (.long q3), .second, .val (.int p4), .val (.int (3 : Int32)), .val (.int b32), .val (.int dd), .val (.double d34), .second, .val (.double d35), .second, .val (.double d36), .second, .val (.double d37), .second, .val (.double d38), .second, .val (.double d39), .second, .val (.double d40), .second, .val (.double d41), .second, .val (.ref ra204), .unset, .unset, .unset, .unset, .unset]) X204 hx (hb hby at_100) rfl rfl rfl ?_
      refine own_iload (pc' := 104) X204 hx (hb hby at_102) rfl rfl ?_
      refine own_dload (pc' := 106) X204 hx (hb hby at_104) rfl rfl ?_
      refine own_dload (pc' := 108) X204 hx (hb hby at_106) rfl rfl ?_
      refine own_dload (pc' := 110) X204 hx (hb hby at_108) rfl rfl ?_
      refine own_dload (pc' := 112) X204 hx (hb hby at_110) rfl rfl ?_
      have f206 := (Nat.le_trans Z0 Kq204.1)
      refine own_callS (pc' := 115) (y := (⟨"com/example/mapwright/mapwright/ArcLoadsAddToPinLaw", "perOf", "(IDDDD)[D"⟩ : MethodName)) (W := 0) (rm := own_room2_3) (argsL := [(.int (3 : Int32)), (.double d34), (.double d35), (.double d36), (.double d37)]) (rest := []) X204 hx hZ rfl hown (by rw [hml]; rfl) (own_w5 hw) (own_w6 hw) (own_w2 hw) (own_w7 hw) (by decide) (own_rm2_3 lch Z a0 hw [] d34 d35 d36 d37 T204.heap n0 f206) (by decide) (by decide) (by decide) (by decide) (lenOf own_pd1 rfl) rfl (by exact Nat.le_of_eq rfl) (hb hby at_112) rfl ?_
      intro T207 Lc207 v207 X207 hQ207
      obtain ⟨ra207, rk207, rfl, Nq207, Kq207, G207_0, G207_1, G207_2⟩ := hQ207
      have N207 := Fr.app N204 Nq207
      have ge208 : n0 ≤ ra207 := Nat.le_trans f206 G207_0
      have ne209 : ra204 ≠ ra207 := Nat.ne_of_lt (Nat.lt_of_lt_of_le G204_1.lt G207_0)
      show own_Ends prg e below s _ _ _ T207 (mkF m 115 #[.val (.int p0), .val (.int p1), .val (.int p2), .val (.long q3), .second, .val (.int p4), .val (.int (3 : Int32)), .val (.int b32), .val (.int dd), .val (.double d34), .second, .val (.double d35), .second, .val (.double d36), .second, .val (.double d37), .second, .val (.double d38), .second, .val (.double d39), .second, .val (.double d40), .second, .val (.double d41), .second, .val (.ref ra204), .unset, .unset, .unset, .unset, .unset] [(.ref ra207)])
      refine own_astore (pc' := 117) (l' := #[.val (.int p0), .val (.int p1), .val (.int p2), .val (.long q3), .second, .val (.int p4), .val (.int (3 : Int32)), .val (.int b32), .val (.int dd), .val (.double d34), .second, .val (.double d35), .second, .val (.double d36), .second, .val (.double d37), .second, .val (.double d38), .second, .val (.double d39), .second, .val (.double d40), .second, .val (.double d41), .second, .val (.ref ra204), .val (.ref ra207), .unset, .unset, .unset, .unset]) X207 hx (hb hby at_115) rfl rfl rfl ?_
      obtain ⟨T210, h210, X210, e210, E210, A210, D210, -, st210⟩ := newO X207 hx hZ hown (own_w9 hw) (own_w10 hw) (own_w11 hw) rfl (g := (mkF m 117 #[.val (.int p0), .val (.int p1), .val (.int p2), .val (.long q3), .second, .val (.int p4), .val (.int (3 : Int32)), .val (.int b32), .val (.int dd), .val (.double d34), .second, .val (.double d35), .second, .val (.double d36), .second, .val (.double d37), .second, .val (.double d38), .second, .val (.double d39), .second, .val (.double d40), .second, .val (.double d41), .second, .val (.ref ra204), .val (.ref ra207), .unset, .unset, .unset, .unset] [])) rfl (hb hby at_117) (by decide) (by decide)
      refine own_go st210 ?_
      obtain ⟨a210, g210⟩ : ∃ z, z = T207.heap.size := ⟨_, rfl⟩
      rw [← g210] at A210 D210
      have f211 := (Nat.le_trans f206 Kq207.1)
      have ge212 : n0 ≤ a210 := by rw [g210]; exact f211
      have f213 := (G204_1.keep Kq207 nin0)
      have ne214 : ra204 ≠ a210 := Nat.ne_of_lt (by rw [g210]; exact f213.lt)
      have ne215 : ra207 ≠ a210 := Nat.ne_of_lt (by rw [g210]; exact G207_1.lt)
      have F216 : Fld Z h210 a210 "com/example/mapwright/mapwright/ArcLoads" "arcs" "[I" .null := D210 (Or.inr (own_w28 hw)) (ty := (.array .int)) (by decide)
      have F217 : Fld Z h210 a210 "com/example/mapwright/mapwright/ArcLoads" "perUnit" "[D" .null := D210 (Or.inr (own_w36 hw)) (ty := (.array .double)) (by decide)
      show own_Ends prg e below s _ _ _ T210 (mkF m 120 #[.val (.int p0), .val (.int p1), .val (.int p2), .val (.long q3), .second, .val (.int p4), .val (.int (3 : Int32)), .val (.int b32), .val (.int dd), .val (.double d34), .second, .val (.double d35), .second, .val (.double d36), .second, .val (.double d37), .second, .val (.double d38), .second, .val (.double d39), .second, .val (.double d40), .second, .val (.double d41), .second, .val (.ref ra204), .val (.ref ra207), .unset, .unset, .unset, .unset] [(.ref T207.heap.size)])
      rw [← g210]
      refine own_dup (pc' := 121) X210 hx (hb hby at_120) rfl rfl ?_
      refine own_aload (pc' := 123) X210 hx (hb hby at_121) rfl rfl rfl ?_
      refine own_aload (pc' := 125) X210 hx (hb hby at_123) rfl rfl rfl ?_
      have f218 := (f213.ext E210)
      have f219 := ((G204_2.keep Kq207).ext E210)
      have f220 := (G207_1.ext E210)
      have f221 := (G207_2.ext E210)
      have f222 := (Nat.le_trans f211 E210.1)
      refine own_callC (pc' := 128) (y := (⟨"com/example/mapwright/mapwright/ArcLoads", "<init>", "([I[D)V"⟩ : MethodName)) (W := 1) (rm := own_room3_3) (argsL := [(.ref ra204), (.ref ra207)]) (rest := [(.ref a210)]) (b := a210) X210 hx hZ e210 hown (by rw [hml]; rfl) rfl rfl (own_w12 hw) (own_w13 hw) (own_w11 hw) (own_w14 hw) (by decide) (own_rm3_3 lch Z a0 hw [] a210 ra204 ra207 rk204 rk207 (b32 &&& (3 : Int32)) ((b32 + dd) &&& (3 : Int32)) ((b32 + ((2 : Int32) * dd)) &&& (3 : Int32)) d34 d35 d36 _ _ h210 n0 f222 A210 F216 F217 ge212 f218 f219 f220 f221 (Ne.symm ne214) (Ne.symm ne215) ne209) (by decide) (by decide) (by decide) (by decide) (lenOf own_pd2 rfl) rfl (by exact Nat.le_of_eq rfl) (hb hby at_125) rfl ?_
      intro T223 Lc223 v223 X223 hQ223
      obtain ⟨ca223, pa223, ck223, pk223, rfl, Nq223, Kq223, G223_0, G223_1, G223_2, G223_3, G223_4, G223_5, G223_6⟩ := hQ223
      have N223 := Fr.app N207 Nq223
      have ge224 : n0 ≤ ca223 := Nat.le_trans f222 G223_0
      have ne225 : ra204 ≠ ca223 := Nat.ne_of_lt (Nat.lt_of_lt_of_le f218.lt G223_0)
      have ne226 : ra207 ≠ ca223 := Nat.ne_of_lt (Nat.lt_of_lt_of_le f220.lt G223_0)
      have ne227 : a210 ≠ ca223 := Nat.ne_of_lt (Nat.lt_of_lt_of_le A210.lt G223_0)
      have ge228 : n0 ≤ pa223 := Nat.le_trans f222 G223_1
      have ne229 : ra204 ≠ pa223 := Nat.ne_of_lt (Nat.lt_of_lt_of_le f218.lt G223_1)
      have ne230 : ra207 ≠ pa223 := Nat.ne_of_lt (Nat.lt_of_lt_of_le f220.lt G223_1)
      have ne231 : a210 ≠ pa223 := Nat.ne_of_lt (Nat.lt_of_lt_of_le A210.lt G223_1)
      show own_Ends prg e below s _ _ _ T223 (mkF m 128 #[.val (.int p0), .val (.int p1), .val (.int p2), .val (.long q3), .second, .val (.int p4), .val (.int (3 : Int32)), .val (.int b32), .val (.int dd), .val (.double d34), .second, .val (.double d35), .second, .val (.double d36), .second, .val (.double d37), .second, .val (.double d38), .second, .val (.double d39), .second, .val (.double d40), .second, .val (.double d41), .second, .val (.ref ra204), .val (.ref ra207), .unset, .unset, .unset, .unset] [(.ref a210)])
      refine own_astore (pc' := 130) (l' := #[.val (.int p0), .val (.int p1), .val (.int p2), .val (.long q3), .second, .val (.int p4), .val (.int (3 : Int32)), .val (.int b32), .val (.int dd), .val (.double d34), .second, .val (.double d35), .second, .val (.double d36), .second, .val (.double d37), .second, .val (.double d38), .second, .val (.double d39), .second, .val (.double d40), .second, .val (.double d41), .second, .val (.ref ra204), .val (.ref ra207), .val (.ref a210), .unset, .unset, .unset]) X223 hx (hb hby at_128) rfl rfl rfl ?_
      refine own_iconst (pc' := 131) (z := (4 : Int32)) X223 hx (hb hby at_130) rfl rfl ?_
      refine own_newarr (pc' := 133) (aty := .double) X223 hx hZ (own_w8 hw) rfl (hb hby at_131) rfl (by decide) 4 4 (by decide) (by decide) (by decide) (by decide) ?_
      intro T232 h232 a232 k232 X232 e232 E232 g232 V232
      replace V232 : Arv Z h232 a232 k232 .double (4 : Int32) [(.double 0), (.double 0), (.double 0), (.double 0)] (.double 0) := V232
      have f233 := (Nat.le_trans f222 Kq223.1)
      have ge234 : n0 ≤ a232 := by rw [g232]; exact f233
      have f235 := (f218.keep Kq223 (ninS ne214 nin0))
      have ne236 : ra204 ≠ a232 := Nat.ne_of_lt (by rw [g232]; exact f235.lt)
      have f237 := (f220.keep Kq223 (ninS ne215 nin0))
      have ne238 : ra207 ≠ a232 := Nat.ne_of_lt (by rw [g232]; exact f237.lt)
      have f239 := (A210.keep Kq223)
      have ne240 : a210 ≠ a232 := Nat.ne_of_lt (by rw [g232]; exact f239.lt)
      have ne241 : ca223 ≠ a232 := Nat.ne_of_lt (by rw [g232]; exact G223_5.lt)
      have ne242 : pa223 ≠ a232 := Nat.ne_of_lt (by rw [g232]; exact G223_6.lt)
      show own_Ends prg e below s _ _ _ T232 (mkF m 133 #[.val (.int p0), .val (.int p1), .val (.int p2), .val (.long q3), .second, .val (.int p4), .val (.int (3 : Int32)), .val (.int b32), .val (.int dd), .val (.double d34), .second, .val (.double d35), .second, .val (.double d36), .second, .val (.double d37), .second, .val (.double d38), .second, .val (.double d39), .second, .val (.double d40), .second, .val (.double d41), .second, .val (.ref ra204), .val (.ref ra207), .val (.ref a210), .unset, .unset, .unset] [(.ref a232)])
      refine own_astore (pc' := 135) (l' := #[.val (.int p0), .val (.int p1), .val (.int p2), .val (.long q3), .second, .val (.int p4), .val (.int (3 : Int32)), .val (.int b32), .val (.int dd), .val (.double d34), .second, .val (.double d35), .second, .val (.double d36), .second, .val (.double d37), .second, .val (.double d38), .second, .val (.double d39), .second, .val (.double d40), .second, .val (.double d41), .second, .val (.ref ra204), .val (.ref ra207), .val (.ref a210), .val (.ref a232), .unset, .unset]) X232 hx (hb hby at_133) rfl rfl rfl ?_
      refine own_aload (pc' := 137) X232 hx (hb hby at_135) rfl rfl rfl ?_
      refine own_iconst (pc' := 138) (z := (0 : Int32)) X232 hx (hb hby at_137) rfl rfl ?_
      refine own_dload (pc' := 140) X232 hx (hb hby at_138) rfl rfl ?_
      refine own_dastore (pc' := 141) X232 hx hZ e232 V232 (hb hby at_140) rfl (by decide) 0 rfl (by simp) N223 ge234 ?_
      intro T243 h243 L243 X243 e243 N243 W243 V243
      replace V243 : Arv Z h243 a232 k232 .double (4 : Int32) [(.double d38), (.double 0), (.double 0), (.double 0)] (.double 0) := V243
      show own_Ends prg e below s _ _ _ T243 (mkF m 141 #[.val (.int p0), .val (.int p1), .val (.int p2), .val (.long q3), .second, .val (.int p4), .val (.int (3 : Int32)), .val (.int b32), .val (.int dd), .val (.double d34), .second, .val (.double d35), .second, .val (.double d36), .second, .val (.double d37), .second, .val (.double d38), .second, .val (.double d39), .second, .val (.double d40), .second, .val (.double d41), .second, .val (.ref ra204), .val (.ref ra207), .val (.ref a210), .val (.ref a232), .unset, .unset] [])
      refine own_aload (pc' := 143) X243 hx (hb hby at_141) rfl rfl rfl ?_
      refine own_iconst (pc' := 144) (z := (1 : Int32)) X243 hx (hb hby at_143) rfl rfl ?_
      refine own_dload (pc' := 146) X243 hx (hb hby at_144) rfl rfl ?_
      refine own_dastore (pc' := 147) X243 hx hZ e243 V243 (hb hby at_146) rfl (by decide) 1 rfl (by simp) N243 ge234 ?_
      intro T244 h244 L244 X244 e244 N244 W244 V244
      replace V244 : Arv Z h244 a232 k232 .double (4 : Int32) [(.double d38), (.double d39), (.double 0), (.double 0)] (.double 0) := V244
      show own_Ends prg e below s _ _ _ T244 (mkF m 147 #[.val (.int p0), .val (.int p1), .val (.int p2), .val (.long q3), .second, .val (.int p4), .val (.int (3 : Int32)), .val (.int b32), .val (.int dd), .val (.double d34), .second, .val (.double d35), .second, .val (.double d36), .second, .val (.double d37), .second, .val (.double d38), .second, .val (.double d39), .second, .val (.double d40), .second, .val (.double d41), .second, .val (.ref ra204), .val (.ref ra207), .val (.ref a210), .val (.ref a232), .unset, .unset] [])
      refine own_aload (pc' := 149) X244 hx (hb hby at_147) rfl rfl rfl ?_
      refine own_iconst (pc' := 150) (z := (2 : Int32)) X244 hx (hb hby at_149) rfl rfl ?_
      refine own_dload (pc' := 152) X244 hx (hb hby at_150) rfl rfl ?_
      refine own_dastore (pc' := 153) X244 hx hZ e244 V244 (hb hby at_152) rfl (by decide) 2 rfl (by simp) N244 ge234 ?_
      intro T245 h245 L245 X245 e245 N245 W245 V245
      replace V245 : Arv Z h245 a232 k232 .double (4 : Int32) [(.double d38), (.double d39), (.double d40), (.double 0)] (.double 0) := V245
      show own_Ends prg e below s _ _ _ T245 (mkF m 153 #[.val (.int p0), .val (.int p1), .val (.int p2), .val (.long q3), .second, .val (.int p4), .val (.int (3 : Int32)), .val (.int b32), .val (.int dd), .val (.double d34), .second, .val (.double d35), .second, .val (.double d36), .second, .val (.double d37), .second, .val (.double d38), .second, .val (.double d39), .second, .val (.double d40), .second, .val (.double d41), .second, .val (.ref ra204), .val (.ref ra207), .val (.ref a210), .val (.ref a232), .unset, .unset] [])
      refine own_aload (pc' := 155) X245 hx (hb hby at_153) rfl rfl rfl ?_
      refine own_iconst (pc' := 156) (z := (3 : Int32)) X245 hx (hb hby at_155) rfl rfl ?_
      refine own_dload (pc' := 158) X245 hx (hb hby at_156) rfl rfl ?_
      refine own_dastore (pc' := 159) X245 hx hZ e245 V245 (hb hby at_158) rfl (by decide) 3 rfl (by simp) N245 ge234 ?_
      intro T246 h246 L246 X246 e246 N246 W246 V246
      replace V246 : Arv Z h246 a232 k232 .double (4 : Int32) [(.double d38), (.double d39), (.double d40), (.double d41)] (.double 0) := V246
      show own_Ends prg e below s _ _ _ T246 (mkF m 159 #[.val (.int p0), .val (.int p1), .val (.int p2), .val (.long q3), .second, .val (.int p4), .val (.int (3 : Int32)), .val (.int b32), .val (.int dd), .val (.double d34), .second, .val (.double d35), .second, .val (.double d36), .second, .val (.double d37), .second, .val (.double d38), .second, .val (.double d39), .second, .val (.double d40), .second, .val (.double d41), .second, .val (.ref ra204), .val (.ref ra207), .val (.ref a210), .val (.ref a232), .unset, .unset] [])
      refine own_iloadN (pc' := 160) X246 hx (hb hby at_159) rfl rfl ?_
      obtain ⟨d247, hd247⟩ : ∃ z, (FP.i2d p2) = z := ⟨_, rfl⟩
      refine own_i2d (pc' := 161) (z := d247) X246 hx (hb hby at_160) rfl hd247 ?_
      refine own_dstore (pc' := 163) (l' := #[.val (.int p0), .val (.int p1), .val (.int p2), .val (.long q3), .second, .val (.int p4), .val (.int (3 : Int32)), .val (.int b32), .val (.int dd), .val (.double d34), .second, .val (.double d35), .second, .val (.double d36), .second, .val (.double d37), .second, .val (.double d38), .second, .val (.double d39), .second, .val (.double d40), .second, .val (.double d41), .second, .val (.ref ra204), .val (.ref ra207), .val (.ref a210), .val (.ref a232), .val (.double d247), .second]) X246 hx (hb hby at_161) rfl rfl ?_
      have fd247 : Jvm.Free.Fl.Fin64 d247 := by rw [← hd247]; exact Jvm.Free.Fl.i2d_fin _
      refine own_aload (pc' := 165) X246 hx (hb hby at_163) rfl rfl rfl ?_
      refine own_aload (pc' := 167) X246 hx (hb hby at_165) rfl rfl rfl ?_
      refine own_dload (pc' := 169) X246 hx (hb hby at_167) rfl rfl ?_
      have f248 := (((((G223_3.ext E232).other W243 (Or.inl ne240)).other W244 (Or.inl ne240)).other W245 (Or.inl ne240)).other W246 (Or.inl ne240))
      have f249 := (((((G223_4.ext E232).other W243 (Or.inl ne240)).other W244 (Or.inl ne240)).other W245 (Or.inl ne240)).other W246 (Or.inl ne240))
      have f250 := (((((G223_5.ext E232).other W243 ne241).other W244 ne241).other W245 ne241).other W246 ne241)
      have f251 := (((((G223_6.ext E232).other W243 ne242).other W244 ne242).other W245 ne242).other W246 ne242)
      have f253 := (((((f239.ext E232).wr W243).wr W244).wr W245).wr W246)
      refine own_callV (pc' := 172) (y := (⟨"com/example/mapwright/mapwright/ArcLoads", "addTo", "([DD)V"⟩ : MethodName)) (W := 0) (rm := own_room5_3) (argsL := [(.ref a232), (.double d247)]) (rest := []) (b := a210) (C := "com/example/mapwright/mapwright/ArcLoads") X246 hx hZ e246 hown (by rw [hml]; rfl) f253 (own_w37 hw) (own_w38 hw) (own_w40 hw) (own_w39 hw) (own_w11 hw) (own_w41 hw) (by decide) (own_rm5_3 lch Z a0 hw [] a210 a232 d247 ca223 pa223 ck223 pk223 k232 b32 dd d38 d39 d40 d41 d34 d35 d36 d37 h246 n0 f248 f249 f250 f251 V246 ge234 ne240 ne241 ne242 hbd fd247 fd38 fd39 fd40 fd41 fd34 fd35 fd36 fd37) (by decide) (by decide) (by decide) (by decide) (lenOf own_pd3 rfl) rfl (by exact Nat.le_of_eq rfl) (hb hby at_169) rfl ?_
      intro T252 Lc252 v252 X252 hQ252
      obtain ⟨rfl, Nq252, Kq252, G252_0⟩ := hQ252
      have N252 := Fr.app N246 Nq252
      show own_Ends prg e below s _ _ _ T252 (mkF m 172 #[.val (.int p0), .val (.int p1), .val (.int p2), .val (.long q3), .second, .val (.int p4), .val (.int (3 : Int32)), .val (.int b32), .val (.int dd), .val (.double d34), .second, .val (.double d35), .second, .val (.double d36), .second, .val (.double d37), .second, .val (.double d38), .second, .val (.double d39), .second, .val (.double d40), .second, .val (.double d41), .second, .val (.ref ra204), .val (.ref ra207), .val (.ref a210), .val (.ref a232), .val (.double d247), .second] [])
      refine own_aload (pc' := 174) X252 hx (hb hby at_172) rfl rfl rfl ?_
      refine own_iconst (pc' := 175) (z := (0 : Int32)) X252 hx (hb hby at_174) rfl rfl ?_
      refine own_daload (pc' := 176) (v := (.double (own_exp 0 b32 dd 3 d38 d247 d34 d35 d36 d37))) X252 hx hZ rfl G252_0 (hb hby at_175) rfl (by decide) rfl ?_
      refine own_iconst (pc' := 177) (z := (0 : Int32)) X252 hx (hb hby at_176) rfl rfl ?_
      refine own_iload (pc' := 179) X252 hx (hb hby at_177) rfl rfl ?_
      refine own_iload (pc' := 181) X252 hx (hb hby at_179) rfl rfl ?_
      refine own_iload (pc' := 183) X252 hx (hb hby at_181) rfl rfl ?_
      refine own_dload (pc' := 185) X252 hx (hb hby at_183) rfl rfl ?_
      refine own_dload (pc' := 187) X252 hx (hb hby at_185) rfl rfl ?_
      refine own_dload (pc' := 189) X252 hx (hb hby at_187) rfl rfl ?_
      refine own_dload (pc' := 191) X252 hx (hb hby at_189) rfl rfl ?_
      refine own_dload (pc' := 193) X252 hx (hb hby at_191) rfl rfl ?_
      refine own_dload (pc' := 195) X252 hx (hb hby at_193) rfl rfl ?_
      refine own_callS (pc' := 198) (y := (⟨"com/example/mapwright/mapwright/ArcLoadsAddToPinLaw", "expected", "(IIIIDDDDDD)D"⟩ : MethodName)) (W := 2) (rm := own_room6) (argsL := [(.int (0 : Int32)), (.int b32), (.int dd), (.int (3 : Int32)), (.double d38), (.double d247), (.double d34), (.double d35), (.double d36), (.double d37)]) (rest := [(.double (own_exp 0 b32 dd 3 d38 d247 d34 d35 d36 d37))]) X252 hx hZ rfl hown (by rw [hml]; rfl) (own_w42 hw) (own_w43 hw) (own_w2 hw) (own_w44 hw) (by decide) (own_rm6 lch Z a0 hw [] (0 : Int32) b32 dd (3 : Int32) d38 d247 d34 d35 d36 d37 T252.heap n0 fd38 fd247 fd34 fd35 fd36 fd37) (by decide) (by decide) (by decide) (by decide) (lenOf own_pd4 rfl) rfl (by exact Nat.le_of_eq rfl) (hb hby at_195) rfl ?_
      intro T254 Lc254 v254 X254 hQ254
      obtain ⟨rfl, Nq254, Kq254⟩ := hQ254
      have N254 := Fr.app N252 Nq254
      show own_Ends prg e below s _ _ _ T254 (mkF m 198 #[.val (.int p0), .val (.int p1), .val (.int p2), .val (.long q3), .second, .val (.int p4), .val (.int (3 : Int32)), .val (.int b32), .val (.int dd), .val (.double d34), .second, .val (.double d35), .second, .val (.double d36), .second, .val (.double d37), .second, .val (.double d38), .second, .val (.double d39), .second, .val (.double d40), .second, .val (.double d41), .second, .val (.ref ra204), .val (.ref ra207), .val (.ref a210), .val (.ref a232), .val (.double d247), .second] [(.double (own_exp 0 b32 dd 3 d38 d247 d34 d35 d36 d37)), (.double (own_exp 0 b32 dd 3 d38 d247 d34 d35 d36 d37))])
      refine own_dcmp (pc' := 199) (z := (0 : Int32)) X254 hx (hb hby at_198) rfl (dcmpV_self (own_exp_nn fd38 fd247 fd34 fd35 fd36 fd37) _) ?_
      refine own_ifNo (pc' := 202) X254 hx (hb hby at_199) rfl (teq (by decide)).2 ?_
      refine own_aload (pc' := 204) X254 hx (hb hby at_202) rfl rfl rfl ?_
      refine own_iconst (pc' := 205) (z := (1 : Int32)) X254 hx (hb hby at_204) rfl rfl ?_
      refine own_daload (pc' := 206) (v := (.double (own_exp 1 b32 dd 3 d39 d247 d34 d35 d36 d37))) X254 hx hZ Kq254 G252_0 (hb hby at_205) rfl (by decide) rfl ?_
      refine own_iconst (pc' := 207) (z := (1 : Int32)) X254 hx (hb hby at_206) rfl rfl ?_
      refine own_iload (pc' := 209) X254 hx (hb hby at_207) rfl rfl ?_
      refine own_iload (pc' := 211) X254 hx (hb hby at_209) rfl rfl ?_
      refine own_iload (pc' := 213) X254 hx (hb hby at_211) rfl rfl ?_
      refine own_dload (pc' := 215) X254 hx (hb hby at_213) rfl rfl ?_
      refine own_dload (pc' := 217) X254 hx (hb hby at_215) rfl rfl ?_
      refine own_dload (pc' := 219) X254 hx (hb hby at_217) rfl rfl ?_
      refine own_dload (pc' := 221) X254 hx (hb hby at_219) rfl rfl ?_
      refine own_dload (pc' := 223) X254 hx (hb hby at_221) rfl rfl ?_
      refine own_dload (pc' := 225) X254 hx (hb hby at_223) rfl rfl ?_
      refine own_callS (pc' := 228) (y := (⟨"com/example/mapwright/mapwright/ArcLoadsAddToPinLaw", "expected", "(IIIIDDDDDD)D"⟩ : MethodName)) (W := 2) (rm := own_room6) (argsL := [(.int (1 : Int32)), (.int b32), (.int dd), (.int (3 : Int32)), (.double d39), (.double d247), (.double d34), (.double d35), (.double d36), (.double d37)]) (rest := [(.double (own_exp 1 b32 dd 3 d39 d247 d34 d35 d36 d37))]) X254 hx hZ Kq254 hown (by rw [hml]; rfl) (own_w42 hw) (own_w43 hw) (own_w2 hw) (own_w44 hw) (by decide) (own_rm6 lch Z a0 hw [] (1 : Int32) b32 dd (3 : Int32) d39 d247 d34 d35 d36 d37 T252.heap n0 fd39 fd247 fd34 fd35 fd36 fd37) (by decide) (by decide) (by decide) (by decide) (lenOf own_pd4 rfl) rfl (by exact Nat.le_of_eq rfl) (hb hby at_225) rfl ?_
      intro T255 Lc255 v255 X255 hQ255
      obtain ⟨rfl, Nq255, Kq255⟩ := hQ255
      have N255 := Fr.app N254 Nq255
      show own_Ends prg e below s _ _ _ T255 (mkF m 228 #[.val (.int p0), .val (.int p1), .val (.int p2), .val (.long q3), .second, .val (.int p4), .val (.int (3 : Int32)), .val (.int b32), .val (.int dd), .val (.double d34), .second, .val (.double d35), .second, .val (.double d36), .second, .val (.double d37), .second, .val (.double d38), .second, .val (.double d39), .second, .val (.double d40), .second, .val (.double d41), .second, .val (.ref ra204), .val (.ref ra207), .val (.ref a210), .val (.ref a232), .val (.double d247), .second] [(.double (own_exp 1 b32 dd 3 d39 d247 d34 d35 d36 d37)), (.double (own_exp 1 b32 dd 3 d39 d247 d34 d35 d36 d37))])
      refine own_dcmp (pc' := 229) (z := (0 : Int32)) X255 hx (hb hby at_228) rfl (dcmpV_self (own_exp_nn fd39 fd247 fd34 fd35 fd36 fd37) _) ?_
      refine own_ifNo (pc' := 232) X255 hx (hb hby at_229) rfl (teq (by decide)).2 ?_
      refine own_aload (pc' := 234) X255 hx (hb hby at_232) rfl rfl rfl ?_
      refine own_iconst (pc' := 235) (z := (2 : Int32)) X255 hx (hb hby at_234) rfl rfl ?_
      refine own_daload (pc' := 236) (v := (.double (own_exp 2 b32 dd 3 d40 d247 d34 d35 d36 d37))) X255 hx hZ Kq255 G252_0 (hb hby at_235) rfl (by decide) rfl ?_
      refine own_iconst (pc' := 237) (z := (2 : Int32)) X255 hx (hb hby at_236) rfl rfl ?_
      refine own_iload (pc' := 239) X255 hx (hb hby at_237) rfl rfl ?_
      refine own_iload (pc' := 241) X255 hx (hb hby at_239) rfl rfl ?_
      refine own_iload (pc' := 243) X255 hx (hb hby at_241) rfl rfl ?_
      refine own_dload (pc' := 245) X255 hx (hb hby at_243) rfl rfl ?_
      refine own_dload (pc' := 247) X255 hx (hb hby at_245) rfl rfl ?_
      refine own_dload (pc' := 249) X255 hx (hb hby at_247) rfl rfl ?_
      refine own_dload (pc' := 251) X255 hx (hb hby at_249) rfl rfl ?_
      refine own_dload (pc' := 253) X255 hx (hb hby at_251) rfl rfl ?_
      refine own_dload (pc' := 255) X255 hx (hb hby at_253) rfl rfl ?_
      refine own_callS (pc' := 258) (y := (⟨"com/example/mapwright/mapwright/ArcLoadsAddToPinLaw", "expected", "(IIIIDDDDDD)D"⟩ : MethodName)) (W := 2) (rm := own_room6) (argsL := [(.int (2 : Int32)), (.int b32), (.int dd), (.int (3 : Int32)), (.double d40), (.double d247), (.double d34), (.double d35), (.double d36), (.double d37)]) (rest := [(.double (own_exp 2 b32 dd 3 d40 d247 d34 d35 d36 d37))]) X255 hx hZ Kq255 hown (by rw [hml]; rfl) (own_w42 hw) (own_w43 hw) (own_w2 hw) (own_w44 hw) (by decide) (own_rm6 lch Z a0 hw [] (2 : Int32) b32 dd (3 : Int32) d40 d247 d34 d35 d36 d37 T252.heap n0 fd40 fd247 fd34 fd35 fd36 fd37) (by decide) (by decide) (by decide) (by decide) (lenOf own_pd4 rfl) rfl (by exact Nat.le_of_eq rfl) (hb hby at_255) rfl ?_
      intro T256 Lc256 v256 X256 hQ256
      obtain ⟨rfl, Nq256, Kq256⟩ := hQ256
      have N256 := Fr.app N255 Nq256
      show own_Ends prg e below s _ _ _ T256 (mkF m 258 #[.val (.int p0), .val (.int p1), .val (.int p2), .val (.long q3), .second, .val (.int p4), .val (.int (3 : Int32)), .val (.int b32), .val (.int dd), .val (.double d34), .second, .val (.double d35), .second, .val (.double d36), .second, .val (.double d37), .second, .val (.double d38), .second, .val (.double d39), .second, .val (.double d40), .second, .val (.double d41), .second, .val (.ref ra204), .val (.ref ra207), .val (.ref a210), .val (.ref a232), .val (.double d247), .second] [(.double (own_exp 2 b32 dd 3 d40 d247 d34 d35 d36 d37)), (.double (own_exp 2 b32 dd 3 d40 d247 d34 d35 d36 d37))])
      refine own_dcmp (pc' := 259) (z := (0 : Int32)) X256 hx (hb hby at_258) rfl (dcmpV_self (own_exp_nn fd40 fd247 fd34 fd35 fd36 fd37) _) ?_
      refine own_ifNo (pc' := 262) X256 hx (hb hby at_259) rfl (teq (by decide)).2 ?_
      refine own_aload (pc' := 264) X256 hx (hb hby at_262) rfl rfl rfl ?_
      refine own_iconst (pc' := 265) (z := (3 : Int32)) X256 hx (hb hby at_264) rfl rfl ?_
      refine own_daload (pc' := 266) (v := (.double (own_exp 3 b32 dd 3 d41 d247 d34 d35 d36 d37))) X256 hx hZ Kq256 G252_0 (hb hby at_265) rfl (by decide) rfl ?_
      refine own_iconst (pc' := 267) (z := (3 : Int32)) X256 hx (hb hby at_266) rfl rfl ?_
      refine own_iload (pc' := 269) X256 hx (hb hby at_267) rfl rfl ?_
      refine own_iload (pc' := 271) X256 hx (hb hby at_269) rfl rfl ?_
      refine own_iload (pc' := 273) X256 hx (hb hby at_271) rfl rfl ?_
      refine own_dload (pc' := 275) X256 hx (hb hby at_273) rfl rfl ?_
      refine own_dload (pc' := 277) X256 hx (hb hby at_275) rfl rfl ?_
      refine own_dload (pc' := 279) X256 hx (hb hby at_277) rfl rfl ?_
      refine own_dload (pc' := 281) X256 hx (hb hby at_279) rfl rfl ?_
      refine own_dload (pc' := 283) X256 hx (hb hby at_281) rfl rfl ?_
      refine own_dload (pc' := 285) X256 hx (hb hby at_283) rfl rfl ?_
      refine own_callS (pc' := 288) (y := (⟨"com/example/mapwright/mapwright/ArcLoadsAddToPinLaw", "expected", "(IIIIDDDDDD)D"⟩ : MethodName)) (W := 2) (rm := own_room6) (argsL := [(.int (3 : Int32)), (.int b32), (.int dd), (.int (3 : Int32)), (.double d41), (.double d247), (.double d34), (.double d35), (.double d36), (.double d37)]) (rest := [(.double (own_exp 3 b32 dd 3 d41 d247 d34 d35 d36 d37))]) X256 hx hZ Kq256 hown (by rw [hml]; rfl) (own_w42 hw) (own_w43 hw) (own_w2 hw) (own_w44 hw) (by decide) (own_rm6 lch Z a0 hw [] (3 : Int32) b32 dd (3 : Int32) d41 d247 d34 d35 d36 d37 T252.heap n0 fd41 fd247 fd34 fd35 fd36 fd37) (by decide) (by decide) (by decide) (by decide) (lenOf own_pd4 rfl) rfl (by exact Nat.le_of_eq rfl) (hb hby at_285) rfl ?_
      intro T257 Lc257 v257 X257 hQ257
      obtain ⟨rfl, Nq257, Kq257⟩ := hQ257
      have N257 := Fr.app N256 Nq257
      show own_Ends prg e below s _ _ _ T257 (mkF m 288 #[.val (.int p0), .val (.int p1), .val (.int p2), .val (.long q3), .second, .val (.int p4), .val (.int (3 : Int32)), .val (.int b32), .val (.int dd), .val (.double d34), .second, .val (.double d35), .second, .val (.double d36), .second, .val (.double d37), .second, .val (.double d38), .second, .val (.double d39), .second, .val (.double d40), .second, .val (.double d41), .second, .val (.ref ra204), .val (.ref ra207), .val (.ref a210), .val (.ref a232), .val (.double d247), .second] [(.double (own_exp 3 b32 dd 3 d41 d247 d34 d35 d36 d37)), (.double (own_exp 3 b32 dd 3 d41 d247 d34 d35 d36 d37))])
      refine own_dcmp (pc' := 289) (z := (0 : Int32)) X257 hx (hb hby at_288) rfl (dcmpV_self (own_exp_nn fd41 fd247 fd34 fd35 fd36 fd37) _) ?_
      refine own_ifNo (pc' := 292) X257 hx (hb hby at_289) rfl (teq (by decide)).2 ?_
      refine own_iconst (pc' := 293) (z := (1 : Int32)) X257 hx (hb hby at_292) rfl rfl ?_
      refine own_goto (pc' := 297) X257 hx (hb hby at_293) (by decide) (by decide) ?_
      refine own_retN X257 hx hlk hret (by simp) (hb hby at_297) (by decide) (by decide) ?_
      exact ⟨rfl, N257⟩
    · refine own_iload (pc' := 93) X0 hx (hb hby at_91) rfl rfl ?_
      refine own_iload (pc' := 95) X0 hx (hb hby at_93) rfl rfl ?_
      refine own_iload (pc' := 97) X0 hx (hb hby at_95) rfl rfl ?_
      refine own_callS (pc' := 100) (y := (⟨"com/example/mapwright/mapwright/ArcLoadsAddToPinLaw", "arcsOf", "(III)[I"⟩ : MethodName)) (W := 0) (rm := own_room1_4) (argsL := [(.int (4 : Int32)), (.int b32), (.int dd)]) (rest := []) X0 hx hZ e0 hown (by rw [hml]; rfl) (own_w0 hw) (own_w1 hw) (own_w2 hw) (own_w3 hw) (by decide) (own_rm1_4 lch Z a0 hw [] b32 dd h0 n0 Z0) (by decide) (by decide) (by decide) (by decide) (lenOf own_pd0 rfl) rfl (by exact Nat.le_of_eq rfl) (hb hby at_97) rfl ?_
      intro T258 Lc258 v258 X258 hQ258
      obtain ⟨ra258, rk258, rfl, Nq258, Kq258, G258_0, G258_1, G258_2⟩ := hQ258
      have N258 := Fr.app N0 Nq258
      have ge259 : n0 ≤ ra258 := Nat.le_trans Z0 G258_0
      show own_Ends prg e below s _ _ _ T258 (mkF m 100 #[.val (.int p0), .val (.int p1), .val (.int p2), .val (.long q3), .second, .val (.int p4), .val (.int (4 : Int32)), .val (.int b32), .val (.int dd), .val (.double d34), .second, .val (.double d35), .second, .val (.double d36), .second, .val (.double d37), .second, .val (.double d38), .second, .val (.double d39), .second, .val (.double d40), .second, .val (.double d41), .second, .unset, .unset, .unset, .unset, .unset, .unset] [(.ref ra258)])
      refine own_astore (pc' := 102) (l' := #[.val (.int p0), .val (.int p1), .val (.int p2), .val (.long q3), .second, .val (.int p4), .val (.int (4 : Int32)), .val (.int b32), .val (.int dd), .val (.double d34), .second, .val (.double d35), .second, .val (.double d36), .second, .val (.double d37), .second, .val (.double d38), .second, .val (.double d39), .second, .val (.double d40), .second, .val (.double d41), .second, .val (.ref ra258), .unset, .unset, .unset, .unset, .unset]) X258 hx (hb hby at_100) rfl rfl rfl ?_
      refine own_iload (pc' := 104) X258 hx (hb hby at_102) rfl rfl ?_
      refine own_dload (pc' := 106) X258 hx (hb hby at_104) rfl rfl ?_
      refine own_dload (pc' := 108) X258 hx (hb hby at_106) rfl rfl ?_
      refine own_dload (pc' := 110) X258 hx (hb hby at_108) rfl rfl ?_
      refine own_dload (pc' := 112) X258 hx (hb hby at_110) rfl rfl ?_
      have f260 := (Nat.le_trans Z0 Kq258.1)
      refine own_callS (pc' := 115) (y := (⟨"com/example/mapwright/mapwright/ArcLoadsAddToPinLaw", "perOf", "(IDDDD)[D"⟩ : MethodName)) (W := 0) (rm := own_room2_4) (argsL := [(.int (4 : Int32)), (.double d34), (.double d35), (.double d36), (.double d37)]) (rest := []) X258 hx hZ rfl hown (by rw [hml]; rfl) (own_w5 hw) (own_w6 hw) (own_w2 hw) (own_w7 hw) (by decide) (own_rm2_4 lch Z a0 hw [] d34 d35 d36 d37 T258.heap n0 f260) (by decide) (by decide) (by decide) (by decide) (lenOf own_pd1 rfl) rfl (by exact Nat.le_of_eq rfl) (hb hby at_112) rfl ?_
      intro T261 Lc261 v261 X261 hQ261
      obtain ⟨ra261, rk261, rfl, Nq261, Kq261, G261_0, G261_1, G261_2⟩ := hQ261
      have N261 := Fr.app N258 Nq261
      have ge262 : n0 ≤ ra261 := Nat.le_trans f260 G261_0
      have ne263 : ra258 ≠ ra261 := Nat.ne_of_lt (Nat.lt_of_lt_of_le G258_1.lt G261_0)
      show own_Ends prg e below s _ _ _ T261 (mkF m 115 #[.val (.int p0), .val (.int p1), .val (.int p2), .val (.long q3), .second, .val (.int p4), .val (.int (4 : Int32)), .val (.int b32), .val (.int dd), .val (.double d34), .second, .val (.double d35), .second, .val (.double d36), .second, .val (.double d37), .second, .val (.double d38), .second, .val (.double d39), .second, .val (.double d40), .second, .val (.double d41), .second, .val (.ref ra258), .unset, .unset, .unset, .unset, .unset] [(.ref ra261)])
      refine own_astore (pc' := 117) (l' := #[.val (.int p0), .val (.int p1), .val (.int p2), .val (.long q3), .second, .val (.int p4), .val (.int (4 : Int32)), .val (.int b32), .val (.int dd), .val (.double d34), .second, .val (.double d35), .second, .val (.double d36), .second, .val (.double d37), .second, .val (.double d38), .second, .val (.double d39), .second, .val (.double d40), .second, .val (.double d41), .second, .val (.ref ra258), .val (.ref ra261), .unset, .unset, .unset, .unset]) X261 hx (hb hby at_115) rfl rfl rfl ?_
      obtain ⟨T264, h264, X264, e264, E264, A264, D264, -, st264⟩ := newO X261 hx hZ hown (own_w9 hw) (own_w10 hw) (own_w11 hw) rfl (g := (mkF m 117 #[.val (.int p0), .val (.int p1), .val (.int p2), .val (.long q3), .second, .val (.int p4), .val (.int (4 : Int32)), .val (.int b32), .val (.int dd), .val (.double d34), .second, .val (.double d35), .second, .val (.double d36), .second, .val (.double d37), .second, .val (.double d38), .second, .val (.double d39), .second, .val (.double d40), .second, .val (.double d41), .second, .val (.ref ra258), .val (.ref ra261), .unset, .unset, .unset, .unset] [])) rfl (hb hby at_117) (by decide) (by decide)
      refine own_go st264 ?_
      obtain ⟨a264, g264⟩ : ∃ z, z = T261.heap.size := ⟨_, rfl⟩
      rw [← g264] at A264 D264
      have f265 := (Nat.le_trans f260 Kq261.1)
      have ge266 : n0 ≤ a264 := by rw [g264]; exact f265
      have f267 := (G258_1.keep Kq261 nin0)
      have ne268 : ra258 ≠ a264 := Nat.ne_of_lt (by rw [g264]; exact f267.lt)
      have ne269 : ra261 ≠ a264 := Nat.ne_of_lt (by rw [g264]; exact G261_1.lt)
      have F270 : Fld Z h264 a264 "com/example/mapwright/mapwright/ArcLoads" "arcs" "[I" .null := D264 (Or.inr (own_w28 hw)) (ty := (.array .int)) (by decide)
      have F271 : Fld Z h264 a264 "com/example/mapwright/mapwright/ArcLoads" "perUnit" "[D" .null := D264 (Or.inr (own_w36 hw)) (ty := (.array .double)) (by decide)
      show own_Ends prg e below s _ _ _ T264 (mkF m 120 #[.val (.int p0), .val (.int p1), .val (.int p2), .val (.long q3), .second, .val (.int p4), .val (.int (4 : Int32)), .val (.int b32), .val (.int dd), .val (.double d34), .second, .val (.double d35), .second, .val (.double d36), .second, .val (.double d37), .second, .val (.double d38), .second, .val (.double d39), .second, .val (.double d40), .second, .val (.double d41), .second, .val (.ref ra258), .val (.ref ra261), .unset, .unset, .unset, .unset] [(.ref T261.heap.size)])
      rw [← g264]
      refine own_dup (pc' := 121) X264 hx (hb hby at_120) rfl rfl ?_
      refine own_aload (pc' := 123) X264 hx (hb hby at_121) rfl rfl rfl ?_
      refine own_aload (pc' := 125) X264 hx (hb hby at_123) rfl rfl rfl ?_
      have f272 := (f267.ext E264)
      have f273 := ((G258_2.keep Kq261).ext E264)
      have f274 := (G261_1.ext E264)
      have f275 := (G261_2.ext E264)
      have f276 := (Nat.le_trans f265 E264.1)
      refine own_callC (pc' := 128) (y := (⟨"com/example/mapwright/mapwright/ArcLoads", "<init>", "([I[D)V"⟩ : MethodName)) (W := 1) (rm := own_room3_4) (argsL := [(.ref ra258), (.ref ra261)]) (rest := [(.ref a264)]) (b := a264) X264 hx hZ e264 hown (by rw [hml]; rfl) rfl rfl (own_w12 hw) (own_w13 hw) (own_w11 hw) (own_w14 hw) (by decide) (own_rm3_4 lch Z a0 hw [] a264 ra258 ra261 rk258 rk261 (b32 &&& (3 : Int32)) ((b32 + dd) &&& (3 : Int32)) ((b32 + ((2 : Int32) * dd)) &&& (3 : Int32)) ((b32 + ((3 : Int32) * dd)) &&& (3 : Int32)) d34 d35 d36 d37 _ _ h264 n0 f276 A264 F270 F271 ge266 f272 f273 f274 f275 (Ne.symm ne268) (Ne.symm ne269) ne263) (by decide) (by decide) (by decide) (by decide) (lenOf own_pd2 rfl) rfl (by exact Nat.le_of_eq rfl) (hb hby at_125) rfl ?_
      intro T277 Lc277 v277 X277 hQ277
      obtain ⟨ca277, pa277, ck277, pk277, rfl, Nq277, Kq277, G277_0, G277_1, G277_2, G277_3, G277_4, G277_5, G277_6⟩ := hQ277
      have N277 := Fr.app N261 Nq277
      have ge278 : n0 ≤ ca277 := Nat.le_trans f276 G277_0
      have ne279 : ra258 ≠ ca277 := Nat.ne_of_lt (Nat.lt_of_lt_of_le f272.lt G277_0)
      have ne280 : ra261 ≠ ca277 := Nat.ne_of_lt (Nat.lt_of_lt_of_le f274.lt G277_0)
      have ne281 : a264 ≠ ca277 := Nat.ne_of_lt (Nat.lt_of_lt_of_le A264.lt G277_0)
      have ge282 : n0 ≤ pa277 := Nat.le_trans f276 G277_1
      have ne283 : ra258 ≠ pa277 := Nat.ne_of_lt (Nat.lt_of_lt_of_le f272.lt G277_1)
      have ne284 : ra261 ≠ pa277 := Nat.ne_of_lt (Nat.lt_of_lt_of_le f274.lt G277_1)
      have ne285 : a264 ≠ pa277 := Nat.ne_of_lt (Nat.lt_of_lt_of_le A264.lt G277_1)
      show own_Ends prg e below s _ _ _ T277 (mkF m 128 #[.val (.int p0), .val (.int p1), .val (.int p2), .val (.long q3), .second, .val (.int p4), .val (.int (4 : Int32)), .val (.int b32), .val (.int dd), .val (.double d34), .second, .val (.double d35), .second, .val (.double d36), .second, .val (.double d37), .second, .val (.double d38), .second, .val (.double d39), .second, .val (.double d40), .second, .val (.double d41), .second, .val (.ref ra258), .val (.ref ra261), .unset, .unset, .unset, .unset] [(.ref a264)])
      refine own_astore (pc' := 130) (l' := #[.val (.int p0), .val (.int p1), .val (.int p2), .val (.long q3), .second, .val (.int p4), .val (.int (4 : Int32)), .val (.int b32), .val (.int dd), .val (.double d34), .second, .val (.double d35), .second, .val (.double d36), .second, .val (.double d37), .second, .val (.double d38), .second, .val (.double d39), .second, .val (.double d40), .second, .val (.double d41), .second, .val (.ref ra258), .val (.ref ra261), .val (.ref a264), .unset, .unset, .unset]) X277 hx (hb hby at_128) rfl rfl rfl ?_
      refine own_iconst (pc' := 131) (z := (4 : Int32)) X277 hx (hb hby at_130) rfl rfl ?_
      refine own_newarr (pc' := 133) (aty := .double) X277 hx hZ (own_w8 hw) rfl (hb hby at_131) rfl (by decide) 4 4 (by decide) (by decide) (by decide) (by decide) ?_
      intro T286 h286 a286 k286 X286 e286 E286 g286 V286
      replace V286 : Arv Z h286 a286 k286 .double (4 : Int32) [(.double 0), (.double 0), (.double 0), (.double 0)] (.double 0) := V286
      have f287 := (Nat.le_trans f276 Kq277.1)
      have ge288 : n0 ≤ a286 := by rw [g286]; exact f287
      have f289 := (f272.keep Kq277 (ninS ne268 nin0))
      have ne290 : ra258 ≠ a286 := Nat.ne_of_lt (by rw [g286]; exact f289.lt)
      have f291 := (f274.keep Kq277 (ninS ne269 nin0))
      have ne292 : ra261 ≠ a286 := Nat.ne_of_lt (by rw [g286]; exact f291.lt)
      have f293 := (A264.keep Kq277)
      have ne294 : a264 ≠ a286 := Nat.ne_of_lt (by rw [g286]; exact f293.lt)
      have ne295 : ca277 ≠ a286 := Nat.ne_of_lt (by rw [g286]; exact G277_5.lt)
      have ne296 : pa277 ≠ a286 := Nat.ne_of_lt (by rw [g286]; exact G277_6.lt)
      show own_Ends prg e below s _ _ _ T286 (mkF m 133 #[.val (.int p0), .val (.int p1), .val (.int p2), .val (.long q3), .second, .val (.int p4), .val (.int (4 : Int32)), .val (.int b32), .val (.int dd), .val (.double d34), .second, .val (.double d35), .second, .val (.double d36), .second, .val (.double d37), .second, .val (.double d38), .second, .val (.double d39), .second, .val (.double d40), .second, .val (.double d41), .second, .val (.ref ra258), .val (.ref ra261), .val (.ref a264), .unset, .unset, .unset] [(.ref a286)])
      refine own_astore (pc' := 135) (l' := #[.val (.int p0), .val (.int p1), .val (.int p2), .val (.long q3), .second, .val (.int p4), .val (.int (4 : Int32)), .val (.int b32), .val (.int dd), .val (.double d34), .second, .val (.double d35), .second, .val (.double d36), .second, .val (.double d37), .second, .val (.double d38), .second, .val (.double d39), .second, .val (.double d40), .second, .val (.double d41), .second, .val (.ref ra258), .val (.ref ra261), .val (.ref a264), .val (.ref a286), .unset, .unset]) X286 hx (hb hby at_133) rfl rfl rfl ?_
      refine own_aload (pc' := 137) X286 hx (hb hby at_135) rfl rfl rfl ?_
      refine own_iconst (pc' := 138) (z := (0 : Int32)) X286 hx (hb hby at_137) rfl rfl ?_
      refine own_dload (pc' := 140) X286 hx (hb hby at_138) rfl rfl ?_
      refine own_dastore (pc' := 141) X286 hx hZ e286 V286 (hb hby at_140) rfl (by decide) 0 rfl (by simp) N277 ge288 ?_
      intro T297 h297 L297 X297 e297 N297 W297 V297
      replace V297 : Arv Z h297 a286 k286 .double (4 : Int32) [(.double d38), (.double 0), (.double 0), (.double 0)] (.double 0) := V297
      show own_Ends prg e below s _ _ _ T297 (mkF m 141 #[.val (.int p0), .val (.int p1), .val (.int p2), .val (.long q3), .second, .val (.int p4), .val (.int (4 : Int32)), .val (.int b32), .val (.int dd), .val (.double d34), .second, .val (.double d35), .second, .val (.double d36), .second, .val (.double d37), .second, .val (.double d38), .second, .val (.double d39), .second, .val (.double d40), .second, .val (.double d41), .second, .val (.ref ra258), .val (.ref ra261), .val (.ref a264), .val (.ref a286), .unset, .unset] [])
      refine own_aload (pc' := 143) X297 hx (hb hby at_141) rfl rfl rfl ?_
      refine own_iconst (pc' := 144) (z := (1 : Int32)) X297 hx (hb hby at_143) rfl rfl ?_
      refine own_dload (pc' := 146) X297 hx (hb hby at_144) rfl rfl ?_
      refine own_dastore (pc' := 147) X297 hx hZ e297 V297 (hb hby at_146) rfl (by decide) 1 rfl (by simp) N297 ge288 ?_
      intro T298 h298 L298 X298 e298 N298 W298 V298
      replace V298 : Arv Z h298 a286 k286 .double (4 : Int32) [(.double d38), (.double d39), (.double 0), (.double 0)] (.double 0) := V298
      show own_Ends prg e below s _ _ _ T298 (mkF m 147 #[.val (.int p0), .val (.int p1), .val (.int p2), .val (.long q3), .second, .val (.int p4), .val (.int (4 : Int32)), .val (.int b32), .val (.int dd), .val (.double d34), .second, .val (.double d35), .second, .val (.double d36), .second, .val (.double d37), .second, .val (.double d38), .second, .val (.double d39), .second, .val (.double d40), .second, .val (.double d41), .second, .val (.ref ra258), .val (.ref ra261), .val (.ref a264), .val (.ref a286), .unset, .unset] [])
      refine own_aload (pc' := 149) X298 hx (hb hby at_147) rfl rfl rfl ?_
      refine own_iconst (pc' := 150) (z := (2 : Int32)) X298 hx (hb hby at_149) rfl rfl ?_
      refine own_dload (pc' := 152) X298 hx (hb hby at_150) rfl rfl ?_
      refine own_dastore (pc' := 153) X298 hx hZ e298 V298 (hb hby at_152) rfl (by decide) 2 rfl (by simp) N298 ge288 ?_
      intro T299 h299 L299 X299 e299 N299 W299 V299
      replace V299 : Arv Z h299 a286 k286 .double (4 : Int32) [(.double d38), (.double d39), (.double d40), (.double 0)] (.double 0) := V299
      show own_Ends prg e below s _ _ _ T299 (mkF m 153 #[.val (.int p0), .val (.int p1), .val (.int p2), .val (.long q3), .second, .val (.int p4), .val (.int (4 : Int32)), .val (.int b32), .val (.int dd), .val (.double d34), .second, .val (.double d35), .second, .val (.double d36), .second, .val (.double d37), .second, .val (.double d38), .second, .val (.double d39), .second, .val (.double d40), .second, .val (.double d41), .second, .val (.ref ra258), .val (.ref ra261), .val (.ref a264), .val (.ref a286), .unset, .unset] [])
      refine own_aload (pc' := 155) X299 hx (hb hby at_153) rfl rfl rfl ?_
      refine own_iconst (pc' := 156) (z := (3 : Int32)) X299 hx (hb hby at_155) rfl rfl ?_
      refine own_dload (pc' := 158) X299 hx (hb hby at_156) rfl rfl ?_
      refine own_dastore (pc' := 159) X299 hx hZ e299 V299 (hb hby at_158) rfl (by decide) 3 rfl (by simp) N299 ge288 ?_
      intro T300 h300 L300 X300 e300 N300 W300 V300
      replace V300 : Arv Z h300 a286 k286 .double (4 : Int32) [(.double d38), (.double d39), (.double d40), (.double d41)] (.double 0) := V300
      show own_Ends prg e below s _ _ _ T300 (mkF m 159 #[.val (.int p0), .val (.int p1), .val (.int p2), .val (.long q3), .second, .val (.int p4), .val (.int (4 : Int32)), .val (.int b32), .val (.int dd), .val (.double d34), .second, .val (.double d35), .second, .val (.double d36), .second, .val (.double d37), .second, .val (.double d38), .second, .val (.double d39), .second, .val (.double d40), .second, .val (.double d41), .second, .val (.ref ra258), .val (.ref ra261), .val (.ref a264), .val (.ref a286), .unset, .unset] [])
      refine own_iloadN (pc' := 160) X300 hx (hb hby at_159) rfl rfl ?_
      obtain ⟨d301, hd301⟩ : ∃ z, (FP.i2d p2) = z := ⟨_, rfl⟩
      refine own_i2d (pc' := 161) (z := d301) X300 hx (hb hby at_160) rfl hd301 ?_
      refine own_dstore (pc' := 163) (l' := #[.val (.int p0), .val (.int p1), .val (.int p2), .val (.long q3), .second, .val (.int p4), .val (.int (4 : Int32)), .val (.int b32), .val (.int dd), .val (.double d34), .second, .val (.double d35), .second, .val (.double d36), .second, .val (.double d37), .second, .val (.double d38), .second, .val (.double d39), .second, .val (.double d40), .second, .val (.double d41), .second, .val (.ref ra258), .val (.ref ra261), .val (.ref a264), .val (.ref a286), .val (.double d301), .second]) X300 hx (hb hby at_161) rfl rfl ?_
      have fd301 : Jvm.Free.Fl.Fin64 d301 := by rw [← hd301]; exact Jvm.Free.Fl.i2d_fin _
      refine own_aload (pc' := 165) X300 hx (hb hby at_163) rfl rfl rfl ?_
      refine own_aload (pc' := 167) X300 hx (hb hby at_165) rfl rfl rfl ?_
      refine own_dload (pc' := 169) X300 hx (hb hby at_167) rfl rfl ?_
      have f302 := (((((G277_3.ext E286).other W297 (Or.inl ne294)).other W298 (Or.inl ne294)).other W299 (Or.inl ne294)).other W300 (Or.inl ne294))
      have f303 := (((((G277_4.ext E286).other W297 (Or.inl ne294)).other W298 (Or.inl ne294)).other W299 (Or.inl ne294)).other W300 (Or.inl ne294))
      have f304 := (((((G277_5.ext E286).other W297 ne295).other W298 ne295).other W299 ne295).other W300 ne295)
      have f305 := (((((G277_6.ext E286).other W297 ne296).other W298 ne296).other W299 ne296).other W300 ne296)
      have f307 := (((((f293.ext E286).wr W297).wr W298).wr W299).wr W300)
      refine own_callV (pc' := 172) (y := (⟨"com/example/mapwright/mapwright/ArcLoads", "addTo", "([DD)V"⟩ : MethodName)) (W := 0) (rm := own_room5_4) (argsL := [(.ref a286), (.double d301)]) (rest := []) (b := a264) (C := "com/example/mapwright/mapwright/ArcLoads") X300 hx hZ e300 hown (by rw [hml]; rfl) f307 (own_w37 hw) (own_w38 hw) (own_w40 hw) (own_w39 hw) (own_w11 hw) (own_w41 hw) (by decide) (own_rm5_4 lch Z a0 hw [] a264 a286 d301 ca277 pa277 ck277 pk277 k286 b32 dd d38 d39 d40 d41 d34 d35 d36 d37 h300 n0 f302 f303 f304 f305 V300 ge288 ne294 ne295 ne296 hbd fd301 fd38 fd39 fd40 fd41 fd34 fd35 fd36 fd37) (by decide) (by decide) (by decide) (by decide) (lenOf own_pd3 rfl) rfl (by exact Nat.le_of_eq rfl) (hb hby at_169) rfl ?_
      intro T306 Lc306 v306 X306 hQ306
      obtain ⟨rfl, Nq306, Kq306, G306_0⟩ := hQ306
      have N306 := Fr.app N300 Nq306
      show own_Ends prg e below s _ _ _ T306 (mkF m 172 #[.val (.int p0), .val (.int p1), .val (.int p2), .val (.long q3), .second, .val (.int p4), .val (.int (4 : Int32)), .val (.int b32), .val (.int dd), .val (.double d34), .second, .val (.double d35), .second, .val (.double d36), .second, .val (.double d37), .second, .val (.double d38), .second, .val (.double d39), .second, .val (.double d40), .second, .val (.double d41), .second, .val (.ref ra258), .val (.ref ra261), .val (.ref a264), .val (.ref a286), .val (.double d301), .second] [])
      refine own_aload (pc' := 174) X306 hx (hb hby at_172) rfl rfl rfl ?_
      refine own_iconst (pc' := 175) (z := (0 : Int32)) X306 hx (hb hby at_174) rfl rfl ?_
      refine own_daload (pc' := 176) (v := (.double (own_exp 0 b32 dd 4 d38 d301 d34 d35 d36 d37))) X306 hx hZ rfl G306_0 (hb hby at_175) rfl (by decide) rfl ?_
      refine own_iconst (pc' := 177) (z := (0 : Int32)) X306 hx (hb hby at_176) rfl rfl ?_
      refine own_iload (pc' := 179) X306 hx (hb hby at_177) rfl rfl ?_
      refine own_iload (pc' := 181) X306 hx (hb hby at_179) rfl rfl ?_
      refine own_iload (pc' := 183) X306 hx (hb hby at_181) rfl rfl ?_
      refine own_dload (pc' := 185) X306 hx (hb hby at_183) rfl rfl ?_
      refine own_dload (pc' := 187) X306 hx (hb hby at_185) rfl rfl ?_
      refine own_dload (pc' := 189) X306 hx (hb hby at_187) rfl rfl ?_
      refine own_dload (pc' := 191) X306 hx (hb hby at_189) rfl rfl ?_
      refine own_dload (pc' := 193) X306 hx (hb hby at_191) rfl rfl ?_
      refine own_dload (pc' := 195) X306 hx (hb hby at_193) rfl rfl ?_
      refine own_callS (pc' := 198) (y := (⟨"com/example/mapwright/mapwright/ArcLoadsAddToPinLaw", "expected", "(IIIIDDDDDD)D"⟩ : MethodName)) (W := 2) (rm := own_room6) (argsL := [(.int (0 : Int32)), (.int b32), (.int dd), (.int (4 : Int32)), (.double d38), (.double d301), (.double d34), (.double d35), (.double d36), (.double d37)]) (rest := [(.double (own_exp 0 b32 dd 4 d38 d301 d34 d35 d36 d37))]) X306 hx hZ rfl hown (by rw [hml]; rfl) (own_w42 hw) (own_w43 hw) (own_w2 hw) (own_w44 hw) (by decide) (own_rm6 lch Z a0 hw [] (0 : Int32) b32 dd (4 : Int32) d38 d301 d34 d35 d36 d37 T306.heap n0 fd38 fd301 fd34 fd35 fd36 fd37) (by decide) (by decide) (by decide) (by decide) (lenOf own_pd4 rfl) rfl (by exact Nat.le_of_eq rfl) (hb hby at_195) rfl ?_
      intro T308 Lc308 v308 X308 hQ308
      obtain ⟨rfl, Nq308, Kq308⟩ := hQ308
      have N308 := Fr.app N306 Nq308
      show own_Ends prg e below s _ _ _ T308 (mkF m 198 #[.val (.int p0), .val (.int p1), .val (.int p2), .val (.long q3), .second, .val (.int p4), .val (.int (4 : Int32)), .val (.int b32), .val (.int dd), .val (.double d34), .second, .val (.double d35), .second, .val (.double d36), .second, .val (.double d37), .second, .val (.double d38), .second, .val (.double d39), .second, .val (.double d40), .second, .val (.double d41), .second, .val (.ref ra258), .val (.ref ra261), .val (.ref a264), .val (.ref a286), .val (.double d301), .second] [(.double (own_exp 0 b32 dd 4 d38 d301 d34 d35 d36 d37)), (.double (own_exp 0 b32 dd 4 d38 d301 d34 d35 d36 d37))])
      refine own_dcmp (pc' := 199) (z := (0 : Int32)) X308 hx (hb hby at_198) rfl (dcmpV_self (own_exp_nn fd38 fd301 fd34 fd35 fd36 fd37) _) ?_
      refine own_ifNo (pc' := 202) X308 hx (hb hby at_199) rfl (teq (by decide)).2 ?_
      refine own_aload (pc' := 204) X308 hx (hb hby at_202) rfl rfl rfl ?_
      refine own_iconst (pc' := 205) (z := (1 : Int32)) X308 hx (hb hby at_204) rfl rfl ?_
      refine own_daload (pc' := 206) (v := (.double (own_exp 1 b32 dd 4 d39 d301 d34 d35 d36 d37))) X308 hx hZ Kq308 G306_0 (hb hby at_205) rfl (by decide) rfl ?_
      refine own_iconst (pc' := 207) (z := (1 : Int32)) X308 hx (hb hby at_206) rfl rfl ?_
      refine own_iload (pc' := 209) X308 hx (hb hby at_207) rfl rfl ?_
      refine own_iload (pc' := 211) X308 hx (hb hby at_209) rfl rfl ?_
      refine own_iload (pc' := 213) X308 hx (hb hby at_211) rfl rfl ?_
      refine own_dload (pc' := 215) X308 hx (hb hby at_213) rfl rfl ?_
      refine own_dload (pc' := 217) X308 hx (hb hby at_215) rfl rfl ?_
      refine own_dload (pc' := 219) X308 hx (hb hby at_217) rfl rfl ?_
      refine own_dload (pc' := 221) X308 hx (hb hby at_219) rfl rfl ?_
      refine own_dload (pc' := 223) X308 hx (hb hby at_221) rfl rfl ?_
      refine own_dload (pc' := 225) X308 hx (hb hby at_223) rfl rfl ?_
      refine own_callS (pc' := 228) (y := (⟨"com/example/mapwright/mapwright/ArcLoadsAddToPinLaw", "expected", "(IIIIDDDDDD)D"⟩ : MethodName)) (W := 2) (rm := own_room6) (argsL := [(.int (1 : Int32)), (.int b32), (.int dd), (.int (4 : Int32)), (.double d39), (.double d301), (.double d34), (.double d35), (.double d36), (.double d37)]) (rest := [(.double (own_exp 1 b32 dd 4 d39 d301 d34 d35 d36 d37))]) X308 hx hZ Kq308 hown (by rw [hml]; rfl) (own_w42 hw) (own_w43 hw) (own_w2 hw) (own_w44 hw) (by decide) (own_rm6 lch Z a0 hw [] (1 : Int32) b32 dd (4 : Int32) d39 d301 d34 d35 d36 d37 T306.heap n0 fd39 fd301 fd34 fd35 fd36 fd37) (by decide) (by decide) (by decide) (by decide) (lenOf own_pd4 rfl) rfl (by exact Nat.le_of_eq rfl) (hb hby at_225) rfl ?_
      intro T309 Lc309 v309 X309 hQ309
      obtain ⟨rfl, Nq309, Kq309⟩ := hQ309
      have N309 := Fr.app N308 Nq309
      show own_Ends prg e below s _ _ _ T309 (mkF m 228 #[.val (.int p0), .val (.int p1), .val (.int p2), .val (.long q3), .second, .val (.int p4), .val (.int (4 : Int32)), .val (.int b32), .val (.int dd), .val (.double d34), .second, .val (.double d35), .second, .val (.double d36), .second, .val (.double d37), .second, .val (.double d38), .second, .val (.double d39), .second, .val (.double d40), .second, .val (.double d41), .second, .val (.ref ra258), .val (.ref ra261), .val (.ref a264), .val (.ref a286), .val (.double d301), .second] [(.double (own_exp 1 b32 dd 4 d39 d301 d34 d35 d36 d37)), (.double (own_exp 1 b32 dd 4 d39 d301 d34 d35 d36 d37))])
      refine own_dcmp (pc' := 229) (z := (0 : Int32)) X309 hx (hb hby at_228) rfl (dcmpV_self (own_exp_nn fd39 fd301 fd34 fd35 fd36 fd37) _) ?_
      refine own_ifNo (pc' := 232) X309 hx (hb hby at_229) rfl (teq (by decide)).2 ?_
      refine own_aload (pc' := 234) X309 hx (hb hby at_232) rfl rfl rfl ?_
      refine own_iconst (pc' := 235) (z := (2 : Int32)) X309 hx (hb hby at_234) rfl rfl ?_
      refine own_daload (pc' := 236) (v := (.double (own_exp 2 b32 dd 4 d40 d301 d34 d35 d36 d37))) X309 hx hZ Kq309 G306_0 (hb hby at_235) rfl (by decide) rfl ?_
      refine own_iconst (pc' := 237) (z := (2 : Int32)) X309 hx (hb hby at_236) rfl rfl ?_
      refine own_iload (pc' := 239) X309 hx (hb hby at_237) rfl rfl ?_
      refine own_iload (pc' := 241) X309 hx (hb hby at_239) rfl rfl ?_
      refine own_iload (pc' := 243) X309 hx (hb hby at_241) rfl rfl ?_
      refine own_dload (pc' := 245) X309 hx (hb hby at_243) rfl rfl ?_
      refine own_dload (pc' := 247) X309 hx (hb hby at_245) rfl rfl ?_
      refine own_dload (pc' := 249) X309 hx (hb hby at_247) rfl rfl ?_
      refine own_dload (pc' := 251) X309 hx (hb hby at_249) rfl rfl ?_
      refine own_dload (pc' := 253) X309 hx (hb hby at_251) rfl rfl ?_
      refine own_dload (pc' := 255) X309 hx (hb hby at_253) rfl rfl ?_
      refine own_callS (pc' := 258) (y := (⟨"com/example/mapwright/mapwright/ArcLoadsAddToPinLaw", "expected", "(IIIIDDDDDD)D"⟩ : MethodName)) (W := 2) (rm := own_room6) (argsL := [(.int (2 : Int32)), (.int b32), (.int dd), (.int (4 : Int32)), (.double d40), (.double d301), (.double d34), (.double d35), (.double d36), (.double d37)]) (rest := [(.double (own_exp 2 b32 dd 4 d40 d301 d34 d35 d36 d37))]) X309 hx hZ Kq309 hown (by rw [hml]; rfl) (own_w42 hw) (own_w43 hw) (own_w2 hw) (own_w44 hw) (by decide) (own_rm6 lch Z a0 hw [] (2 : Int32) b32 dd (4 : Int32) d40 d301 d34 d35 d36 d37 T306.heap n0 fd40 fd301 fd34 fd35 fd36 fd37) (by decide) (by decide) (by decide) (by decide) (lenOf own_pd4 rfl) rfl (by exact Nat.le_of_eq rfl) (hb hby at_255) rfl ?_
      intro T310 Lc310 v310 X310 hQ310
      obtain ⟨rfl, Nq310, Kq310⟩ := hQ310
      have N310 := Fr.app N309 Nq310
      show own_Ends prg e below s _ _ _ T310 (mkF m 258 #[.val (.int p0), .val (.int p1), .val (.int p2), .val (.long q3), .second, .val (.int p4), .val (.int (4 : Int32)), .val (.int b32), .val (.int dd), .val (.double d34), .second, .val (.double d35), .second, .val (.double d36), .second, .val (.double d37), .second, .val (.double d38), .second, .val (.double d39), .second, .val (.double d40), .second, .val (.double d41), .second, .val (.ref ra258), .val (.ref ra261), .val (.ref a264), .val (.ref a286), .val (.double d301), .second] [(.double (own_exp 2 b32 dd 4 d40 d301 d34 d35 d36 d37)), (.double (own_exp 2 b32 dd 4 d40 d301 d34 d35 d36 d37))])
      refine own_dcmp (pc' := 259) (z := (0 : Int32)) X310 hx (hb hby at_258) rfl (dcmpV_self (own_exp_nn fd40 fd301 fd34 fd35 fd36 fd37) _) ?_
      refine own_ifNo (pc' := 262) X310 hx (hb hby at_259) rfl (teq (by decide)).2 ?_
      refine own_aload (pc' := 264) X310 hx (hb hby at_262) rfl rfl rfl ?_
      refine own_iconst (pc' := 265) (z := (3 : Int32)) X310 hx (hb hby at_264) rfl rfl ?_
      refine own_daload (pc' := 266) (v := (.double (own_exp 3 b32 dd 4 d41 d301 d34 d35 d36 d37))) X310 hx hZ Kq310 G306_0 (hb hby at_265) rfl (by decide) rfl ?_
      refine own_iconst (pc' := 267) (z := (3 : Int32)) X310 hx (hb hby at_266) rfl rfl ?_
      refine own_iload (pc' := 269) X310 hx (hb hby at_267) rfl rfl ?_
      refine own_iload (pc' := 271) X310 hx (hb hby at_269) rfl rfl ?_
      refine own_iload (pc' := 273) X310 hx (hb hby at_271) rfl rfl ?_
      refine own_dload (pc' := 275) X310 hx (hb hby at_273) rfl rfl ?_
      refine own_dload (pc' := 277) X310 hx (hb hby at_275) rfl rfl ?_
      refine own_dload (pc' := 279) X310 hx (hb hby at_277) rfl rfl ?_
      refine own_dload (pc' := 281) X310 hx (hb hby at_279) rfl rfl ?_
      refine own_dload (pc' := 283) X310 hx (hb hby at_281) rfl rfl ?_
      refine own_dload (pc' := 285) X310 hx (hb hby at_283) rfl rfl ?_
      refine own_callS (pc' := 288) (y := (⟨"com/example/mapwright/mapwright/ArcLoadsAddToPinLaw", "expected", "(IIIIDDDDDD)D"⟩ : MethodName)) (W := 2) (rm := own_room6) (argsL := [(.int (3 : Int32)), (.int b32), (.int dd), (.int (4 : Int32)), (.double d41), (.double d301), (.double d34), (.double d35), (.double d36), (.double d37)]) (rest := [(.double (own_exp 3 b32 dd 4 d41 d301 d34 d35 d36 d37))]) X310 hx hZ Kq310 hown (by rw [hml]; rfl) (own_w42 hw) (own_w43 hw) (own_w2 hw) (own_w44 hw) (by decide) (own_rm6 lch Z a0 hw [] (3 : Int32) b32 dd (4 : Int32) d41 d301 d34 d35 d36 d37 T306.heap n0 fd41 fd301 fd34 fd35 fd36 fd37) (by decide) (by decide) (by decide) (by decide) (lenOf own_pd4 rfl) rfl (by exact Nat.le_of_eq rfl) (hb hby at_285) rfl ?_
      intro T311 Lc311 v311 X311 hQ311
      obtain ⟨rfl, Nq311, Kq311⟩ := hQ311
      have N311 := Fr.app N310 Nq311
      show own_Ends prg e below s _ _ _ T311 (mkF m 288 #[.val (.int p0), .val (.int p1), .val (.int p2), .val (.long q3), .second, .val (.int p4), .val (.int (4 : Int32)), .val (.int b32), .val (.int dd), .val (.double d34), .second, .val (.double d35), .second, .val (.double d36), .second, .val (.double d37), .second, .val (.double d38), .second, .val (.double d39), .second, .val (.double d40), .second, .val (.double d41), .second, .val (.ref ra258), .val (.ref ra261), .val (.ref a264), .val (.ref a286), .val (.double d301), .second] [(.double (own_exp 3 b32 dd 4 d41 d301 d34 d35 d36 d37)), (.double (own_exp 3 b32 dd 4 d41 d301 d34 d35 d36 d37))])
      refine own_dcmp (pc' := 289) (z := (0 : Int32)) X311 hx (hb hby at_288) rfl (dcmpV_self (own_exp_nn fd41 fd301 fd34 fd35 fd36 fd37) _) ?_
      refine own_ifNo (pc' := 292) X311 hx (hb hby at_289) rfl (teq (by decide)).2 ?_
      refine own_iconst (pc' := 293) (z := (1 : Int32)) X311 hx (hb hby at_292) rfl rfl ?_
      refine own_goto (pc' := 297) X311 hx (hb hby at_293) (by decide) (by decide) ?_
      refine own_retN X311 hx hlk hret (by simp) (hb hby at_297) (by decide) (by decide) ?_
      exact ⟨rfl, N311⟩
  refine own_iloadN (pc' := 15) X0 hx (hb hby at_14) rfl rfl ?_
  refine own_iconst (pc' := 16) (z := (2 : Int32)) X0 hx (hb hby at_15) rfl rfl ?_
  refine own_iushr (pc' := 17) (z := (own_ushr p0 (2 : Int32))) X0 hx (hb hby at_16) rfl rfl ?_
  refine own_iconst (pc' := 18) (z := (1 : Int32)) X0 hx (hb hby at_17) rfl rfl ?_
  refine own_iand (pc' := 19) (z := ((own_ushr p0 (2 : Int32)) &&& (1 : Int32))) X0 hx (hb hby at_18) rfl rfl ?_
  by_cases hc19_312 : ((own_ushr p0 (2 : Int32)) &&& (1 : Int32)) = (0 : Int32)
  · refine own_ifNo (pc' := 22) X0 hx (hb hby at_19) rfl (teq hc19_312).2 ?_
    refine own_iconst (pc' := 23) (z := (1 : Int32)) X0 hx (hb hby at_22) rfl rfl ?_
    refine own_goto (pc' := 27) X0 hx (hb hby at_23) (by decide) (by decide) ?_
    exact K33 _ (by decide)
  · refine own_ifYes (pc' := 26) X0 hx (hb hby at_19) (feq hc19_312).2 (by decide) (by decide) ?_
    refine own_iconst (pc' := 27) (z := (3 : Int32)) X0 hx (hb hby at_26) rfl rfl ?_
    exact K33 _ (by decide)
set_option maxRecDepth 65536 in
set_option maxHeartbeats 40000000 in
theorem own_comes {Post : Tables → Env → Array Value → State → Outcome → State → Prop} (hpost : ∀ tb e args s v u, (limb_1_1.after args s (.returned v) u = true ∧ limb_1_2.after args s (.returned v) u = true ∧ True) → FrameEnd s (.returned v) u (Jvm.fieldLocs frame_1_writes args s ++ Jvm.arrayLocs frame_1_arrays args s ++ Jvm.staticLocs frame_1_statics s) 24 128 → Post tb e args s (.returned v) u) :
    ArmFor flags0 classFile x code maxLocals ret World_1 tables_1 room_1 Calls_1 rest_1 Pre_1 Post := by
  intro l hfl _ _ p e ha hc hk s m args below hf hA hF happ hP
  obtain ⟨hcalls, hrest, hpre⟩ := hP
  obtain ⟨-, -, -, hnamed, -, -, -, hat⟩ := (Spec.applies_iff hf).mp happ
  obtain ⟨hg, hn⟩ := and_e (Cond.before_iff.mp (show (Jvm.Cond.and given_1 narrow_1).before args s = true from hpre))
  obtain ⟨g1, g2⟩ := and_e hg
  obtain ⟨g3, g4⟩ := and_e g2
  obtain ⟨g5, g6⟩ := and_e g4
  obtain ⟨g7, g8⟩ := and_e g6
  obtain ⟨g9, g10⟩ := and_e g8
  obtain ⟨w0, w1, w2, w3, w4, rfl⟩ : ∃ w0 w1 w2 w3 w4 : Value, args = #[w0, w1, w2, w3, w4] := by
    have hs : args.size = 5 := by simpa [Cond.value, given_1] using g1
    obtain ⟨L⟩ := args
    match L, hs with
    | [w0, w1, w2, w3, w4], _ => exact ⟨w0, w1, w2, w3, w4, rfl⟩
  have hw := fun d (hd : d ∈ tables_1) => atoms_spec (ws := Jvm.Cond.code x code maxLocals ret :: tables_1) hat d (List.mem_cons_of_mem _ hd)
  have hfit : Fit s := fun {y c} hc i hi => by
    obtain ⟨ha, rfl⟩ := Array.getElem?_eq_some_iff.mp hc
    have q := List.all_eq_true.mp ((Array.all_eq_true_iff_forall_mem.mp hF) _ (Array.getElem_mem ha)) i (List.mem_range.mpr hi)
    simpa [Array.getElem?_eq_getElem hi] using q
  obtain ⟨i0, ei0⟩ := is_v g3
  obtain rfl : w0 = (.int i0) := Option.some.inj ei0
  obtain ⟨i1, ei1⟩ := is_v g5
  obtain rfl : w1 = (.int i1) := Option.some.inj ei1
  obtain ⟨i2, ei2⟩ := is_v g7
  obtain rfl : w2 = (.int i2) := Option.some.inj ei2
  obtain ⟨i3, ei3⟩ := isL_v g9
  obtain rfl : w3 = (.long i3) := Option.some.inj ei3
  obtain ⟨i4, ei4⟩ := is_v g10
  obtain rfl : w4 = (.int i4) := Option.some.inj ei4
  obtain ⟨n, o, h1, h2, h3, _, L, rfl, ⟨rfl, N⟩, hq⟩ := own_rm0 l s _ hw tables_1 i0 i1 i2 i3 i4 s.heap s.heap.size (Nat.le_refl _) p e ha hc hk s m _ below hf ((Spec.applies_iff_loose hf).mp happ).1 ⟨rfl, State.Warmed39.refl s, rfl⟩ trivial
  refine ⟨n, _, h1, h2, h3, hpost _ _ _ _ _ _ ⟨Cond.after_iff.mpr rfl, Cond.after_iff.mpr (eq_i res_at (Term.int_eval (1)) rfl), trivial⟩ ⟨hq.1, hq.2.1, (hq.2.2.sift fun y hy => Or.inr (N y hy)).mono (by decide) (by decide)⟩⟩
theorem main_1_1 : Claimed_1_1 := own_comes fun _ _ _ _ _ _ h hF => ⟨h.1, hF⟩
theorem main_1_2 : Claimed_1_2 := own_comes fun _ _ _ _ _ _ h hF => ⟨h.2.1, hF⟩
end Jvm.Pilot.@@N@@
namespace Jvm.Pilot.@@N@@
open Jvm Jvm.ClassFile Sem Op Lib Jvm.Free Jvm.Stand Jvm.Pilot.@@N@@.Jvm.D
/-! MADE BY PROGRAM (witnessworld.py) out of the Statement's table words and the real class files: 9 classes; the members and pool entries that the words name. The judged class is class 1, her method 1. -/
namespace start1
open Jvm.ClassFile
def u (s : String) : CpInfo := .utf8 (stringToUtf16 s)
/-- a pool by its gaps: so many unusable entries, then the entry; so many at the end -/
def gap : Nat → List CpInfo → List CpInfo
  | 0, r => r
  | n + 1, r => .unusable :: gap n r
def poolList (es : List (Nat × CpInfo)) (last : Nat) : List CpInfo := es.foldr (fun e r => gap e.1 (e.2 :: r)) (gap last [])
def pool (es : List (Nat × CpInfo)) (last : Nat) : Array CpInfo := ⟨poolList es last⟩
def fileOf (pool : Array CpInfo) (this : Nat) (attrs : Array Attribute := #[]) (ms : Array MethodInfo := #[]) (fl : Nat := 33) (sup : Nat := 0) (ifs : Array Nat := #[]) (fds : Array FieldInfo := #[]) : ClassFile where
  minorVersion := 0
  majorVersion := 65
  constantPool := pool
  accessFlags := fl
  thisClass := this
  superClass := sup
  interfaces := ifs
  fields := fds
  methods := ms
  attributes := attrs
def plain (name : String) (sup : Option ClassId) : Class where
  name := name
  kind := .ordinary
  loader := none
  accessFlags := 33
  super := sup
  interfaces := #[]
  cf := none
  fields := #[]
  methods := #[]
  instanceTypes := #[]
  staticTypes := #[]
  resolved := #[]
  callSites := []
  init := .initialized
  statics := none
  mirror := none

def pool0 : Array CpInfo := pool [(5, u "<init>"), (0, u "()V"), (1, .class_ 10), (1, u "java/lang/Object"), (85, u "clone"), (0, u "()Ljava/lang/Object;")] 26

def k0c0 : Code := { maxStack := 0, maxLocals := 1, code := object_method_1_code, exceptionTable := #[], attributes := #[] }
def k0m0 : Method := { name := "<init>", desc := "()V", sig := { parameters := [], returnType := none }, accessFlags := 1, code := some k0c0 }
def k0m1 : Method := { name := "clone", desc := "()Ljava/lang/Object;", sig := { parameters := [], returnType := some (.object "java/lang/Object") }, accessFlags := 260, code := none }
/-- java/lang/Object -/
def k0 : Class := { plain "java/lang/Object" none with
  accessFlags := 33
  interfaces := #[]
  cf := some (fileOf pool0 8 #[] #[{ accessFlags := 1, nameIndex := 5, descriptorIndex := 6, attributes := #[] }, { accessFlags := 260, nameIndex := 96, descriptorIndex := 97, attributes := #[] }] 33 0 #[] #[])
  fields := #[]
  methods := #[k0m0, k0m1]
  instanceTypes := #[]
  staticTypes := #[]
  resolved := Array.replicate 124 none
  statics := none }

def pool1 : Array CpInfo := pool [(2, .class_ 4), (1, u "java/lang/Object"), (0, u "<init>"), (0, u "()V"), (0, .methodref 8 9), (0, .class_ 10), (0, .nameAndType 11 12), (0, u "com/example/mapwright/mapwright/ArcLoadsAddToPinLaw"), (0, u "arcsOf"), (0, u "(III)[I"), (0, .methodref 8 14), (0, .nameAndType 15 16), (0, u "perOf"), (0, u "(IDDDD)[D"), (0, .class_ 18), (0, u "com/example/mapwright/mapwright/ArcLoads"), (0, .methodref 17 20), (0, .nameAndType 5 21), (0, u "([I[D)V"), (0, .methodref 17 23), (0, .nameAndType 24 25), (0, u "addTo"), (0, u "([DD)V"), (0, .methodref 8 27), (0, .nameAndType 28 29), (0, u "expected"), (0, u "(IIIIDDDDDD)D"), (2, u "law"), (0, u "(IIIJI)Z")] 7

def k1m0 : Method := { name := "<init>", desc := "()V", sig := { parameters := [], returnType := none }, accessFlags := 1, code := none }
def k1c1 : Code := { maxStack := 18, maxLocals := 31, code := code, exceptionTable := #[], attributes := #[] }
def k1m1 : Method := { name := "law", desc := "(IIIJI)Z", sig := { parameters := [.int, .int, .int, .long, .int], returnType := some .boolean }, accessFlags := 9, code := some k1c1 }
def k1c2 : Code := { maxStack := 4, maxLocals := 7, code := method_3_code, exceptionTable := #[], attributes := #[] }
def k1m2 : Method := { name := "arcsOf", desc := "(III)[I", sig := { parameters := [.int, .int, .int], returnType := some (.array .int) }, accessFlags := 10, code := some k1c2 }
def k1c3 : Code := { maxStack := 5, maxLocals := 9, code := method_4_code, exceptionTable := #[], attributes := #[] }
def k1m3 : Method := { name := "perOf", desc := "(IDDDD)[D", sig := { parameters := [.int, .double, .double, .double, .double], returnType := some (.array .double) }, accessFlags := 10, code := some k1c3 }
def k1c4 : Code := { maxStack := 6, maxLocals := 19, code := method_5_code, exceptionTable := #[], attributes := #[] }
def k1m4 : Method := { name := "expected", desc := "(IIIIDDDDDD)D", sig := { parameters := [.int, .int, .int, .int, .double, .double, .double, .double, .double, .double], returnType := some .double }, accessFlags := 10, code := some k1c4 }
/-- com/example/mapwright/mapwright/ArcLoadsAddToPinLaw -/
def k1 : Class := { plain "com/example/mapwright/mapwright/ArcLoadsAddToPinLaw" (some 0) with
  accessFlags := 49
  interfaces := #[]
  cf := some (fileOf pool1 8 #[] #[{ accessFlags := 1, nameIndex := 5, descriptorIndex := 6, attributes := #[] }, { accessFlags := 9, nameIndex := 32, descriptorIndex := 33, attributes := #[] }, { accessFlags := 10, nameIndex := 11, descriptorIndex := 12, attributes := #[] }, { accessFlags := 10, nameIndex := 15, descriptorIndex := 16, attributes := #[] }, { accessFlags := 10, nameIndex := 28, descriptorIndex := 29, attributes := #[] }] 49 2 #[] #[])
  fields := #[]
  methods := #[k1m0, k1m1, k1m2, k1m3, k1m4]
  instanceTypes := #[]
  staticTypes := #[]
  resolved := Array.replicate 41 none
  statics := none }

def pool2 : Array CpInfo := pool [(1, .methodref 2 3), (0, .class_ 4), (0, .nameAndType 5 6), (0, u "java/lang/Object"), (0, u "<init>"), (0, u "()V"), (9, .methodref 17 18), (0, .class_ 19), (0, .nameAndType 20 21), (0, u "[I"), (0, u "clone"), (0, u "()Ljava/lang/Object;"), (0, .fieldref 23 24), (0, .class_ 25), (0, .nameAndType 26 19), (0, u "com/example/mapwright/mapwright/ArcLoads"), (0, u "arcs"), (0, .methodref 28 18), (0, .class_ 29), (0, u "[D"), (0, .fieldref 23 31), (0, .nameAndType 32 29), (0, u "perUnit"), (5, u "([DD)V"), (2, u "([I[D)V"), (10, u "addTo")] 17

def k2c0 : Code := { maxStack := 4, maxLocals := 3, code := prog_1_method_1_code, exceptionTable := #[], attributes := #[] }
def k2m0 : Method := { name := "<init>", desc := "([I[D)V", sig := { parameters := [(.array .int), (.array .double)], returnType := none }, accessFlags := 0, code := some k2c0 }
def k2c1 : Code := { maxStack := 8, maxLocals := 5, code := prog_1_method_6_code, exceptionTable := #[], attributes := #[] }
def k2m1 : Method := { name := "addTo", desc := "([DD)V", sig := { parameters := [(.array .double), .double], returnType := none }, accessFlags := 0, code := some k2c1 }
/-- com/example/mapwright/mapwright/ArcLoads -/
def k2 : Class := { plain "com/example/mapwright/mapwright/ArcLoads" (some 0) with
  accessFlags := 32
  interfaces := #[]
  cf := some (fileOf pool2 23 #[] #[{ accessFlags := 0, nameIndex := 5, descriptorIndex := 41, attributes := #[] }, { accessFlags := 0, nameIndex := 52, descriptorIndex := 38, attributes := #[] }] 32 2 #[] #[{ accessFlags := 18, nameIndex := 26, descriptorIndex := 19, attributes := #[] }, { accessFlags := 18, nameIndex := 32, descriptorIndex := 29, attributes := #[] }])
  fields := #[{ name := "arcs", type := (.array .int), accessFlags := 18, slot := 0, constantValue := 0 }, { name := "perUnit", type := (.array .double), accessFlags := 18, slot := 1, constantValue := 0 }]
  methods := #[k2m0, k2m1]
  instanceTypes := #[(.array .int), (.array .double)]
  staticTypes := #[]
  resolved := Array.replicate 70 none
  statics := none }

def pool3 : Array CpInfo := pool [(1, .class_ 2), (0, u "java/lang/Cloneable"), (0, .class_ 4), (0, u "java/lang/Object")] 2

/-- java/lang/Cloneable -/
def k3 : Class := { plain "java/lang/Cloneable" (some 0) with
  accessFlags := 1537
  interfaces := #[]
  cf := some (fileOf pool3 1 #[] #[] 1537 3 #[] #[])
  fields := #[]
  methods := #[]
  instanceTypes := #[]
  staticTypes := #[]
  resolved := Array.replicate 7 none
  statics := none }

def pool4 : Array CpInfo := pool [(1, u "java/io/Serializable"), (0, .class_ 1), (0, u "java/lang/Object"), (0, .class_ 3)] 3

/-- java/io/Serializable -/
def k4 : Class := { plain "java/io/Serializable" (some 0) with
  accessFlags := 1537
  interfaces := #[]
  cf := some (fileOf pool4 2 #[] #[] 1537 4 #[] #[])
  fields := #[]
  methods := #[]
  instanceTypes := #[]
  staticTypes := #[]
  resolved := Array.replicate 8 none
  statics := none }

/-- the primitive byte -/
def k5 : Class := { plain "byte" none with kind := .primitive 'B', accessFlags := 0x411 }
/-- [B -/
def k6 : Class := { plain "[B" (some 0) with kind := .array 5 .byte, interfaces := #[3, 4], accessFlags := 1041 }

/-- the primitive int -/
def k7 : Class := { plain "int" none with kind := .primitive 'I', accessFlags := 0x411 }
/-- [I -/
def k8 : Class := { plain "[I" (some 0) with kind := .array 7 .int, interfaces := #[3, 4], accessFlags := 1041 }

def k9 : Class := { plain "double" none with kind := .primitive 'D', accessFlags := 0x411 }
def k10 : Class := { plain "[D" (some 0) with kind := .array 9 .double, interfaces := #[3, 4], accessFlags := 1041 }
def heap : Heap := #[]
def classes : Array Class := #[k0, k1, k2, k3, k4, k5, k6, k7, k8, k9, k10]
def interned : List (Array UInt16 × Addr) := []
def slotsUsed : Nat := 0
def theMethod : MethodId := ⟨1, 1⟩
def args0 : Array Value := #[.int 5, .int 5, .int 5, .long 5, .int 5]
def aboutOver (below : List Frame) : State where
  vm := { classes := classes, interned := interned.toArray }
  heap := heap
  slotsUsed := slotsUsed
  threads := #[{ frames := .invoking theMethod args0 :: below }]
def below0 : List Frame := [.native { method := ⟨0, 0⟩, args := #[] }]
def about1 : State := aboutOver below0
def p0 : Program := .bare "" "" ""
def e0 : Env := launch0.env 0 0 0
theorem w_frames : about1.frames = Frame.invoking theMethod args0 :: below0 := rfl
set_option maxRecDepth 65536 in
theorem w_args : argsFit about1.vm theMethod args0 = true := by decide +kernel
set_option maxRecDepth 65536 in
theorem w_heap : heapFits about1 = true := by decide +kernel
set_option maxRecDepth 65536 in
theorem w_runnable : about1.curStatus? = some .runnable := by decide +kernel
set_option maxRecDepth 65536 in
theorem w_alone : about1.alone = true := by decide +kernel
set_option maxRecDepth 65536 in
theorem w_named : about1.methodNamed? x = some theMethod := by decide +kernel
set_option maxRecDepth 65536 in
theorem w_hears : about1.hears theMethod below0 = true := by decide +kernel
set_option maxRecDepth 65536 in
theorem w_ripe : about1.ripe theMethod args0 below0 = true := by decide +kernel
theorem w_running : about1.status = .running := rfl
set_option maxRecDepth 65536 in
theorem w_room : about1.hasRoom e0.platform room_1 = true :=
  launch0.hasRoom_least _ room_1 (by decide +kernel) (by decide +kernel) (by decide +kernel) (by decide +kernel) (by decide +kernel) (by decide +kernel)
theorem allAtoms_all (ts : List Jvm.Cond) (a : Array Jvm.Value) (st : Jvm.State) : (allAtoms ts).before a st = ts.all (fun c => c.before a st) := by
  induction ts with
  | nil => rfl
  | cons c t ih =>
    show (Jvm.Cond.and c (allAtoms t)).before a st = _
    rw [Jvm.Cond.before_and, ih, List.all_cons]
def words1 : List Jvm.Cond := Jvm.Cond.code x code maxLocals ret :: tables_1
/-- a 'code' word, met by the world's own term for the bytes: nothing is compared byte by byte -/
theorem code_word {y : MethodName} {bytes : ByteArray} {mx : Nat} {rt : Option FieldType} {a : Array Value} {s : State} {m : MethodId} {meth : Method} {c : Code} (h1 : s.methodNamed? y = some m) (h2 : s.vm.method? m = some meth) (h3 : meth.code = some c) (h4 : c.code = bytes)
    (h5 : (c.maxLocals == mx && c.exceptionTable.isEmpty && decide (c.maxStack ≤ mostOperands) && decide (meth.sig.returnType = rt) && !meth.locks && decide (parseMethodDescriptor y.desc = some meth.sig)) = true) : (Jvm.Cond.code y bytes mx rt).before a s = true := by
  simp only [Bool.and_eq_true, beq_iff_eq, Bool.not_eq_true', decide_eq_true_eq] at h5
  obtain ⟨⟨⟨⟨⟨g1, g2⟩, g3⟩, g4⟩, g5⟩, g6⟩ := h5
  simp [Cond.before, Cond.holds, Cond.value, h1, h2, h3, h4, g1, g2, g3, g4, g5, g6]
def isCode : Jvm.Cond → Bool
  | .code _ _ _ _ => true
  | _ => false
theorem all_split {L : List Jvm.Cond} {P : Jvm.Cond → Bool} (h1 : L.all (fun c => isCode c || P c) = true) (h2 : ∀ c ∈ L.filter isCode, P c = true) : L.all P = true := by
  refine List.all_eq_true.mpr fun c hc => ?_
  have h := List.all_eq_true.mp h1 c hc
  rcases Bool.eq_false_or_eq_true (isCode c) with hi | hi
  · exact h2 c (List.mem_filter.mpr ⟨hc, hi⟩)
  · simpa [hi] using h
set_option maxRecDepth 65536 in
theorem w_c0 : (Jvm.Cond.code x code maxLocals ret).before args0 about1 = true := code_word (m := ⟨1, 1⟩) (meth := k1m1) (c := k1c1) (by decide +kernel) rfl rfl rfl (by decide +kernel)
set_option maxRecDepth 65536 in
theorem w_c1 : (Jvm.Cond.code ({ cls := "com/example/mapwright/mapwright/ArcLoadsAddToPinLaw", name := "arcsOf", desc := "(III)[I" } : Jvm.MethodName) method_3_code (7 : Nat) (Option.some (Jvm.ClassFile.FieldType.array Jvm.ClassFile.FieldType.int))).before args0 about1 = true := code_word (m := ⟨1, 2⟩) (meth := k1m2) (c := k1c2) (by decide +kernel) rfl rfl rfl (by decide +kernel)
set_option maxRecDepth 65536 in
theorem w_c2 : (Jvm.Cond.code ({ cls := "com/example/mapwright/mapwright/ArcLoadsAddToPinLaw", name := "perOf", desc := "(IDDDD)[D" } : Jvm.MethodName) method_4_code (9 : Nat) (Option.some (Jvm.ClassFile.FieldType.array Jvm.ClassFile.FieldType.double))).before args0 about1 = true := code_word (m := ⟨1, 3⟩) (meth := k1m3) (c := k1c3) (by decide +kernel) rfl rfl rfl (by decide +kernel)
set_option maxRecDepth 65536 in
theorem w_c3 : (Jvm.Cond.code ({ cls := "com/example/mapwright/mapwright/ArcLoads", name := "<init>", desc := "([I[D)V" } : Jvm.MethodName) prog_1_method_1_code (3 : Nat) (Option.none : Option Jvm.ClassFile.FieldType)).before args0 about1 = true := code_word (m := ⟨2, 0⟩) (meth := k2m0) (c := k2c0) (by decide +kernel) rfl rfl rfl (by decide +kernel)
set_option maxRecDepth 65536 in
theorem w_c4 : (Jvm.Cond.code ({ cls := "java/lang/Object", name := "<init>", desc := "()V" } : Jvm.MethodName) object_method_1_code (1 : Nat) (Option.none : Option Jvm.ClassFile.FieldType)).before args0 about1 = true := code_word (m := ⟨0, 0⟩) (meth := k0m0) (c := k0c0) (by decide +kernel) rfl rfl rfl (by decide +kernel)
set_option maxRecDepth 65536 in
theorem w_c5 : (Jvm.Cond.code ({ cls := "com/example/mapwright/mapwright/ArcLoads", name := "addTo", desc := "([DD)V" } : Jvm.MethodName) prog_1_method_6_code (5 : Nat) (Option.none : Option Jvm.ClassFile.FieldType)).before args0 about1 = true := code_word (m := ⟨2, 1⟩) (meth := k2m1) (c := k2c1) (by decide +kernel) rfl rfl rfl (by decide +kernel)
set_option maxRecDepth 65536 in
theorem w_c6 : (Jvm.Cond.code ({ cls := "com/example/mapwright/mapwright/ArcLoadsAddToPinLaw", name := "expected", desc := "(IIIIDDDDDD)D" } : Jvm.MethodName) method_5_code (19 : Nat) (Option.some Jvm.ClassFile.FieldType.double)).before args0 about1 = true := code_word (m := ⟨1, 4⟩) (meth := k1m4) (c := k1c4) (by decide +kernel) rfl rfl rfl (by decide +kernel)
def codes1 : List Jvm.Cond := [Jvm.Cond.code x code maxLocals ret, Jvm.Cond.code ({ cls := "com/example/mapwright/mapwright/ArcLoadsAddToPinLaw", name := "arcsOf", desc := "(III)[I" } : Jvm.MethodName) method_3_code (7 : Nat) (Option.some (Jvm.ClassFile.FieldType.array Jvm.ClassFile.FieldType.int)), Jvm.Cond.code ({ cls := "com/example/mapwright/mapwright/ArcLoadsAddToPinLaw", name := "perOf", desc := "(IDDDD)[D" } : Jvm.MethodName) method_4_code (9 : Nat) (Option.some (Jvm.ClassFile.FieldType.array Jvm.ClassFile.FieldType.double)), Jvm.Cond.code ({ cls := "com/example/mapwright/mapwright/ArcLoads", name := "<init>", desc := "([I[D)V" } : Jvm.MethodName) prog_1_method_1_code (3 : Nat) (Option.none : Option Jvm.ClassFile.FieldType), Jvm.Cond.code ({ cls := "java/lang/Object", name := "<init>", desc := "()V" } : Jvm.MethodName) object_method_1_code (1 : Nat) (Option.none : Option Jvm.ClassFile.FieldType), Jvm.Cond.code ({ cls := "com/example/mapwright/mapwright/ArcLoads", name := "addTo", desc := "([DD)V" } : Jvm.MethodName) prog_1_method_6_code (5 : Nat) (Option.none : Option Jvm.ClassFile.FieldType), Jvm.Cond.code ({ cls := "com/example/mapwright/mapwright/ArcLoadsAddToPinLaw", name := "expected", desc := "(IIIIDDDDDD)D" } : Jvm.MethodName) method_5_code (19 : Nat) (Option.some Jvm.ClassFile.FieldType.double)]
set_option maxRecDepth 65536 in
theorem codes_eq : words1.filter isCode = codes1 := rfl
theorem w_codes : ∀ c ∈ words1.filter isCode, c.before args0 about1 = true := by
  rw [codes_eq]
  intro c hc
  simp only [codes1, List.mem_cons, List.not_mem_nil, or_false] at hc
  rcases hc with rfl | rfl | rfl | rfl | rfl | rfl | rfl
  · exact w_c0
  · exact w_c1
  · exact w_c2
  · exact w_c3
  · exact w_c4
  · exact w_c5
  · exact w_c6
set_option maxRecDepth 65536 in
theorem w_t1 : (words1.take 24).all (fun c => isCode c || c.before args0 about1) = true := by decide +kernel
set_option maxRecDepth 65536 in
theorem w_t2 : (words1.drop 24).all (fun c => isCode c || c.before args0 about1) = true := by decide +kernel
theorem w_tables : (allAtoms (Jvm.Cond.code x code maxLocals ret :: tables_1)).before args0 about1 = true := by
  rw [allAtoms_all]
  show words1.all (fun c => c.before args0 about1) = true
  refine all_split ?_ w_codes
  rw [← List.take_append_drop 24 words1, List.all_append, w_t1, w_t2]
  rfl
set_option maxRecDepth 65536 in
theorem w_case : (Jvm.Cond.and given_1 narrow_1).before args0 about1 = true := by decide +kernel
theorem w_applies : (headSpec (Jvm.Cond.code x code maxLocals ret :: tables_1) room_1).applies x e0.platform about1 = true :=
  (Spec.applies_iff w_frames).mpr ⟨w_running, w_runnable, w_alone, w_named, w_hears, w_ripe, w_room, w_tables⟩
theorem atStart : AtStart classFile x code maxLocals ret World_1 tables_1 room_1 Calls_1 rest_1 Pre_1 launch0 p0 e0 about1 theMethod args0 below0 :=
  ⟨lists_1, trivial, launch0.admits_env _ _ _, launch0.least_env, fairChoices_fair.cas, fairChoices_fair.clock, w_frames, w_args, w_heap, w_applies, trivial, trivial, w_case⟩
end start1
theorem witness_1 : WitnessClaimed_1 := ⟨start1.p0, start1.e0, start1.about1, start1.theMethod, start1.args0, start1.below0, start1.atStart⟩
end Jvm.Pilot.@@N@@
