import JvmDerived
import JvmDerived.Pilot.@@N@@Statement
import JvmDerived.Pilot.@@N@@Code
set_option linter.unusedVariables false
set_option linter.unusedSimpArgs false
namespace Jvm.RoadKit
open Sem ClassFile Op Lib Jvm.Stand Jvm.Free Jvm.LawKit
section New
variable {p : Program} {l : Launch} {e : Env} {R : Room} {s : State} {m : MethodId} {args : Array Value} {below : List Frame} {meth : Method} {c : Code} {T : State} {locs : List Loc} {cells slots : Nat}
theorem retI (X : Stand p l e R s m args below meth c T locs cells slots) (hx : p.tables.exec = Jvm.exec) {pc : Nat} {Ls : Array Slot} {z : Int32} {rest : List Value} (hret : meth.sig.returnType = some .int) (hd : decode c.code pc = .ok (.ireturn, 1)) {fs : List Frame}
    (hl : ∀ (f : JFrame) (acts : List Action), f.method = m → f.locked = none → f.entered = [] → (doReturn e (T.setTop f) acts (some (.int z))).1 = T.setFrames fs) : Steps p.tables e below (T.setTop (mkF m pc Ls (.int z :: rest))) (T.setFrames fs) := by
  have hm' : T.vm.method? m = some meth := X.method'
  have hn : narrow .int (.int z) = .int z := rfl
  show Steps p.tables e below (T.setTop { method := m, pc := pc, locals := Ls, stack := _ :: rest, locked := none }) _
  jvm_step X.here [X.here.top, hx, hd, hm', hret, hn]
  first | (intro acts; rw [hl _ acts rfl rfl rfl]) | rw [hl _ _ rfl rfl rfl]
  exact Steps.refl _
end New
end Jvm.RoadKit
namespace Jvm.Pilot.@@N@@
open Jvm Jvm.ClassFile Sem Op Lib Jvm.Free Jvm.Stand Jvm.LawKit Jvm.RoadKit Bundle Jvm.Pilot.@@N@@.Jvm.D
section Own
variable {p : Program} {l : Launch} {e : Env} {R : Room} {s : State} {m : MethodId} {args : Array Value} {below : List Frame} {meth : Method} {c : Code} {T T' : State} {locs : List Loc} {cells slots : Nat} {Q : Option Value → Heap → List Loc → Prop} {kc ks : Nat} {pc pc' : Nat} {ls : Array Slot} {st : List Value}
/-- from T with the frame g on top the run comes to its end, as Q asks -/
def own_Ends (p : Program) (e : Env) (below : List Frame) (s : State) (Q : Option Value → Heap → List Loc → Prop) (kc ks : Nat) (T : State) (g : JFrame) : Prop :=
  ∃ s₂ o, Steps p.tables e below (T.setTop g) s₂ ∧ s₂.status = .running ∧ Ended s₂ below o ∧ ∃ v L, o = .returned v ∧ Q v s₂.heap L ∧ FrameEnd s o s₂ L kc ks
theorem own_go {g g' : JFrame} (h : ∀ t, Steps p.tables e below (T'.setTop g') t → Steps p.tables e below (T.setTop g) t) (K : own_Ends p e below s Q kc ks T' g') : own_Ends p e below s Q kc ks T g := by
  obtain ⟨s2, o, h1, r⟩ := K
  exact ⟨s2, o, h _ h1, r⟩
theorem own_cast {g g' : JFrame} (q : g = g') (K : own_Ends p e below s Q kc ks T g') : own_Ends p e below s Q kc ks T g := q ▸ K
theorem own_leave {v : Option Value} {g : JFrame} (X : Stand p l e R s m args below meth c T locs cells slots) (hlk : meth.locks = false) (hv : meth.sig.returnType = none → v = none)
    (hs : ∀ fs, (∀ (f : JFrame) (acts : List Action), f.method = m → f.locked = none → f.entered = [] → (doReturn e (T.setTop f) acts v).1 = T.setFrames fs) → Steps p.tables e below (T.setTop g) (T.setFrames fs)) (hc : cells ≤ kc) (hn : slots ≤ ks) (hQ : Q v T.heap locs) : own_Ends p e below s Q kc ks T g := by
  obtain ⟨fs, hr, hrun, hended, hW, hsame⟩ := X.leave (v := v) hv hlk
  exact ⟨_, _, hs fs hr, hrun, hended, _, _, rfl, hQ, ⟨_, rfl⟩, hW, hsame.mono hc hn⟩
theorem own_retI (X : Stand p l e R s m args below meth c T locs cells slots) (hx : p.tables.exec = Jvm.exec) (hlk : meth.locks = false) {z : Int32} (hret : meth.sig.returnType = some .int) (hd : decode c.code pc = .ok (.ireturn, 1)) (hc : cells ≤ kc) (hn : slots ≤ ks) (hQ : Q (some (.int z)) T.heap locs) : own_Ends p e below s Q kc ks T (mkF m pc ls (.int z :: st)) :=
  own_leave X hlk (fun h => by rw [hret] at h; cases h) (fun fs hr => retI X hx hret hd hr) hc hn hQ
theorem own_retN (X : Stand p l e R s m args below meth c T locs cells slots) (hx : p.tables.exec = Jvm.exec) (hlk : meth.locks = false) {z : Int32} {ty : FieldType} (hret : meth.sig.returnType = some ty) (ht : ty = .boolean ∨ ty = .byte ∨ ty = .char ∨ ty = .short) (hd : decode c.code pc = .ok (.ireturn, 1)) (hc : cells ≤ kc) (hn : slots ≤ ks) (hQ : Q (some (.int (nar ty z))) T.heap locs) : own_Ends p e below s Q kc ks T (mkF m pc ls (.int z :: st)) :=
  own_leave X hlk (fun h => by rw [hret] at h; cases h) (fun fs hr => retN X hx (t := ty) hret ht hd hr) hc hn hQ
theorem own_retL (X : Stand p l e R s m args below meth c T locs cells slots) (hx : p.tables.exec = Jvm.exec) (hlk : meth.locks = false) {z : Int64} (hret : meth.sig.returnType = some .long) (hd : decode c.code pc = .ok (.lreturn, 1)) (hc : cells ≤ kc) (hn : slots ≤ ks) (hQ : Q (some (.long z)) T.heap locs) : own_Ends p e below s Q kc ks T (mkF m pc ls [.long z]) :=
  own_leave X hlk (fun h => by rw [hret] at h; cases h) (fun fs hr => retOut X hx (t := .long) hret rfl (Or.inr (Or.inl ⟨rfl, rfl, _, rfl⟩)) hd hr) hc hn hQ
theorem own_retD (X : Stand p l e R s m args below meth c T locs cells slots) (hx : p.tables.exec = Jvm.exec) (hlk : meth.locks = false) {z : UInt64} (hret : meth.sig.returnType = some .double) (hd : decode c.code pc = .ok (.dreturn, 1)) (hc : cells ≤ kc) (hn : slots ≤ ks) (hQ : Q (some (.double z)) T.heap locs) : own_Ends p e below s Q kc ks T (mkF m pc ls [.double z]) :=
  own_leave X hlk (fun h => by rw [hret] at h; cases h) (fun fs hr => retOut X hx (t := .double) hret rfl (Or.inr (Or.inr (Or.inl ⟨rfl, rfl, _, rfl⟩))) hd hr) hc hn hQ
theorem own_retA (X : Stand p l e R s m args below meth c T locs cells slots) (hx : p.tables.exec = Jvm.exec) (hlk : meth.locks = false) {w : Value} {ty : FieldType} (hret : meth.sig.returnType = some ty) (ht : ty.isReference = true) (hw : w.isRef = true) (hn1 : narrow ty w = w) (hd : decode c.code pc = .ok (.areturn, 1)) (hc : cells ≤ kc) (hn : slots ≤ ks) (hQ : Q (some w) T.heap locs) : own_Ends p e below s Q kc ks T (mkF m pc ls (w :: st)) :=
  own_leave X hlk (fun h => by rw [hret] at h; cases h) (fun fs hr => retOut X hx (t := ty) hret hn1 (Or.inr (Or.inr (Or.inr (Or.inr ⟨rfl, ht, hw⟩)))) hd hr) hc hn hQ
theorem own_retV (X : Stand p l e R s m args below meth c T locs cells slots) (hx : p.tables.exec = Jvm.exec) (hlk : meth.locks = false) (hret : meth.sig.returnType = none) (hd : decode c.code pc = .ok (.return_, 1)) (hc : cells ≤ kc) (hn : slots ≤ ks) (hQ : Q none T.heap locs) : own_Ends p e below s Q kc ks T (mkF m pc ls []) :=
  own_leave X hlk (fun _ => rfl) (fun fs hr => X.returnOut hx hret hd hr) hc hn hQ
theorem own_iloadN (X : Stand p l e R s m args below meth c T locs cells slots) (hx : p.tables.exec = Jvm.exec) {k : Fin 4} {v : Int32} (hd : decode c.code pc = .ok (.iload_n k, 1)) (hp : pc + 1 = pc') (hl : ls[k.val]? = some (.val (.int v))) (K : own_Ends p e below s Q kc ks T (mkF m pc' ls (.int v :: st))) : own_Ends p e below s Q kc ks T (mkF m pc ls st) := by
  subst hp
  exact own_go (fun t k => XS.iloadN X.here hx rfl hd hl k) K
theorem own_iload (X : Stand p l e R s m args below meth c T locs cells slots) (hx : p.tables.exec = Jvm.exec) {k : Nat} {v : Int32} (hd : decode c.code pc = .ok (.iload k, 2)) (hp : pc + 2 = pc') (hl : ls[k]? = some (.val (.int v))) (K : own_Ends p e below s Q kc ks T (mkF m pc' ls (.int v :: st))) : own_Ends p e below s Q kc ks T (mkF m pc ls st) := by
  subst hp
  exact own_go (fun t k => XS.iload X.here hx rfl hd hl k) K
theorem own_istoreN (X : Stand p l e R s m args below meth c T locs cells slots) (hx : p.tables.exec = Jvm.exec) {k : Fin 4} {v : Int32} {l' : Array Slot} (hd : decode c.code pc = .ok (.istore_n k, 1)) (hp : pc + 1 = pc') (hl : storeLocals ls k.val (.int v) = some l') (K : own_Ends p e below s Q kc ks T (mkF m pc' l' st)) : own_Ends p e below s Q kc ks T (mkF m pc ls (.int v :: st)) := by
  subst hp
  exact own_go (fun t k => XS.istoreN X.here hx rfl hd rfl hl k) K
theorem own_istore (X : Stand p l e R s m args below meth c T locs cells slots) (hx : p.tables.exec = Jvm.exec) {k : Nat} {v : Int32} {l' : Array Slot} (hd : decode c.code pc = .ok (.istore k, 2)) (hp : pc + 2 = pc') (hl : storeLocals ls k (.int v) = some l') (K : own_Ends p e below s Q kc ks T (mkF m pc' l' st)) : own_Ends p e below s Q kc ks T (mkF m pc ls (.int v :: st)) := by
  subst hp
  exact own_go (fun t k => XS.istore X.here hx rfl hd rfl hl k) K
theorem own_lloadN (X : Stand p l e R s m args below meth c T locs cells slots) (hx : p.tables.exec = Jvm.exec) {k : Fin 4} {v : Int64} (hd : decode c.code pc = .ok (.lload_n k, 1)) (hp : pc + 1 = pc') (hl : ls[k.val]? = some (.val (.long v))) (K : own_Ends p e below s Q kc ks T (mkF m pc' ls (.long v :: st))) : own_Ends p e below s Q kc ks T (mkF m pc ls st) := by
  subst hp
  exact own_go (fun t k => XS.lloadN X.here hx rfl hd hl k) K
theorem own_lload (X : Stand p l e R s m args below meth c T locs cells slots) (hx : p.tables.exec = Jvm.exec) {k : Nat} {v : Int64} (hd : decode c.code pc = .ok (.lload k, 2)) (hp : pc + 2 = pc') (hl : ls[k]? = some (.val (.long v))) (K : own_Ends p e below s Q kc ks T (mkF m pc' ls (.long v :: st))) : own_Ends p e below s Q kc ks T (mkF m pc ls st) := by
  subst hp
  exact own_go (fun t k => XS.lload X.here hx rfl hd hl k) K
theorem own_lstoreN (X : Stand p l e R s m args below meth c T locs cells slots) (hx : p.tables.exec = Jvm.exec) {k : Fin 4} {v : Int64} {l' : Array Slot} (hd : decode c.code pc = .ok (.lstore_n k, 1)) (hp : pc + 1 = pc') (hl : storeLocals ls k.val (.long v) = some l') (K : own_Ends p e below s Q kc ks T (mkF m pc' l' st)) : own_Ends p e below s Q kc ks T (mkF m pc ls (.long v :: st)) := by
  subst hp
  exact own_go (fun t k => XS.lstoreN X.here hx rfl hd rfl hl k) K
theorem own_lstore (X : Stand p l e R s m args below meth c T locs cells slots) (hx : p.tables.exec = Jvm.exec) {k : Nat} {v : Int64} {l' : Array Slot} (hd : decode c.code pc = .ok (.lstore k, 2)) (hp : pc + 2 = pc') (hl : storeLocals ls k (.long v) = some l') (K : own_Ends p e below s Q kc ks T (mkF m pc' l' st)) : own_Ends p e below s Q kc ks T (mkF m pc ls (.long v :: st)) := by
  subst hp
  exact own_go (fun t k => XS.lstore X.here hx rfl hd rfl hl k) K
theorem own_dloadN (X : Stand p l e R s m args below meth c T locs cells slots) (hx : p.tables.exec = Jvm.exec) {k : Fin 4} {v : UInt64} (hd : decode c.code pc = .ok (.dload_n k, 1)) (hp : pc + 1 = pc') (hl : ls[k.val]? = some (.val (.double v))) (K : own_Ends p e below s Q kc ks T (mkF m pc' ls (.double v :: st))) : own_Ends p e below s Q kc ks T (mkF m pc ls st) := by
  subst hp
  exact own_go (fun t k => XS.dloadN X.here hx rfl hd hl k) K
theorem own_dload (X : Stand p l e R s m args below meth c T locs cells slots) (hx : p.tables.exec = Jvm.exec) {k : Nat} {v : UInt64} (hd : decode c.code pc = .ok (.dload k, 2)) (hp : pc + 2 = pc') (hl : ls[k]? = some (.val (.double v))) (K : own_Ends p e below s Q kc ks T (mkF m pc' ls (.double v :: st))) : own_Ends p e below s Q kc ks T (mkF m pc ls st) := by
  subst hp
  exact own_go (fun t k => XS.dload X.here hx rfl hd hl k) K
theorem own_dstoreN (X : Stand p l e R s m args below meth c T locs cells slots) (hx : p.tables.exec = Jvm.exec) {k : Fin 4} {v : UInt64} {l' : Array Slot} (hd : decode c.code pc = .ok (.dstore_n k, 1)) (hp : pc + 1 = pc') (hl : storeLocals ls k.val (.double v) = some l') (K : own_Ends p e below s Q kc ks T (mkF m pc' l' st)) : own_Ends p e below s Q kc ks T (mkF m pc ls (.double v :: st)) := by
  subst hp
  exact own_go (fun t k => XS.dstoreN X.here hx rfl hd rfl hl k) K
theorem own_dstore (X : Stand p l e R s m args below meth c T locs cells slots) (hx : p.tables.exec = Jvm.exec) {k : Nat} {v : UInt64} {l' : Array Slot} (hd : decode c.code pc = .ok (.dstore k, 2)) (hp : pc + 2 = pc') (hl : storeLocals ls k (.double v) = some l') (K : own_Ends p e below s Q kc ks T (mkF m pc' l' st)) : own_Ends p e below s Q kc ks T (mkF m pc ls (.double v :: st)) := by
  subst hp
  exact own_go (fun t k => XS.dstore X.here hx rfl hd rfl hl k) K
theorem own_aloadN (X : Stand p l e R s m args below meth c T locs cells slots) (hx : p.tables.exec = Jvm.exec) {k : Fin 4} {v : Value} (hd : decode c.code pc = .ok (.aload_n k, 1)) (hp : pc + 1 = pc') (hl : ls[k.val]? = some (.val v)) (hv : v.isRef = true) (K : own_Ends p e below s Q kc ks T (mkF m pc' ls (v :: st))) : own_Ends p e below s Q kc ks T (mkF m pc ls st) := by
  subst hp
  exact own_go (fun t k => XS.aloadN X.here hx rfl hd hl hv k) K
theorem own_aload (X : Stand p l e R s m args below meth c T locs cells slots) (hx : p.tables.exec = Jvm.exec) {k : Nat} {v : Value} (hd : decode c.code pc = .ok (.aload k, 2)) (hp : pc + 2 = pc') (hl : ls[k]? = some (.val v)) (hv : v.isRef = true) (K : own_Ends p e below s Q kc ks T (mkF m pc' ls (v :: st))) : own_Ends p e below s Q kc ks T (mkF m pc ls st) := by
  subst hp
  exact own_go (fun t k => XS.aload X.here hx rfl hd hl hv k) K
theorem own_astoreN (X : Stand p l e R s m args below meth c T locs cells slots) (hx : p.tables.exec = Jvm.exec) {k : Fin 4} {v : Value} {l' : Array Slot} (hd : decode c.code pc = .ok (.astore_n k, 1)) (hp : pc + 1 = pc') (hv : v.isRef = true) (hl : storeLocals ls k.val v = some l') (K : own_Ends p e below s Q kc ks T (mkF m pc' l' st)) : own_Ends p e below s Q kc ks T (mkF m pc ls (v :: st)) := by
  subst hp
  exact own_go (fun t k => XS.astoreN X.here hx rfl hd rfl hv hl k) K
theorem own_astore (X : Stand p l e R s m args below meth c T locs cells slots) (hx : p.tables.exec = Jvm.exec) {k : Nat} {v : Value} {l' : Array Slot} (hd : decode c.code pc = .ok (.astore k, 2)) (hp : pc + 2 = pc') (hv : v.isRef = true) (hl : storeLocals ls k v = some l') (K : own_Ends p e below s Q kc ks T (mkF m pc' l' st)) : own_Ends p e below s Q kc ks T (mkF m pc ls (v :: st)) := by
  subst hp
  exact own_go (fun t k => XS.astore X.here hx rfl hd rfl hv hl k) K
theorem own_iconst (X : Stand p l e R s m args below meth c T locs cells slots) (hx : p.tables.exec = Jvm.exec) {i : Int} {z : Int32} (hd : decode c.code pc = .ok (.iconst i, 1)) (hp : pc + 1 = pc') (hz : Int32.ofInt i = z) (K : own_Ends p e below s Q kc ks T (mkF m pc' ls (.int z :: st))) : own_Ends p e below s Q kc ks T (mkF m pc ls st) := by
  subst hp hz
  exact own_go (fun t k => XS.iconst X.here hx rfl hd k) K
theorem own_bipush (X : Stand p l e R s m args below meth c T locs cells slots) (hx : p.tables.exec = Jvm.exec) {i : Int} {z : Int32} (hd : decode c.code pc = .ok (.bipush i, 2)) (hp : pc + 2 = pc') (hz : (Int8.ofInt i).toInt32 = z) (K : own_Ends p e below s Q kc ks T (mkF m pc' ls (.int z :: st))) : own_Ends p e below s Q kc ks T (mkF m pc ls st) := by
  subst hp hz
  exact own_go (fun t k => XS.bipush X.here hx rfl hd k) K
theorem own_sipush (X : Stand p l e R s m args below meth c T locs cells slots) (hx : p.tables.exec = Jvm.exec) {i : Int} {z : Int32} (hd : decode c.code pc = .ok (.sipush i, 3)) (hp : pc + 3 = pc') (hz : (Int16.ofInt i).toInt32 = z) (K : own_Ends p e below s Q kc ks T (mkF m pc' ls (.int z :: st))) : own_Ends p e below s Q kc ks T (mkF m pc ls st) := by
  subst hp hz
  exact own_go (fun t k => XS.sipush X.here hx rfl hd k) K
theorem own_lconst (X : Stand p l e R s m args below meth c T locs cells slots) (hx : p.tables.exec = Jvm.exec) {k : Fin 2} {z : Int64} (hd : decode c.code pc = .ok (.lconst k, 1)) (hp : pc + 1 = pc') (hz : Int64.ofNat k = z) (K : own_Ends p e below s Q kc ks T (mkF m pc' ls (.long z :: st))) : own_Ends p e below s Q kc ks T (mkF m pc ls st) := by
  subst hp hz
  exact own_go (fun t k => XS.lconst X.here hx rfl hd k) K
theorem own_anull (X : Stand p l e R s m args below meth c T locs cells slots) (hx : p.tables.exec = Jvm.exec) (hd : decode c.code pc = .ok (.aconst_null, 1)) (hp : pc + 1 = pc')  (K : own_Ends p e below s Q kc ks T (mkF m pc' ls (.null :: st))) : own_Ends p e below s Q kc ks T (mkF m pc ls st) := by
  subst hp
  exact own_go (fun t k => XS.aconstNull X.here hx rfl hd k) K
theorem own_iadd (X : Stand p l e R s m args below meth c T locs cells slots) (hx : p.tables.exec = Jvm.exec) {x y z : Int32} (hd : decode c.code pc = .ok (.iadd, 1)) (hp : pc + 1 = pc') (hz : x + y = z) (K : own_Ends p e below s Q kc ks T (mkF m pc' ls (.int z :: st))) : own_Ends p e below s Q kc ks T (mkF m pc ls (.int y :: .int x :: st)) := by
  subst hp hz
  exact own_go (fun t k => XS.iadd X.here hx rfl hd rfl k) K
theorem own_ladd (X : Stand p l e R s m args below meth c T locs cells slots) (hx : p.tables.exec = Jvm.exec) {x y z : Int64} (hd : decode c.code pc = .ok (.ladd, 1)) (hp : pc + 1 = pc') (hz : x + y = z) (K : own_Ends p e below s Q kc ks T (mkF m pc' ls (.long z :: st))) : own_Ends p e below s Q kc ks T (mkF m pc ls (.long y :: .long x :: st)) := by
  subst hp hz
  exact own_go (fun t k => XS.ladd X.here hx rfl hd rfl k) K
theorem own_isub (X : Stand p l e R s m args below meth c T locs cells slots) (hx : p.tables.exec = Jvm.exec) {x y z : Int32} (hd : decode c.code pc = .ok (.isub, 1)) (hp : pc + 1 = pc') (hz : x - y = z) (K : own_Ends p e below s Q kc ks T (mkF m pc' ls (.int z :: st))) : own_Ends p e below s Q kc ks T (mkF m pc ls (.int y :: .int x :: st)) := by
  subst hp hz
  exact own_go (fun t k => XS.isub X.here hx rfl hd rfl k) K
theorem own_lsub (X : Stand p l e R s m args below meth c T locs cells slots) (hx : p.tables.exec = Jvm.exec) {x y z : Int64} (hd : decode c.code pc = .ok (.lsub, 1)) (hp : pc + 1 = pc') (hz : x - y = z) (K : own_Ends p e below s Q kc ks T (mkF m pc' ls (.long z :: st))) : own_Ends p e below s Q kc ks T (mkF m pc ls (.long y :: .long x :: st)) := by
  subst hp hz
  exact own_go (fun t k => XS.lsub X.here hx rfl hd rfl k) K
theorem own_imul (X : Stand p l e R s m args below meth c T locs cells slots) (hx : p.tables.exec = Jvm.exec) {x y z : Int32} (hd : decode c.code pc = .ok (.imul, 1)) (hp : pc + 1 = pc') (hz : x * y = z) (K : own_Ends p e below s Q kc ks T (mkF m pc' ls (.int z :: st))) : own_Ends p e below s Q kc ks T (mkF m pc ls (.int y :: .int x :: st)) := by
  subst hp hz
  exact own_go (fun t k => XS.imul X.here hx rfl hd rfl k) K
theorem own_lmul (X : Stand p l e R s m args below meth c T locs cells slots) (hx : p.tables.exec = Jvm.exec) {x y z : Int64} (hd : decode c.code pc = .ok (.lmul, 1)) (hp : pc + 1 = pc') (hz : x * y = z) (K : own_Ends p e below s Q kc ks T (mkF m pc' ls (.long z :: st))) : own_Ends p e below s Q kc ks T (mkF m pc ls (.long y :: .long x :: st)) := by
  subst hp hz
  exact own_go (fun t k => XS.lmul X.here hx rfl hd rfl k) K
theorem own_iand (X : Stand p l e R s m args below meth c T locs cells slots) (hx : p.tables.exec = Jvm.exec) {x y z : Int32} (hd : decode c.code pc = .ok (.iand, 1)) (hp : pc + 1 = pc') (hz : x &&& y = z) (K : own_Ends p e below s Q kc ks T (mkF m pc' ls (.int z :: st))) : own_Ends p e below s Q kc ks T (mkF m pc ls (.int y :: .int x :: st)) := by
  subst hp hz
  exact own_go (fun t k => XS.iand X.here hx rfl hd rfl k) K
theorem own_land (X : Stand p l e R s m args below meth c T locs cells slots) (hx : p.tables.exec = Jvm.exec) {x y z : Int64} (hd : decode c.code pc = .ok (.land, 1)) (hp : pc + 1 = pc') (hz : x &&& y = z) (K : own_Ends p e below s Q kc ks T (mkF m pc' ls (.long z :: st))) : own_Ends p e below s Q kc ks T (mkF m pc ls (.long y :: .long x :: st)) := by
  subst hp hz
  exact own_go (fun t k => XS.land X.here hx rfl hd rfl k) K
theorem own_ior (X : Stand p l e R s m args below meth c T locs cells slots) (hx : p.tables.exec = Jvm.exec) {x y z : Int32} (hd : decode c.code pc = .ok (.ior, 1)) (hp : pc + 1 = pc') (hz : x ||| y = z) (K : own_Ends p e below s Q kc ks T (mkF m pc' ls (.int z :: st))) : own_Ends p e below s Q kc ks T (mkF m pc ls (.int y :: .int x :: st)) := by
  subst hp hz
  exact own_go (fun t k => XS.ior X.here hx rfl hd rfl k) K
theorem own_lor (X : Stand p l e R s m args below meth c T locs cells slots) (hx : p.tables.exec = Jvm.exec) {x y z : Int64} (hd : decode c.code pc = .ok (.lor, 1)) (hp : pc + 1 = pc') (hz : x ||| y = z) (K : own_Ends p e below s Q kc ks T (mkF m pc' ls (.long z :: st))) : own_Ends p e below s Q kc ks T (mkF m pc ls (.long y :: .long x :: st)) := by
  subst hp hz
  exact own_go (fun t k => XS.lor X.here hx rfl hd rfl k) K
theorem own_ixor (X : Stand p l e R s m args below meth c T locs cells slots) (hx : p.tables.exec = Jvm.exec) {x y z : Int32} (hd : decode c.code pc = .ok (.ixor, 1)) (hp : pc + 1 = pc') (hz : x ^^^ y = z) (K : own_Ends p e below s Q kc ks T (mkF m pc' ls (.int z :: st))) : own_Ends p e below s Q kc ks T (mkF m pc ls (.int y :: .int x :: st)) := by
  subst hp hz
  exact own_go (fun t k => XS.ixor X.here hx rfl hd rfl k) K
theorem own_lxor (X : Stand p l e R s m args below meth c T locs cells slots) (hx : p.tables.exec = Jvm.exec) {x y z : Int64} (hd : decode c.code pc = .ok (.lxor, 1)) (hp : pc + 1 = pc') (hz : x ^^^ y = z) (K : own_Ends p e below s Q kc ks T (mkF m pc' ls (.long z :: st))) : own_Ends p e below s Q kc ks T (mkF m pc ls (.long y :: .long x :: st)) := by
  subst hp hz
  exact own_go (fun t k => XS.lxor X.here hx rfl hd rfl k) K
theorem own_ishl (X : Stand p l e R s m args below meth c T locs cells slots) (hx : p.tables.exec = Jvm.exec) {x y z : Int32} (hd : decode c.code pc = .ok (.ishl, 1)) (hp : pc + 1 = pc') (hz : x <<< (y &&& 31) = z) (K : own_Ends p e below s Q kc ks T (mkF m pc' ls (.int z :: st))) : own_Ends p e below s Q kc ks T (mkF m pc ls (.int y :: .int x :: st)) := by
  subst hp hz
  exact own_go (fun t k => XS.ishl X.here hx rfl hd rfl k) K
theorem own_ishr (X : Stand p l e R s m args below meth c T locs cells slots) (hx : p.tables.exec = Jvm.exec) {x y z : Int32} (hd : decode c.code pc = .ok (.ishr, 1)) (hp : pc + 1 = pc') (hz : x >>> (y &&& 31) = z) (K : own_Ends p e below s Q kc ks T (mkF m pc' ls (.int z :: st))) : own_Ends p e below s Q kc ks T (mkF m pc ls (.int y :: .int x :: st)) := by
  subst hp hz
  exact own_go (fun t k => XS.ishr X.here hx rfl hd rfl k) K
theorem own_iushr (X : Stand p l e R s m args below meth c T locs cells slots) (hx : p.tables.exec = Jvm.exec) {x y z : Int32} (hd : decode c.code pc = .ok (.iushr, 1)) (hp : pc + 1 = pc') (hz : (x.toUInt32 >>> (y &&& 31).toUInt32).toInt32 = z) (K : own_Ends p e below s Q kc ks T (mkF m pc' ls (.int z :: st))) : own_Ends p e below s Q kc ks T (mkF m pc ls (.int y :: .int x :: st)) := by
  subst hp hz
  exact own_go (fun t k => XS.iushr X.here hx rfl hd rfl k) K
theorem own_lshl (X : Stand p l e R s m args below meth c T locs cells slots) (hx : p.tables.exec = Jvm.exec) {x z : Int64} {y : Int32} (hd : decode c.code pc = .ok (.lshl, 1)) (hp : pc + 1 = pc') (hz : x <<< (y &&& 0x3f).toInt64 = z) (K : own_Ends p e below s Q kc ks T (mkF m pc' ls (.long z :: st))) : own_Ends p e below s Q kc ks T (mkF m pc ls (.int y :: .long x :: st)) := by
  subst hp hz
  exact own_go (fun t k => XS.lshl X.here hx rfl hd rfl k) K
theorem own_lshr (X : Stand p l e R s m args below meth c T locs cells slots) (hx : p.tables.exec = Jvm.exec) {x z : Int64} {y : Int32} (hd : decode c.code pc = .ok (.lshr, 1)) (hp : pc + 1 = pc') (hz : x >>> (y &&& 0x3f).toInt64 = z) (K : own_Ends p e below s Q kc ks T (mkF m pc' ls (.long z :: st))) : own_Ends p e below s Q kc ks T (mkF m pc ls (.int y :: .long x :: st)) := by
  subst hp hz
  exact own_go (fun t k => XS.lshr X.here hx rfl hd rfl k) K
theorem own_lushr (X : Stand p l e R s m args below meth c T locs cells slots) (hx : p.tables.exec = Jvm.exec) {x z : Int64} {y : Int32} (hd : decode c.code pc = .ok (.lushr, 1)) (hp : pc + 1 = pc') (hz : (x.toUInt64 >>> (y &&& 0x3f).toInt64.toUInt64).toInt64 = z) (K : own_Ends p e below s Q kc ks T (mkF m pc' ls (.long z :: st))) : own_Ends p e below s Q kc ks T (mkF m pc ls (.int y :: .long x :: st)) := by
  subst hp hz
  exact own_go (fun t k => XS.lushr X.here hx rfl hd rfl k) K
theorem own_idiv (X : Stand p l e R s m args below meth c T locs cells slots) (hx : p.tables.exec = Jvm.exec) {x y z : Int32} (hd : decode c.code pc = .ok (.idiv, 1)) (hp : pc + 1 = pc') (hy : y ≠ 0) (hz : x / y = z) (K : own_Ends p e below s Q kc ks T (mkF m pc' ls (.int z :: st))) : own_Ends p e below s Q kc ks T (mkF m pc ls (.int y :: .int x :: st)) := by
  subst hp hz
  exact own_go (fun t k => XS.idiv X.here hx rfl hd rfl hy k) K
theorem own_irem (X : Stand p l e R s m args below meth c T locs cells slots) (hx : p.tables.exec = Jvm.exec) {x y z : Int32} (hd : decode c.code pc = .ok (.irem, 1)) (hp : pc + 1 = pc') (hy : y ≠ 0) (hz : x % y = z) (K : own_Ends p e below s Q kc ks T (mkF m pc' ls (.int z :: st))) : own_Ends p e below s Q kc ks T (mkF m pc ls (.int y :: .int x :: st)) := by
  subst hp hz
  exact own_go (fun t k => iremM (g := mkF m pc ls (.int y :: .int x :: st)) X hx rfl hd rfl hy k) K
theorem own_ldiv (X : Stand p l e R s m args below meth c T locs cells slots) (hx : p.tables.exec = Jvm.exec) {x y z : Int64} (hd : decode c.code pc = .ok (.ldiv, 1)) (hp : pc + 1 = pc') (hy : y ≠ 0) (hz : x / y = z) (K : own_Ends p e below s Q kc ks T (mkF m pc' ls (.long z :: st))) : own_Ends p e below s Q kc ks T (mkF m pc ls (.long y :: .long x :: st)) := by
  subst hp hz
  exact own_go (fun t k => XS.ldiv X.here hx rfl hd rfl hy k) K
theorem own_lrem (X : Stand p l e R s m args below meth c T locs cells slots) (hx : p.tables.exec = Jvm.exec) {x y z : Int64} (hd : decode c.code pc = .ok (.lrem, 1)) (hp : pc + 1 = pc') (hy : y ≠ 0) (hz : x - (x / y) * y = z) (K : own_Ends p e below s Q kc ks T (mkF m pc' ls (.long z :: st))) : own_Ends p e below s Q kc ks T (mkF m pc ls (.long y :: .long x :: st)) := by
  subst hp hz
  exact own_go (fun t k => XS.lrem X.here hx rfl hd rfl hy k) K
theorem own_ineg (X : Stand p l e R s m args below meth c T locs cells slots) (hx : p.tables.exec = Jvm.exec) {x : Int32} {z : Int32} (hd : decode c.code pc = .ok (.ineg, 1)) (hp : pc + 1 = pc') (hz : -x = z) (K : own_Ends p e below s Q kc ks T (mkF m pc' ls (.int z :: st))) : own_Ends p e below s Q kc ks T (mkF m pc ls (.int x :: st)) := by
  subst hp hz
  exact own_go (fun t k => XS.ineg X.here hx rfl hd rfl k) K
theorem own_lneg (X : Stand p l e R s m args below meth c T locs cells slots) (hx : p.tables.exec = Jvm.exec) {x : Int64} {z : Int64} (hd : decode c.code pc = .ok (.lneg, 1)) (hp : pc + 1 = pc') (hz : -x = z) (K : own_Ends p e below s Q kc ks T (mkF m pc' ls (.long z :: st))) : own_Ends p e below s Q kc ks T (mkF m pc ls (.long x :: st)) := by
  subst hp hz
  exact own_go (fun t k => XS.lneg X.here hx rfl hd rfl k) K
theorem own_i2l (X : Stand p l e R s m args below meth c T locs cells slots) (hx : p.tables.exec = Jvm.exec) {x : Int32} {z : Int64} (hd : decode c.code pc = .ok (.i2l, 1)) (hp : pc + 1 = pc') (hz : x.toInt64 = z) (K : own_Ends p e below s Q kc ks T (mkF m pc' ls (.long z :: st))) : own_Ends p e below s Q kc ks T (mkF m pc ls (.int x :: st)) := by
  subst hp hz
  exact own_go (fun t k => XS.i2l X.here hx rfl hd rfl k) K
theorem own_l2i (X : Stand p l e R s m args below meth c T locs cells slots) (hx : p.tables.exec = Jvm.exec) {x : Int64} {z : Int32} (hd : decode c.code pc = .ok (.l2i, 1)) (hp : pc + 1 = pc') (hz : x.toInt32 = z) (K : own_Ends p e below s Q kc ks T (mkF m pc' ls (.int z :: st))) : own_Ends p e below s Q kc ks T (mkF m pc ls (.long x :: st)) := by
  subst hp hz
  exact own_go (fun t k => XS.l2i X.here hx rfl hd rfl k) K
theorem own_i2b (X : Stand p l e R s m args below meth c T locs cells slots) (hx : p.tables.exec = Jvm.exec) {x : Int32} {z : Int32} (hd : decode c.code pc = .ok (.i2b, 1)) (hp : pc + 1 = pc') (hz : x.toInt8.toInt32 = z) (K : own_Ends p e below s Q kc ks T (mkF m pc' ls (.int z :: st))) : own_Ends p e below s Q kc ks T (mkF m pc ls (.int x :: st)) := by
  subst hp hz
  exact own_go (fun t k => XS.i2b X.here hx rfl hd rfl k) K
theorem own_i2s (X : Stand p l e R s m args below meth c T locs cells slots) (hx : p.tables.exec = Jvm.exec) {x : Int32} {z : Int32} (hd : decode c.code pc = .ok (.i2s, 1)) (hp : pc + 1 = pc') (hz : x.toInt16.toInt32 = z) (K : own_Ends p e below s Q kc ks T (mkF m pc' ls (.int z :: st))) : own_Ends p e below s Q kc ks T (mkF m pc ls (.int x :: st)) := by
  subst hp hz
  exact own_go (fun t k => XS.i2s X.here hx rfl hd rfl k) K
theorem own_i2c (X : Stand p l e R s m args below meth c T locs cells slots) (hx : p.tables.exec = Jvm.exec) {x : Int32} {z : Int32} (hd : decode c.code pc = .ok (.i2c, 1)) (hp : pc + 1 = pc') (hz : x.toUInt32.toUInt16.toUInt32.toInt32 = z) (K : own_Ends p e below s Q kc ks T (mkF m pc' ls (.int z :: st))) : own_Ends p e below s Q kc ks T (mkF m pc ls (.int x :: st)) := by
  subst hp hz
  exact own_go (fun t k => XS.i2c X.here hx rfl hd rfl k) K
theorem own_i2d (X : Stand p l e R s m args below meth c T locs cells slots) (hx : p.tables.exec = Jvm.exec) {x : Int32} {z : UInt64} (hd : decode c.code pc = .ok (.i2d, 1)) (hp : pc + 1 = pc') (hz : FP.i2d x = z) (K : own_Ends p e below s Q kc ks T (mkF m pc' ls (.double z :: st))) : own_Ends p e below s Q kc ks T (mkF m pc ls (.int x :: st)) := by
  subst hp hz
  exact own_go (fun t k => XS.i2dS (g := mkF m pc ls (.int x :: st)) X.here hx rfl hd rfl rfl k) K
theorem own_dadd (X : Stand p l e R s m args below meth c T locs cells slots) (hx : p.tables.exec = Jvm.exec) {x y z : UInt64} (hd : decode c.code pc = .ok (.dadd, 1)) (hp : pc + 1 = pc') (hn : Jvm.Free.Fl.NoNaN64 (FP.dadd x y)) (hz : FP.dadd x y = z) (K : own_Ends p e below s Q kc ks T (mkF m pc' ls (.double z :: st))) : own_Ends p e below s Q kc ks T (mkF m pc ls (.double y :: .double x :: st)) := by
  subst hp hz
  exact own_go (fun t k => XS.daddS (g := mkF m pc ls (.double y :: .double x :: st)) X.here hx rfl hd rfl hn rfl k) K
theorem own_dmul (X : Stand p l e R s m args below meth c T locs cells slots) (hx : p.tables.exec = Jvm.exec) {x y z : UInt64} (hd : decode c.code pc = .ok (.dmul, 1)) (hp : pc + 1 = pc') (hn : Jvm.Free.Fl.NoNaN64 (FP.dmul x y)) (hz : FP.dmul x y = z) (K : own_Ends p e below s Q kc ks T (mkF m pc' ls (.double z :: st))) : own_Ends p e below s Q kc ks T (mkF m pc ls (.double y :: .double x :: st)) := by
  subst hp hz
  exact own_go (fun t k => XS.dmulS (g := mkF m pc ls (.double y :: .double x :: st)) X.here hx rfl hd rfl hn rfl k) K
theorem own_dcmp (X : Stand p l e R s m args below meth c T locs cells slots) (hx : p.tables.exec = Jvm.exec) {o : CmpOp} {x y : UInt64} {z : Int32} (hd : decode c.code pc = .ok (.dcmp o, 1)) (hp : pc + 1 = pc') (hz : cmpValue (FP.dcmp x y) o = z) (K : own_Ends p e below s Q kc ks T (mkF m pc' ls (.int z :: st))) : own_Ends p e below s Q kc ks T (mkF m pc ls (.double y :: .double x :: st)) := by
  subst hp hz
  exact own_go (fun t k => XS.dcmpS (g := mkF m pc ls (.double y :: .double x :: st)) X.here hx rfl hd rfl rfl k) K
theorem own_lcmp (X : Stand p l e R s m args below meth c T locs cells slots) (hx : p.tables.exec = Jvm.exec) {x y : Int64} {z : Int32} (hd : decode c.code pc = .ok (.lcmp, 1)) (hp : pc + 1 = pc') (hz : lcmpW x y = z) (K : own_Ends p e below s Q kc ks T (mkF m pc' ls (.int z :: st))) : own_Ends p e below s Q kc ks T (mkF m pc ls (.long y :: .long x :: st)) := by
  subst hp hz
  exact own_go (fun t k => XS.lcmp X.here hx rfl hd rfl k) K
theorem own_pop (X : Stand p l e R s m args below meth c T locs cells slots) (hx : p.tables.exec = Jvm.exec) {v : Value} (hd : decode c.code pc = .ok (.pop, 1)) (hp : pc + 1 = pc') (hc : v.category = 1) (K : own_Ends p e below s Q kc ks T (mkF m pc' ls st)) : own_Ends p e below s Q kc ks T (mkF m pc ls (v :: st)) := by
  subst hp
  exact own_go (fun t k => XS.pop X.here hx rfl hd rfl hc k) K
theorem own_dup (X : Stand p l e R s m args below meth c T locs cells slots) (hx : p.tables.exec = Jvm.exec) {v : Value} (hd : decode c.code pc = .ok (.dup, 1)) (hp : pc + 1 = pc') (hc : v.category = 1) (K : own_Ends p e below s Q kc ks T (mkF m pc' ls (v :: v :: st))) : own_Ends p e below s Q kc ks T (mkF m pc ls (v :: st)) := by
  subst hp
  exact own_go (fun t k => XS.dup X.here hx rfl hd rfl hc k) K
theorem own_dupX1 (X : Stand p l e R s m args below meth c T locs cells slots) (hx : p.tables.exec = Jvm.exec) {v w : Value} (hd : decode c.code pc = .ok (.dup_x1, 1)) (hp : pc + 1 = pc') (hc : v.category = 1) (hc' : w.category = 1) (K : own_Ends p e below s Q kc ks T (mkF m pc' ls (v :: w :: v :: st))) : own_Ends p e below s Q kc ks T (mkF m pc ls (v :: w :: st)) := by
  subst hp
  exact own_go (fun t k => XS.dupX1 X.here hx rfl hd rfl hc hc' k) K
theorem own_dup2 (X : Stand p l e R s m args below meth c T locs cells slots) (hx : p.tables.exec = Jvm.exec) {v w : Value} (hd : decode c.code pc = .ok (.dup2, 1)) (hp : pc + 1 = pc') (hc : v.category = 1) (hc' : w.category = 1) (K : own_Ends p e below s Q kc ks T (mkF m pc' ls (v :: w :: v :: w :: st))) : own_Ends p e below s Q kc ks T (mkF m pc ls (v :: w :: st)) := by
  subst hp
  exact own_go (fun t k => XT.dup2 X.here hx rfl hd rfl hc hc' k) K
theorem own_dup2L (X : Stand p l e R s m args below meth c T locs cells slots) (hx : p.tables.exec = Jvm.exec) {x : Int64} (hd : decode c.code pc = .ok (.dup2, 1)) (hp : pc + 1 = pc')  (K : own_Ends p e below s Q kc ks T (mkF m pc' ls (.long x :: .long x :: st))) : own_Ends p e below s Q kc ks T (mkF m pc ls (.long x :: st)) := by
  subst hp
  exact own_go (fun t k => XT.dup2L X.here hx rfl hd rfl k) K
theorem own_iinc (X : Stand p l e R s m args below meth c T locs cells slots) (hx : p.tables.exec = Jvm.exec) {k : Nat} {i : Int} {x z : Int32} {l' : Array Slot} (hd : decode c.code pc = .ok (.iinc k i, 3)) (hp : pc + 3 = pc') (hl : ls[k]? = some (.val (.int x))) (hz : x + Int32.ofInt i = z) (hl' : storeLocals ls k (.int z) = some l') (K : own_Ends p e below s Q kc ks T (mkF m pc' l' st)) : own_Ends p e below s Q kc ks T (mkF m pc ls st) := by
  subst hp hz
  exact own_go (fun t k => XS.iinc X.here hx rfl hd hl hl' k) K
theorem own_goto (X : Stand p l e R s m args below meth c T locs cells slots) (hx : p.tables.exec = Jvm.exec) {o : Int} (hd : decode c.code pc = .ok (.goto o, 3)) (ho : 0 ≤ (pc : Int) + o) (hp : ((pc : Int) + o).toNat = pc') (K : own_Ends p e below s Q kc ks T (mkF m pc' ls st)) : own_Ends p e below s Q kc ks T (mkF m pc ls st) :=
  own_go (fun t k => XS.goto X.here hx rfl rfl hd ho hp k) K
theorem own_ifYes (X : Stand p l e R s m args below meth c T locs cells slots) (hx : p.tables.exec = Jvm.exec) {o : Int} {cd : ClassFile.Cond} {x : Int32} (hd : decode c.code pc = .ok (.ifCond cd o, 3)) (hc : if_icmp.holds cd x 0 = true) (ho : 0 ≤ (pc : Int) + o) (hp : ((pc : Int) + o).toNat = pc') (K : own_Ends p e below s Q kc ks T (mkF m pc' ls st)) : own_Ends p e below s Q kc ks T (mkF m pc ls (.int x :: st)) :=
  own_go (fun t k => XS.ifYes X.here hx rfl rfl hd rfl ((if0 _ _).trans hc) ho hp k) K
theorem own_ifNo (X : Stand p l e R s m args below meth c T locs cells slots) (hx : p.tables.exec = Jvm.exec) {o : Int} {cd : ClassFile.Cond} {x : Int32} (hd : decode c.code pc = .ok (.ifCond cd o, 3)) (hp : pc + 3 = pc') (hc : if_icmp.holds cd x 0 = false) (K : own_Ends p e below s Q kc ks T (mkF m pc' ls st)) : own_Ends p e below s Q kc ks T (mkF m pc ls (.int x :: st)) := by
  subst hp
  exact own_go (fun t k => XS.ifNo X.here hx rfl hd rfl ((if0 _ _).trans hc) k) K
theorem own_icmpYes (X : Stand p l e R s m args below meth c T locs cells slots) (hx : p.tables.exec = Jvm.exec) {o : Int} {cd : ClassFile.Cond} {x y : Int32} (hd : decode c.code pc = .ok (.if_icmp cd o, 3)) (hc : if_icmp.holds cd x y = true) (ho : 0 ≤ (pc : Int) + o) (hp : ((pc : Int) + o).toNat = pc') (K : own_Ends p e below s Q kc ks T (mkF m pc' ls st)) : own_Ends p e below s Q kc ks T (mkF m pc ls (.int y :: .int x :: st)) :=
  own_go (fun t k => XS.icmpYes X.here hx rfl rfl hd rfl hc ho hp k) K
theorem own_icmpNo (X : Stand p l e R s m args below meth c T locs cells slots) (hx : p.tables.exec = Jvm.exec) {o : Int} {cd : ClassFile.Cond} {x y : Int32} (hd : decode c.code pc = .ok (.if_icmp cd o, 3)) (hp : pc + 3 = pc') (hc : if_icmp.holds cd x y = false) (K : own_Ends p e below s Q kc ks T (mkF m pc' ls st)) : own_Ends p e below s Q kc ks T (mkF m pc ls (.int y :: .int x :: st)) := by
  subst hp
  exact own_go (fun t k => XS.icmpNo X.here hx rfl hd rfl hc k) K
theorem own_ifnullYes (X : Stand p l e R s m args below meth c T locs cells slots) (hx : p.tables.exec = Jvm.exec) {o : Int} (hd : decode c.code pc = .ok (.ifnull o, 3)) (ho : 0 ≤ (pc : Int) + o) (hp : ((pc : Int) + o).toNat = pc') (K : own_Ends p e below s Q kc ks T (mkF m pc' ls st)) : own_Ends p e below s Q kc ks T (mkF m pc ls (.null :: st)) :=
  own_go (fun t k => XS.ifnullYes X.here hx rfl rfl hd rfl ho hp k) K
theorem own_ifnullNo (X : Stand p l e R s m args below meth c T locs cells slots) (hx : p.tables.exec = Jvm.exec) {o : Int} {b : Addr} (hd : decode c.code pc = .ok (.ifnull o, 3)) (hp : pc + 3 = pc')  (K : own_Ends p e below s Q kc ks T (mkF m pc' ls st)) : own_Ends p e below s Q kc ks T (mkF m pc ls (.ref b :: st)) := by
  subst hp
  exact own_go (fun t k => XS.ifnullNo X.here hx rfl hd rfl k) K
theorem own_ifnonnullYes (X : Stand p l e R s m args below meth c T locs cells slots) (hx : p.tables.exec = Jvm.exec) {o : Int} {b : Addr} (hd : decode c.code pc = .ok (.ifnonnull o, 3)) (ho : 0 ≤ (pc : Int) + o) (hp : ((pc : Int) + o).toNat = pc') (K : own_Ends p e below s Q kc ks T (mkF m pc' ls st)) : own_Ends p e below s Q kc ks T (mkF m pc ls (.ref b :: st)) :=
  own_go (fun t k => XS.ifnonnullYes X.here hx rfl rfl hd rfl ho hp k) K
theorem own_ifnonnullNo (X : Stand p l e R s m args below meth c T locs cells slots) (hx : p.tables.exec = Jvm.exec) {o : Int} (hd : decode c.code pc = .ok (.ifnonnull o, 3)) (hp : pc + 3 = pc')  (K : own_Ends p e below s Q kc ks T (mkF m pc' ls st)) : own_Ends p e below s Q kc ks T (mkF m pc ls (.null :: st)) := by
  subst hp
  exact own_go (fun t k => XS.ifnonnullNo X.here hx rfl hd rfl k) K
theorem own_acmpYes (X : Stand p l e R s m args below meth c T locs cells slots) (hx : p.tables.exec = Jvm.exec) {o : Int} {cd : ACond} {v w : Value} (hd : decode c.code pc = .ok (.if_acmp cd o, 3)) (h1 : v.isRef = true) (h2 : w.isRef = true) (hc : XT.acmp cd v w = true) (ho : 0 ≤ (pc : Int) + o) (hp : ((pc : Int) + o).toNat = pc') (K : own_Ends p e below s Q kc ks T (mkF m pc' ls st)) : own_Ends p e below s Q kc ks T (mkF m pc ls (w :: v :: st)) :=
  own_go (fun t k => XT.acmpYes X.here hx rfl rfl hd rfl h1 h2 hc ho hp k) K
theorem own_acmpNo (X : Stand p l e R s m args below meth c T locs cells slots) (hx : p.tables.exec = Jvm.exec) {o : Int} {cd : ACond} {v w : Value} (hd : decode c.code pc = .ok (.if_acmp cd o, 3)) (hp : pc + 3 = pc') (h1 : v.isRef = true) (h2 : w.isRef = true) (hc : XT.acmp cd v w = false) (K : own_Ends p e below s Q kc ks T (mkF m pc' ls st)) : own_Ends p e below s Q kc ks T (mkF m pc ls (w :: v :: st)) := by
  subst hp
  exact own_go (fun t k => XT.acmpNo X.here hx rfl hd rfl h1 h2 hc k) K
theorem own_ldcI (X : Stand p l e R s m args below meth c T locs cells slots) (hx : p.tables.exec = Jvm.exec) {own : String} {ix : Nat} {v : Int32} {Z : State} {a0 : Array Value} (hZ : Z.Warmed39 s.vm) (hown : s.vm.findClass own = some m.cls) (w : (Jvm.Cond.constant own ix v).before a0 Z = true) (hd : decode c.code pc = .ok (.ldc ix, 2)) (hp : pc + 2 = pc')  (K : own_Ends p e below s Q kc ks T (mkF m pc' ls (.int v :: st))) : own_Ends p e below s Q kc ks T (mkF m pc ls st) := by
  subst hp
  exact own_go (fun t k => X.ldcInt hx hown (mvT hZ w) (g := mkF m pc ls st) rfl hd t k) K
theorem own_ldcwI (X : Stand p l e R s m args below meth c T locs cells slots) (hx : p.tables.exec = Jvm.exec) {own : String} {ix : Nat} {v : Int32} {Z : State} {a0 : Array Value} (hZ : Z.Warmed39 s.vm) (hown : s.vm.findClass own = some m.cls) (w : (Jvm.Cond.constant own ix v).before a0 Z = true) (hd : decode c.code pc = .ok (.ldc_w ix, 3)) (hp : pc + 3 = pc')  (K : own_Ends p e below s Q kc ks T (mkF m pc' ls (.int v :: st))) : own_Ends p e below s Q kc ks T (mkF m pc ls st) := by
  subst hp
  exact own_go (fun t k => X.ldcwInt hx hown (mvT hZ w) (g := mkF m pc ls st) rfl hd t k) K
theorem own_ldc2J (X : Stand p l e R s m args below meth c T locs cells slots) (hx : p.tables.exec = Jvm.exec) {own : String} {ix : Nat} {v : Int64} {Z : State} {a0 : Array Value} (hZ : Z.Warmed39 s.vm) (hown : s.vm.findClass own = some m.cls) (w : (Jvm.Cond.constantLong own ix v).before a0 Z = true) (hd : decode c.code pc = .ok (.ldc2_w ix, 3)) (hp : pc + 3 = pc')  (K : own_Ends p e below s Q kc ks T (mkF m pc' ls (.long v :: st))) : own_Ends p e below s Q kc ks T (mkF m pc ls st) := by
  subst hp
  exact own_go (fun t k => X.ldc2Long hx hown (mvT hZ w) (g := mkF m pc ls st) rfl hd t k) K
theorem own_iaload (X : Stand p l e R s m args below meth c T locs cells slots) (hx : p.tables.exec = Jvm.exec) {Z : State} {h : Heap} {a : Addr} {k : ClassId} {n j : Int32} {vs : List Value} {d v : Value} (hZ : Z.Warmed39 s.vm) (eT : T.heap = h) (V : Arv Z h a k .int n vs d) (hd : decode c.code pc = .ok (.iaload, 1)) (hp : pc + 1 = pc') (hj : ¬ j < 0 ∧ j < n) (hv : vs.getD j.toNatClampNeg d = v) (K : own_Ends p e below s Q kc ks T (mkF m pc' ls (v :: st))) : own_Ends p e below s Q kc ks T (mkF m pc ls (.int j :: .ref a :: st)) := by
  subst hp
  obtain ⟨cl, A, q1, S, q2, H, G⟩ := V
  have hin := inb_of S hj
  exact own_go (fun t k => X.iaload hx (by rw [eT]; exact A.1) (State.isArrayOf_alike hZ.alike A.2.1) A.2.2 hin (H.at hin hv) (g := mkF m pc ls (.int j :: .ref a :: st)) rfl rfl hd t k) K
theorem own_laload (X : Stand p l e R s m args below meth c T locs cells slots) (hx : p.tables.exec = Jvm.exec) {Z : State} {h : Heap} {a : Addr} {k : ClassId} {n j : Int32} {vs : List Value} {d v : Value} (hZ : Z.Warmed39 s.vm) (eT : T.heap = h) (V : Arv Z h a k .long n vs d) (hd : decode c.code pc = .ok (.laload, 1)) (hp : pc + 1 = pc') (hj : ¬ j < 0 ∧ j < n) (hv : vs.getD j.toNatClampNeg d = v) (K : own_Ends p e below s Q kc ks T (mkF m pc' ls (v :: st))) : own_Ends p e below s Q kc ks T (mkF m pc ls (.int j :: .ref a :: st)) := by
  subst hp
  obtain ⟨cl, A, q1, S, q2, H, G⟩ := V
  have hin := inb_of S hj
  exact own_go (fun t k => X.laload hx (by rw [eT]; exact A.1) (State.isArrayOf_alike hZ.alike A.2.1) A.2.2 hin (H.at hin hv) (g := mkF m pc ls (.int j :: .ref a :: st)) rfl rfl hd t k) K
theorem own_caload (X : Stand p l e R s m args below meth c T locs cells slots) (hx : p.tables.exec = Jvm.exec) {Z : State} {h : Heap} {a : Addr} {k : ClassId} {n j : Int32} {vs : List Value} {d v : Value} (hZ : Z.Warmed39 s.vm) (eT : T.heap = h) (V : Arv Z h a k .char n vs d) (hd : decode c.code pc = .ok (.caload, 1)) (hp : pc + 1 = pc') (hj : ¬ j < 0 ∧ j < n) (hv : vs.getD j.toNatClampNeg d = v) (K : own_Ends p e below s Q kc ks T (mkF m pc' ls (v :: st))) : own_Ends p e below s Q kc ks T (mkF m pc ls (.int j :: .ref a :: st)) := by
  subst hp
  obtain ⟨cl, A, q1, S, q2, H, G⟩ := V
  have hin := inb_of S hj
  exact own_go (fun t k => X.caload hx (by rw [eT]; exact A.1) (State.isArrayOf_alike hZ.alike A.2.1) A.2.2 hin (H.at hin hv) (g := mkF m pc ls (.int j :: .ref a :: st)) rfl rfl hd t k) K
theorem own_baload (X : Stand p l e R s m args below meth c T locs cells slots) (hx : p.tables.exec = Jvm.exec) {Z : State} {h : Heap} {a : Addr} {k : ClassId} {n j : Int32} {vs : List Value} {d v : Value} (hZ : Z.Warmed39 s.vm) (eT : T.heap = h) (V : Arv Z h a k .byte n vs d) (hd : decode c.code pc = .ok (.baload, 1)) (hp : pc + 1 = pc') (hj : ¬ j < 0 ∧ j < n) (hv : vs.getD j.toNatClampNeg d = v) (K : own_Ends p e below s Q kc ks T (mkF m pc' ls (v :: st))) : own_Ends p e below s Q kc ks T (mkF m pc ls (.int j :: .ref a :: st)) := by
  subst hp
  obtain ⟨cl, A, q1, S, q2, H, G⟩ := V
  have hin := inb_of S hj
  exact own_go (fun t k => X.baloadBytes hx (by rw [eT]; exact A.1) (State.isArrayOf_alike hZ.alike A.2.1) A.2.2 hin (H.at hin hv) (g := mkF m pc ls (.int j :: .ref a :: st)) rfl rfl hd t k) K
theorem own_zaload (X : Stand p l e R s m args below meth c T locs cells slots) (hx : p.tables.exec = Jvm.exec) {Z : State} {h : Heap} {a : Addr} {k : ClassId} {n j : Int32} {vs : List Value} {d v : Value} (hZ : Z.Warmed39 s.vm) (eT : T.heap = h) (V : Arv Z h a k .boolean n vs d) (hd : decode c.code pc = .ok (.baload, 1)) (hp : pc + 1 = pc') (hj : ¬ j < 0 ∧ j < n) (hv : vs.getD j.toNatClampNeg d = v) (K : own_Ends p e below s Q kc ks T (mkF m pc' ls (v :: st))) : own_Ends p e below s Q kc ks T (mkF m pc ls (.int j :: .ref a :: st)) := by
  subst hp
  obtain ⟨cl, A, q1, S, q2, H, G⟩ := V
  have hin := inb_of S hj
  exact own_go (fun t k => X.baloadBooleans hx (by rw [eT]; exact A.1) (State.isArrayOf_alike hZ.alike A.2.1) A.2.2 hin (H.at hin hv) (g := mkF m pc ls (.int j :: .ref a :: st)) rfl rfl hd t k) K
theorem own_daload (X : Stand p l e R s m args below meth c T locs cells slots) (hx : p.tables.exec = Jvm.exec) {Z : State} {h : Heap} {a : Addr} {k : ClassId} {n j : Int32} {vs : List Value} {d v : Value} (hZ : Z.Warmed39 s.vm) (eT : T.heap = h) (V : Arv Z h a k .double n vs d) (hd : decode c.code pc = .ok (.daload, 1)) (hp : pc + 1 = pc') (hj : ¬ j < 0 ∧ j < n) (hv : vs.getD j.toNatClampNeg d = v) (K : own_Ends p e below s Q kc ks T (mkF m pc' ls (v :: st))) : own_Ends p e below s Q kc ks T (mkF m pc ls (.int j :: .ref a :: st)) := by
  subst hp
  obtain ⟨cl, A, q1, S, q2, H, G⟩ := V
  have hin := inb_of S hj
  exact own_go (fun t k => X.daload hx (by rw [eT]; exact A.1) (State.isArrayOf_alike hZ.alike A.2.1) A.2.2 hin (H.at hin hv) (g := mkF m pc ls (.int j :: .ref a :: st)) rfl rfl hd t k) K
theorem own_alen (X : Stand p l e R s m args below meth c T locs cells slots) (hx : p.tables.exec = Jvm.exec) {Z : State} {h : Heap} {a : Addr} {k : ClassId} {ty : FieldType} {n : Int32} {vs : List Value} {d : Value} (hZ : Z.Warmed39 s.vm) (eT : T.heap = h) (V : Arv Z h a k ty n vs d) (hd : decode c.code pc = .ok (.arraylength, 1)) (hp : pc + 1 = pc')  (K : own_Ends p e below s Q kc ks T (mkF m pc' ls (.int n :: st))) : own_Ends p e below s Q kc ks T (mkF m pc ls (.ref a :: st)) := by
  subst hp
  obtain ⟨cl, A, q1, S, q2, H, G⟩ := V
  rw [← len_of S q2] at K
  exact own_go (fun t k => X.arraylength hx (by rw [eT]; exact A.1) (State.isArrayOf_alike hZ.alike A.2.1) (g := mkF m pc ls (.ref a :: st)) rfl rfl hd t k) K
theorem own_iastore (X : Stand p l e R s m args below meth c T locs cells slots) (hx : p.tables.exec = Jvm.exec) {Z : State} {h : Heap} {a : Addr} {k : ClassId} {n j : Int32} {vs : List Value} {d : Value} {x : Int32} (hZ : Z.Warmed39 s.vm) (eT : T.heap = h) (V : Arv Z h a k .int n vs d) (hd : decode c.code pc = .ok (.iastore, 1)) (hp : pc + 1 = pc') (hj : ¬ j < 0 ∧ j < n) (i : Nat) (hi : j.toNatClampNeg = i) (hl : i < vs.length) {n0 : Nat} (N : Fr n0 locs) (ge : n0 ≤ a)
    (K : ∀ T' h' L, Stand p l e R s m args below meth c T' L cells slots → T'.heap = h' → Fr n0 L → Wr h h' a j.toNatClampNeg (.int x) → Arv Z h' a k .int n (vs.set i (.int x)) d → own_Ends p e below s Q kc ks T' (mkF m pc' ls st)) : own_Ends p e below s Q kc ks T (mkF m pc ls (.int x :: .int j :: .ref a :: st)) := by
  subst hp
  obtain ⟨cl, A, q1, S, q2, H, G⟩ := V
  have hin := inb_of S hj
  obtain ⟨T1, h1, X1, e1, W1, st1⟩ := stI X hx hZ eT A (j := j) hin (g := mkF m pc ls (.int x :: .int j :: .ref a :: st)) rfl rfl hd
  exact own_go st1 (K T1 h1 _ X1 e1 (Fr.snoc X1 N ge) W1 (Arv.set A q1 S q2 H G rfl W1 i hi hl))
theorem own_lastore (X : Stand p l e R s m args below meth c T locs cells slots) (hx : p.tables.exec = Jvm.exec) {Z : State} {h : Heap} {a : Addr} {k : ClassId} {n j : Int32} {vs : List Value} {d : Value} {x : Int64} (hZ : Z.Warmed39 s.vm) (eT : T.heap = h) (V : Arv Z h a k .long n vs d) (hd : decode c.code pc = .ok (.lastore, 1)) (hp : pc + 1 = pc') (hj : ¬ j < 0 ∧ j < n) (i : Nat) (hi : j.toNatClampNeg = i) (hl : i < vs.length) {n0 : Nat} (N : Fr n0 locs) (ge : n0 ≤ a)
    (K : ∀ T' h' L, Stand p l e R s m args below meth c T' L cells slots → T'.heap = h' → Fr n0 L → Wr h h' a j.toNatClampNeg (.long x) → Arv Z h' a k .long n (vs.set i (.long x)) d → own_Ends p e below s Q kc ks T' (mkF m pc' ls st)) : own_Ends p e below s Q kc ks T (mkF m pc ls (.long x :: .int j :: .ref a :: st)) := by
  subst hp
  obtain ⟨cl, A, q1, S, q2, H, G⟩ := V
  have hin := inb_of S hj
  obtain ⟨T1, h1, X1, e1, W1, st1⟩ := stJ X hx hZ eT A (j := j) hin (g := mkF m pc ls (.long x :: .int j :: .ref a :: st)) rfl rfl hd
  exact own_go st1 (K T1 h1 _ X1 e1 (Fr.snoc X1 N ge) W1 (Arv.set A q1 S q2 H G rfl W1 i hi hl))
theorem own_dastore (X : Stand p l e R s m args below meth c T locs cells slots) (hx : p.tables.exec = Jvm.exec) {Z : State} {h : Heap} {a : Addr} {k : ClassId} {n j : Int32} {vs : List Value} {d : Value} {x : UInt64} (hZ : Z.Warmed39 s.vm) (eT : T.heap = h) (V : Arv Z h a k .double n vs d) (hd : decode c.code pc = .ok (.dastore, 1)) (hp : pc + 1 = pc') (hj : ¬ j < 0 ∧ j < n) (i : Nat) (hi : j.toNatClampNeg = i) (hl : i < vs.length) {n0 : Nat} (N : Fr n0 locs) (ge : n0 ≤ a)
    (K : ∀ T' h' L, Stand p l e R s m args below meth c T' L cells slots → T'.heap = h' → Fr n0 L → Wr h h' a j.toNatClampNeg (.double x) → Arv Z h' a k .double n (vs.set i (.double x)) d → own_Ends p e below s Q kc ks T' (mkF m pc' ls st)) : own_Ends p e below s Q kc ks T (mkF m pc ls (.double x :: .int j :: .ref a :: st)) := by
  subst hp
  obtain ⟨cl, A, q1, S, q2, H, G⟩ := V
  have hin := inb_of S hj
  obtain ⟨T1, h1, X1, e1, W1, st1⟩ := stD X hx hZ eT A (j := j) hin (g := mkF m pc ls (.double x :: .int j :: .ref a :: st)) rfl rfl hd
  exact own_go st1 (K T1 h1 _ X1 e1 (Fr.snoc X1 N ge) W1 (Arv.set A q1 S q2 H G rfl W1 i hi hl))
theorem own_castore (X : Stand p l e R s m args below meth c T locs cells slots) (hx : p.tables.exec = Jvm.exec) {Z : State} {h : Heap} {a : Addr} {k : ClassId} {n j : Int32} {vs : List Value} {d : Value} {x : Int32} (hZ : Z.Warmed39 s.vm) (eT : T.heap = h) (V : Arv Z h a k .char n vs d) (hd : decode c.code pc = .ok (.castore, 1)) (hp : pc + 1 = pc') (hj : ¬ j < 0 ∧ j < n) (i : Nat) (hi : j.toNatClampNeg = i) (hl : i < vs.length) {n0 : Nat} (N : Fr n0 locs) (ge : n0 ≤ a)
    (K : ∀ T' h' L, Stand p l e R s m args below meth c T' L cells slots → T'.heap = h' → Fr n0 L → Wr h h' a j.toNatClampNeg (.int (nar .char x)) → Arv Z h' a k .char n (vs.set i (.int (nar .char x))) d → own_Ends p e below s Q kc ks T' (mkF m pc' ls st)) : own_Ends p e below s Q kc ks T (mkF m pc ls (.int x :: .int j :: .ref a :: st)) := by
  subst hp
  obtain ⟨cl, A, q1, S, q2, H, G⟩ := V
  have hin := inb_of S hj
  obtain ⟨T1, h1, X1, e1, W1, st1⟩ := stC X hx hZ eT A (j := j) hin (g := mkF m pc ls (.int x :: .int j :: .ref a :: st)) rfl rfl hd
  exact own_go st1 (K T1 h1 _ X1 e1 (Fr.snoc X1 N ge) W1 (Arv.set A q1 S q2 H G (fits_nar_char _) W1 i hi hl))
theorem own_bastore (X : Stand p l e R s m args below meth c T locs cells slots) (hx : p.tables.exec = Jvm.exec) {Z : State} {h : Heap} {a : Addr} {k : ClassId} {n j : Int32} {vs : List Value} {d : Value} {x : Int32} (hZ : Z.Warmed39 s.vm) (eT : T.heap = h) (V : Arv Z h a k .byte n vs d) (hd : decode c.code pc = .ok (.bastore, 1)) (hp : pc + 1 = pc') (hj : ¬ j < 0 ∧ j < n) (i : Nat) (hi : j.toNatClampNeg = i) (hl : i < vs.length) {n0 : Nat} (N : Fr n0 locs) (ge : n0 ≤ a)
    (K : ∀ T' h' L, Stand p l e R s m args below meth c T' L cells slots → T'.heap = h' → Fr n0 L → Wr h h' a j.toNatClampNeg (.int (nar .byte x)) → Arv Z h' a k .byte n (vs.set i (.int (nar .byte x))) d → own_Ends p e below s Q kc ks T' (mkF m pc' ls st)) : own_Ends p e below s Q kc ks T (mkF m pc ls (.int x :: .int j :: .ref a :: st)) := by
  subst hp
  obtain ⟨cl, A, q1, S, q2, H, G⟩ := V
  have hin := inb_of S hj
  obtain ⟨T1, h1, X1, e1, W1, st1⟩ := stB X hx hZ eT A (j := j) hin (g := mkF m pc ls (.int x :: .int j :: .ref a :: st)) rfl rfl hd
  exact own_go st1 (K T1 h1 _ X1 e1 (Fr.snoc X1 N ge) W1 (Arv.set A q1 S q2 H G (fits_nar_byte _) W1 i hi hl))
theorem own_zastore (X : Stand p l e R s m args below meth c T locs cells slots) (hx : p.tables.exec = Jvm.exec) {Z : State} {h : Heap} {a : Addr} {k : ClassId} {n j : Int32} {vs : List Value} {d : Value} {x : Int32} (hZ : Z.Warmed39 s.vm) (eT : T.heap = h) (V : Arv Z h a k .boolean n vs d) (hd : decode c.code pc = .ok (.bastore, 1)) (hp : pc + 1 = pc') (hj : ¬ j < 0 ∧ j < n) (i : Nat) (hi : j.toNatClampNeg = i) (hl : i < vs.length) {n0 : Nat} (N : Fr n0 locs) (ge : n0 ≤ a)
    (K : ∀ T' h' L, Stand p l e R s m args below meth c T' L cells slots → T'.heap = h' → Fr n0 L → Wr h h' a j.toNatClampNeg (.int (nar .boolean x)) → Arv Z h' a k .boolean n (vs.set i (.int (nar .boolean x))) d → own_Ends p e below s Q kc ks T' (mkF m pc' ls st)) : own_Ends p e below s Q kc ks T (mkF m pc ls (.int x :: .int j :: .ref a :: st)) := by
  subst hp
  obtain ⟨cl, A, q1, S, q2, H, G⟩ := V
  have hin := inb_of S hj
  obtain ⟨T1, h1, X1, e1, W1, st1⟩ := stZ X hx hZ eT A (j := j) hin (g := mkF m pc ls (.int x :: .int j :: .ref a :: st)) rfl rfl hd
  exact own_go st1 (K T1 h1 _ X1 e1 (Fr.snoc X1 N ge) W1 (Arv.set A q1 S q2 H G (fits_nar_bool _) W1 i hi hl))
theorem own_newarr (X : Stand p l e R s m args below meth c T locs cells slots) (hx : p.tables.exec = Jvm.exec) {Z : State} {a0 : Array Value} {h : Heap} {aty : ArrayType} (hZ : Z.Warmed39 s.vm) (w : (Jvm.Cond.arrayClass (newarray.typeOf aty)).before a0 Z = true) (eT : T.heap = h) (hd : decode c.code pc = .ok (.newarray aty, 2)) (hp : pc + 2 = pc') {n : Int32} (hn : ¬ n < 0) (cap q : Nat) (hcap : n.toNatClampNeg ≤ cap) (hb : cap * 8 ≤ 536870912) (hc : cells + 1 ≤ R.cells) (hl : slots + cap ≤ R.slots)
    (K : ∀ T' h' a k, Stand p l e R s m args below meth c T' locs (cells + 1) (slots + cap) → T'.heap = h' → Ext h h' → a = h.size → Arv Z h' a k (newarray.typeOf aty) n (List.replicate q (defaultValue (newarray.typeOf aty))) (defaultValue (newarray.typeOf aty)) → own_Ends p e below s Q kc ks T' (mkF m pc' ls (.ref a :: st))) : own_Ends p e below s Q kc ks T (mkF m pc ls (.int n :: st)) := by
  subst hp
  obtain ⟨T1, h1, k1, X1, e1, E1, A1, st1⟩ := newP X hx hZ w eT (g := mkF m pc ls (.int n :: st)) rfl hd rfl hn (cap := cap) hcap hb hc hl
  exact own_go st1 (K T1 h1 _ k1 X1 e1 E1 rfl ((Arv.new A1 hn).pad (pad_rep [] _ q)))
theorem own_newarrE (X : Stand p l e R s m args below meth c T locs cells slots) (hx : p.tables.exec = Jvm.exec) {Z : State} {a0 : Array Value} {h : Heap} {aty : ArrayType} (hZ : Z.Warmed39 s.vm) (w : (Jvm.Cond.arrayClass (newarray.typeOf aty)).before a0 Z = true) (eT : T.heap = h) (hd : decode c.code pc = .ok (.newarray aty, 2)) (hp : pc + 2 = pc') {n : Int32} (hn : ¬ n < 0) (cap q : Nat) (hcap : n.toNatClampNeg ≤ cap) (hb : cap * 8 ≤ 536870912) (hc : cells + 1 ≤ R.cells) (hl : slots + cap ≤ R.slots) {ad : String} (had : "[" ++ (newarray.typeOf aty).toString = ad)
    (K : ∀ T' h' a k, Stand p l e R s m args below meth c T' locs (cells + 1) (slots + cap) → T'.heap = h' → Ext h h' → a = h.size → Arv Z h' a k (newarray.typeOf aty) n (List.replicate q (defaultValue (newarray.typeOf aty))) (defaultValue (newarray.typeOf aty)) → Exa Z h' a ad → own_Ends p e below s Q kc ks T' (mkF m pc' ls (.ref a :: st))) : own_Ends p e below s Q kc ks T (mkF m pc ls (.int n :: st)) := by
  subst hp
  obtain ⟨T1, h1, k1, X1, e1, E1, A1, Z1, st1⟩ := newPE X hx hZ w eT (g := mkF m pc ls (.int n :: st)) rfl hd rfl hn (cap := cap) hcap hb hc hl had
  exact own_go st1 (K T1 h1 _ k1 X1 e1 E1 rfl ((Arv.new A1 hn).pad (pad_rep [] _ q)) Z1)
theorem own_callS (X : Stand p l e R s m args below meth c T locs cells slots) (hx : p.tables.exec = Jvm.exec) {Z : State} {a0 : Array Value} {h : Heap} {own : String} {ix : Nat} {y : MethodName} {bytes : ByteArray} {maxL W : Nat} {ret : Option FieldType} {rm : Room} {Qc : Option Value → Heap → List Loc → Prop} {argsL rest : List Value} (hZ : Z.Warmed39 s.vm) (eT : T.heap = h) (hown : s.vm.findClass own = some m.cls) (hsz : ls.size = c.maxLocals) (wl : (Jvm.Cond.methodLink own ix y).before a0 Z = true) (ws : (Jvm.Cond.static y).before a0 Z = true) (wi : (Jvm.Cond.initialized y.cls).before a0 Z = true) (wc : (Jvm.Cond.code y bytes maxL ret).before a0 Z = true) (hy : y.cls ≠ "java/lang/invoke/MethodHandle" ∧ y.cls ≠ "java/lang/invoke/VarHandle") (hM : MetFree l y (head1 [Jvm.Cond.code y bytes maxL ret] rm) (fun a U => a = argsL.toArray ∧ Z.Warmed39 U.vm ∧ U.heap = h) (fun _ _ _ _ _ => True) (fun _ U o U' => ∃ v L, o = .returned v ∧ Qc v U'.heap L ∧ FrameEnd U o U' L rm.cells rm.slots)) (hf : rm.frames + 1 ≤ R.frames) (hlo : W + (maxL + 11) + rm.locals ≤ R.locals) (hcl : cells + rm.cells ≤ R.cells) (hsl : slots + rm.slots ≤ R.slots)
    (hlen : ∀ sig, parseMethodDescriptor y.desc = some sig → argsL.length = sig.parameters.length) (hst : st = argsL.reverse ++ rest) (hW : 2 * 0 + (rest.map fun v => v.category).sum ≤ W) (hd : decode c.code pc = .ok (.invokestatic ix, 3)) (hp : pc + 3 = pc') (K : ∀ T' L v, Stand p l e R s m args below meth c T' (locs ++ L) (cells + rm.cells) (slots + rm.slots) → Qc v T'.heap L → own_Ends p e below s Q kc ks T' (mkF m pc' ls (v.toList ++ rest))) : own_Ends p e below s Q kc ks T (mkF m pc ls st) := by
  subst hp
  obtain ⟨v, _, ⟨T1, L1, k1, n1⟩, -, X1, ⟨Lc, hQ, r1, r2, r3⟩, st1⟩ := Jvm.LawKit.callS X hx (y := y) hown (mvT hZ wl) (mvT hZ ws) (mvT hZ wi) (mvT hZ wc) hy (backOf (W := W) hM hZ wc wi hf hlo) (g := mkF m pc ls st) rfl hsz (argsL := argsL) (rest := rest) hlen hst hW hd (fun _ _ => ⟨rfl, eT, hcl, hsl⟩)
  dsimp only [Pt.U, Pt.locs, Pt.cells, Pt.slots] at X1 r1 r2 r3 st1 hQ
  subst r1 r2 r3
  exact own_go (st1) (K T1 Lc v X1 hQ)
theorem own_callC (X : Stand p l e R s m args below meth c T locs cells slots) (hx : p.tables.exec = Jvm.exec) {b : Addr} {Z : State} {a0 : Array Value} {h : Heap} {own : String} {ix : Nat} {y : MethodName} {bytes : ByteArray} {maxL W : Nat} {ret : Option FieldType} {rm : Room} {Qc : Option Value → Heap → List Loc → Prop} {argsL rest : List Value} (hZ : Z.Warmed39 s.vm) (eT : T.heap = h) (hown : s.vm.findClass own = some m.cls) (hsz : ls.size = c.maxLocals) (hret : ret = none) (hinit : y.name = "<init>") (wl : (Jvm.Cond.methodLink own ix y).before a0 Z = true) (wm : (Jvm.Cond.instanceMethod y).before a0 Z = true) (wi : (Jvm.Cond.initialized y.cls).before a0 Z = true) (wc : (Jvm.Cond.code y bytes maxL ret).before a0 Z = true) (hy : y.cls ≠ "java/lang/invoke/MethodHandle" ∧ y.cls ≠ "java/lang/invoke/VarHandle") (hM : MetFree l y (head1 [Jvm.Cond.code y bytes maxL ret] rm) (fun a U => a = (Value.ref b :: argsL).toArray ∧ Z.Warmed39 U.vm ∧ U.heap = h) (fun _ _ _ _ _ => True) (fun _ U o U' => ∃ v L, o = .returned v ∧ Qc v U'.heap L ∧ FrameEnd U o U' L rm.cells rm.slots)) (hf : rm.frames + 1 ≤ R.frames) (hlo : W + (maxL + 11) + rm.locals ≤ R.locals) (hcl : cells + rm.cells ≤ R.cells) (hsl : slots + rm.slots ≤ R.slots)
    (hlen : ∀ sig, parseMethodDescriptor y.desc = some sig → argsL.length = sig.parameters.length) (hst : st = argsL.reverse ++ .ref b :: rest) (hW : 2 * 0 + (rest.map fun v => v.category).sum ≤ W) (hd : decode c.code pc = .ok (.invokespecial ix, 3)) (hp : pc + 3 = pc') (K : ∀ T' L v, Stand p l e R s m args below meth c T' (locs ++ L) (cells + rm.cells) (slots + rm.slots) → Qc v T'.heap L → own_Ends p e below s Q kc ks T' (mkF m pc' ls (v.toList ++ rest))) : own_Ends p e below s Q kc ks T (mkF m pc ls st) := by
  subst hp hret
  obtain ⟨v, _, ⟨T1, L1, k1, n1⟩, -, X1, ⟨Lc, hQ, r1, r2, r3⟩, st1⟩ := X.specialBack hx (y := y) hinit hown (mvT hZ wl) (mvT hZ wm) (mvT hZ wc) hy (backOf (W := W) hM hZ wc wi hf hlo) (g := mkF m pc ls st) rfl hsz (Steps.refl _) (a := b) (argsL := argsL) (rest := rest) hlen hst hW hd (fun _ _ => ⟨rfl, eT, hcl, hsl⟩)
  dsimp only [Pt.U, Pt.locs, Pt.cells, Pt.slots] at X1 r1 r2 r3 st1 hQ
  subst r1 r2 r3
  exact own_go (fun t k => st1.trans k) (K T1 Lc v X1 hQ)
theorem own_callV (X : Stand p l e R s m args below meth c T locs cells slots) (hx : p.tables.exec = Jvm.exec) {b : Addr} {C : String} {Z : State} {a0 : Array Value} {h : Heap} {own : String} {ix : Nat} {y : MethodName} {bytes : ByteArray} {maxL W : Nat} {ret : Option FieldType} {rm : Room} {Qc : Option Value → Heap → List Loc → Prop} {argsL rest : List Value} (hZ : Z.Warmed39 s.vm) (eT : T.heap = h) (hown : s.vm.findClass own = some m.cls) (hsz : ls.size = c.maxLocals) (E : Exa Z h b C) (wl : (Jvm.Cond.methodLink own ix y).before a0 Z = true) (wd : (Jvm.Cond.declares y).before a0 Z = true) (wsel : (Jvm.Cond.selects C y y).before a0 Z = true) (wm : (Jvm.Cond.instanceMethod y).before a0 Z = true) (wi : (Jvm.Cond.initialized y.cls).before a0 Z = true) (wc : (Jvm.Cond.code y bytes maxL ret).before a0 Z = true) (hy : y.cls ≠ "java/lang/invoke/MethodHandle" ∧ y.cls ≠ "java/lang/invoke/VarHandle") (hM : MetFree l y (head1 [Jvm.Cond.code y bytes maxL ret] rm) (fun a U => a = (Value.ref b :: argsL).toArray ∧ Z.Warmed39 U.vm ∧ U.heap = h) (fun _ _ _ _ _ => True) (fun _ U o U' => ∃ v L, o = .returned v ∧ Qc v U'.heap L ∧ FrameEnd U o U' L rm.cells rm.slots)) (hf : rm.frames + 1 ≤ R.frames) (hlo : W + (maxL + 11) + rm.locals ≤ R.locals) (hcl : cells + rm.cells ≤ R.cells) (hsl : slots + rm.slots ≤ R.slots)
    (hlen : ∀ sig, parseMethodDescriptor y.desc = some sig → argsL.length = sig.parameters.length) (hst : st = argsL.reverse ++ .ref b :: rest) (hW : 2 * 0 + (rest.map fun v => v.category).sum ≤ W) (hd : decode c.code pc = .ok (.invokevirtual ix, 3)) (hp : pc + 3 = pc') (K : ∀ T' L v, Stand p l e R s m args below meth c T' (locs ++ L) (cells + rm.cells) (slots + rm.slots) → Qc v T'.heap L → own_Ends p e below s Q kc ks T' (mkF m pc' ls (v.toList ++ rest))) : own_Ends p e below s Q kc ks T (mkF m pc ls st) := by
  subst hp
  obtain ⟨cq, kq, qa, qb, qc⟩ := isOf hZ eT E
  obtain ⟨v, _, ⟨T1, L1, k1, n1⟩, -, X1, ⟨Lc, hQ, r1, r2, r3⟩, st1⟩ := X.virtualBack hx (y := y) (z := y) hown (mvT hZ wl) (mvT hZ wd) (notFace_of_selects (args := #[]) (mvT hZ wsel)) (mvT hZ wsel) (mvT hZ wm) hy (backOf (W := W) hM hZ wc wi hf hlo) qa qc (g := mkF m pc ls st) rfl hsz (Steps.refl _) (argsL := argsL) (rest := rest) hlen hst hW hd (fun _ _ => ⟨rfl, eT, hcl, hsl⟩)
  dsimp only [Pt.U, Pt.locs, Pt.cells, Pt.slots] at X1 r1 r2 r3 st1 hQ
  subst r1 r2 r3
  exact own_go (fun t k => st1.trans k) (K T1 Lc v X1 hQ)
theorem own_callP (X : Stand p l e R s m args below meth c T locs cells slots) (hx : p.tables.exec = Jvm.exec) {b : Addr} {C : String} {Z : State} {a0 : Array Value} {h : Heap} {own : String} {ix : Nat} {y : MethodName} {bytes : ByteArray} {maxL W : Nat} {ret : Option FieldType} {rm : Room} {Qc : Option Value → Heap → List Loc → Prop} {argsL rest : List Value} (hZ : Z.Warmed39 s.vm) (eT : T.heap = h) (hown : s.vm.findClass own = some m.cls) (hsz : ls.size = c.maxLocals) (E : Exa Z h b C) (wl : (Jvm.Cond.methodLink own ix y).before a0 Z = true) (wsel : (Jvm.Cond.selects y.cls y y).before a0 Z = true) (wp : (Jvm.Cond.privateMethod y).before a0 Z = true) (wm : (Jvm.Cond.instanceMethod y).before a0 Z = true) (wi : (Jvm.Cond.initialized y.cls).before a0 Z = true) (wc : (Jvm.Cond.code y bytes maxL ret).before a0 Z = true) (hy : y.cls ≠ "java/lang/invoke/MethodHandle" ∧ y.cls ≠ "java/lang/invoke/VarHandle") (hM : MetFree l y (head1 [Jvm.Cond.code y bytes maxL ret] rm) (fun a U => a = (Value.ref b :: argsL).toArray ∧ Z.Warmed39 U.vm ∧ U.heap = h) (fun _ _ _ _ _ => True) (fun _ U o U' => ∃ v L, o = .returned v ∧ Qc v U'.heap L ∧ FrameEnd U o U' L rm.cells rm.slots)) (hf : rm.frames + 1 ≤ R.frames) (hlo : W + (maxL + 11) + rm.locals ≤ R.locals) (hcl : cells + rm.cells ≤ R.cells) (hsl : slots + rm.slots ≤ R.slots)
    (hlen : ∀ sig, parseMethodDescriptor y.desc = some sig → argsL.length = sig.parameters.length) (hst : st = argsL.reverse ++ .ref b :: rest) (hW : 2 * 0 + (rest.map fun v => v.category).sum ≤ W) (hd : decode c.code pc = .ok (.invokevirtual ix, 3)) (hp : pc + 3 = pc') (K : ∀ T' L v, Stand p l e R s m args below meth c T' (locs ++ L) (cells + rm.cells) (slots + rm.slots) → Qc v T'.heap L → own_Ends p e below s Q kc ks T' (mkF m pc' ls (v.toList ++ rest))) : own_Ends p e below s Q kc ks T (mkF m pc ls st) := by
  subst hp
  obtain ⟨cq, qa, qb⟩ := E.cell
  obtain ⟨v, _, ⟨T1, L1, k1, n1⟩, -, X1, ⟨Lc, hQ, r1, r2, r3⟩, st1⟩ := X.privateBack hx (y := y) hown (mvT hZ wl) (mvT hZ wm) (mvT hZ wsel) (Jvm.Cond.privateMethod_at (mvP hZ wp (args := #[]))) (mvT hZ wc) hy (backOf (W := W) hM hZ wc wi hf hlo) (g := mkF m pc ls st) rfl hsz (Steps.refl _) (a := b) (by rw [eT]; exact qa) qb (argsL := argsL) (rest := rest) hlen hst hW hd (fun _ _ => ⟨rfl, eT, hcl, hsl⟩)
  dsimp only [Pt.U, Pt.locs, Pt.cells, Pt.slots] at X1 r1 r2 r3 st1 hQ
  subst r1 r2 r3
  exact own_go (fun t k => st1.trans k) (K T1 Lc v X1 hQ)
theorem own_mvM {Z : State} {a0 args : Array Value} {own host : String} {ix : Nat} {y : MethodName} (hZ : Z.Warmed39 s.vm) (w : (Jvm.Cond.methodLinkNest own ix y host).before a0 Z = true) : (Jvm.Cond.methodLinkNest own ix y host).before args s = true := (Jvm.Cond.methodLinkNest_wide hZ w :)
theorem own_callN (X : Stand p l e R s m args below meth c T locs cells slots) (hx : p.tables.exec = Jvm.exec) {b : Addr} {host : String} {Z : State} {a0 : Array Value} {h : Heap} {own : String} {ix : Nat} {y : MethodName} {bytes : ByteArray} {maxL W : Nat} {ret : Option FieldType} {rm : Room} {Qc : Option Value → Heap → List Loc → Prop} {argsL rest : List Value} (hZ : Z.Warmed39 s.vm) (eT : T.heap = h) (hown : s.vm.findClass own = some m.cls) (hsz : ls.size = c.maxLocals) (hret : ret = none) (hinit : y.name = "<init>") (wl : (Jvm.Cond.methodLinkNest own ix y host).before a0 Z = true) (wm : (Jvm.Cond.instanceMethod y).before a0 Z = true) (wi : (Jvm.Cond.initialized y.cls).before a0 Z = true) (wc : (Jvm.Cond.code y bytes maxL ret).before a0 Z = true) (hy : y.cls ≠ "java/lang/invoke/MethodHandle" ∧ y.cls ≠ "java/lang/invoke/VarHandle") (hM : MetFree l y (head1 [Jvm.Cond.code y bytes maxL ret] rm) (fun a U => a = (Value.ref b :: argsL).toArray ∧ Z.Warmed39 U.vm ∧ U.heap = h) (fun _ _ _ _ _ => True) (fun _ U o U' => ∃ v L, o = .returned v ∧ Qc v U'.heap L ∧ FrameEnd U o U' L rm.cells rm.slots)) (hf : rm.frames + 1 ≤ R.frames) (hlo : W + (maxL + 11) + rm.locals ≤ R.locals) (hcl : cells + rm.cells ≤ R.cells) (hsl : slots + rm.slots ≤ R.slots)
    (hlen : ∀ sig, parseMethodDescriptor y.desc = some sig → argsL.length = sig.parameters.length) (hst : st = argsL.reverse ++ .ref b :: rest) (hW : 2 * 0 + (rest.map fun v => v.category).sum ≤ W) (hd : decode c.code pc = .ok (.invokespecial ix, 3)) (hp : pc + 3 = pc') (K : ∀ T' L v, Stand p l e R s m args below meth c T' (locs ++ L) (cells + rm.cells) (slots + rm.slots) → Qc v T'.heap L → own_Ends p e below s Q kc ks T' (mkF m pc' ls (v.toList ++ rest))) : own_Ends p e below s Q kc ks T (mkF m pc ls st) := by
  subst hp hret
  obtain ⟨v, _, ⟨T1, L1, k1, n1⟩, -, X1, ⟨Lc, hQ, r1, r2, r3⟩, st1⟩ := X.specialBackNest hx (y := y) hinit hown (own_mvM hZ wl) (mvT hZ wm) (mvT hZ wc) hy (backOf (W := W) hM hZ wc wi hf hlo) (g := mkF m pc ls st) rfl hsz (Steps.refl _) (a := b) (argsL := argsL) (rest := rest) hlen hst hW hd (fun _ _ => ⟨rfl, eT, hcl, hsl⟩)
  dsimp only [Pt.U, Pt.locs, Pt.cells, Pt.slots] at X1 r1 r2 r3 st1 hQ
  subst r1 r2 r3
  exact own_go (fun t k => st1.trans k) (K T1 Lc v X1 hQ)
theorem own_anewarr (X : Stand p l e R s m args below meth c T locs cells slots) (hx : p.tables.exec = Jvm.exec) {Z : State} {a0 : Array Value} {h : Heap} {own C : String} {ix : Nat} (hZ : Z.Warmed39 s.vm) (hown : s.vm.findClass own = some m.cls) (w1 : (Jvm.Cond.classLink own ix C).before a0 Z = true) (w2 : (Jvm.Cond.arrayOver (.object C)).before a0 Z = true) (eT : T.heap = h) (hd : decode c.code pc = .ok (.anewarray ix, 3)) (hp : pc + 3 = pc') {n : Int32} (hn : ¬ n < 0) (cap q : Nat) (hcap : n.toNatClampNeg ≤ cap) (hb : cap * 8 ≤ 536870912) (hc : cells + 1 ≤ R.cells) (hl : slots + cap ≤ R.slots) {ad : String} (had : "[" ++ (FieldType.object C).toString = ad)
    (K : ∀ T' h' a k, Stand p l e R s m args below meth c T' locs (cells + 1) (slots + cap) → T'.heap = h' → Ext h h' → a = h.size → Arv Z h' a k (.object C) n (List.replicate q .null) .null → Exa Z h' a ad → Ovr Z k C → own_Ends p e below s Q kc ks T' (mkF m pc' ls (.ref a :: st))) : own_Ends p e below s Q kc ks T (mkF m pc ls (.int n :: st)) := by
  subst hp
  obtain ⟨T1, h1, k1, X1, e1, E1, A1, Z1, O1, st1⟩ := newRE X hx hZ hown w1 w2 eT (g := mkF m pc ls (.int n :: st)) rfl hd rfl hn (cap := cap) hcap hb hc hl had
  exact own_go st1 (K T1 h1 _ k1 X1 e1 E1 rfl ((Arv.new A1 hn).pad (pad_rep [] _ q)) Z1 O1)
theorem own_aastore (X : Stand p l e R s m args below meth c T locs cells slots) (hx : p.tables.exec = Jvm.exec) {Z : State} {h : Heap} {a b : Addr} {k : ClassId} {C D : String} {n j : Int32} {vs : List Value} {d : Value} (hZ : Z.Warmed39 s.vm) (eT : T.heap = h) (V : Arv Z h a k (.object D) n vs d) (O : Ovr Z k C) (I : Ins Z h b C true) (hd : decode c.code pc = .ok (.aastore, 1)) (hp : pc + 1 = pc') (hj : ¬ j < 0 ∧ j < n) (i : Nat) (hi : j.toNatClampNeg = i) (hl : i < vs.length) {n0 : Nat} (N : Fr n0 locs) (ge : n0 ≤ a)
    (K : ∀ T' h' L, Stand p l e R s m args below meth c T' L cells slots → T'.heap = h' → Fr n0 L → Wr h h' a j.toNatClampNeg (.ref b) → Arv Z h' a k (.object D) n (vs.set i (.ref b)) d → own_Ends p e below s Q kc ks T' (mkF m pc' ls st)) : own_Ends p e below s Q kc ks T (mkF m pc ls (.ref b :: .int j :: .ref a :: st)) := by
  subst hp
  obtain ⟨cl, A, q1, S, q2, H, G⟩ := V
  have hin := inb_of S hj
  obtain ⟨T1, h1, X1, e1, W1, st1⟩ := stR X hx hZ eT A (j := j) hin rfl (Sto.ofV A q1 O I) (g := mkF m pc ls (.ref b :: .int j :: .ref a :: st)) rfl rfl hd
  exact own_go st1 (K T1 h1 _ X1 e1 (Fr.snoc X1 N ge) W1 (Arv.set A q1 S q2 H G rfl W1 i hi hl))
theorem own_tswIn (X : Stand p l e R s m args below meth c T locs cells slots) (hx : p.tables.exec = Jvm.exec) {d lo hi o : Int} {offs : Array Int} {len : Nat} {i : Int32} (hd : decode c.code pc = .ok (.tableswitch d lo hi offs, len)) (hin : ¬ (i.toInt < lo ∨ i.toInt > hi)) (hoff : offs[(i.toInt - lo).toNat]? = some o) (ho : 0 ≤ (pc : Int) + o) (hp : ((pc : Int) + o).toNat = pc') (K : own_Ends p e below s Q kc ks T (mkF m pc' ls st)) : own_Ends p e below s Q kc ks T (mkF m pc ls (.int i :: st)) :=
  own_go (fun t k => XS.tswIn X.here hx rfl rfl hd rfl hin hoff ho hp k) K
theorem own_tswOut (X : Stand p l e R s m args below meth c T locs cells slots) (hx : p.tables.exec = Jvm.exec) {d lo hi : Int} {offs : Array Int} {len : Nat} {i : Int32} (hd : decode c.code pc = .ok (.tableswitch d lo hi offs, len)) (hout : i.toInt < lo ∨ i.toInt > hi) (ho : 0 ≤ (pc : Int) + d) (hp : ((pc : Int) + d).toNat = pc') (K : own_Ends p e below s Q kc ks T (mkF m pc' ls st)) : own_Ends p e below s Q kc ks T (mkF m pc ls (.int i :: st)) :=
  own_go (fun t k => XS.tswOut X.here hx rfl rfl hd rfl hout ho hp k) K
theorem own_ext {h h' : Heap} (K : Keep h h' []) : Ext h h' := ⟨K.1, fun a c q => K.2.1 a c q nin0⟩
theorem own_stak {Z : State} {h h' : Heap} {ws : List Addr} {C n d : String} {v : Value} (F : Sta Z h C n d v) (K : Keep h h' ws) (q : ∀ x ∈ ws, ∃ c : Cell, h[x]? = some c ∧ c.vm.isStatics = false) : Sta Z h' C n d v := by
  obtain ⟨cf, i, k, f, st, cell, h1, h2, h3, h4, h5, h6, h7⟩ := F
  refine ⟨cf, i, k, f, st, cell, h1, h2, h3, h4, K.2.1 st cell h5 (fun z => ?_), h6, h7⟩
  obtain ⟨c, q1, q2⟩ := q st z
  cases h5.symm.trans q1
  rw [h6] at q2; cases q2
theorem own_exac {Z : State} {h : Heap} {a : Addr} {C : String} (F : Exa Z h a C) : ∃ c : Cell, h[a]? = some c ∧ c.vm.isStatics = false := by
  obtain ⟨c, _, h1, -, -, h4, -⟩ := F; exact ⟨c, h1, h4⟩
theorem own_arvc {Z : State} {h : Heap} {a : Addr} {k : ClassId} {ty : FieldType} {n : Int32} {vs : List Value} {d : Value} (F : Arv Z h a k ty n vs d) : ∃ c : Cell, h[a]? = some c ∧ c.vm.isStatics = false := by
  obtain ⟨c, A, -⟩ := F; exact ⟨c, A.1, A.plain⟩
end Own
theorem own_w0 {Z : State} {a0 : Array Value} (hw : ∀ d ∈ tables_1, d.before a0 Z = true) : (Jvm.Cond.constant "com/example/corbel/corbel/bytecode/BytesU2AtPinLaw" (13 : Nat) (2147483647 : Int32)).before a0 Z = true := hw _ (List.mem_of_getElem? (i := 0) rfl)
theorem own_w1 {Z : State} {a0 : Array Value} (hw : ∀ d ∈ tables_1, d.before a0 Z = true) : (Jvm.Cond.classLink "com/example/corbel/corbel/bytecode/BytesU2AtPinLaw" (14 : Nat) "com/example/corbel/corbel/bytecode/Bytes").before a0 Z = true := hw _ (List.mem_of_getElem? (i := 1) rfl)
theorem own_w2 {Z : State} {a0 : Array Value} (hw : ∀ d ∈ tables_1, d.before a0 Z = true) : (Jvm.Cond.instantiable "com/example/corbel/corbel/bytecode/Bytes" (2 : Nat)).before a0 Z = true := hw _ (List.mem_of_getElem? (i := 2) rfl)
theorem own_w3 {Z : State} {a0 : Array Value} (hw : ∀ d ∈ tables_1, d.before a0 Z = true) : (Jvm.Cond.initialized "com/example/corbel/corbel/bytecode/Bytes").before a0 Z = true := hw _ (List.mem_of_getElem? (i := 3) rfl)
theorem own_w4 {Z : State} {a0 : Array Value} (hw : ∀ d ∈ tables_1, d.before a0 Z = true) : (Jvm.Cond.methodLink "com/example/corbel/corbel/bytecode/BytesU2AtPinLaw" (16 : Nat) ({ cls := "com/example/corbel/corbel/bytecode/Bytes", name := "<init>", desc := "()V" } : Jvm.MethodName)).before a0 Z = true := hw _ (List.mem_of_getElem? (i := 4) rfl)
theorem own_w5 {Z : State} {a0 : Array Value} (hw : ∀ d ∈ tables_1, d.before a0 Z = true) : (Jvm.Cond.instanceMethod ({ cls := "com/example/corbel/corbel/bytecode/Bytes", name := "<init>", desc := "()V" } : Jvm.MethodName)).before a0 Z = true := hw _ (List.mem_of_getElem? (i := 5) rfl)
theorem own_w6 {Z : State} {a0 : Array Value} (hw : ∀ d ∈ tables_1, d.before a0 Z = true) : (Jvm.Cond.code ({ cls := "com/example/corbel/corbel/bytecode/Bytes", name := "<init>", desc := "()V" } : Jvm.MethodName) prog_10_method_1_code (1 : Nat) (Option.none : Option Jvm.ClassFile.FieldType)).before a0 Z = true := hw _ (List.mem_of_getElem? (i := 6) rfl)
theorem own_w7 {Z : State} {a0 : Array Value} (hw : ∀ d ∈ tables_1, d.before a0 Z = true) : (Jvm.Cond.methodLink "com/example/corbel/corbel/bytecode/Bytes" (1 : Nat) ({ cls := "java/lang/Object", name := "<init>", desc := "()V" } : Jvm.MethodName)).before a0 Z = true := hw _ (List.mem_of_getElem? (i := 7) rfl)
theorem own_w8 {Z : State} {a0 : Array Value} (hw : ∀ d ∈ tables_1, d.before a0 Z = true) : (Jvm.Cond.instanceMethod ({ cls := "java/lang/Object", name := "<init>", desc := "()V" } : Jvm.MethodName)).before a0 Z = true := hw _ (List.mem_of_getElem? (i := 8) rfl)
theorem own_w9 {Z : State} {a0 : Array Value} (hw : ∀ d ∈ tables_1, d.before a0 Z = true) : (Jvm.Cond.code ({ cls := "java/lang/Object", name := "<init>", desc := "()V" } : Jvm.MethodName) object_method_1_code (1 : Nat) (Option.none : Option Jvm.ClassFile.FieldType)).before a0 Z = true := hw _ (List.mem_of_getElem? (i := 9) rfl)
theorem own_w10 {Z : State} {a0 : Array Value} (hw : ∀ d ∈ tables_1, d.before a0 Z = true) : (Jvm.Cond.arrayClass Jvm.ClassFile.FieldType.byte).before a0 Z = true := hw _ (List.mem_of_getElem? (i := 10) rfl)
theorem own_w11 {Z : State} {a0 : Array Value} (hw : ∀ d ∈ tables_1, d.before a0 Z = true) : (Jvm.Cond.fieldLink "com/example/corbel/corbel/bytecode/Bytes" (7 : Nat) "com/example/corbel/corbel/bytecode/Bytes" "data" "[B").before a0 Z = true := hw _ (List.mem_of_getElem? (i := 11) rfl)
theorem own_w12 {Z : State} {a0 : Array Value} (hw : ∀ d ∈ tables_1, d.before a0 Z = true) : (Jvm.Cond.lays "com/example/corbel/corbel/bytecode/Bytes" "com/example/corbel/corbel/bytecode/Bytes" "data" "[B").before a0 Z = true := hw _ (List.mem_of_getElem? (i := 12) rfl)
theorem own_w13 {Z : State} {a0 : Array Value} (hw : ∀ d ∈ tables_1, d.before a0 Z = true) : (Jvm.Cond.methodLink "com/example/corbel/corbel/bytecode/BytesU2AtPinLaw" (17 : Nat) ({ cls := "com/example/corbel/corbel/bytecode/Bytes", name := "u4", desc := "(I)V" } : Jvm.MethodName)).before a0 Z = true := hw _ (List.mem_of_getElem? (i := 13) rfl)
theorem own_w14 {Z : State} {a0 : Array Value} (hw : ∀ d ∈ tables_1, d.before a0 Z = true) : (Jvm.Cond.declares ({ cls := "com/example/corbel/corbel/bytecode/Bytes", name := "u4", desc := "(I)V" } : Jvm.MethodName)).before a0 Z = true := hw _ (List.mem_of_getElem? (i := 14) rfl)
theorem own_w15 {Z : State} {a0 : Array Value} (hw : ∀ d ∈ tables_1, d.before a0 Z = true) : (Jvm.Cond.instanceMethod ({ cls := "com/example/corbel/corbel/bytecode/Bytes", name := "u4", desc := "(I)V" } : Jvm.MethodName)).before a0 Z = true := hw _ (List.mem_of_getElem? (i := 15) rfl)
theorem own_w16 {Z : State} {a0 : Array Value} (hw : ∀ d ∈ tables_1, d.before a0 Z = true) : (Jvm.Cond.selects "com/example/corbel/corbel/bytecode/Bytes" ({ cls := "com/example/corbel/corbel/bytecode/Bytes", name := "u4", desc := "(I)V" } : Jvm.MethodName) ({ cls := "com/example/corbel/corbel/bytecode/Bytes", name := "u4", desc := "(I)V" } : Jvm.MethodName)).before a0 Z = true := hw _ (List.mem_of_getElem? (i := 16) rfl)
theorem own_w17 {Z : State} {a0 : Array Value} (hw : ∀ d ∈ tables_1, d.before a0 Z = true) : (Jvm.Cond.code ({ cls := "com/example/corbel/corbel/bytecode/Bytes", name := "u4", desc := "(I)V" } : Jvm.MethodName) prog_10_method_5_code (2 : Nat) (Option.none : Option Jvm.ClassFile.FieldType)).before a0 Z = true := hw _ (List.mem_of_getElem? (i := 17) rfl)
theorem own_w18 {Z : State} {a0 : Array Value} (hw : ∀ d ∈ tables_1, d.before a0 Z = true) : (Jvm.Cond.methodLink "com/example/corbel/corbel/bytecode/Bytes" (27 : Nat) ({ cls := "com/example/corbel/corbel/bytecode/Bytes", name := "u2", desc := "(I)V" } : Jvm.MethodName)).before a0 Z = true := hw _ (List.mem_of_getElem? (i := 18) rfl)
theorem own_w19 {Z : State} {a0 : Array Value} (hw : ∀ d ∈ tables_1, d.before a0 Z = true) : (Jvm.Cond.declares ({ cls := "com/example/corbel/corbel/bytecode/Bytes", name := "u2", desc := "(I)V" } : Jvm.MethodName)).before a0 Z = true := hw _ (List.mem_of_getElem? (i := 19) rfl)
theorem own_w20 {Z : State} {a0 : Array Value} (hw : ∀ d ∈ tables_1, d.before a0 Z = true) : (Jvm.Cond.instanceMethod ({ cls := "com/example/corbel/corbel/bytecode/Bytes", name := "u2", desc := "(I)V" } : Jvm.MethodName)).before a0 Z = true := hw _ (List.mem_of_getElem? (i := 20) rfl)
theorem own_w21 {Z : State} {a0 : Array Value} (hw : ∀ d ∈ tables_1, d.before a0 Z = true) : (Jvm.Cond.selects "com/example/corbel/corbel/bytecode/Bytes" ({ cls := "com/example/corbel/corbel/bytecode/Bytes", name := "u2", desc := "(I)V" } : Jvm.MethodName) ({ cls := "com/example/corbel/corbel/bytecode/Bytes", name := "u2", desc := "(I)V" } : Jvm.MethodName)).before a0 Z = true := hw _ (List.mem_of_getElem? (i := 21) rfl)
theorem own_w22 {Z : State} {a0 : Array Value} (hw : ∀ d ∈ tables_1, d.before a0 Z = true) : (Jvm.Cond.code ({ cls := "com/example/corbel/corbel/bytecode/Bytes", name := "u2", desc := "(I)V" } : Jvm.MethodName) prog_10_method_4_code (2 : Nat) (Option.none : Option Jvm.ClassFile.FieldType)).before a0 Z = true := hw _ (List.mem_of_getElem? (i := 22) rfl)
theorem own_w23 {Z : State} {a0 : Array Value} (hw : ∀ d ∈ tables_1, d.before a0 Z = true) : (Jvm.Cond.methodLink "com/example/corbel/corbel/bytecode/Bytes" (23 : Nat) ({ cls := "com/example/corbel/corbel/bytecode/Bytes", name := "u1", desc := "(I)V" } : Jvm.MethodName)).before a0 Z = true := hw _ (List.mem_of_getElem? (i := 23) rfl)
theorem own_w24 {Z : State} {a0 : Array Value} (hw : ∀ d ∈ tables_1, d.before a0 Z = true) : (Jvm.Cond.declares ({ cls := "com/example/corbel/corbel/bytecode/Bytes", name := "u1", desc := "(I)V" } : Jvm.MethodName)).before a0 Z = true := hw _ (List.mem_of_getElem? (i := 24) rfl)
theorem own_w25 {Z : State} {a0 : Array Value} (hw : ∀ d ∈ tables_1, d.before a0 Z = true) : (Jvm.Cond.instanceMethod ({ cls := "com/example/corbel/corbel/bytecode/Bytes", name := "u1", desc := "(I)V" } : Jvm.MethodName)).before a0 Z = true := hw _ (List.mem_of_getElem? (i := 25) rfl)
theorem own_w26 {Z : State} {a0 : Array Value} (hw : ∀ d ∈ tables_1, d.before a0 Z = true) : (Jvm.Cond.selects "com/example/corbel/corbel/bytecode/Bytes" ({ cls := "com/example/corbel/corbel/bytecode/Bytes", name := "u1", desc := "(I)V" } : Jvm.MethodName) ({ cls := "com/example/corbel/corbel/bytecode/Bytes", name := "u1", desc := "(I)V" } : Jvm.MethodName)).before a0 Z = true := hw _ (List.mem_of_getElem? (i := 26) rfl)
theorem own_w27 {Z : State} {a0 : Array Value} (hw : ∀ d ∈ tables_1, d.before a0 Z = true) : (Jvm.Cond.code ({ cls := "com/example/corbel/corbel/bytecode/Bytes", name := "u1", desc := "(I)V" } : Jvm.MethodName) prog_10_method_3_code (2 : Nat) (Option.none : Option Jvm.ClassFile.FieldType)).before a0 Z = true := hw _ (List.mem_of_getElem? (i := 27) rfl)
theorem own_w28 {Z : State} {a0 : Array Value} (hw : ∀ d ∈ tables_1, d.before a0 Z = true) : (Jvm.Cond.fieldLink "com/example/corbel/corbel/bytecode/Bytes" (13 : Nat) "com/example/corbel/corbel/bytecode/Bytes" "length" "I").before a0 Z = true := hw _ (List.mem_of_getElem? (i := 28) rfl)
theorem own_w29 {Z : State} {a0 : Array Value} (hw : ∀ d ∈ tables_1, d.before a0 Z = true) : (Jvm.Cond.lays "com/example/corbel/corbel/bytecode/Bytes" "com/example/corbel/corbel/bytecode/Bytes" "length" "I").before a0 Z = true := hw _ (List.mem_of_getElem? (i := 29) rfl)
theorem own_w30 {Z : State} {a0 : Array Value} (hw : ∀ d ∈ tables_1, d.before a0 Z = true) : (Jvm.Cond.methodLink "com/example/corbel/corbel/bytecode/BytesU2AtPinLaw" (21 : Nat) ({ cls := "com/example/corbel/corbel/bytecode/Bytes", name := "u2", desc := "(I)V" } : Jvm.MethodName)).before a0 Z = true := hw _ (List.mem_of_getElem? (i := 30) rfl)
theorem own_w31 {Z : State} {a0 : Array Value} (hw : ∀ d ∈ tables_1, d.before a0 Z = true) : (Jvm.Cond.methodLink "com/example/corbel/corbel/bytecode/BytesU2AtPinLaw" (24 : Nat) ({ cls := "com/example/corbel/corbel/bytecode/Bytes", name := "u2At", desc := "(II)V" } : Jvm.MethodName)).before a0 Z = true := hw _ (List.mem_of_getElem? (i := 31) rfl)
theorem own_w32 {Z : State} {a0 : Array Value} (hw : ∀ d ∈ tables_1, d.before a0 Z = true) : (Jvm.Cond.declares ({ cls := "com/example/corbel/corbel/bytecode/Bytes", name := "u2At", desc := "(II)V" } : Jvm.MethodName)).before a0 Z = true := hw _ (List.mem_of_getElem? (i := 32) rfl)
theorem own_w33 {Z : State} {a0 : Array Value} (hw : ∀ d ∈ tables_1, d.before a0 Z = true) : (Jvm.Cond.instanceMethod ({ cls := "com/example/corbel/corbel/bytecode/Bytes", name := "u2At", desc := "(II)V" } : Jvm.MethodName)).before a0 Z = true := hw _ (List.mem_of_getElem? (i := 33) rfl)
theorem own_w34 {Z : State} {a0 : Array Value} (hw : ∀ d ∈ tables_1, d.before a0 Z = true) : (Jvm.Cond.selects "com/example/corbel/corbel/bytecode/Bytes" ({ cls := "com/example/corbel/corbel/bytecode/Bytes", name := "u2At", desc := "(II)V" } : Jvm.MethodName) ({ cls := "com/example/corbel/corbel/bytecode/Bytes", name := "u2At", desc := "(II)V" } : Jvm.MethodName)).before a0 Z = true := hw _ (List.mem_of_getElem? (i := 34) rfl)
theorem own_w35 {Z : State} {a0 : Array Value} (hw : ∀ d ∈ tables_1, d.before a0 Z = true) : (Jvm.Cond.code ({ cls := "com/example/corbel/corbel/bytecode/Bytes", name := "u2At", desc := "(II)V" } : Jvm.MethodName) prog_10_method_6_code (3 : Nat) (Option.none : Option Jvm.ClassFile.FieldType)).before a0 Z = true := hw _ (List.mem_of_getElem? (i := 35) rfl)
theorem own_w36 {Z : State} {a0 : Array Value} (hw : ∀ d ∈ tables_1, d.before a0 Z = true) : (Jvm.Cond.methodLink "com/example/corbel/corbel/bytecode/BytesU2AtPinLaw" (28 : Nat) ({ cls := "com/example/corbel/corbel/bytecode/Bytes", name := "length", desc := "()I" } : Jvm.MethodName)).before a0 Z = true := hw _ (List.mem_of_getElem? (i := 36) rfl)
theorem own_w37 {Z : State} {a0 : Array Value} (hw : ∀ d ∈ tables_1, d.before a0 Z = true) : (Jvm.Cond.declares ({ cls := "com/example/corbel/corbel/bytecode/Bytes", name := "length", desc := "()I" } : Jvm.MethodName)).before a0 Z = true := hw _ (List.mem_of_getElem? (i := 37) rfl)
theorem own_w38 {Z : State} {a0 : Array Value} (hw : ∀ d ∈ tables_1, d.before a0 Z = true) : (Jvm.Cond.instanceMethod ({ cls := "com/example/corbel/corbel/bytecode/Bytes", name := "length", desc := "()I" } : Jvm.MethodName)).before a0 Z = true := hw _ (List.mem_of_getElem? (i := 38) rfl)
theorem own_w39 {Z : State} {a0 : Array Value} (hw : ∀ d ∈ tables_1, d.before a0 Z = true) : (Jvm.Cond.selects "com/example/corbel/corbel/bytecode/Bytes" ({ cls := "com/example/corbel/corbel/bytecode/Bytes", name := "length", desc := "()I" } : Jvm.MethodName) ({ cls := "com/example/corbel/corbel/bytecode/Bytes", name := "length", desc := "()I" } : Jvm.MethodName)).before a0 Z = true := hw _ (List.mem_of_getElem? (i := 39) rfl)
theorem own_w40 {Z : State} {a0 : Array Value} (hw : ∀ d ∈ tables_1, d.before a0 Z = true) : (Jvm.Cond.code ({ cls := "com/example/corbel/corbel/bytecode/Bytes", name := "length", desc := "()I" } : Jvm.MethodName) prog_10_method_2_code (1 : Nat) (Option.some Jvm.ClassFile.FieldType.int)).before a0 Z = true := hw _ (List.mem_of_getElem? (i := 40) rfl)
theorem own_w41 {Z : State} {a0 : Array Value} (hw : ∀ d ∈ tables_1, d.before a0 Z = true) : (Jvm.Cond.methodLink "com/example/corbel/corbel/bytecode/BytesU2AtPinLaw" (32 : Nat) ({ cls := "com/example/corbel/corbel/bytecode/Bytes", name := "toArray", desc := "()[B" } : Jvm.MethodName)).before a0 Z = true := hw _ (List.mem_of_getElem? (i := 41) rfl)
theorem own_w42 {Z : State} {a0 : Array Value} (hw : ∀ d ∈ tables_1, d.before a0 Z = true) : (Jvm.Cond.declares ({ cls := "com/example/corbel/corbel/bytecode/Bytes", name := "toArray", desc := "()[B" } : Jvm.MethodName)).before a0 Z = true := hw _ (List.mem_of_getElem? (i := 42) rfl)
theorem own_w43 {Z : State} {a0 : Array Value} (hw : ∀ d ∈ tables_1, d.before a0 Z = true) : (Jvm.Cond.instanceMethod ({ cls := "com/example/corbel/corbel/bytecode/Bytes", name := "toArray", desc := "()[B" } : Jvm.MethodName)).before a0 Z = true := hw _ (List.mem_of_getElem? (i := 43) rfl)
theorem own_w44 {Z : State} {a0 : Array Value} (hw : ∀ d ∈ tables_1, d.before a0 Z = true) : (Jvm.Cond.selects "com/example/corbel/corbel/bytecode/Bytes" ({ cls := "com/example/corbel/corbel/bytecode/Bytes", name := "toArray", desc := "()[B" } : Jvm.MethodName) ({ cls := "com/example/corbel/corbel/bytecode/Bytes", name := "toArray", desc := "()[B" } : Jvm.MethodName)).before a0 Z = true := hw _ (List.mem_of_getElem? (i := 44) rfl)
theorem own_w45 {Z : State} {a0 : Array Value} (hw : ∀ d ∈ tables_1, d.before a0 Z = true) : (Jvm.Cond.code ({ cls := "com/example/corbel/corbel/bytecode/Bytes", name := "toArray", desc := "()[B" } : Jvm.MethodName) prog_10_method_9_code (1 : Nat) (Option.some (Jvm.ClassFile.FieldType.array Jvm.ClassFile.FieldType.byte))).before a0 Z = true := hw _ (List.mem_of_getElem? (i := 45) rfl)
theorem own_w46 {Z : State} {a0 : Array Value} (hw : ∀ d ∈ tables_1, d.before a0 Z = true) : (Jvm.Cond.methodLink "com/example/corbel/corbel/bytecode/Bytes" (17 : Nat) ({ cls := "java/util/Arrays", name := "copyOf", desc := "([BI)[B" } : Jvm.MethodName)).before a0 Z = true := hw _ (List.mem_of_getElem? (i := 46) rfl)
theorem own_w47 {Z : State} {a0 : Array Value} (hw : ∀ d ∈ tables_1, d.before a0 Z = true) : (Jvm.Cond.static ({ cls := "java/util/Arrays", name := "copyOf", desc := "([BI)[B" } : Jvm.MethodName)).before a0 Z = true := hw _ (List.mem_of_getElem? (i := 47) rfl)
theorem own_w48 {Z : State} {a0 : Array Value} (hw : ∀ d ∈ tables_1, d.before a0 Z = true) : (Jvm.Cond.initialized "java/util/Arrays").before a0 Z = true := hw _ (List.mem_of_getElem? (i := 48) rfl)
theorem own_w49 {Z : State} {a0 : Array Value} (hw : ∀ d ∈ tables_1, d.before a0 Z = true) : (Jvm.Cond.code ({ cls := "java/util/Arrays", name := "copyOf", desc := "([BI)[B" } : Jvm.MethodName) jdk_65_method_121_code (3 : Nat) (Option.some (Jvm.ClassFile.FieldType.array Jvm.ClassFile.FieldType.byte))).before a0 Z = true := hw _ (List.mem_of_getElem? (i := 49) rfl)
theorem own_w50 {Z : State} {a0 : Array Value} (hw : ∀ d ∈ tables_1, d.before a0 Z = true) : (Jvm.Cond.methodLink "java/util/Arrays" (304 : Nat) ({ cls := "java/lang/Math", name := "min", desc := "(II)I" } : Jvm.MethodName)).before a0 Z = true := hw _ (List.mem_of_getElem? (i := 50) rfl)
theorem own_w51 {Z : State} {a0 : Array Value} (hw : ∀ d ∈ tables_1, d.before a0 Z = true) : (Jvm.Cond.static ({ cls := "java/lang/Math", name := "min", desc := "(II)I" } : Jvm.MethodName)).before a0 Z = true := hw _ (List.mem_of_getElem? (i := 51) rfl)
theorem own_w52 {Z : State} {a0 : Array Value} (hw : ∀ d ∈ tables_1, d.before a0 Z = true) : (Jvm.Cond.initialized "java/lang/Math").before a0 Z = true := hw _ (List.mem_of_getElem? (i := 52) rfl)
theorem own_w53 {Z : State} {a0 : Array Value} (hw : ∀ d ∈ tables_1, d.before a0 Z = true) : (Jvm.Cond.code ({ cls := "java/lang/Math", name := "min", desc := "(II)I" } : Jvm.MethodName) jdk_29_method_69_code (2 : Nat) (Option.some Jvm.ClassFile.FieldType.int)).before a0 Z = true := hw _ (List.mem_of_getElem? (i := 53) rfl)
theorem own_w54 {Z : State} {a0 : Array Value} (hw : ∀ d ∈ tables_1, d.before a0 Z = true) : (Jvm.Cond.methodLink "java/util/Arrays" (150 : Nat) ({ cls := "java/lang/System", name := "arraycopy", desc := "(Ljava/lang/Object;ILjava/lang/Object;II)V" } : Jvm.MethodName)).before a0 Z = true := hw _ (List.mem_of_getElem? (i := 54) rfl)
theorem own_w55 {Z : State} {a0 : Array Value} (hw : ∀ d ∈ tables_1, d.before a0 Z = true) : (Jvm.Cond.static ({ cls := "java/lang/System", name := "arraycopy", desc := "(Ljava/lang/Object;ILjava/lang/Object;II)V" } : Jvm.MethodName)).before a0 Z = true := hw _ (List.mem_of_getElem? (i := 55) rfl)
theorem own_w56 {Z : State} {a0 : Array Value} (hw : ∀ d ∈ tables_1, d.before a0 Z = true) : (Jvm.Cond.initialized "java/lang/System").before a0 Z = true := hw _ (List.mem_of_getElem? (i := 56) rfl)
theorem own_w57 {Z : State} {a0 : Array Value} (hw : ∀ d ∈ tables_1, d.before a0 Z = true) : (Jvm.Cond.native ({ cls := "java/lang/System", name := "arraycopy", desc := "(Ljava/lang/Object;ILjava/lang/Object;II)V" } : Jvm.MethodName)).before a0 Z = true := hw _ (List.mem_of_getElem? (i := 57) rfl)
theorem own_w58 {Z : State} {a0 : Array Value} (hw : ∀ d ∈ tables_1, d.before a0 Z = true) : (Jvm.Cond.methodLink "com/example/corbel/corbel/bytecode/BytesU2AtPinLaw" (36 : Nat) ({ cls := "com/example/corbel/corbel/bytecode/BytesU2AtPinLaw", name := "ok", desc := "([BIIIII)Z" } : Jvm.MethodName)).before a0 Z = true := hw _ (List.mem_of_getElem? (i := 58) rfl)
theorem own_w59 {Z : State} {a0 : Array Value} (hw : ∀ d ∈ tables_1, d.before a0 Z = true) : (Jvm.Cond.static ({ cls := "com/example/corbel/corbel/bytecode/BytesU2AtPinLaw", name := "ok", desc := "([BIIIII)Z" } : Jvm.MethodName)).before a0 Z = true := hw _ (List.mem_of_getElem? (i := 59) rfl)
theorem own_w60 {Z : State} {a0 : Array Value} (hw : ∀ d ∈ tables_1, d.before a0 Z = true) : (Jvm.Cond.initialized "com/example/corbel/corbel/bytecode/BytesU2AtPinLaw").before a0 Z = true := hw _ (List.mem_of_getElem? (i := 60) rfl)
theorem own_w61 {Z : State} {a0 : Array Value} (hw : ∀ d ∈ tables_1, d.before a0 Z = true) : (Jvm.Cond.code ({ cls := "com/example/corbel/corbel/bytecode/BytesU2AtPinLaw", name := "ok", desc := "([BIIIII)Z" } : Jvm.MethodName) method_3_code (7 : Nat) (Option.some Jvm.ClassFile.FieldType.boolean)).before a0 Z = true := hw _ (List.mem_of_getElem? (i := 61) rfl)
theorem own_w62 {Z : State} {a0 : Array Value} (hw : ∀ d ∈ tables_1, d.before a0 Z = true) : (Jvm.Cond.methodLink "com/example/corbel/corbel/bytecode/BytesU2AtPinLaw" (7 : Nat) ({ cls := "com/example/corbel/corbel/bytecode/BytesU2AtPinLaw", name := "orig", desc := "(III)B" } : Jvm.MethodName)).before a0 Z = true := hw _ (List.mem_of_getElem? (i := 62) rfl)
theorem own_w63 {Z : State} {a0 : Array Value} (hw : ∀ d ∈ tables_1, d.before a0 Z = true) : (Jvm.Cond.static ({ cls := "com/example/corbel/corbel/bytecode/BytesU2AtPinLaw", name := "orig", desc := "(III)B" } : Jvm.MethodName)).before a0 Z = true := hw _ (List.mem_of_getElem? (i := 63) rfl)
theorem own_w64 {Z : State} {a0 : Array Value} (hw : ∀ d ∈ tables_1, d.before a0 Z = true) : (Jvm.Cond.code ({ cls := "com/example/corbel/corbel/bytecode/BytesU2AtPinLaw", name := "orig", desc := "(III)B" } : Jvm.MethodName) method_2_code (3 : Nat) (Option.some Jvm.ClassFile.FieldType.byte)).before a0 Z = true := hw _ (List.mem_of_getElem? (i := 64) rfl)
theorem own_pd0 : parseMethodDescriptor "(I)V" = some ⟨[.int], none⟩ := by decide +kernel
theorem own_pd1 : parseMethodDescriptor "(II)I" = some ⟨[.int, .int], some .int⟩ := by decide +kernel
theorem own_pd2 : parseMethodDescriptor "([BI)[B" = some ⟨[(.array .byte), .int], some (.array .byte)⟩ := by decide +kernel
theorem own_pd3 : parseMethodDescriptor "(III)B" = some ⟨[.int, .int, .int], some .byte⟩ := by decide +kernel
theorem own_pd4 : parseMethodDescriptor "()V" = some ⟨[], none⟩ := by decide +kernel
theorem own_pd5 : parseMethodDescriptor "(II)V" = some ⟨[.int, .int], none⟩ := by decide +kernel
theorem own_pd6 : parseMethodDescriptor "()I" = some ⟨[], some .int⟩ := by decide +kernel
theorem own_pd7 : parseMethodDescriptor "()[B" = some ⟨[], some (.array .byte)⟩ := by decide +kernel
theorem own_pd8 : parseMethodDescriptor "([BIIIII)Z" = some ⟨[(.array .byte), .int, .int, .int, .int, .int], some .boolean⟩ := by decide +kernel
theorem own_pn0 : plainName "com/example/corbel/corbel/bytecode/Bytes" = true := by first | (simp [plainName, overriddenIn]; done) | decide +kernel
theorem own_pn1 : plainName "java/util/Arrays" = true := by first | (simp [plainName, overriddenIn]; done) | decide +kernel
theorem own_pn2 : plainName "com/example/corbel/corbel/bytecode/BytesU2AtPinLaw" = true := by first | (simp [plainName, overriddenIn]; done) | decide +kernel
theorem own_arrat {s : State} {a : Addr} {c : Cell} (h : s.arrayAt? a = some c) : s.heap[a]? = some c := by
  unfold State.arrayAt? at h
  cases q : s.heap[a]? with
  | none => simp [q] at h
  | some d =>
    simp [q] at h
    obtain ⟨k, -, h2⟩ := Option.bind_eq_some_iff.mp h
    split at h2
    · cases h2
    · split at h2
      · exact h2
      · cases h2
theorem own_b1 {x a b : Int32} (h : x < a) (q : ¬ b < a) : x < b := by rw [Int32.lt_iff_toInt_lt] at *; omega
theorem own_b2 {x a b : Int32} (h : ¬ x < a) (q : ¬ a < b) : ¬ x < b := by rw [Int32.lt_iff_toInt_lt] at *; omega
theorem own_b3 {x a b : Int32} (h : a < x) (q : ¬ a < b) : b < x := by rw [Int32.lt_iff_toInt_lt] at *; omega
theorem own_b4 {x a b : Int32} (h : ¬ a < x) (q : ¬ b < a) : ¬ b < x := by rw [Int32.lt_iff_toInt_lt] at *; omega
theorem own_b5 {x a b : Int32} (h : x < a) (q : ¬ b < a - 1 ∧ a - 1 < a) : ¬ b < x := by
  obtain ⟨q1, q2⟩ := q
  have := c_isub a 1; have := rng32 a; have := rng32 (a - 1); have e1 : (1 : Int32).toInt = 1 := rfl
  rw [Int32.lt_iff_toInt_lt] at *; omega
theorem own_b6 {x a b : Int32} (h : ¬ x < a) (q : b < a) : b < x := by rw [Int32.lt_iff_toInt_lt] at *; omega
theorem own_b7 {x a b : Int32} (h : a < x) (q : ¬ a + 1 < b ∧ a < a + 1) : ¬ x < b := by
  obtain ⟨q1, q2⟩ := q
  have := c_iadd a 1; have := rng32 a; have := rng32 (a + 1); have e1 : (1 : Int32).toInt = 1 := rfl
  rw [Int32.lt_iff_toInt_lt] at *; omega
theorem own_b8 {x a b : Int32} (h : ¬ a < x) (q : a < b) : x < b := by rw [Int32.lt_iff_toInt_lt] at *; omega
theorem own_n1 {x b : Int32} (h : x < b) : ¬ x = b := fun q => by subst q; rw [Int32.lt_iff_toInt_lt] at h; omega
theorem own_n2 {x b : Int32} (h : b < x) : ¬ x = b := fun q => by subst q; rw [Int32.lt_iff_toInt_lt] at h; omega
theorem own_i1 {x y : Int32} (h : x < y) : x.toInt < y.toInt := Int32.lt_iff_toInt_lt.mp h
theorem own_i2 {x y : Int32} (h : ¬ x < y) : y.toInt ≤ x.toInt := Int.not_lt.mp fun q => h (Int32.lt_iff_toInt_lt.mpr q)
theorem own_i3 {x y : Int32} (h : x = y) : x.toInt = y.toInt := congrArg Int32.toInt h
theorem own_i4 {x y : Int32} (h : ¬ x = y) : ¬ x.toInt = y.toInt := fun q => h (Int32.toInt_inj.mp q)
theorem own_some {x y : Int32} (h : x = y) : some (Value.int x) = some (Value.int y) := congrArg (fun z => some (Value.int z)) h
theorem own_ae1 {a b : Addr} (h : a = b) : XT.acmp .eq (.ref a) (.ref b) = true ∧ XT.acmp .ne (.ref a) (.ref b) = false := ⟨decide_eq_true (congrArg Value.ref h), decide_eq_false fun q => q (congrArg Value.ref h)⟩
theorem own_ae0 {a b : Addr} (h : ¬ a = b) : XT.acmp .eq (.ref a) (.ref b) = false ∧ XT.acmp .ne (.ref a) (.ref b) = true := ⟨decide_eq_false fun q => h (Value.ref.inj q), decide_eq_true fun q => h (Value.ref.inj q)⟩
theorem own_ann : XT.acmp .eq .null .null = true ∧ XT.acmp .ne .null .null = false := ⟨rfl, rfl⟩
theorem own_anr (b : Addr) : XT.acmp .eq .null (.ref b) = false ∧ XT.acmp .ne .null (.ref b) = true := by constructor <;> first | rfl | (simp [XT.acmp]; done) | decide
theorem own_arn (b : Addr) : XT.acmp .eq (.ref b) .null = false ∧ XT.acmp .ne (.ref b) .null = true := by constructor <;> first | rfl | (simp [XT.acmp]; done) | decide
theorem own_eqi {args : Array Value} {s : State} {t : Term} {k : Int32} (h : (Jvm.Cond.eq t (Term.int k)).value args s none s [] = some true) : t.eval args s none [] s = some (.int k) := by
  obtain ⟨x, y, e1, e2, k1, k2⟩ := cmp_v (Or.inl h)
  obtain rfl : Value.int k = y := Option.some.inj ((Term.int_eval k).symm.trans e2)
  obtain ⟨z, rfl⟩ : ∃ z, x = .int z := k2
  have q : z = k := gotT (Cond.eq_ints e1 (Term.int_eval k)) h
  rw [e1, q]
theorem own_eql {args : Array Value} {s : State} {t : Term} {k : Int64} (h : (Jvm.Cond.eq t (Term.long k)).value args s none s [] = some true) : t.eval args s none [] s = some (.long k) := by
  obtain ⟨x, y, e1, e2, k1, k2⟩ := cmp_v (Or.inl h)
  obtain rfl : Value.long k = y := Option.some.inj ((show (Term.long k).eval args s none [] s = some (.long k) from rfl).symm.trans e2)
  obtain ⟨z, rfl⟩ : ∃ z, x = .long z := k2
  have q : z = k := gotT (eq_L e1 (show (Term.long k).eval args s none [] s = some (.long k) from rfl)) h
  rw [e1, q]
theorem own_len {args : Array Value} {s : State} {t : Term} {k : Int32} {a : Addr} {c : Cell} (h : (Term.length t).eval args s none [] s = some (.int k)) (ht : t.eval args s none [] s = some (.ref a)) (hc : s.heap[a]? = some c) : c.slots.size.toInt32 = k ∧ c.slots.size < 2 ^ 31 := by
  obtain ⟨a', cell, e1, e2, e3⟩ := Term.length_spec h
  cases ht.symm.trans e1
  have e4 : s.heap[a]? = some cell := own_arrat e2
  cases hc.symm.trans e4
  refine ⟨(Value.int.inj e3).symm, ?_⟩
  by_cases q : c.slots.size < 2 ^ 31
  · exact q
  · simp [Term.eval, ht, e2, q] at h
theorem own_nb0 : nar .boolean 0 = 0 := by decide
theorem own_nb1 : nar .boolean 1 = 1 := by decide
def own_ushr (x y : Int32) : Int32 := (x.toUInt32 >>> (y &&& 31).toUInt32).toInt32
def own_ushrL (x : Int64) (y : Int32) : Int64 := (x.toUInt64 >>> (y &&& 0x3f).toInt64.toUInt64).toInt64
theorem own_d1_0 : decode prog_10_method_1_code 0 = .ok (.aload_n 0, 1) := by decide +kernel
theorem own_d1_1 : decode prog_10_method_1_code 1 = .ok (.invokespecial 1, 3) := by decide +kernel
theorem own_d1_4 : decode prog_10_method_1_code 4 = .ok (.aload_n 0, 1) := by decide +kernel
theorem own_d1_5 : decode prog_10_method_1_code 5 = .ok (.sipush 256, 3) := by decide +kernel
theorem own_d1_8 : decode prog_10_method_1_code 8 = .ok (.newarray .byte, 2) := by decide +kernel
theorem own_d1_10 : decode prog_10_method_1_code 10 = .ok (.putfield 7, 3) := by decide +kernel
theorem own_d1_13 : decode prog_10_method_1_code 13 = .ok (.return_, 1) := by decide +kernel
theorem own_d3_0 : decode prog_10_method_5_code 0 = .ok (.aload_n 0, 1) := by decide +kernel
theorem own_d3_1 : decode prog_10_method_5_code 1 = .ok (.iload_n 1, 1) := by decide +kernel
theorem own_d3_2 : decode prog_10_method_5_code 2 = .ok (.bipush 16, 2) := by decide +kernel
theorem own_d3_4 : decode prog_10_method_5_code 4 = .ok (.iushr, 1) := by decide +kernel
theorem own_d3_5 : decode prog_10_method_5_code 5 = .ok (.invokevirtual 27, 3) := by decide +kernel
theorem own_d3_8 : decode prog_10_method_5_code 8 = .ok (.aload_n 0, 1) := by decide +kernel
theorem own_d3_9 : decode prog_10_method_5_code 9 = .ok (.iload_n 1, 1) := by decide +kernel
theorem own_d3_10 : decode prog_10_method_5_code 10 = .ok (.invokevirtual 27, 3) := by decide +kernel
theorem own_d3_13 : decode prog_10_method_5_code 13 = .ok (.return_, 1) := by decide +kernel
theorem own_d4_0 : decode prog_10_method_4_code 0 = .ok (.aload_n 0, 1) := by decide +kernel
theorem own_d4_1 : decode prog_10_method_4_code 1 = .ok (.iload_n 1, 1) := by decide +kernel
theorem own_d4_2 : decode prog_10_method_4_code 2 = .ok (.bipush 8, 2) := by decide +kernel
theorem own_d4_4 : decode prog_10_method_4_code 4 = .ok (.iushr, 1) := by decide +kernel
theorem own_d4_5 : decode prog_10_method_4_code 5 = .ok (.invokevirtual 23, 3) := by decide +kernel
theorem own_d4_8 : decode prog_10_method_4_code 8 = .ok (.aload_n 0, 1) := by decide +kernel
theorem own_d4_9 : decode prog_10_method_4_code 9 = .ok (.iload_n 1, 1) := by decide +kernel
theorem own_d4_10 : decode prog_10_method_4_code 10 = .ok (.invokevirtual 23, 3) := by decide +kernel
theorem own_d4_13 : decode prog_10_method_4_code 13 = .ok (.return_, 1) := by decide +kernel
theorem own_d5_0 : decode prog_10_method_3_code 0 = .ok (.aload_n 0, 1) := by decide +kernel
theorem own_d5_1 : decode prog_10_method_3_code 1 = .ok (.getfield 13, 3) := by decide +kernel
theorem own_d5_4 : decode prog_10_method_3_code 4 = .ok (.aload_n 0, 1) := by decide +kernel
theorem own_d5_5 : decode prog_10_method_3_code 5 = .ok (.getfield 7, 3) := by decide +kernel
theorem own_d5_8 : decode prog_10_method_3_code 8 = .ok (.arraylength, 1) := by decide +kernel
theorem own_d5_9 : decode prog_10_method_3_code 9 = .ok (.if_icmp .ne 20, 3) := by decide +kernel
theorem own_d5_12 : decode prog_10_method_3_code 12 = .ok (.aload_n 0, 1) := by decide +kernel
theorem own_d5_13 : decode prog_10_method_3_code 13 = .ok (.aload_n 0, 1) := by decide +kernel
theorem own_d5_14 : decode prog_10_method_3_code 14 = .ok (.getfield 7, 3) := by decide +kernel
theorem own_d5_17 : decode prog_10_method_3_code 17 = .ok (.aload_n 0, 1) := by decide +kernel
theorem own_d5_18 : decode prog_10_method_3_code 18 = .ok (.getfield 13, 3) := by decide +kernel
theorem own_d5_21 : decode prog_10_method_3_code 21 = .ok (.iconst 2, 1) := by decide +kernel
theorem own_d5_22 : decode prog_10_method_3_code 22 = .ok (.imul, 1) := by decide +kernel
theorem own_d5_23 : decode prog_10_method_3_code 23 = .ok (.invokestatic 17, 3) := by decide +kernel
theorem own_d5_26 : decode prog_10_method_3_code 26 = .ok (.putfield 7, 3) := by decide +kernel
theorem own_d5_29 : decode prog_10_method_3_code 29 = .ok (.aload_n 0, 1) := by decide +kernel
theorem own_d5_30 : decode prog_10_method_3_code 30 = .ok (.getfield 7, 3) := by decide +kernel
theorem own_d5_33 : decode prog_10_method_3_code 33 = .ok (.aload_n 0, 1) := by decide +kernel
theorem own_d5_34 : decode prog_10_method_3_code 34 = .ok (.dup, 1) := by decide +kernel
theorem own_d5_35 : decode prog_10_method_3_code 35 = .ok (.getfield 13, 3) := by decide +kernel
theorem own_d5_38 : decode prog_10_method_3_code 38 = .ok (.dup_x1, 1) := by decide +kernel
theorem own_d5_39 : decode prog_10_method_3_code 39 = .ok (.iconst 1, 1) := by decide +kernel
theorem own_d5_40 : decode prog_10_method_3_code 40 = .ok (.iadd, 1) := by decide +kernel
theorem own_d5_41 : decode prog_10_method_3_code 41 = .ok (.putfield 13, 3) := by decide +kernel
theorem own_d5_44 : decode prog_10_method_3_code 44 = .ok (.iload_n 1, 1) := by decide +kernel
theorem own_d5_45 : decode prog_10_method_3_code 45 = .ok (.i2b, 1) := by decide +kernel
theorem own_d5_46 : decode prog_10_method_3_code 46 = .ok (.bastore, 1) := by decide +kernel
theorem own_d5_47 : decode prog_10_method_3_code 47 = .ok (.return_, 1) := by decide +kernel
theorem own_d6_0 : decode prog_10_method_6_code 0 = .ok (.aload_n 0, 1) := by decide +kernel
theorem own_d6_1 : decode prog_10_method_6_code 1 = .ok (.getfield 7, 3) := by decide +kernel
theorem own_d6_4 : decode prog_10_method_6_code 4 = .ok (.iload_n 1, 1) := by decide +kernel
theorem own_d6_5 : decode prog_10_method_6_code 5 = .ok (.iload_n 2, 1) := by decide +kernel
theorem own_d6_6 : decode prog_10_method_6_code 6 = .ok (.bipush 8, 2) := by decide +kernel
theorem own_d6_8 : decode prog_10_method_6_code 8 = .ok (.iushr, 1) := by decide +kernel
theorem own_d6_9 : decode prog_10_method_6_code 9 = .ok (.i2b, 1) := by decide +kernel
theorem own_d6_10 : decode prog_10_method_6_code 10 = .ok (.bastore, 1) := by decide +kernel
theorem own_d6_11 : decode prog_10_method_6_code 11 = .ok (.aload_n 0, 1) := by decide +kernel
theorem own_d6_12 : decode prog_10_method_6_code 12 = .ok (.getfield 7, 3) := by decide +kernel
theorem own_d6_15 : decode prog_10_method_6_code 15 = .ok (.iload_n 1, 1) := by decide +kernel
theorem own_d6_16 : decode prog_10_method_6_code 16 = .ok (.iconst 1, 1) := by decide +kernel
theorem own_d6_17 : decode prog_10_method_6_code 17 = .ok (.iadd, 1) := by decide +kernel
theorem own_d6_18 : decode prog_10_method_6_code 18 = .ok (.iload_n 2, 1) := by decide +kernel
theorem own_d6_19 : decode prog_10_method_6_code 19 = .ok (.i2b, 1) := by decide +kernel
theorem own_d6_20 : decode prog_10_method_6_code 20 = .ok (.bastore, 1) := by decide +kernel
theorem own_d6_21 : decode prog_10_method_6_code 21 = .ok (.return_, 1) := by decide +kernel
theorem own_d7_0 : decode prog_10_method_2_code 0 = .ok (.aload_n 0, 1) := by decide +kernel
theorem own_d7_1 : decode prog_10_method_2_code 1 = .ok (.getfield 13, 3) := by decide +kernel
theorem own_d7_4 : decode prog_10_method_2_code 4 = .ok (.ireturn, 1) := by decide +kernel
theorem own_d8_0 : decode prog_10_method_9_code 0 = .ok (.aload_n 0, 1) := by decide +kernel
theorem own_d8_1 : decode prog_10_method_9_code 1 = .ok (.getfield 7, 3) := by decide +kernel
theorem own_d8_4 : decode prog_10_method_9_code 4 = .ok (.aload_n 0, 1) := by decide +kernel
theorem own_d8_5 : decode prog_10_method_9_code 5 = .ok (.getfield 13, 3) := by decide +kernel
theorem own_d8_8 : decode prog_10_method_9_code 8 = .ok (.invokestatic 17, 3) := by decide +kernel
theorem own_d8_11 : decode prog_10_method_9_code 11 = .ok (.areturn, 1) := by decide +kernel
theorem own_d9_0 : decode jdk_65_method_121_code 0 = .ok (.iload_n 1, 1) := by decide +kernel
theorem own_d9_1 : decode jdk_65_method_121_code 1 = .ok (.aload_n 0, 1) := by decide +kernel
theorem own_d9_2 : decode jdk_65_method_121_code 2 = .ok (.arraylength, 1) := by decide +kernel
theorem own_d9_3 : decode jdk_65_method_121_code 3 = .ok (.if_icmp .ne 11, 3) := by decide +kernel
theorem own_d9_6 : decode jdk_65_method_121_code 6 = .ok (.aload_n 0, 1) := by decide +kernel
theorem own_d9_7 : decode jdk_65_method_121_code 7 = .ok (.invokevirtual 310, 3) := by decide +kernel
theorem own_d9_10 : decode jdk_65_method_121_code 10 = .ok (.checkcast 311, 3) := by decide +kernel
theorem own_d9_13 : decode jdk_65_method_121_code 13 = .ok (.areturn, 1) := by decide +kernel
theorem own_d9_14 : decode jdk_65_method_121_code 14 = .ok (.iload_n 1, 1) := by decide +kernel
theorem own_d9_15 : decode jdk_65_method_121_code 15 = .ok (.newarray .byte, 2) := by decide +kernel
theorem own_d9_17 : decode jdk_65_method_121_code 17 = .ok (.astore_n 2, 1) := by decide +kernel
theorem own_d9_18 : decode jdk_65_method_121_code 18 = .ok (.aload_n 0, 1) := by decide +kernel
theorem own_d9_19 : decode jdk_65_method_121_code 19 = .ok (.iconst 0, 1) := by decide +kernel
theorem own_d9_20 : decode jdk_65_method_121_code 20 = .ok (.aload_n 2, 1) := by decide +kernel
theorem own_d9_21 : decode jdk_65_method_121_code 21 = .ok (.iconst 0, 1) := by decide +kernel
theorem own_d9_22 : decode jdk_65_method_121_code 22 = .ok (.aload_n 0, 1) := by decide +kernel
theorem own_d9_23 : decode jdk_65_method_121_code 23 = .ok (.arraylength, 1) := by decide +kernel
theorem own_d9_24 : decode jdk_65_method_121_code 24 = .ok (.iload_n 1, 1) := by decide +kernel
theorem own_d9_25 : decode jdk_65_method_121_code 25 = .ok (.invokestatic 304, 3) := by decide +kernel
theorem own_d9_28 : decode jdk_65_method_121_code 28 = .ok (.invokestatic 150, 3) := by decide +kernel
theorem own_d9_31 : decode jdk_65_method_121_code 31 = .ok (.aload_n 2, 1) := by decide +kernel
theorem own_d9_32 : decode jdk_65_method_121_code 32 = .ok (.areturn, 1) := by decide +kernel
theorem own_d10_0 : decode jdk_29_method_69_code 0 = .ok (.iload_n 0, 1) := by decide +kernel
theorem own_d10_1 : decode jdk_29_method_69_code 1 = .ok (.iload_n 1, 1) := by decide +kernel
theorem own_d10_2 : decode jdk_29_method_69_code 2 = .ok (.if_icmp .gt 7, 3) := by decide +kernel
theorem own_d10_5 : decode jdk_29_method_69_code 5 = .ok (.iload_n 0, 1) := by decide +kernel
theorem own_d10_6 : decode jdk_29_method_69_code 6 = .ok (.goto 4, 3) := by decide +kernel
theorem own_d10_9 : decode jdk_29_method_69_code 9 = .ok (.iload_n 1, 1) := by decide +kernel
theorem own_d10_10 : decode jdk_29_method_69_code 10 = .ok (.ireturn, 1) := by decide +kernel
theorem own_d11_0 : decode method_3_code 0 = .ok (.iload_n 1, 1) := by decide +kernel
theorem own_d11_1 : decode method_3_code 1 = .ok (.iload_n 2, 1) := by decide +kernel
theorem own_d11_2 : decode method_3_code 2 = .ok (.if_icmp .ne 13, 3) := by decide +kernel
theorem own_d11_5 : decode method_3_code 5 = .ok (.iload_n 3, 1) := by decide +kernel
theorem own_d11_6 : decode method_3_code 6 = .ok (.bipush 8, 2) := by decide +kernel
theorem own_d11_8 : decode method_3_code 8 = .ok (.iushr, 1) := by decide +kernel
theorem own_d11_9 : decode method_3_code 9 = .ok (.i2b, 1) := by decide +kernel
theorem own_d11_10 : decode method_3_code 10 = .ok (.istore 6, 2) := by decide +kernel
theorem own_d11_12 : decode method_3_code 12 = .ok (.goto 27, 3) := by decide +kernel
theorem own_d11_15 : decode method_3_code 15 = .ok (.iload_n 1, 1) := by decide +kernel
theorem own_d11_16 : decode method_3_code 16 = .ok (.iload_n 2, 1) := by decide +kernel
theorem own_d11_17 : decode method_3_code 17 = .ok (.iconst 1, 1) := by decide +kernel
theorem own_d11_18 : decode method_3_code 18 = .ok (.iadd, 1) := by decide +kernel
theorem own_d11_19 : decode method_3_code 19 = .ok (.if_icmp .ne 10, 3) := by decide +kernel
theorem own_d11_22 : decode method_3_code 22 = .ok (.iload_n 3, 1) := by decide +kernel
theorem own_d11_23 : decode method_3_code 23 = .ok (.i2b, 1) := by decide +kernel
theorem own_d11_24 : decode method_3_code 24 = .ok (.istore 6, 2) := by decide +kernel
theorem own_d11_26 : decode method_3_code 26 = .ok (.goto 13, 3) := by decide +kernel
theorem own_d11_29 : decode method_3_code 29 = .ok (.iload_n 1, 1) := by decide +kernel
theorem own_d11_30 : decode method_3_code 30 = .ok (.iload 4, 2) := by decide +kernel
theorem own_d11_32 : decode method_3_code 32 = .ok (.iload 5, 2) := by decide +kernel
theorem own_d11_34 : decode method_3_code 34 = .ok (.invokestatic 7, 3) := by decide +kernel
theorem own_d11_37 : decode method_3_code 37 = .ok (.istore 6, 2) := by decide +kernel
theorem own_d11_39 : decode method_3_code 39 = .ok (.aload_n 0, 1) := by decide +kernel
theorem own_d11_40 : decode method_3_code 40 = .ok (.iload_n 1, 1) := by decide +kernel
theorem own_d11_41 : decode method_3_code 41 = .ok (.baload, 1) := by decide +kernel
theorem own_d11_42 : decode method_3_code 42 = .ok (.iload 6, 2) := by decide +kernel
theorem own_d11_44 : decode method_3_code 44 = .ok (.if_icmp .ne 7, 3) := by decide +kernel
theorem own_d11_47 : decode method_3_code 47 = .ok (.iconst 1, 1) := by decide +kernel
theorem own_d11_48 : decode method_3_code 48 = .ok (.goto 4, 3) := by decide +kernel
theorem own_d11_51 : decode method_3_code 51 = .ok (.iconst 0, 1) := by decide +kernel
theorem own_d11_52 : decode method_3_code 52 = .ok (.ireturn, 1) := by decide +kernel
theorem own_d12_0 : decode method_2_code 0 = .ok (.iload_n 0, 1) := by decide +kernel
theorem own_d12_1 : decode method_2_code 1 = .ok (.ifCond .ne 9, 3) := by decide +kernel
theorem own_d12_4 : decode method_2_code 4 = .ok (.iload_n 1, 1) := by decide +kernel
theorem own_d12_5 : decode method_2_code 5 = .ok (.bipush 24, 2) := by decide +kernel
theorem own_d12_7 : decode method_2_code 7 = .ok (.iushr, 1) := by decide +kernel
theorem own_d12_8 : decode method_2_code 8 = .ok (.i2b, 1) := by decide +kernel
theorem own_d12_9 : decode method_2_code 9 = .ok (.ireturn, 1) := by decide +kernel
theorem own_d12_10 : decode method_2_code 10 = .ok (.iload_n 0, 1) := by decide +kernel
theorem own_d12_11 : decode method_2_code 11 = .ok (.iconst 1, 1) := by decide +kernel
theorem own_d12_12 : decode method_2_code 12 = .ok (.if_icmp .ne 9, 3) := by decide +kernel
theorem own_d12_15 : decode method_2_code 15 = .ok (.iload_n 1, 1) := by decide +kernel
theorem own_d12_16 : decode method_2_code 16 = .ok (.bipush 16, 2) := by decide +kernel
theorem own_d12_18 : decode method_2_code 18 = .ok (.iushr, 1) := by decide +kernel
theorem own_d12_19 : decode method_2_code 19 = .ok (.i2b, 1) := by decide +kernel
theorem own_d12_20 : decode method_2_code 20 = .ok (.ireturn, 1) := by decide +kernel
theorem own_d12_21 : decode method_2_code 21 = .ok (.iload_n 0, 1) := by decide +kernel
theorem own_d12_22 : decode method_2_code 22 = .ok (.iconst 2, 1) := by decide +kernel
theorem own_d12_23 : decode method_2_code 23 = .ok (.if_icmp .ne 9, 3) := by decide +kernel
theorem own_d12_26 : decode method_2_code 26 = .ok (.iload_n 1, 1) := by decide +kernel
theorem own_d12_27 : decode method_2_code 27 = .ok (.bipush 8, 2) := by decide +kernel
theorem own_d12_29 : decode method_2_code 29 = .ok (.iushr, 1) := by decide +kernel
theorem own_d12_30 : decode method_2_code 30 = .ok (.i2b, 1) := by decide +kernel
theorem own_d12_31 : decode method_2_code 31 = .ok (.ireturn, 1) := by decide +kernel
theorem own_d12_32 : decode method_2_code 32 = .ok (.iload_n 0, 1) := by decide +kernel
theorem own_d12_33 : decode method_2_code 33 = .ok (.iconst 3, 1) := by decide +kernel
theorem own_d12_34 : decode method_2_code 34 = .ok (.if_icmp .ne 6, 3) := by decide +kernel
theorem own_d12_37 : decode method_2_code 37 = .ok (.iload_n 1, 1) := by decide +kernel
theorem own_d12_38 : decode method_2_code 38 = .ok (.i2b, 1) := by decide +kernel
theorem own_d12_39 : decode method_2_code 39 = .ok (.ireturn, 1) := by decide +kernel
theorem own_d12_40 : decode method_2_code 40 = .ok (.iload_n 0, 1) := by decide +kernel
theorem own_d12_41 : decode method_2_code 41 = .ok (.iconst 4, 1) := by decide +kernel
theorem own_d12_42 : decode method_2_code 42 = .ok (.if_icmp .ne 9, 3) := by decide +kernel
theorem own_d12_45 : decode method_2_code 45 = .ok (.iload_n 2, 1) := by decide +kernel
theorem own_d12_46 : decode method_2_code 46 = .ok (.bipush 8, 2) := by decide +kernel
theorem own_d12_48 : decode method_2_code 48 = .ok (.iushr, 1) := by decide +kernel
theorem own_d12_49 : decode method_2_code 49 = .ok (.i2b, 1) := by decide +kernel
theorem own_d12_50 : decode method_2_code 50 = .ok (.ireturn, 1) := by decide +kernel
theorem own_d12_51 : decode method_2_code 51 = .ok (.iload_n 2, 1) := by decide +kernel
theorem own_d12_52 : decode method_2_code 52 = .ok (.i2b, 1) := by decide +kernel
theorem own_d12_53 : decode method_2_code 53 = .ok (.ireturn, 1) := by decide +kernel
def own_b (x : Int32) : Int32 := x.toInt8.toInt32
theorem own_nb (x : Int32) : nar .byte (own_b x) = own_b x := by
  have h1 := c_i2b x
  have h2 := c_i2b (own_b x)
  have e : nar .byte (own_b x) = (own_b x).toInt8.toInt32 := rfl
  rw [e]
  apply Int32.toInt_inj.mp
  unfold own_b at *
  omega
theorem own_ushr_bv (x y : Int32) (k : Nat) (hy : ((y &&& 31).toUInt32.toBitVec % 32).toNat = k) : (own_ushr x y).toBitVec = x.toBitVec >>> k := by
  show x.toBitVec >>> ((y &&& 31).toUInt32.toBitVec % 32) = _
  rw [← hy]; rfl
theorem own_24 (w : Int32) : own_ushr (own_ushr w 16) 8 = own_ushr w 24 := by
  apply Int32.toBitVec_inj.mp
  rw [own_ushr_bv _ 8 8 (by decide), own_ushr_bv _ 16 16 (by decide), own_ushr_bv _ 24 24 (by decide)]
  apply BitVec.eq_of_getLsbD_eq
  intro i hi
  simp only [BitVec.getLsbD_ushiftRight]
  congr 1; omega
def own_orig (i w x : Int32) : Int32 := if i = 0 then own_b (own_ushr w 24) else if i = 1 then own_b (own_ushr w 16) else if i = 2 then own_b (own_ushr w 8) else if i = 3 then own_b w else if i = 4 then own_b (own_ushr x 8) else own_b x
def own_e (i a v w x : Int32) : Int32 := if i = a then own_b (own_ushr v 8) else if i = a + 1 then own_b v else own_orig i w x
theorem own_r5 {p n : Int32} (h : (p &&& 2147483647) % 5 = n) : n = 0 ∨ n = 1 ∨ n = 2 ∨ n = 3 ∨ n = 4 := by
  have h1 := c_mask p 2147483647 31 (by decide) (by decide)
  have h2 := (c_irem (p &&& 2147483647) 5 5 rfl).1 (by rw [h1]; omega)
  rw [h] at h2
  have : n.toInt = 0 ∨ n.toInt = 1 ∨ n.toInt = 2 ∨ n.toInt = 3 ∨ n.toInt = 4 := by omega
  rcases this with q | q | q | q | q
  · exact Or.inl (Int32.toInt_inj.mp q)
  · exact Or.inr (Or.inl (Int32.toInt_inj.mp q))
  · exact Or.inr (Or.inr (Or.inl (Int32.toInt_inj.mp q)))
  · exact Or.inr (Or.inr (Or.inr (Or.inl (Int32.toInt_inj.mp q))))
  · exact Or.inr (Or.inr (Or.inr (Or.inr (Int32.toInt_inj.mp q))))
def own_room5_0 : Room := { frames := 0, cells := 0, slots := 0, locals := 0 }
def own_Q5_0 (Z : State) (a : Addr) (pq : Int32) (b : Addr) (bk : ClassId) (x0 : Int32) (x1 : Int32) (x2 : Int32) (x3 : Int32) (x4 : Int32) (x5 : Int32) (h0 : Heap) (n0 : Nat) (v : Option Value) (h : Heap) (L : List Loc) : Prop := v = none ∧ Fr n0 L ∧ Keep h0 h [a, b] ∧ Fld Z h a "com/example/corbel/corbel/bytecode/Bytes" "data" "[B" (.ref b) ∧ Fld Z h a "com/example/corbel/corbel/bytecode/Bytes" "length" "I" (.int (1 : Int32)) ∧ Arv Z h b bk .byte (256 : Int32) [(.int (own_b pq)), (.int x1), (.int x2), (.int x3), (.int x4), (.int x5)] (.int (0 : Int32))
theorem own_ef_rm5_0 (m : MethodId) (x0 : Addr) (x1 : Int32) : entryFrame m #[(.ref x0), (.int x1)] 2 = mkF m 0 #[.val (.ref x0), .val (.int x1)] [] := by first | (simp [entryFrame, mkF, argsToLocals, Value.category]; done) | rfl
set_option maxRecDepth 65536 in
set_option maxHeartbeats 40000000 in
theorem own_rm5_0 (lch : Launch) (Z : State) (a0 : Array Value) (hw : ∀ d ∈ tables_1, d.before a0 Z = true) (ws : List Jvm.Cond) (a : Addr) (pq : Int32) (b : Addr) (bk : ClassId) (x0 : Int32) (x1 : Int32) (x2 : Int32) (x3 : Int32) (x4 : Int32) (x5 : Int32) (h0 : Heap) (n0 : Nat) (E0 : Exa Z h0 a "com/example/corbel/corbel/bytecode/Bytes") (FD : Fld Z h0 a "com/example/corbel/corbel/bytecode/Bytes" "data" "[B" (.ref b)) (FL : Fld Z h0 a "com/example/corbel/corbel/bytecode/Bytes" "length" "I" (.int (0 : Int32))) (V0 : Arv Z h0 b bk .byte (256 : Int32) [(.int x0), (.int x1), (.int x2), (.int x3), (.int x4), (.int x5)] (.int (0 : Int32))) (ga : n0 ≤ a) (gb : n0 ≤ b) (hne : a ≠ b) :
    MetFree lch (⟨"com/example/corbel/corbel/bytecode/Bytes", "u1", "(I)V"⟩ : MethodName) (head1 (Jvm.Cond.code (⟨"com/example/corbel/corbel/bytecode/Bytes", "u1", "(I)V"⟩ : MethodName) prog_10_method_3_code 2 none :: ws) own_room5_0) (fun zz U => zz = #[(.ref a), (.int pq)] ∧ Z.Warmed39 U.vm ∧ U.heap = h0) (fun _ _ _ _ _ => True) (fun _ U o U' => ∃ v L, o = .returned v ∧ own_Q5_0 Z a pq b bk x0 x1 x2 x3 x4 x5 h0 n0 v U'.heap L ∧ FrameEnd U o U' L own_room5_0.cells own_room5_0.slots) := by
  refine MetFree.of_bodySF (plainFor_of_name own_pn0) hisR ?_
  intro prg e s m args below meth c s₁ Bd hml0 hP hK
  obtain ⟨rfl, hZ, hh⟩ := hP
  have hx := Bd.exec
  have hby := Bd.bytes
  have hml : c.maxLocals = 2 := hml0
  have hown : s.vm.findClass "com/example/corbel/corbel/bytecode/Bytes" = some m.cls := findClass_of_methodNamed Bd.named
  have hnm := (name_of_methodNamed Bd.named Bd.method).1
  have hlk : meth.locks = false := BodyLoose.notSynchronized Bd
  have hret := Bd.returns
  have X0 : Stand prg lch e own_room5_0 s m #[(.ref a), (.int pq)] below meth c s₁ [] 0 0 := Stand.of_body Bd
  have e0 : s₁.heap = h0 := by rw [← hh, Bd.state]; rfl
  have N0 := Fr.nil n0
  show own_Ends prg e below s (own_Q5_0 Z a pq b bk x0 x1 x2 x3 x4 x5 h0 n0) own_room5_0.cells own_room5_0.slots s₁ (entryFrame m #[(.ref a), (.int pq)] 2)
  refine own_cast (own_ef_rm5_0 m a pq) ?_
  have K0 := Keep.refl h0 ([a, b] : List Addr)
  refine own_aloadN (pc' := 1) X0 hx (hb hby own_d5_0) rfl rfl rfl ?_
  obtain ⟨T31, X31, e31, st31⟩ := getF X0 hx hZ hown (host := "") (Or.inl (own_w28 hw)) Via.refl e0 FL (g := (mkF m 1 #[.val (.ref a), .val (.int pq)] [(.ref a)])) rfl rfl (hb hby own_d5_1)
  refine own_go st31 ?_
  show own_Ends prg e below s _ _ _ T31 (mkF m 4 #[.val (.ref a), .val (.int pq)] [(.int (0 : Int32))])
  refine own_aloadN (pc' := 5) X31 hx (hb hby own_d5_4) rfl rfl rfl ?_
  obtain ⟨T32, X32, e32, st32⟩ := getF X31 hx hZ hown (host := "") (Or.inl (own_w11 hw)) Via.refl e31 FD (g := (mkF m 5 #[.val (.ref a), .val (.int pq)] [(.ref a), (.int (0 : Int32))])) rfl rfl (hb hby own_d5_5)
  refine own_go st32 ?_
  show own_Ends prg e below s _ _ _ T32 (mkF m 8 #[.val (.ref a), .val (.int pq)] [(.ref b), (.int (0 : Int32))])
  refine own_alen (pc' := 9) X32 hx hZ e32 V0 (hb hby own_d5_8) rfl ?_
  refine own_icmpYes (pc' := 29) X32 hx (hb hby own_d5_9) (feq (by decide)).2 (by decide) (by decide) ?_
  refine own_aloadN (pc' := 30) X32 hx (hb hby own_d5_29) rfl rfl rfl ?_
  obtain ⟨T33, X33, e33, st33⟩ := getF X32 hx hZ hown (host := "") (Or.inl (own_w11 hw)) Via.refl e32 FD (g := (mkF m 30 #[.val (.ref a), .val (.int pq)] [(.ref a)])) rfl rfl (hb hby own_d5_30)
  refine own_go st33 ?_
  show own_Ends prg e below s _ _ _ T33 (mkF m 33 #[.val (.ref a), .val (.int pq)] [(.ref b)])
  refine own_aloadN (pc' := 34) X33 hx (hb hby own_d5_33) rfl rfl rfl ?_
  refine own_dup (pc' := 35) X33 hx (hb hby own_d5_34) rfl rfl ?_
  obtain ⟨T34, X34, e34, st34⟩ := getF X33 hx hZ hown (host := "") (Or.inl (own_w28 hw)) Via.refl e33 FL (g := (mkF m 35 #[.val (.ref a), .val (.int pq)] [(.ref a), (.ref a), (.ref b)])) rfl rfl (hb hby own_d5_35)
  refine own_go st34 ?_
  show own_Ends prg e below s _ _ _ T34 (mkF m 38 #[.val (.ref a), .val (.int pq)] [(.int (0 : Int32)), (.ref a), (.ref b)])
  refine own_dupX1 (pc' := 39) X34 hx (hb hby own_d5_38) rfl rfl rfl ?_
  refine own_iconst (pc' := 40) (z := (1 : Int32)) X34 hx (hb hby own_d5_39) rfl rfl ?_
  refine own_iadd (pc' := 41) (z := (1 : Int32)) X34 hx (hb hby own_d5_40) rfl (by decide) ?_
  obtain ⟨T35, h35, X35, e35, W35, st35⟩ := putF X34 hx hZ hown (host := "") (Or.inl (own_w28 hw)) Via.refl e34 FL E0 (Or.inl (own_w29 hw)) (own_w2 hw) (ty := .int) (by decide) rfl rfl (g := (mkF m 41 #[.val (.ref a), .val (.int pq)] [(.int (1 : Int32)), (.ref a), (.int (0 : Int32)), (.ref b)])) rfl rfl (hb hby own_d5_41)
  refine own_go st35 ?_
  have Fw35 := FL.same W35
  have N35 := Fr.snoc X35 N0 ga
  show own_Ends prg e below s _ _ _ T35 (mkF m 44 #[.val (.ref a), .val (.int pq)] [(.int (0 : Int32)), (.ref b)])
  refine own_iloadN (pc' := 45) X35 hx (hb hby own_d5_44) rfl rfl ?_
  refine own_i2b (pc' := 46) (z := (own_b pq)) X35 hx (hb hby own_d5_45) rfl rfl ?_
  have f36 := (V0.other W35 (Ne.symm hne))
  refine own_bastore (pc' := 47) X35 hx hZ e35 f36 (hb hby own_d5_46) rfl (by decide) 0 rfl (by simp) N35 gb ?_
  intro T37 h37 L37 X37 e37 N37 W37 V37
  rw [show nar .byte (own_b pq) = (own_b pq) from own_nb _] at V37
  replace V37 : Arv Z h37 b bk .byte (256 : Int32) [(.int (own_b pq)), (.int x1), (.int x2), (.int x3), (.int x4), (.int x5)] (.int (0 : Int32)) := V37
  show own_Ends prg e below s _ _ _ T37 (mkF m 47 #[.val (.ref a), .val (.int pq)] [])
  refine own_retV X37 hx hlk hret (hb hby own_d5_47) (by decide) (by decide) ?_
  have f38 := ((K0.wr W35 (Or.inl (List.mem_of_getElem? (i := 0) rfl))).wr W37 (Or.inl (List.mem_of_getElem? (i := 1) rfl)))
  have f39 := ((FD.other W35 (Or.inr (slot_ne (Or.inl (own_w12 hw)) (Or.inl (own_w29 hw)) (by decide) (t := (.array .byte)) (t' := .int) (by decide) (by decide)))).other W37 (Or.inl hne))
  have f40 := (Fw35.other W37 (Or.inl hne))
  rw [e37]; exact ⟨rfl, N37, f38, f39, f40, V37⟩
def own_room5_1 : Room := { frames := 0, cells := 0, slots := 0, locals := 0 }
def own_Q5_1 (Z : State) (a : Addr) (pq : Int32) (b : Addr) (bk : ClassId) (x0 : Int32) (x1 : Int32) (x2 : Int32) (x3 : Int32) (x4 : Int32) (x5 : Int32) (h0 : Heap) (n0 : Nat) (v : Option Value) (h : Heap) (L : List Loc) : Prop := v = none ∧ Fr n0 L ∧ Keep h0 h [a, b] ∧ Fld Z h a "com/example/corbel/corbel/bytecode/Bytes" "data" "[B" (.ref b) ∧ Fld Z h a "com/example/corbel/corbel/bytecode/Bytes" "length" "I" (.int (2 : Int32)) ∧ Arv Z h b bk .byte (256 : Int32) [(.int x0), (.int (own_b pq)), (.int x2), (.int x3), (.int x4), (.int x5)] (.int (0 : Int32))
theorem own_ef_rm5_1 (m : MethodId) (x0 : Addr) (x1 : Int32) : entryFrame m #[(.ref x0), (.int x1)] 2 = mkF m 0 #[.val (.ref x0), .val (.int x1)] [] := by first | (simp [entryFrame, mkF, argsToLocals, Value.category]; done) | rfl
set_option maxRecDepth 65536 in
set_option maxHeartbeats 40000000 in
theorem own_rm5_1 (lch : Launch) (Z : State) (a0 : Array Value) (hw : ∀ d ∈ tables_1, d.before a0 Z = true) (ws : List Jvm.Cond) (a : Addr) (pq : Int32) (b : Addr) (bk : ClassId) (x0 : Int32) (x1 : Int32) (x2 : Int32) (x3 : Int32) (x4 : Int32) (x5 : Int32) (h0 : Heap) (n0 : Nat) (E0 : Exa Z h0 a "com/example/corbel/corbel/bytecode/Bytes") (FD : Fld Z h0 a "com/example/corbel/corbel/bytecode/Bytes" "data" "[B" (.ref b)) (FL : Fld Z h0 a "com/example/corbel/corbel/bytecode/Bytes" "length" "I" (.int (1 : Int32))) (V0 : Arv Z h0 b bk .byte (256 : Int32) [(.int x0), (.int x1), (.int x2), (.int x3), (.int x4), (.int x5)] (.int (0 : Int32))) (ga : n0 ≤ a) (gb : n0 ≤ b) (hne : a ≠ b) :
    MetFree lch (⟨"com/example/corbel/corbel/bytecode/Bytes", "u1", "(I)V"⟩ : MethodName) (head1 (Jvm.Cond.code (⟨"com/example/corbel/corbel/bytecode/Bytes", "u1", "(I)V"⟩ : MethodName) prog_10_method_3_code 2 none :: ws) own_room5_1) (fun zz U => zz = #[(.ref a), (.int pq)] ∧ Z.Warmed39 U.vm ∧ U.heap = h0) (fun _ _ _ _ _ => True) (fun _ U o U' => ∃ v L, o = .returned v ∧ own_Q5_1 Z a pq b bk x0 x1 x2 x3 x4 x5 h0 n0 v U'.heap L ∧ FrameEnd U o U' L own_room5_1.cells own_room5_1.slots) := by
  refine MetFree.of_bodySF (plainFor_of_name own_pn0) hisR ?_
  intro prg e s m args below meth c s₁ Bd hml0 hP hK
  obtain ⟨rfl, hZ, hh⟩ := hP
  have hx := Bd.exec
  have hby := Bd.bytes
  have hml : c.maxLocals = 2 := hml0
  have hown : s.vm.findClass "com/example/corbel/corbel/bytecode/Bytes" = some m.cls := findClass_of_methodNamed Bd.named
  have hnm := (name_of_methodNamed Bd.named Bd.method).1
  have hlk : meth.locks = false := BodyLoose.notSynchronized Bd
  have hret := Bd.returns
  have X0 : Stand prg lch e own_room5_1 s m #[(.ref a), (.int pq)] below meth c s₁ [] 0 0 := Stand.of_body Bd
  have e0 : s₁.heap = h0 := by rw [← hh, Bd.state]; rfl
  have N0 := Fr.nil n0
  show own_Ends prg e below s (own_Q5_1 Z a pq b bk x0 x1 x2 x3 x4 x5 h0 n0) own_room5_1.cells own_room5_1.slots s₁ (entryFrame m #[(.ref a), (.int pq)] 2)
  refine own_cast (own_ef_rm5_1 m a pq) ?_
  have K0 := Keep.refl h0 ([a, b] : List Addr)
  refine own_aloadN (pc' := 1) X0 hx (hb hby own_d5_0) rfl rfl rfl ?_
  obtain ⟨T31, X31, e31, st31⟩ := getF X0 hx hZ hown (host := "") (Or.inl (own_w28 hw)) Via.refl e0 FL (g := (mkF m 1 #[.val (.ref a), .val (.int pq)] [(.ref a)])) rfl rfl (hb hby own_d5_1)
  refine own_go st31 ?_
  show own_Ends prg e below s _ _ _ T31 (mkF m 4 #[.val (.ref a), .val (.int pq)] [(.int (1 : Int32))])
  refine own_aloadN (pc' := 5) X31 hx (hb hby own_d5_4) rfl rfl rfl ?_
  obtain ⟨T32, X32, e32, st32⟩ := getF X31 hx hZ hown (host := "") (Or.inl (own_w11 hw)) Via.refl e31 FD (g := (mkF m 5 #[.val (.ref a), .val (.int pq)] [(.ref a), (.int (1 : Int32))])) rfl rfl (hb hby own_d5_5)
  refine own_go st32 ?_
  show own_Ends prg e below s _ _ _ T32 (mkF m 8 #[.val (.ref a), .val (.int pq)] [(.ref b), (.int (1 : Int32))])
  refine own_alen (pc' := 9) X32 hx hZ e32 V0 (hb hby own_d5_8) rfl ?_
  refine own_icmpYes (pc' := 29) X32 hx (hb hby own_d5_9) (feq (by decide)).2 (by decide) (by decide) ?_
  refine own_aloadN (pc' := 30) X32 hx (hb hby own_d5_29) rfl rfl rfl ?_
  obtain ⟨T33, X33, e33, st33⟩ := getF X32 hx hZ hown (host := "") (Or.inl (own_w11 hw)) Via.refl e32 FD (g := (mkF m 30 #[.val (.ref a), .val (.int pq)] [(.ref a)])) rfl rfl (hb hby own_d5_30)
  refine own_go st33 ?_
  show own_Ends prg e below s _ _ _ T33 (mkF m 33 #[.val (.ref a), .val (.int pq)] [(.ref b)])
  refine own_aloadN (pc' := 34) X33 hx (hb hby own_d5_33) rfl rfl rfl ?_
  refine own_dup (pc' := 35) X33 hx (hb hby own_d5_34) rfl rfl ?_
  obtain ⟨T34, X34, e34, st34⟩ := getF X33 hx hZ hown (host := "") (Or.inl (own_w28 hw)) Via.refl e33 FL (g := (mkF m 35 #[.val (.ref a), .val (.int pq)] [(.ref a), (.ref a), (.ref b)])) rfl rfl (hb hby own_d5_35)
  refine own_go st34 ?_
  show own_Ends prg e below s _ _ _ T34 (mkF m 38 #[.val (.ref a), .val (.int pq)] [(.int (1 : Int32)), (.ref a), (.ref b)])
  refine own_dupX1 (pc' := 39) X34 hx (hb hby own_d5_38) rfl rfl rfl ?_
  refine own_iconst (pc' := 40) (z := (1 : Int32)) X34 hx (hb hby own_d5_39) rfl rfl ?_
  refine own_iadd (pc' := 41) (z := (2 : Int32)) X34 hx (hb hby own_d5_40) rfl (by decide) ?_
  obtain ⟨T35, h35, X35, e35, W35, st35⟩ := putF X34 hx hZ hown (host := "") (Or.inl (own_w28 hw)) Via.refl e34 FL E0 (Or.inl (own_w29 hw)) (own_w2 hw) (ty := .int) (by decide) rfl rfl (g := (mkF m 41 #[.val (.ref a), .val (.int pq)] [(.int (2 : Int32)), (.ref a), (.int (1 : Int32)), (.ref b)])) rfl rfl (hb hby own_d5_41)
  refine own_go st35 ?_
  have Fw35 := FL.same W35
  have N35 := Fr.snoc X35 N0 ga
  show own_Ends prg e below s _ _ _ T35 (mkF m 44 #[.val (.ref a), .val (.int pq)] [(.int (1 : Int32)), (.ref b)])
  refine own_iloadN (pc' := 45) X35 hx (hb hby own_d5_44) rfl rfl ?_
  refine own_i2b (pc' := 46) (z := (own_b pq)) X35 hx (hb hby own_d5_45) rfl rfl ?_
  have f36 := (V0.other W35 (Ne.symm hne))
  refine own_bastore (pc' := 47) X35 hx hZ e35 f36 (hb hby own_d5_46) rfl (by decide) 1 rfl (by simp) N35 gb ?_
  intro T37 h37 L37 X37 e37 N37 W37 V37
  rw [show nar .byte (own_b pq) = (own_b pq) from own_nb _] at V37
  replace V37 : Arv Z h37 b bk .byte (256 : Int32) [(.int x0), (.int (own_b pq)), (.int x2), (.int x3), (.int x4), (.int x5)] (.int (0 : Int32)) := V37
  show own_Ends prg e below s _ _ _ T37 (mkF m 47 #[.val (.ref a), .val (.int pq)] [])
  refine own_retV X37 hx hlk hret (hb hby own_d5_47) (by decide) (by decide) ?_
  have f38 := ((K0.wr W35 (Or.inl (List.mem_of_getElem? (i := 0) rfl))).wr W37 (Or.inl (List.mem_of_getElem? (i := 1) rfl)))
  have f39 := ((FD.other W35 (Or.inr (slot_ne (Or.inl (own_w12 hw)) (Or.inl (own_w29 hw)) (by decide) (t := (.array .byte)) (t' := .int) (by decide) (by decide)))).other W37 (Or.inl hne))
  have f40 := (Fw35.other W37 (Or.inl hne))
  rw [e37]; exact ⟨rfl, N37, f38, f39, f40, V37⟩
def own_room5_2 : Room := { frames := 0, cells := 0, slots := 0, locals := 0 }
def own_Q5_2 (Z : State) (a : Addr) (pq : Int32) (b : Addr) (bk : ClassId) (x0 : Int32) (x1 : Int32) (x2 : Int32) (x3 : Int32) (x4 : Int32) (x5 : Int32) (h0 : Heap) (n0 : Nat) (v : Option Value) (h : Heap) (L : List Loc) : Prop := v = none ∧ Fr n0 L ∧ Keep h0 h [a, b] ∧ Fld Z h a "com/example/corbel/corbel/bytecode/Bytes" "data" "[B" (.ref b) ∧ Fld Z h a "com/example/corbel/corbel/bytecode/Bytes" "length" "I" (.int (3 : Int32)) ∧ Arv Z h b bk .byte (256 : Int32) [(.int x0), (.int x1), (.int (own_b pq)), (.int x3), (.int x4), (.int x5)] (.int (0 : Int32))
theorem own_ef_rm5_2 (m : MethodId) (x0 : Addr) (x1 : Int32) : entryFrame m #[(.ref x0), (.int x1)] 2 = mkF m 0 #[.val (.ref x0), .val (.int x1)] [] := by first | (simp [entryFrame, mkF, argsToLocals, Value.category]; done) | rfl
set_option maxRecDepth 65536 in
set_option maxHeartbeats 40000000 in
theorem own_rm5_2 (lch : Launch) (Z : State) (a0 : Array Value) (hw : ∀ d ∈ tables_1, d.before a0 Z = true) (ws : List Jvm.Cond) (a : Addr) (pq : Int32) (b : Addr) (bk : ClassId) (x0 : Int32) (x1 : Int32) (x2 : Int32) (x3 : Int32) (x4 : Int32) (x5 : Int32) (h0 : Heap) (n0 : Nat) (E0 : Exa Z h0 a "com/example/corbel/corbel/bytecode/Bytes") (FD : Fld Z h0 a "com/example/corbel/corbel/bytecode/Bytes" "data" "[B" (.ref b)) (FL : Fld Z h0 a "com/example/corbel/corbel/bytecode/Bytes" "length" "I" (.int (2 : Int32))) (V0 : Arv Z h0 b bk .byte (256 : Int32) [(.int x0), (.int x1), (.int x2), (.int x3), (.int x4), (.int x5)] (.int (0 : Int32))) (ga : n0 ≤ a) (gb : n0 ≤ b) (hne : a ≠ b) :
    MetFree lch (⟨"com/example/corbel/corbel/bytecode/Bytes", "u1", "(I)V"⟩ : MethodName) (head1 (Jvm.Cond.code (⟨"com/example/corbel/corbel/bytecode/Bytes", "u1", "(I)V"⟩ : MethodName) prog_10_method_3_code 2 none :: ws) own_room5_2) (fun zz U => zz = #[(.ref a), (.int pq)] ∧ Z.Warmed39 U.vm ∧ U.heap = h0) (fun _ _ _ _ _ => True) (fun _ U o U' => ∃ v L, o = .returned v ∧ own_Q5_2 Z a pq b bk x0 x1 x2 x3 x4 x5 h0 n0 v U'.heap L ∧ FrameEnd U o U' L own_room5_2.cells own_room5_2.slots) := by
  refine MetFree.of_bodySF (plainFor_of_name own_pn0) hisR ?_
  intro prg e s m args below meth c s₁ Bd hml0 hP hK
  obtain ⟨rfl, hZ, hh⟩ := hP
  have hx := Bd.exec
  have hby := Bd.bytes
  have hml : c.maxLocals = 2 := hml0
  have hown : s.vm.findClass "com/example/corbel/corbel/bytecode/Bytes" = some m.cls := findClass_of_methodNamed Bd.named
  have hnm := (name_of_methodNamed Bd.named Bd.method).1
  have hlk : meth.locks = false := BodyLoose.notSynchronized Bd
  have hret := Bd.returns
  have X0 : Stand prg lch e own_room5_2 s m #[(.ref a), (.int pq)] below meth c s₁ [] 0 0 := Stand.of_body Bd
  have e0 : s₁.heap = h0 := by rw [← hh, Bd.state]; rfl
  have N0 := Fr.nil n0
  show own_Ends prg e below s (own_Q5_2 Z a pq b bk x0 x1 x2 x3 x4 x5 h0 n0) own_room5_2.cells own_room5_2.slots s₁ (entryFrame m #[(.ref a), (.int pq)] 2)
  refine own_cast (own_ef_rm5_2 m a pq) ?_
  have K0 := Keep.refl h0 ([a, b] : List Addr)
  refine own_aloadN (pc' := 1) X0 hx (hb hby own_d5_0) rfl rfl rfl ?_
  obtain ⟨T31, X31, e31, st31⟩ := getF X0 hx hZ hown (host := "") (Or.inl (own_w28 hw)) Via.refl e0 FL (g := (mkF m 1 #[.val (.ref a), .val (.int pq)] [(.ref a)])) rfl rfl (hb hby own_d5_1)
  refine own_go st31 ?_
  show own_Ends prg e below s _ _ _ T31 (mkF m 4 #[.val (.ref a), .val (.int pq)] [(.int (2 : Int32))])
  refine own_aloadN (pc' := 5) X31 hx (hb hby own_d5_4) rfl rfl rfl ?_
  obtain ⟨T32, X32, e32, st32⟩ := getF X31 hx hZ hown (host := "") (Or.inl (own_w11 hw)) Via.refl e31 FD (g := (mkF m 5 #[.val (.ref a), .val (.int pq)] [(.ref a), (.int (2 : Int32))])) rfl rfl (hb hby own_d5_5)
  refine own_go st32 ?_
  show own_Ends prg e below s _ _ _ T32 (mkF m 8 #[.val (.ref a), .val (.int pq)] [(.ref b), (.int (2 : Int32))])
  refine own_alen (pc' := 9) X32 hx hZ e32 V0 (hb hby own_d5_8) rfl ?_
  refine own_icmpYes (pc' := 29) X32 hx (hb hby own_d5_9) (feq (by decide)).2 (by decide) (by decide) ?_
  refine own_aloadN (pc' := 30) X32 hx (hb hby own_d5_29) rfl rfl rfl ?_
  obtain ⟨T33, X33, e33, st33⟩ := getF X32 hx hZ hown (host := "") (Or.inl (own_w11 hw)) Via.refl e32 FD (g := (mkF m 30 #[.val (.ref a), .val (.int pq)] [(.ref a)])) rfl rfl (hb hby own_d5_30)
  refine own_go st33 ?_
  show own_Ends prg e below s _ _ _ T33 (mkF m 33 #[.val (.ref a), .val (.int pq)] [(.ref b)])
  refine own_aloadN (pc' := 34) X33 hx (hb hby own_d5_33) rfl rfl rfl ?_
  refine own_dup (pc' := 35) X33 hx (hb hby own_d5_34) rfl rfl ?_
  obtain ⟨T34, X34, e34, st34⟩ := getF X33 hx hZ hown (host := "") (Or.inl (own_w28 hw)) Via.refl e33 FL (g := (mkF m 35 #[.val (.ref a), .val (.int pq)] [(.ref a), (.ref a), (.ref b)])) rfl rfl (hb hby own_d5_35)
  refine own_go st34 ?_
  show own_Ends prg e below s _ _ _ T34 (mkF m 38 #[.val (.ref a), .val (.int pq)] [(.int (2 : Int32)), (.ref a), (.ref b)])
  refine own_dupX1 (pc' := 39) X34 hx (hb hby own_d5_38) rfl rfl rfl ?_
  refine own_iconst (pc' := 40) (z := (1 : Int32)) X34 hx (hb hby own_d5_39) rfl rfl ?_
  refine own_iadd (pc' := 41) (z := (3 : Int32)) X34 hx (hb hby own_d5_40) rfl (by decide) ?_
  obtain ⟨T35, h35, X35, e35, W35, st35⟩ := putF X34 hx hZ hown (host := "") (Or.inl (own_w28 hw)) Via.refl e34 FL E0 (Or.inl (own_w29 hw)) (own_w2 hw) (ty := .int) (by decide) rfl rfl (g := (mkF m 41 #[.val (.ref a), .val (.int pq)] [(.int (3 : Int32)), (.ref a), (.int (2 : Int32)), (.ref b)])) rfl rfl (hb hby own_d5_41)
  refine own_go st35 ?_
  have Fw35 := FL.same W35
  have N35 := Fr.snoc X35 N0 ga
  show own_Ends prg e below s _ _ _ T35 (mkF m 44 #[.val (.ref a), .val (.int pq)] [(.int (2 : Int32)), (.ref b)])
  refine own_iloadN (pc' := 45) X35 hx (hb hby own_d5_44) rfl rfl ?_
  refine own_i2b (pc' := 46) (z := (own_b pq)) X35 hx (hb hby own_d5_45) rfl rfl ?_
  have f36 := (V0.other W35 (Ne.symm hne))
  refine own_bastore (pc' := 47) X35 hx hZ e35 f36 (hb hby own_d5_46) rfl (by decide) 2 rfl (by simp) N35 gb ?_
  intro T37 h37 L37 X37 e37 N37 W37 V37
  rw [show nar .byte (own_b pq) = (own_b pq) from own_nb _] at V37
  replace V37 : Arv Z h37 b bk .byte (256 : Int32) [(.int x0), (.int x1), (.int (own_b pq)), (.int x3), (.int x4), (.int x5)] (.int (0 : Int32)) := V37
  show own_Ends prg e below s _ _ _ T37 (mkF m 47 #[.val (.ref a), .val (.int pq)] [])
  refine own_retV X37 hx hlk hret (hb hby own_d5_47) (by decide) (by decide) ?_
  have f38 := ((K0.wr W35 (Or.inl (List.mem_of_getElem? (i := 0) rfl))).wr W37 (Or.inl (List.mem_of_getElem? (i := 1) rfl)))
  have f39 := ((FD.other W35 (Or.inr (slot_ne (Or.inl (own_w12 hw)) (Or.inl (own_w29 hw)) (by decide) (t := (.array .byte)) (t' := .int) (by decide) (by decide)))).other W37 (Or.inl hne))
  have f40 := (Fw35.other W37 (Or.inl hne))
  rw [e37]; exact ⟨rfl, N37, f38, f39, f40, V37⟩
def own_room5_3 : Room := { frames := 0, cells := 0, slots := 0, locals := 0 }
def own_Q5_3 (Z : State) (a : Addr) (pq : Int32) (b : Addr) (bk : ClassId) (x0 : Int32) (x1 : Int32) (x2 : Int32) (x3 : Int32) (x4 : Int32) (x5 : Int32) (h0 : Heap) (n0 : Nat) (v : Option Value) (h : Heap) (L : List Loc) : Prop := v = none ∧ Fr n0 L ∧ Keep h0 h [a, b] ∧ Fld Z h a "com/example/corbel/corbel/bytecode/Bytes" "data" "[B" (.ref b) ∧ Fld Z h a "com/example/corbel/corbel/bytecode/Bytes" "length" "I" (.int (4 : Int32)) ∧ Arv Z h b bk .byte (256 : Int32) [(.int x0), (.int x1), (.int x2), (.int (own_b pq)), (.int x4), (.int x5)] (.int (0 : Int32))
theorem own_ef_rm5_3 (m : MethodId) (x0 : Addr) (x1 : Int32) : entryFrame m #[(.ref x0), (.int x1)] 2 = mkF m 0 #[.val (.ref x0), .val (.int x1)] [] := by first | (simp [entryFrame, mkF, argsToLocals, Value.category]; done) | rfl
set_option maxRecDepth 65536 in
set_option maxHeartbeats 40000000 in
theorem own_rm5_3 (lch : Launch) (Z : State) (a0 : Array Value) (hw : ∀ d ∈ tables_1, d.before a0 Z = true) (ws : List Jvm.Cond) (a : Addr) (pq : Int32) (b : Addr) (bk : ClassId) (x0 : Int32) (x1 : Int32) (x2 : Int32) (x3 : Int32) (x4 : Int32) (x5 : Int32) (h0 : Heap) (n0 : Nat) (E0 : Exa Z h0 a "com/example/corbel/corbel/bytecode/Bytes") (FD : Fld Z h0 a "com/example/corbel/corbel/bytecode/Bytes" "data" "[B" (.ref b)) (FL : Fld Z h0 a "com/example/corbel/corbel/bytecode/Bytes" "length" "I" (.int (3 : Int32))) (V0 : Arv Z h0 b bk .byte (256 : Int32) [(.int x0), (.int x1), (.int x2), (.int x3), (.int x4), (.int x5)] (.int (0 : Int32))) (ga : n0 ≤ a) (gb : n0 ≤ b) (hne : a ≠ b) :
    MetFree lch (⟨"com/example/corbel/corbel/bytecode/Bytes", "u1", "(I)V"⟩ : MethodName) (head1 (Jvm.Cond.code (⟨"com/example/corbel/corbel/bytecode/Bytes", "u1", "(I)V"⟩ : MethodName) prog_10_method_3_code 2 none :: ws) own_room5_3) (fun zz U => zz = #[(.ref a), (.int pq)] ∧ Z.Warmed39 U.vm ∧ U.heap = h0) (fun _ _ _ _ _ => True) (fun _ U o U' => ∃ v L, o = .returned v ∧ own_Q5_3 Z a pq b bk x0 x1 x2 x3 x4 x5 h0 n0 v U'.heap L ∧ FrameEnd U o U' L own_room5_3.cells own_room5_3.slots) := by
  refine MetFree.of_bodySF (plainFor_of_name own_pn0) hisR ?_
  intro prg e s m args below meth c s₁ Bd hml0 hP hK
  obtain ⟨rfl, hZ, hh⟩ := hP
  have hx := Bd.exec
  have hby := Bd.bytes
  have hml : c.maxLocals = 2 := hml0
  have hown : s.vm.findClass "com/example/corbel/corbel/bytecode/Bytes" = some m.cls := findClass_of_methodNamed Bd.named
  have hnm := (name_of_methodNamed Bd.named Bd.method).1
  have hlk : meth.locks = false := BodyLoose.notSynchronized Bd
  have hret := Bd.returns
  have X0 : Stand prg lch e own_room5_3 s m #[(.ref a), (.int pq)] below meth c s₁ [] 0 0 := Stand.of_body Bd
  have e0 : s₁.heap = h0 := by rw [← hh, Bd.state]; rfl
  have N0 := Fr.nil n0
  show own_Ends prg e below s (own_Q5_3 Z a pq b bk x0 x1 x2 x3 x4 x5 h0 n0) own_room5_3.cells own_room5_3.slots s₁ (entryFrame m #[(.ref a), (.int pq)] 2)
  refine own_cast (own_ef_rm5_3 m a pq) ?_
  have K0 := Keep.refl h0 ([a, b] : List Addr)
  refine own_aloadN (pc' := 1) X0 hx (hb hby own_d5_0) rfl rfl rfl ?_
  obtain ⟨T31, X31, e31, st31⟩ := getF X0 hx hZ hown (host := "") (Or.inl (own_w28 hw)) Via.refl e0 FL (g := (mkF m 1 #[.val (.ref a), .val (.int pq)] [(.ref a)])) rfl rfl (hb hby own_d5_1)
  refine own_go st31 ?_
  show own_Ends prg e below s _ _ _ T31 (mkF m 4 #[.val (.ref a), .val (.int pq)] [(.int (3 : Int32))])
  refine own_aloadN (pc' := 5) X31 hx (hb hby own_d5_4) rfl rfl rfl ?_
  obtain ⟨T32, X32, e32, st32⟩ := getF X31 hx hZ hown (host := "") (Or.inl (own_w11 hw)) Via.refl e31 FD (g := (mkF m 5 #[.val (.ref a), .val (.int pq)] [(.ref a), (.int (3 : Int32))])) rfl rfl (hb hby own_d5_5)
  refine own_go st32 ?_
  show own_Ends prg e below s _ _ _ T32 (mkF m 8 #[.val (.ref a), .val (.int pq)] [(.ref b), (.int (3 : Int32))])
  refine own_alen (pc' := 9) X32 hx hZ e32 V0 (hb hby own_d5_8) rfl ?_
  refine own_icmpYes (pc' := 29) X32 hx (hb hby own_d5_9) (feq (by decide)).2 (by decide) (by decide) ?_
  refine own_aloadN (pc' := 30) X32 hx (hb hby own_d5_29) rfl rfl rfl ?_
  obtain ⟨T33, X33, e33, st33⟩ := getF X32 hx hZ hown (host := "") (Or.inl (own_w11 hw)) Via.refl e32 FD (g := (mkF m 30 #[.val (.ref a), .val (.int pq)] [(.ref a)])) rfl rfl (hb hby own_d5_30)
  refine own_go st33 ?_
  show own_Ends prg e below s _ _ _ T33 (mkF m 33 #[.val (.ref a), .val (.int pq)] [(.ref b)])
  refine own_aloadN (pc' := 34) X33 hx (hb hby own_d5_33) rfl rfl rfl ?_
  refine own_dup (pc' := 35) X33 hx (hb hby own_d5_34) rfl rfl ?_
  obtain ⟨T34, X34, e34, st34⟩ := getF X33 hx hZ hown (host := "") (Or.inl (own_w28 hw)) Via.refl e33 FL (g := (mkF m 35 #[.val (.ref a), .val (.int pq)] [(.ref a), (.ref a), (.ref b)])) rfl rfl (hb hby own_d5_35)
  refine own_go st34 ?_
  show own_Ends prg e below s _ _ _ T34 (mkF m 38 #[.val (.ref a), .val (.int pq)] [(.int (3 : Int32)), (.ref a), (.ref b)])
  refine own_dupX1 (pc' := 39) X34 hx (hb hby own_d5_38) rfl rfl rfl ?_
  refine own_iconst (pc' := 40) (z := (1 : Int32)) X34 hx (hb hby own_d5_39) rfl rfl ?_
  refine own_iadd (pc' := 41) (z := (4 : Int32)) X34 hx (hb hby own_d5_40) rfl (by decide) ?_
  obtain ⟨T35, h35, X35, e35, W35, st35⟩ := putF X34 hx hZ hown (host := "") (Or.inl (own_w28 hw)) Via.refl e34 FL E0 (Or.inl (own_w29 hw)) (own_w2 hw) (ty := .int) (by decide) rfl rfl (g := (mkF m 41 #[.val (.ref a), .val (.int pq)] [(.int (4 : Int32)), (.ref a), (.int (3 : Int32)), (.ref b)])) rfl rfl (hb hby own_d5_41)
  refine own_go st35 ?_
  have Fw35 := FL.same W35
  have N35 := Fr.snoc X35 N0 ga
  show own_Ends prg e below s _ _ _ T35 (mkF m 44 #[.val (.ref a), .val (.int pq)] [(.int (3 : Int32)), (.ref b)])
  refine own_iloadN (pc' := 45) X35 hx (hb hby own_d5_44) rfl rfl ?_
  refine own_i2b (pc' := 46) (z := (own_b pq)) X35 hx (hb hby own_d5_45) rfl rfl ?_
  have f36 := (V0.other W35 (Ne.symm hne))
  refine own_bastore (pc' := 47) X35 hx hZ e35 f36 (hb hby own_d5_46) rfl (by decide) 3 rfl (by simp) N35 gb ?_
  intro T37 h37 L37 X37 e37 N37 W37 V37
  rw [show nar .byte (own_b pq) = (own_b pq) from own_nb _] at V37
  replace V37 : Arv Z h37 b bk .byte (256 : Int32) [(.int x0), (.int x1), (.int x2), (.int (own_b pq)), (.int x4), (.int x5)] (.int (0 : Int32)) := V37
  show own_Ends prg e below s _ _ _ T37 (mkF m 47 #[.val (.ref a), .val (.int pq)] [])
  refine own_retV X37 hx hlk hret (hb hby own_d5_47) (by decide) (by decide) ?_
  have f38 := ((K0.wr W35 (Or.inl (List.mem_of_getElem? (i := 0) rfl))).wr W37 (Or.inl (List.mem_of_getElem? (i := 1) rfl)))
  have f39 := ((FD.other W35 (Or.inr (slot_ne (Or.inl (own_w12 hw)) (Or.inl (own_w29 hw)) (by decide) (t := (.array .byte)) (t' := .int) (by decide) (by decide)))).other W37 (Or.inl hne))
  have f40 := (Fw35.other W37 (Or.inl hne))
  rw [e37]; exact ⟨rfl, N37, f38, f39, f40, V37⟩
def own_room5_4 : Room := { frames := 0, cells := 0, slots := 0, locals := 0 }
def own_Q5_4 (Z : State) (a : Addr) (pq : Int32) (b : Addr) (bk : ClassId) (x0 : Int32) (x1 : Int32) (x2 : Int32) (x3 : Int32) (x4 : Int32) (x5 : Int32) (h0 : Heap) (n0 : Nat) (v : Option Value) (h : Heap) (L : List Loc) : Prop := v = none ∧ Fr n0 L ∧ Keep h0 h [a, b] ∧ Fld Z h a "com/example/corbel/corbel/bytecode/Bytes" "data" "[B" (.ref b) ∧ Fld Z h a "com/example/corbel/corbel/bytecode/Bytes" "length" "I" (.int (5 : Int32)) ∧ Arv Z h b bk .byte (256 : Int32) [(.int x0), (.int x1), (.int x2), (.int x3), (.int (own_b pq)), (.int x5)] (.int (0 : Int32))
theorem own_ef_rm5_4 (m : MethodId) (x0 : Addr) (x1 : Int32) : entryFrame m #[(.ref x0), (.int x1)] 2 = mkF m 0 #[.val (.ref x0), .val (.int x1)] [] := by first | (simp [entryFrame, mkF, argsToLocals, Value.category]; done) | rfl
set_option maxRecDepth 65536 in
set_option maxHeartbeats 40000000 in
theorem own_rm5_4 (lch : Launch) (Z : State) (a0 : Array Value) (hw : ∀ d ∈ tables_1, d.before a0 Z = true) (ws : List Jvm.Cond) (a : Addr) (pq : Int32) (b : Addr) (bk : ClassId) (x0 : Int32) (x1 : Int32) (x2 : Int32) (x3 : Int32) (x4 : Int32) (x5 : Int32) (h0 : Heap) (n0 : Nat) (E0 : Exa Z h0 a "com/example/corbel/corbel/bytecode/Bytes") (FD : Fld Z h0 a "com/example/corbel/corbel/bytecode/Bytes" "data" "[B" (.ref b)) (FL : Fld Z h0 a "com/example/corbel/corbel/bytecode/Bytes" "length" "I" (.int (4 : Int32))) (V0 : Arv Z h0 b bk .byte (256 : Int32) [(.int x0), (.int x1), (.int x2), (.int x3), (.int x4), (.int x5)] (.int (0 : Int32))) (ga : n0 ≤ a) (gb : n0 ≤ b) (hne : a ≠ b) :
    MetFree lch (⟨"com/example/corbel/corbel/bytecode/Bytes", "u1", "(I)V"⟩ : MethodName) (head1 (Jvm.Cond.code (⟨"com/example/corbel/corbel/bytecode/Bytes", "u1", "(I)V"⟩ : MethodName) prog_10_method_3_code 2 none :: ws) own_room5_4) (fun zz U => zz = #[(.ref a), (.int pq)] ∧ Z.Warmed39 U.vm ∧ U.heap = h0) (fun _ _ _ _ _ => True) (fun _ U o U' => ∃ v L, o = .returned v ∧ own_Q5_4 Z a pq b bk x0 x1 x2 x3 x4 x5 h0 n0 v U'.heap L ∧ FrameEnd U o U' L own_room5_4.cells own_room5_4.slots) := by
  refine MetFree.of_bodySF (plainFor_of_name own_pn0) hisR ?_
  intro prg e s m args below meth c s₁ Bd hml0 hP hK
  obtain ⟨rfl, hZ, hh⟩ := hP
  have hx := Bd.exec
  have hby := Bd.bytes
  have hml : c.maxLocals = 2 := hml0
  have hown : s.vm.findClass "com/example/corbel/corbel/bytecode/Bytes" = some m.cls := findClass_of_methodNamed Bd.named
  have hnm := (name_of_methodNamed Bd.named Bd.method).1
  have hlk : meth.locks = false := BodyLoose.notSynchronized Bd
  have hret := Bd.returns
  have X0 : Stand prg lch e own_room5_4 s m #[(.ref a), (.int pq)] below meth c s₁ [] 0 0 := Stand.of_body Bd
  have e0 : s₁.heap = h0 := by rw [← hh, Bd.state]; rfl
  have N0 := Fr.nil n0
  show own_Ends prg e below s (own_Q5_4 Z a pq b bk x0 x1 x2 x3 x4 x5 h0 n0) own_room5_4.cells own_room5_4.slots s₁ (entryFrame m #[(.ref a), (.int pq)] 2)
  refine own_cast (own_ef_rm5_4 m a pq) ?_
  have K0 := Keep.refl h0 ([a, b] : List Addr)
  refine own_aloadN (pc' := 1) X0 hx (hb hby own_d5_0) rfl rfl rfl ?_
  obtain ⟨T31, X31, e31, st31⟩ := getF X0 hx hZ hown (host := "") (Or.inl (own_w28 hw)) Via.refl e0 FL (g := (mkF m 1 #[.val (.ref a), .val (.int pq)] [(.ref a)])) rfl rfl (hb hby own_d5_1)
  refine own_go st31 ?_
  show own_Ends prg e below s _ _ _ T31 (mkF m 4 #[.val (.ref a), .val (.int pq)] [(.int (4 : Int32))])
  refine own_aloadN (pc' := 5) X31 hx (hb hby own_d5_4) rfl rfl rfl ?_
  obtain ⟨T32, X32, e32, st32⟩ := getF X31 hx hZ hown (host := "") (Or.inl (own_w11 hw)) Via.refl e31 FD (g := (mkF m 5 #[.val (.ref a), .val (.int pq)] [(.ref a), (.int (4 : Int32))])) rfl rfl (hb hby own_d5_5)
  refine own_go st32 ?_
  show own_Ends prg e below s _ _ _ T32 (mkF m 8 #[.val (.ref a), .val (.int pq)] [(.ref b), (.int (4 : Int32))])
  refine own_alen (pc' := 9) X32 hx hZ e32 V0 (hb hby own_d5_8) rfl ?_
  refine own_icmpYes (pc' := 29) X32 hx (hb hby own_d5_9) (feq (by decide)).2 (by decide) (by decide) ?_
  refine own_aloadN (pc' := 30) X32 hx (hb hby own_d5_29) rfl rfl rfl ?_
  obtain ⟨T33, X33, e33, st33⟩ := getF X32 hx hZ hown (host := "") (Or.inl (own_w11 hw)) Via.refl e32 FD (g := (mkF m 30 #[.val (.ref a), .val (.int pq)] [(.ref a)])) rfl rfl (hb hby own_d5_30)
  refine own_go st33 ?_
  show own_Ends prg e below s _ _ _ T33 (mkF m 33 #[.val (.ref a), .val (.int pq)] [(.ref b)])
  refine own_aloadN (pc' := 34) X33 hx (hb hby own_d5_33) rfl rfl rfl ?_
  refine own_dup (pc' := 35) X33 hx (hb hby own_d5_34) rfl rfl ?_
  obtain ⟨T34, X34, e34, st34⟩ := getF X33 hx hZ hown (host := "") (Or.inl (own_w28 hw)) Via.refl e33 FL (g := (mkF m 35 #[.val (.ref a), .val (.int pq)] [(.ref a), (.ref a), (.ref b)])) rfl rfl (hb hby own_d5_35)
  refine own_go st34 ?_
  show own_Ends prg e below s _ _ _ T34 (mkF m 38 #[.val (.ref a), .val (.int pq)] [(.int (4 : Int32)), (.ref a), (.ref b)])
  refine own_dupX1 (pc' := 39) X34 hx (hb hby own_d5_38) rfl rfl rfl ?_
  refine own_iconst (pc' := 40) (z := (1 : Int32)) X34 hx (hb hby own_d5_39) rfl rfl ?_
  refine own_iadd (pc' := 41) (z := (5 : Int32)) X34 hx (hb hby own_d5_40) rfl (by decide) ?_
  obtain ⟨T35, h35, X35, e35, W35, st35⟩ := putF X34 hx hZ hown (host := "") (Or.inl (own_w28 hw)) Via.refl e34 FL E0 (Or.inl (own_w29 hw)) (own_w2 hw) (ty := .int) (by decide) rfl rfl (g := (mkF m 41 #[.val (.ref a), .val (.int pq)] [(.int (5 : Int32)), (.ref a), (.int (4 : Int32)), (.ref b)])) rfl rfl (hb hby own_d5_41)
  refine own_go st35 ?_
  have Fw35 := FL.same W35
  have N35 := Fr.snoc X35 N0 ga
  show own_Ends prg e below s _ _ _ T35 (mkF m 44 #[.val (.ref a), .val (.int pq)] [(.int (4 : Int32)), (.ref b)])
  refine own_iloadN (pc' := 45) X35 hx (hb hby own_d5_44) rfl rfl ?_
  refine own_i2b (pc' := 46) (z := (own_b pq)) X35 hx (hb hby own_d5_45) rfl rfl ?_
  have f36 := (V0.other W35 (Ne.symm hne))
  refine own_bastore (pc' := 47) X35 hx hZ e35 f36 (hb hby own_d5_46) rfl (by decide) 4 rfl (by simp) N35 gb ?_
  intro T37 h37 L37 X37 e37 N37 W37 V37
  rw [show nar .byte (own_b pq) = (own_b pq) from own_nb _] at V37
  replace V37 : Arv Z h37 b bk .byte (256 : Int32) [(.int x0), (.int x1), (.int x2), (.int x3), (.int (own_b pq)), (.int x5)] (.int (0 : Int32)) := V37
  show own_Ends prg e below s _ _ _ T37 (mkF m 47 #[.val (.ref a), .val (.int pq)] [])
  refine own_retV X37 hx hlk hret (hb hby own_d5_47) (by decide) (by decide) ?_
  have f38 := ((K0.wr W35 (Or.inl (List.mem_of_getElem? (i := 0) rfl))).wr W37 (Or.inl (List.mem_of_getElem? (i := 1) rfl)))
  have f39 := ((FD.other W35 (Or.inr (slot_ne (Or.inl (own_w12 hw)) (Or.inl (own_w29 hw)) (by decide) (t := (.array .byte)) (t' := .int) (by decide) (by decide)))).other W37 (Or.inl hne))
  have f40 := (Fw35.other W37 (Or.inl hne))
  rw [e37]; exact ⟨rfl, N37, f38, f39, f40, V37⟩
def own_room5_5 : Room := { frames := 0, cells := 0, slots := 0, locals := 0 }
def own_Q5_5 (Z : State) (a : Addr) (pq : Int32) (b : Addr) (bk : ClassId) (x0 : Int32) (x1 : Int32) (x2 : Int32) (x3 : Int32) (x4 : Int32) (x5 : Int32) (h0 : Heap) (n0 : Nat) (v : Option Value) (h : Heap) (L : List Loc) : Prop := v = none ∧ Fr n0 L ∧ Keep h0 h [a, b] ∧ Fld Z h a "com/example/corbel/corbel/bytecode/Bytes" "data" "[B" (.ref b) ∧ Fld Z h a "com/example/corbel/corbel/bytecode/Bytes" "length" "I" (.int (6 : Int32)) ∧ Arv Z h b bk .byte (256 : Int32) [(.int x0), (.int x1), (.int x2), (.int x3), (.int x4), (.int (own_b pq))] (.int (0 : Int32))
theorem own_ef_rm5_5 (m : MethodId) (x0 : Addr) (x1 : Int32) : entryFrame m #[(.ref x0), (.int x1)] 2 = mkF m 0 #[.val (.ref x0), .val (.int x1)] [] := by first | (simp [entryFrame, mkF, argsToLocals, Value.category]; done) | rfl
set_option maxRecDepth 65536 in
set_option maxHeartbeats 40000000 in
theorem own_rm5_5 (lch : Launch) (Z : State) (a0 : Array Value) (hw : ∀ d ∈ tables_1, d.before a0 Z = true) (ws : List Jvm.Cond) (a : Addr) (pq : Int32) (b : Addr) (bk : ClassId) (x0 : Int32) (x1 : Int32) (x2 : Int32) (x3 : Int32) (x4 : Int32) (x5 : Int32) (h0 : Heap) (n0 : Nat) (E0 : Exa Z h0 a "com/example/corbel/corbel/bytecode/Bytes") (FD : Fld Z h0 a "com/example/corbel/corbel/bytecode/Bytes" "data" "[B" (.ref b)) (FL : Fld Z h0 a "com/example/corbel/corbel/bytecode/Bytes" "length" "I" (.int (5 : Int32))) (V0 : Arv Z h0 b bk .byte (256 : Int32) [(.int x0), (.int x1), (.int x2), (.int x3), (.int x4), (.int x5)] (.int (0 : Int32))) (ga : n0 ≤ a) (gb : n0 ≤ b) (hne : a ≠ b) :
    MetFree lch (⟨"com/example/corbel/corbel/bytecode/Bytes", "u1", "(I)V"⟩ : MethodName) (head1 (Jvm.Cond.code (⟨"com/example/corbel/corbel/bytecode/Bytes", "u1", "(I)V"⟩ : MethodName) prog_10_method_3_code 2 none :: ws) own_room5_5) (fun zz U => zz = #[(.ref a), (.int pq)] ∧ Z.Warmed39 U.vm ∧ U.heap = h0) (fun _ _ _ _ _ => True) (fun _ U o U' => ∃ v L, o = .returned v ∧ own_Q5_5 Z a pq b bk x0 x1 x2 x3 x4 x5 h0 n0 v U'.heap L ∧ FrameEnd U o U' L own_room5_5.cells own_room5_5.slots) := by
  refine MetFree.of_bodySF (plainFor_of_name own_pn0) hisR ?_
  intro prg e s m args below meth c s₁ Bd hml0 hP hK
  obtain ⟨rfl, hZ, hh⟩ := hP
  have hx := Bd.exec
  have hby := Bd.bytes
  have hml : c.maxLocals = 2 := hml0
  have hown : s.vm.findClass "com/example/corbel/corbel/bytecode/Bytes" = some m.cls := findClass_of_methodNamed Bd.named
  have hnm := (name_of_methodNamed Bd.named Bd.method).1
  have hlk : meth.locks = false := BodyLoose.notSynchronized Bd
  have hret := Bd.returns
  have X0 : Stand prg lch e own_room5_5 s m #[(.ref a), (.int pq)] below meth c s₁ [] 0 0 := Stand.of_body Bd
  have e0 : s₁.heap = h0 := by rw [← hh, Bd.state]; rfl
  have N0 := Fr.nil n0
  show own_Ends prg e below s (own_Q5_5 Z a pq b bk x0 x1 x2 x3 x4 x5 h0 n0) own_room5_5.cells own_room5_5.slots s₁ (entryFrame m #[(.ref a), (.int pq)] 2)
  refine own_cast (own_ef_rm5_5 m a pq) ?_
  have K0 := Keep.refl h0 ([a, b] : List Addr)
  refine own_aloadN (pc' := 1) X0 hx (hb hby own_d5_0) rfl rfl rfl ?_
  obtain ⟨T31, X31, e31, st31⟩ := getF X0 hx hZ hown (host := "") (Or.inl (own_w28 hw)) Via.refl e0 FL (g := (mkF m 1 #[.val (.ref a), .val (.int pq)] [(.ref a)])) rfl rfl (hb hby own_d5_1)
  refine own_go st31 ?_
  show own_Ends prg e below s _ _ _ T31 (mkF m 4 #[.val (.ref a), .val (.int pq)] [(.int (5 : Int32))])
  refine own_aloadN (pc' := 5) X31 hx (hb hby own_d5_4) rfl rfl rfl ?_
  obtain ⟨T32, X32, e32, st32⟩ := getF X31 hx hZ hown (host := "") (Or.inl (own_w11 hw)) Via.refl e31 FD (g := (mkF m 5 #[.val (.ref a), .val (.int pq)] [(.ref a), (.int (5 : Int32))])) rfl rfl (hb hby own_d5_5)
  refine own_go st32 ?_
  show own_Ends prg e below s _ _ _ T32 (mkF m 8 #[.val (.ref a), .val (.int pq)] [(.ref b), (.int (5 : Int32))])
  refine own_alen (pc' := 9) X32 hx hZ e32 V0 (hb hby own_d5_8) rfl ?_
  refine own_icmpYes (pc' := 29) X32 hx (hb hby own_d5_9) (feq (by decide)).2 (by decide) (by decide) ?_
  refine own_aloadN (pc' := 30) X32 hx (hb hby own_d5_29) rfl rfl rfl ?_
  obtain ⟨T33, X33, e33, st33⟩ := getF X32 hx hZ hown (host := "") (Or.inl (own_w11 hw)) Via.refl e32 FD (g := (mkF m 30 #[.val (.ref a), .val (.int pq)] [(.ref a)])) rfl rfl (hb hby own_d5_30)
  refine own_go st33 ?_
  show own_Ends prg e below s _ _ _ T33 (mkF m 33 #[.val (.ref a), .val (.int pq)] [(.ref b)])
  refine own_aloadN (pc' := 34) X33 hx (hb hby own_d5_33) rfl rfl rfl ?_
  refine own_dup (pc' := 35) X33 hx (hb hby own_d5_34) rfl rfl ?_
  obtain ⟨T34, X34, e34, st34⟩ := getF X33 hx hZ hown (host := "") (Or.inl (own_w28 hw)) Via.refl e33 FL (g := (mkF m 35 #[.val (.ref a), .val (.int pq)] [(.ref a), (.ref a), (.ref b)])) rfl rfl (hb hby own_d5_35)
  refine own_go st34 ?_
  show own_Ends prg e below s _ _ _ T34 (mkF m 38 #[.val (.ref a), .val (.int pq)] [(.int (5 : Int32)), (.ref a), (.ref b)])
  refine own_dupX1 (pc' := 39) X34 hx (hb hby own_d5_38) rfl rfl rfl ?_
  refine own_iconst (pc' := 40) (z := (1 : Int32)) X34 hx (hb hby own_d5_39) rfl rfl ?_
  refine own_iadd (pc' := 41) (z := (6 : Int32)) X34 hx (hb hby own_d5_40) rfl (by decide) ?_
  obtain ⟨T35, h35, X35, e35, W35, st35⟩ := putF X34 hx hZ hown (host := "") (Or.inl (own_w28 hw)) Via.refl e34 FL E0 (Or.inl (own_w29 hw)) (own_w2 hw) (ty := .int) (by decide) rfl rfl (g := (mkF m 41 #[.val (.ref a), .val (.int pq)] [(.int (6 : Int32)), (.ref a), (.int (5 : Int32)), (.ref b)])) rfl rfl (hb hby own_d5_41)
  refine own_go st35 ?_
  have Fw35 := FL.same W35
  have N35 := Fr.snoc X35 N0 ga
  show own_Ends prg e below s _ _ _ T35 (mkF m 44 #[.val (.ref a), .val (.int pq)] [(.int (5 : Int32)), (.ref b)])
  refine own_iloadN (pc' := 45) X35 hx (hb hby own_d5_44) rfl rfl ?_
  refine own_i2b (pc' := 46) (z := (own_b pq)) X35 hx (hb hby own_d5_45) rfl rfl ?_
  have f36 := (V0.other W35 (Ne.symm hne))
  refine own_bastore (pc' := 47) X35 hx hZ e35 f36 (hb hby own_d5_46) rfl (by decide) 5 rfl (by simp) N35 gb ?_
  intro T37 h37 L37 X37 e37 N37 W37 V37
  rw [show nar .byte (own_b pq) = (own_b pq) from own_nb _] at V37
  replace V37 : Arv Z h37 b bk .byte (256 : Int32) [(.int x0), (.int x1), (.int x2), (.int x3), (.int x4), (.int (own_b pq))] (.int (0 : Int32)) := V37
  show own_Ends prg e below s _ _ _ T37 (mkF m 47 #[.val (.ref a), .val (.int pq)] [])
  refine own_retV X37 hx hlk hret (hb hby own_d5_47) (by decide) (by decide) ?_
  have f38 := ((K0.wr W35 (Or.inl (List.mem_of_getElem? (i := 0) rfl))).wr W37 (Or.inl (List.mem_of_getElem? (i := 1) rfl)))
  have f39 := ((FD.other W35 (Or.inr (slot_ne (Or.inl (own_w12 hw)) (Or.inl (own_w29 hw)) (by decide) (t := (.array .byte)) (t' := .int) (by decide) (by decide)))).other W37 (Or.inl hne))
  have f40 := (Fw35.other W37 (Or.inl hne))
  rw [e37]; exact ⟨rfl, N37, f38, f39, f40, V37⟩
def own_room4_0 : Room := { frames := 1, cells := 0, slots := 0, locals := 13 }
def own_Q4_0 (Z : State) (a : Addr) (pq : Int32) (b : Addr) (bk : ClassId) (x0 : Int32) (x1 : Int32) (x2 : Int32) (x3 : Int32) (x4 : Int32) (x5 : Int32) (h0 : Heap) (n0 : Nat) (v : Option Value) (h : Heap) (L : List Loc) : Prop := v = none ∧ Fr n0 L ∧ Keep h0 h [a, b] ∧ Fld Z h a "com/example/corbel/corbel/bytecode/Bytes" "data" "[B" (.ref b) ∧ Fld Z h a "com/example/corbel/corbel/bytecode/Bytes" "length" "I" (.int (2 : Int32)) ∧ Arv Z h b bk .byte (256 : Int32) [(.int (own_b (own_ushr pq (8 : Int32)))), (.int (own_b pq)), (.int x2), (.int x3), (.int x4), (.int x5)] (.int (0 : Int32))
theorem own_ef_rm4_0 (m : MethodId) (x0 : Addr) (x1 : Int32) : entryFrame m #[(.ref x0), (.int x1)] 2 = mkF m 0 #[.val (.ref x0), .val (.int x1)] [] := by first | (simp [entryFrame, mkF, argsToLocals, Value.category]; done) | rfl
set_option maxRecDepth 65536 in
set_option maxHeartbeats 40000000 in
theorem own_rm4_0 (lch : Launch) (Z : State) (a0 : Array Value) (hw : ∀ d ∈ tables_1, d.before a0 Z = true) (ws : List Jvm.Cond) (a : Addr) (pq : Int32) (b : Addr) (bk : ClassId) (x0 : Int32) (x1 : Int32) (x2 : Int32) (x3 : Int32) (x4 : Int32) (x5 : Int32) (h0 : Heap) (n0 : Nat) (E0 : Exa Z h0 a "com/example/corbel/corbel/bytecode/Bytes") (FD : Fld Z h0 a "com/example/corbel/corbel/bytecode/Bytes" "data" "[B" (.ref b)) (FL : Fld Z h0 a "com/example/corbel/corbel/bytecode/Bytes" "length" "I" (.int (0 : Int32))) (V0 : Arv Z h0 b bk .byte (256 : Int32) [(.int x0), (.int x1), (.int x2), (.int x3), (.int x4), (.int x5)] (.int (0 : Int32))) (ga : n0 ≤ a) (gb : n0 ≤ b) (hne : a ≠ b) :
    MetFree lch (⟨"com/example/corbel/corbel/bytecode/Bytes", "u2", "(I)V"⟩ : MethodName) (head1 (Jvm.Cond.code (⟨"com/example/corbel/corbel/bytecode/Bytes", "u2", "(I)V"⟩ : MethodName) prog_10_method_4_code 2 none :: ws) own_room4_0) (fun zz U => zz = #[(.ref a), (.int pq)] ∧ Z.Warmed39 U.vm ∧ U.heap = h0) (fun _ _ _ _ _ => True) (fun _ U o U' => ∃ v L, o = .returned v ∧ own_Q4_0 Z a pq b bk x0 x1 x2 x3 x4 x5 h0 n0 v U'.heap L ∧ FrameEnd U o U' L own_room4_0.cells own_room4_0.slots) := by
  refine MetFree.of_bodySF (plainFor_of_name own_pn0) hisR ?_
  intro prg e s m args below meth c s₁ Bd hml0 hP hK
  obtain ⟨rfl, hZ, hh⟩ := hP
  have hx := Bd.exec
  have hby := Bd.bytes
  have hml : c.maxLocals = 2 := hml0
  have hown : s.vm.findClass "com/example/corbel/corbel/bytecode/Bytes" = some m.cls := findClass_of_methodNamed Bd.named
  have hnm := (name_of_methodNamed Bd.named Bd.method).1
  have hlk : meth.locks = false := BodyLoose.notSynchronized Bd
  have hret := Bd.returns
  have X0 : Stand prg lch e own_room4_0 s m #[(.ref a), (.int pq)] below meth c s₁ [] 0 0 := Stand.of_body Bd
  have e0 : s₁.heap = h0 := by rw [← hh, Bd.state]; rfl
  have N0 := Fr.nil n0
  show own_Ends prg e below s (own_Q4_0 Z a pq b bk x0 x1 x2 x3 x4 x5 h0 n0) own_room4_0.cells own_room4_0.slots s₁ (entryFrame m #[(.ref a), (.int pq)] 2)
  refine own_cast (own_ef_rm4_0 m a pq) ?_
  have K0 := Keep.refl h0 ([a, b] : List Addr)
  refine own_aloadN (pc' := 1) X0 hx (hb hby own_d4_0) rfl rfl rfl ?_
  refine own_iloadN (pc' := 2) X0 hx (hb hby own_d4_1) rfl rfl ?_
  refine own_bipush (pc' := 4) (z := (8 : Int32)) X0 hx (hb hby own_d4_2) rfl rfl ?_
  refine own_iushr (pc' := 5) (z := (own_ushr pq (8 : Int32))) X0 hx (hb hby own_d4_4) rfl rfl ?_
  refine own_callV (pc' := 8) (y := (⟨"com/example/corbel/corbel/bytecode/Bytes", "u1", "(I)V"⟩ : MethodName)) (W := 0) (rm := own_room5_0) (argsL := [(.int (own_ushr pq (8 : Int32)))]) (rest := []) (b := a) (C := "com/example/corbel/corbel/bytecode/Bytes") X0 hx hZ e0 hown (by rw [hml]; rfl) E0 (own_w23 hw) (own_w24 hw) (own_w26 hw) (own_w25 hw) (own_w3 hw) (own_w27 hw) (by decide) (own_rm5_0 lch Z a0 hw [] a (own_ushr pq (8 : Int32)) b bk x0 x1 x2 x3 x4 x5 h0 n0 E0 FD FL V0 ga gb hne) (by decide) (by decide) (by decide) (by decide) (lenOf own_pd0 rfl) rfl (by exact Nat.le_of_eq rfl) (hb hby own_d4_5) rfl ?_
  intro T31 Lc31 v31 X31 hQ31
  obtain ⟨rfl, Nq31, Kq31, G31_0, G31_1, G31_2⟩ := hQ31
  have N31 := Fr.app N0 Nq31
  show own_Ends prg e below s _ _ _ T31 (mkF m 8 #[.val (.ref a), .val (.int pq)] [])
  refine own_aloadN (pc' := 9) X31 hx (hb hby own_d4_8) rfl rfl rfl ?_
  refine own_iloadN (pc' := 10) X31 hx (hb hby own_d4_9) rfl rfl ?_
  have f32 := (E0.keep Kq31)
  refine own_callV (pc' := 13) (y := (⟨"com/example/corbel/corbel/bytecode/Bytes", "u1", "(I)V"⟩ : MethodName)) (W := 0) (rm := own_room5_1) (argsL := [(.int pq)]) (rest := []) (b := a) (C := "com/example/corbel/corbel/bytecode/Bytes") X31 hx hZ rfl hown (by rw [hml]; rfl) f32 (own_w23 hw) (own_w24 hw) (own_w26 hw) (own_w25 hw) (own_w3 hw) (own_w27 hw) (by decide) (own_rm5_1 lch Z a0 hw [] a pq b bk (own_b (own_ushr pq (8 : Int32))) x1 x2 x3 x4 x5 T31.heap n0 f32 G31_0 G31_1 G31_2 ga gb hne) (by decide) (by decide) (by decide) (by decide) (lenOf own_pd0 rfl) rfl (by exact Nat.le_of_eq rfl) (hb hby own_d4_10) rfl ?_
  intro T33 Lc33 v33 X33 hQ33
  obtain ⟨rfl, Nq33, Kq33, G33_0, G33_1, G33_2⟩ := hQ33
  have N33 := Fr.app N31 Nq33
  show own_Ends prg e below s _ _ _ T33 (mkF m 13 #[.val (.ref a), .val (.int pq)] [])
  refine own_retV X33 hx hlk hret (hb hby own_d4_13) (by decide) (by decide) ?_
  have f34 := ((K0.trans Kq31 (allS (Or.inl (List.mem_of_getElem? (i := 0) rfl)) (allS (Or.inl (List.mem_of_getElem? (i := 1) rfl)) all0))).trans Kq33 (allS (Or.inl (List.mem_of_getElem? (i := 0) rfl)) (allS (Or.inl (List.mem_of_getElem? (i := 1) rfl)) all0)))
  exact ⟨rfl, N33, f34, G33_0, G33_1, G33_2⟩
def own_room4_2 : Room := { frames := 1, cells := 0, slots := 0, locals := 13 }
def own_Q4_2 (Z : State) (a : Addr) (pq : Int32) (b : Addr) (bk : ClassId) (x0 : Int32) (x1 : Int32) (x2 : Int32) (x3 : Int32) (x4 : Int32) (x5 : Int32) (h0 : Heap) (n0 : Nat) (v : Option Value) (h : Heap) (L : List Loc) : Prop := v = none ∧ Fr n0 L ∧ Keep h0 h [a, b] ∧ Fld Z h a "com/example/corbel/corbel/bytecode/Bytes" "data" "[B" (.ref b) ∧ Fld Z h a "com/example/corbel/corbel/bytecode/Bytes" "length" "I" (.int (4 : Int32)) ∧ Arv Z h b bk .byte (256 : Int32) [(.int x0), (.int x1), (.int (own_b (own_ushr pq (8 : Int32)))), (.int (own_b pq)), (.int x4), (.int x5)] (.int (0 : Int32))
theorem own_ef_rm4_2 (m : MethodId) (x0 : Addr) (x1 : Int32) : entryFrame m #[(.ref x0), (.int x1)] 2 = mkF m 0 #[.val (.ref x0), .val (.int x1)] [] := by first | (simp [entryFrame, mkF, argsToLocals, Value.category]; done) | rfl
set_option maxRecDepth 65536 in
set_option maxHeartbeats 40000000 in
theorem own_rm4_2 (lch : Launch) (Z : State) (a0 : Array Value) (hw : ∀ d ∈ tables_1, d.before a0 Z = true) (ws : List Jvm.Cond) (a : Addr) (pq : Int32) (b : Addr) (bk : ClassId) (x0 : Int32) (x1 : Int32) (x2 : Int32) (x3 : Int32) (x4 : Int32) (x5 : Int32) (h0 : Heap) (n0 : Nat) (E0 : Exa Z h0 a "com/example/corbel/corbel/bytecode/Bytes") (FD : Fld Z h0 a "com/example/corbel/corbel/bytecode/Bytes" "data" "[B" (.ref b)) (FL : Fld Z h0 a "com/example/corbel/corbel/bytecode/Bytes" "length" "I" (.int (2 : Int32))) (V0 : Arv Z h0 b bk .byte (256 : Int32) [(.int x0), (.int x1), (.int x2), (.int x3), (.int x4), (.int x5)] (.int (0 : Int32))) (ga : n0 ≤ a) (gb : n0 ≤ b) (hne : a ≠ b) :
    MetFree lch (⟨"com/example/corbel/corbel/bytecode/Bytes", "u2", "(I)V"⟩ : MethodName) (head1 (Jvm.Cond.code (⟨"com/example/corbel/corbel/bytecode/Bytes", "u2", "(I)V"⟩ : MethodName) prog_10_method_4_code 2 none :: ws) own_room4_2) (fun zz U => zz = #[(.ref a), (.int pq)] ∧ Z.Warmed39 U.vm ∧ U.heap = h0) (fun _ _ _ _ _ => True) (fun _ U o U' => ∃ v L, o = .returned v ∧ own_Q4_2 Z a pq b bk x0 x1 x2 x3 x4 x5 h0 n0 v U'.heap L ∧ FrameEnd U o U' L own_room4_2.cells own_room4_2.slots) := by
  refine MetFree.of_bodySF (plainFor_of_name own_pn0) hisR ?_
  intro prg e s m args below meth c s₁ Bd hml0 hP hK
  obtain ⟨rfl, hZ, hh⟩ := hP
  have hx := Bd.exec
  have hby := Bd.bytes
  have hml : c.maxLocals = 2 := hml0
  have hown : s.vm.findClass "com/example/corbel/corbel/bytecode/Bytes" = some m.cls := findClass_of_methodNamed Bd.named
  have hnm := (name_of_methodNamed Bd.named Bd.method).1
  have hlk : meth.locks = false := BodyLoose.notSynchronized Bd
  have hret := Bd.returns
  have X0 : Stand prg lch e own_room4_2 s m #[(.ref a), (.int pq)] below meth c s₁ [] 0 0 := Stand.of_body Bd
  have e0 : s₁.heap = h0 := by rw [← hh, Bd.state]; rfl
  have N0 := Fr.nil n0
  show own_Ends prg e below s (own_Q4_2 Z a pq b bk x0 x1 x2 x3 x4 x5 h0 n0) own_room4_2.cells own_room4_2.slots s₁ (entryFrame m #[(.ref a), (.int pq)] 2)
  refine own_cast (own_ef_rm4_2 m a pq) ?_
  have K0 := Keep.refl h0 ([a, b] : List Addr)
  refine own_aloadN (pc' := 1) X0 hx (hb hby own_d4_0) rfl rfl rfl ?_
  refine own_iloadN (pc' := 2) X0 hx (hb hby own_d4_1) rfl rfl ?_
  refine own_bipush (pc' := 4) (z := (8 : Int32)) X0 hx (hb hby own_d4_2) rfl rfl ?_
  refine own_iushr (pc' := 5) (z := (own_ushr pq (8 : Int32))) X0 hx (hb hby own_d4_4) rfl rfl ?_
  refine own_callV (pc' := 8) (y := (⟨"com/example/corbel/corbel/bytecode/Bytes", "u1", "(I)V"⟩ : MethodName)) (W := 0) (rm := own_room5_2) (argsL := [(.int (own_ushr pq (8 : Int32)))]) (rest := []) (b := a) (C := "com/example/corbel/corbel/bytecode/Bytes") X0 hx hZ e0 hown (by rw [hml]; rfl) E0 (own_w23 hw) (own_w24 hw) (own_w26 hw) (own_w25 hw) (own_w3 hw) (own_w27 hw) (by decide) (own_rm5_2 lch Z a0 hw [] a (own_ushr pq (8 : Int32)) b bk x0 x1 x2 x3 x4 x5 h0 n0 E0 FD FL V0 ga gb hne) (by decide) (by decide) (by decide) (by decide) (lenOf own_pd0 rfl) rfl (by exact Nat.le_of_eq rfl) (hb hby own_d4_5) rfl ?_
  intro T31 Lc31 v31 X31 hQ31
  obtain ⟨rfl, Nq31, Kq31, G31_0, G31_1, G31_2⟩ := hQ31
  have N31 := Fr.app N0 Nq31
  show own_Ends prg e below s _ _ _ T31 (mkF m 8 #[.val (.ref a), .val (.int pq)] [])
  refine own_aloadN (pc' := 9) X31 hx (hb hby own_d4_8) rfl rfl rfl ?_
  refine own_iloadN (pc' := 10) X31 hx (hb hby own_d4_9) rfl rfl ?_
  have f32 := (E0.keep Kq31)
  refine own_callV (pc' := 13) (y := (⟨"com/example/corbel/corbel/bytecode/Bytes", "u1", "(I)V"⟩ : MethodName)) (W := 0) (rm := own_room5_3) (argsL := [(.int pq)]) (rest := []) (b := a) (C := "com/example/corbel/corbel/bytecode/Bytes") X31 hx hZ rfl hown (by rw [hml]; rfl) f32 (own_w23 hw) (own_w24 hw) (own_w26 hw) (own_w25 hw) (own_w3 hw) (own_w27 hw) (by decide) (own_rm5_3 lch Z a0 hw [] a pq b bk x0 x1 (own_b (own_ushr pq (8 : Int32))) x3 x4 x5 T31.heap n0 f32 G31_0 G31_1 G31_2 ga gb hne) (by decide) (by decide) (by decide) (by decide) (lenOf own_pd0 rfl) rfl (by exact Nat.le_of_eq rfl) (hb hby own_d4_10) rfl ?_
  intro T33 Lc33 v33 X33 hQ33
  obtain ⟨rfl, Nq33, Kq33, G33_0, G33_1, G33_2⟩ := hQ33
  have N33 := Fr.app N31 Nq33
  show own_Ends prg e below s _ _ _ T33 (mkF m 13 #[.val (.ref a), .val (.int pq)] [])
  refine own_retV X33 hx hlk hret (hb hby own_d4_13) (by decide) (by decide) ?_
  have f34 := ((K0.trans Kq31 (allS (Or.inl (List.mem_of_getElem? (i := 0) rfl)) (allS (Or.inl (List.mem_of_getElem? (i := 1) rfl)) all0))).trans Kq33 (allS (Or.inl (List.mem_of_getElem? (i := 0) rfl)) (allS (Or.inl (List.mem_of_getElem? (i := 1) rfl)) all0)))
  exact ⟨rfl, N33, f34, G33_0, G33_1, G33_2⟩
def own_room4_4 : Room := { frames := 1, cells := 0, slots := 0, locals := 13 }
def own_Q4_4 (Z : State) (a : Addr) (pq : Int32) (b : Addr) (bk : ClassId) (x0 : Int32) (x1 : Int32) (x2 : Int32) (x3 : Int32) (x4 : Int32) (x5 : Int32) (h0 : Heap) (n0 : Nat) (v : Option Value) (h : Heap) (L : List Loc) : Prop := v = none ∧ Fr n0 L ∧ Keep h0 h [a, b] ∧ Fld Z h a "com/example/corbel/corbel/bytecode/Bytes" "data" "[B" (.ref b) ∧ Fld Z h a "com/example/corbel/corbel/bytecode/Bytes" "length" "I" (.int (6 : Int32)) ∧ Arv Z h b bk .byte (256 : Int32) [(.int x0), (.int x1), (.int x2), (.int x3), (.int (own_b (own_ushr pq (8 : Int32)))), (.int (own_b pq))] (.int (0 : Int32))
theorem own_ef_rm4_4 (m : MethodId) (x0 : Addr) (x1 : Int32) : entryFrame m #[(.ref x0), (.int x1)] 2 = mkF m 0 #[.val (.ref x0), .val (.int x1)] [] := by first | (simp [entryFrame, mkF, argsToLocals, Value.category]; done) | rfl
set_option maxRecDepth 65536 in
set_option maxHeartbeats 40000000 in
theorem own_rm4_4 (lch : Launch) (Z : State) (a0 : Array Value) (hw : ∀ d ∈ tables_1, d.before a0 Z = true) (ws : List Jvm.Cond) (a : Addr) (pq : Int32) (b : Addr) (bk : ClassId) (x0 : Int32) (x1 : Int32) (x2 : Int32) (x3 : Int32) (x4 : Int32) (x5 : Int32) (h0 : Heap) (n0 : Nat) (E0 : Exa Z h0 a "com/example/corbel/corbel/bytecode/Bytes") (FD : Fld Z h0 a "com/example/corbel/corbel/bytecode/Bytes" "data" "[B" (.ref b)) (FL : Fld Z h0 a "com/example/corbel/corbel/bytecode/Bytes" "length" "I" (.int (4 : Int32))) (V0 : Arv Z h0 b bk .byte (256 : Int32) [(.int x0), (.int x1), (.int x2), (.int x3), (.int x4), (.int x5)] (.int (0 : Int32))) (ga : n0 ≤ a) (gb : n0 ≤ b) (hne : a ≠ b) :
    MetFree lch (⟨"com/example/corbel/corbel/bytecode/Bytes", "u2", "(I)V"⟩ : MethodName) (head1 (Jvm.Cond.code (⟨"com/example/corbel/corbel/bytecode/Bytes", "u2", "(I)V"⟩ : MethodName) prog_10_method_4_code 2 none :: ws) own_room4_4) (fun zz U => zz = #[(.ref a), (.int pq)] ∧ Z.Warmed39 U.vm ∧ U.heap = h0) (fun _ _ _ _ _ => True) (fun _ U o U' => ∃ v L, o = .returned v ∧ own_Q4_4 Z a pq b bk x0 x1 x2 x3 x4 x5 h0 n0 v U'.heap L ∧ FrameEnd U o U' L own_room4_4.cells own_room4_4.slots) := by
  refine MetFree.of_bodySF (plainFor_of_name own_pn0) hisR ?_
  intro prg e s m args below meth c s₁ Bd hml0 hP hK
  obtain ⟨rfl, hZ, hh⟩ := hP
  have hx := Bd.exec
  have hby := Bd.bytes
  have hml : c.maxLocals = 2 := hml0
  have hown : s.vm.findClass "com/example/corbel/corbel/bytecode/Bytes" = some m.cls := findClass_of_methodNamed Bd.named
  have hnm := (name_of_methodNamed Bd.named Bd.method).1
  have hlk : meth.locks = false := BodyLoose.notSynchronized Bd
  have hret := Bd.returns
  have X0 : Stand prg lch e own_room4_4 s m #[(.ref a), (.int pq)] below meth c s₁ [] 0 0 := Stand.of_body Bd
  have e0 : s₁.heap = h0 := by rw [← hh, Bd.state]; rfl
  have N0 := Fr.nil n0
  show own_Ends prg e below s (own_Q4_4 Z a pq b bk x0 x1 x2 x3 x4 x5 h0 n0) own_room4_4.cells own_room4_4.slots s₁ (entryFrame m #[(.ref a), (.int pq)] 2)
  refine own_cast (own_ef_rm4_4 m a pq) ?_
  have K0 := Keep.refl h0 ([a, b] : List Addr)
  refine own_aloadN (pc' := 1) X0 hx (hb hby own_d4_0) rfl rfl rfl ?_
  refine own_iloadN (pc' := 2) X0 hx (hb hby own_d4_1) rfl rfl ?_
  refine own_bipush (pc' := 4) (z := (8 : Int32)) X0 hx (hb hby own_d4_2) rfl rfl ?_
  refine own_iushr (pc' := 5) (z := (own_ushr pq (8 : Int32))) X0 hx (hb hby own_d4_4) rfl rfl ?_
  refine own_callV (pc' := 8) (y := (⟨"com/example/corbel/corbel/bytecode/Bytes", "u1", "(I)V"⟩ : MethodName)) (W := 0) (rm := own_room5_4) (argsL := [(.int (own_ushr pq (8 : Int32)))]) (rest := []) (b := a) (C := "com/example/corbel/corbel/bytecode/Bytes") X0 hx hZ e0 hown (by rw [hml]; rfl) E0 (own_w23 hw) (own_w24 hw) (own_w26 hw) (own_w25 hw) (own_w3 hw) (own_w27 hw) (by decide) (own_rm5_4 lch Z a0 hw [] a (own_ushr pq (8 : Int32)) b bk x0 x1 x2 x3 x4 x5 h0 n0 E0 FD FL V0 ga gb hne) (by decide) (by decide) (by decide) (by decide) (lenOf own_pd0 rfl) rfl (by exact Nat.le_of_eq rfl) (hb hby own_d4_5) rfl ?_
  intro T31 Lc31 v31 X31 hQ31
  obtain ⟨rfl, Nq31, Kq31, G31_0, G31_1, G31_2⟩ := hQ31
  have N31 := Fr.app N0 Nq31
  show own_Ends prg e below s _ _ _ T31 (mkF m 8 #[.val (.ref a), .val (.int pq)] [])
  refine own_aloadN (pc' := 9) X31 hx (hb hby own_d4_8) rfl rfl rfl ?_
  refine own_iloadN (pc' := 10) X31 hx (hb hby own_d4_9) rfl rfl ?_
  have f32 := (E0.keep Kq31)
  refine own_callV (pc' := 13) (y := (⟨"com/example/corbel/corbel/bytecode/Bytes", "u1", "(I)V"⟩ : MethodName)) (W := 0) (rm := own_room5_5) (argsL := [(.int pq)]) (rest := []) (b := a) (C := "com/example/corbel/corbel/bytecode/Bytes") X31 hx hZ rfl hown (by rw [hml]; rfl) f32 (own_w23 hw) (own_w24 hw) (own_w26 hw) (own_w25 hw) (own_w3 hw) (own_w27 hw) (by decide) (own_rm5_5 lch Z a0 hw [] a pq b bk x0 x1 x2 x3 (own_b (own_ushr pq (8 : Int32))) x5 T31.heap n0 f32 G31_0 G31_1 G31_2 ga gb hne) (by decide) (by decide) (by decide) (by decide) (lenOf own_pd0 rfl) rfl (by exact Nat.le_of_eq rfl) (hb hby own_d4_10) rfl ?_
  intro T33 Lc33 v33 X33 hQ33
  obtain ⟨rfl, Nq33, Kq33, G33_0, G33_1, G33_2⟩ := hQ33
  have N33 := Fr.app N31 Nq33
  show own_Ends prg e below s _ _ _ T33 (mkF m 13 #[.val (.ref a), .val (.int pq)] [])
  refine own_retV X33 hx hlk hret (hb hby own_d4_13) (by decide) (by decide) ?_
  have f34 := ((K0.trans Kq31 (allS (Or.inl (List.mem_of_getElem? (i := 0) rfl)) (allS (Or.inl (List.mem_of_getElem? (i := 1) rfl)) all0))).trans Kq33 (allS (Or.inl (List.mem_of_getElem? (i := 0) rfl)) (allS (Or.inl (List.mem_of_getElem? (i := 1) rfl)) all0)))
  exact ⟨rfl, N33, f34, G33_0, G33_1, G33_2⟩
def own_room3_0 : Room := { frames := 2, cells := 0, slots := 0, locals := 26 }
def own_Q3_0 (Z : State) (a : Addr) (pq : Int32) (b : Addr) (bk : ClassId) (x0 : Int32) (x1 : Int32) (x2 : Int32) (x3 : Int32) (x4 : Int32) (x5 : Int32) (h0 : Heap) (n0 : Nat) (v : Option Value) (h : Heap) (L : List Loc) : Prop := v = none ∧ Fr n0 L ∧ Keep h0 h [a, b] ∧ Fld Z h a "com/example/corbel/corbel/bytecode/Bytes" "data" "[B" (.ref b) ∧ Fld Z h a "com/example/corbel/corbel/bytecode/Bytes" "length" "I" (.int (4 : Int32)) ∧ Arv Z h b bk .byte (256 : Int32) [(.int (own_b (own_ushr (own_ushr pq (16 : Int32)) (8 : Int32)))), (.int (own_b (own_ushr pq (16 : Int32)))), (.int (own_b (own_ushr pq (8 : Int32)))), (.int (own_b pq)), (.int x4), (.int x5)] (.int (0 : Int32))
theorem own_ef_rm3_0 (m : MethodId) (x0 : Addr) (x1 : Int32) : entryFrame m #[(.ref x0), (.int x1)] 2 = mkF m 0 #[.val (.ref x0), .val (.int x1)] [] := by first | (simp [entryFrame, mkF, argsToLocals, Value.category]; done) | rfl
set_option maxRecDepth 65536 in
set_option maxHeartbeats 40000000 in
theorem own_rm3_0 (lch : Launch) (Z : State) (a0 : Array Value) (hw : ∀ d ∈ tables_1, d.before a0 Z = true) (ws : List Jvm.Cond) (a : Addr) (pq : Int32) (b : Addr) (bk : ClassId) (x0 : Int32) (x1 : Int32) (x2 : Int32) (x3 : Int32) (x4 : Int32) (x5 : Int32) (h0 : Heap) (n0 : Nat) (E0 : Exa Z h0 a "com/example/corbel/corbel/bytecode/Bytes") (FD : Fld Z h0 a "com/example/corbel/corbel/bytecode/Bytes" "data" "[B" (.ref b)) (FL : Fld Z h0 a "com/example/corbel/corbel/bytecode/Bytes" "length" "I" (.int (0 : Int32))) (V0 : Arv Z h0 b bk .byte (256 : Int32) [(.int x0), (.int x1), (.int x2), (.int x3), (.int x4), (.int x5)] (.int (0 : Int32))) (ga : n0 ≤ a) (gb : n0 ≤ b) (hne : a ≠ b) :
    MetFree lch (⟨"com/example/corbel/corbel/bytecode/Bytes", "u4", "(I)V"⟩ : MethodName) (head1 (Jvm.Cond.code (⟨"com/example/corbel/corbel/bytecode/Bytes", "u4", "(I)V"⟩ : MethodName) prog_10_method_5_code 2 none :: ws) own_room3_0) (fun zz U => zz = #[(.ref a), (.int pq)] ∧ Z.Warmed39 U.vm ∧ U.heap = h0) (fun _ _ _ _ _ => True) (fun _ U o U' => ∃ v L, o = .returned v ∧ own_Q3_0 Z a pq b bk x0 x1 x2 x3 x4 x5 h0 n0 v U'.heap L ∧ FrameEnd U o U' L own_room3_0.cells own_room3_0.slots) := by
  refine MetFree.of_bodySF (plainFor_of_name own_pn0) hisR ?_
  intro prg e s m args below meth c s₁ Bd hml0 hP hK
  obtain ⟨rfl, hZ, hh⟩ := hP
  have hx := Bd.exec
  have hby := Bd.bytes
  have hml : c.maxLocals = 2 := hml0
  have hown : s.vm.findClass "com/example/corbel/corbel/bytecode/Bytes" = some m.cls := findClass_of_methodNamed Bd.named
  have hnm := (name_of_methodNamed Bd.named Bd.method).1
  have hlk : meth.locks = false := BodyLoose.notSynchronized Bd
  have hret := Bd.returns
  have X0 : Stand prg lch e own_room3_0 s m #[(.ref a), (.int pq)] below meth c s₁ [] 0 0 := Stand.of_body Bd
  have e0 : s₁.heap = h0 := by rw [← hh, Bd.state]; rfl
  have N0 := Fr.nil n0
  show own_Ends prg e below s (own_Q3_0 Z a pq b bk x0 x1 x2 x3 x4 x5 h0 n0) own_room3_0.cells own_room3_0.slots s₁ (entryFrame m #[(.ref a), (.int pq)] 2)
  refine own_cast (own_ef_rm3_0 m a pq) ?_
  have K0 := Keep.refl h0 ([a, b] : List Addr)
  refine own_aloadN (pc' := 1) X0 hx (hb hby own_d3_0) rfl rfl rfl ?_
  refine own_iloadN (pc' := 2) X0 hx (hb hby own_d3_1) rfl rfl ?_
  refine own_bipush (pc' := 4) (z := (16 : Int32)) X0 hx (hb hby own_d3_2) rfl rfl ?_
  refine own_iushr (pc' := 5) (z := (own_ushr pq (16 : Int32))) X0 hx (hb hby own_d3_4) rfl rfl ?_
  refine own_callV (pc' := 8) (y := (⟨"com/example/corbel/corbel/bytecode/Bytes", "u2", "(I)V"⟩ : MethodName)) (W := 0) (rm := own_room4_0) (argsL := [(.int (own_ushr pq (16 : Int32)))]) (rest := []) (b := a) (C := "com/example/corbel/corbel/bytecode/Bytes") X0 hx hZ e0 hown (by rw [hml]; rfl) E0 (own_w18 hw) (own_w19 hw) (own_w21 hw) (own_w20 hw) (own_w3 hw) (own_w22 hw) (by decide) (own_rm4_0 lch Z a0 hw [] a (own_ushr pq (16 : Int32)) b bk x0 x1 x2 x3 x4 x5 h0 n0 E0 FD FL V0 ga gb hne) (by decide) (by decide) (by decide) (by decide) (lenOf own_pd0 rfl) rfl (by exact Nat.le_of_eq rfl) (hb hby own_d3_5) rfl ?_
  intro T31 Lc31 v31 X31 hQ31
  obtain ⟨rfl, Nq31, Kq31, G31_0, G31_1, G31_2⟩ := hQ31
  have N31 := Fr.app N0 Nq31
  show own_Ends prg e below s _ _ _ T31 (mkF m 8 #[.val (.ref a), .val (.int pq)] [])
  refine own_aloadN (pc' := 9) X31 hx (hb hby own_d3_8) rfl rfl rfl ?_
  refine own_iloadN (pc' := 10) X31 hx (hb hby own_d3_9) rfl rfl ?_
  have f32 := (E0.keep Kq31)
  refine own_callV (pc' := 13) (y := (⟨"com/example/corbel/corbel/bytecode/Bytes", "u2", "(I)V"⟩ : MethodName)) (W := 0) (rm := own_room4_2) (argsL := [(.int pq)]) (rest := []) (b := a) (C := "com/example/corbel/corbel/bytecode/Bytes") X31 hx hZ rfl hown (by rw [hml]; rfl) f32 (own_w18 hw) (own_w19 hw) (own_w21 hw) (own_w20 hw) (own_w3 hw) (own_w22 hw) (by decide) (own_rm4_2 lch Z a0 hw [] a pq b bk (own_b (own_ushr (own_ushr pq (16 : Int32)) (8 : Int32))) (own_b (own_ushr pq (16 : Int32))) x2 x3 x4 x5 T31.heap n0 f32 G31_0 G31_1 G31_2 ga gb hne) (by decide) (by decide) (by decide) (by decide) (lenOf own_pd0 rfl) rfl (by exact Nat.le_of_eq rfl) (hb hby own_d3_10) rfl ?_
  intro T33 Lc33 v33 X33 hQ33
  obtain ⟨rfl, Nq33, Kq33, G33_0, G33_1, G33_2⟩ := hQ33
  have N33 := Fr.app N31 Nq33
  show own_Ends prg e below s _ _ _ T33 (mkF m 13 #[.val (.ref a), .val (.int pq)] [])
  refine own_retV X33 hx hlk hret (hb hby own_d3_13) (by decide) (by decide) ?_
  have f34 := ((K0.trans Kq31 (allS (Or.inl (List.mem_of_getElem? (i := 0) rfl)) (allS (Or.inl (List.mem_of_getElem? (i := 1) rfl)) all0))).trans Kq33 (allS (Or.inl (List.mem_of_getElem? (i := 0) rfl)) (allS (Or.inl (List.mem_of_getElem? (i := 1) rfl)) all0)))
  exact ⟨rfl, N33, f34, G33_0, G33_1, G33_2⟩
def own_room6_0 : Room := { frames := 0, cells := 0, slots := 0, locals := 0 }
def own_Q6_0 (Z : State) (a : Addr) (pq : Int32) (b : Addr) (bk : ClassId) (x0 : Int32) (x1 : Int32) (x2 : Int32) (x3 : Int32) (x4 : Int32) (x5 : Int32) (h0 : Heap) (n0 : Nat) (v : Option Value) (h : Heap) (L : List Loc) : Prop := v = none ∧ Fr n0 L ∧ Keep h0 h [a, b] ∧ Fld Z h a "com/example/corbel/corbel/bytecode/Bytes" "data" "[B" (.ref b) ∧ Fld Z h a "com/example/corbel/corbel/bytecode/Bytes" "length" "I" (.int (6 : Int32)) ∧ Arv Z h b bk .byte (256 : Int32) [(.int (own_b (own_ushr pq (8 : Int32)))), (.int (own_b pq)), (.int x2), (.int x3), (.int x4), (.int x5)] (.int (0 : Int32))
theorem own_ef_rm6_0 (m : MethodId) (x0 : Addr) (x1 : Int32) (x2 : Int32) : entryFrame m #[(.ref x0), (.int x1), (.int x2)] 3 = mkF m 0 #[.val (.ref x0), .val (.int x1), .val (.int x2)] [] := by first | (simp [entryFrame, mkF, argsToLocals, Value.category]; done) | rfl
set_option maxRecDepth 65536 in
set_option maxHeartbeats 40000000 in
theorem own_rm6_0 (lch : Launch) (Z : State) (a0 : Array Value) (hw : ∀ d ∈ tables_1, d.before a0 Z = true) (ws : List Jvm.Cond) (a : Addr) (pq : Int32) (b : Addr) (bk : ClassId) (x0 : Int32) (x1 : Int32) (x2 : Int32) (x3 : Int32) (x4 : Int32) (x5 : Int32) (h0 : Heap) (n0 : Nat) (E0 : Exa Z h0 a "com/example/corbel/corbel/bytecode/Bytes") (FD : Fld Z h0 a "com/example/corbel/corbel/bytecode/Bytes" "data" "[B" (.ref b)) (FL : Fld Z h0 a "com/example/corbel/corbel/bytecode/Bytes" "length" "I" (.int (6 : Int32))) (V0 : Arv Z h0 b bk .byte (256 : Int32) [(.int x0), (.int x1), (.int x2), (.int x3), (.int x4), (.int x5)] (.int (0 : Int32))) (ga : n0 ≤ a) (gb : n0 ≤ b) (hne : a ≠ b) :
    MetFree lch (⟨"com/example/corbel/corbel/bytecode/Bytes", "u2At", "(II)V"⟩ : MethodName) (head1 (Jvm.Cond.code (⟨"com/example/corbel/corbel/bytecode/Bytes", "u2At", "(II)V"⟩ : MethodName) prog_10_method_6_code 3 none :: ws) own_room6_0) (fun zz U => zz = #[(.ref a), (.int (0 : Int32)), (.int pq)] ∧ Z.Warmed39 U.vm ∧ U.heap = h0) (fun _ _ _ _ _ => True) (fun _ U o U' => ∃ v L, o = .returned v ∧ own_Q6_0 Z a pq b bk x0 x1 x2 x3 x4 x5 h0 n0 v U'.heap L ∧ FrameEnd U o U' L own_room6_0.cells own_room6_0.slots) := by
  refine MetFree.of_bodySF (plainFor_of_name own_pn0) hisR ?_
  intro prg e s m args below meth c s₁ Bd hml0 hP hK
  obtain ⟨rfl, hZ, hh⟩ := hP
  have hx := Bd.exec
  have hby := Bd.bytes
  have hml : c.maxLocals = 3 := hml0
  have hown : s.vm.findClass "com/example/corbel/corbel/bytecode/Bytes" = some m.cls := findClass_of_methodNamed Bd.named
  have hnm := (name_of_methodNamed Bd.named Bd.method).1
  have hlk : meth.locks = false := BodyLoose.notSynchronized Bd
  have hret := Bd.returns
  have X0 : Stand prg lch e own_room6_0 s m #[(.ref a), (.int (0 : Int32)), (.int pq)] below meth c s₁ [] 0 0 := Stand.of_body Bd
  have e0 : s₁.heap = h0 := by rw [← hh, Bd.state]; rfl
  have N0 := Fr.nil n0
  show own_Ends prg e below s (own_Q6_0 Z a pq b bk x0 x1 x2 x3 x4 x5 h0 n0) own_room6_0.cells own_room6_0.slots s₁ (entryFrame m #[(.ref a), (.int (0 : Int32)), (.int pq)] 3)
  refine own_cast (own_ef_rm6_0 m a (0 : Int32) pq) ?_
  have K0 := Keep.refl h0 ([a, b] : List Addr)
  refine own_aloadN (pc' := 1) X0 hx (hb hby own_d6_0) rfl rfl rfl ?_
  obtain ⟨T31, X31, e31, st31⟩ := getF X0 hx hZ hown (host := "") (Or.inl (own_w11 hw)) Via.refl e0 FD (g := (mkF m 1 #[.val (.ref a), .val (.int (0 : Int32)), .val (.int pq)] [(.ref a)])) rfl rfl (hb hby own_d6_1)
  refine own_go st31 ?_
  show own_Ends prg e below s _ _ _ T31 (mkF m 4 #[.val (.ref a), .val (.int (0 : Int32)), .val (.int pq)] [(.ref b)])
  refine own_iloadN (pc' := 5) X31 hx (hb hby own_d6_4) rfl rfl ?_
  refine own_iloadN (pc' := 6) X31 hx (hb hby own_d6_5) rfl rfl ?_
  refine own_bipush (pc' := 8) (z := (8 : Int32)) X31 hx (hb hby own_d6_6) rfl rfl ?_
  refine own_iushr (pc' := 9) (z := (own_ushr pq (8 : Int32))) X31 hx (hb hby own_d6_8) rfl rfl ?_
  refine own_i2b (pc' := 10) (z := (own_b (own_ushr pq (8 : Int32)))) X31 hx (hb hby own_d6_9) rfl rfl ?_
  refine own_bastore (pc' := 11) X31 hx hZ e31 V0 (hb hby own_d6_10) rfl (by decide) 0 rfl (by simp) N0 gb ?_
  intro T32 h32 L32 X32 e32 N32 W32 V32
  rw [show nar .byte (own_b (own_ushr pq (8 : Int32))) = (own_b (own_ushr pq (8 : Int32))) from own_nb _] at V32
  replace V32 : Arv Z h32 b bk .byte (256 : Int32) [(.int (own_b (own_ushr pq (8 : Int32)))), (.int x1), (.int x2), (.int x3), (.int x4), (.int x5)] (.int (0 : Int32)) := V32
  show own_Ends prg e below s _ _ _ T32 (mkF m 11 #[.val (.ref a), .val (.int (0 : Int32)), .val (.int pq)] [])
  refine own_aloadN (pc' := 12) X32 hx (hb hby own_d6_11) rfl rfl rfl ?_
  have f33 := (FD.other W32 (Or.inl hne))
  obtain ⟨T34, X34, e34, st34⟩ := getF X32 hx hZ hown (host := "") (Or.inl (own_w11 hw)) Via.refl e32 f33 (g := (mkF m 12 #[.val (.ref a), .val (.int (0 : Int32)), .val (.int pq)] [(.ref a)])) rfl rfl (hb hby own_d6_12)
  refine own_go st34 ?_
  show own_Ends prg e below s _ _ _ T34 (mkF m 15 #[.val (.ref a), .val (.int (0 : Int32)), .val (.int pq)] [(.ref b)])
  refine own_iloadN (pc' := 16) X34 hx (hb hby own_d6_15) rfl rfl ?_
  refine own_iconst (pc' := 17) (z := (1 : Int32)) X34 hx (hb hby own_d6_16) rfl rfl ?_
  refine own_iadd (pc' := 18) (z := (1 : Int32)) X34 hx (hb hby own_d6_17) rfl (by decide) ?_
  refine own_iloadN (pc' := 19) X34 hx (hb hby own_d6_18) rfl rfl ?_
  refine own_i2b (pc' := 20) (z := (own_b pq)) X34 hx (hb hby own_d6_19) rfl rfl ?_
  refine own_bastore (pc' := 21) X34 hx hZ e34 V32 (hb hby own_d6_20) rfl (by decide) 1 rfl (by simp) N32 gb ?_
  intro T35 h35 L35 X35 e35 N35 W35 V35
  rw [show nar .byte (own_b pq) = (own_b pq) from own_nb _] at V35
  replace V35 : Arv Z h35 b bk .byte (256 : Int32) [(.int (own_b (own_ushr pq (8 : Int32)))), (.int (own_b pq)), (.int x2), (.int x3), (.int x4), (.int x5)] (.int (0 : Int32)) := V35
  show own_Ends prg e below s _ _ _ T35 (mkF m 21 #[.val (.ref a), .val (.int (0 : Int32)), .val (.int pq)] [])
  refine own_retV X35 hx hlk hret (hb hby own_d6_21) (by decide) (by decide) ?_
  have f36 := ((K0.wr W32 (Or.inl (List.mem_of_getElem? (i := 1) rfl))).wr W35 (Or.inl (List.mem_of_getElem? (i := 1) rfl)))
  have f37 := (f33.other W35 (Or.inl hne))
  have f38 := ((FL.other W32 (Or.inl hne)).other W35 (Or.inl hne))
  rw [e35]; exact ⟨rfl, N35, f36, f37, f38, V35⟩
def own_room6_1 : Room := { frames := 0, cells := 0, slots := 0, locals := 0 }
def own_Q6_1 (Z : State) (a : Addr) (pq : Int32) (b : Addr) (bk : ClassId) (x0 : Int32) (x1 : Int32) (x2 : Int32) (x3 : Int32) (x4 : Int32) (x5 : Int32) (h0 : Heap) (n0 : Nat) (v : Option Value) (h : Heap) (L : List Loc) : Prop := v = none ∧ Fr n0 L ∧ Keep h0 h [a, b] ∧ Fld Z h a "com/example/corbel/corbel/bytecode/Bytes" "data" "[B" (.ref b) ∧ Fld Z h a "com/example/corbel/corbel/bytecode/Bytes" "length" "I" (.int (6 : Int32)) ∧ Arv Z h b bk .byte (256 : Int32) [(.int x0), (.int (own_b (own_ushr pq (8 : Int32)))), (.int (own_b pq)), (.int x3), (.int x4), (.int x5)] (.int (0 : Int32))
theorem own_ef_rm6_1 (m : MethodId) (x0 : Addr) (x1 : Int32) (x2 : Int32) : entryFrame m #[(.ref x0), (.int x1), (.int x2)] 3 = mkF m 0 #[.val (.ref x0), .val (.int x1), .val (.int x2)] [] := by first | (simp [entryFrame, mkF, argsToLocals, Value.category]; done) | rfl
set_option maxRecDepth 65536 in
set_option maxHeartbeats 40000000 in
theorem own_rm6_1 (lch : Launch) (Z : State) (a0 : Array Value) (hw : ∀ d ∈ tables_1, d.before a0 Z = true) (ws : List Jvm.Cond) (a : Addr) (pq : Int32) (b : Addr) (bk : ClassId) (x0 : Int32) (x1 : Int32) (x2 : Int32) (x3 : Int32) (x4 : Int32) (x5 : Int32) (h0 : Heap) (n0 : Nat) (E0 : Exa Z h0 a "com/example/corbel/corbel/bytecode/Bytes") (FD : Fld Z h0 a "com/example/corbel/corbel/bytecode/Bytes" "data" "[B" (.ref b)) (FL : Fld Z h0 a "com/example/corbel/corbel/bytecode/Bytes" "length" "I" (.int (6 : Int32))) (V0 : Arv Z h0 b bk .byte (256 : Int32) [(.int x0), (.int x1), (.int x2), (.int x3), (.int x4), (.int x5)] (.int (0 : Int32))) (ga : n0 ≤ a) (gb : n0 ≤ b) (hne : a ≠ b) :
    MetFree lch (⟨"com/example/corbel/corbel/bytecode/Bytes", "u2At", "(II)V"⟩ : MethodName) (head1 (Jvm.Cond.code (⟨"com/example/corbel/corbel/bytecode/Bytes", "u2At", "(II)V"⟩ : MethodName) prog_10_method_6_code 3 none :: ws) own_room6_1) (fun zz U => zz = #[(.ref a), (.int (1 : Int32)), (.int pq)] ∧ Z.Warmed39 U.vm ∧ U.heap = h0) (fun _ _ _ _ _ => True) (fun _ U o U' => ∃ v L, o = .returned v ∧ own_Q6_1 Z a pq b bk x0 x1 x2 x3 x4 x5 h0 n0 v U'.heap L ∧ FrameEnd U o U' L own_room6_1.cells own_room6_1.slots) := by
  refine MetFree.of_bodySF (plainFor_of_name own_pn0) hisR ?_
  intro prg e s m args below meth c s₁ Bd hml0 hP hK
  obtain ⟨rfl, hZ, hh⟩ := hP
  have hx := Bd.exec
  have hby := Bd.bytes
  have hml : c.maxLocals = 3 := hml0
  have hown : s.vm.findClass "com/example/corbel/corbel/bytecode/Bytes" = some m.cls := findClass_of_methodNamed Bd.named
  have hnm := (name_of_methodNamed Bd.named Bd.method).1
  have hlk : meth.locks = false := BodyLoose.notSynchronized Bd
  have hret := Bd.returns
  have X0 : Stand prg lch e own_room6_1 s m #[(.ref a), (.int (1 : Int32)), (.int pq)] below meth c s₁ [] 0 0 := Stand.of_body Bd
  have e0 : s₁.heap = h0 := by rw [← hh, Bd.state]; rfl
  have N0 := Fr.nil n0
  show own_Ends prg e below s (own_Q6_1 Z a pq b bk x0 x1 x2 x3 x4 x5 h0 n0) own_room6_1.cells own_room6_1.slots s₁ (entryFrame m #[(.ref a), (.int (1 : Int32)), (.int pq)] 3)
  refine own_cast (own_ef_rm6_1 m a (1 : Int32) pq) ?_
  have K0 := Keep.refl h0 ([a, b] : List Addr)
  refine own_aloadN (pc' := 1) X0 hx (hb hby own_d6_0) rfl rfl rfl ?_
  obtain ⟨T31, X31, e31, st31⟩ := getF X0 hx hZ hown (host := "") (Or.inl (own_w11 hw)) Via.refl e0 FD (g := (mkF m 1 #[.val (.ref a), .val (.int (1 : Int32)), .val (.int pq)] [(.ref a)])) rfl rfl (hb hby own_d6_1)
  refine own_go st31 ?_
  show own_Ends prg e below s _ _ _ T31 (mkF m 4 #[.val (.ref a), .val (.int (1 : Int32)), .val (.int pq)] [(.ref b)])
  refine own_iloadN (pc' := 5) X31 hx (hb hby own_d6_4) rfl rfl ?_
  refine own_iloadN (pc' := 6) X31 hx (hb hby own_d6_5) rfl rfl ?_
  refine own_bipush (pc' := 8) (z := (8 : Int32)) X31 hx (hb hby own_d6_6) rfl rfl ?_
  refine own_iushr (pc' := 9) (z := (own_ushr pq (8 : Int32))) X31 hx (hb hby own_d6_8) rfl rfl ?_
  refine own_i2b (pc' := 10) (z := (own_b (own_ushr pq (8 : Int32)))) X31 hx (hb hby own_d6_9) rfl rfl ?_
  refine own_bastore (pc' := 11) X31 hx hZ e31 V0 (hb hby own_d6_10) rfl (by decide) 1 rfl (by simp) N0 gb ?_
  intro T32 h32 L32 X32 e32 N32 W32 V32
  rw [show nar .byte (own_b (own_ushr pq (8 : Int32))) = (own_b (own_ushr pq (8 : Int32))) from own_nb _] at V32
  replace V32 : Arv Z h32 b bk .byte (256 : Int32) [(.int x0), (.int (own_b (own_ushr pq (8 : Int32)))), (.int x2), (.int x3), (.int x4), (.int x5)] (.int (0 : Int32)) := V32
  show own_Ends prg e below s _ _ _ T32 (mkF m 11 #[.val (.ref a), .val (.int (1 : Int32)), .val (.int pq)] [])
  refine own_aloadN (pc' := 12) X32 hx (hb hby own_d6_11) rfl rfl rfl ?_
  have f33 := (FD.other W32 (Or.inl hne))
  obtain ⟨T34, X34, e34, st34⟩ := getF X32 hx hZ hown (host := "") (Or.inl (own_w11 hw)) Via.refl e32 f33 (g := (mkF m 12 #[.val (.ref a), .val (.int (1 : Int32)), .val (.int pq)] [(.ref a)])) rfl rfl (hb hby own_d6_12)
  refine own_go st34 ?_
  show own_Ends prg e below s _ _ _ T34 (mkF m 15 #[.val (.ref a), .val (.int (1 : Int32)), .val (.int pq)] [(.ref b)])
  refine own_iloadN (pc' := 16) X34 hx (hb hby own_d6_15) rfl rfl ?_
  refine own_iconst (pc' := 17) (z := (1 : Int32)) X34 hx (hb hby own_d6_16) rfl rfl ?_
  refine own_iadd (pc' := 18) (z := (2 : Int32)) X34 hx (hb hby own_d6_17) rfl (by decide) ?_
  refine own_iloadN (pc' := 19) X34 hx (hb hby own_d6_18) rfl rfl ?_
  refine own_i2b (pc' := 20) (z := (own_b pq)) X34 hx (hb hby own_d6_19) rfl rfl ?_
  refine own_bastore (pc' := 21) X34 hx hZ e34 V32 (hb hby own_d6_20) rfl (by decide) 2 rfl (by simp) N32 gb ?_
  intro T35 h35 L35 X35 e35 N35 W35 V35
  rw [show nar .byte (own_b pq) = (own_b pq) from own_nb _] at V35
  replace V35 : Arv Z h35 b bk .byte (256 : Int32) [(.int x0), (.int (own_b (own_ushr pq (8 : Int32)))), (.int (own_b pq)), (.int x3), (.int x4), (.int x5)] (.int (0 : Int32)) := V35
  show own_Ends prg e below s _ _ _ T35 (mkF m 21 #[.val (.ref a), .val (.int (1 : Int32)), .val (.int pq)] [])
  refine own_retV X35 hx hlk hret (hb hby own_d6_21) (by decide) (by decide) ?_
  have f36 := ((K0.wr W32 (Or.inl (List.mem_of_getElem? (i := 1) rfl))).wr W35 (Or.inl (List.mem_of_getElem? (i := 1) rfl)))
  have f37 := (f33.other W35 (Or.inl hne))
  have f38 := ((FL.other W32 (Or.inl hne)).other W35 (Or.inl hne))
  rw [e35]; exact ⟨rfl, N35, f36, f37, f38, V35⟩
def own_room6_2 : Room := { frames := 0, cells := 0, slots := 0, locals := 0 }
def own_Q6_2 (Z : State) (a : Addr) (pq : Int32) (b : Addr) (bk : ClassId) (x0 : Int32) (x1 : Int32) (x2 : Int32) (x3 : Int32) (x4 : Int32) (x5 : Int32) (h0 : Heap) (n0 : Nat) (v : Option Value) (h : Heap) (L : List Loc) : Prop := v = none ∧ Fr n0 L ∧ Keep h0 h [a, b] ∧ Fld Z h a "com/example/corbel/corbel/bytecode/Bytes" "data" "[B" (.ref b) ∧ Fld Z h a "com/example/corbel/corbel/bytecode/Bytes" "length" "I" (.int (6 : Int32)) ∧ Arv Z h b bk .byte (256 : Int32) [(.int x0), (.int x1), (.int (own_b (own_ushr pq (8 : Int32)))), (.int (own_b pq)), (.int x4), (.int x5)] (.int (0 : Int32))
theorem own_ef_rm6_2 (m : MethodId) (x0 : Addr) (x1 : Int32) (x2 : Int32) : entryFrame m #[(.ref x0), (.int x1), (.int x2)] 3 = mkF m 0 #[.val (.ref x0), .val (.int x1), .val (.int x2)] [] := by first | (simp [entryFrame, mkF, argsToLocals, Value.category]; done) | rfl
set_option maxRecDepth 65536 in
set_option maxHeartbeats 40000000 in
theorem own_rm6_2 (lch : Launch) (Z : State) (a0 : Array Value) (hw : ∀ d ∈ tables_1, d.before a0 Z = true) (ws : List Jvm.Cond) (a : Addr) (pq : Int32) (b : Addr) (bk : ClassId) (x0 : Int32) (x1 : Int32) (x2 : Int32) (x3 : Int32) (x4 : Int32) (x5 : Int32) (h0 : Heap) (n0 : Nat) (E0 : Exa Z h0 a "com/example/corbel/corbel/bytecode/Bytes") (FD : Fld Z h0 a "com/example/corbel/corbel/bytecode/Bytes" "data" "[B" (.ref b)) (FL : Fld Z h0 a "com/example/corbel/corbel/bytecode/Bytes" "length" "I" (.int (6 : Int32))) (V0 : Arv Z h0 b bk .byte (256 : Int32) [(.int x0), (.int x1), (.int x2), (.int x3), (.int x4), (.int x5)] (.int (0 : Int32))) (ga : n0 ≤ a) (gb : n0 ≤ b) (hne : a ≠ b) :
    MetFree lch (⟨"com/example/corbel/corbel/bytecode/Bytes", "u2At", "(II)V"⟩ : MethodName) (head1 (Jvm.Cond.code (⟨"com/example/corbel/corbel/bytecode/Bytes", "u2At", "(II)V"⟩ : MethodName) prog_10_method_6_code 3 none :: ws) own_room6_2) (fun zz U => zz = #[(.ref a), (.int (2 : Int32)), (.int pq)] ∧ Z.Warmed39 U.vm ∧ U.heap = h0) (fun _ _ _ _ _ => True) (fun _ U o U' => ∃ v L, o = .returned v ∧ own_Q6_2 Z a pq b bk x0 x1 x2 x3 x4 x5 h0 n0 v U'.heap L ∧ FrameEnd U o U' L own_room6_2.cells own_room6_2.slots) := by
  refine MetFree.of_bodySF (plainFor_of_name own_pn0) hisR ?_
  intro prg e s m args below meth c s₁ Bd hml0 hP hK
  obtain ⟨rfl, hZ, hh⟩ := hP
  have hx := Bd.exec
  have hby := Bd.bytes
  have hml : c.maxLocals = 3 := hml0
  have hown : s.vm.findClass "com/example/corbel/corbel/bytecode/Bytes" = some m.cls := findClass_of_methodNamed Bd.named
  have hnm := (name_of_methodNamed Bd.named Bd.method).1
  have hlk : meth.locks = false := BodyLoose.notSynchronized Bd
  have hret := Bd.returns
  have X0 : Stand prg lch e own_room6_2 s m #[(.ref a), (.int (2 : Int32)), (.int pq)] below meth c s₁ [] 0 0 := Stand.of_body Bd
  have e0 : s₁.heap = h0 := by rw [← hh, Bd.state]; rfl
  have N0 := Fr.nil n0
  show own_Ends prg e below s (own_Q6_2 Z a pq b bk x0 x1 x2 x3 x4 x5 h0 n0) own_room6_2.cells own_room6_2.slots s₁ (entryFrame m #[(.ref a), (.int (2 : Int32)), (.int pq)] 3)
  refine own_cast (own_ef_rm6_2 m a (2 : Int32) pq) ?_
  have K0 := Keep.refl h0 ([a, b] : List Addr)
  refine own_aloadN (pc' := 1) X0 hx (hb hby own_d6_0) rfl rfl rfl ?_
  obtain ⟨T31, X31, e31, st31⟩ := getF X0 hx hZ hown (host := "") (Or.inl (own_w11 hw)) Via.refl e0 FD (g := (mkF m 1 #[.val (.ref a), .val (.int (2 : Int32)), .val (.int pq)] [(.ref a)])) rfl rfl (hb hby own_d6_1)
  refine own_go st31 ?_
  show own_Ends prg e below s _ _ _ T31 (mkF m 4 #[.val (.ref a), .val (.int (2 : Int32)), .val (.int pq)] [(.ref b)])
  refine own_iloadN (pc' := 5) X31 hx (hb hby own_d6_4) rfl rfl ?_
  refine own_iloadN (pc' := 6) X31 hx (hb hby own_d6_5) rfl rfl ?_
  refine own_bipush (pc' := 8) (z := (8 : Int32)) X31 hx (hb hby own_d6_6) rfl rfl ?_
  refine own_iushr (pc' := 9) (z := (own_ushr pq (8 : Int32))) X31 hx (hb hby own_d6_8) rfl rfl ?_
  refine own_i2b (pc' := 10) (z := (own_b (own_ushr pq (8 : Int32)))) X31 hx (hb hby own_d6_9) rfl rfl ?_
  refine own_bastore (pc' := 11) X31 hx hZ e31 V0 (hb hby own_d6_10) rfl (by decide) 2 rfl (by simp) N0 gb ?_
  intro T32 h32 L32 X32 e32 N32 W32 V32
  rw [show nar .byte (own_b (own_ushr pq (8 : Int32))) = (own_b (own_ushr pq (8 : Int32))) from own_nb _] at V32
  replace V32 : Arv Z h32 b bk .byte (256 : Int32) [(.int x0), (.int x1), (.int (own_b (own_ushr pq (8 : Int32)))), (.int x3), (.int x4), (.int x5)] (.int (0 : Int32)) := V32
  show own_Ends prg e below s _ _ _ T32 (mkF m 11 #[.val (.ref a), .val (.int (2 : Int32)), .val (.int pq)] [])
  refine own_aloadN (pc' := 12) X32 hx (hb hby own_d6_11) rfl rfl rfl ?_
  have f33 := (FD.other W32 (Or.inl hne))
  obtain ⟨T34, X34, e34, st34⟩ := getF X32 hx hZ hown (host := "") (Or.inl (own_w11 hw)) Via.refl e32 f33 (g := (mkF m 12 #[.val (.ref a), .val (.int (2 : Int32)), .val (.int pq)] [(.ref a)])) rfl rfl (hb hby own_d6_12)
  refine own_go st34 ?_
  show own_Ends prg e below s _ _ _ T34 (mkF m 15 #[.val (.ref a), .val (.int (2 : Int32)), .val (.int pq)] [(.ref b)])
  refine own_iloadN (pc' := 16) X34 hx (hb hby own_d6_15) rfl rfl ?_
  refine own_iconst (pc' := 17) (z := (1 : Int32)) X34 hx (hb hby own_d6_16) rfl rfl ?_
  refine own_iadd (pc' := 18) (z := (3 : Int32)) X34 hx (hb hby own_d6_17) rfl (by decide) ?_
  refine own_iloadN (pc' := 19) X34 hx (hb hby own_d6_18) rfl rfl ?_
  refine own_i2b (pc' := 20) (z := (own_b pq)) X34 hx (hb hby own_d6_19) rfl rfl ?_
  refine own_bastore (pc' := 21) X34 hx hZ e34 V32 (hb hby own_d6_20) rfl (by decide) 3 rfl (by simp) N32 gb ?_
  intro T35 h35 L35 X35 e35 N35 W35 V35
  rw [show nar .byte (own_b pq) = (own_b pq) from own_nb _] at V35
  replace V35 : Arv Z h35 b bk .byte (256 : Int32) [(.int x0), (.int x1), (.int (own_b (own_ushr pq (8 : Int32)))), (.int (own_b pq)), (.int x4), (.int x5)] (.int (0 : Int32)) := V35
  show own_Ends prg e below s _ _ _ T35 (mkF m 21 #[.val (.ref a), .val (.int (2 : Int32)), .val (.int pq)] [])
  refine own_retV X35 hx hlk hret (hb hby own_d6_21) (by decide) (by decide) ?_
  have f36 := ((K0.wr W32 (Or.inl (List.mem_of_getElem? (i := 1) rfl))).wr W35 (Or.inl (List.mem_of_getElem? (i := 1) rfl)))
  have f37 := (f33.other W35 (Or.inl hne))
  have f38 := ((FL.other W32 (Or.inl hne)).other W35 (Or.inl hne))
  rw [e35]; exact ⟨rfl, N35, f36, f37, f38, V35⟩
def own_room6_3 : Room := { frames := 0, cells := 0, slots := 0, locals := 0 }
def own_Q6_3 (Z : State) (a : Addr) (pq : Int32) (b : Addr) (bk : ClassId) (x0 : Int32) (x1 : Int32) (x2 : Int32) (x3 : Int32) (x4 : Int32) (x5 : Int32) (h0 : Heap) (n0 : Nat) (v : Option Value) (h : Heap) (L : List Loc) : Prop := v = none ∧ Fr n0 L ∧ Keep h0 h [a, b] ∧ Fld Z h a "com/example/corbel/corbel/bytecode/Bytes" "data" "[B" (.ref b) ∧ Fld Z h a "com/example/corbel/corbel/bytecode/Bytes" "length" "I" (.int (6 : Int32)) ∧ Arv Z h b bk .byte (256 : Int32) [(.int x0), (.int x1), (.int x2), (.int (own_b (own_ushr pq (8 : Int32)))), (.int (own_b pq)), (.int x5)] (.int (0 : Int32))
theorem own_ef_rm6_3 (m : MethodId) (x0 : Addr) (x1 : Int32) (x2 : Int32) : entryFrame m #[(.ref x0), (.int x1), (.int x2)] 3 = mkF m 0 #[.val (.ref x0), .val (.int x1), .val (.int x2)] [] := by first | (simp [entryFrame, mkF, argsToLocals, Value.category]; done) | rfl
set_option maxRecDepth 65536 in
set_option maxHeartbeats 40000000 in
theorem own_rm6_3 (lch : Launch) (Z : State) (a0 : Array Value) (hw : ∀ d ∈ tables_1, d.before a0 Z = true) (ws : List Jvm.Cond) (a : Addr) (pq : Int32) (b : Addr) (bk : ClassId) (x0 : Int32) (x1 : Int32) (x2 : Int32) (x3 : Int32) (x4 : Int32) (x5 : Int32) (h0 : Heap) (n0 : Nat) (E0 : Exa Z h0 a "com/example/corbel/corbel/bytecode/Bytes") (FD : Fld Z h0 a "com/example/corbel/corbel/bytecode/Bytes" "data" "[B" (.ref b)) (FL : Fld Z h0 a "com/example/corbel/corbel/bytecode/Bytes" "length" "I" (.int (6 : Int32))) (V0 : Arv Z h0 b bk .byte (256 : Int32) [(.int x0), (.int x1), (.int x2), (.int x3), (.int x4), (.int x5)] (.int (0 : Int32))) (ga : n0 ≤ a) (gb : n0 ≤ b) (hne : a ≠ b) :
    MetFree lch (⟨"com/example/corbel/corbel/bytecode/Bytes", "u2At", "(II)V"⟩ : MethodName) (head1 (Jvm.Cond.code (⟨"com/example/corbel/corbel/bytecode/Bytes", "u2At", "(II)V"⟩ : MethodName) prog_10_method_6_code 3 none :: ws) own_room6_3) (fun zz U => zz = #[(.ref a), (.int (3 : Int32)), (.int pq)] ∧ Z.Warmed39 U.vm ∧ U.heap = h0) (fun _ _ _ _ _ => True) (fun _ U o U' => ∃ v L, o = .returned v ∧ own_Q6_3 Z a pq b bk x0 x1 x2 x3 x4 x5 h0 n0 v U'.heap L ∧ FrameEnd U o U' L own_room6_3.cells own_room6_3.slots) := by
  refine MetFree.of_bodySF (plainFor_of_name own_pn0) hisR ?_
  intro prg e s m args below meth c s₁ Bd hml0 hP hK
  obtain ⟨rfl, hZ, hh⟩ := hP
  have hx := Bd.exec
  have hby := Bd.bytes
  have hml : c.maxLocals = 3 := hml0
  have hown : s.vm.findClass "com/example/corbel/corbel/bytecode/Bytes" = some m.cls := findClass_of_methodNamed Bd.named
  have hnm := (name_of_methodNamed Bd.named Bd.method).1
  have hlk : meth.locks = false := BodyLoose.notSynchronized Bd
  have hret := Bd.returns
  have X0 : Stand prg lch e own_room6_3 s m #[(.ref a), (.int (3 : Int32)), (.int pq)] below meth c s₁ [] 0 0 := Stand.of_body Bd
  have e0 : s₁.heap = h0 := by rw [← hh, Bd.state]; rfl
  have N0 := Fr.nil n0
  show own_Ends prg e below s (own_Q6_3 Z a pq b bk x0 x1 x2 x3 x4 x5 h0 n0) own_room6_3.cells own_room6_3.slots s₁ (entryFrame m #[(.ref a), (.int (3 : Int32)), (.int pq)] 3)
  refine own_cast (own_ef_rm6_3 m a (3 : Int32) pq) ?_
  have K0 := Keep.refl h0 ([a, b] : List Addr)
  refine own_aloadN (pc' := 1) X0 hx (hb hby own_d6_0) rfl rfl rfl ?_
  obtain ⟨T31, X31, e31, st31⟩ := getF X0 hx hZ hown (host := "") (Or.inl (own_w11 hw)) Via.refl e0 FD (g := (mkF m 1 #[.val (.ref a), .val (.int (3 : Int32)), .val (.int pq)] [(.ref a)])) rfl rfl (hb hby own_d6_1)
  refine own_go st31 ?_
  show own_Ends prg e below s _ _ _ T31 (mkF m 4 #[.val (.ref a), .val (.int (3 : Int32)), .val (.int pq)] [(.ref b)])
  refine own_iloadN (pc' := 5) X31 hx (hb hby own_d6_4) rfl rfl ?_
  refine own_iloadN (pc' := 6) X31 hx (hb hby own_d6_5) rfl rfl ?_
  refine own_bipush (pc' := 8) (z := (8 : Int32)) X31 hx (hb hby own_d6_6) rfl rfl ?_
  refine own_iushr (pc' := 9) (z := (own_ushr pq (8 : Int32))) X31 hx (hb hby own_d6_8) rfl rfl ?_
  refine own_i2b (pc' := 10) (z := (own_b (own_ushr pq (8 : Int32)))) X31 hx (hb hby own_d6_9) rfl rfl ?_
  refine own_bastore (pc' := 11) X31 hx hZ e31 V0 (hb hby own_d6_10) rfl (by decide) 3 rfl (by simp) N0 gb ?_
  intro T32 h32 L32 X32 e32 N32 W32 V32
  rw [show nar .byte (own_b (own_ushr pq (8 : Int32))) = (own_b (own_ushr pq (8 : Int32))) from own_nb _] at V32
  replace V32 : Arv Z h32 b bk .byte (256 : Int32) [(.int x0), (.int x1), (.int x2), (.int (own_b (own_ushr pq (8 : Int32)))), (.int x4), (.int x5)] (.int (0 : Int32)) := V32
  show own_Ends prg e below s _ _ _ T32 (mkF m 11 #[.val (.ref a), .val (.int (3 : Int32)), .val (.int pq)] [])
  refine own_aloadN (pc' := 12) X32 hx (hb hby own_d6_11) rfl rfl rfl ?_
  have f33 := (FD.other W32 (Or.inl hne))
  obtain ⟨T34, X34, e34, st34⟩ := getF X32 hx hZ hown (host := "") (Or.inl (own_w11 hw)) Via.refl e32 f33 (g := (mkF m 12 #[.val (.ref a), .val (.int (3 : Int32)), .val (.int pq)] [(.ref a)])) rfl rfl (hb hby own_d6_12)
  refine own_go st34 ?_
  show own_Ends prg e below s _ _ _ T34 (mkF m 15 #[.val (.ref a), .val (.int (3 : Int32)), .val (.int pq)] [(.ref b)])
  refine own_iloadN (pc' := 16) X34 hx (hb hby own_d6_15) rfl rfl ?_
  refine own_iconst (pc' := 17) (z := (1 : Int32)) X34 hx (hb hby own_d6_16) rfl rfl ?_
  refine own_iadd (pc' := 18) (z := (4 : Int32)) X34 hx (hb hby own_d6_17) rfl (by decide) ?_
  refine own_iloadN (pc' := 19) X34 hx (hb hby own_d6_18) rfl rfl ?_
  refine own_i2b (pc' := 20) (z := (own_b pq)) X34 hx (hb hby own_d6_19) rfl rfl ?_
  refine own_bastore (pc' := 21) X34 hx hZ e34 V32 (hb hby own_d6_20) rfl (by decide) 4 rfl (by simp) N32 gb ?_
  intro T35 h35 L35 X35 e35 N35 W35 V35
  rw [show nar .byte (own_b pq) = (own_b pq) from own_nb _] at V35
  replace V35 : Arv Z h35 b bk .byte (256 : Int32) [(.int x0), (.int x1), (.int x2), (.int (own_b (own_ushr pq (8 : Int32)))), (.int (own_b pq)), (.int x5)] (.int (0 : Int32)) := V35
  show own_Ends prg e below s _ _ _ T35 (mkF m 21 #[.val (.ref a), .val (.int (3 : Int32)), .val (.int pq)] [])
  refine own_retV X35 hx hlk hret (hb hby own_d6_21) (by decide) (by decide) ?_
  have f36 := ((K0.wr W32 (Or.inl (List.mem_of_getElem? (i := 1) rfl))).wr W35 (Or.inl (List.mem_of_getElem? (i := 1) rfl)))
  have f37 := (f33.other W35 (Or.inl hne))
  have f38 := ((FL.other W32 (Or.inl hne)).other W35 (Or.inl hne))
  rw [e35]; exact ⟨rfl, N35, f36, f37, f38, V35⟩
def own_room6_4 : Room := { frames := 0, cells := 0, slots := 0, locals := 0 }
def own_Q6_4 (Z : State) (a : Addr) (pq : Int32) (b : Addr) (bk : ClassId) (x0 : Int32) (x1 : Int32) (x2 : Int32) (x3 : Int32) (x4 : Int32) (x5 : Int32) (h0 : Heap) (n0 : Nat) (v : Option Value) (h : Heap) (L : List Loc) : Prop := v = none ∧ Fr n0 L ∧ Keep h0 h [a, b] ∧ Fld Z h a "com/example/corbel/corbel/bytecode/Bytes" "data" "[B" (.ref b) ∧ Fld Z h a "com/example/corbel/corbel/bytecode/Bytes" "length" "I" (.int (6 : Int32)) ∧ Arv Z h b bk .byte (256 : Int32) [(.int x0), (.int x1), (.int x2), (.int x3), (.int (own_b (own_ushr pq (8 : Int32)))), (.int (own_b pq))] (.int (0 : Int32))
theorem own_ef_rm6_4 (m : MethodId) (x0 : Addr) (x1 : Int32) (x2 : Int32) : entryFrame m #[(.ref x0), (.int x1), (.int x2)] 3 = mkF m 0 #[.val (.ref x0), .val (.int x1), .val (.int x2)] [] := by first | (simp [entryFrame, mkF, argsToLocals, Value.category]; done) | rfl
set_option maxRecDepth 65536 in
set_option maxHeartbeats 40000000 in
theorem own_rm6_4 (lch : Launch) (Z : State) (a0 : Array Value) (hw : ∀ d ∈ tables_1, d.before a0 Z = true) (ws : List Jvm.Cond) (a : Addr) (pq : Int32) (b : Addr) (bk : ClassId) (x0 : Int32) (x1 : Int32) (x2 : Int32) (x3 : Int32) (x4 : Int32) (x5 : Int32) (h0 : Heap) (n0 : Nat) (E0 : Exa Z h0 a "com/example/corbel/corbel/bytecode/Bytes") (FD : Fld Z h0 a "com/example/corbel/corbel/bytecode/Bytes" "data" "[B" (.ref b)) (FL : Fld Z h0 a "com/example/corbel/corbel/bytecode/Bytes" "length" "I" (.int (6 : Int32))) (V0 : Arv Z h0 b bk .byte (256 : Int32) [(.int x0), (.int x1), (.int x2), (.int x3), (.int x4), (.int x5)] (.int (0 : Int32))) (ga : n0 ≤ a) (gb : n0 ≤ b) (hne : a ≠ b) :
    MetFree lch (⟨"com/example/corbel/corbel/bytecode/Bytes", "u2At", "(II)V"⟩ : MethodName) (head1 (Jvm.Cond.code (⟨"com/example/corbel/corbel/bytecode/Bytes", "u2At", "(II)V"⟩ : MethodName) prog_10_method_6_code 3 none :: ws) own_room6_4) (fun zz U => zz = #[(.ref a), (.int (4 : Int32)), (.int pq)] ∧ Z.Warmed39 U.vm ∧ U.heap = h0) (fun _ _ _ _ _ => True) (fun _ U o U' => ∃ v L, o = .returned v ∧ own_Q6_4 Z a pq b bk x0 x1 x2 x3 x4 x5 h0 n0 v U'.heap L ∧ FrameEnd U o U' L own_room6_4.cells own_room6_4.slots) := by
  refine MetFree.of_bodySF (plainFor_of_name own_pn0) hisR ?_
  intro prg e s m args below meth c s₁ Bd hml0 hP hK
  obtain ⟨rfl, hZ, hh⟩ := hP
  have hx := Bd.exec
  have hby := Bd.bytes
  have hml : c.maxLocals = 3 := hml0
  have hown : s.vm.findClass "com/example/corbel/corbel/bytecode/Bytes" = some m.cls := findClass_of_methodNamed Bd.named
  have hnm := (name_of_methodNamed Bd.named Bd.method).1
  have hlk : meth.locks = false := BodyLoose.notSynchronized Bd
  have hret := Bd.returns
  have X0 : Stand prg lch e own_room6_4 s m #[(.ref a), (.int (4 : Int32)), (.int pq)] below meth c s₁ [] 0 0 := Stand.of_body Bd
  have e0 : s₁.heap = h0 := by rw [← hh, Bd.state]; rfl
  have N0 := Fr.nil n0
  show own_Ends prg e below s (own_Q6_4 Z a pq b bk x0 x1 x2 x3 x4 x5 h0 n0) own_room6_4.cells own_room6_4.slots s₁ (entryFrame m #[(.ref a), (.int (4 : Int32)), (.int pq)] 3)
  refine own_cast (own_ef_rm6_4 m a (4 : Int32) pq) ?_
  have K0 := Keep.refl h0 ([a, b] : List Addr)
  refine own_aloadN (pc' := 1) X0 hx (hb hby own_d6_0) rfl rfl rfl ?_
  obtain ⟨T31, X31, e31, st31⟩ := getF X0 hx hZ hown (host := "") (Or.inl (own_w11 hw)) Via.refl e0 FD (g := (mkF m 1 #[.val (.ref a), .val (.int (4 : Int32)), .val (.int pq)] [(.ref a)])) rfl rfl (hb hby own_d6_1)
  refine own_go st31 ?_
  show own_Ends prg e below s _ _ _ T31 (mkF m 4 #[.val (.ref a), .val (.int (4 : Int32)), .val (.int pq)] [(.ref b)])
  refine own_iloadN (pc' := 5) X31 hx (hb hby own_d6_4) rfl rfl ?_
  refine own_iloadN (pc' := 6) X31 hx (hb hby own_d6_5) rfl rfl ?_
  refine own_bipush (pc' := 8) (z := (8 : Int32)) X31 hx (hb hby own_d6_6) rfl rfl ?_
  refine own_iushr (pc' := 9) (z := (own_ushr pq (8 : Int32))) X31 hx (hb hby own_d6_8) rfl rfl ?_
  refine own_i2b (pc' := 10) (z := (own_b (own_ushr pq (8 : Int32)))) X31 hx (hb hby own_d6_9) rfl rfl ?_
  refine own_bastore (pc' := 11) X31 hx hZ e31 V0 (hb hby own_d6_10) rfl (by decide) 4 rfl (by simp) N0 gb ?_
  intro T32 h32 L32 X32 e32 N32 W32 V32
  rw [show nar .byte (own_b (own_ushr pq (8 : Int32))) = (own_b (own_ushr pq (8 : Int32))) from own_nb _] at V32
  replace V32 : Arv Z h32 b bk .byte (256 : Int32) [(.int x0), (.int x1), (.int x2), (.int x3), (.int (own_b (own_ushr pq (8 : Int32)))), (.int x5)] (.int (0 : Int32)) := V32
  show own_Ends prg e below s _ _ _ T32 (mkF m 11 #[.val (.ref a), .val (.int (4 : Int32)), .val (.int pq)] [])
  refine own_aloadN (pc' := 12) X32 hx (hb hby own_d6_11) rfl rfl rfl ?_
  have f33 := (FD.other W32 (Or.inl hne))
  obtain ⟨T34, X34, e34, st34⟩ := getF X32 hx hZ hown (host := "") (Or.inl (own_w11 hw)) Via.refl e32 f33 (g := (mkF m 12 #[.val (.ref a), .val (.int (4 : Int32)), .val (.int pq)] [(.ref a)])) rfl rfl (hb hby own_d6_12)
  refine own_go st34 ?_
  show own_Ends prg e below s _ _ _ T34 (mkF m 15 #[.val (.ref a), .val (.int (4 : Int32)), .val (.int pq)] [(.ref b)])
  refine own_iloadN (pc' := 16) X34 hx (hb hby own_d6_15) rfl rfl ?_
  refine own_iconst (pc' := 17) (z := (1 : Int32)) X34 hx (hb hby own_d6_16) rfl rfl ?_
  refine own_iadd (pc' := 18) (z := (5 : Int32)) X34 hx (hb hby own_d6_17) rfl (by decide) ?_
  refine own_iloadN (pc' := 19) X34 hx (hb hby own_d6_18) rfl rfl ?_
  refine own_i2b (pc' := 20) (z := (own_b pq)) X34 hx (hb hby own_d6_19) rfl rfl ?_
  refine own_bastore (pc' := 21) X34 hx hZ e34 V32 (hb hby own_d6_20) rfl (by decide) 5 rfl (by simp) N32 gb ?_
  intro T35 h35 L35 X35 e35 N35 W35 V35
  rw [show nar .byte (own_b pq) = (own_b pq) from own_nb _] at V35
  replace V35 : Arv Z h35 b bk .byte (256 : Int32) [(.int x0), (.int x1), (.int x2), (.int x3), (.int (own_b (own_ushr pq (8 : Int32)))), (.int (own_b pq))] (.int (0 : Int32)) := V35
  show own_Ends prg e below s _ _ _ T35 (mkF m 21 #[.val (.ref a), .val (.int (4 : Int32)), .val (.int pq)] [])
  refine own_retV X35 hx hlk hret (hb hby own_d6_21) (by decide) (by decide) ?_
  have f36 := ((K0.wr W32 (Or.inl (List.mem_of_getElem? (i := 1) rfl))).wr W35 (Or.inl (List.mem_of_getElem? (i := 1) rfl)))
  have f37 := (f33.other W35 (Or.inl hne))
  have f38 := ((FL.other W32 (Or.inl hne)).other W35 (Or.inl hne))
  rw [e35]; exact ⟨rfl, N35, f36, f37, f38, V35⟩
def own_room1 : Room := { frames := 1, cells := 1, slots := 256, locals := 12 }
def own_Q1 (Z : State) (a : Addr) (u0 : Value) (h0 : Heap) (n0 : Nat) (v : Option Value) (h : Heap) (L : List Loc) : Prop := ∃ (b : Addr) (bk : ClassId), v = none ∧ Fr n0 L ∧ Keep h0 h [a] ∧ h0.size ≤ b ∧ Fld Z h a "com/example/corbel/corbel/bytecode/Bytes" "data" "[B" (.ref b) ∧ Fld Z h a "com/example/corbel/corbel/bytecode/Bytes" "length" "I" (.int (0 : Int32)) ∧ Arv Z h b bk .byte (256 : Int32) [(.int (0 : Int32)), (.int (0 : Int32)), (.int (0 : Int32)), (.int (0 : Int32)), (.int (0 : Int32)), (.int (0 : Int32))] (.int (0 : Int32))
theorem own_ef_rm1 (m : MethodId) (x0 : Addr) : entryFrame m #[(.ref x0)] 1 = mkF m 0 #[.val (.ref x0)] [] := by first | (simp [entryFrame, mkF, argsToLocals, Value.category]; done) | rfl
set_option maxRecDepth 65536 in
set_option maxHeartbeats 40000000 in
theorem own_rm1 (lch : Launch) (Z : State) (a0 : Array Value) (hw : ∀ d ∈ tables_1, d.before a0 Z = true) (ws : List Jvm.Cond) (a : Addr) (u0 : Value) (h0 : Heap) (n0 : Nat) (Z0 : n0 ≤ h0.size) (E0 : Exa Z h0 a "com/example/corbel/corbel/bytecode/Bytes") (FD : Fld Z h0 a "com/example/corbel/corbel/bytecode/Bytes" "data" "[B" u0) (FL : Fld Z h0 a "com/example/corbel/corbel/bytecode/Bytes" "length" "I" (.int (0 : Int32))) (ga : n0 ≤ a) :
    MetFree lch (⟨"com/example/corbel/corbel/bytecode/Bytes", "<init>", "()V"⟩ : MethodName) (head1 (Jvm.Cond.code (⟨"com/example/corbel/corbel/bytecode/Bytes", "<init>", "()V"⟩ : MethodName) prog_10_method_1_code 1 none :: ws) own_room1) (fun zz U => zz = #[(.ref a)] ∧ Z.Warmed39 U.vm ∧ U.heap = h0) (fun _ _ _ _ _ => True) (fun _ U o U' => ∃ v L, o = .returned v ∧ own_Q1 Z a u0 h0 n0 v U'.heap L ∧ FrameEnd U o U' L own_room1.cells own_room1.slots) := by
  refine MetFree.of_bodySF (plainFor_of_name own_pn0) hisR ?_
  intro prg e s m args below meth c s₁ Bd hml0 hP hK
  obtain ⟨rfl, hZ, hh⟩ := hP
  have hx := Bd.exec
  have hby := Bd.bytes
  have hml : c.maxLocals = 1 := hml0
  have hown : s.vm.findClass "com/example/corbel/corbel/bytecode/Bytes" = some m.cls := findClass_of_methodNamed Bd.named
  have hnm := (name_of_methodNamed Bd.named Bd.method).1
  have hlk : meth.locks = false := BodyLoose.notSynchronized Bd
  have hret := Bd.returns
  have X0 : Stand prg lch e own_room1 s m #[(.ref a)] below meth c s₁ [] 0 0 := Stand.of_body Bd
  have e0 : s₁.heap = h0 := by rw [← hh, Bd.state]; rfl
  have N0 := Fr.nil n0
  show own_Ends prg e below s (own_Q1 Z a u0 h0 n0) own_room1.cells own_room1.slots s₁ (entryFrame m #[(.ref a)] 1)
  refine own_cast (own_ef_rm1 m a) ?_
  have K0 := Keep.refl h0 ([a] : List Addr)
  refine own_aloadN (pc' := 1) X0 hx (hb hby own_d1_0) rfl rfl rfl ?_
  obtain ⟨T31, X31, e31, st31⟩ := initO X0 hx hZ hown (own_w7 hw) (own_w8 hw) (own_w9 hw) e0 (g := (mkF m 1 #[.val (.ref a)] [(.ref a)])) rfl (by rw [hml]; rfl) rfl (hb hby own_d1_1) (by decide) (W := 0) (by show 2 * 0 + _ ≤ _; exact Nat.le_of_eq rfl) (by decide)
  refine own_go st31 ?_
  show own_Ends prg e below s _ _ _ T31 (mkF m 4 #[.val (.ref a)] [])
  refine own_aloadN (pc' := 5) X31 hx (hb hby own_d1_4) rfl rfl rfl ?_
  refine own_sipush (pc' := 8) (z := (256 : Int32)) X31 hx (hb hby own_d1_5) rfl rfl ?_
  refine own_newarr (pc' := 10) (aty := .byte) X31 hx hZ (own_w10 hw) e31 (hb hby own_d1_8) rfl (by decide) 256 6 (by decide) (by decide) (by decide) (by decide) ?_
  intro T32 h32 a32 k32 X32 e32 E32 g32 V32
  replace V32 : Arv Z h32 a32 k32 .byte (256 : Int32) [(.int (0 : Int32)), (.int (0 : Int32)), (.int (0 : Int32)), (.int (0 : Int32)), (.int (0 : Int32)), (.int (0 : Int32))] (.int (0 : Int32)) := V32
  have ge33 : n0 ≤ a32 := by rw [g32]; exact Z0
  have sz34 : h0.size ≤ a32 := by rw [g32]; exact K0.1
  have ne35 : a ≠ a32 := Nat.ne_of_lt (by rw [g32]; exact E0.lt)
  show own_Ends prg e below s _ _ _ T32 (mkF m 10 #[.val (.ref a)] [(.ref a32), (.ref a)])
  have f36 := (FD.ext E32)
  have f37 := (E0.ext E32)
  obtain ⟨T38, h38, X38, e38, W38, st38⟩ := putF X32 hx hZ hown (host := "") (Or.inl (own_w11 hw)) Via.refl e32 f36 f37 (Or.inl (own_w12 hw)) (own_w2 hw) (ty := (.array .byte)) (by decide) rfl rfl (g := (mkF m 10 #[.val (.ref a)] [(.ref a32), (.ref a)])) rfl rfl (hb hby own_d1_10)
  refine own_go st38 ?_
  have Fw38 := f36.same W38
  have N38 := Fr.snoc X38 N0 ga
  show own_Ends prg e below s _ _ _ T38 (mkF m 13 #[.val (.ref a)] [])
  refine own_retV X38 hx hlk hret (hb hby own_d1_13) (by decide) (by decide) ?_
  have f39 := ((K0.ext E32).wr W38 (Or.inl (List.mem_of_getElem? (i := 0) rfl)))
  have f40 := ((FL.ext E32).other W38 (Or.inr (slot_ne (Or.inl (own_w29 hw)) (Or.inl (own_w12 hw)) (by decide) (t := .int) (t' := (.array .byte)) (by decide) (by decide))))
  have f41 := (V32.other W38 (Ne.symm ne35))
  rw [e38]; exact ⟨_, _, rfl, N38, f39, sz34, Fw38, f40, f41⟩
def own_room7 : Room := { frames := 0, cells := 0, slots := 0, locals := 0 }
def own_Q7 (Z : State) (a : Addr) (h0 : Heap) (n0 : Nat) (v : Option Value) (h : Heap) (L : List Loc) : Prop := v = some (.int 6) ∧ Fr n0 L ∧ h = h0
theorem own_ef_rm7 (m : MethodId) (x0 : Addr) : entryFrame m #[(.ref x0)] 1 = mkF m 0 #[.val (.ref x0)] [] := by first | (simp [entryFrame, mkF, argsToLocals, Value.category]; done) | rfl
set_option maxRecDepth 65536 in
set_option maxHeartbeats 40000000 in
theorem own_rm7 (lch : Launch) (Z : State) (a0 : Array Value) (hw : ∀ d ∈ tables_1, d.before a0 Z = true) (ws : List Jvm.Cond) (a : Addr) (h0 : Heap) (n0 : Nat) (FL : Fld Z h0 a "com/example/corbel/corbel/bytecode/Bytes" "length" "I" (.int (6 : Int32))) :
    MetFree lch (⟨"com/example/corbel/corbel/bytecode/Bytes", "length", "()I"⟩ : MethodName) (head1 (Jvm.Cond.code (⟨"com/example/corbel/corbel/bytecode/Bytes", "length", "()I"⟩ : MethodName) prog_10_method_2_code 1 (some .int) :: ws) own_room7) (fun zz U => zz = #[(.ref a)] ∧ Z.Warmed39 U.vm ∧ U.heap = h0) (fun _ _ _ _ _ => True) (fun _ U o U' => ∃ v L, o = .returned v ∧ own_Q7 Z a h0 n0 v U'.heap L ∧ FrameEnd U o U' L own_room7.cells own_room7.slots) := by
  refine MetFree.of_bodySF (plainFor_of_name own_pn0) hisR ?_
  intro prg e s m args below meth c s₁ Bd hml0 hP hK
  obtain ⟨rfl, hZ, hh⟩ := hP
  have hx := Bd.exec
  have hby := Bd.bytes
  have hml : c.maxLocals = 1 := hml0
  have hown : s.vm.findClass "com/example/corbel/corbel/bytecode/Bytes" = some m.cls := findClass_of_methodNamed Bd.named
  have hnm := (name_of_methodNamed Bd.named Bd.method).1
  have hlk : meth.locks = false := BodyLoose.notSynchronized Bd
  have hret := Bd.returns
  have X0 : Stand prg lch e own_room7 s m #[(.ref a)] below meth c s₁ [] 0 0 := Stand.of_body Bd
  have e0 : s₁.heap = h0 := by rw [← hh, Bd.state]; rfl
  have N0 := Fr.nil n0
  show own_Ends prg e below s (own_Q7 Z a h0 n0) own_room7.cells own_room7.slots s₁ (entryFrame m #[(.ref a)] 1)
  refine own_cast (own_ef_rm7 m a) ?_
  refine own_aloadN (pc' := 1) X0 hx (hb hby own_d7_0) rfl rfl rfl ?_
  obtain ⟨T31, X31, e31, st31⟩ := getF X0 hx hZ hown (host := "") (Or.inl (own_w28 hw)) Via.refl e0 FL (g := (mkF m 1 #[.val (.ref a)] [(.ref a)])) rfl rfl (hb hby own_d7_1)
  refine own_go st31 ?_
  show own_Ends prg e below s _ _ _ T31 (mkF m 4 #[.val (.ref a)] [(.int (6 : Int32))])
  refine own_retI X31 hx hlk hret (hb hby own_d7_4) (by decide) (by decide) ?_
  exact ⟨rfl, N0, e31⟩
def own_room10 : Room := { frames := 0, cells := 0, slots := 0, locals := 0 }
def own_Q10 (Z : State)  (h0 : Heap) (n0 : Nat) (v : Option Value) (h : Heap) (L : List Loc) : Prop := v = some (.int 6) ∧ Fr n0 L ∧ h = h0
theorem own_ef_rm10 (m : MethodId) (x0 : Int32) (x1 : Int32) : entryFrame m #[(.int x0), (.int x1)] 2 = mkF m 0 #[.val (.int x0), .val (.int x1)] [] := by first | (simp [entryFrame, mkF, argsToLocals, Value.category]; done) | rfl
set_option maxRecDepth 65536 in
set_option maxHeartbeats 40000000 in
theorem own_rm10 (lch : Launch) (Z : State) (a0 : Array Value) (hw : ∀ d ∈ tables_1, d.before a0 Z = true) (ws : List Jvm.Cond)  (h0 : Heap) (n0 : Nat) :
    MetFree lch (⟨"java/lang/Math", "min", "(II)I"⟩ : MethodName) (head1 (Jvm.Cond.code (⟨"java/lang/Math", "min", "(II)I"⟩ : MethodName) jdk_29_method_69_code 2 (some .int) :: ws) own_room10) (fun zz U => zz = #[(.int (256 : Int32)), (.int (6 : Int32))] ∧ Z.Warmed39 U.vm ∧ U.heap = h0) (fun _ _ _ _ _ => True) (fun _ U o U' => ∃ v L, o = .returned v ∧ own_Q10 Z  h0 n0 v U'.heap L ∧ FrameEnd U o U' L own_room10.cells own_room10.slots) := by
  refine MetFree.of_bodySF (Jvm.Free.JP.mathPlain rfl (by decide +kernel)) hisR ?_
  intro prg e s m args below meth c s₁ Bd hml0 hP hK
  obtain ⟨rfl, hZ, hh⟩ := hP
  have hx := Bd.exec
  have hby := Bd.bytes
  have hml : c.maxLocals = 2 := hml0
  have hown : s.vm.findClass "java/lang/Math" = some m.cls := findClass_of_methodNamed Bd.named
  have hnm := (name_of_methodNamed Bd.named Bd.method).1
  have hlk : meth.locks = false := BodyLoose.notSynchronized Bd
  have hret := Bd.returns
  have X0 : Stand prg lch e own_room10 s m #[(.int (256 : Int32)), (.int (6 : Int32))] below meth c s₁ [] 0 0 := Stand.of_body Bd
  have e0 : s₁.heap = h0 := by rw [← hh, Bd.state]; rfl
  have N0 := Fr.nil n0
  show own_Ends prg e below s (own_Q10 Z  h0 n0) own_room10.cells own_room10.slots s₁ (entryFrame m #[(.int (256 : Int32)), (.int (6 : Int32))] 2)
  refine own_cast (own_ef_rm10 m (256 : Int32) (6 : Int32)) ?_
  refine own_iloadN (pc' := 1) X0 hx (hb hby own_d10_0) rfl rfl ?_
  refine own_iloadN (pc' := 2) X0 hx (hb hby own_d10_1) rfl rfl ?_
  refine own_icmpYes (pc' := 9) X0 hx (hb hby own_d10_2) (tlt (by decide)).2.2.1 (by decide) (by decide) ?_
  refine own_iloadN (pc' := 10) X0 hx (hb hby own_d10_9) rfl rfl ?_
  refine own_retI X0 hx hlk hret (hb hby own_d10_10) (by decide) (by decide) ?_
  exact ⟨rfl, N0, e0⟩
def own_room9 : Room := { frames := 1, cells := 1, slots := 6, locals := 18 }
def own_Q9 (Z : State) (b : Addr) (bk : ClassId) (x0 : Int32) (x1 : Int32) (x2 : Int32) (x3 : Int32) (x4 : Int32) (x5 : Int32) (h0 : Heap) (n0 : Nat) (v : Option Value) (h : Heap) (L : List Loc) : Prop := ∃ (ra : Addr) (rk : ClassId), v = some (.ref ra) ∧ Fr n0 L ∧ Keep h0 h [] ∧ h0.size ≤ ra ∧ Arv Z h ra rk .byte (6 : Int32) [(.int x0), (.int x1), (.int x2), (.int x3), (.int x4), (.int x5)] (.int (0 : Int32))
theorem own_ef_rm9 (m : MethodId) (x0 : Addr) (x1 : Int32) : entryFrame m #[(.ref x0), (.int x1)] 3 = mkF m 0 #[.val (.ref x0), .val (.int x1), .unset] [] := by first | (simp [entryFrame, mkF, argsToLocals, Value.category]; done) | rfl
set_option maxRecDepth 65536 in
set_option maxHeartbeats 40000000 in
theorem own_rm9 (lch : Launch) (Z : State) (a0 : Array Value) (hw : ∀ d ∈ tables_1, d.before a0 Z = true) (ws : List Jvm.Cond) (b : Addr) (bk : ClassId) (x0 : Int32) (x1 : Int32) (x2 : Int32) (x3 : Int32) (x4 : Int32) (x5 : Int32) (h0 : Heap) (n0 : Nat) (Z0 : n0 ≤ h0.size) (V0 : Arv Z h0 b bk .byte (256 : Int32) [(.int x0), (.int x1), (.int x2), (.int x3), (.int x4), (.int x5)] (.int (0 : Int32))) :
    MetFree lch (⟨"java/util/Arrays", "copyOf", "([BI)[B"⟩ : MethodName) (head1 (Jvm.Cond.code (⟨"java/util/Arrays", "copyOf", "([BI)[B"⟩ : MethodName) jdk_65_method_121_code 3 (some (.array .byte)) :: ws) own_room9) (fun zz U => zz = #[(.ref b), (.int (6 : Int32))] ∧ Z.Warmed39 U.vm ∧ U.heap = h0) (fun _ _ _ _ _ => True) (fun _ U o U' => ∃ v L, o = .returned v ∧ own_Q9 Z b bk x0 x1 x2 x3 x4 x5 h0 n0 v U'.heap L ∧ FrameEnd U o U' L own_room9.cells own_room9.slots) := by
  refine MetFree.of_bodySF (plainFor_of_name own_pn1) hisR ?_
  intro prg e s m args below meth c s₁ Bd hml0 hP hK
  obtain ⟨rfl, hZ, hh⟩ := hP
  have hx := Bd.exec
  have hby := Bd.bytes
  have hml : c.maxLocals = 3 := hml0
  have hown : s.vm.findClass "java/util/Arrays" = some m.cls := findClass_of_methodNamed Bd.named
  have hnm := (name_of_methodNamed Bd.named Bd.method).1
  have hlk : meth.locks = false := BodyLoose.notSynchronized Bd
  have hret := Bd.returns
  have X0 : Stand prg lch e own_room9 s m #[(.ref b), (.int (6 : Int32))] below meth c s₁ [] 0 0 := Stand.of_body Bd
  have e0 : s₁.heap = h0 := by rw [← hh, Bd.state]; rfl
  have N0 := Fr.nil n0
  show own_Ends prg e below s (own_Q9 Z b bk x0 x1 x2 x3 x4 x5 h0 n0) own_room9.cells own_room9.slots s₁ (entryFrame m #[(.ref b), (.int (6 : Int32))] 3)
  refine own_cast (own_ef_rm9 m b (6 : Int32)) ?_
  have K0 := Keep.refl h0 ([] : List Addr)
  refine own_iloadN (pc' := 1) X0 hx (hb hby own_d9_0) rfl rfl ?_
  refine own_aloadN (pc' := 2) X0 hx (hb hby own_d9_1) rfl rfl rfl ?_
  refine own_alen (pc' := 3) X0 hx hZ e0 V0 (hb hby own_d9_2) rfl ?_
  refine own_icmpYes (pc' := 14) X0 hx (hb hby own_d9_3) (feq (by decide)).2 (by decide) (by decide) ?_
  refine own_iloadN (pc' := 15) X0 hx (hb hby own_d9_14) rfl rfl ?_
  refine own_newarr (pc' := 17) (aty := .byte) X0 hx hZ (own_w10 hw) e0 (hb hby own_d9_15) rfl (by decide) 6 6 (by decide) (by decide) (by decide) (by decide) ?_
  intro T31 h31 a31 k31 X31 e31 E31 g31 V31
  replace V31 : Arv Z h31 a31 k31 .byte (6 : Int32) [(.int (0 : Int32)), (.int (0 : Int32)), (.int (0 : Int32)), (.int (0 : Int32)), (.int (0 : Int32)), (.int (0 : Int32))] (.int (0 : Int32)) := V31
  have ge32 : n0 ≤ a31 := by rw [g31]; exact Z0
  have sz33 : h0.size ≤ a31 := by rw [g31]; exact K0.1
  have ne34 : b ≠ a31 := Nat.ne_of_lt (by rw [g31]; exact V0.lt)
  show own_Ends prg e below s _ _ _ T31 (mkF m 17 #[.val (.ref b), .val (.int (6 : Int32)), .unset] [(.ref a31)])
  refine own_astoreN (pc' := 18) (l' := #[.val (.ref b), .val (.int (6 : Int32)), .val (.ref a31)]) X31 hx (hb hby own_d9_17) rfl rfl rfl ?_
  refine own_aloadN (pc' := 19) X31 hx (hb hby own_d9_18) rfl rfl rfl ?_
  refine own_iconst (pc' := 20) (z := (0 : Int32)) X31 hx (hb hby own_d9_19) rfl rfl ?_
  refine own_aloadN (pc' := 21) X31 hx (hb hby own_d9_20) rfl rfl rfl ?_
  refine own_iconst (pc' := 22) (z := (0 : Int32)) X31 hx (hb hby own_d9_21) rfl rfl ?_
  refine own_aloadN (pc' := 23) X31 hx (hb hby own_d9_22) rfl rfl rfl ?_
  have f35 := (V0.ext E31)
  refine own_alen (pc' := 24) X31 hx hZ e31 f35 (hb hby own_d9_23) rfl ?_
  refine own_iloadN (pc' := 25) X31 hx (hb hby own_d9_24) rfl rfl ?_
  refine own_callS (pc' := 28) (y := (⟨"java/lang/Math", "min", "(II)I"⟩ : MethodName)) (W := 4) (rm := own_room10) (argsL := [(.int (256 : Int32)), (.int (6 : Int32))]) (rest := [(.int (0 : Int32)), (.ref a31), (.int (0 : Int32)), (.ref b)]) X31 hx hZ e31 hown (by rw [hml]; rfl) (own_w50 hw) (own_w51 hw) (own_w52 hw) (own_w53 hw) (by decide) (own_rm10 lch Z a0 hw [] h31 n0) (by decide) (by decide) (by decide) (by decide) (lenOf own_pd1 rfl) rfl (by exact Nat.le_of_eq rfl) (hb hby own_d9_25) rfl ?_
  intro T36 Lc36 v36 X36 hQ36
  obtain ⟨rfl, Nq36, Kq36⟩ := hQ36
  have N36 := Fr.app N0 Nq36
  show own_Ends prg e below s _ _ _ T36 (mkF m 28 #[.val (.ref b), .val (.int (6 : Int32)), .val (.ref a31)] [(.int (6 : Int32)), (.int (0 : Int32)), (.ref a31), (.int (0 : Int32)), (.ref b)])
  obtain ⟨T37, h37, L37, X37, e37, N37, Kc37, V37, st37⟩ := cpA X36 hx hZ hown (own_w54 hw) (own_w57 hw) (own_w55 hw) (own_w56 hw) Kq36 f35 V31 (us := [(.int x0), (.int x1), (.int x2), (.int x3), (.int x4), (.int x5)]) (Or.inl ⟨rfl, rfl⟩) (sp := (0 : Int32)) (dp := (0 : Int32)) (nn := (6 : Int32)) (by decide) (by decide) (by decide) (by decide) (by decide) rfl (by decide) N36 ge32 (g := (mkF m 28 #[.val (.ref b), .val (.int (6 : Int32)), .val (.ref a31)] [(.int (6 : Int32)), (.int (0 : Int32)), (.ref a31), (.int (0 : Int32)), (.ref b)])) rfl (by rw [hml]; rfl) (rest := []) rfl (hb hby own_d9_28) (by decide) (W := 0) (by exact Nat.le_of_eq rfl) (by decide)
  refine own_go st37 ?_
  replace V37 : Arv Z h37 a31 k31 .byte (6 : Int32) [(.int x0), (.int x1), (.int x2), (.int x3), (.int x4), (.int x5)] (.int (0 : Int32)) := V37
  show own_Ends prg e below s _ _ _ T37 (mkF m 31 #[.val (.ref b), .val (.int (6 : Int32)), .val (.ref a31)] [])
  refine own_aloadN (pc' := 32) X37 hx (hb hby own_d9_31) rfl rfl rfl ?_
  refine own_retA X37 hx hlk hret rfl rfl rfl (hb hby own_d9_32) (by decide) (by decide) ?_
  have f38 := ((K0.ext E31).trans Kc37 (allS (Or.inr sz33) all0))
  rw [e37]; exact ⟨_, _, rfl, N37, f38, sz33, V37⟩
def own_room8 : Room := { frames := 2, cells := 1, slots := 6, locals := 32 }
def own_Q8 (Z : State) (a : Addr) (b : Addr) (bk : ClassId) (x0 : Int32) (x1 : Int32) (x2 : Int32) (x3 : Int32) (x4 : Int32) (x5 : Int32) (h0 : Heap) (n0 : Nat) (v : Option Value) (h : Heap) (L : List Loc) : Prop := ∃ (ra : Addr) (rk : ClassId), v = some (.ref ra) ∧ Fr n0 L ∧ Keep h0 h [] ∧ h0.size ≤ ra ∧ Arv Z h ra rk .byte (6 : Int32) [(.int x0), (.int x1), (.int x2), (.int x3), (.int x4), (.int x5)] (.int (0 : Int32))
theorem own_ef_rm8 (m : MethodId) (x0 : Addr) : entryFrame m #[(.ref x0)] 1 = mkF m 0 #[.val (.ref x0)] [] := by first | (simp [entryFrame, mkF, argsToLocals, Value.category]; done) | rfl
set_option maxRecDepth 65536 in
set_option maxHeartbeats 40000000 in
theorem own_rm8 (lch : Launch) (Z : State) (a0 : Array Value) (hw : ∀ d ∈ tables_1, d.before a0 Z = true) (ws : List Jvm.Cond) (a : Addr) (b : Addr) (bk : ClassId) (x0 : Int32) (x1 : Int32) (x2 : Int32) (x3 : Int32) (x4 : Int32) (x5 : Int32) (h0 : Heap) (n0 : Nat) (Z0 : n0 ≤ h0.size) (E0 : Exa Z h0 a "com/example/corbel/corbel/bytecode/Bytes") (FD : Fld Z h0 a "com/example/corbel/corbel/bytecode/Bytes" "data" "[B" (.ref b)) (FL : Fld Z h0 a "com/example/corbel/corbel/bytecode/Bytes" "length" "I" (.int (6 : Int32))) (V0 : Arv Z h0 b bk .byte (256 : Int32) [(.int x0), (.int x1), (.int x2), (.int x3), (.int x4), (.int x5)] (.int (0 : Int32))) (ga : n0 ≤ a) (gb : n0 ≤ b) (hne : a ≠ b) :
    MetFree lch (⟨"com/example/corbel/corbel/bytecode/Bytes", "toArray", "()[B"⟩ : MethodName) (head1 (Jvm.Cond.code (⟨"com/example/corbel/corbel/bytecode/Bytes", "toArray", "()[B"⟩ : MethodName) prog_10_method_9_code 1 (some (.array .byte)) :: ws) own_room8) (fun zz U => zz = #[(.ref a)] ∧ Z.Warmed39 U.vm ∧ U.heap = h0) (fun _ _ _ _ _ => True) (fun _ U o U' => ∃ v L, o = .returned v ∧ own_Q8 Z a b bk x0 x1 x2 x3 x4 x5 h0 n0 v U'.heap L ∧ FrameEnd U o U' L own_room8.cells own_room8.slots) := by
  refine MetFree.of_bodySF (plainFor_of_name own_pn0) hisR ?_
  intro prg e s m args below meth c s₁ Bd hml0 hP hK
  obtain ⟨rfl, hZ, hh⟩ := hP
  have hx := Bd.exec
  have hby := Bd.bytes
  have hml : c.maxLocals = 1 := hml0
  have hown : s.vm.findClass "com/example/corbel/corbel/bytecode/Bytes" = some m.cls := findClass_of_methodNamed Bd.named
  have hnm := (name_of_methodNamed Bd.named Bd.method).1
  have hlk : meth.locks = false := BodyLoose.notSynchronized Bd
  have hret := Bd.returns
  have X0 : Stand prg lch e own_room8 s m #[(.ref a)] below meth c s₁ [] 0 0 := Stand.of_body Bd
  have e0 : s₁.heap = h0 := by rw [← hh, Bd.state]; rfl
  have N0 := Fr.nil n0
  show own_Ends prg e below s (own_Q8 Z a b bk x0 x1 x2 x3 x4 x5 h0 n0) own_room8.cells own_room8.slots s₁ (entryFrame m #[(.ref a)] 1)
  refine own_cast (own_ef_rm8 m a) ?_
  have K0 := Keep.refl h0 ([] : List Addr)
  refine own_aloadN (pc' := 1) X0 hx (hb hby own_d8_0) rfl rfl rfl ?_
  obtain ⟨T31, X31, e31, st31⟩ := getF X0 hx hZ hown (host := "") (Or.inl (own_w11 hw)) Via.refl e0 FD (g := (mkF m 1 #[.val (.ref a)] [(.ref a)])) rfl rfl (hb hby own_d8_1)
  refine own_go st31 ?_
  show own_Ends prg e below s _ _ _ T31 (mkF m 4 #[.val (.ref a)] [(.ref b)])
  refine own_aloadN (pc' := 5) X31 hx (hb hby own_d8_4) rfl rfl rfl ?_
  obtain ⟨T32, X32, e32, st32⟩ := getF X31 hx hZ hown (host := "") (Or.inl (own_w28 hw)) Via.refl e31 FL (g := (mkF m 5 #[.val (.ref a)] [(.ref a), (.ref b)])) rfl rfl (hb hby own_d8_5)
  refine own_go st32 ?_
  show own_Ends prg e below s _ _ _ T32 (mkF m 8 #[.val (.ref a)] [(.int (6 : Int32)), (.ref b)])
  refine own_callS (pc' := 11) (y := (⟨"java/util/Arrays", "copyOf", "([BI)[B"⟩ : MethodName)) (W := 0) (rm := own_room9) (argsL := [(.ref b), (.int (6 : Int32))]) (rest := []) X32 hx hZ e32 hown (by rw [hml]; rfl) (own_w46 hw) (own_w47 hw) (own_w48 hw) (own_w49 hw) (by decide) (own_rm9 lch Z a0 hw [] b bk x0 x1 x2 x3 x4 x5 h0 n0 Z0 V0) (by decide) (by decide) (by decide) (by decide) (lenOf own_pd2 rfl) rfl (by exact Nat.le_of_eq rfl) (hb hby own_d8_8) rfl ?_
  intro T33 Lc33 v33 X33 hQ33
  obtain ⟨ra33, rk33, rfl, Nq33, Kq33, G33_0, G33_1⟩ := hQ33
  have N33 := Fr.app N0 Nq33
  have ge34 : n0 ≤ ra33 := Nat.le_trans Z0 G33_0
  have sz35 : h0.size ≤ ra33 := Nat.le_trans K0.1 G33_0
  have ne36 : a ≠ ra33 := Nat.ne_of_lt (Nat.lt_of_lt_of_le E0.lt G33_0)
  have ne37 : b ≠ ra33 := Nat.ne_of_lt (Nat.lt_of_lt_of_le V0.lt G33_0)
  show own_Ends prg e below s _ _ _ T33 (mkF m 11 #[.val (.ref a)] [(.ref ra33)])
  refine own_retA X33 hx hlk hret rfl rfl rfl (hb hby own_d8_11) (by decide) (by decide) ?_
  have f38 := (K0.trans Kq33 all0)
  exact ⟨_, _, rfl, N33, f38, sz35, G33_1⟩
def own_room12 : Room := { frames := 0, cells := 0, slots := 0, locals := 0 }
def own_Q12 (Z : State) (p0 : Int32) (p1 : Int32) (p2 : Int32) (h0 : Heap) (n0 : Nat) (v : Option Value) (h : Heap) (L : List Loc) : Prop := v = some (.int (own_orig p0 p1 p2)) ∧ Fr n0 L ∧ h = h0
theorem own_ef_rm12 (m : MethodId) (x0 : Int32) (x1 : Int32) (x2 : Int32) : entryFrame m #[(.int x0), (.int x1), (.int x2)] 3 = mkF m 0 #[.val (.int x0), .val (.int x1), .val (.int x2)] [] := by first | (simp [entryFrame, mkF, argsToLocals, Value.category]; done) | rfl
set_option maxRecDepth 65536 in
set_option maxHeartbeats 40000000 in
theorem own_rm12 (lch : Launch) (Z : State) (a0 : Array Value) (hw : ∀ d ∈ tables_1, d.before a0 Z = true) (ws : List Jvm.Cond) (p0 : Int32) (p1 : Int32) (p2 : Int32) (h0 : Heap) (n0 : Nat) :
    MetFree lch (⟨"com/example/corbel/corbel/bytecode/BytesU2AtPinLaw", "orig", "(III)B"⟩ : MethodName) (head1 (Jvm.Cond.code (⟨"com/example/corbel/corbel/bytecode/BytesU2AtPinLaw", "orig", "(III)B"⟩ : MethodName) method_2_code 3 (some .byte) :: ws) own_room12) (fun zz U => zz = #[(.int p0), (.int p1), (.int p2)] ∧ Z.Warmed39 U.vm ∧ U.heap = h0) (fun _ _ _ _ _ => True) (fun _ U o U' => ∃ v L, o = .returned v ∧ own_Q12 Z p0 p1 p2 h0 n0 v U'.heap L ∧ FrameEnd U o U' L own_room12.cells own_room12.slots) := by
  refine MetFree.of_bodySF (plainFor_of_name own_pn2) hisR ?_
  intro prg e s m args below meth c s₁ Bd hml0 hP hK
  obtain ⟨rfl, hZ, hh⟩ := hP
  have hx := Bd.exec
  have hby := Bd.bytes
  have hml : c.maxLocals = 3 := hml0
  have hown : s.vm.findClass "com/example/corbel/corbel/bytecode/BytesU2AtPinLaw" = some m.cls := findClass_of_methodNamed Bd.named
  have hnm := (name_of_methodNamed Bd.named Bd.method).1
  have hlk : meth.locks = false := BodyLoose.notSynchronized Bd
  have hret := Bd.returns
  have X0 : Stand prg lch e own_room12 s m #[(.int p0), (.int p1), (.int p2)] below meth c s₁ [] 0 0 := Stand.of_body Bd
  have e0 : s₁.heap = h0 := by rw [← hh, Bd.state]; rfl
  have N0 := Fr.nil n0
  show own_Ends prg e below s (own_Q12 Z p0 p1 p2 h0 n0) own_room12.cells own_room12.slots s₁ (entryFrame m #[(.int p0), (.int p1), (.int p2)] 3)
  refine own_cast (own_ef_rm12 m p0 p1 p2) ?_
  refine own_iloadN (pc' := 1) X0 hx (hb hby own_d12_0) rfl rfl ?_
  by_cases hc1_31 : p0 = (0 : Int32)
  · refine own_ifNo (pc' := 4) X0 hx (hb hby own_d12_1) rfl (teq hc1_31).2 ?_
    refine own_iloadN (pc' := 5) X0 hx (hb hby own_d12_4) rfl rfl ?_
    refine own_bipush (pc' := 7) (z := (24 : Int32)) X0 hx (hb hby own_d12_5) rfl rfl ?_
    refine own_iushr (pc' := 8) (z := (own_ushr p1 (24 : Int32))) X0 hx (hb hby own_d12_7) rfl rfl ?_
    refine own_i2b (pc' := 9) (z := (own_b (own_ushr p1 (24 : Int32)))) X0 hx (hb hby own_d12_8) rfl rfl ?_
    refine own_retN X0 hx hlk hret (by simp) (hb hby own_d12_9) (by decide) (by decide) ?_
    exact ⟨own_some (by rw [own_nb]; simp [own_orig, hc1_31]), N0, e0⟩
  · refine own_ifYes (pc' := 10) X0 hx (hb hby own_d12_1) (feq hc1_31).2 (by decide) (by decide) ?_
    refine own_iloadN (pc' := 11) X0 hx (hb hby own_d12_10) rfl rfl ?_
    refine own_iconst (pc' := 12) (z := (1 : Int32)) X0 hx (hb hby own_d12_11) rfl rfl ?_
    by_cases hc12_32 : p0 = (1 : Int32)
    · refine own_icmpNo (pc' := 15) X0 hx (hb hby own_d12_12) rfl (teq hc12_32).2 ?_
      refine own_iloadN (pc' := 16) X0 hx (hb hby own_d12_15) rfl rfl ?_
      refine own_bipush (pc' := 18) (z := (16 : Int32)) X0 hx (hb hby own_d12_16) rfl rfl ?_
      refine own_iushr (pc' := 19) (z := (own_ushr p1 (16 : Int32))) X0 hx (hb hby own_d12_18) rfl rfl ?_
      refine own_i2b (pc' := 20) (z := (own_b (own_ushr p1 (16 : Int32)))) X0 hx (hb hby own_d12_19) rfl rfl ?_
      refine own_retN X0 hx hlk hret (by simp) (hb hby own_d12_20) (by decide) (by decide) ?_
      exact ⟨own_some (by rw [own_nb]; simp [own_orig, hc1_31, hc12_32]), N0, e0⟩
    · refine own_icmpYes (pc' := 21) X0 hx (hb hby own_d12_12) (feq hc12_32).2 (by decide) (by decide) ?_
      refine own_iloadN (pc' := 22) X0 hx (hb hby own_d12_21) rfl rfl ?_
      refine own_iconst (pc' := 23) (z := (2 : Int32)) X0 hx (hb hby own_d12_22) rfl rfl ?_
      by_cases hc23_33 : p0 = (2 : Int32)
      · refine own_icmpNo (pc' := 26) X0 hx (hb hby own_d12_23) rfl (teq hc23_33).2 ?_
        refine own_iloadN (pc' := 27) X0 hx (hb hby own_d12_26) rfl rfl ?_
        refine own_bipush (pc' := 29) (z := (8 : Int32)) X0 hx (hb hby own_d12_27) rfl rfl ?_
        refine own_iushr (pc' := 30) (z := (own_ushr p1 (8 : Int32))) X0 hx (hb hby own_d12_29) rfl rfl ?_
        refine own_i2b (pc' := 31) (z := (own_b (own_ushr p1 (8 : Int32)))) X0 hx (hb hby own_d12_30) rfl rfl ?_
        refine own_retN X0 hx hlk hret (by simp) (hb hby own_d12_31) (by decide) (by decide) ?_
        exact ⟨own_some (by rw [own_nb]; simp [own_orig, hc1_31, hc12_32, hc23_33]), N0, e0⟩
      · refine own_icmpYes (pc' := 32) X0 hx (hb hby own_d12_23) (feq hc23_33).2 (by decide) (by decide) ?_
        refine own_iloadN (pc' := 33) X0 hx (hb hby own_d12_32) rfl rfl ?_
        refine own_iconst (pc' := 34) (z := (3 : Int32)) X0 hx (hb hby own_d12_33) rfl rfl ?_
        by_cases hc34_34 : p0 = (3 : Int32)
        · refine own_icmpNo (pc' := 37) X0 hx (hb hby own_d12_34) rfl (teq hc34_34).2 ?_
          refine own_iloadN (pc' := 38) X0 hx (hb hby own_d12_37) rfl rfl ?_
          refine own_i2b (pc' := 39) (z := (own_b p1)) X0 hx (hb hby own_d12_38) rfl rfl ?_
          refine own_retN X0 hx hlk hret (by simp) (hb hby own_d12_39) (by decide) (by decide) ?_
          exact ⟨own_some (by rw [own_nb]; simp [own_orig, hc1_31, hc12_32, hc23_33, hc34_34]), N0, e0⟩
        · refine own_icmpYes (pc' := 40) X0 hx (hb hby own_d12_34) (feq hc34_34).2 (by decide) (by decide) ?_
          refine own_iloadN (pc' := 41) X0 hx (hb hby own_d12_40) rfl rfl ?_
          refine own_iconst (pc' := 42) (z := (4 : Int32)) X0 hx (hb hby own_d12_41) rfl rfl ?_
          by_cases hc42_35 : p0 = (4 : Int32)
          · refine own_icmpNo (pc' := 45) X0 hx (hb hby own_d12_42) rfl (teq hc42_35).2 ?_
            refine own_iloadN (pc' := 46) X0 hx (hb hby own_d12_45) rfl rfl ?_
            refine own_bipush (pc' := 48) (z := (8 : Int32)) X0 hx (hb hby own_d12_46) rfl rfl ?_
            refine own_iushr (pc' := 49) (z := (own_ushr p2 (8 : Int32))) X0 hx (hb hby own_d12_48) rfl rfl ?_
            refine own_i2b (pc' := 50) (z := (own_b (own_ushr p2 (8 : Int32)))) X0 hx (hb hby own_d12_49) rfl rfl ?_
            refine own_retN X0 hx hlk hret (by simp) (hb hby own_d12_50) (by decide) (by decide) ?_
            exact ⟨own_some (by rw [own_nb]; simp [own_orig, hc1_31, hc12_32, hc23_33, hc34_34, hc42_35]), N0, e0⟩
          · refine own_icmpYes (pc' := 51) X0 hx (hb hby own_d12_42) (feq hc42_35).2 (by decide) (by decide) ?_
            refine own_iloadN (pc' := 52) X0 hx (hb hby own_d12_51) rfl rfl ?_
            refine own_i2b (pc' := 53) (z := (own_b p2)) X0 hx (hb hby own_d12_52) rfl rfl ?_
            refine own_retN X0 hx hlk hret (by simp) (hb hby own_d12_53) (by decide) (by decide) ?_
            exact ⟨own_some (by rw [own_nb]; simp [own_orig, hc1_31, hc12_32, hc23_33, hc34_34, hc42_35]), N0, e0⟩
def own_room11_0 : Room := { frames := 1, cells := 0, slots := 0, locals := 14 }
def own_Q11_0 (Z : State) (r : Addr) (t : Int32) (v0 : Int32) (w0 : Int32) (y0 : Int32) (rk : ClassId) (x0 : Int32) (x1 : Int32) (x2 : Int32) (x3 : Int32) (x4 : Int32) (x5 : Int32) (h0 : Heap) (n0 : Nat) (v : Option Value) (h : Heap) (L : List Loc) : Prop := v = some (.int 1) ∧ Fr n0 L ∧ h = h0
theorem own_ef_rm11_0 (m : MethodId) (x0 : Addr) (x1 : Int32) (x2 : Int32) (x3 : Int32) (x4 : Int32) (x5 : Int32) : entryFrame m #[(.ref x0), (.int x1), (.int x2), (.int x3), (.int x4), (.int x5)] 7 = mkF m 0 #[.val (.ref x0), .val (.int x1), .val (.int x2), .val (.int x3), .val (.int x4), .val (.int x5), .unset] [] := by first | (simp [entryFrame, mkF, argsToLocals, Value.category]; done) | rfl
set_option maxRecDepth 65536 in
set_option maxHeartbeats 40000000 in
theorem own_rm11_0 (lch : Launch) (Z : State) (a0 : Array Value) (hw : ∀ d ∈ tables_1, d.before a0 Z = true) (ws : List Jvm.Cond) (r : Addr) (t : Int32) (v0 : Int32) (w0 : Int32) (y0 : Int32) (rk : ClassId) (x0 : Int32) (x1 : Int32) (x2 : Int32) (x3 : Int32) (x4 : Int32) (x5 : Int32) (h0 : Heap) (n0 : Nat) (V0 : Arv Z h0 r rk .byte (6 : Int32) [(.int x0), (.int x1), (.int x2), (.int x3), (.int x4), (.int x5)] (.int (0 : Int32))) (he : x0 = own_e (0 : Int32) t v0 w0 y0) :
    MetFree lch (⟨"com/example/corbel/corbel/bytecode/BytesU2AtPinLaw", "ok", "([BIIIII)Z"⟩ : MethodName) (head1 (Jvm.Cond.code (⟨"com/example/corbel/corbel/bytecode/BytesU2AtPinLaw", "ok", "([BIIIII)Z"⟩ : MethodName) method_3_code 7 (some .boolean) :: ws) own_room11_0) (fun zz U => zz = #[(.ref r), (.int (0 : Int32)), (.int t), (.int v0), (.int w0), (.int y0)] ∧ Z.Warmed39 U.vm ∧ U.heap = h0) (fun _ _ _ _ _ => True) (fun _ U o U' => ∃ v L, o = .returned v ∧ own_Q11_0 Z r t v0 w0 y0 rk x0 x1 x2 x3 x4 x5 h0 n0 v U'.heap L ∧ FrameEnd U o U' L own_room11_0.cells own_room11_0.slots) := by
  refine MetFree.of_bodySF (plainFor_of_name own_pn2) hisR ?_
  intro prg e s m args below meth c s₁ Bd hml0 hP hK
  obtain ⟨rfl, hZ, hh⟩ := hP
  have hx := Bd.exec
  have hby := Bd.bytes
  have hml : c.maxLocals = 7 := hml0
  have hown : s.vm.findClass "com/example/corbel/corbel/bytecode/BytesU2AtPinLaw" = some m.cls := findClass_of_methodNamed Bd.named
  have hnm := (name_of_methodNamed Bd.named Bd.method).1
  have hlk : meth.locks = false := BodyLoose.notSynchronized Bd
  have hret := Bd.returns
  have X0 : Stand prg lch e own_room11_0 s m #[(.ref r), (.int (0 : Int32)), (.int t), (.int v0), (.int w0), (.int y0)] below meth c s₁ [] 0 0 := Stand.of_body Bd
  have e0 : s₁.heap = h0 := by rw [← hh, Bd.state]; rfl
  have N0 := Fr.nil n0
  show own_Ends prg e below s (own_Q11_0 Z r t v0 w0 y0 rk x0 x1 x2 x3 x4 x5 h0 n0) own_room11_0.cells own_room11_0.slots s₁ (entryFrame m #[(.ref r), (.int (0 : Int32)), (.int t), (.int v0), (.int w0), (.int y0)] 7)
  refine own_cast (own_ef_rm11_0 m r (0 : Int32) t v0 w0 y0) ?_
  refine own_iloadN (pc' := 1) X0 hx (hb hby own_d11_0) rfl rfl ?_
  refine own_iloadN (pc' := 2) X0 hx (hb hby own_d11_1) rfl rfl ?_
  by_cases hc2_31 : (0 : Int32) = t
  · refine own_icmpNo (pc' := 5) X0 hx (hb hby own_d11_2) rfl (teq hc2_31).2 ?_
    refine own_iloadN (pc' := 6) X0 hx (hb hby own_d11_5) rfl rfl ?_
    refine own_bipush (pc' := 8) (z := (8 : Int32)) X0 hx (hb hby own_d11_6) rfl rfl ?_
    refine own_iushr (pc' := 9) (z := (own_ushr v0 (8 : Int32))) X0 hx (hb hby own_d11_8) rfl rfl ?_
    refine own_i2b (pc' := 10) (z := (own_b (own_ushr v0 (8 : Int32)))) X0 hx (hb hby own_d11_9) rfl rfl ?_
    refine own_istore (pc' := 12) (l' := #[.val (.ref r), .val (.int (0 : Int32)), .val (.int t), .val (.int v0), .val (.int w0), .val (.int y0), .val (.int (own_b (own_ushr v0 (8 : Int32))))]) X0 hx (hb hby own_d11_10) rfl rfl ?_
    refine own_goto (pc' := 39) X0 hx (hb hby own_d11_12) (by decide) (by decide) ?_
    refine own_aloadN (pc' := 40) X0 hx (hb hby own_d11_39) rfl rfl rfl ?_
    refine own_iloadN (pc' := 41) X0 hx (hb hby own_d11_40) rfl rfl ?_
    refine own_baload (pc' := 42) (v := (.int x0)) X0 hx hZ e0 V0 (hb hby own_d11_41) rfl (by decide) rfl ?_
    refine own_iload (pc' := 44) X0 hx (hb hby own_d11_42) rfl rfl ?_
    refine own_icmpNo (pc' := 47) X0 hx (hb hby own_d11_44) rfl (teq (by rw [he]; unfold own_e; rw [if_pos hc2_31])).2 ?_
    refine own_iconst (pc' := 48) (z := (1 : Int32)) X0 hx (hb hby own_d11_47) rfl rfl ?_
    refine own_goto (pc' := 52) X0 hx (hb hby own_d11_48) (by decide) (by decide) ?_
    refine own_retN X0 hx hlk hret (by simp) (hb hby own_d11_52) (by decide) (by decide) ?_
    exact ⟨rfl, N0, e0⟩
  · refine own_icmpYes (pc' := 15) X0 hx (hb hby own_d11_2) (feq hc2_31).2 (by decide) (by decide) ?_
    refine own_iloadN (pc' := 16) X0 hx (hb hby own_d11_15) rfl rfl ?_
    refine own_iloadN (pc' := 17) X0 hx (hb hby own_d11_16) rfl rfl ?_
    refine own_iconst (pc' := 18) (z := (1 : Int32)) X0 hx (hb hby own_d11_17) rfl rfl ?_
    refine own_iadd (pc' := 19) (z := (t + (1 : Int32))) X0 hx (hb hby own_d11_18) rfl rfl ?_
    by_cases hc19_32 : (0 : Int32) = (t + (1 : Int32))
    · refine own_icmpNo (pc' := 22) X0 hx (hb hby own_d11_19) rfl (teq hc19_32).2 ?_
      refine own_iloadN (pc' := 23) X0 hx (hb hby own_d11_22) rfl rfl ?_
      refine own_i2b (pc' := 24) (z := (own_b v0)) X0 hx (hb hby own_d11_23) rfl rfl ?_
      refine own_istore (pc' := 26) (l' := #[.val (.ref r), .val (.int (0 : Int32)), .val (.int t), .val (.int v0), .val (.int w0), .val (.int y0), .val (.int (own_b v0))]) X0 hx (hb hby own_d11_24) rfl rfl ?_
      refine own_goto (pc' := 39) X0 hx (hb hby own_d11_26) (by decide) (by decide) ?_
      refine own_aloadN (pc' := 40) X0 hx (hb hby own_d11_39) rfl rfl rfl ?_
      refine own_iloadN (pc' := 41) X0 hx (hb hby own_d11_40) rfl rfl ?_
      refine own_baload (pc' := 42) (v := (.int x0)) X0 hx hZ e0 V0 (hb hby own_d11_41) rfl (by decide) rfl ?_
      refine own_iload (pc' := 44) X0 hx (hb hby own_d11_42) rfl rfl ?_
      refine own_icmpNo (pc' := 47) X0 hx (hb hby own_d11_44) rfl (teq (by rw [he]; unfold own_e; rw [if_neg hc2_31, if_pos hc19_32])).2 ?_
      refine own_iconst (pc' := 48) (z := (1 : Int32)) X0 hx (hb hby own_d11_47) rfl rfl ?_
      refine own_goto (pc' := 52) X0 hx (hb hby own_d11_48) (by decide) (by decide) ?_
      refine own_retN X0 hx hlk hret (by simp) (hb hby own_d11_52) (by decide) (by decide) ?_
      exact ⟨rfl, N0, e0⟩
    · refine own_icmpYes (pc' := 29) X0 hx (hb hby own_d11_19) (feq hc19_32).2 (by decide) (by decide) ?_
      refine own_iloadN (pc' := 30) X0 hx (hb hby own_d11_29) rfl rfl ?_
      refine own_iload (pc' := 32) X0 hx (hb hby own_d11_30) rfl rfl ?_
      refine own_iload (pc' := 34) X0 hx (hb hby own_d11_32) rfl rfl ?_
      refine own_callS (pc' := 37) (y := (⟨"com/example/corbel/corbel/bytecode/BytesU2AtPinLaw", "orig", "(III)B"⟩ : MethodName)) (W := 0) (rm := own_room12) (argsL := [(.int (0 : Int32)), (.int w0), (.int y0)]) (rest := []) X0 hx hZ e0 hown (by rw [hml]; rfl) (own_w62 hw) (own_w63 hw) (own_w60 hw) (own_w64 hw) (by decide) (own_rm12 lch Z a0 hw [] (0 : Int32) w0 y0 h0 n0) (by decide) (by decide) (by decide) (by decide) (lenOf own_pd3 rfl) rfl (by exact Nat.le_of_eq rfl) (hb hby own_d11_34) rfl ?_
      intro T33 Lc33 v33 X33 hQ33
      obtain ⟨rfl, Nq33, Kq33⟩ := hQ33
      have N33 := Fr.app N0 Nq33
      show own_Ends prg e below s _ _ _ T33 (mkF m 37 #[.val (.ref r), .val (.int (0 : Int32)), .val (.int t), .val (.int v0), .val (.int w0), .val (.int y0), .unset] [(.int (own_orig (0 : Int32) w0 y0))])
      refine own_istore (pc' := 39) (l' := #[.val (.ref r), .val (.int (0 : Int32)), .val (.int t), .val (.int v0), .val (.int w0), .val (.int y0), .val (.int (own_orig (0 : Int32) w0 y0))]) X33 hx (hb hby own_d11_37) rfl rfl ?_
      refine own_aloadN (pc' := 40) X33 hx (hb hby own_d11_39) rfl rfl rfl ?_
      refine own_iloadN (pc' := 41) X33 hx (hb hby own_d11_40) rfl rfl ?_
      refine own_baload (pc' := 42) (v := (.int x0)) X33 hx hZ Kq33 V0 (hb hby own_d11_41) rfl (by decide) rfl ?_
      refine own_iload (pc' := 44) X33 hx (hb hby own_d11_42) rfl rfl ?_
      refine own_icmpNo (pc' := 47) X33 hx (hb hby own_d11_44) rfl (teq (by rw [he]; unfold own_e; rw [if_neg hc2_31, if_neg hc19_32])).2 ?_
      refine own_iconst (pc' := 48) (z := (1 : Int32)) X33 hx (hb hby own_d11_47) rfl rfl ?_
      refine own_goto (pc' := 52) X33 hx (hb hby own_d11_48) (by decide) (by decide) ?_
      refine own_retN X33 hx hlk hret (by simp) (hb hby own_d11_52) (by decide) (by decide) ?_
      exact ⟨rfl, N33, Kq33⟩
def own_room11_1 : Room := { frames := 1, cells := 0, slots := 0, locals := 14 }
def own_Q11_1 (Z : State) (r : Addr) (t : Int32) (v0 : Int32) (w0 : Int32) (y0 : Int32) (rk : ClassId) (x0 : Int32) (x1 : Int32) (x2 : Int32) (x3 : Int32) (x4 : Int32) (x5 : Int32) (h0 : Heap) (n0 : Nat) (v : Option Value) (h : Heap) (L : List Loc) : Prop := v = some (.int 1) ∧ Fr n0 L ∧ h = h0
theorem own_ef_rm11_1 (m : MethodId) (x0 : Addr) (x1 : Int32) (x2 : Int32) (x3 : Int32) (x4 : Int32) (x5 : Int32) : entryFrame m #[(.ref x0), (.int x1), (.int x2), (.int x3), (.int x4), (.int x5)] 7 = mkF m 0 #[.val (.ref x0), .val (.int x1), .val (.int x2), .val (.int x3), .val (.int x4), .val (.int x5), .unset] [] := by first | (simp [entryFrame, mkF, argsToLocals, Value.category]; done) | rfl
set_option maxRecDepth 65536 in
set_option maxHeartbeats 40000000 in
theorem own_rm11_1 (lch : Launch) (Z : State) (a0 : Array Value) (hw : ∀ d ∈ tables_1, d.before a0 Z = true) (ws : List Jvm.Cond) (r : Addr) (t : Int32) (v0 : Int32) (w0 : Int32) (y0 : Int32) (rk : ClassId) (x0 : Int32) (x1 : Int32) (x2 : Int32) (x3 : Int32) (x4 : Int32) (x5 : Int32) (h0 : Heap) (n0 : Nat) (V0 : Arv Z h0 r rk .byte (6 : Int32) [(.int x0), (.int x1), (.int x2), (.int x3), (.int x4), (.int x5)] (.int (0 : Int32))) (he : x1 = own_e (1 : Int32) t v0 w0 y0) :
    MetFree lch (⟨"com/example/corbel/corbel/bytecode/BytesU2AtPinLaw", "ok", "([BIIIII)Z"⟩ : MethodName) (head1 (Jvm.Cond.code (⟨"com/example/corbel/corbel/bytecode/BytesU2AtPinLaw", "ok", "([BIIIII)Z"⟩ : MethodName) method_3_code 7 (some .boolean) :: ws) own_room11_1) (fun zz U => zz = #[(.ref r), (.int (1 : Int32)), (.int t), (.int v0), (.int w0), (.int y0)] ∧ Z.Warmed39 U.vm ∧ U.heap = h0) (fun _ _ _ _ _ => True) (fun _ U o U' => ∃ v L, o = .returned v ∧ own_Q11_1 Z r t v0 w0 y0 rk x0 x1 x2 x3 x4 x5 h0 n0 v U'.heap L ∧ FrameEnd U o U' L own_room11_1.cells own_room11_1.slots) := by
  refine MetFree.of_bodySF (plainFor_of_name own_pn2) hisR ?_
  intro prg e s m args below meth c s₁ Bd hml0 hP hK
  obtain ⟨rfl, hZ, hh⟩ := hP
  have hx := Bd.exec
  have hby := Bd.bytes
  have hml : c.maxLocals = 7 := hml0
  have hown : s.vm.findClass "com/example/corbel/corbel/bytecode/BytesU2AtPinLaw" = some m.cls := findClass_of_methodNamed Bd.named
  have hnm := (name_of_methodNamed Bd.named Bd.method).1
  have hlk : meth.locks = false := BodyLoose.notSynchronized Bd
  have hret := Bd.returns
  have X0 : Stand prg lch e own_room11_1 s m #[(.ref r), (.int (1 : Int32)), (.int t), (.int v0), (.int w0), (.int y0)] below meth c s₁ [] 0 0 := Stand.of_body Bd
  have e0 : s₁.heap = h0 := by rw [← hh, Bd.state]; rfl
  have N0 := Fr.nil n0
  show own_Ends prg e below s (own_Q11_1 Z r t v0 w0 y0 rk x0 x1 x2 x3 x4 x5 h0 n0) own_room11_1.cells own_room11_1.slots s₁ (entryFrame m #[(.ref r), (.int (1 : Int32)), (.int t), (.int v0), (.int w0), (.int y0)] 7)
  refine own_cast (own_ef_rm11_1 m r (1 : Int32) t v0 w0 y0) ?_
  refine own_iloadN (pc' := 1) X0 hx (hb hby own_d11_0) rfl rfl ?_
  refine own_iloadN (pc' := 2) X0 hx (hb hby own_d11_1) rfl rfl ?_
  by_cases hc2_31 : (1 : Int32) = t
  · refine own_icmpNo (pc' := 5) X0 hx (hb hby own_d11_2) rfl (teq hc2_31).2 ?_
    refine own_iloadN (pc' := 6) X0 hx (hb hby own_d11_5) rfl rfl ?_
    refine own_bipush (pc' := 8) (z := (8 : Int32)) X0 hx (hb hby own_d11_6) rfl rfl ?_
    refine own_iushr (pc' := 9) (z := (own_ushr v0 (8 : Int32))) X0 hx (hb hby own_d11_8) rfl rfl ?_
    refine own_i2b (pc' := 10) (z := (own_b (own_ushr v0 (8 : Int32)))) X0 hx (hb hby own_d11_9) rfl rfl ?_
    refine own_istore (pc' := 12) (l' := #[.val (.ref r), .val (.int (1 : Int32)), .val (.int t), .val (.int v0), .val (.int w0), .val (.int y0), .val (.int (own_b (own_ushr v0 (8 : Int32))))]) X0 hx (hb hby own_d11_10) rfl rfl ?_
    refine own_goto (pc' := 39) X0 hx (hb hby own_d11_12) (by decide) (by decide) ?_
    refine own_aloadN (pc' := 40) X0 hx (hb hby own_d11_39) rfl rfl rfl ?_
    refine own_iloadN (pc' := 41) X0 hx (hb hby own_d11_40) rfl rfl ?_
    refine own_baload (pc' := 42) (v := (.int x1)) X0 hx hZ e0 V0 (hb hby own_d11_41) rfl (by decide) rfl ?_
    refine own_iload (pc' := 44) X0 hx (hb hby own_d11_42) rfl rfl ?_
    refine own_icmpNo (pc' := 47) X0 hx (hb hby own_d11_44) rfl (teq (by rw [he]; unfold own_e; rw [if_pos hc2_31])).2 ?_
    refine own_iconst (pc' := 48) (z := (1 : Int32)) X0 hx (hb hby own_d11_47) rfl rfl ?_
    refine own_goto (pc' := 52) X0 hx (hb hby own_d11_48) (by decide) (by decide) ?_
    refine own_retN X0 hx hlk hret (by simp) (hb hby own_d11_52) (by decide) (by decide) ?_
    exact ⟨rfl, N0, e0⟩
  · refine own_icmpYes (pc' := 15) X0 hx (hb hby own_d11_2) (feq hc2_31).2 (by decide) (by decide) ?_
    refine own_iloadN (pc' := 16) X0 hx (hb hby own_d11_15) rfl rfl ?_
    refine own_iloadN (pc' := 17) X0 hx (hb hby own_d11_16) rfl rfl ?_
    refine own_iconst (pc' := 18) (z := (1 : Int32)) X0 hx (hb hby own_d11_17) rfl rfl ?_
    refine own_iadd (pc' := 19) (z := (t + (1 : Int32))) X0 hx (hb hby own_d11_18) rfl rfl ?_
    by_cases hc19_32 : (1 : Int32) = (t + (1 : Int32))
    · refine own_icmpNo (pc' := 22) X0 hx (hb hby own_d11_19) rfl (teq hc19_32).2 ?_
      refine own_iloadN (pc' := 23) X0 hx (hb hby own_d11_22) rfl rfl ?_
      refine own_i2b (pc' := 24) (z := (own_b v0)) X0 hx (hb hby own_d11_23) rfl rfl ?_
      refine own_istore (pc' := 26) (l' := #[.val (.ref r), .val (.int (1 : Int32)), .val (.int t), .val (.int v0), .val (.int w0), .val (.int y0), .val (.int (own_b v0))]) X0 hx (hb hby own_d11_24) rfl rfl ?_
      refine own_goto (pc' := 39) X0 hx (hb hby own_d11_26) (by decide) (by decide) ?_
      refine own_aloadN (pc' := 40) X0 hx (hb hby own_d11_39) rfl rfl rfl ?_
      refine own_iloadN (pc' := 41) X0 hx (hb hby own_d11_40) rfl rfl ?_
      refine own_baload (pc' := 42) (v := (.int x1)) X0 hx hZ e0 V0 (hb hby own_d11_41) rfl (by decide) rfl ?_
      refine own_iload (pc' := 44) X0 hx (hb hby own_d11_42) rfl rfl ?_
      refine own_icmpNo (pc' := 47) X0 hx (hb hby own_d11_44) rfl (teq (by rw [he]; unfold own_e; rw [if_neg hc2_31, if_pos hc19_32])).2 ?_
      refine own_iconst (pc' := 48) (z := (1 : Int32)) X0 hx (hb hby own_d11_47) rfl rfl ?_
      refine own_goto (pc' := 52) X0 hx (hb hby own_d11_48) (by decide) (by decide) ?_
      refine own_retN X0 hx hlk hret (by simp) (hb hby own_d11_52) (by decide) (by decide) ?_
      exact ⟨rfl, N0, e0⟩
    · refine own_icmpYes (pc' := 29) X0 hx (hb hby own_d11_19) (feq hc19_32).2 (by decide) (by decide) ?_
      refine own_iloadN (pc' := 30) X0 hx (hb hby own_d11_29) rfl rfl ?_
      refine own_iload (pc' := 32) X0 hx (hb hby own_d11_30) rfl rfl ?_
      refine own_iload (pc' := 34) X0 hx (hb hby own_d11_32) rfl rfl ?_
      refine own_callS (pc' := 37) (y := (⟨"com/example/corbel/corbel/bytecode/BytesU2AtPinLaw", "orig", "(III)B"⟩ : MethodName)) (W := 0) (rm := own_room12) (argsL := [(.int (1 : Int32)), (.int w0), (.int y0)]) (rest := []) X0 hx hZ e0 hown (by rw [hml]; rfl) (own_w62 hw) (own_w63 hw) (own_w60 hw) (own_w64 hw) (by decide) (own_rm12 lch Z a0 hw [] (1 : Int32) w0 y0 h0 n0) (by decide) (by decide) (by decide) (by decide) (lenOf own_pd3 rfl) rfl (by exact Nat.le_of_eq rfl) (hb hby own_d11_34) rfl ?_
      intro T33 Lc33 v33 X33 hQ33
      obtain ⟨rfl, Nq33, Kq33⟩ := hQ33
      have N33 := Fr.app N0 Nq33
      show own_Ends prg e below s _ _ _ T33 (mkF m 37 #[.val (.ref r), .val (.int (1 : Int32)), .val (.int t), .val (.int v0), .val (.int w0), .val (.int y0), .unset] [(.int (own_orig (1 : Int32) w0 y0))])
      refine own_istore (pc' := 39) (l' := #[.val (.ref r), .val (.int (1 : Int32)), .val (.int t), .val (.int v0), .val (.int w0), .val (.int y0), .val (.int (own_orig (1 : Int32) w0 y0))]) X33 hx (hb hby own_d11_37) rfl rfl ?_
      refine own_aloadN (pc' := 40) X33 hx (hb hby own_d11_39) rfl rfl rfl ?_
      refine own_iloadN (pc' := 41) X33 hx (hb hby own_d11_40) rfl rfl ?_
      refine own_baload (pc' := 42) (v := (.int x1)) X33 hx hZ Kq33 V0 (hb hby own_d11_41) rfl (by decide) rfl ?_
      refine own_iload (pc' := 44) X33 hx (hb hby own_d11_42) rfl rfl ?_
      refine own_icmpNo (pc' := 47) X33 hx (hb hby own_d11_44) rfl (teq (by rw [he]; unfold own_e; rw [if_neg hc2_31, if_neg hc19_32])).2 ?_
      refine own_iconst (pc' := 48) (z := (1 : Int32)) X33 hx (hb hby own_d11_47) rfl rfl ?_
      refine own_goto (pc' := 52) X33 hx (hb hby own_d11_48) (by decide) (by decide) ?_
      refine own_retN X33 hx hlk hret (by simp) (hb hby own_d11_52) (by decide) (by decide) ?_
      exact ⟨rfl, N33, Kq33⟩
def own_room11_2 : Room := { frames := 1, cells := 0, slots := 0, locals := 14 }
def own_Q11_2 (Z : State) (r : Addr) (t : Int32) (v0 : Int32) (w0 : Int32) (y0 : Int32) (rk : ClassId) (x0 : Int32) (x1 : Int32) (x2 : Int32) (x3 : Int32) (x4 : Int32) (x5 : Int32) (h0 : Heap) (n0 : Nat) (v : Option Value) (h : Heap) (L : List Loc) : Prop := v = some (.int 1) ∧ Fr n0 L ∧ h = h0
theorem own_ef_rm11_2 (m : MethodId) (x0 : Addr) (x1 : Int32) (x2 : Int32) (x3 : Int32) (x4 : Int32) (x5 : Int32) : entryFrame m #[(.ref x0), (.int x1), (.int x2), (.int x3), (.int x4), (.int x5)] 7 = mkF m 0 #[.val (.ref x0), .val (.int x1), .val (.int x2), .val (.int x3), .val (.int x4), .val (.int x5), .unset] [] := by first | (simp [entryFrame, mkF, argsToLocals, Value.category]; done) | rfl
set_option maxRecDepth 65536 in
set_option maxHeartbeats 40000000 in
theorem own_rm11_2 (lch : Launch) (Z : State) (a0 : Array Value) (hw : ∀ d ∈ tables_1, d.before a0 Z = true) (ws : List Jvm.Cond) (r : Addr) (t : Int32) (v0 : Int32) (w0 : Int32) (y0 : Int32) (rk : ClassId) (x0 : Int32) (x1 : Int32) (x2 : Int32) (x3 : Int32) (x4 : Int32) (x5 : Int32) (h0 : Heap) (n0 : Nat) (V0 : Arv Z h0 r rk .byte (6 : Int32) [(.int x0), (.int x1), (.int x2), (.int x3), (.int x4), (.int x5)] (.int (0 : Int32))) (he : x2 = own_e (2 : Int32) t v0 w0 y0) :
    MetFree lch (⟨"com/example/corbel/corbel/bytecode/BytesU2AtPinLaw", "ok", "([BIIIII)Z"⟩ : MethodName) (head1 (Jvm.Cond.code (⟨"com/example/corbel/corbel/bytecode/BytesU2AtPinLaw", "ok", "([BIIIII)Z"⟩ : MethodName) method_3_code 7 (some .boolean) :: ws) own_room11_2) (fun zz U => zz = #[(.ref r), (.int (2 : Int32)), (.int t), (.int v0), (.int w0), (.int y0)] ∧ Z.Warmed39 U.vm ∧ U.heap = h0) (fun _ _ _ _ _ => True) (fun _ U o U' => ∃ v L, o = .returned v ∧ own_Q11_2 Z r t v0 w0 y0 rk x0 x1 x2 x3 x4 x5 h0 n0 v U'.heap L ∧ FrameEnd U o U' L own_room11_2.cells own_room11_2.slots) := by
  refine MetFree.of_bodySF (plainFor_of_name own_pn2) hisR ?_
  intro prg e s m args below meth c s₁ Bd hml0 hP hK
  obtain ⟨rfl, hZ, hh⟩ := hP
  have hx := Bd.exec
  have hby := Bd.bytes
  have hml : c.maxLocals = 7 := hml0
  have hown : s.vm.findClass "com/example/corbel/corbel/bytecode/BytesU2AtPinLaw" = some m.cls := findClass_of_methodNamed Bd.named
  have hnm := (name_of_methodNamed Bd.named Bd.method).1
  have hlk : meth.locks = false := BodyLoose.notSynchronized Bd
  have hret := Bd.returns
  have X0 : Stand prg lch e own_room11_2 s m #[(.ref r), (.int (2 : Int32)), (.int t), (.int v0), (.int w0), (.int y0)] below meth c s₁ [] 0 0 := Stand.of_body Bd
  have e0 : s₁.heap = h0 := by rw [← hh, Bd.state]; rfl
  have N0 := Fr.nil n0
  show own_Ends prg e below s (own_Q11_2 Z r t v0 w0 y0 rk x0 x1 x2 x3 x4 x5 h0 n0) own_room11_2.cells own_room11_2.slots s₁ (entryFrame m #[(.ref r), (.int (2 : Int32)), (.int t), (.int v0), (.int w0), (.int y0)] 7)
  refine own_cast (own_ef_rm11_2 m r (2 : Int32) t v0 w0 y0) ?_
  refine own_iloadN (pc' := 1) X0 hx (hb hby own_d11_0) rfl rfl ?_
  refine own_iloadN (pc' := 2) X0 hx (hb hby own_d11_1) rfl rfl ?_
  by_cases hc2_31 : (2 : Int32) = t
  · refine own_icmpNo (pc' := 5) X0 hx (hb hby own_d11_2) rfl (teq hc2_31).2 ?_
    refine own_iloadN (pc' := 6) X0 hx (hb hby own_d11_5) rfl rfl ?_
    refine own_bipush (pc' := 8) (z := (8 : Int32)) X0 hx (hb hby own_d11_6) rfl rfl ?_
    refine own_iushr (pc' := 9) (z := (own_ushr v0 (8 : Int32))) X0 hx (hb hby own_d11_8) rfl rfl ?_
    refine own_i2b (pc' := 10) (z := (own_b (own_ushr v0 (8 : Int32)))) X0 hx (hb hby own_d11_9) rfl rfl ?_
    refine own_istore (pc' := 12) (l' := #[.val (.ref r), .val (.int (2 : Int32)), .val (.int t), .val (.int v0), .val (.int w0), .val (.int y0), .val (.int (own_b (own_ushr v0 (8 : Int32))))]) X0 hx (hb hby own_d11_10) rfl rfl ?_
    refine own_goto (pc' := 39) X0 hx (hb hby own_d11_12) (by decide) (by decide) ?_
    refine own_aloadN (pc' := 40) X0 hx (hb hby own_d11_39) rfl rfl rfl ?_
    refine own_iloadN (pc' := 41) X0 hx (hb hby own_d11_40) rfl rfl ?_
    refine own_baload (pc' := 42) (v := (.int x2)) X0 hx hZ e0 V0 (hb hby own_d11_41) rfl (by decide) rfl ?_
    refine own_iload (pc' := 44) X0 hx (hb hby own_d11_42) rfl rfl ?_
    refine own_icmpNo (pc' := 47) X0 hx (hb hby own_d11_44) rfl (teq (by rw [he]; unfold own_e; rw [if_pos hc2_31])).2 ?_
    refine own_iconst (pc' := 48) (z := (1 : Int32)) X0 hx (hb hby own_d11_47) rfl rfl ?_
    refine own_goto (pc' := 52) X0 hx (hb hby own_d11_48) (by decide) (by decide) ?_
    refine own_retN X0 hx hlk hret (by simp) (hb hby own_d11_52) (by decide) (by decide) ?_
    exact ⟨rfl, N0, e0⟩
  · refine own_icmpYes (pc' := 15) X0 hx (hb hby own_d11_2) (feq hc2_31).2 (by decide) (by decide) ?_
    refine own_iloadN (pc' := 16) X0 hx (hb hby own_d11_15) rfl rfl ?_
    refine own_iloadN (pc' := 17) X0 hx (hb hby own_d11_16) rfl rfl ?_
    refine own_iconst (pc' := 18) (z := (1 : Int32)) X0 hx (hb hby own_d11_17) rfl rfl ?_
    refine own_iadd (pc' := 19) (z := (t + (1 : Int32))) X0 hx (hb hby own_d11_18) rfl rfl ?_
    by_cases hc19_32 : (2 : Int32) = (t + (1 : Int32))
    · refine own_icmpNo (pc' := 22) X0 hx (hb hby own_d11_19) rfl (teq hc19_32).2 ?_
      refine own_iloadN (pc' := 23) X0 hx (hb hby own_d11_22) rfl rfl ?_
      refine own_i2b (pc' := 24) (z := (own_b v0)) X0 hx (hb hby own_d11_23) rfl rfl ?_
      refine own_istore (pc' := 26) (l' := #[.val (.ref r), .val (.int (2 : Int32)), .val (.int t), .val (.int v0), .val (.int w0), .val (.int y0), .val (.int (own_b v0))]) X0 hx (hb hby own_d11_24) rfl rfl ?_
      refine own_goto (pc' := 39) X0 hx (hb hby own_d11_26) (by decide) (by decide) ?_
      refine own_aloadN (pc' := 40) X0 hx (hb hby own_d11_39) rfl rfl rfl ?_
      refine own_iloadN (pc' := 41) X0 hx (hb hby own_d11_40) rfl rfl ?_
      refine own_baload (pc' := 42) (v := (.int x2)) X0 hx hZ e0 V0 (hb hby own_d11_41) rfl (by decide) rfl ?_
      refine own_iload (pc' := 44) X0 hx (hb hby own_d11_42) rfl rfl ?_
      refine own_icmpNo (pc' := 47) X0 hx (hb hby own_d11_44) rfl (teq (by rw [he]; unfold own_e; rw [if_neg hc2_31, if_pos hc19_32])).2 ?_
      refine own_iconst (pc' := 48) (z := (1 : Int32)) X0 hx (hb hby own_d11_47) rfl rfl ?_
      refine own_goto (pc' := 52) X0 hx (hb hby own_d11_48) (by decide) (by decide) ?_
      refine own_retN X0 hx hlk hret (by simp) (hb hby own_d11_52) (by decide) (by decide) ?_
      exact ⟨rfl, N0, e0⟩
    · refine own_icmpYes (pc' := 29) X0 hx (hb hby own_d11_19) (feq hc19_32).2 (by decide) (by decide) ?_
      refine own_iloadN (pc' := 30) X0 hx (hb hby own_d11_29) rfl rfl ?_
      refine own_iload (pc' := 32) X0 hx (hb hby own_d11_30) rfl rfl ?_
      refine own_iload (pc' := 34) X0 hx (hb hby own_d11_32) rfl rfl ?_
      refine own_callS (pc' := 37) (y := (⟨"com/example/corbel/corbel/bytecode/BytesU2AtPinLaw", "orig", "(III)B"⟩ : MethodName)) (W := 0) (rm := own_room12) (argsL := [(.int (2 : Int32)), (.int w0), (.int y0)]) (rest := []) X0 hx hZ e0 hown (by rw [hml]; rfl) (own_w62 hw) (own_w63 hw) (own_w60 hw) (own_w64 hw) (by decide) (own_rm12 lch Z a0 hw [] (2 : Int32) w0 y0 h0 n0) (by decide) (by decide) (by decide) (by decide) (lenOf own_pd3 rfl) rfl (by exact Nat.le_of_eq rfl) (hb hby own_d11_34) rfl ?_
      intro T33 Lc33 v33 X33 hQ33
      obtain ⟨rfl, Nq33, Kq33⟩ := hQ33
      have N33 := Fr.app N0 Nq33
      show own_Ends prg e below s _ _ _ T33 (mkF m 37 #[.val (.ref r), .val (.int (2 : Int32)), .val (.int t), .val (.int v0), .val (.int w0), .val (.int y0), .unset] [(.int (own_orig (2 : Int32) w0 y0))])
      refine own_istore (pc' := 39) (l' := #[.val (.ref r), .val (.int (2 : Int32)), .val (.int t), .val (.int v0), .val (.int w0), .val (.int y0), .val (.int (own_orig (2 : Int32) w0 y0))]) X33 hx (hb hby own_d11_37) rfl rfl ?_
      refine own_aloadN (pc' := 40) X33 hx (hb hby own_d11_39) rfl rfl rfl ?_
      refine own_iloadN (pc' := 41) X33 hx (hb hby own_d11_40) rfl rfl ?_
      refine own_baload (pc' := 42) (v := (.int x2)) X33 hx hZ Kq33 V0 (hb hby own_d11_41) rfl (by decide) rfl ?_
      refine own_iload (pc' := 44) X33 hx (hb hby own_d11_42) rfl rfl ?_
      refine own_icmpNo (pc' := 47) X33 hx (hb hby own_d11_44) rfl (teq (by rw [he]; unfold own_e; rw [if_neg hc2_31, if_neg hc19_32])).2 ?_
      refine own_iconst (pc' := 48) (z := (1 : Int32)) X33 hx (hb hby own_d11_47) rfl rfl ?_
      refine own_goto (pc' := 52) X33 hx (hb hby own_d11_48) (by decide) (by decide) ?_
      refine own_retN X33 hx hlk hret (by simp) (hb hby own_d11_52) (by decide) (by decide) ?_
      exact ⟨rfl, N33, Kq33⟩
def own_room11_3 : Room := { frames := 1, cells := 0, slots := 0, locals := 14 }
def own_Q11_3 (Z : State) (r : Addr) (t : Int32) (v0 : Int32) (w0 : Int32) (y0 : Int32) (rk : ClassId) (x0 : Int32) (x1 : Int32) (x2 : Int32) (x3 : Int32) (x4 : Int32) (x5 : Int32) (h0 : Heap) (n0 : Nat) (v : Option Value) (h : Heap) (L : List Loc) : Prop := v = some (.int 1) ∧ Fr n0 L ∧ h = h0
theorem own_ef_rm11_3 (m : MethodId) (x0 : Addr) (x1 : Int32) (x2 : Int32) (x3 : Int32) (x4 : Int32) (x5 : Int32) : entryFrame m #[(.ref x0), (.int x1), (.int x2), (.int x3), (.int x4), (.int x5)] 7 = mkF m 0 #[.val (.ref x0), .val (.int x1), .val (.int x2), .val (.int x3), .val (.int x4), .val (.int x5), .unset] [] := by first | (simp [entryFrame, mkF, argsToLocals, Value.category]; done) | rfl
set_option maxRecDepth 65536 in
set_option maxHeartbeats 40000000 in
theorem own_rm11_3 (lch : Launch) (Z : State) (a0 : Array Value) (hw : ∀ d ∈ tables_1, d.before a0 Z = true) (ws : List Jvm.Cond) (r : Addr) (t : Int32) (v0 : Int32) (w0 : Int32) (y0 : Int32) (rk : ClassId) (x0 : Int32) (x1 : Int32) (x2 : Int32) (x3 : Int32) (x4 : Int32) (x5 : Int32) (h0 : Heap) (n0 : Nat) (V0 : Arv Z h0 r rk .byte (6 : Int32) [(.int x0), (.int x1), (.int x2), (.int x3), (.int x4), (.int x5)] (.int (0 : Int32))) (he : x3 = own_e (3 : Int32) t v0 w0 y0) :
    MetFree lch (⟨"com/example/corbel/corbel/bytecode/BytesU2AtPinLaw", "ok", "([BIIIII)Z"⟩ : MethodName) (head1 (Jvm.Cond.code (⟨"com/example/corbel/corbel/bytecode/BytesU2AtPinLaw", "ok", "([BIIIII)Z"⟩ : MethodName) method_3_code 7 (some .boolean) :: ws) own_room11_3) (fun zz U => zz = #[(.ref r), (.int (3 : Int32)), (.int t), (.int v0), (.int w0), (.int y0)] ∧ Z.Warmed39 U.vm ∧ U.heap = h0) (fun _ _ _ _ _ => True) (fun _ U o U' => ∃ v L, o = .returned v ∧ own_Q11_3 Z r t v0 w0 y0 rk x0 x1 x2 x3 x4 x5 h0 n0 v U'.heap L ∧ FrameEnd U o U' L own_room11_3.cells own_room11_3.slots) := by
  refine MetFree.of_bodySF (plainFor_of_name own_pn2) hisR ?_
  intro prg e s m args below meth c s₁ Bd hml0 hP hK
  obtain ⟨rfl, hZ, hh⟩ := hP
  have hx := Bd.exec
  have hby := Bd.bytes
  have hml : c.maxLocals = 7 := hml0
  have hown : s.vm.findClass "com/example/corbel/corbel/bytecode/BytesU2AtPinLaw" = some m.cls := findClass_of_methodNamed Bd.named
  have hnm := (name_of_methodNamed Bd.named Bd.method).1
  have hlk : meth.locks = false := BodyLoose.notSynchronized Bd
  have hret := Bd.returns
  have X0 : Stand prg lch e own_room11_3 s m #[(.ref r), (.int (3 : Int32)), (.int t), (.int v0), (.int w0), (.int y0)] below meth c s₁ [] 0 0 := Stand.of_body Bd
  have e0 : s₁.heap = h0 := by rw [← hh, Bd.state]; rfl
  have N0 := Fr.nil n0
  show own_Ends prg e below s (own_Q11_3 Z r t v0 w0 y0 rk x0 x1 x2 x3 x4 x5 h0 n0) own_room11_3.cells own_room11_3.slots s₁ (entryFrame m #[(.ref r), (.int (3 : Int32)), (.int t), (.int v0), (.int w0), (.int y0)] 7)
  refine own_cast (own_ef_rm11_3 m r (3 : Int32) t v0 w0 y0) ?_
  refine own_iloadN (pc' := 1) X0 hx (hb hby own_d11_0) rfl rfl ?_
  refine own_iloadN (pc' := 2) X0 hx (hb hby own_d11_1) rfl rfl ?_
  by_cases hc2_31 : (3 : Int32) = t
  · refine own_icmpNo (pc' := 5) X0 hx (hb hby own_d11_2) rfl (teq hc2_31).2 ?_
    refine own_iloadN (pc' := 6) X0 hx (hb hby own_d11_5) rfl rfl ?_
    refine own_bipush (pc' := 8) (z := (8 : Int32)) X0 hx (hb hby own_d11_6) rfl rfl ?_
    refine own_iushr (pc' := 9) (z := (own_ushr v0 (8 : Int32))) X0 hx (hb hby own_d11_8) rfl rfl ?_
    refine own_i2b (pc' := 10) (z := (own_b (own_ushr v0 (8 : Int32)))) X0 hx (hb hby own_d11_9) rfl rfl ?_
    refine own_istore (pc' := 12) (l' := #[.val (.ref r), .val (.int (3 : Int32)), .val (.int t), .val (.int v0), .val (.int w0), .val (.int y0), .val (.int (own_b (own_ushr v0 (8 : Int32))))]) X0 hx (hb hby own_d11_10) rfl rfl ?_
    refine own_goto (pc' := 39) X0 hx (hb hby own_d11_12) (by decide) (by decide) ?_
    refine own_aloadN (pc' := 40) X0 hx (hb hby own_d11_39) rfl rfl rfl ?_
    refine own_iloadN (pc' := 41) X0 hx (hb hby own_d11_40) rfl rfl ?_
    refine own_baload (pc' := 42) (v := (.int x3)) X0 hx hZ e0 V0 (hb hby own_d11_41) rfl (by decide) rfl ?_
    refine own_iload (pc' := 44) X0 hx (hb hby own_d11_42) rfl rfl ?_
    refine own_icmpNo (pc' := 47) X0 hx (hb hby own_d11_44) rfl (teq (by rw [he]; unfold own_e; rw [if_pos hc2_31])).2 ?_
    refine own_iconst (pc' := 48) (z := (1 : Int32)) X0 hx (hb hby own_d11_47) rfl rfl ?_
    refine own_goto (pc' := 52) X0 hx (hb hby own_d11_48) (by decide) (by decide) ?_
    refine own_retN X0 hx hlk hret (by simp) (hb hby own_d11_52) (by decide) (by decide) ?_
    exact ⟨rfl, N0, e0⟩
  · refine own_icmpYes (pc' := 15) X0 hx (hb hby own_d11_2) (feq hc2_31).2 (by decide) (by decide) ?_
    refine own_iloadN (pc' := 16) X0 hx (hb hby own_d11_15) rfl rfl ?_
    refine own_iloadN (pc' := 17) X0 hx (hb hby own_d11_16) rfl rfl ?_
    refine own_iconst (pc' := 18) (z := (1 : Int32)) X0 hx (hb hby own_d11_17) rfl rfl ?_
    refine own_iadd (pc' := 19) (z := (t + (1 : Int32))) X0 hx (hb hby own_d11_18) rfl rfl ?_
    by_cases hc19_32 : (3 : Int32) = (t + (1 : Int32))
    · refine own_icmpNo (pc' := 22) X0 hx (hb hby own_d11_19) rfl (teq hc19_32).2 ?_
      refine own_iloadN (pc' := 23) X0 hx (hb hby own_d11_22) rfl rfl ?_
      refine own_i2b (pc' := 24) (z := (own_b v0)) X0 hx (hb hby own_d11_23) rfl rfl ?_
      refine own_istore (pc' := 26) (l' := #[.val (.ref r), .val (.int (3 : Int32)), .val (.int t), .val (.int v0), .val (.int w0), .val (.int y0), .val (.int (own_b v0))]) X0 hx (hb hby own_d11_24) rfl rfl ?_
      refine own_goto (pc' := 39) X0 hx (hb hby own_d11_26) (by decide) (by decide) ?_
      refine own_aloadN (pc' := 40) X0 hx (hb hby own_d11_39) rfl rfl rfl ?_
      refine own_iloadN (pc' := 41) X0 hx (hb hby own_d11_40) rfl rfl ?_
      refine own_baload (pc' := 42) (v := (.int x3)) X0 hx hZ e0 V0 (hb hby own_d11_41) rfl (by decide) rfl ?_
      refine own_iload (pc' := 44) X0 hx (hb hby own_d11_42) rfl rfl ?_
      refine own_icmpNo (pc' := 47) X0 hx (hb hby own_d11_44) rfl (teq (by rw [he]; unfold own_e; rw [if_neg hc2_31, if_pos hc19_32])).2 ?_
      refine own_iconst (pc' := 48) (z := (1 : Int32)) X0 hx (hb hby own_d11_47) rfl rfl ?_
      refine own_goto (pc' := 52) X0 hx (hb hby own_d11_48) (by decide) (by decide) ?_
      refine own_retN X0 hx hlk hret (by simp) (hb hby own_d11_52) (by decide) (by decide) ?_
      exact ⟨rfl, N0, e0⟩
    · refine own_icmpYes (pc' := 29) X0 hx (hb hby own_d11_19) (feq hc19_32).2 (by decide) (by decide) ?_
      refine own_iloadN (pc' := 30) X0 hx (hb hby own_d11_29) rfl rfl ?_
      refine own_iload (pc' := 32) X0 hx (hb hby own_d11_30) rfl rfl ?_
      refine own_iload (pc' := 34) X0 hx (hb hby own_d11_32) rfl rfl ?_
      refine own_callS (pc' := 37) (y := (⟨"com/example/corbel/corbel/bytecode/BytesU2AtPinLaw", "orig", "(III)B"⟩ : MethodName)) (W := 0) (rm := own_room12) (argsL := [(.int (3 : Int32)), (.int w0), (.int y0)]) (rest := []) X0 hx hZ e0 hown (by rw [hml]; rfl) (own_w62 hw) (own_w63 hw) (own_w60 hw) (own_w64 hw) (by decide) (own_rm12 lch Z a0 hw [] (3 : Int32) w0 y0 h0 n0) (by decide) (by decide) (by decide) (by decide) (lenOf own_pd3 rfl) rfl (by exact Nat.le_of_eq rfl) (hb hby own_d11_34) rfl ?_
      intro T33 Lc33 v33 X33 hQ33
      obtain ⟨rfl, Nq33, Kq33⟩ := hQ33
      have N33 := Fr.app N0 Nq33
      show own_Ends prg e below s _ _ _ T33 (mkF m 37 #[.val (.ref r), .val (.int (3 : Int32)), .val (.int t), .val (.int v0), .val (.int w0), .val (.int y0), .unset] [(.int (own_orig (3 : Int32) w0 y0))])
      refine own_istore (pc' := 39) (l' := #[.val (.ref r), .val (.int (3 : Int32)), .val (.int t), .val (.int v0), .val (.int w0), .val (.int y0), .val (.int (own_orig (3 : Int32) w0 y0))]) X33 hx (hb hby own_d11_37) rfl rfl ?_
      refine own_aloadN (pc' := 40) X33 hx (hb hby own_d11_39) rfl rfl rfl ?_
      refine own_iloadN (pc' := 41) X33 hx (hb hby own_d11_40) rfl rfl ?_
      refine own_baload (pc' := 42) (v := (.int x3)) X33 hx hZ Kq33 V0 (hb hby own_d11_41) rfl (by decide) rfl ?_
      refine own_iload (pc' := 44) X33 hx (hb hby own_d11_42) rfl rfl ?_
      refine own_icmpNo (pc' := 47) X33 hx (hb hby own_d11_44) rfl (teq (by rw [he]; unfold own_e; rw [if_neg hc2_31, if_neg hc19_32])).2 ?_
      refine own_iconst (pc' := 48) (z := (1 : Int32)) X33 hx (hb hby own_d11_47) rfl rfl ?_
      refine own_goto (pc' := 52) X33 hx (hb hby own_d11_48) (by decide) (by decide) ?_
      refine own_retN X33 hx hlk hret (by simp) (hb hby own_d11_52) (by decide) (by decide) ?_
      exact ⟨rfl, N33, Kq33⟩
def own_room11_4 : Room := { frames := 1, cells := 0, slots := 0, locals := 14 }
def own_Q11_4 (Z : State) (r : Addr) (t : Int32) (v0 : Int32) (w0 : Int32) (y0 : Int32) (rk : ClassId) (x0 : Int32) (x1 : Int32) (x2 : Int32) (x3 : Int32) (x4 : Int32) (x5 : Int32) (h0 : Heap) (n0 : Nat) (v : Option Value) (h : Heap) (L : List Loc) : Prop := v = some (.int 1) ∧ Fr n0 L ∧ h = h0
theorem own_ef_rm11_4 (m : MethodId) (x0 : Addr) (x1 : Int32) (x2 : Int32) (x3 : Int32) (x4 : Int32) (x5 : Int32) : entryFrame m #[(.ref x0), (.int x1), (.int x2), (.int x3), (.int x4), (.int x5)] 7 = mkF m 0 #[.val (.ref x0), .val (.int x1), .val (.int x2), .val (.int x3), .val (.int x4), .val (.int x5), .unset] [] := by first | (simp [entryFrame, mkF, argsToLocals, Value.category]; done) | rfl
set_option maxRecDepth 65536 in
set_option maxHeartbeats 40000000 in
theorem own_rm11_4 (lch : Launch) (Z : State) (a0 : Array Value) (hw : ∀ d ∈ tables_1, d.before a0 Z = true) (ws : List Jvm.Cond) (r : Addr) (t : Int32) (v0 : Int32) (w0 : Int32) (y0 : Int32) (rk : ClassId) (x0 : Int32) (x1 : Int32) (x2 : Int32) (x3 : Int32) (x4 : Int32) (x5 : Int32) (h0 : Heap) (n0 : Nat) (V0 : Arv Z h0 r rk .byte (6 : Int32) [(.int x0), (.int x1), (.int x2), (.int x3), (.int x4), (.int x5)] (.int (0 : Int32))) (he : x4 = own_e (4 : Int32) t v0 w0 y0) :
    MetFree lch (⟨"com/example/corbel/corbel/bytecode/BytesU2AtPinLaw", "ok", "([BIIIII)Z"⟩ : MethodName) (head1 (Jvm.Cond.code (⟨"com/example/corbel/corbel/bytecode/BytesU2AtPinLaw", "ok", "([BIIIII)Z"⟩ : MethodName) method_3_code 7 (some .boolean) :: ws) own_room11_4) (fun zz U => zz = #[(.ref r), (.int (4 : Int32)), (.int t), (.int v0), (.int w0), (.int y0)] ∧ Z.Warmed39 U.vm ∧ U.heap = h0) (fun _ _ _ _ _ => True) (fun _ U o U' => ∃ v L, o = .returned v ∧ own_Q11_4 Z r t v0 w0 y0 rk x0 x1 x2 x3 x4 x5 h0 n0 v U'.heap L ∧ FrameEnd U o U' L own_room11_4.cells own_room11_4.slots) := by
  refine MetFree.of_bodySF (plainFor_of_name own_pn2) hisR ?_
  intro prg e s m args below meth c s₁ Bd hml0 hP hK
  obtain ⟨rfl, hZ, hh⟩ := hP
  have hx := Bd.exec
  have hby := Bd.bytes
  have hml : c.maxLocals = 7 := hml0
  have hown : s.vm.findClass "com/example/corbel/corbel/bytecode/BytesU2AtPinLaw" = some m.cls := findClass_of_methodNamed Bd.named
  have hnm := (name_of_methodNamed Bd.named Bd.method).1
  have hlk : meth.locks = false := BodyLoose.notSynchronized Bd
  have hret := Bd.returns
  have X0 : Stand prg lch e own_room11_4 s m #[(.ref r), (.int (4 : Int32)), (.int t), (.int v0), (.int w0), (.int y0)] below meth c s₁ [] 0 0 := Stand.of_body Bd
  have e0 : s₁.heap = h0 := by rw [← hh, Bd.state]; rfl
  have N0 := Fr.nil n0
  show own_Ends prg e below s (own_Q11_4 Z r t v0 w0 y0 rk x0 x1 x2 x3 x4 x5 h0 n0) own_room11_4.cells own_room11_4.slots s₁ (entryFrame m #[(.ref r), (.int (4 : Int32)), (.int t), (.int v0), (.int w0), (.int y0)] 7)
  refine own_cast (own_ef_rm11_4 m r (4 : Int32) t v0 w0 y0) ?_
  refine own_iloadN (pc' := 1) X0 hx (hb hby own_d11_0) rfl rfl ?_
  refine own_iloadN (pc' := 2) X0 hx (hb hby own_d11_1) rfl rfl ?_
  by_cases hc2_31 : (4 : Int32) = t
  · refine own_icmpNo (pc' := 5) X0 hx (hb hby own_d11_2) rfl (teq hc2_31).2 ?_
    refine own_iloadN (pc' := 6) X0 hx (hb hby own_d11_5) rfl rfl ?_
    refine own_bipush (pc' := 8) (z := (8 : Int32)) X0 hx (hb hby own_d11_6) rfl rfl ?_
    refine own_iushr (pc' := 9) (z := (own_ushr v0 (8 : Int32))) X0 hx (hb hby own_d11_8) rfl rfl ?_
    refine own_i2b (pc' := 10) (z := (own_b (own_ushr v0 (8 : Int32)))) X0 hx (hb hby own_d11_9) rfl rfl ?_
    refine own_istore (pc' := 12) (l' := #[.val (.ref r), .val (.int (4 : Int32)), .val (.int t), .val (.int v0), .val (.int w0), .val (.int y0), .val (.int (own_b (own_ushr v0 (8 : Int32))))]) X0 hx (hb hby own_d11_10) rfl rfl ?_
    refine own_goto (pc' := 39) X0 hx (hb hby own_d11_12) (by decide) (by decide) ?_
    refine own_aloadN (pc' := 40) X0 hx (hb hby own_d11_39) rfl rfl rfl ?_
    refine own_iloadN (pc' := 41) X0 hx (hb hby own_d11_40) rfl rfl ?_
    refine own_baload (pc' := 42) (v := (.int x4)) X0 hx hZ e0 V0 (hb hby own_d11_41) rfl (by decide) rfl ?_
    refine own_iload (pc' := 44) X0 hx (hb hby own_d11_42) rfl rfl ?_
    refine own_icmpNo (pc' := 47) X0 hx (hb hby own_d11_44) rfl (teq (by rw [he]; unfold own_e; rw [if_pos hc2_31])).2 ?_
    refine own_iconst (pc' := 48) (z := (1 : Int32)) X0 hx (hb hby own_d11_47) rfl rfl ?_
    refine own_goto (pc' := 52) X0 hx (hb hby own_d11_48) (by decide) (by decide) ?_
    refine own_retN X0 hx hlk hret (by simp) (hb hby own_d11_52) (by decide) (by decide) ?_
    exact ⟨rfl, N0, e0⟩
  · refine own_icmpYes (pc' := 15) X0 hx (hb hby own_d11_2) (feq hc2_31).2 (by decide) (by decide) ?_
    refine own_iloadN (pc' := 16) X0 hx (hb hby own_d11_15) rfl rfl ?_
    refine own_iloadN (pc' := 17) X0 hx (hb hby own_d11_16) rfl rfl ?_
    refine own_iconst (pc' := 18) (z := (1 : Int32)) X0 hx (hb hby own_d11_17) rfl rfl ?_
    refine own_iadd (pc' := 19) (z := (t + (1 : Int32))) X0 hx (hb hby own_d11_18) rfl rfl ?_
    by_cases hc19_32 : (4 : Int32) = (t + (1 : Int32))
    · refine own_icmpNo (pc' := 22) X0 hx (hb hby own_d11_19) rfl (teq hc19_32).2 ?_
      refine own_iloadN (pc' := 23) X0 hx (hb hby own_d11_22) rfl rfl ?_
      refine own_i2b (pc' := 24) (z := (own_b v0)) X0 hx (hb hby own_d11_23) rfl rfl ?_
      refine own_istore (pc' := 26) (l' := #[.val (.ref r), .val (.int (4 : Int32)), .val (.int t), .val (.int v0), .val (.int w0), .val (.int y0), .val (.int (own_b v0))]) X0 hx (hb hby own_d11_24) rfl rfl ?_
      refine own_goto (pc' := 39) X0 hx (hb hby own_d11_26) (by decide) (by decide) ?_
      refine own_aloadN (pc' := 40) X0 hx (hb hby own_d11_39) rfl rfl rfl ?_
      refine own_iloadN (pc' := 41) X0 hx (hb hby own_d11_40) rfl rfl ?_
      refine own_baload (pc' := 42) (v := (.int x4)) X0 hx hZ e0 V0 (hb hby own_d11_41) rfl (by decide) rfl ?_
      refine own_iload (pc' := 44) X0 hx (hb hby own_d11_42) rfl rfl ?_
      refine own_icmpNo (pc' := 47) X0 hx (hb hby own_d11_44) rfl (teq (by rw [he]; unfold own_e; rw [if_neg hc2_31, if_pos hc19_32])).2 ?_
      refine own_iconst (pc' := 48) (z := (1 : Int32)) X0 hx (hb hby own_d11_47) rfl rfl ?_
      refine own_goto (pc' := 52) X0 hx (hb hby own_d11_48) (by decide) (by decide) ?_
      refine own_retN X0 hx hlk hret (by simp) (hb hby own_d11_52) (by decide) (by decide) ?_
      exact ⟨rfl, N0, e0⟩
    · refine own_icmpYes (pc' := 29) X0 hx (hb hby own_d11_19) (feq hc19_32).2 (by decide) (by decide) ?_
      refine own_iloadN (pc' := 30) X0 hx (hb hby own_d11_29) rfl rfl ?_
      refine own_iload (pc' := 32) X0 hx (hb hby own_d11_30) rfl rfl ?_
      refine own_iload (pc' := 34) X0 hx (hb hby own_d11_32) rfl rfl ?_
      refine own_callS (pc' := 37) (y := (⟨"com/example/corbel/corbel/bytecode/BytesU2AtPinLaw", "orig", "(III)B"⟩ : MethodName)) (W := 0) (rm := own_room12) (argsL := [(.int (4 : Int32)), (.int w0), (.int y0)]) (rest := []) X0 hx hZ e0 hown (by rw [hml]; rfl) (own_w62 hw) (own_w63 hw) (own_w60 hw) (own_w64 hw) (by decide) (own_rm12 lch Z a0 hw [] (4 : Int32) w0 y0 h0 n0) (by decide) (by decide) (by decide) (by decide) (lenOf own_pd3 rfl) rfl (by exact Nat.le_of_eq rfl) (hb hby own_d11_34) rfl ?_
      intro T33 Lc33 v33 X33 hQ33
      obtain ⟨rfl, Nq33, Kq33⟩ := hQ33
      have N33 := Fr.app N0 Nq33
      show own_Ends prg e below s _ _ _ T33 (mkF m 37 #[.val (.ref r), .val (.int (4 : Int32)), .val (.int t), .val (.int v0), .val (.int w0), .val (.int y0), .unset] [(.int (own_orig (4 : Int32) w0 y0))])
      refine own_istore (pc' := 39) (l' := #[.val (.ref r), .val (.int (4 : Int32)), .val (.int t), .val (.int v0), .val (.int w0), .val (.int y0), .val (.int (own_orig (4 : Int32) w0 y0))]) X33 hx (hb hby own_d11_37) rfl rfl ?_
      refine own_aloadN (pc' := 40) X33 hx (hb hby own_d11_39) rfl rfl rfl ?_
      refine own_iloadN (pc' := 41) X33 hx (hb hby own_d11_40) rfl rfl ?_
      refine own_baload (pc' := 42) (v := (.int x4)) X33 hx hZ Kq33 V0 (hb hby own_d11_41) rfl (by decide) rfl ?_
      refine own_iload (pc' := 44) X33 hx (hb hby own_d11_42) rfl rfl ?_
      refine own_icmpNo (pc' := 47) X33 hx (hb hby own_d11_44) rfl (teq (by rw [he]; unfold own_e; rw [if_neg hc2_31, if_neg hc19_32])).2 ?_
      refine own_iconst (pc' := 48) (z := (1 : Int32)) X33 hx (hb hby own_d11_47) rfl rfl ?_
      refine own_goto (pc' := 52) X33 hx (hb hby own_d11_48) (by decide) (by decide) ?_
      refine own_retN X33 hx hlk hret (by simp) (hb hby own_d11_52) (by decide) (by decide) ?_
      exact ⟨rfl, N33, Kq33⟩
def own_room11_5 : Room := { frames := 1, cells := 0, slots := 0, locals := 14 }
def own_Q11_5 (Z : State) (r : Addr) (t : Int32) (v0 : Int32) (w0 : Int32) (y0 : Int32) (rk : ClassId) (x0 : Int32) (x1 : Int32) (x2 : Int32) (x3 : Int32) (x4 : Int32) (x5 : Int32) (h0 : Heap) (n0 : Nat) (v : Option Value) (h : Heap) (L : List Loc) : Prop := v = some (.int 1) ∧ Fr n0 L ∧ h = h0
theorem own_ef_rm11_5 (m : MethodId) (x0 : Addr) (x1 : Int32) (x2 : Int32) (x3 : Int32) (x4 : Int32) (x5 : Int32) : entryFrame m #[(.ref x0), (.int x1), (.int x2), (.int x3), (.int x4), (.int x5)] 7 = mkF m 0 #[.val (.ref x0), .val (.int x1), .val (.int x2), .val (.int x3), .val (.int x4), .val (.int x5), .unset] [] := by first | (simp [entryFrame, mkF, argsToLocals, Value.category]; done) | rfl
set_option maxRecDepth 65536 in
set_option maxHeartbeats 40000000 in
theorem own_rm11_5 (lch : Launch) (Z : State) (a0 : Array Value) (hw : ∀ d ∈ tables_1, d.before a0 Z = true) (ws : List Jvm.Cond) (r : Addr) (t : Int32) (v0 : Int32) (w0 : Int32) (y0 : Int32) (rk : ClassId) (x0 : Int32) (x1 : Int32) (x2 : Int32) (x3 : Int32) (x4 : Int32) (x5 : Int32) (h0 : Heap) (n0 : Nat) (V0 : Arv Z h0 r rk .byte (6 : Int32) [(.int x0), (.int x1), (.int x2), (.int x3), (.int x4), (.int x5)] (.int (0 : Int32))) (he : x5 = own_e (5 : Int32) t v0 w0 y0) :
    MetFree lch (⟨"com/example/corbel/corbel/bytecode/BytesU2AtPinLaw", "ok", "([BIIIII)Z"⟩ : MethodName) (head1 (Jvm.Cond.code (⟨"com/example/corbel/corbel/bytecode/BytesU2AtPinLaw", "ok", "([BIIIII)Z"⟩ : MethodName) method_3_code 7 (some .boolean) :: ws) own_room11_5) (fun zz U => zz = #[(.ref r), (.int (5 : Int32)), (.int t), (.int v0), (.int w0), (.int y0)] ∧ Z.Warmed39 U.vm ∧ U.heap = h0) (fun _ _ _ _ _ => True) (fun _ U o U' => ∃ v L, o = .returned v ∧ own_Q11_5 Z r t v0 w0 y0 rk x0 x1 x2 x3 x4 x5 h0 n0 v U'.heap L ∧ FrameEnd U o U' L own_room11_5.cells own_room11_5.slots) := by
  refine MetFree.of_bodySF (plainFor_of_name own_pn2) hisR ?_
  intro prg e s m args below meth c s₁ Bd hml0 hP hK
  obtain ⟨rfl, hZ, hh⟩ := hP
  have hx := Bd.exec
  have hby := Bd.bytes
  have hml : c.maxLocals = 7 := hml0
  have hown : s.vm.findClass "com/example/corbel/corbel/bytecode/BytesU2AtPinLaw" = some m.cls := findClass_of_methodNamed Bd.named
  have hnm := (name_of_methodNamed Bd.named Bd.method).1
  have hlk : meth.locks = false := BodyLoose.notSynchronized Bd
  have hret := Bd.returns
  have X0 : Stand prg lch e own_room11_5 s m #[(.ref r), (.int (5 : Int32)), (.int t), (.int v0), (.int w0), (.int y0)] below meth c s₁ [] 0 0 := Stand.of_body Bd
  have e0 : s₁.heap = h0 := by rw [← hh, Bd.state]; rfl
  have N0 := Fr.nil n0
  show own_Ends prg e below s (own_Q11_5 Z r t v0 w0 y0 rk x0 x1 x2 x3 x4 x5 h0 n0) own_room11_5.cells own_room11_5.slots s₁ (entryFrame m #[(.ref r), (.int (5 : Int32)), (.int t), (.int v0), (.int w0), (.int y0)] 7)
  refine own_cast (own_ef_rm11_5 m r (5 : Int32) t v0 w0 y0) ?_
  refine own_iloadN (pc' := 1) X0 hx (hb hby own_d11_0) rfl rfl ?_
  refine own_iloadN (pc' := 2) X0 hx (hb hby own_d11_1) rfl rfl ?_
  by_cases hc2_31 : (5 : Int32) = t
  · refine own_icmpNo (pc' := 5) X0 hx (hb hby own_d11_2) rfl (teq hc2_31).2 ?_
    refine own_iloadN (pc' := 6) X0 hx (hb hby own_d11_5) rfl rfl ?_
    refine own_bipush (pc' := 8) (z := (8 : Int32)) X0 hx (hb hby own_d11_6) rfl rfl ?_
    refine own_iushr (pc' := 9) (z := (own_ushr v0 (8 : Int32))) X0 hx (hb hby own_d11_8) rfl rfl ?_
    refine own_i2b (pc' := 10) (z := (own_b (own_ushr v0 (8 : Int32)))) X0 hx (hb hby own_d11_9) rfl rfl ?_
    refine own_istore (pc' := 12) (l' := #[.val (.ref r), .val (.int (5 : Int32)), .val (.int t), .val (.int v0), .val (.int w0), .val (.int y0), .val (.int (own_b (own_ushr v0 (8 : Int32))))]) X0 hx (hb hby own_d11_10) rfl rfl ?_
    refine own_goto (pc' := 39) X0 hx (hb hby own_d11_12) (by decide) (by decide) ?_
    refine own_aloadN (pc' := 40) X0 hx (hb hby own_d11_39) rfl rfl rfl ?_
    refine own_iloadN (pc' := 41) X0 hx (hb hby own_d11_40) rfl rfl ?_
    refine own_baload (pc' := 42) (v := (.int x5)) X0 hx hZ e0 V0 (hb hby own_d11_41) rfl (by decide) rfl ?_
    refine own_iload (pc' := 44) X0 hx (hb hby own_d11_42) rfl rfl ?_
    refine own_icmpNo (pc' := 47) X0 hx (hb hby own_d11_44) rfl (teq (by rw [he]; unfold own_e; rw [if_pos hc2_31])).2 ?_
    refine own_iconst (pc' := 48) (z := (1 : Int32)) X0 hx (hb hby own_d11_47) rfl rfl ?_
    refine own_goto (pc' := 52) X0 hx (hb hby own_d11_48) (by decide) (by decide) ?_
    refine own_retN X0 hx hlk hret (by simp) (hb hby own_d11_52) (by decide) (by decide) ?_
    exact ⟨rfl, N0, e0⟩
  · refine own_icmpYes (pc' := 15) X0 hx (hb hby own_d11_2) (feq hc2_31).2 (by decide) (by decide) ?_
    refine own_iloadN (pc' := 16) X0 hx (hb hby own_d11_15) rfl rfl ?_
    refine own_iloadN (pc' := 17) X0 hx (hb hby own_d11_16) rfl rfl ?_
    refine own_iconst (pc' := 18) (z := (1 : Int32)) X0 hx (hb hby own_d11_17) rfl rfl ?_
    refine own_iadd (pc' := 19) (z := (t + (1 : Int32))) X0 hx (hb hby own_d11_18) rfl rfl ?_
    by_cases hc19_32 : (5 : Int32) = (t + (1 : Int32))
    · refine own_icmpNo (pc' := 22) X0 hx (hb hby own_d11_19) rfl (teq hc19_32).2 ?_
      refine own_iloadN (pc' := 23) X0 hx (hb hby own_d11_22) rfl rfl ?_
      refine own_i2b (pc' := 24) (z := (own_b v0)) X0 hx (hb hby own_d11_23) rfl rfl ?_
      refine own_istore (pc' := 26) (l' := #[.val (.ref r), .val (.int (5 : Int32)), .val (.int t), .val (.int v0), .val (.int w0), .val (.int y0), .val (.int (own_b v0))]) X0 hx (hb hby own_d11_24) rfl rfl ?_
      refine own_goto (pc' := 39) X0 hx (hb hby own_d11_26) (by decide) (by decide) ?_
      refine own_aloadN (pc' := 40) X0 hx (hb hby own_d11_39) rfl rfl rfl ?_
      refine own_iloadN (pc' := 41) X0 hx (hb hby own_d11_40) rfl rfl ?_
      refine own_baload (pc' := 42) (v := (.int x5)) X0 hx hZ e0 V0 (hb hby own_d11_41) rfl (by decide) rfl ?_
      refine own_iload (pc' := 44) X0 hx (hb hby own_d11_42) rfl rfl ?_
      refine own_icmpNo (pc' := 47) X0 hx (hb hby own_d11_44) rfl (teq (by rw [he]; unfold own_e; rw [if_neg hc2_31, if_pos hc19_32])).2 ?_
      refine own_iconst (pc' := 48) (z := (1 : Int32)) X0 hx (hb hby own_d11_47) rfl rfl ?_
      refine own_goto (pc' := 52) X0 hx (hb hby own_d11_48) (by decide) (by decide) ?_
      refine own_retN X0 hx hlk hret (by simp) (hb hby own_d11_52) (by decide) (by decide) ?_
      exact ⟨rfl, N0, e0⟩
    · refine own_icmpYes (pc' := 29) X0 hx (hb hby own_d11_19) (feq hc19_32).2 (by decide) (by decide) ?_
      refine own_iloadN (pc' := 30) X0 hx (hb hby own_d11_29) rfl rfl ?_
      refine own_iload (pc' := 32) X0 hx (hb hby own_d11_30) rfl rfl ?_
      refine own_iload (pc' := 34) X0 hx (hb hby own_d11_32) rfl rfl ?_
      refine own_callS (pc' := 37) (y := (⟨"com/example/corbel/corbel/bytecode/BytesU2AtPinLaw", "orig", "(III)B"⟩ : MethodName)) (W := 0) (rm := own_room12) (argsL := [(.int (5 : Int32)), (.int w0), (.int y0)]) (rest := []) X0 hx hZ e0 hown (by rw [hml]; rfl) (own_w62 hw) (own_w63 hw) (own_w60 hw) (own_w64 hw) (by decide) (own_rm12 lch Z a0 hw [] (5 : Int32) w0 y0 h0 n0) (by decide) (by decide) (by decide) (by decide) (lenOf own_pd3 rfl) rfl (by exact Nat.le_of_eq rfl) (hb hby own_d11_34) rfl ?_
      intro T33 Lc33 v33 X33 hQ33
      obtain ⟨rfl, Nq33, Kq33⟩ := hQ33
      have N33 := Fr.app N0 Nq33
      show own_Ends prg e below s _ _ _ T33 (mkF m 37 #[.val (.ref r), .val (.int (5 : Int32)), .val (.int t), .val (.int v0), .val (.int w0), .val (.int y0), .unset] [(.int (own_orig (5 : Int32) w0 y0))])
      refine own_istore (pc' := 39) (l' := #[.val (.ref r), .val (.int (5 : Int32)), .val (.int t), .val (.int v0), .val (.int w0), .val (.int y0), .val (.int (own_orig (5 : Int32) w0 y0))]) X33 hx (hb hby own_d11_37) rfl rfl ?_
      refine own_aloadN (pc' := 40) X33 hx (hb hby own_d11_39) rfl rfl rfl ?_
      refine own_iloadN (pc' := 41) X33 hx (hb hby own_d11_40) rfl rfl ?_
      refine own_baload (pc' := 42) (v := (.int x5)) X33 hx hZ Kq33 V0 (hb hby own_d11_41) rfl (by decide) rfl ?_
      refine own_iload (pc' := 44) X33 hx (hb hby own_d11_42) rfl rfl ?_
      refine own_icmpNo (pc' := 47) X33 hx (hb hby own_d11_44) rfl (teq (by rw [he]; unfold own_e; rw [if_neg hc2_31, if_neg hc19_32])).2 ?_
      refine own_iconst (pc' := 48) (z := (1 : Int32)) X33 hx (hb hby own_d11_47) rfl rfl ?_
      refine own_goto (pc' := 52) X33 hx (hb hby own_d11_48) (by decide) (by decide) ?_
      refine own_retN X33 hx hlk hret (by simp) (hb hby own_d11_52) (by decide) (by decide) ?_
      exact ⟨rfl, N33, Kq33⟩
def own_Q0 (Z : State) (p0 : Int32) (p1 : Int32) (p2 : Int32) (p3 : Int32) (h0 : Heap) (n0 : Nat) (v : Option Value) (h : Heap) (L : List Loc) : Prop := v = some (.int 1) ∧ Fr n0 L
theorem own_ef_rm0 (m : MethodId) (x0 : Int32) (x1 : Int32) (x2 : Int32) (x3 : Int32) : entryFrame m #[(.int x0), (.int x1), (.int x2), (.int x3)] maxLocals = mkF m 0 #[.val (.int x0), .val (.int x1), .val (.int x2), .val (.int x3), .unset, .unset, .unset] [] := by first | (simp [entryFrame, mkF, argsToLocals, Value.category, maxLocals]; done) | rfl
set_option maxRecDepth 65536 in
set_option maxHeartbeats 40000000 in
theorem own_rm0 (lch : Launch) (Z : State) (a0 : Array Value) (hw : ∀ d ∈ tables_1, d.before a0 Z = true) (ws : List Jvm.Cond) (p0 : Int32) (p1 : Int32) (p2 : Int32) (p3 : Int32) (h0 : Heap) (n0 : Nat) (Z0 : n0 ≤ h0.size) :
    MetFree lch x (head1 (Jvm.Cond.code x code maxLocals ret :: ws) room_1) (fun zz U => zz = #[(.int p0), (.int p1), (.int p2), (.int p3)] ∧ Z.Warmed39 U.vm ∧ U.heap = h0) (fun _ _ _ _ _ => True) (fun _ U o U' => ∃ v L, o = .returned v ∧ own_Q0 Z p0 p1 p2 p3 h0 n0 v U'.heap L ∧ FrameEnd U o U' L 16 640) := by
  refine MetFree.of_bodySF (plainFor_of_name own_pn2) hisR ?_
  intro prg e s m args below meth c s₁ Bd hml0 hP hK
  obtain ⟨rfl, hZ, hh⟩ := hP
  have hx := Bd.exec
  have hby := Bd.bytes
  have hml : c.maxLocals = 7 := hml0
  have hown : s.vm.findClass "com/example/corbel/corbel/bytecode/BytesU2AtPinLaw" = some m.cls := findClass_of_methodNamed Bd.named
  have hnm := (name_of_methodNamed Bd.named Bd.method).1
  have hlk : meth.locks = false := BodyLoose.notSynchronized Bd
  have hret := Bd.returns
  have X0 : Stand prg lch e room_1 s m #[(.int p0), (.int p1), (.int p2), (.int p3)] below meth c s₁ [] 0 0 := Stand.of_body Bd
  have e0 : s₁.heap = h0 := by rw [← hh, Bd.state]; rfl
  have N0 := Fr.nil n0
  show own_Ends prg e below s (own_Q0 Z p0 p1 p2 p3 h0 n0) 16 640 s₁ (entryFrame m #[(.int p0), (.int p1), (.int p2), (.int p3)] maxLocals)
  refine own_cast (own_ef_rm0 m p0 p1 p2 p3) ?_
  refine own_iloadN (pc' := 1) X0 hx (hb hby at_0) rfl rfl ?_
  refine own_ldcI (pc' := 3) X0 hx hZ hown (own_w0 hw) (hb hby at_1) rfl ?_
  refine own_iand (pc' := 4) (z := (p2 &&& (2147483647 : Int32))) X0 hx (hb hby at_3) rfl rfl ?_
  refine own_iconst (pc' := 5) (z := (5 : Int32)) X0 hx (hb hby at_4) rfl rfl ?_
  obtain ⟨n31, hn31⟩ : ∃ z, ((p2 &&& (2147483647 : Int32)) % (5 : Int32)) = z := ⟨_, rfl⟩
  refine own_irem (pc' := 6) (z := n31) X0 hx (hb hby at_5) rfl (by decide) hn31 ?_
  refine own_istore (pc' := 8) (l' := #[.val (.int p0), .val (.int p1), .val (.int p2), .val (.int p3), .val (.int n31), .unset, .unset]) X0 hx (hb hby at_6) rfl rfl ?_
  obtain ⟨T32, h32, X32, e32, E32, A32, D32, -, st32⟩ := newO X0 hx hZ hown (own_w1 hw) (own_w2 hw) (own_w3 hw) e0 (g := (mkF m 8 #[.val (.int p0), .val (.int p1), .val (.int p2), .val (.int p3), .val (.int n31), .unset, .unset] [])) rfl (hb hby at_8) (by decide) (by decide)
  refine own_go st32 ?_
  obtain ⟨a32, g32⟩ : ∃ z, z = h0.size := ⟨_, rfl⟩
  rw [← g32] at A32 D32
  have ge33 : n0 ≤ a32 := by rw [g32]; exact Z0
  have F34 : Fld Z h32 a32 "com/example/corbel/corbel/bytecode/Bytes" "data" "[B" .null := D32 (Or.inl (own_w12 hw)) (ty := (.array .byte)) (by decide)
  have F35 : Fld Z h32 a32 "com/example/corbel/corbel/bytecode/Bytes" "length" "I" (.int (0 : Int32)) := D32 (Or.inl (own_w29 hw)) (ty := .int) (by decide)
  show own_Ends prg e below s _ _ _ T32 (mkF m 11 #[.val (.int p0), .val (.int p1), .val (.int p2), .val (.int p3), .val (.int n31), .unset, .unset] [(.ref h0.size)])
  rw [← g32]
  refine own_dup (pc' := 12) X32 hx (hb hby at_11) rfl rfl ?_
  have f36 := (Nat.le_trans Z0 E32.1)
  refine own_callC (pc' := 15) (y := (⟨"com/example/corbel/corbel/bytecode/Bytes", "<init>", "()V"⟩ : MethodName)) (W := 1) (rm := own_room1) (argsL := []) (rest := [(.ref a32)]) (b := a32) X32 hx hZ e32 hown (by rw [hml]; rfl) rfl rfl (own_w4 hw) (own_w5 hw) (own_w3 hw) (own_w6 hw) (by decide) (own_rm1 lch Z a0 hw [] a32 _ h32 n0 f36 A32 F34 F35 ge33) (by decide) (by decide) (by decide) (by decide) (lenOf own_pd4 rfl) rfl (by exact Nat.le_of_eq rfl) (hb hby at_12) rfl ?_
  intro T37 Lc37 v37 X37 hQ37
  obtain ⟨b37, bk37, rfl, Nq37, Kq37, G37_0, G37_1, G37_2, G37_3⟩ := hQ37
  have N37 := Fr.app N0 Nq37
  have ge38 : n0 ≤ b37 := Nat.le_trans f36 G37_0
  have ne39 : a32 ≠ b37 := Nat.ne_of_lt (Nat.lt_of_lt_of_le A32.lt G37_0)
  show own_Ends prg e below s _ _ _ T37 (mkF m 15 #[.val (.int p0), .val (.int p1), .val (.int p2), .val (.int p3), .val (.int n31), .unset, .unset] [(.ref a32)])
  refine own_astore (pc' := 17) (l' := #[.val (.int p0), .val (.int p1), .val (.int p2), .val (.int p3), .val (.int n31), .val (.ref a32), .unset]) X37 hx (hb hby at_15) rfl rfl rfl ?_
  refine own_aload (pc' := 19) X37 hx (hb hby at_17) rfl rfl rfl ?_
  refine own_iloadN (pc' := 20) X37 hx (hb hby at_19) rfl rfl ?_
  have f40 := (A32.keep Kq37)
  refine own_callV (pc' := 23) (y := (⟨"com/example/corbel/corbel/bytecode/Bytes", "u4", "(I)V"⟩ : MethodName)) (W := 0) (rm := own_room3_0) (argsL := [(.int p0)]) (rest := []) (b := a32) (C := "com/example/corbel/corbel/bytecode/Bytes") X37 hx hZ rfl hown (by rw [hml]; rfl) f40 (own_w13 hw) (own_w14 hw) (own_w16 hw) (own_w15 hw) (own_w3 hw) (own_w17 hw) (by decide) (own_rm3_0 lch Z a0 hw [] a32 p0 b37 bk37 (0 : Int32) (0 : Int32) (0 : Int32) (0 : Int32) (0 : Int32) (0 : Int32) T37.heap n0 f40 G37_1 G37_2 G37_3 ge33 ge38 ne39) (by decide) (by decide) (by decide) (by decide) (lenOf own_pd0 rfl) rfl (by exact Nat.le_of_eq rfl) (hb hby at_20) rfl ?_
  intro T41 Lc41 v41 X41 hQ41
  obtain ⟨rfl, Nq41, Kq41, G41_0, G41_1, G41_2⟩ := hQ41
  have N41 := Fr.app N37 Nq41
  show own_Ends prg e below s _ _ _ T41 (mkF m 23 #[.val (.int p0), .val (.int p1), .val (.int p2), .val (.int p3), .val (.int n31), .val (.ref a32), .unset] [])
  refine own_aload (pc' := 25) X41 hx (hb hby at_23) rfl rfl rfl ?_
  refine own_iloadN (pc' := 26) X41 hx (hb hby at_25) rfl rfl ?_
  have f42 := (f40.keep Kq41)
  refine own_callV (pc' := 29) (y := (⟨"com/example/corbel/corbel/bytecode/Bytes", "u2", "(I)V"⟩ : MethodName)) (W := 0) (rm := own_room4_4) (argsL := [(.int p1)]) (rest := []) (b := a32) (C := "com/example/corbel/corbel/bytecode/Bytes") X41 hx hZ rfl hown (by rw [hml]; rfl) f42 (own_w30 hw) (own_w19 hw) (own_w21 hw) (own_w20 hw) (own_w3 hw) (own_w22 hw) (by decide) (own_rm4_4 lch Z a0 hw [] a32 p1 b37 bk37 (own_b (own_ushr (own_ushr p0 (16 : Int32)) (8 : Int32))) (own_b (own_ushr p0 (16 : Int32))) (own_b (own_ushr p0 (8 : Int32))) (own_b p0) (0 : Int32) (0 : Int32) T41.heap n0 f42 G41_0 G41_1 G41_2 ge33 ge38 ne39) (by decide) (by decide) (by decide) (by decide) (lenOf own_pd0 rfl) rfl (by exact Nat.le_of_eq rfl) (hb hby at_26) rfl ?_
  intro T43 Lc43 v43 X43 hQ43
  obtain ⟨rfl, Nq43, Kq43, G43_0, G43_1, G43_2⟩ := hQ43
  have N43 := Fr.app N41 Nq43
  show own_Ends prg e below s _ _ _ T43 (mkF m 29 #[.val (.int p0), .val (.int p1), .val (.int p2), .val (.int p3), .val (.int n31), .val (.ref a32), .unset] [])
  rcases own_r5 hn31 with rfl | rfl | rfl | rfl | rfl
  · refine own_aload (pc' := 31) X43 hx (hb hby at_29) rfl rfl rfl ?_
    refine own_iload (pc' := 33) X43 hx (hb hby at_31) rfl rfl ?_
    refine own_iloadN (pc' := 34) X43 hx (hb hby at_33) rfl rfl ?_
    have f44 := (f42.keep Kq43)
    refine own_callV (pc' := 37) (y := (⟨"com/example/corbel/corbel/bytecode/Bytes", "u2At", "(II)V"⟩ : MethodName)) (W := 0) (rm := own_room6_0) (argsL := [(.int (0 : Int32)), (.int p3)]) (rest := []) (b := a32) (C := "com/example/corbel/corbel/bytecode/Bytes") X43 hx hZ rfl hown (by rw [hml]; rfl) f44 (own_w31 hw) (own_w32 hw) (own_w34 hw) (own_w33 hw) (own_w3 hw) (own_w35 hw) (by decide) (own_rm6_0 lch Z a0 hw [] a32 p3 b37 bk37 (own_b (own_ushr (own_ushr p0 (16 : Int32)) (8 : Int32))) (own_b (own_ushr p0 (16 : Int32))) (own_b (own_ushr p0 (8 : Int32))) (own_b p0) (own_b (own_ushr p1 (8 : Int32))) (own_b p1) T43.heap n0 f44 G43_0 G43_1 G43_2 ge33 ge38 ne39) (by decide) (by decide) (by decide) (by decide) (lenOf own_pd5 rfl) rfl (by exact Nat.le_of_eq rfl) (hb hby at_34) rfl ?_
    intro T45 Lc45 v45 X45 hQ45
    obtain ⟨rfl, Nq45, Kq45, G45_0, G45_1, G45_2⟩ := hQ45
    have N45 := Fr.app N43 Nq45
    show own_Ends prg e below s _ _ _ T45 (mkF m 37 #[.val (.int p0), .val (.int p1), .val (.int p2), .val (.int p3), .val (.int (0 : Int32)), .val (.ref a32), .unset] [])
    refine own_aload (pc' := 39) X45 hx (hb hby at_37) rfl rfl rfl ?_
    have f47 := (f44.keep Kq45)
    refine own_callV (pc' := 42) (y := (⟨"com/example/corbel/corbel/bytecode/Bytes", "length", "()I"⟩ : MethodName)) (W := 0) (rm := own_room7) (argsL := []) (rest := []) (b := a32) (C := "com/example/corbel/corbel/bytecode/Bytes") X45 hx hZ rfl hown (by rw [hml]; rfl) f47 (own_w36 hw) (own_w37 hw) (own_w39 hw) (own_w38 hw) (own_w3 hw) (own_w40 hw) (by decide) (own_rm7 lch Z a0 hw [] a32 T45.heap n0 G45_1) (by decide) (by decide) (by decide) (by decide) (lenOf own_pd6 rfl) rfl (by exact Nat.le_of_eq rfl) (hb hby at_39) rfl ?_
    intro T46 Lc46 v46 X46 hQ46
    obtain ⟨rfl, Nq46, Kq46⟩ := hQ46
    have N46 := Fr.app N45 Nq46
    show own_Ends prg e below s _ _ _ T46 (mkF m 42 #[.val (.int p0), .val (.int p1), .val (.int p2), .val (.int p3), .val (.int (0 : Int32)), .val (.ref a32), .unset] [(.int (6 : Int32))])
    refine own_bipush (pc' := 44) (z := (6 : Int32)) X46 hx (hb hby at_42) rfl rfl ?_
    refine own_icmpYes (pc' := 49) X46 hx (hb hby at_44) (teq (by decide)).1 (by decide) (by decide) ?_
    refine own_aload (pc' := 51) X46 hx (hb hby at_49) rfl rfl rfl ?_
    have f48 := (Nat.le_trans (Nat.le_trans (Nat.le_trans (Nat.le_trans f36 Kq37.1) Kq41.1) Kq43.1) Kq45.1)
    refine own_callV (pc' := 54) (y := (⟨"com/example/corbel/corbel/bytecode/Bytes", "toArray", "()[B"⟩ : MethodName)) (W := 0) (rm := own_room8) (argsL := []) (rest := []) (b := a32) (C := "com/example/corbel/corbel/bytecode/Bytes") X46 hx hZ Kq46 hown (by rw [hml]; rfl) f47 (own_w41 hw) (own_w42 hw) (own_w44 hw) (own_w43 hw) (own_w3 hw) (own_w45 hw) (by decide) (own_rm8 lch Z a0 hw [] a32 b37 bk37 (own_b (own_ushr p3 (8 : Int32))) (own_b p3) (own_b (own_ushr p0 (8 : Int32))) (own_b p0) (own_b (own_ushr p1 (8 : Int32))) (own_b p1) T45.heap n0 f48 f47 G45_0 G45_1 G45_2 ge33 ge38 ne39) (by decide) (by decide) (by decide) (by decide) (lenOf own_pd7 rfl) rfl (by exact Nat.le_of_eq rfl) (hb hby at_51) rfl ?_
    intro T49 Lc49 v49 X49 hQ49
    obtain ⟨ra49, rk49, rfl, Nq49, Kq49, G49_0, G49_1⟩ := hQ49
    have N49 := Fr.app N46 Nq49
    have ge50 : n0 ≤ ra49 := Nat.le_trans f48 G49_0
    have ne51 : a32 ≠ ra49 := Nat.ne_of_lt (Nat.lt_of_lt_of_le f47.lt G49_0)
    have ne52 : b37 ≠ ra49 := Nat.ne_of_lt (Nat.lt_of_lt_of_le G45_2.lt G49_0)
    show own_Ends prg e below s _ _ _ T49 (mkF m 54 #[.val (.int p0), .val (.int p1), .val (.int p2), .val (.int p3), .val (.int (0 : Int32)), .val (.ref a32), .unset] [(.ref ra49)])
    refine own_astore (pc' := 56) (l' := #[.val (.int p0), .val (.int p1), .val (.int p2), .val (.int p3), .val (.int (0 : Int32)), .val (.ref a32), .val (.ref ra49)]) X49 hx (hb hby at_54) rfl rfl rfl ?_
    refine own_aload (pc' := 58) X49 hx (hb hby at_56) rfl rfl rfl ?_
    refine own_alen (pc' := 59) X49 hx hZ rfl G49_1 (hb hby at_58) rfl ?_
    refine own_bipush (pc' := 61) (z := (6 : Int32)) X49 hx (hb hby at_59) rfl rfl ?_
    refine own_icmpYes (pc' := 66) X49 hx (hb hby at_61) (teq (by decide)).1 (by decide) (by decide) ?_
    refine own_aload (pc' := 68) X49 hx (hb hby at_66) rfl rfl rfl ?_
    refine own_iconst (pc' := 69) (z := (0 : Int32)) X49 hx (hb hby at_68) rfl rfl ?_
    refine own_iload (pc' := 71) X49 hx (hb hby at_69) rfl rfl ?_
    refine own_iloadN (pc' := 72) X49 hx (hb hby at_71) rfl rfl ?_
    refine own_iloadN (pc' := 73) X49 hx (hb hby at_72) rfl rfl ?_
    refine own_iloadN (pc' := 74) X49 hx (hb hby at_73) rfl rfl ?_
    refine own_callS (pc' := 77) (y := (⟨"com/example/corbel/corbel/bytecode/BytesU2AtPinLaw", "ok", "([BIIIII)Z"⟩ : MethodName)) (W := 0) (rm := own_room11_0) (argsL := [(.ref ra49), (.int (0 : Int32)), (.int (0 : Int32)), (.int p3), (.int p0), (.int p1)]) (rest := []) X49 hx hZ rfl hown (by rw [hml]; rfl) (own_w58 hw) (own_w59 hw) (own_w60 hw) (own_w61 hw) (by decide) (own_rm11_0 lch Z a0 hw [] ra49 (0 : Int32) p3 p0 p1 rk49 (own_b (own_ushr p3 (8 : Int32))) (own_b p3) (own_b (own_ushr p0 (8 : Int32))) (own_b p0) (own_b (own_ushr p1 (8 : Int32))) (own_b p1) T49.heap n0 G49_1 (by unfold own_e; rw [if_pos (by decide)])) (by decide) (by decide) (by decide) (by decide) (lenOf own_pd8 rfl) rfl (by exact Nat.le_of_eq rfl) (hb hby at_74) rfl ?_
    intro T53 Lc53 v53 X53 hQ53
    obtain ⟨rfl, Nq53, Kq53⟩ := hQ53
    have N53 := Fr.app N49 Nq53
    show own_Ends prg e below s _ _ _ T53 (mkF m 77 #[.val (.int p0), .val (.int p1), .val (.int p2), .val (.int p3), .val (.int (0 : Int32)), .val (.ref a32), .val (.ref ra49)] [(.int (1 : Int32))])
    refine own_ifNo (pc' := 80) X53 hx (hb hby at_77) rfl (feq (by decide)).1 ?_
    refine own_aload (pc' := 82) X53 hx (hb hby at_80) rfl rfl rfl ?_
    refine own_iconst (pc' := 83) (z := (1 : Int32)) X53 hx (hb hby at_82) rfl rfl ?_
    refine own_iload (pc' := 85) X53 hx (hb hby at_83) rfl rfl ?_
    refine own_iloadN (pc' := 86) X53 hx (hb hby at_85) rfl rfl ?_
    refine own_iloadN (pc' := 87) X53 hx (hb hby at_86) rfl rfl ?_
    refine own_iloadN (pc' := 88) X53 hx (hb hby at_87) rfl rfl ?_
    refine own_callS (pc' := 91) (y := (⟨"com/example/corbel/corbel/bytecode/BytesU2AtPinLaw", "ok", "([BIIIII)Z"⟩ : MethodName)) (W := 0) (rm := own_room11_1) (argsL := [(.ref ra49), (.int (1 : Int32)), (.int (0 : Int32)), (.int p3), (.int p0), (.int p1)]) (rest := []) X53 hx hZ Kq53 hown (by rw [hml]; rfl) (own_w58 hw) (own_w59 hw) (own_w60 hw) (own_w61 hw) (by decide) (own_rm11_1 lch Z a0 hw [] ra49 (0 : Int32) p3 p0 p1 rk49 (own_b (own_ushr p3 (8 : Int32))) (own_b p3) (own_b (own_ushr p0 (8 : Int32))) (own_b p0) (own_b (own_ushr p1 (8 : Int32))) (own_b p1) T49.heap n0 G49_1 (by unfold own_e; rw [if_neg (by decide), if_pos (by decide)])) (by decide) (by decide) (by decide) (by decide) (lenOf own_pd8 rfl) rfl (by exact Nat.le_of_eq rfl) (hb hby at_88) rfl ?_
    intro T54 Lc54 v54 X54 hQ54
    obtain ⟨rfl, Nq54, Kq54⟩ := hQ54
    have N54 := Fr.app N53 Nq54
    show own_Ends prg e below s _ _ _ T54 (mkF m 91 #[.val (.int p0), .val (.int p1), .val (.int p2), .val (.int p3), .val (.int (0 : Int32)), .val (.ref a32), .val (.ref ra49)] [(.int (1 : Int32))])
    refine own_ifNo (pc' := 94) X54 hx (hb hby at_91) rfl (feq (by decide)).1 ?_
    refine own_aload (pc' := 96) X54 hx (hb hby at_94) rfl rfl rfl ?_
    refine own_iconst (pc' := 97) (z := (2 : Int32)) X54 hx (hb hby at_96) rfl rfl ?_
    refine own_iload (pc' := 99) X54 hx (hb hby at_97) rfl rfl ?_
    refine own_iloadN (pc' := 100) X54 hx (hb hby at_99) rfl rfl ?_
    refine own_iloadN (pc' := 101) X54 hx (hb hby at_100) rfl rfl ?_
    refine own_iloadN (pc' := 102) X54 hx (hb hby at_101) rfl rfl ?_
    refine own_callS (pc' := 105) (y := (⟨"com/example/corbel/corbel/bytecode/BytesU2AtPinLaw", "ok", "([BIIIII)Z"⟩ : MethodName)) (W := 0) (rm := own_room11_2) (argsL := [(.ref ra49), (.int (2 : Int32)), (.int (0 : Int32)), (.int p3), (.int p0), (.int p1)]) (rest := []) X54 hx hZ Kq54 hown (by rw [hml]; rfl) (own_w58 hw) (own_w59 hw) (own_w60 hw) (own_w61 hw) (by decide) (own_rm11_2 lch Z a0 hw [] ra49 (0 : Int32) p3 p0 p1 rk49 (own_b (own_ushr p3 (8 : Int32))) (own_b p3) (own_b (own_ushr p0 (8 : Int32))) (own_b p0) (own_b (own_ushr p1 (8 : Int32))) (own_b p1) T49.heap n0 G49_1 (by unfold own_e own_orig; rw [if_neg (by decide), if_neg (by decide), if_neg (by decide), if_neg (by decide), if_pos rfl])) (by decide) (by decide) (by decide) (by decide) (lenOf own_pd8 rfl) rfl (by exact Nat.le_of_eq rfl) (hb hby at_102) rfl ?_
    intro T55 Lc55 v55 X55 hQ55
    obtain ⟨rfl, Nq55, Kq55⟩ := hQ55
    have N55 := Fr.app N54 Nq55
    show own_Ends prg e below s _ _ _ T55 (mkF m 105 #[.val (.int p0), .val (.int p1), .val (.int p2), .val (.int p3), .val (.int (0 : Int32)), .val (.ref a32), .val (.ref ra49)] [(.int (1 : Int32))])
    refine own_ifNo (pc' := 108) X55 hx (hb hby at_105) rfl (feq (by decide)).1 ?_
    refine own_aload (pc' := 110) X55 hx (hb hby at_108) rfl rfl rfl ?_
    refine own_iconst (pc' := 111) (z := (3 : Int32)) X55 hx (hb hby at_110) rfl rfl ?_
    refine own_iload (pc' := 113) X55 hx (hb hby at_111) rfl rfl ?_
    refine own_iloadN (pc' := 114) X55 hx (hb hby at_113) rfl rfl ?_
    refine own_iloadN (pc' := 115) X55 hx (hb hby at_114) rfl rfl ?_
    refine own_iloadN (pc' := 116) X55 hx (hb hby at_115) rfl rfl ?_
    refine own_callS (pc' := 119) (y := (⟨"com/example/corbel/corbel/bytecode/BytesU2AtPinLaw", "ok", "([BIIIII)Z"⟩ : MethodName)) (W := 0) (rm := own_room11_3) (argsL := [(.ref ra49), (.int (3 : Int32)), (.int (0 : Int32)), (.int p3), (.int p0), (.int p1)]) (rest := []) X55 hx hZ Kq55 hown (by rw [hml]; rfl) (own_w58 hw) (own_w59 hw) (own_w60 hw) (own_w61 hw) (by decide) (own_rm11_3 lch Z a0 hw [] ra49 (0 : Int32) p3 p0 p1 rk49 (own_b (own_ushr p3 (8 : Int32))) (own_b p3) (own_b (own_ushr p0 (8 : Int32))) (own_b p0) (own_b (own_ushr p1 (8 : Int32))) (own_b p1) T49.heap n0 G49_1 (by unfold own_e own_orig; rw [if_neg (by decide), if_neg (by decide), if_neg (by decide), if_neg (by decide), if_neg (by decide), if_pos rfl])) (by decide) (by decide) (by decide) (by decide) (lenOf own_pd8 rfl) rfl (by exact Nat.le_of_eq rfl) (hb hby at_116) rfl ?_
    intro T56 Lc56 v56 X56 hQ56
    obtain ⟨rfl, Nq56, Kq56⟩ := hQ56
    have N56 := Fr.app N55 Nq56
    show own_Ends prg e below s _ _ _ T56 (mkF m 119 #[.val (.int p0), .val (.int p1), .val (.int p2), .val (.int p3), .val (.int (0 : Int32)), .val (.ref a32), .val (.ref ra49)] [(.int (1 : Int32))])
    refine own_ifNo (pc' := 122) X56 hx (hb hby at_119) rfl (feq (by decide)).1 ?_
    refine own_aload (pc' := 124) X56 hx (hb hby at_122) rfl rfl rfl ?_
    refine own_iconst (pc' := 125) (z := (4 : Int32)) X56 hx (hb hby at_124) rfl rfl ?_
    refine own_iload (pc' := 127) X56 hx (hb hby at_125) rfl rfl ?_
    refine own_iloadN (pc' := 128) X56 hx (hb hby at_127) rfl rfl ?_
    refine own_iloadN (pc' := 129) X56 hx (hb hby at_128) rfl rfl ?_
    refine own_iloadN (pc' := 130) X56 hx (hb hby at_129) rfl rfl ?_
    refine own_callS (pc' := 133) (y := (⟨"com/example/corbel/corbel/bytecode/BytesU2AtPinLaw", "ok", "([BIIIII)Z"⟩ : MethodName)) (W := 0) (rm := own_room11_4) (argsL := [(.ref ra49), (.int (4 : Int32)), (.int (0 : Int32)), (.int p3), (.int p0), (.int p1)]) (rest := []) X56 hx hZ Kq56 hown (by rw [hml]; rfl) (own_w58 hw) (own_w59 hw) (own_w60 hw) (own_w61 hw) (by decide) (own_rm11_4 lch Z a0 hw [] ra49 (0 : Int32) p3 p0 p1 rk49 (own_b (own_ushr p3 (8 : Int32))) (own_b p3) (own_b (own_ushr p0 (8 : Int32))) (own_b p0) (own_b (own_ushr p1 (8 : Int32))) (own_b p1) T49.heap n0 G49_1 (by unfold own_e own_orig; rw [if_neg (by decide), if_neg (by decide), if_neg (by decide), if_neg (by decide), if_neg (by decide), if_neg (by decide), if_pos rfl])) (by decide) (by decide) (by decide) (by decide) (lenOf own_pd8 rfl) rfl (by exact Nat.le_of_eq rfl) (hb hby at_130) rfl ?_
    intro T57 Lc57 v57 X57 hQ57
    obtain ⟨rfl, Nq57, Kq57⟩ := hQ57
    have N57 := Fr.app N56 Nq57
    show own_Ends prg e below s _ _ _ T57 (mkF m 133 #[.val (.int p0), .val (.int p1), .val (.int p2), .val (.int p3), .val (.int (0 : Int32)), .val (.ref a32), .val (.ref ra49)] [(.int (1 : Int32))])
    refine own_ifNo (pc' := 136) X57 hx (hb hby at_133) rfl (feq (by decide)).1 ?_
    refine own_aload (pc' := 138) X57 hx (hb hby at_136) rfl rfl rfl ?_
    refine own_iconst (pc' := 139) (z := (5 : Int32)) X57 hx (hb hby at_138) rfl rfl ?_
    refine own_iload (pc' := 141) X57 hx (hb hby at_139) rfl rfl ?_
    refine own_iloadN (pc' := 142) X57 hx (hb hby at_141) rfl rfl ?_
    refine own_iloadN (pc' := 143) X57 hx (hb hby at_142) rfl rfl ?_
    refine own_iloadN (pc' := 144) X57 hx (hb hby at_143) rfl rfl ?_
    refine own_callS (pc' := 147) (y := (⟨"com/example/corbel/corbel/bytecode/BytesU2AtPinLaw", "ok", "([BIIIII)Z"⟩ : MethodName)) (W := 0) (rm := own_room11_5) (argsL := [(.ref ra49), (.int (5 : Int32)), (.int (0 : Int32)), (.int p3), (.int p0), (.int p1)]) (rest := []) X57 hx hZ Kq57 hown (by rw [hml]; rfl) (own_w58 hw) (own_w59 hw) (own_w60 hw) (own_w61 hw) (by decide) (own_rm11_5 lch Z a0 hw [] ra49 (0 : Int32) p3 p0 p1 rk49 (own_b (own_ushr p3 (8 : Int32))) (own_b p3) (own_b (own_ushr p0 (8 : Int32))) (own_b p0) (own_b (own_ushr p1 (8 : Int32))) (own_b p1) T49.heap n0 G49_1 (by unfold own_e own_orig; rw [if_neg (by decide), if_neg (by decide), if_neg (by decide), if_neg (by decide), if_neg (by decide), if_neg (by decide), if_neg (by decide)])) (by decide) (by decide) (by decide) (by decide) (lenOf own_pd8 rfl) rfl (by exact Nat.le_of_eq rfl) (hb hby at_144) rfl ?_
    intro T58 Lc58 v58 X58 hQ58
    obtain ⟨rfl, Nq58, Kq58⟩ := hQ58
    have N58 := Fr.app N57 Nq58
    show own_Ends prg e below s _ _ _ T58 (mkF m 147 #[.val (.int p0), .val (.int p1), .val (.int p2), .val (.int p3), .val (.int (0 : Int32)), .val (.ref a32), .val (.ref ra49)] [(.int (1 : Int32))])
    refine own_ifNo (pc' := 150) X58 hx (hb hby at_147) rfl (feq (by decide)).1 ?_
    refine own_iconst (pc' := 151) (z := (1 : Int32)) X58 hx (hb hby at_150) rfl rfl ?_
    refine own_goto (pc' := 155) X58 hx (hb hby at_151) (by decide) (by decide) ?_
    refine own_retN X58 hx hlk hret (by simp) (hb hby at_155) (by decide) (by decide) ?_
    exact ⟨rfl, N58⟩
  · refine own_aload (pc' := 31) X43 hx (hb hby at_29) rfl rfl rfl ?_
    refine own_iload (pc' := 33) X43 hx (hb hby at_31) rfl rfl ?_
    refine own_iloadN (pc' := 34) X43 hx (hb hby at_33) rfl rfl ?_
    have f59 := (f42.keep Kq43)
    refine own_callV (pc' := 37) (y := (⟨"com/example/corbel/corbel/bytecode/Bytes", "u2At", "(II)V"⟩ : MethodName)) (W := 0) (rm := own_room6_1) (argsL := [(.int (1 : Int32)), (.int p3)]) (rest := []) (b := a32) (C := "com/example/corbel/corbel/bytecode/Bytes") X43 hx hZ rfl hown (by rw [hml]; rfl) f59 (own_w31 hw) (own_w32 hw) (own_w34 hw) (own_w33 hw) (own_w3 hw) (own_w35 hw) (by decide) (own_rm6_1 lch Z a0 hw [] a32 p3 b37 bk37 (own_b (own_ushr (own_ushr p0 (16 : Int32)) (8 : Int32))) (own_b (own_ushr p0 (16 : Int32))) (own_b (own_ushr p0 (8 : Int32))) (own_b p0) (own_b (own_ushr p1 (8 : Int32))) (own_b p1) T43.heap n0 f59 G43_0 G43_1 G43_2 ge33 ge38 ne39) (by decide) (by decide) (by decide) (by decide) (lenOf own_pd5 rfl) rfl (by exact Nat.le_of_eq rfl) (hb hby at_34) rfl ?_
    intro T60 Lc60 v60 X60 hQ60
    obtain ⟨rfl, Nq60, Kq60, G60_0, G60_1, G60_2⟩ := hQ60
    have N60 := Fr.app N43 Nq60
    show own_Ends prg e below s _ _ _ T60 (mkF m 37 #[.val (.int p0), .val (.int p1), .val (.int p2), .val (.int p3), .val (.int (1 : Int32)), .val (.ref a32), .unset] [])
    refine own_aload (pc' := 39) X60 hx (hb hby at_37) rfl rfl rfl ?_
    have f62 := (f59.keep Kq60)
    refine own_callV (pc' := 42) (y := (⟨"com/example/corbel/corbel/bytecode/Bytes", "length", "()I"⟩ : MethodName)) (W := 0) (rm := own_room7) (argsL := []) (rest := []) (b := a32) (C := "com/example/corbel/corbel/bytecode/Bytes") X60 hx hZ rfl hown (by rw [hml]; rfl) f62 (own_w36 hw) (own_w37 hw) (own_w39 hw) (own_w38 hw) (own_w3 hw) (own_w40 hw) (by decide) (own_rm7 lch Z a0 hw [] a32 T60.heap n0 G60_1) (by decide) (by decide) (by decide) (by decide) (lenOf own_pd6 rfl) rfl (by exact Nat.le_of_eq rfl) (hb hby at_39) rfl ?_
    intro T61 Lc61 v61 X61 hQ61
    obtain ⟨rfl, Nq61, Kq61⟩ := hQ61
    have N61 := Fr.app N60 Nq61
    show own_Ends prg e below s _ _ _ T61 (mkF m 42 #[.val (.int p0), .val (.int p1), .val (.int p2), .val (.int p3), .val (.int (1 : Int32)), .val (.ref a32), .unset] [(.int (6 : Int32))])
    refine own_bipush (pc' := 44) (z := (6 : Int32)) X61 hx (hb hby at_42) rfl rfl ?_
    refine own_icmpYes (pc' := 49) X61 hx (hb hby at_44) (teq (by decide)).1 (by decide) (by decide) ?_
    refine own_aload (pc' := 51) X61 hx (hb hby at_49) rfl rfl rfl ?_
    have f63 := (Nat.le_trans (Nat.le_trans (Nat.le_trans (Nat.le_trans f36 Kq37.1) Kq41.1) Kq43.1) Kq60.1)
    refine own_callV (pc' := 54) (y := (⟨"com/example/corbel/corbel/bytecode/Bytes", "toArray", "()[B"⟩ : MethodName)) (W := 0) (rm := own_room8) (argsL := []) (rest := []) (b := a32) (C := "com/example/corbel/corbel/bytecode/Bytes") X61 hx hZ Kq61 hown (by rw [hml]; rfl) f62 (own_w41 hw) (own_w42 hw) (own_w44 hw) (own_w43 hw) (own_w3 hw) (own_w45 hw) (by decide) (own_rm8 lch Z a0 hw [] a32 b37 bk37 (own_b (own_ushr (own_ushr p0 (16 : Int32)) (8 : Int32))) (own_b (own_ushr p3 (8 : Int32))) (own_b p3) (own_b p0) (own_b (own_ushr p1 (8 : Int32))) (own_b p1) T60.heap n0 f63 f62 G60_0 G60_1 G60_2 ge33 ge38 ne39) (by decide) (by decide) (by decide) (by decide) (lenOf own_pd7 rfl) rfl (by exact Nat.le_of_eq rfl) (hb hby at_51) rfl ?_
    intro T64 Lc64 v64 X64 hQ64
    obtain ⟨ra64, rk64, rfl, Nq64, Kq64, G64_0, G64_1⟩ := hQ64
    have N64 := Fr.app N61 Nq64
    have ge65 : n0 ≤ ra64 := Nat.le_trans f63 G64_0
    have ne66 : a32 ≠ ra64 := Nat.ne_of_lt (Nat.lt_of_lt_of_le f62.lt G64_0)
    have ne67 : b37 ≠ ra64 := Nat.ne_of_lt (Nat.lt_of_lt_of_le G60_2.lt G64_0)
    show own_Ends prg e below s _ _ _ T64 (mkF m 54 #[.val (.int p0), .val (.int p1), .val (.int p2), .val (.int p3), .val (.int (1 : Int32)), .val (.ref a32), .unset] [(.ref ra64)])
    refine own_astore (pc' := 56) (l' := #[.val (.int p0), .val (.int p1), .val (.int p2), .val (.int p3), .val (.int (1 : Int32)), .val (.ref a32), .val (.ref ra64)]) X64 hx (hb hby at_54) rfl rfl rfl ?_
    refine own_aload (pc' := 58) X64 hx (hb hby at_56) rfl rfl rfl ?_
    refine own_alen (pc' := 59) X64 hx hZ rfl G64_1 (hb hby at_58) rfl ?_
    refine own_bipush (pc' := 61) (z := (6 : Int32)) X64 hx (hb hby at_59) rfl rfl ?_
    refine own_icmpYes (pc' := 66) X64 hx (hb hby at_61) (teq (by decide)).1 (by decide) (by decide) ?_
    refine own_aload (pc' := 68) X64 hx (hb hby at_66) rfl rfl rfl ?_
    refine own_iconst (pc' := 69) (z := (0 : Int32)) X64 hx (hb hby at_68) rfl rfl ?_
    refine own_iload (pc' := 71) X64 hx (hb hby at_69) rfl rfl ?_
    refine own_iloadN (pc' := 72) X64 hx (hb hby at_71) rfl rfl ?_
    refine own_iloadN (pc' := 73) X64 hx (hb hby at_72) rfl rfl ?_
    refine own_iloadN (pc' := 74) X64 hx (hb hby at_73) rfl rfl ?_
    refine own_callS (pc' := 77) (y := (⟨"com/example/corbel/corbel/bytecode/BytesU2AtPinLaw", "ok", "([BIIIII)Z"⟩ : MethodName)) (W := 0) (rm := own_room11_0) (argsL := [(.ref ra64), (.int (0 : Int32)), (.int (1 : Int32)), (.int p3), (.int p0), (.int p1)]) (rest := []) X64 hx hZ rfl hown (by rw [hml]; rfl) (own_w58 hw) (own_w59 hw) (own_w60 hw) (own_w61 hw) (by decide) (own_rm11_0 lch Z a0 hw [] ra64 (1 : Int32) p3 p0 p1 rk64 (own_b (own_ushr (own_ushr p0 (16 : Int32)) (8 : Int32))) (own_b (own_ushr p3 (8 : Int32))) (own_b p3) (own_b p0) (own_b (own_ushr p1 (8 : Int32))) (own_b p1) T64.heap n0 G64_1 (by unfold own_e own_orig; rw [if_neg (by decide), if_neg (by decide), if_pos rfl]; rw [own_24])) (by decide) (by decide) (by decide) (by decide) (lenOf own_pd8 rfl) rfl (by exact Nat.le_of_eq rfl) (hb hby at_74) rfl ?_
    intro T68 Lc68 v68 X68 hQ68
    obtain ⟨rfl, Nq68, Kq68⟩ := hQ68
    have N68 := Fr.app N64 Nq68
    show own_Ends prg e below s _ _ _ T68 (mkF m 77 #[.val (.int p0), .val (.int p1), .val (.int p2), .val (.int p3), .val (.int (1 : Int32)), .val (.ref a32), .val (.ref ra64)] [(.int (1 : Int32))])
    refine own_ifNo (pc' := 80) X68 hx (hb hby at_77) rfl (feq (by decide)).1 ?_
    refine own_aload (pc' := 82) X68 hx (hb hby at_80) rfl rfl rfl ?_
    refine own_iconst (pc' := 83) (z := (1 : Int32)) X68 hx (hb hby at_82) rfl rfl ?_
    refine own_iload (pc' := 85) X68 hx (hb hby at_83) rfl rfl ?_
    refine own_iloadN (pc' := 86) X68 hx (hb hby at_85) rfl rfl ?_
    refine own_iloadN (pc' := 87) X68 hx (hb hby at_86) rfl rfl ?_
    refine own_iloadN (pc' := 88) X68 hx (hb hby at_87) rfl rfl ?_
    refine own_callS (pc' := 91) (y := (⟨"com/example/corbel/corbel/bytecode/BytesU2AtPinLaw", "ok", "([BIIIII)Z"⟩ : MethodName)) (W := 0) (rm := own_room11_1) (argsL := [(.ref ra64), (.int (1 : Int32)), (.int (1 : Int32)), (.int p3), (.int p0), (.int p1)]) (rest := []) X68 hx hZ Kq68 hown (by rw [hml]; rfl) (own_w58 hw) (own_w59 hw) (own_w60 hw) (own_w61 hw) (by decide) (own_rm11_1 lch Z a0 hw [] ra64 (1 : Int32) p3 p0 p1 rk64 (own_b (own_ushr (own_ushr p0 (16 : Int32)) (8 : Int32))) (own_b (own_ushr p3 (8 : Int32))) (own_b p3) (own_b p0) (own_b (own_ushr p1 (8 : Int32))) (own_b p1) T64.heap n0 G64_1 (by unfold own_e; rw [if_pos (by decide)])) (by decide) (by decide) (by decide) (by decide) (lenOf own_pd8 rfl) rfl (by exact Nat.le_of_eq rfl) (hb hby at_88) rfl ?_
    intro T69 Lc69 v69 X69 hQ69
    obtain ⟨rfl, Nq69, Kq69⟩ := hQ69
    have N69 := Fr.app N68 Nq69
    show own_Ends prg e below s _ _ _ T69 (mkF m 91 #[.val (.int p0), .val (.int p1), .val (.int p2), .val (.int p3), .val (.int (1 : Int32)), .val (.ref a32), .val (.ref ra64)] [(.int (1 : Int32))])
    refine own_ifNo (pc' := 94) X69 hx (hb hby at_91) rfl (feq (by decide)).1 ?_
    refine own_aload (pc' := 96) X69 hx (hb hby at_94) rfl rfl rfl ?_
    refine own_iconst (pc' := 97) (z := (2 : Int32)) X69 hx (hb hby at_96) rfl rfl ?_
    refine own_iload (pc' := 99) X69 hx (hb hby at_97) rfl rfl ?_
    refine own_iloadN (pc' := 100) X69 hx (hb hby at_99) rfl rfl ?_
    refine own_iloadN (pc' := 101) X69 hx (hb hby at_100) rfl rfl ?_
    refine own_iloadN (pc' := 102) X69 hx (hb hby at_101) rfl rfl ?_
    refine own_callS (pc' := 105) (y := (⟨"com/example/corbel/corbel/bytecode/BytesU2AtPinLaw", "ok", "([BIIIII)Z"⟩ : MethodName)) (W := 0) (rm := own_room11_2) (argsL := [(.ref ra64), (.int (2 : Int32)), (.int (1 : Int32)), (.int p3), (.int p0), (.int p1)]) (rest := []) X69 hx hZ Kq69 hown (by rw [hml]; rfl) (own_w58 hw) (own_w59 hw) (own_w60 hw) (own_w61 hw) (by decide) (own_rm11_2 lch Z a0 hw [] ra64 (1 : Int32) p3 p0 p1 rk64 (own_b (own_ushr (own_ushr p0 (16 : Int32)) (8 : Int32))) (own_b (own_ushr p3 (8 : Int32))) (own_b p3) (own_b p0) (own_b (own_ushr p1 (8 : Int32))) (own_b p1) T64.heap n0 G64_1 (by unfold own_e; rw [if_neg (by decide), if_pos (by decide)])) (by decide) (by decide) (by decide) (by decide) (lenOf own_pd8 rfl) rfl (by exact Nat.le_of_eq rfl) (hb hby at_102) rfl ?_
    intro T70 Lc70 v70 X70 hQ70
    obtain ⟨rfl, Nq70, Kq70⟩ := hQ70
    have N70 := Fr.app N69 Nq70
    show own_Ends prg e below s _ _ _ T70 (mkF m 105 #[.val (.int p0), .val (.int p1), .val (.int p2), .val (.int p3), .val (.int (1 : Int32)), .val (.ref a32), .val (.ref ra64)] [(.int (1 : Int32))])
    refine own_ifNo (pc' := 108) X70 hx (hb hby at_105) rfl (feq (by decide)).1 ?_
    refine own_aload (pc' := 110) X70 hx (hb hby at_108) rfl rfl rfl ?_
    refine own_iconst (pc' := 111) (z := (3 : Int32)) X70 hx (hb hby at_110) rfl rfl ?_
    refine own_iload (pc' := 113) X70 hx (hb hby at_111) rfl rfl ?_
    refine own_iloadN (pc' := 114) X70 hx (hb hby at_113) rfl rfl ?_
    refine own_iloadN (pc' := 115) X70 hx (hb hby at_114) rfl rfl ?_
    refine own_iloadN (pc' := 116) X70 hx (hb hby at_115) rfl rfl ?_
    refine own_callS (pc' := 119) (y := (⟨"com/example/corbel/corbel/bytecode/BytesU2AtPinLaw", "ok", "([BIIIII)Z"⟩ : MethodName)) (W := 0) (rm := own_room11_3) (argsL := [(.ref ra64), (.int (3 : Int32)), (.int (1 : Int32)), (.int p3), (.int p0), (.int p1)]) (rest := []) X70 hx hZ Kq70 hown (by rw [hml]; rfl) (own_w58 hw) (own_w59 hw) (own_w60 hw) (own_w61 hw) (by decide) (own_rm11_3 lch Z a0 hw [] ra64 (1 : Int32) p3 p0 p1 rk64 (own_b (own_ushr (own_ushr p0 (16 : Int32)) (8 : Int32))) (own_b (own_ushr p3 (8 : Int32))) (own_b p3) (own_b p0) (own_b (own_ushr p1 (8 : Int32))) (own_b p1) T64.heap n0 G64_1 (by unfold own_e own_orig; rw [if_neg (by decide), if_neg (by decide), if_neg (by decide), if_neg (by decide), if_neg (by decide), if_pos rfl])) (by decide) (by decide) (by decide) (by decide) (lenOf own_pd8 rfl) rfl (by exact Nat.le_of_eq rfl) (hb hby at_116) rfl ?_
    intro T71 Lc71 v71 X71 hQ71
    obtain ⟨rfl, Nq71, Kq71⟩ := hQ71
    have N71 := Fr.app N70 Nq71
    show own_Ends prg e below s _ _ _ T71 (mkF m 119 #[.val (.int p0), .val (.int p1), .val (.int p2), .val (.int p3), .val (.int (1 : Int32)), .val (.ref a32), .val (.ref ra64)] [(.int (1 : Int32))])
    refine own_ifNo (pc' := 122) X71 hx (hb hby at_119) rfl (feq (by decide)).1 ?_
    refine own_aload (pc' := 124) X71 hx (hb hby at_122) rfl rfl rfl ?_
    refine own_iconst (pc' := 125) (z := (4 : Int32)) X71 hx (hb hby at_124) rfl rfl ?_
    refine own_iload (pc' := 127) X71 hx (hb hby at_125) rfl rfl ?_
    refine own_iloadN (pc' := 128) X71 hx (hb hby at_127) rfl rfl ?_
    refine own_iloadN (pc' := 129) X71 hx (hb hby at_128) rfl rfl ?_
    refine own_iloadN (pc' := 130) X71 hx (hb hby at_129) rfl rfl ?_
    refine own_callS (pc' := 133) (y := (⟨"com/example/corbel/corbel/bytecode/BytesU2AtPinLaw", "ok", "([BIIIII)Z"⟩ : MethodName)) (W := 0) (rm := own_room11_4) (argsL := [(.ref ra64), (.int (4 : Int32)), (.int (1 : Int32)), (.int p3), (.int p0), (.int p1)]) (rest := []) X71 hx hZ Kq71 hown (by rw [hml]; rfl) (own_w58 hw) (own_w59 hw) (own_w60 hw) (own_w61 hw) (by decide) (own_rm11_4 lch Z a0 hw [] ra64 (1 : Int32) p3 p0 p1 rk64 (own_b (own_ushr (own_ushr p0 (16 : Int32)) (8 : Int32))) (own_b (own_ushr p3 (8 : Int32))) (own_b p3) (own_b p0) (own_b (own_ushr p1 (8 : Int32))) (own_b p1) T64.heap n0 G64_1 (by unfold own_e own_orig; rw [if_neg (by decide), if_neg (by decide), if_neg (by decide), if_neg (by decide), if_neg (by decide), if_neg (by decide), if_pos rfl])) (by decide) (by decide) (by decide) (by decide) (lenOf own_pd8 rfl) rfl (by exact Nat.le_of_eq rfl) (hb hby at_130) rfl ?_
    intro T72 Lc72 v72 X72 hQ72
    obtain ⟨rfl, Nq72, Kq72⟩ := hQ72
    have N72 := Fr.app N71 Nq72
    show own_Ends prg e below s _ _ _ T72 (mkF m 133 #[.val (.int p0), .val (.int p1), .val (.int p2), .val (.int p3), .val (.int (1 : Int32)), .val (.ref a32), .val (.ref ra64)] [(.int (1 : Int32))])
    refine own_ifNo (pc' := 136) X72 hx (hb hby at_133) rfl (feq (by decide)).1 ?_
    refine own_aload (pc' := 138) X72 hx (hb hby at_136) rfl rfl rfl ?_
    refine own_iconst (pc' := 139) (z := (5 : Int32)) X72 hx (hb hby at_138) rfl rfl ?_
    refine own_iload (pc' := 141) X72 hx (hb hby at_139) rfl rfl ?_
    refine own_iloadN (pc' := 142) X72 hx (hb hby at_141) rfl rfl ?_
    refine own_iloadN (pc' := 143) X72 hx (hb hby at_142) rfl rfl ?_
    refine own_iloadN (pc' := 144) X72 hx (hb hby at_143) rfl rfl ?_
    refine own_callS (pc' := 147) (y := (⟨"com/example/corbel/corbel/bytecode/BytesU2AtPinLaw", "ok", "([BIIIII)Z"⟩ : MethodName)) (W := 0) (rm := own_room11_5) (argsL := [(.ref ra64), (.int (5 : Int32)), (.int (1 : Int32)), (.int p3), (.int p0), (.int p1)]) (rest := []) X72 hx hZ Kq72 hown (by rw [hml]; rfl) (own_w58 hw) (own_w59 hw) (own_w60 hw) (own_w61 hw) (by decide) (own_rm11_5 lch Z a0 hw [] ra64 (1 : Int32) p3 p0 p1 rk64 (own_b (own_ushr (own_ushr p0 (16 : Int32)) (8 : Int32))) (own_b (own_ushr p3 (8 : Int32))) (own_b p3) (own_b p0) (own_b (own_ushr p1 (8 : Int32))) (own_b p1) T64.heap n0 G64_1 (by unfold own_e own_orig; rw [if_neg (by decide), if_neg (by decide), if_neg (by decide), if_neg (by decide), if_neg (by decide), if_neg (by decide), if_neg (by decide)])) (by decide) (by decide) (by decide) (by decide) (lenOf own_pd8 rfl) rfl (by exact Nat.le_of_eq rfl) (hb hby at_144) rfl ?_
    intro T73 Lc73 v73 X73 hQ73
    obtain ⟨rfl, Nq73, Kq73⟩ := hQ73
    have N73 := Fr.app N72 Nq73
    show own_Ends prg e below s _ _ _ T73 (mkF m 147 #[.val (.int p0), .val (.int p1), .val (.int p2), .val (.int p3), .val (.int (1 : Int32)), .val (.ref a32), .val (.ref ra64)] [(.int (1 : Int32))])
    refine own_ifNo (pc' := 150) X73 hx (hb hby at_147) rfl (feq (by decide)).1 ?_
    refine own_iconst (pc' := 151) (z := (1 : Int32)) X73 hx (hb hby at_150) rfl rfl ?_
    refine own_goto (pc' := 155) X73 hx (hb hby at_151) (by decide) (by decide) ?_
    refine own_retN X73 hx hlk hret (by simp) (hb hby at_155) (by decide) (by decide) ?_
    exact ⟨rfl, N73⟩
  · refine own_aload (pc' := 31) X43 hx (hb hby at_29) rfl rfl rfl ?_
    refine own_iload (pc' := 33) X43 hx (hb hby at_31) rfl rfl ?_
    refine own_iloadN (pc' := 34) X43 hx (hb hby at_33) rfl rfl ?_
    have f74 := (f42.keep Kq43)
    refine own_callV (pc' := 37) (y := (⟨"com/example/corbel/corbel/bytecode/Bytes", "u2At", "(II)V"⟩ : MethodName)) (W := 0) (rm := own_room6_2) (argsL := [(.int (2 : Int32)), (.int p3)]) (rest := []) (b := a32) (C := "com/example/corbel/corbel/bytecode/Bytes") X43 hx hZ rfl hown (by rw [hml]; rfl) f74 (own_w31 hw) (own_w32 hw) (own_w34 hw) (own_w33 hw) (own_w3 hw) (own_w35 hw) (by decide) (own_rm6_2 lch Z a0 hw [] a32 p3 b37 bk37 (own_b (own_ushr (own_ushr p0 (16 : Int32)) (8 : Int32))) (own_b (own_ushr p0 (16 : Int32))) (own_b (own_ushr p0 (8 : Int32))) (own_b p0) (own_b (own_ushr p1 (8 : Int32))) (own_b p1) T43.heap n0 f74 G43_0 G43_1 G43_2 ge33 ge38 ne39) (by decide) (by decide) (by decide) (by decide) (lenOf own_pd5 rfl) rfl (by exact Nat.le_of_eq rfl) (hb hby at_34) rfl ?_
    intro T75 Lc75 v75 X75 hQ75
    obtain ⟨rfl, Nq75, Kq75, G75_0, G75_1, G75_2⟩ := hQ75
    have N75 := Fr.app N43 Nq75
    show own_Ends prg e below s _ _ _ T75 (mkF m 37 #[.val (.int p0), .val (.int p1), .val (.int p2), .val (.int p3), .val (.int (2 : Int32)), .val (.ref a32), .unset] [])
    refine own_aload (pc' := 39) X75 hx (hb hby at_37) rfl rfl rfl ?_
    have f77 := (f74.keep Kq75)
    refine own_callV (pc' := 42) (y := (⟨"com/example/corbel/corbel/bytecode/Bytes", "length", "()I"⟩ : MethodName)) (W := 0) (rm := own_room7) (argsL := []) (rest := []) (b := a32) (C := "com/example/corbel/corbel/bytecode/Bytes") X75 hx hZ rfl hown (by rw [hml]; rfl) f77 (own_w36 hw) (own_w37 hw) (own_w39 hw) (own_w38 hw) (own_w3 hw) (own_w40 hw) (by decide) (own_rm7 lch Z a0 hw [] a32 T75.heap n0 G75_1) (by decide) (by decide) (by decide) (by decide) (lenOf own_pd6 rfl) rfl (by exact Nat.le_of_eq rfl) (hb hby at_39) rfl ?_
    intro T76 Lc76 v76 X76 hQ76
    obtain ⟨rfl, Nq76, Kq76⟩ := hQ76
    have N76 := Fr.app N75 Nq76
    show own_Ends prg e below s _ _ _ T76 (mkF m 42 #[.val (.int p0), .val (.int p1), .val (.int p2), .val (.int p3), .val (.int (2 : Int32)), .val (.ref a32), .unset] [(.int (6 : Int32))])
    refine own_bipush (pc' := 44) (z := (6 : Int32)) X76 hx (hb hby at_42) rfl rfl ?_
    refine own_icmpYes (pc' := 49) X76 hx (hb hby at_44) (teq (by decide)).1 (by decide) (by decide) ?_
    refine own_aload (pc' := 51) X76 hx (hb hby at_49) rfl rfl rfl ?_
    have f78 := (Nat.le_trans (Nat.le_trans (Nat.le_trans (Nat.le_trans f36 Kq37.1) Kq41.1) Kq43.1) Kq75.1)
    refine own_callV (pc' := 54) (y := (⟨"com/example/corbel/corbel/bytecode/Bytes", "toArray", "()[B"⟩ : MethodName)) (W := 0) (rm := own_room8) (argsL := []) (rest := []) (b := a32) (C := "com/example/corbel/corbel/bytecode/Bytes") X76 hx hZ Kq76 hown (by rw [hml]; rfl) f77 (own_w41 hw) (own_w42 hw) (own_w44 hw) (own_w43 hw) (own_w3 hw) (own_w45 hw) (by decide) (own_rm8 lch Z a0 hw [] a32 b37 bk37 (own_b (own_ushr (own_ushr p0 (16 : Int32)) (8 : Int32))) (own_b (own_ushr p0 (16 : Int32))) (own_b (own_ushr p3 (8 : Int32))) (own_b p3) (own_b (own_ushr p1 (8 : Int32))) (own_b p1) T75.heap n0 f78 f77 G75_0 G75_1 G75_2 ge33 ge38 ne39) (by decide) (by decide) (by decide) (by decide) (lenOf own_pd7 rfl) rfl (by exact Nat.le_of_eq rfl) (hb hby at_51) rfl ?_
    intro T79 Lc79 v79 X79 hQ79
    obtain ⟨ra79, rk79, rfl, Nq79, Kq79, G79_0, G79_1⟩ := hQ79
    have N79 := Fr.app N76 Nq79
    have ge80 : n0 ≤ ra79 := Nat.le_trans f78 G79_0
    have ne81 : a32 ≠ ra79 := Nat.ne_of_lt (Nat.lt_of_lt_of_le f77.lt G79_0)
    have ne82 : b37 ≠ ra79 := Nat.ne_of_lt (Nat.lt_of_lt_of_le G75_2.lt G79_0)
    show own_Ends prg e below s _ _ _ T79 (mkF m 54 #[.val (.int p0), .val (.int p1), .val (.int p2), .val (.int p3), .val (.int (2 : Int32)), .val (.ref a32), .unset] [(.ref ra79)])
    refine own_astore (pc' := 56) (l' := #[.val (.int p0), .val (.int p1), .val (.int p2), .val (.int p3), .val (.int (2 : Int32)), .val (.ref a32), .val (.ref ra79)]) X79 hx (hb hby at_54) rfl rfl rfl ?_
    refine own_aload (pc' := 58) X79 hx (hb hby at_56) rfl rfl rfl ?_
    refine own_alen (pc' := 59) X79 hx hZ rfl G79_1 (hb hby at_58) rfl ?_
    refine own_bipush (pc' := 61) (z := (6 : Int32)) X79 hx (hb hby at_59) rfl rfl ?_
    refine own_icmpYes (pc' := 66) X79 hx (hb hby at_61) (teq (by decide)).1 (by decide) (by decide) ?_
    refine own_aload (pc' := 68) X79 hx (hb hby at_66) rfl rfl rfl ?_
    refine own_iconst (pc' := 69) (z := (0 : Int32)) X79 hx (hb hby at_68) rfl rfl ?_
    refine own_iload (pc' := 71) X79 hx (hb hby at_69) rfl rfl ?_
    refine own_iloadN (pc' := 72) X79 hx (hb hby at_71) rfl rfl ?_
    refine own_iloadN (pc' := 73) X79 hx (hb hby at_72) rfl rfl ?_
    refine own_iloadN (pc' := 74) X79 hx (hb hby at_73) rfl rfl ?_
    refine own_callS (pc' := 77) (y := (⟨"com/example/corbel/corbel/bytecode/BytesU2AtPinLaw", "ok", "([BIIIII)Z"⟩ : MethodName)) (W := 0) (rm := own_room11_0) (argsL := [(.ref ra79), (.int (0 : Int32)), (.int (2 : Int32)), (.int p3), (.int p0), (.int p1)]) (rest := []) X79 hx hZ rfl hown (by rw [hml]; rfl) (own_w58 hw) (own_w59 hw) (own_w60 hw) (own_w61 hw) (by decide) (own_rm11_0 lch Z a0 hw [] ra79 (2 : Int32) p3 p0 p1 rk79 (own_b (own_ushr (own_ushr p0 (16 : Int32)) (8 : Int32))) (own_b (own_ushr p0 (16 : Int32))) (own_b (own_ushr p3 (8 : Int32))) (own_b p3) (own_b (own_ushr p1 (8 : Int32))) (own_b p1) T79.heap n0 G79_1 (by unfold own_e own_orig; rw [if_neg (by decide), if_neg (by decide), if_pos rfl]; rw [own_24])) (by decide) (by decide) (by decide) (by decide) (lenOf own_pd8 rfl) rfl (by exact Nat.le_of_eq rfl) (hb hby at_74) rfl ?_
    intro T83 Lc83 v83 X83 hQ83
    obtain ⟨rfl, Nq83, Kq83⟩ := hQ83
    have N83 := Fr.app N79 Nq83
    show own_Ends prg e below s _ _ _ T83 (mkF m 77 #[.val (.int p0), .val (.int p1), .val (.int p2), .val (.int p3), .val (.int (2 : Int32)), .val (.ref a32), .val (.ref ra79)] [(.int (1 : Int32))])
    refine own_ifNo (pc' := 80) X83 hx (hb hby at_77) rfl (feq (by decide)).1 ?_
    refine own_aload (pc' := 82) X83 hx (hb hby at_80) rfl rfl rfl ?_
    refine own_iconst (pc' := 83) (z := (1 : Int32)) X83 hx (hb hby at_82) rfl rfl ?_
    refine own_iload (pc' := 85) X83 hx (hb hby at_83) rfl rfl ?_
    refine own_iloadN (pc' := 86) X83 hx (hb hby at_85) rfl rfl ?_
    refine own_iloadN (pc' := 87) X83 hx (hb hby at_86) rfl rfl ?_
    refine own_iloadN (pc' := 88) X83 hx (hb hby at_87) rfl rfl ?_
    refine own_callS (pc' := 91) (y := (⟨"com/example/corbel/corbel/bytecode/BytesU2AtPinLaw", "ok", "([BIIIII)Z"⟩ : MethodName)) (W := 0) (rm := own_room11_1) (argsL := [(.ref ra79), (.int (1 : Int32)), (.int (2 : Int32)), (.int p3), (.int p0), (.int p1)]) (rest := []) X83 hx hZ Kq83 hown (by rw [hml]; rfl) (own_w58 hw) (own_w59 hw) (own_w60 hw) (own_w61 hw) (by decide) (own_rm11_1 lch Z a0 hw [] ra79 (2 : Int32) p3 p0 p1 rk79 (own_b (own_ushr (own_ushr p0 (16 : Int32)) (8 : Int32))) (own_b (own_ushr p0 (16 : Int32))) (own_b (own_ushr p3 (8 : Int32))) (own_b p3) (own_b (own_ushr p1 (8 : Int32))) (own_b p1) T79.heap n0 G79_1 (by unfold own_e own_orig; rw [if_neg (by decide), if_neg (by decide), if_neg (by decide), if_pos rfl])) (by decide) (by decide) (by decide) (by decide) (lenOf own_pd8 rfl) rfl (by exact Nat.le_of_eq rfl) (hb hby at_88) rfl ?_
    intro T84 Lc84 v84 X84 hQ84
    obtain ⟨rfl, Nq84, Kq84⟩ := hQ84
    have N84 := Fr.app N83 Nq84
    show own_Ends prg e below s _ _ _ T84 (mkF m 91 #[.val (.int p0), .val (.int p1), .val (.int p2), .val (.int p3), .val (.int (2 : Int32)), .val (.ref a32), .val (.ref ra79)] [(.int (1 : Int32))])
    refine own_ifNo (pc' := 94) X84 hx (hb hby at_91) rfl (feq (by decide)).1 ?_
    refine own_aload (pc' := 96) X84 hx (hb hby at_94) rfl rfl rfl ?_
    refine own_iconst (pc' := 97) (z := (2 : Int32)) X84 hx (hb hby at_96) rfl rfl ?_
    refine own_iload (pc' := 99) X84 hx (hb hby at_97) rfl rfl ?_
    refine own_iloadN (pc' := 100) X84 hx (hb hby at_99) rfl rfl ?_
    refine own_iloadN (pc' := 101) X84 hx (hb hby at_100) rfl rfl ?_
    refine own_iloadN (pc' := 102) X84 hx (hb hby at_101) rfl rfl ?_
    refine own_callS (pc' := 105) (y := (⟨"com/example/corbel/corbel/bytecode/BytesU2AtPinLaw", "ok", "([BIIIII)Z"⟩ : MethodName)) (W := 0) (rm := own_room11_2) (argsL := [(.ref ra79), (.int (2 : Int32)), (.int (2 : Int32)), (.int p3), (.int p0), (.int p1)]) (rest := []) X84 hx hZ Kq84 hown (by rw [hml]; rfl) (own_w58 hw) (own_w59 hw) (own_w60 hw) (own_w61 hw) (by decide) (own_rm11_2 lch Z a0 hw [] ra79 (2 : Int32) p3 p0 p1 rk79 (own_b (own_ushr (own_ushr p0 (16 : Int32)) (8 : Int32))) (own_b (own_ushr p0 (16 : Int32))) (own_b (own_ushr p3 (8 : Int32))) (own_b p3) (own_b (own_ushr p1 (8 : Int32))) (own_b p1) T79.heap n0 G79_1 (by unfold own_e; rw [if_pos (by decide)])) (by decide) (by decide) (by decide) (by decide) (lenOf own_pd8 rfl) rfl (by exact Nat.le_of_eq rfl) (hb hby at_102) rfl ?_
    intro T85 Lc85 v85 X85 hQ85
    obtain ⟨rfl, Nq85, Kq85⟩ := hQ85
    have N85 := Fr.app N84 Nq85
    show own_Ends prg e below s _ _ _ T85 (mkF m 105 #[.val (.int p0), .val (.int p1), .val (.int p2), .val (.int p3), .val (.int (2 : Int32)), .val (.ref a32), .val (.ref ra79)] [(.int (1 : Int32))])
    refine own_ifNo (pc' := 108) X85 hx (hb hby at_105) rfl (feq (by decide)).1 ?_
    refine own_aload (pc' := 110) X85 hx (hb hby at_108) rfl rfl rfl ?_
    refine own_iconst (pc' := 111) (z := (3 : Int32)) X85 hx (hb hby at_110) rfl rfl ?_
    refine own_iload (pc' := 113) X85 hx (hb hby at_111) rfl rfl ?_
    refine own_iloadN (pc' := 114) X85 hx (hb hby at_113) rfl rfl ?_
    refine own_iloadN (pc' := 115) X85 hx (hb hby at_114) rfl rfl ?_
    refine own_iloadN (pc' := 116) X85 hx (hb hby at_115) rfl rfl ?_
    refine own_callS (pc' := 119) (y := (⟨"com/example/corbel/corbel/bytecode/BytesU2AtPinLaw", "ok", "([BIIIII)Z"⟩ : MethodName)) (W := 0) (rm := own_room11_3) (argsL := [(.ref ra79), (.int (3 : Int32)), (.int (2 : Int32)), (.int p3), (.int p0), (.int p1)]) (rest := []) X85 hx hZ Kq85 hown (by rw [hml]; rfl) (own_w58 hw) (own_w59 hw) (own_w60 hw) (own_w61 hw) (by decide) (own_rm11_3 lch Z a0 hw [] ra79 (2 : Int32) p3 p0 p1 rk79 (own_b (own_ushr (own_ushr p0 (16 : Int32)) (8 : Int32))) (own_b (own_ushr p0 (16 : Int32))) (own_b (own_ushr p3 (8 : Int32))) (own_b p3) (own_b (own_ushr p1 (8 : Int32))) (own_b p1) T79.heap n0 G79_1 (by unfold own_e; rw [if_neg (by decide), if_pos (by decide)])) (by decide) (by decide) (by decide) (by decide) (lenOf own_pd8 rfl) rfl (by exact Nat.le_of_eq rfl) (hb hby at_116) rfl ?_
    intro T86 Lc86 v86 X86 hQ86
    obtain ⟨rfl, Nq86, Kq86⟩ := hQ86
    have N86 := Fr.app N85 Nq86
    show own_Ends prg e below s _ _ _ T86 (mkF m 119 #[.val (.int p0), .val (.int p1), .val (.int p2), .val (.int p3), .val (.int (2 : Int32)), .val (.ref a32), .val (.ref ra79)] [(.int (1 : Int32))])
    refine own_ifNo (pc' := 122) X86 hx (hb hby at_119) rfl (feq (by decide)).1 ?_
    refine own_aload (pc' := 124) X86 hx (hb hby at_122) rfl rfl rfl ?_
    refine own_iconst (pc' := 125) (z := (4 : Int32)) X86 hx (hb hby at_124) rfl rfl ?_
    refine own_iload (pc' := 127) X86 hx (hb hby at_125) rfl rfl ?_
    refine own_iloadN (pc' := 128) X86 hx (hb hby at_127) rfl rfl ?_
    refine own_iloadN (pc' := 129) X86 hx (hb hby at_128) rfl rfl ?_
    refine own_iloadN (pc' := 130) X86 hx (hb hby at_129) rfl rfl ?_
    refine own_callS (pc' := 133) (y := (⟨"com/example/corbel/corbel/bytecode/BytesU2AtPinLaw", "ok", "([BIIIII)Z"⟩ : MethodName)) (W := 0) (rm := own_room11_4) (argsL := [(.ref ra79), (.int (4 : Int32)), (.int (2 : Int32)), (.int p3), (.int p0), (.int p1)]) (rest := []) X86 hx hZ Kq86 hown (by rw [hml]; rfl) (own_w58 hw) (own_w59 hw) (own_w60 hw) (own_w61 hw) (by decide) (own_rm11_4 lch Z a0 hw [] ra79 (2 : Int32) p3 p0 p1 rk79 (own_b (own_ushr (own_ushr p0 (16 : Int32)) (8 : Int32))) (own_b (own_ushr p0 (16 : Int32))) (own_b (own_ushr p3 (8 : Int32))) (own_b p3) (own_b (own_ushr p1 (8 : Int32))) (own_b p1) T79.heap n0 G79_1 (by unfold own_e own_orig; rw [if_neg (by decide), if_neg (by decide), if_neg (by decide), if_neg (by decide), if_neg (by decide), if_neg (by decide), if_pos rfl])) (by decide) (by decide) (by decide) (by decide) (lenOf own_pd8 rfl) rfl (by exact Nat.le_of_eq rfl) (hb hby at_130) rfl ?_
    intro T87 Lc87 v87 X87 hQ87
    obtain ⟨rfl, Nq87, Kq87⟩ := hQ87
    have N87 := Fr.app N86 Nq87
    show own_Ends prg e below s _ _ _ T87 (mkF m 133 #[.val (.int p0), .val (.int p1), .val (.int p2), .val (.int p3), .val (.int (2 : Int32)), .val (.ref a32), .val (.ref ra79)] [(.int (1 : Int32))])
    refine own_ifNo (pc' := 136) X87 hx (hb hby at_133) rfl (feq (by decide)).1 ?_
    refine own_aload (pc' := 138) X87 hx (hb hby at_136) rfl rfl rfl ?_
    refine own_iconst (pc' := 139) (z := (5 : Int32)) X87 hx (hb hby at_138) rfl rfl ?_
    refine own_iload (pc' := 141) X87 hx (hb hby at_139) rfl rfl ?_
    refine own_iloadN (pc' := 142) X87 hx (hb hby at_141) rfl rfl ?_
    refine own_iloadN (pc' := 143) X87 hx (hb hby at_142) rfl rfl ?_
    refine own_iloadN (pc' := 144) X87 hx (hb hby at_143) rfl rfl ?_
    refine own_callS (pc' := 147) (y := (⟨"com/example/corbel/corbel/bytecode/BytesU2AtPinLaw", "ok", "([BIIIII)Z"⟩ : MethodName)) (W := 0) (rm := own_room11_5) (argsL := [(.ref ra79), (.int (5 : Int32)), (.int (2 : Int32)), (.int p3), (.int p0), (.int p1)]) (rest := []) X87 hx hZ Kq87 hown (by rw [hml]; rfl) (own_w58 hw) (own_w59 hw) (own_w60 hw) (own_w61 hw) (by decide) (own_rm11_5 lch Z a0 hw [] ra79 (2 : Int32) p3 p0 p1 rk79 (own_b (own_ushr (own_ushr p0 (16 : Int32)) (8 : Int32))) (own_b (own_ushr p0 (16 : Int32))) (own_b (own_ushr p3 (8 : Int32))) (own_b p3) (own_b (own_ushr p1 (8 : Int32))) (own_b p1) T79.heap n0 G79_1 (by unfold own_e own_orig; rw [if_neg (by decide), if_neg (by decide), if_neg (by decide), if_neg (by decide), if_neg (by decide), if_neg (by decide), if_neg (by decide)])) (by decide) (by decide) (by decide) (by decide) (lenOf own_pd8 rfl) rfl (by exact Nat.le_of_eq rfl) (hb hby at_144) rfl ?_
    intro T88 Lc88 v88 X88 hQ88
    obtain ⟨rfl, Nq88, Kq88⟩ := hQ88
    have N88 := Fr.app N87 Nq88
    show own_Ends prg e below s _ _ _ T88 (mkF m 147 #[.val (.int p0), .val (.int p1), .val (.int p2), .val (.int p3), .val (.int (2 : Int32)), .val (.ref a32), .val (.ref ra79)] [(.int (1 : Int32))])
    refine own_ifNo (pc' := 150) X88 hx (hb hby at_147) rfl (feq (by decide)).1 ?_
    refine own_iconst (pc' := 151) (z := (1 : Int32)) X88 hx (hb hby at_150) rfl rfl ?_
    refine own_goto (pc' := 155) X88 hx (hb hby at_151) (by decide) (by decide) ?_
    refine own_retN X88 hx hlk hret (by simp) (hb hby at_155) (by decide) (by decide) ?_
    exact ⟨rfl, N88⟩
  · refine own_aload (pc' := 31) X43 hx (hb hby at_29) rfl rfl rfl ?_
    refine own_iload (pc' := 33) X43 hx (hb hby at_31) rfl rfl ?_
    refine own_iloadN (pc' := 34) X43 hx (hb hby at_33) rfl rfl ?_
    have f89 := (f42.keep Kq43)
    refine own_callV (pc' := 37) (y := (⟨"com/example/corbel/corbel/bytecode/Bytes", "u2At", "(II)V"⟩ : MethodName)) (W := 0) (rm := own_room6_3) (argsL := [(.int (3 : Int32)), (.int p3)]) (rest := []) (b := a32) (C := "com/example/corbel/corbel/bytecode/Bytes") X43 hx hZ rfl hown (by rw [hml]; rfl) f89 (own_w31 hw) (own_w32 hw) (own_w34 hw) (own_w33 hw) (own_w3 hw) (own_w35 hw) (by decide) (own_rm6_3 lch Z a0 hw [] a32 p3 b37 bk37 (own_b (own_ushr (own_ushr p0 (16 : Int32)) (8 : Int32))) (own_b (own_ushr p0 (16 : Int32))) (own_b (own_ushr p0 (8 : Int32))) (own_b p0) (own_b (own_ushr p1 (8 : Int32))) (own_b p1) T43.heap n0 f89 G43_0 G43_1 G43_2 ge33 ge38 ne39) (by decide) (by decide) (by decide) (by decide) (lenOf own_pd5 rfl) rfl (by exact Nat.le_of_eq rfl) (hb hby at_34) rfl ?_
    intro T90 Lc90 v90 X90 hQ90
    obtain ⟨rfl, Nq90, Kq90, G90_0, G90_1, G90_2⟩ := hQ90
    have N90 := Fr.app N43 Nq90
    show own_Ends prg e below s _ _ _ T90 (mkF m 37 #[.val (.int p0), .val (.int p1), .val (.int p2), .val (.int p3), .val (.int (3 : Int32)), .val (.ref a32), .unset] [])
    refine own_aload (pc' := 39) X90 hx (hb hby at_37) rfl rfl rfl ?_
    have f92 := (f89.keep Kq90)
    refine own_callV (pc' := 42) (y := (⟨"com/example/corbel/corbel/bytecode/Bytes", "length", "()I"⟩ : MethodName)) (W := 0) (rm := own_room7) (argsL := []) (rest := []) (b := a32) (C := "com/example/corbel/corbel/bytecode/Bytes") X90 hx hZ rfl hown (by rw [hml]; rfl) f92 (own_w36 hw) (own_w37 hw) (own_w39 hw) (own_w38 hw) (own_w3 hw) (own_w40 hw) (by decide) (own_rm7 lch Z a0 hw [] a32 T90.heap n0 G90_1) (by decide) (by decide) (by decide) (by decide) (lenOf own_pd6 rfl) rfl (by exact Nat.le_of_eq rfl) (hb hby at_39) rfl ?_
    intro T91 Lc91 v91 X91 hQ91
    obtain ⟨rfl, Nq91, Kq91⟩ := hQ91
    have N91 := Fr.app N90 Nq91
    show own_Ends prg e below s _ _ _ T91 (mkF m 42 #[.val (.int p0), .val (.int p1), .val (.int p2), .val (.int p3), .val (.int (3 : Int32)), .val (.ref a32), .unset] [(.int (6 : Int32))])
    refine own_bipush (pc' := 44) (z := (6 : Int32)) X91 hx (hb hby at_42) rfl rfl ?_
    refine own_icmpYes (pc' := 49) X91 hx (hb hby at_44) (teq (by decide)).1 (by decide) (by decide) ?_
    refine own_aload (pc' := 51) X91 hx (hb hby at_49) rfl rfl rfl ?_
    have f93 := (Nat.le_trans (Nat.le_trans (Nat.le_trans (Nat.le_trans f36 Kq37.1) Kq41.1) Kq43.1) Kq90.1)
    refine own_callV (pc' := 54) (y := (⟨"com/example/corbel/corbel/bytecode/Bytes", "toArray", "()[B"⟩ : MethodName)) (W := 0) (rm := own_room8) (argsL := []) (rest := []) (b := a32) (C := "com/example/corbel/corbel/bytecode/Bytes") X91 hx hZ Kq91 hown (by rw [hml]; rfl) f92 (own_w41 hw) (own_w42 hw) (own_w44 hw) (own_w43 hw) (own_w3 hw) (own_w45 hw) (by decide) (own_rm8 lch Z a0 hw [] a32 b37 bk37 (own_b (own_ushr (own_ushr p0 (16 : Int32)) (8 : Int32))) (own_b (own_ushr p0 (16 : Int32))) (own_b (own_ushr p0 (8 : Int32))) (own_b (own_ushr p3 (8 : Int32))) (own_b p3) (own_b p1) T90.heap n0 f93 f92 G90_0 G90_1 G90_2 ge33 ge38 ne39) (by decide) (by decide) (by decide) (by decide) (lenOf own_pd7 rfl) rfl (by exact Nat.le_of_eq rfl) (hb hby at_51) rfl ?_
    intro T94 Lc94 v94 X94 hQ94
    obtain ⟨ra94, rk94, rfl, Nq94, Kq94, G94_0, G94_1⟩ := hQ94
    have N94 := Fr.app N91 Nq94
    have ge95 : n0 ≤ ra94 := Nat.le_trans f93 G94_0
    have ne96 : a32 ≠ ra94 := Nat.ne_of_lt (Nat.lt_of_lt_of_le f92.lt G94_0)
    have ne97 : b37 ≠ ra94 := Nat.ne_of_lt (Nat.lt_of_lt_of_le G90_2.lt G94_0)
    show own_Ends prg e below s _ _ _ T94 (mkF m 54 #[.val (.int p0), .val (.int p1), .val (.int p2), .val (.int p3), .val (.int (3 : Int32)), .val (.ref a32), .unset] [(.ref ra94)])
    refine own_astore (pc' := 56) (l' := #[.val (.int p0), .val (.int p1), .val (.int p2), .val (.int p3), .val (.int (3 : Int32)), .val (.ref a32), .val (.ref ra94)]) X94 hx (hb hby at_54) rfl rfl rfl ?_
    refine own_aload (pc' := 58) X94 hx (hb hby at_56) rfl rfl rfl ?_
    refine own_alen (pc' := 59) X94 hx hZ rfl G94_1 (hb hby at_58) rfl ?_
    refine own_bipush (pc' := 61) (z := (6 : Int32)) X94 hx (hb hby at_59) rfl rfl ?_
    refine own_icmpYes (pc' := 66) X94 hx (hb hby at_61) (teq (by decide)).1 (by decide) (by decide) ?_
    refine own_aload (pc' := 68) X94 hx (hb hby at_66) rfl rfl rfl ?_
    refine own_iconst (pc' := 69) (z := (0 : Int32)) X94 hx (hb hby at_68) rfl rfl ?_
    refine own_iload (pc' := 71) X94 hx (hb hby at_69) rfl rfl ?_
    refine own_iloadN (pc' := 72) X94 hx (hb hby at_71) rfl rfl ?_
    refine own_iloadN (pc' := 73) X94 hx (hb hby at_72) rfl rfl ?_
    refine own_iloadN (pc' := 74) X94 hx (hb hby at_73) rfl rfl ?_
    refine own_callS (pc' := 77) (y := (⟨"com/example/corbel/corbel/bytecode/BytesU2AtPinLaw", "ok", "([BIIIII)Z"⟩ : MethodName)) (W := 0) (rm := own_room11_0) (argsL := [(.ref ra94), (.int (0 : Int32)), (.int (3 : Int32)), (.int p3), (.int p0), (.int p1)]) (rest := []) X94 hx hZ rfl hown (by rw [hml]; rfl) (own_w58 hw) (own_w59 hw) (own_w60 hw) (own_w61 hw) (by decide) (own_rm11_0 lch Z a0 hw [] ra94 (3 : Int32) p3 p0 p1 rk94 (own_b (own_ushr (own_ushr p0 (16 : Int32)) (8 : Int32))) (own_b (own_ushr p0 (16 : Int32))) (own_b (own_ushr p0 (8 : Int32))) (own_b (own_ushr p3 (8 : Int32))) (own_b p3) (own_b p1) T94.heap n0 G94_1 (by unfold own_e own_orig; rw [if_neg (by decide), if_neg (by decide), if_pos rfl]; rw [own_24])) (by decide) (by decide) (by decide) (by decide) (lenOf own_pd8 rfl) rfl (by exact Nat.le_of_eq rfl) (hb hby at_74) rfl ?_
    intro T98 Lc98 v98 X98 hQ98
    obtain ⟨rfl, Nq98, Kq98⟩ := hQ98
    have N98 := Fr.app N94 Nq98
    show own_Ends prg e below s _ _ _ T98 (mkF m 77 #[.val (.int p0), .val (.int p1), .val (.int p2), .val (.int p3), .val (.int (3 : Int32)), .val (.ref a32), .val (.ref ra94)] [(.int (1 : Int32))])
    refine own_ifNo (pc' := 80) X98 hx (hb hby at_77) rfl (feq (by decide)).1 ?_
    refine own_aload (pc' := 82) X98 hx (hb hby at_80) rfl rfl rfl ?_
    refine own_iconst (pc' := 83) (z := (1 : Int32)) X98 hx (hb hby at_82) rfl rfl ?_
    refine own_iload (pc' := 85) X98 hx (hb hby at_83) rfl rfl ?_
    refine own_iloadN (pc' := 86) X98 hx (hb hby at_85) rfl rfl ?_
    refine own_iloadN (pc' := 87) X98 hx (hb hby at_86) rfl rfl ?_
    refine own_iloadN (pc' := 88) X98 hx (hb hby at_87) rfl rfl ?_
    refine own_callS (pc' := 91) (y := (⟨"com/example/corbel/corbel/bytecode/BytesU2AtPinLaw", "ok", "([BIIIII)Z"⟩ : MethodName)) (W := 0) (rm := own_room11_1) (argsL := [(.ref ra94), (.int (1 : Int32)), (.int (3 : Int32)), (.int p3), (.int p0), (.int p1)]) (rest := []) X98 hx hZ Kq98 hown (by rw [hml]; rfl) (own_w58 hw) (own_w59 hw) (own_w60 hw) (own_w61 hw) (by decide) (own_rm11_1 lch Z a0 hw [] ra94 (3 : Int32) p3 p0 p1 rk94 (own_b (own_ushr (own_ushr p0 (16 : Int32)) (8 : Int32))) (own_b (own_ushr p0 (16 : Int32))) (own_b (own_ushr p0 (8 : Int32))) (own_b (own_ushr p3 (8 : Int32))) (own_b p3) (own_b p1) T94.heap n0 G94_1 (by unfold own_e own_orig; rw [if_neg (by decide), if_neg (by decide), if_neg (by decide), if_pos rfl])) (by decide) (by decide) (by decide) (by decide) (lenOf own_pd8 rfl) rfl (by exact Nat.le_of_eq rfl) (hb hby at_88) rfl ?_
    intro T99 Lc99 v99 X99 hQ99
    obtain ⟨rfl, Nq99, Kq99⟩ := hQ99
    have N99 := Fr.app N98 Nq99
    show own_Ends prg e below s _ _ _ T99 (mkF m 91 #[.val (.int p0), .val (.int p1), .val (.int p2), .val (.int p3), .val (.int (3 : Int32)), .val (.ref a32), .val (.ref ra94)] [(.int (1 : Int32))])
    refine own_ifNo (pc' := 94) X99 hx (hb hby at_91) rfl (feq (by decide)).1 ?_
    refine own_aload (pc' := 96) X99 hx (hb hby at_94) rfl rfl rfl ?_
    refine own_iconst (pc' := 97) (z := (2 : Int32)) X99 hx (hb hby at_96) rfl rfl ?_
    refine own_iload (pc' := 99) X99 hx (hb hby at_97) rfl rfl ?_
    refine own_iloadN (pc' := 100) X99 hx (hb hby at_99) rfl rfl ?_
    refine own_iloadN (pc' := 101) X99 hx (hb hby at_100) rfl rfl ?_
    refine own_iloadN (pc' := 102) X99 hx (hb hby at_101) rfl rfl ?_
    refine own_callS (pc' := 105) (y := (⟨"com/example/corbel/corbel/bytecode/BytesU2AtPinLaw", "ok", "([BIIIII)Z"⟩ : MethodName)) (W := 0) (rm := own_room11_2) (argsL := [(.ref ra94), (.int (2 : Int32)), (.int (3 : Int32)), (.int p3), (.int p0), (.int p1)]) (rest := []) X99 hx hZ Kq99 hown (by rw [hml]; rfl) (own_w58 hw) (own_w59 hw) (own_w60 hw) (own_w61 hw) (by decide) (own_rm11_2 lch Z a0 hw [] ra94 (3 : Int32) p3 p0 p1 rk94 (own_b (own_ushr (own_ushr p0 (16 : Int32)) (8 : Int32))) (own_b (own_ushr p0 (16 : Int32))) (own_b (own_ushr p0 (8 : Int32))) (own_b (own_ushr p3 (8 : Int32))) (own_b p3) (own_b p1) T94.heap n0 G94_1 (by unfold own_e own_orig; rw [if_neg (by decide), if_neg (by decide), if_neg (by decide), if_neg (by decide), if_pos rfl])) (by decide) (by decide) (by decide) (by decide) (lenOf own_pd8 rfl) rfl (by exact Nat.le_of_eq rfl) (hb hby at_102) rfl ?_
    intro T100 Lc100 v100 X100 hQ100
    obtain ⟨rfl, Nq100, Kq100⟩ := hQ100
    have N100 := Fr.app N99 Nq100
    show own_Ends prg e below s _ _ _ T100 (mkF m 105 #[.val (.int p0), .val (.int p1), .val (.int p2), .val (.int p3), .val (.int (3 : Int32)), .val (.ref a32), .val (.ref ra94)] [(.int (1 : Int32))])
    refine own_ifNo (pc' := 108) X100 hx (hb hby at_105) rfl (feq (by decide)).1 ?_
    refine own_aload (pc' := 110) X100 hx (hb hby at_108) rfl rfl rfl ?_
    refine own_iconst (pc' := 111) (z := (3 : Int32)) X100 hx (hb hby at_110) rfl rfl ?_
    refine own_iload (pc' := 113) X100 hx (hb hby at_111) rfl rfl ?_
    refine own_iloadN (pc' := 114) X100 hx (hb hby at_113) rfl rfl ?_
    refine own_iloadN (pc' := 115) X100 hx (hb hby at_114) rfl rfl ?_
    refine own_iloadN (pc' := 116) X100 hx (hb hby at_115) rfl rfl ?_
    refine own_callS (pc' := 119) (y := (⟨"com/example/corbel/corbel/bytecode/BytesU2AtPinLaw", "ok", "([BIIIII)Z"⟩ : MethodName)) (W := 0) (rm := own_room11_3) (argsL := [(.ref ra94), (.int (3 : Int32)), (.int (3 : Int32)), (.int p3), (.int p0), (.int p1)]) (rest := []) X100 hx hZ Kq100 hown (by rw [hml]; rfl) (own_w58 hw) (own_w59 hw) (own_w60 hw) (own_w61 hw) (by decide) (own_rm11_3 lch Z a0 hw [] ra94 (3 : Int32) p3 p0 p1 rk94 (own_b (own_ushr (own_ushr p0 (16 : Int32)) (8 : Int32))) (own_b (own_ushr p0 (16 : Int32))) (own_b (own_ushr p0 (8 : Int32))) (own_b (own_ushr p3 (8 : Int32))) (own_b p3) (own_b p1) T94.heap n0 G94_1 (by unfold own_e; rw [if_pos (by decide)])) (by decide) (by decide) (by decide) (by decide) (lenOf own_pd8 rfl) rfl (by exact Nat.le_of_eq rfl) (hb hby at_116) rfl ?_
    intro T101 Lc101 v101 X101 hQ101
    obtain ⟨rfl, Nq101, Kq101⟩ := hQ101
    have N101 := Fr.app N100 Nq101
    show own_Ends prg e below s _ _ _ T101 (mkF m 119 #[.val (.int p0), .val (.int p1), .val (.int p2), .val (.int p3), .val (.int (3 : Int32)), .val (.ref a32), .val (.ref ra94)] [(.int (1 : Int32))])
    refine own_ifNo (pc' := 122) X101 hx (hb hby at_119) rfl (feq (by decide)).1 ?_
    refine own_aload (pc' := 124) X101 hx (hb hby at_122) rfl rfl rfl ?_
    refine own_iconst (pc' := 125) (z := (4 : Int32)) X101 hx (hb hby at_124) rfl rfl ?_
    refine own_iload (pc' := 127) X101 hx (hb hby at_125) rfl rfl ?_
    refine own_iloadN (pc' := 128) X101 hx (hb hby at_127) rfl rfl ?_
    refine own_iloadN (pc' := 129) X101 hx (hb hby at_128) rfl rfl ?_
    refine own_iloadN (pc' := 130) X101 hx (hb hby at_129) rfl rfl ?_
    refine own_callS (pc' := 133) (y := (⟨"com/example/corbel/corbel/bytecode/BytesU2AtPinLaw", "ok", "([BIIIII)Z"⟩ : MethodName)) (W := 0) (rm := own_room11_4) (argsL := [(.ref ra94), (.int (4 : Int32)), (.int (3 : Int32)), (.int p3), (.int p0), (.int p1)]) (rest := []) X101 hx hZ Kq101 hown (by rw [hml]; rfl) (own_w58 hw) (own_w59 hw) (own_w60 hw) (own_w61 hw) (by decide) (own_rm11_4 lch Z a0 hw [] ra94 (3 : Int32) p3 p0 p1 rk94 (own_b (own_ushr (own_ushr p0 (16 : Int32)) (8 : Int32))) (own_b (own_ushr p0 (16 : Int32))) (own_b (own_ushr p0 (8 : Int32))) (own_b (own_ushr p3 (8 : Int32))) (own_b p3) (own_b p1) T94.heap n0 G94_1 (by unfold own_e; rw [if_neg (by decide), if_pos (by decide)])) (by decide) (by decide) (by decide) (by decide) (lenOf own_pd8 rfl) rfl (by exact Nat.le_of_eq rfl) (hb hby at_130) rfl ?_
    intro T102 Lc102 v102 X102 hQ102
    obtain ⟨rfl, Nq102, Kq102⟩ := hQ102
    have N102 := Fr.app N101 Nq102
    show own_Ends prg e below s _ _ _ T102 (mkF m 133 #[.val (.int p0), .val (.int p1), .val (.int p2), .val (.int p3), .val (.int (3 : Int32)), .val (.ref a32), .val (.ref ra94)] [(.int (1 : Int32))])
    refine own_ifNo (pc' := 136) X102 hx (hb hby at_133) rfl (feq (by decide)).1 ?_
    refine own_aload (pc' := 138) X102 hx (hb hby at_136) rfl rfl rfl ?_
    refine own_iconst (pc' := 139) (z := (5 : Int32)) X102 hx (hb hby at_138) rfl rfl ?_
    refine own_iload (pc' := 141) X102 hx (hb hby at_139) rfl rfl ?_
    refine own_iloadN (pc' := 142) X102 hx (hb hby at_141) rfl rfl ?_
    refine own_iloadN (pc' := 143) X102 hx (hb hby at_142) rfl rfl ?_
    refine own_iloadN (pc' := 144) X102 hx (hb hby at_143) rfl rfl ?_
    refine own_callS (pc' := 147) (y := (⟨"com/example/corbel/corbel/bytecode/BytesU2AtPinLaw", "ok", "([BIIIII)Z"⟩ : MethodName)) (W := 0) (rm := own_room11_5) (argsL := [(.ref ra94), (.int (5 : Int32)), (.int (3 : Int32)), (.int p3), (.int p0), (.int p1)]) (rest := []) X102 hx hZ Kq102 hown (by rw [hml]; rfl) (own_w58 hw) (own_w59 hw) (own_w60 hw) (own_w61 hw) (by decide) (own_rm11_5 lch Z a0 hw [] ra94 (3 : Int32) p3 p0 p1 rk94 (own_b (own_ushr (own_ushr p0 (16 : Int32)) (8 : Int32))) (own_b (own_ushr p0 (16 : Int32))) (own_b (own_ushr p0 (8 : Int32))) (own_b (own_ushr p3 (8 : Int32))) (own_b p3) (own_b p1) T94.heap n0 G94_1 (by unfold own_e own_orig; rw [if_neg (by decide), if_neg (by decide), if_neg (by decide), if_neg (by decide), if_neg (by decide), if_neg (by decide), if_neg (by decide)])) (by decide) (by decide) (by decide) (by decide) (lenOf own_pd8 rfl) rfl (by exact Nat.le_of_eq rfl) (hb hby at_144) rfl ?_
    intro T103 Lc103 v103 X103 hQ103
    obtain ⟨rfl, Nq103, Kq103⟩ := hQ103
    have N103 := Fr.app N102 Nq103
    show own_Ends prg e below s _ _ _ T103 (mkF m 147 #[.val (.int p0), .val (.int p1), .val (.int p2), .val (.int p3), .val (.int (3 : Int32)), .val (.ref a32), .val (.ref ra94)] [(.int (1 : Int32))])
    refine own_ifNo (pc' := 150) X103 hx (hb hby at_147) rfl (feq (by decide)).1 ?_
    refine own_iconst (pc' := 151) (z := (1 : Int32)) X103 hx (hb hby at_150) rfl rfl ?_
    refine own_goto (pc' := 155) X103 hx (hb hby at_151) (by decide) (by decide) ?_
    refine own_retN X103 hx hlk hret (by simp) (hb hby at_155) (by decide) (by decide) ?_
    exact ⟨rfl, N103⟩
  · refine own_aload (pc' := 31) X43 hx (hb hby at_29) rfl rfl rfl ?_
    refine own_iload (pc' := 33) X43 hx (hb hby at_31) rfl rfl ?_
    refine own_iloadN (pc' := 34) X43 hx (hb hby at_33) rfl rfl ?_
    have f104 := (f42.keep Kq43)
    refine own_callV (pc' := 37) (y := (⟨"com/example/corbel/corbel/bytecode/Bytes", "u2At", "(II)V"⟩ : MethodName)) (W := 0) (rm := own_room6_4) (argsL := [(.int (4 : Int32)), (.int p3)]) (rest := []) (b := a32) (C := "com/example/corbel/corbel/bytecode/Bytes") X43 hx hZ rfl hown (by rw [hml]; rfl) f104 (own_w31 hw) (own_w32 hw) (own_w34 hw) (own_w33 hw) (own_w3 hw) (own_w35 hw) (by decide) (own_rm6_4 lch Z a0 hw [] a32 p3 b37 bk37 (own_b (own_ushr (own_ushr p0 (16 : Int32)) (8 : Int32))) (own_b (own_ushr p0 (16 : Int32))) (own_b (own_ushr p0 (8 : Int32))) (own_b p0) (own_b (own_ushr p1 (8 : Int32))) (own_b p1) T43.heap n0 f104 G43_0 G43_1 G43_2 ge33 ge38 ne39) (by decide) (by decide) (by decide) (by decide) (lenOf own_pd5 rfl) rfl (by exact Nat.le_of_eq rfl) (hb hby at_34) rfl ?_
    intro T105 Lc105 v105 X105 hQ105
    obtain ⟨rfl, Nq105, Kq105, G105_0, G105_1, G105_2⟩ := hQ105
    have N105 := Fr.app N43 Nq105
    show own_Ends prg e below s _ _ _ T105 (mkF m 37 #[.val (.int p0), .val (.int p1), .val (.int p2), .val (.int p3), .val (.int (4 : Int32)), .val (.ref a32), .unset] [])
    refine own_aload (pc' := 39) X105 hx (hb hby at_37) rfl rfl rfl ?_
    have f107 := (f104.keep Kq105)
    refine own_callV (pc' := 42) (y := (⟨"com/example/corbel/corbel/bytecode/Bytes", "length", "()I"⟩ : MethodName)) (W := 0) (rm := own_room7) (argsL := []) (rest := []) (b := a32) (C := "com/example/corbel/corbel/bytecode/Bytes") X105 hx hZ rfl hown (by rw [hml]; rfl) f107 (own_w36 hw) (own_w37 hw) (own_w39 hw) (own_w38 hw) (own_w3 hw) (own_w40 hw) (by decide) (own_rm7 lch Z a0 hw [] a32 T105.heap n0 G105_1) (by decide) (by decide) (by decide) (by decide) (lenOf own_pd6 rfl) rfl (by exact Nat.le_of_eq rfl) (hb hby at_39) rfl ?_
    intro T106 Lc106 v106 X106 hQ106
    obtain ⟨rfl, Nq106, Kq106⟩ := hQ106
    have N106 := Fr.app N105 Nq106
    show own_Ends prg e below s _ _ _ T106 (mkF m 42 #[.val (.int p0), .val (.int p1), .val (.int p2), .val (.int p3), .val (.int (4 : Int32)), .val (.ref a32), .unset] [(.int (6 : Int32))])
    refine own_bipush (pc' := 44) (z := (6 : Int32)) X106 hx (hb hby at_42) rfl rfl ?_
    refine own_icmpYes (pc' := 49) X106 hx (hb hby at_44) (teq (by decide)).1 (by decide) (by decide) ?_
    refine own_aload (pc' := 51) X106 hx (hb hby at_49) rfl rfl rfl ?_
    have f108 := (Nat.le_trans (Nat.le_trans (Nat.le_trans (Nat.le_trans f36 Kq37.1) Kq41.1) Kq43.1) Kq105.1)
    refine own_callV (pc' := 54) (y := (⟨"com/example/corbel/corbel/bytecode/Bytes", "toArray", "()[B"⟩ : MethodName)) (W := 0) (rm := own_room8) (argsL := []) (rest := []) (b := a32) (C := "com/example/corbel/corbel/bytecode/Bytes") X106 hx hZ Kq106 hown (by rw [hml]; rfl) f107 (own_w41 hw) (own_w42 hw) (own_w44 hw) (own_w43 hw) (own_w3 hw) (own_w45 hw) (by decide) (own_rm8 lch Z a0 hw [] a32 b37 bk37 (own_b (own_ushr (own_ushr p0 (16 : Int32)) (8 : Int32))) (own_b (own_ushr p0 (16 : Int32))) (own_b (own_ushr p0 (8 : Int32))) (own_b p0) (own_b (own_ushr p3 (8 : Int32))) (own_b p3) T105.heap n0 f108 f107 G105_0 G105_1 G105_2 ge33 ge38 ne39) (by decide) (by decide) (by decide) (by decide) (lenOf own_pd7 rfl) rfl (by exact Nat.le_of_eq rfl) (hb hby at_51) rfl ?_
    intro T109 Lc109 v109 X109 hQ109
    obtain ⟨ra109, rk109, rfl, Nq109, Kq109, G109_0, G109_1⟩ := hQ109
    have N109 := Fr.app N106 Nq109
    have ge110 : n0 ≤ ra109 := Nat.le_trans f108 G109_0
    have ne111 : a32 ≠ ra109 := Nat.ne_of_lt (Nat.lt_of_lt_of_le f107.lt G109_0)
    have ne112 : b37 ≠ ra109 := Nat.ne_of_lt (Nat.lt_of_lt_of_le G105_2.lt G109_0)
    show own_Ends prg e below s _ _ _ T109 (mkF m 54 #[.val (.int p0), .val (.int p1), .val (.int p2), .val (.int p3), .val (.int (4 : Int32)), .val (.ref a32), .unset] [(.ref ra109)])
    refine own_astore (pc' := 56) (l' := #[.val (.int p0), .val (.int p1), .val (.int p2), .val (.int p3), .val (.int (4 : Int32)), .val (.ref a32), .val (.ref ra109)]) X109 hx (hb hby at_54) rfl rfl rfl ?_
    refine own_aload (pc' := 58) X109 hx (hb hby at_56) rfl rfl rfl ?_
    refine own_alen (pc' := 59) X109 hx hZ rfl G109_1 (hb hby at_58) rfl ?_
    refine own_bipush (pc' := 61) (z := (6 : Int32)) X109 hx (hb hby at_59) rfl rfl ?_
    refine own_icmpYes (pc' := 66) X109 hx (hb hby at_61) (teq (by decide)).1 (by decide) (by decide) ?_
    refine own_aload (pc' := 68) X109 hx (hb hby at_66) rfl rfl rfl ?_
    refine own_iconst (pc' := 69) (z := (0 : Int32)) X109 hx (hb hby at_68) rfl rfl ?_
    refine own_iload (pc' := 71) X109 hx (hb hby at_69) rfl rfl ?_
    refine own_iloadN (pc' := 72) X109 hx (hb hby at_71) rfl rfl ?_
    refine own_iloadN (pc' := 73) X109 hx (hb hby at_72) rfl rfl ?_
    refine own_iloadN (pc' := 74) X109 hx (hb hby at_73) rfl rfl ?_
    refine own_callS (pc' := 77) (y := (⟨"com/example/corbel/corbel/bytecode/BytesU2AtPinLaw", "ok", "([BIIIII)Z"⟩ : MethodName)) (W := 0) (rm := own_room11_0) (argsL := [(.ref ra109), (.int (0 : Int32)), (.int (4 : Int32)), (.int p3), (.int p0), (.int p1)]) (rest := []) X109 hx hZ rfl hown (by rw [hml]; rfl) (own_w58 hw) (own_w59 hw) (own_w60 hw) (own_w61 hw) (by decide) (own_rm11_0 lch Z a0 hw [] ra109 (4 : Int32) p3 p0 p1 rk109 (own_b (own_ushr (own_ushr p0 (16 : Int32)) (8 : Int32))) (own_b (own_ushr p0 (16 : Int32))) (own_b (own_ushr p0 (8 : Int32))) (own_b p0) (own_b (own_ushr p3 (8 : Int32))) (own_b p3) T109.heap n0 G109_1 (by unfold own_e own_orig; rw [if_neg (by decide), if_neg (by decide), if_pos rfl]; rw [own_24])) (by decide) (by decide) (by decide) (by decide) (lenOf own_pd8 rfl) rfl (by exact Nat.le_of_eq rfl) (hb hby at_74) rfl ?_
    intro T113 Lc113 v113 X113 hQ113
    obtain ⟨rfl, Nq113, Kq113⟩ := hQ113
    have N113 := Fr.app N109 Nq113
    show own_Ends prg e below s _ _ _ T113 (mkF m 77 #[.val (.int p0), .val (.int p1), .val (.int p2), .val (.int p3), .val (.int (4 : Int32)), .val (.ref a32), .val (.ref ra109)] [(.int (1 : Int32))])
    refine own_ifNo (pc' := 80) X113 hx (hb hby at_77) rfl (feq (by decide)).1 ?_
    refine own_aload (pc' := 82) X113 hx (hb hby at_80) rfl rfl rfl ?_
    refine own_iconst (pc' := 83) (z := (1 : Int32)) X113 hx (hb hby at_82) rfl rfl ?_
    refine own_iload (pc' := 85) X113 hx (hb hby at_83) rfl rfl ?_
    refine own_iloadN (pc' := 86) X113 hx (hb hby at_85) rfl rfl ?_
    refine own_iloadN (pc' := 87) X113 hx (hb hby at_86) rfl rfl ?_
    refine own_iloadN (pc' := 88) X113 hx (hb hby at_87) rfl rfl ?_
    refine own_callS (pc' := 91) (y := (⟨"com/example/corbel/corbel/bytecode/BytesU2AtPinLaw", "ok", "([BIIIII)Z"⟩ : MethodName)) (W := 0) (rm := own_room11_1) (argsL := [(.ref ra109), (.int (1 : Int32)), (.int (4 : Int32)), (.int p3), (.int p0), (.int p1)]) (rest := []) X113 hx hZ Kq113 hown (by rw [hml]; rfl) (own_w58 hw) (own_w59 hw) (own_w60 hw) (own_w61 hw) (by decide) (own_rm11_1 lch Z a0 hw [] ra109 (4 : Int32) p3 p0 p1 rk109 (own_b (own_ushr (own_ushr p0 (16 : Int32)) (8 : Int32))) (own_b (own_ushr p0 (16 : Int32))) (own_b (own_ushr p0 (8 : Int32))) (own_b p0) (own_b (own_ushr p3 (8 : Int32))) (own_b p3) T109.heap n0 G109_1 (by unfold own_e own_orig; rw [if_neg (by decide), if_neg (by decide), if_neg (by decide), if_pos rfl])) (by decide) (by decide) (by decide) (by decide) (lenOf own_pd8 rfl) rfl (by exact Nat.le_of_eq rfl) (hb hby at_88) rfl ?_
    intro T114 Lc114 v114 X114 hQ114
    obtain ⟨rfl, Nq114, Kq114⟩ := hQ114
    have N114 := Fr.app N113 Nq114
    show own_Ends prg e below s _ _ _ T114 (mkF m 91 #[.val (.int p0), .val (.int p1), .val (.int p2), .val (.int p3), .val (.int (4 : Int32)), .val (.ref a32), .val (.ref ra109)] [(.int (1 : Int32))])
    refine own_ifNo (pc' := 94) X114 hx (hb hby at_91) rfl (feq (by decide)).1 ?_
    refine own_aload (pc' := 96) X114 hx (hb hby at_94) rfl rfl rfl ?_
    refine own_iconst (pc' := 97) (z := (2 : Int32)) X114 hx (hb hby at_96) rfl rfl ?_
    refine own_iload (pc' := 99) X114 hx (hb hby at_97) rfl rfl ?_
    refine own_iloadN (pc' := 100) X114 hx (hb hby at_99) rfl rfl ?_
    refine own_iloadN (pc' := 101) X114 hx (hb hby at_100) rfl rfl ?_
    refine own_iloadN (pc' := 102) X114 hx (hb hby at_101) rfl rfl ?_
    refine own_callS (pc' := 105) (y := (⟨"com/example/corbel/corbel/bytecode/BytesU2AtPinLaw", "ok", "([BIIIII)Z"⟩ : MethodName)) (W := 0) (rm := own_room11_2) (argsL := [(.ref ra109), (.int (2 : Int32)), (.int (4 : Int32)), (.int p3), (.int p0), (.int p1)]) (rest := []) X114 hx hZ Kq114 hown (by rw [hml]; rfl) (own_w58 hw) (own_w59 hw) (own_w60 hw) (own_w61 hw) (by decide) (own_rm11_2 lch Z a0 hw [] ra109 (4 : Int32) p3 p0 p1 rk109 (own_b (own_ushr (own_ushr p0 (16 : Int32)) (8 : Int32))) (own_b (own_ushr p0 (16 : Int32))) (own_b (own_ushr p0 (8 : Int32))) (own_b p0) (own_b (own_ushr p3 (8 : Int32))) (own_b p3) T109.heap n0 G109_1 (by unfold own_e own_orig; rw [if_neg (by decide), if_neg (by decide), if_neg (by decide), if_neg (by decide), if_pos rfl])) (by decide) (by decide) (by decide) (by decide) (lenOf own_pd8 rfl) rfl (by exact Nat.le_of_eq rfl) (hb hby at_102) rfl ?_
    intro T115 Lc115 v115 X115 hQ115
    obtain ⟨rfl, Nq115, Kq115⟩ := hQ115
    have N115 := Fr.app N114 Nq115
    show own_Ends prg e below s _ _ _ T115 (mkF m 105 #[.val (.int p0), .val (.int p1), .val (.int p2), .val (.int p3), .val (.int (4 : Int32)), .val (.ref a32), .val (.ref ra109)] [(.int (1 : Int32))])
    refine own_ifNo (pc' := 108) X115 hx (hb hby at_105) rfl (feq (by decide)).1 ?_
    refine own_aload (pc' := 110) X115 hx (hb hby at_108) rfl rfl rfl ?_
    refine own_iconst (pc' := 111) (z := (3 : Int32)) X115 hx (hb hby at_110) rfl rfl ?_
    refine own_iload (pc' := 113) X115 hx (hb hby at_111) rfl rfl ?_
    refine own_iloadN (pc' := 114) X115 hx (hb hby at_113) rfl rfl ?_
    refine own_iloadN (pc' := 115) X115 hx (hb hby at_114) rfl rfl ?_
    refine own_iloadN (pc' := 116) X115 hx (hb hby at_115) rfl rfl ?_
    refine own_callS (pc' := 119) (y := (⟨"com/example/corbel/corbel/bytecode/BytesU2AtPinLaw", "ok", "([BIIIII)Z"⟩ : MethodName)) (W := 0) (rm := own_room11_3) (argsL := [(.ref ra109), (.int (3 : Int32)), (.int (4 : Int32)), (.int p3), (.int p0), (.int p1)]) (rest := []) X115 hx hZ Kq115 hown (by rw [hml]; rfl) (own_w58 hw) (own_w59 hw) (own_w60 hw) (own_w61 hw) (by decide) (own_rm11_3 lch Z a0 hw [] ra109 (4 : Int32) p3 p0 p1 rk109 (own_b (own_ushr (own_ushr p0 (16 : Int32)) (8 : Int32))) (own_b (own_ushr p0 (16 : Int32))) (own_b (own_ushr p0 (8 : Int32))) (own_b p0) (own_b (own_ushr p3 (8 : Int32))) (own_b p3) T109.heap n0 G109_1 (by unfold own_e own_orig; rw [if_neg (by decide), if_neg (by decide), if_neg (by decide), if_neg (by decide), if_neg (by decide), if_pos rfl])) (by decide) (by decide) (by decide) (by decide) (lenOf own_pd8 rfl) rfl (by exact Nat.le_of_eq rfl) (hb hby at_116) rfl ?_
    intro T116 Lc116 v116 X116 hQ116
    obtain ⟨rfl, Nq116, Kq116⟩ := hQ116
    have N116 := Fr.app N115 Nq116
    show own_Ends prg e below s _ _ _ T116 (mkF m 119 #[.val (.int p0), .val (.int p1), .val (.int p2), .val (.int p3), .val (.int (4 : Int32)), .val (.ref a32), .val (.ref ra109)] [(.int (1 : Int32))])
    refine own_ifNo (pc' := 122) X116 hx (hb hby at_119) rfl (feq (by decide)).1 ?_
    refine own_aload (pc' := 124) X116 hx (hb hby at_122) rfl rfl rfl ?_
    refine own_iconst (pc' := 125) (z := (4 : Int32)) X116 hx (hb hby at_124) rfl rfl ?_
    refine own_iload (pc' := 127) X116 hx (hb hby at_125) rfl rfl ?_
    refine own_iloadN (pc' := 128) X116 hx (hb hby at_127) rfl rfl ?_
    refine own_iloadN (pc' := 129) X116 hx (hb hby at_128) rfl rfl ?_
    refine own_iloadN (pc' := 130) X116 hx (hb hby at_129) rfl rfl ?_
    refine own_callS (pc' := 133) (y := (⟨"com/example/corbel/corbel/bytecode/BytesU2AtPinLaw", "ok", "([BIIIII)Z"⟩ : MethodName)) (W := 0) (rm := own_room11_4) (argsL := [(.ref ra109), (.int (4 : Int32)), (.int (4 : Int32)), (.int p3), (.int p0), (.int p1)]) (rest := []) X116 hx hZ Kq116 hown (by rw [hml]; rfl) (own_w58 hw) (own_w59 hw) (own_w60 hw) (own_w61 hw) (by decide) (own_rm11_4 lch Z a0 hw [] ra109 (4 : Int32) p3 p0 p1 rk109 (own_b (own_ushr (own_ushr p0 (16 : Int32)) (8 : Int32))) (own_b (own_ushr p0 (16 : Int32))) (own_b (own_ushr p0 (8 : Int32))) (own_b p0) (own_b (own_ushr p3 (8 : Int32))) (own_b p3) T109.heap n0 G109_1 (by unfold own_e; rw [if_pos (by decide)])) (by decide) (by decide) (by decide) (by decide) (lenOf own_pd8 rfl) rfl (by exact Nat.le_of_eq rfl) (hb hby at_130) rfl ?_
    intro T117 Lc117 v117 X117 hQ117
    obtain ⟨rfl, Nq117, Kq117⟩ := hQ117
    have N117 := Fr.app N116 Nq117
    show own_Ends prg e below s _ _ _ T117 (mkF m 133 #[.val (.int p0), .val (.int p1), .val (.int p2), .val (.int p3), .val (.int (4 : Int32)), .val (.ref a32), .val (.ref ra109)] [(.int (1 : Int32))])
    refine own_ifNo (pc' := 136) X117 hx (hb hby at_133) rfl (feq (by decide)).1 ?_
    refine own_aload (pc' := 138) X117 hx (hb hby at_136) rfl rfl rfl ?_
    refine own_iconst (pc' := 139) (z := (5 : Int32)) X117 hx (hb hby at_138) rfl rfl ?_
    refine own_iload (pc' := 141) X117 hx (hb hby at_139) rfl rfl ?_
    refine own_iloadN (pc' := 142) X117 hx (hb hby at_141) rfl rfl ?_
    refine own_iloadN (pc' := 143) X117 hx (hb hby at_142) rfl rfl ?_
    refine own_iloadN (pc' := 144) X117 hx (hb hby at_143) rfl rfl ?_
    refine own_callS (pc' := 147) (y := (⟨"com/example/corbel/corbel/bytecode/BytesU2AtPinLaw", "ok", "([BIIIII)Z"⟩ : MethodName)) (W := 0) (rm := own_room11_5) (argsL := [(.ref ra109), (.int (5 : Int32)), (.int (4 : Int32)), (.int p3), (.int p0), (.int p1)]) (rest := []) X117 hx hZ Kq117 hown (by rw [hml]; rfl) (own_w58 hw) (own_w59 hw) (own_w60 hw) (own_w61 hw) (by decide) (own_rm11_5 lch Z a0 hw [] ra109 (4 : Int32) p3 p0 p1 rk109 (own_b (own_ushr (own_ushr p0 (16 : Int32)) (8 : Int32))) (own_b (own_ushr p0 (16 : Int32))) (own_b (own_ushr p0 (8 : Int32))) (own_b p0) (own_b (own_ushr p3 (8 : Int32))) (own_b p3) T109.heap n0 G109_1 (by unfold own_e; rw [if_neg (by decide), if_pos (by decide)])) (by decide) (by decide) (by decide) (by decide) (lenOf own_pd8 rfl) rfl (by exact Nat.le_of_eq rfl) (hb hby at_144) rfl ?_
    intro T118 Lc118 v118 X118 hQ118
    obtain ⟨rfl, Nq118, Kq118⟩ := hQ118
    have N118 := Fr.app N117 Nq118
    show own_Ends prg e below s _ _ _ T118 (mkF m 147 #[.val (.int p0), .val (.int p1), .val (.int p2), .val (.int p3), .val (.int (4 : Int32)), .val (.ref a32), .val (.ref ra109)] [(.int (1 : Int32))])
    refine own_ifNo (pc' := 150) X118 hx (hb hby at_147) rfl (feq (by decide)).1 ?_
    refine own_iconst (pc' := 151) (z := (1 : Int32)) X118 hx (hb hby at_150) rfl rfl ?_
    refine own_goto (pc' := 155) X118 hx (hb hby at_151) (by decide) (by decide) ?_
    refine own_retN X118 hx hlk hret (by simp) (hb hby at_155) (by decide) (by decide) ?_
    exact ⟨rfl, N118⟩
set_option maxRecDepth 65536 in
set_option maxHeartbeats 40000000 in
theorem own_comes {Post : Tables → Env → Array Value → State → Outcome → State → Prop} (hpost : ∀ tb e args s v u, (limb_1_1.after args s (.returned v) u = true ∧ limb_1_2.after args s (.returned v) u = true ∧ True) → FrameEnd s (.returned v) u (Jvm.fieldLocs frame_1_writes args s ++ Jvm.arrayLocs frame_1_arrays args s ++ Jvm.staticLocs frame_1_statics s) 16 640 → Post tb e args s (.returned v) u) :
    ArmFor flags0 classFile x code maxLocals ret World_1 tables_1 room_1 Calls_1 rest_1 Pre_1 Post := by
  intro l hfl _ _ p e ha hc hk s m args below hf hA hF happ hP
  obtain ⟨hcalls, hrest, hpre⟩ := hP
  obtain ⟨-, -, -, hnamed, -, -, -, hat⟩ := (Spec.applies_iff hf).mp happ
  obtain ⟨hg, hn⟩ := and_e (Cond.before_iff.mp (show (Jvm.Cond.and given_1 narrow_1).before args s = true from hpre))
  obtain ⟨g1, g2⟩ := and_e hg
  obtain ⟨g3, g4⟩ := and_e g2
  obtain ⟨g5, g6⟩ := and_e g4
  obtain ⟨g7, g8⟩ := and_e g6
  obtain ⟨w0, w1, w2, w3, rfl⟩ : ∃ w0 w1 w2 w3 : Value, args = #[w0, w1, w2, w3] := by
    have hs : args.size = 4 := by simpa [Cond.value, given_1] using g1
    obtain ⟨L⟩ := args
    match L, hs with
    | [w0, w1, w2, w3], _ => exact ⟨w0, w1, w2, w3, rfl⟩
  have hw := fun d (hd : d ∈ tables_1) => atoms_spec (ws := Jvm.Cond.code x code maxLocals ret :: tables_1) hat d (List.mem_cons_of_mem _ hd)
  have hfit : Fit s := fun {y c} hc i hi => by
    obtain ⟨ha, rfl⟩ := Array.getElem?_eq_some_iff.mp hc
    have q := List.all_eq_true.mp ((Array.all_eq_true_iff_forall_mem.mp hF) _ (Array.getElem_mem ha)) i (List.mem_range.mpr hi)
    simpa [Array.getElem?_eq_getElem hi] using q
  obtain ⟨i0, ei0⟩ := is_v g3
  obtain rfl : w0 = (.int i0) := Option.some.inj ei0
  obtain ⟨i1, ei1⟩ := is_v g5
  obtain rfl : w1 = (.int i1) := Option.some.inj ei1
  obtain ⟨i2, ei2⟩ := is_v g7
  obtain rfl : w2 = (.int i2) := Option.some.inj ei2
  obtain ⟨i3, ei3⟩ := is_v g8
  obtain rfl : w3 = (.int i3) := Option.some.inj ei3
  obtain ⟨n, o, h1, h2, h3, _, L, rfl, ⟨rfl, N⟩, hq⟩ := own_rm0 l s _ hw tables_1 i0 i1 i2 i3 s.heap s.heap.size (Nat.le_refl _) p e ha hc hk s m _ below hf ((Spec.applies_iff_loose hf).mp happ).1 ⟨rfl, State.Warmed39.refl s, rfl⟩ trivial
  refine ⟨n, _, h1, h2, h3, hpost _ _ _ _ _ _ ⟨Cond.after_iff.mpr rfl, Cond.after_iff.mpr (eq_i res_at (Term.int_eval (1)) rfl), trivial⟩ ⟨hq.1, hq.2.1, (hq.2.2.sift fun y hy => Or.inr (N y hy)).mono (by decide) (by decide)⟩⟩
theorem main_1_1 : Claimed_1_1 := own_comes fun _ _ _ _ _ _ h hF => ⟨h.1, hF⟩
theorem main_1_2 : Claimed_1_2 := own_comes fun _ _ _ _ _ _ h hF => ⟨h.2.1, hF⟩
end Jvm.Pilot.@@N@@
namespace Jvm.Pilot.@@N@@
open Jvm Jvm.ClassFile Sem Op Lib Jvm.Free Jvm.Stand Jvm.Pilot.@@N@@.Jvm.D
/-! MADE BY PROGRAM (witnessworld.py) out of the Statement's table words and the real class files: 12 classes; the members and pool entries that the words name. The judged class is class 1, her method 3. -/
namespace start1
open Jvm.ClassFile
def u (s : String) : CpInfo := .utf8 (stringToUtf16 s)
/-- a pool by its gaps: so many unusable entries, then the entry; so many at the end -/
def gap : Nat → List CpInfo → List CpInfo
  | 0, r => r
  | n + 1, r => .unusable :: gap n r
def poolList (es : List (Nat × CpInfo)) (last : Nat) : List CpInfo := es.foldr (fun e r => gap e.1 (e.2 :: r)) (gap last [])
def pool (es : List (Nat × CpInfo)) (last : Nat) : Array CpInfo := ⟨poolList es last⟩
def fileOf (pool : Array CpInfo) (this : Nat) (attrs : Array Attribute := #[]) (ms : Array MethodInfo := #[]) (fl : Nat := 33) (sup : Nat := 0) (ifs : Array Nat := #[]) (fds : Array FieldInfo := #[]) : ClassFile where
  minorVersion := 0
  majorVersion := 65
  constantPool := pool
  accessFlags := fl
  thisClass := this
  superClass := sup
  interfaces := ifs
  fields := fds
  methods := ms
  attributes := attrs
def plain (name : String) (sup : Option ClassId) : Class where
  name := name
  kind := .ordinary
  loader := none
  accessFlags := 33
  super := sup
  interfaces := #[]
  cf := none
  fields := #[]
  methods := #[]
  instanceTypes := #[]
  staticTypes := #[]
  resolved := #[]
  callSites := []
  init := .initialized
  statics := none
  mirror := none

def pool0 : Array CpInfo := pool [(5, u "<init>"), (0, u "()V"), (1, .class_ 10), (1, u "java/lang/Object")] 113

def k0c0 : Code := { maxStack := 0, maxLocals := 1, code := object_method_1_code, exceptionTable := #[], attributes := #[] }
def k0m0 : Method := { name := "<init>", desc := "()V", sig := { parameters := [], returnType := none }, accessFlags := 1, code := some k0c0 }
/-- java/lang/Object -/
def k0 : Class := { plain "java/lang/Object" none with
  accessFlags := 33
  interfaces := #[]
  cf := some (fileOf pool0 8 #[] #[{ accessFlags := 1, nameIndex := 5, descriptorIndex := 6, attributes := #[] }] 33 0 #[] #[])
  fields := #[]
  methods := #[k0m0]
  instanceTypes := #[]
  staticTypes := #[]
  resolved := Array.replicate 124 none
  statics := none }

def pool1 : Array CpInfo := pool [(2, .class_ 4), (0, .nameAndType 5 6), (0, u "java/lang/Object"), (0, u "<init>"), (0, u "()V"), (0, .methodref 8 9), (0, .class_ 10), (0, .nameAndType 11 12), (0, u "com/example/corbel/corbel/bytecode/BytesU2AtPinLaw"), (0, u "orig"), (0, u "(III)B"), (0, .integer 2147483647), (0, .class_ 15), (0, u "com/example/corbel/corbel/bytecode/Bytes"), (0, .methodref 14 3), (0, .methodref 14 18), (0, .nameAndType 19 20), (0, u "u4"), (0, u "(I)V"), (0, .methodref 14 22), (0, .nameAndType 23 20), (0, u "u2"), (0, .methodref 14 25), (0, .nameAndType 26 27), (0, u "u2At"), (0, u "(II)V"), (0, .methodref 14 29), (0, .nameAndType 30 31), (0, u "length"), (0, u "()I"), (0, .methodref 14 33), (0, .nameAndType 34 35), (0, u "toArray"), (0, u "()[B"), (0, .methodref 8 37), (0, .nameAndType 38 39), (0, u "ok"), (0, u "([BIIIII)Z"), (3, u "law"), (0, u "(IIII)Z")] 4

def k1m0 : Method := { name := "<init>", desc := "()V", sig := { parameters := [], returnType := none }, accessFlags := 1, code := none }
def k1c1 : Code := { maxStack := 2, maxLocals := 3, code := method_2_code, exceptionTable := #[], attributes := #[] }
def k1m1 : Method := { name := "orig", desc := "(III)B", sig := { parameters := [.int, .int, .int], returnType := some .byte }, accessFlags := 10, code := some k1c1 }
def k1c2 : Code := { maxStack := 3, maxLocals := 7, code := method_3_code, exceptionTable := #[], attributes := #[] }
def k1m2 : Method := { name := "ok", desc := "([BIIIII)Z", sig := { parameters := [(.array .byte), .int, .int, .int, .int, .int], returnType := some .boolean }, accessFlags := 10, code := some k1c2 }
def k1c3 : Code := { maxStack := 6, maxLocals := 7, code := code, exceptionTable := #[], attributes := #[] }
def k1m3 : Method := { name := "law", desc := "(IIII)Z", sig := { parameters := [.int, .int, .int, .int], returnType := some .boolean }, accessFlags := 9, code := some k1c3 }
/-- com/example/corbel/corbel/bytecode/BytesU2AtPinLaw -/
def k1 : Class := { plain "com/example/corbel/corbel/bytecode/BytesU2AtPinLaw" (some 0) with
  accessFlags := 49
  interfaces := #[]
  cf := some (fileOf pool1 8 #[] #[{ accessFlags := 1, nameIndex := 5, descriptorIndex := 6, attributes := #[] }, { accessFlags := 10, nameIndex := 11, descriptorIndex := 12, attributes := #[] }, { accessFlags := 10, nameIndex := 38, descriptorIndex := 39, attributes := #[] }, { accessFlags := 9, nameIndex := 43, descriptorIndex := 44, attributes := #[] }] 49 2 #[] #[])
  fields := #[]
  methods := #[k1m0, k1m1, k1m2, k1m3]
  instanceTypes := #[]
  staticTypes := #[]
  resolved := Array.replicate 49 none
  statics := none }

def pool2 : Array CpInfo := pool [(1, .methodref 2 3), (0, .class_ 4), (0, .nameAndType 5 6), (0, u "java/lang/Object"), (0, u "<init>"), (0, u "()V"), (0, .fieldref 8 9), (0, .class_ 10), (0, .nameAndType 11 12), (0, u "com/example/corbel/corbel/bytecode/Bytes"), (0, u "data"), (0, u "[B"), (0, .fieldref 8 14), (0, .nameAndType 15 16), (0, u "length"), (0, u "I"), (0, .methodref 18 19), (0, .class_ 20), (0, .nameAndType 21 22), (0, u "java/util/Arrays"), (0, u "copyOf"), (0, u "([BI)[B"), (0, .methodref 8 24), (0, .nameAndType 25 26), (0, u "u1"), (0, u "(I)V"), (0, .methodref 8 28), (0, .nameAndType 29 26), (0, u "u2"), (5, u "()I"), (21, u "u4"), (0, u "u2At"), (0, u "(II)V"), (1, u "toArray"), (0, u "()[B")] 17

def k2c0 : Code := { maxStack := 2, maxLocals := 1, code := prog_10_method_1_code, exceptionTable := #[], attributes := #[] }
def k2m0 : Method := { name := "<init>", desc := "()V", sig := { parameters := [], returnType := none }, accessFlags := 0, code := some k2c0 }
def k2c1 : Code := { maxStack := 1, maxLocals := 1, code := prog_10_method_2_code, exceptionTable := #[], attributes := #[] }
def k2m1 : Method := { name := "length", desc := "()I", sig := { parameters := [], returnType := some .int }, accessFlags := 0, code := some k2c1 }
def k2c2 : Code := { maxStack := 5, maxLocals := 2, code := prog_10_method_3_code, exceptionTable := #[], attributes := #[] }
def k2m2 : Method := { name := "u1", desc := "(I)V", sig := { parameters := [.int], returnType := none }, accessFlags := 0, code := some k2c2 }
def k2c3 : Code := { maxStack := 3, maxLocals := 2, code := prog_10_method_4_code, exceptionTable := #[], attributes := #[] }
def k2m3 : Method := { name := "u2", desc := "(I)V", sig := { parameters := [.int], returnType := none }, accessFlags := 0, code := some k2c3 }
def k2c4 : Code := { maxStack := 3, maxLocals := 2, code := prog_10_method_5_code, exceptionTable := #[], attributes := #[] }
def k2m4 : Method := { name := "u4", desc := "(I)V", sig := { parameters := [.int], returnType := none }, accessFlags := 0, code := some k2c4 }
def k2c5 : Code := { maxStack := 4, maxLocals := 3, code := prog_10_method_6_code, exceptionTable := #[], attributes := #[] }
def k2m5 : Method := { name := "u2At", desc := "(II)V", sig := { parameters := [.int, .int], returnType := none }, accessFlags := 0, code := some k2c5 }
def k2c6 : Code := { maxStack := 2, maxLocals := 1, code := prog_10_method_9_code, exceptionTable := #[], attributes := #[] }
def k2m6 : Method := { name := "toArray", desc := "()[B", sig := { parameters := [], returnType := some (.array .byte) }, accessFlags := 0, code := some k2c6 }
/-- com/example/corbel/corbel/bytecode/Bytes -/
def k2 : Class := { plain "com/example/corbel/corbel/bytecode/Bytes" (some 0) with
  accessFlags := 48
  interfaces := #[]
  cf := some (fileOf pool2 8 #[] #[{ accessFlags := 0, nameIndex := 5, descriptorIndex := 6, attributes := #[] }, { accessFlags := 0, nameIndex := 15, descriptorIndex := 35, attributes := #[] }, { accessFlags := 0, nameIndex := 25, descriptorIndex := 26, attributes := #[] }, { accessFlags := 0, nameIndex := 29, descriptorIndex := 26, attributes := #[] }, { accessFlags := 0, nameIndex := 57, descriptorIndex := 26, attributes := #[] }, { accessFlags := 0, nameIndex := 58, descriptorIndex := 59, attributes := #[] }, { accessFlags := 0, nameIndex := 61, descriptorIndex := 62, attributes := #[] }] 48 2 #[] #[{ accessFlags := 2, nameIndex := 11, descriptorIndex := 12, attributes := #[] }, { accessFlags := 2, nameIndex := 15, descriptorIndex := 16, attributes := #[] }])
  fields := #[{ name := "data", type := (.array .byte), accessFlags := 2, slot := 0, constantValue := 0 }, { name := "length", type := .int, accessFlags := 2, slot := 1, constantValue := 0 }]
  methods := #[k2m0, k2m1, k2m2, k2m3, k2m4, k2m5, k2m6]
  instanceTypes := #[(.array .byte), .int]
  staticTypes := #[]
  resolved := Array.replicate 80 none
  statics := none }

def pool3 : Array CpInfo := pool [(2, .class_ 4), (1, u "java/lang/Object"), (0, u "<init>"), (0, u "()V"), (7, .class_ 16), (1, u "java/util/Arrays"), (57, .class_ 76), (1, u "java/util/Arrays$NaturalOrder"), (36, .class_ 115), (1, u "java/util/Arrays$LegacyMergeSort"), (1, u "Z"), (32, .methodref 151 152), (0, .class_ 153), (0, .nameAndType 154 155), (0, u "java/lang/System"), (0, u "arraycopy"), (0, u "(Ljava/lang/Object;ILjava/lang/Object;II)V"), (146, u "copyOf"), (1, .methodref 305 306), (0, .class_ 307), (0, .nameAndType 308 309), (0, u "java/lang/Math"), (0, u "min"), (0, u "(II)I"), (65, .class_ 376), (0, u "java/util/Arrays$ArrayList"), (68, u "$assertionsDisabled"), (269, u "MIN_ARRAY_SORT_GRAN"), (0, u "I"), (2, u "INSERTIONSORT_THRESHOLD"), (149, u "([BI)[B"), (105, .class_ 976), (0, u "java/util/Arrays$ArrayItr")] 52

def k3m0 : Method := { name := "<init>", desc := "()V", sig := { parameters := [], returnType := none }, accessFlags := 2, code := none }
def k3c1 : Code := { maxStack := 6, maxLocals := 3, code := jdk_65_method_121_code, exceptionTable := #[], attributes := #[] }
def k3m1 : Method := { name := "copyOf", desc := "([BI)[B", sig := { parameters := [(.array .byte), .int], returnType := some (.array .byte) }, accessFlags := 9, code := some k3c1 }
/-- java/util/Arrays -/
def k3 : Class := { plain "java/util/Arrays" (some 0) with
  accessFlags := 49
  interfaces := #[]
  cf := some (fileOf pool3 14 #[.nestMembers #[975, 375, 113, 74]] #[{ accessFlags := 2, nameIndex := 5, descriptorIndex := 6, attributes := #[] }, { accessFlags := 9, nameIndex := 302, descriptorIndex := 869, attributes := #[] }] 49 2 #[] #[{ accessFlags := 26, nameIndex := 715, descriptorIndex := 716, attributes := #[] }, { accessFlags := 26, nameIndex := 719, descriptorIndex := 716, attributes := #[] }, { accessFlags := 4120, nameIndex := 445, descriptorIndex := 117, attributes := #[] }])
  fields := #[{ name := "MIN_ARRAY_SORT_GRAN", type := .int, accessFlags := 26, slot := 0, constantValue := 0 }, { name := "INSERTIONSORT_THRESHOLD", type := .int, accessFlags := 26, slot := 1, constantValue := 0 }, { name := "$assertionsDisabled", type := .boolean, accessFlags := 4120, slot := 2, constantValue := 0 }]
  methods := #[k3m0, k3m1]
  instanceTypes := #[]
  staticTypes := #[.int, .int, .boolean]
  resolved := Array.replicate 1029 none
  statics := none }

def pool4 : Array CpInfo := pool [(1, .class_ 2), (0, u "java/lang/Math"), (1, .class_ 6), (1, u "java/lang/Object"), (0, u "<init>"), (0, u "()V"), (89, .class_ 100), (1, u "java/lang/Math$RandomNumberGeneratorHolder"), (71, u "negativeZeroFloatBits"), (0, u "J"), (2, u "negativeZeroDoubleBits"), (24, u "min"), (43, u "$assertionsDisabled"), (0, u "Z"), (88, u "(II)I"), (2, u "twoToTheDoubleScaleDown"), (0, u "D"), (4, u "twoToTheDoubleScaleUp"), (9, u "E"), (3, u "PI"), (2, u "TAU"), (2, u "DEGREES_TO_RADIANS"), (0, u "RADIANS_TO_DEGREES")] 94

def k4m0 : Method := { name := "<init>", desc := "()V", sig := { parameters := [], returnType := none }, accessFlags := 2, code := none }
def k4c1 : Code := { maxStack := 2, maxLocals := 2, code := jdk_29_method_69_code, exceptionTable := #[], attributes := #[] }
def k4m1 : Method := { name := "min", desc := "(II)I", sig := { parameters := [.int, .int], returnType := some .int }, accessFlags := 9, code := some k4c1 }
/-- java/lang/Math -/
def k4 : Class := { plain "java/lang/Math" (some 0) with
  accessFlags := 49
  interfaces := #[]
  cf := some (fileOf pool4 1 #[.nestMembers #[98]] #[{ accessFlags := 2, nameIndex := 7, descriptorIndex := 8, attributes := #[] }, { accessFlags := 9, nameIndex := 201, descriptorIndex := 335, attributes := #[] }] 49 4 #[] #[{ accessFlags := 25, nameIndex := 354, descriptorIndex := 339, attributes := #[] }, { accessFlags := 25, nameIndex := 358, descriptorIndex := 339, attributes := #[] }, { accessFlags := 25, nameIndex := 361, descriptorIndex := 339, attributes := #[] }, { accessFlags := 26, nameIndex := 364, descriptorIndex := 339, attributes := #[] }, { accessFlags := 26, nameIndex := 365, descriptorIndex := 339, attributes := #[] }, { accessFlags := 26, nameIndex := 172, descriptorIndex := 173, attributes := #[] }, { accessFlags := 26, nameIndex := 176, descriptorIndex := 173, attributes := #[] }, { accessFlags := 8, nameIndex := 344, descriptorIndex := 339, attributes := #[] }, { accessFlags := 8, nameIndex := 338, descriptorIndex := 339, attributes := #[] }, { accessFlags := 4120, nameIndex := 245, descriptorIndex := 246, attributes := #[] }])
  fields := #[{ name := "E", type := .double, accessFlags := 25, slot := 0, constantValue := 0 }, { name := "PI", type := .double, accessFlags := 25, slot := 1, constantValue := 0 }, { name := "TAU", type := .double, accessFlags := 25, slot := 2, constantValue := 0 }, { name := "DEGREES_TO_RADIANS", type := .double, accessFlags := 26, slot := 3, constantValue := 0 }, { name := "RADIANS_TO_DEGREES", type := .double, accessFlags := 26, slot := 4, constantValue := 0 }, { name := "negativeZeroFloatBits", type := .long, accessFlags := 26, slot := 5, constantValue := 0 }, { name := "negativeZeroDoubleBits", type := .long, accessFlags := 26, slot := 6, constantValue := 0 }, { name := "twoToTheDoubleScaleUp", type := .double, accessFlags := 8, slot := 7, constantValue := 0 }, { name := "twoToTheDoubleScaleDown", type := .double, accessFlags := 8, slot := 8, constantValue := 0 }, { name := "$assertionsDisabled", type := .boolean, accessFlags := 4120, slot := 9, constantValue := 0 }]
  methods := #[k4m0, k4m1]
  instanceTypes := #[]
  staticTypes := #[.double, .double, .double, .double, .double, .long, .long, .double, .double, .boolean]
  resolved := Array.replicate 460 none
  statics := none }

def pool5 : Array CpInfo := pool [(2, .class_ 4), (1, u "java/lang/Object"), (0, u "<init>"), (0, u "()V"), (1, .class_ 10), (1, u "java/lang/System"), (0, u "allowSecurityManager"), (0, u "I"), (16, u "cons"), (0, u "Ljava/io/Console;"), (77, .class_ 110), (1, u "java/lang/System$CallersHolder"), (43, u "initialErrStream"), (0, u "Ljava/io/PrintStream;"), (19, u "security"), (0, u "Ljava/lang/SecurityManager;"), (31, .class_ 209), (0, u "java/lang/System$1"), (7, u "props"), (0, u "Ljava/util/Properties;"), (2, u "lineSeparator"), (0, u "Ljava/lang/String;"), (96, .class_ 321), (1, u "java/lang/System$LoggerFinder"), (5, .class_ 328), (0, u "java/lang/System$Logger"), (67, u "err"), (2, u "out"), (91, u "notSupportedJnuEncoding"), (15, u "in"), (17, u "initialIn"), (0, u "Ljava/io/InputStream;"), (35, u "bootLayer"), (0, u "Ljava/lang/ModuleLayer;"), (99, .class_ 664), (0, u "java/lang/System$2"), (9, u "NEVER"), (2, u "MAYBE"), (49, u "arraycopy"), (0, u "(Ljava/lang/Object;ILjava/lang/Object;II)V"), (72, .class_ 802), (0, u "java/lang/System$Logger$Level")] 31

def k5m0 : Method := { name := "<init>", desc := "()V", sig := { parameters := [], returnType := none }, accessFlags := 2, code := none }
def k5m1 : Method := { name := "arraycopy", desc := "(Ljava/lang/Object;ILjava/lang/Object;II)V", sig := { parameters := [(.object "java/lang/Object"), .int, (.object "java/lang/Object"), .int, .int], returnType := none }, accessFlags := 265, code := none }
/-- java/lang/System -/
def k5 : Class := { plain "java/lang/System" (some 0) with
  accessFlags := 49
  interfaces := #[]
  cf := some (fileOf pool5 8 #[.nestMembers #[319, 327, 801, 108, 663, 208]] #[{ accessFlags := 2, nameIndex := 5, descriptorIndex := 6, attributes := #[] }, { accessFlags := 265, nameIndex := 727, descriptorIndex := 728, attributes := #[] }] 49 2 #[] #[{ accessFlags := 25, nameIndex := 507, descriptorIndex := 526, attributes := #[] }, { accessFlags := 25, nameIndex := 399, descriptorIndex := 155, attributes := #[] }, { accessFlags := 25, nameIndex := 396, descriptorIndex := 155, attributes := #[] }, { accessFlags := 10, nameIndex := 525, descriptorIndex := 526, attributes := #[] }, { accessFlags := 26, nameIndex := 674, descriptorIndex := 12, attributes := #[] }, { accessFlags := 26, nameIndex := 677, descriptorIndex := 12, attributes := #[] }, { accessFlags := 10, nameIndex := 11, descriptorIndex := 12, attributes := #[] }, { accessFlags := 74, nameIndex := 175, descriptorIndex := 176, attributes := #[] }, { accessFlags := 10, nameIndex := 491, descriptorIndex := 222, attributes := #[] }, { accessFlags := 74, nameIndex := 29, descriptorIndex := 30, attributes := #[] }, { accessFlags := 74, nameIndex := 154, descriptorIndex := 155, attributes := #[] }, { accessFlags := 10, nameIndex := 217, descriptorIndex := 218, attributes := #[] }, { accessFlags := 10, nameIndex := 221, descriptorIndex := 222, attributes := #[] }, { accessFlags := 8, nameIndex := 562, descriptorIndex := 563, attributes := #[] }])
  fields := #[{ name := "in", type := (.object "java/io/InputStream"), accessFlags := 25, slot := 0, constantValue := 0 }, { name := "out", type := (.object "java/io/PrintStream"), accessFlags := 25, slot := 1, constantValue := 0 }, { name := "err", type := (.object "java/io/PrintStream"), accessFlags := 25, slot := 2, constantValue := 0 }, { name := "initialIn", type := (.object "java/io/InputStream"), accessFlags := 10, slot := 3, constantValue := 0 }, { name := "NEVER", type := .int, accessFlags := 26, slot := 4, constantValue := 0 }, { name := "MAYBE", type := .int, accessFlags := 26, slot := 5, constantValue := 0 }, { name := "allowSecurityManager", type := .int, accessFlags := 10, slot := 6, constantValue := 0 }, { name := "security", type := (.object "java/lang/SecurityManager"), accessFlags := 74, slot := 7, constantValue := 0 }, { name := "notSupportedJnuEncoding", type := (.object "java/lang/String"), accessFlags := 10, slot := 8, constantValue := 0 }, { name := "cons", type := (.object "java/io/Console"), accessFlags := 74, slot := 9, constantValue := 0 }, { name := "initialErrStream", type := (.object "java/io/PrintStream"), accessFlags := 74, slot := 10, constantValue := 0 }, { name := "props", type := (.object "java/util/Properties"), accessFlags := 10, slot := 11, constantValue := 0 }, { name := "lineSeparator", type := (.object "java/lang/String"), accessFlags := 10, slot := 12, constantValue := 0 }, { name := "bootLayer", type := (.object "java/lang/ModuleLayer"), accessFlags := 8, slot := 13, constantValue := 0 }]
  methods := #[k5m0, k5m1]
  instanceTypes := #[]
  staticTypes := #[(.object "java/io/InputStream"), (.object "java/io/PrintStream"), (.object "java/io/PrintStream"), (.object "java/io/InputStream"), .int, .int, .int, (.object "java/lang/SecurityManager"), (.object "java/lang/String"), (.object "java/io/Console"), (.object "java/io/PrintStream"), (.object "java/util/Properties"), (.object "java/lang/String"), (.object "java/lang/ModuleLayer")]
  resolved := Array.replicate 834 none
  statics := none }

def pool6 : Array CpInfo := pool [(1, u "java/lang/Cloneable"), (0, .class_ 1), (0, u "java/lang/Object"), (0, .class_ 3)] 3

/-- java/lang/Cloneable -/
def k6 : Class := { plain "java/lang/Cloneable" (some 0) with
  accessFlags := 1537
  interfaces := #[]
  cf := some (fileOf pool6 2 #[] #[] 1537 4 #[] #[])
  fields := #[]
  methods := #[]
  instanceTypes := #[]
  staticTypes := #[]
  resolved := Array.replicate 8 none
  statics := none }

def pool7 : Array CpInfo := pool [(1, u "java/io/Serializable"), (0, .class_ 1), (0, u "java/lang/Object"), (0, .class_ 3)] 3

/-- java/io/Serializable -/
def k7 : Class := { plain "java/io/Serializable" (some 0) with
  accessFlags := 1537
  interfaces := #[]
  cf := some (fileOf pool7 2 #[] #[] 1537 4 #[] #[])
  fields := #[]
  methods := #[]
  instanceTypes := #[]
  staticTypes := #[]
  resolved := Array.replicate 8 none
  statics := none }

/-- the primitive byte -/
def k8 : Class := { plain "byte" none with kind := .primitive 'B', accessFlags := 0x411 }
/-- [B -/
def k9 : Class := { plain "[B" (some 0) with kind := .array 8 .byte, interfaces := #[6, 7], accessFlags := 1041 }

/-- the primitive int -/
def k10 : Class := { plain "int" none with kind := .primitive 'I', accessFlags := 0x411 }
/-- [I -/
def k11 : Class := { plain "[I" (some 0) with kind := .array 10 .int, interfaces := #[6, 7], accessFlags := 1041 }

def heap : Heap := #[]
def classes : Array Class := #[k0, k1, k2, k3, k4, k5, k6, k7, k8, k9, k10, k11]
def interned : List (Array UInt16 × Addr) := []
def slotsUsed : Nat := 0
def theMethod : MethodId := ⟨1, 3⟩
def args0 : Array Value := #[.int 5, .int 5, .int 5, .int 5]
def aboutOver (below : List Frame) : State where
  vm := { classes := classes, interned := interned.toArray }
  heap := heap
  slotsUsed := slotsUsed
  threads := #[{ frames := .invoking theMethod args0 :: below }]
def below0 : List Frame := [.native { method := ⟨0, 0⟩, args := #[] }]
def about1 : State := aboutOver below0
def p0 : Program := .bare "" "" ""
def e0 : Env := launch0.env 0 0 0
theorem w_frames : about1.frames = Frame.invoking theMethod args0 :: below0 := rfl
set_option maxRecDepth 65536 in
theorem w_args : argsFit about1.vm theMethod args0 = true := by decide +kernel
set_option maxRecDepth 65536 in
theorem w_heap : heapFits about1 = true := by decide +kernel
set_option maxRecDepth 65536 in
theorem w_runnable : about1.curStatus? = some .runnable := by decide +kernel
set_option maxRecDepth 65536 in
theorem w_alone : about1.alone = true := by decide +kernel
set_option maxRecDepth 65536 in
theorem w_named : about1.methodNamed? x = some theMethod := by decide +kernel
set_option maxRecDepth 65536 in
theorem w_hears : about1.hears theMethod below0 = true := by decide +kernel
set_option maxRecDepth 65536 in
theorem w_ripe : about1.ripe theMethod args0 below0 = true := by decide +kernel
theorem w_running : about1.status = .running := rfl
set_option maxRecDepth 65536 in
theorem w_room : about1.hasRoom e0.platform room_1 = true :=
  launch0.hasRoom_least _ room_1 (by decide +kernel) (by decide +kernel) (by decide +kernel) (by decide +kernel) (by decide +kernel) (by decide +kernel)
theorem allAtoms_all (ts : List Jvm.Cond) (a : Array Jvm.Value) (st : Jvm.State) : (allAtoms ts).before a st = ts.all (fun c => c.before a st) := by
  induction ts with
  | nil => rfl
  | cons c t ih =>
    show (Jvm.Cond.and c (allAtoms t)).before a st = _
    rw [Jvm.Cond.before_and, ih, List.all_cons]
def words1 : List Jvm.Cond := Jvm.Cond.code x code maxLocals ret :: tables_1
/-- a 'code' word, met by the world's own term for the bytes: nothing is compared byte by byte -/
theorem code_word {y : MethodName} {bytes : ByteArray} {mx : Nat} {rt : Option FieldType} {a : Array Value} {s : State} {m : MethodId} {meth : Method} {c : Code} (h1 : s.methodNamed? y = some m) (h2 : s.vm.method? m = some meth) (h3 : meth.code = some c) (h4 : c.code = bytes)
    (h5 : (c.maxLocals == mx && c.exceptionTable.isEmpty && decide (c.maxStack ≤ mostOperands) && decide (meth.sig.returnType = rt) && !meth.locks && decide (parseMethodDescriptor y.desc = some meth.sig)) = true) : (Jvm.Cond.code y bytes mx rt).before a s = true := by
  simp only [Bool.and_eq_true, beq_iff_eq, Bool.not_eq_true', decide_eq_true_eq] at h5
  obtain ⟨⟨⟨⟨⟨g1, g2⟩, g3⟩, g4⟩, g5⟩, g6⟩ := h5
  simp [Cond.before, Cond.holds, Cond.value, h1, h2, h3, h4, g1, g2, g3, g4, g5, g6]
def isCode : Jvm.Cond → Bool
  | .code _ _ _ _ => true
  | _ => false
theorem all_split {L : List Jvm.Cond} {P : Jvm.Cond → Bool} (h1 : L.all (fun c => isCode c || P c) = true) (h2 : ∀ c ∈ L.filter isCode, P c = true) : L.all P = true := by
  refine List.all_eq_true.mpr fun c hc => ?_
  have h := List.all_eq_true.mp h1 c hc
  rcases Bool.eq_false_or_eq_true (isCode c) with hi | hi
  · exact h2 c (List.mem_filter.mpr ⟨hc, hi⟩)
  · simpa [hi] using h
set_option maxRecDepth 65536 in
theorem w_c0 : (Jvm.Cond.code x code maxLocals ret).before args0 about1 = true := code_word (m := ⟨1, 3⟩) (meth := k1m3) (c := k1c3) (by decide +kernel) rfl rfl rfl (by decide +kernel)
set_option maxRecDepth 65536 in
theorem w_c1 : (Jvm.Cond.code ({ cls := "com/example/corbel/corbel/bytecode/Bytes", name := "<init>", desc := "()V" } : Jvm.MethodName) prog_10_method_1_code (1 : Nat) (Option.none : Option Jvm.ClassFile.FieldType)).before args0 about1 = true := code_word (m := ⟨2, 0⟩) (meth := k2m0) (c := k2c0) (by decide +kernel) rfl rfl rfl (by decide +kernel)
set_option maxRecDepth 65536 in
theorem w_c2 : (Jvm.Cond.code ({ cls := "java/lang/Object", name := "<init>", desc := "()V" } : Jvm.MethodName) object_method_1_code (1 : Nat) (Option.none : Option Jvm.ClassFile.FieldType)).before args0 about1 = true := code_word (m := ⟨0, 0⟩) (meth := k0m0) (c := k0c0) (by decide +kernel) rfl rfl rfl (by decide +kernel)
set_option maxRecDepth 65536 in
theorem w_c3 : (Jvm.Cond.code ({ cls := "com/example/corbel/corbel/bytecode/Bytes", name := "u4", desc := "(I)V" } : Jvm.MethodName) prog_10_method_5_code (2 : Nat) (Option.none : Option Jvm.ClassFile.FieldType)).before args0 about1 = true := code_word (m := ⟨2, 4⟩) (meth := k2m4) (c := k2c4) (by decide +kernel) rfl rfl rfl (by decide +kernel)
set_option maxRecDepth 65536 in
theorem w_c4 : (Jvm.Cond.code ({ cls := "com/example/corbel/corbel/bytecode/Bytes", name := "u2", desc := "(I)V" } : Jvm.MethodName) prog_10_method_4_code (2 : Nat) (Option.none : Option Jvm.ClassFile.FieldType)).before args0 about1 = true := code_word (m := ⟨2, 3⟩) (meth := k2m3) (c := k2c3) (by decide +kernel) rfl rfl rfl (by decide +kernel)
set_option maxRecDepth 65536 in
theorem w_c5 : (Jvm.Cond.code ({ cls := "com/example/corbel/corbel/bytecode/Bytes", name := "u1", desc := "(I)V" } : Jvm.MethodName) prog_10_method_3_code (2 : Nat) (Option.none : Option Jvm.ClassFile.FieldType)).before args0 about1 = true := code_word (m := ⟨2, 2⟩) (meth := k2m2) (c := k2c2) (by decide +kernel) rfl rfl rfl (by decide +kernel)
set_option maxRecDepth 65536 in
theorem w_c6 : (Jvm.Cond.code ({ cls := "com/example/corbel/corbel/bytecode/Bytes", name := "u2At", desc := "(II)V" } : Jvm.MethodName) prog_10_method_6_code (3 : Nat) (Option.none : Option Jvm.ClassFile.FieldType)).before args0 about1 = true := code_word (m := ⟨2, 5⟩) (meth := k2m5) (c := k2c5) (by decide +kernel) rfl rfl rfl (by decide +kernel)
set_option maxRecDepth 65536 in
theorem w_c7 : (Jvm.Cond.code ({ cls := "com/example/corbel/corbel/bytecode/Bytes", name := "length", desc := "()I" } : Jvm.MethodName) prog_10_method_2_code (1 : Nat) (Option.some Jvm.ClassFile.FieldType.int)).before args0 about1 = true := code_word (m := ⟨2, 1⟩) (meth := k2m1) (c := k2c1) (by decide +kernel) rfl rfl rfl (by decide +kernel)
set_option maxRecDepth 65536 in
theorem w_c8 : (Jvm.Cond.code ({ cls := "com/example/corbel/corbel/bytecode/Bytes", name := "toArray", desc := "()[B" } : Jvm.MethodName) prog_10_method_9_code (1 : Nat) (Option.some (Jvm.ClassFile.FieldType.array Jvm.ClassFile.FieldType.byte))).before args0 about1 = true := code_word (m := ⟨2, 6⟩) (meth := k2m6) (c := k2c6) (by decide +kernel) rfl rfl rfl (by decide +kernel)
set_option maxRecDepth 65536 in
theorem w_c9 : (Jvm.Cond.code ({ cls := "java/util/Arrays", name := "copyOf", desc := "([BI)[B" } : Jvm.MethodName) jdk_65_method_121_code (3 : Nat) (Option.some (Jvm.ClassFile.FieldType.array Jvm.ClassFile.FieldType.byte))).before args0 about1 = true := code_word (m := ⟨3, 1⟩) (meth := k3m1) (c := k3c1) (by decide +kernel) rfl rfl rfl (by decide +kernel)
set_option maxRecDepth 65536 in
theorem w_c10 : (Jvm.Cond.code ({ cls := "java/lang/Math", name := "min", desc := "(II)I" } : Jvm.MethodName) jdk_29_method_69_code (2 : Nat) (Option.some Jvm.ClassFile.FieldType.int)).before args0 about1 = true := code_word (m := ⟨4, 1⟩) (meth := k4m1) (c := k4c1) (by decide +kernel) rfl rfl rfl (by decide +kernel)
set_option maxRecDepth 65536 in
theorem w_c11 : (Jvm.Cond.code ({ cls := "com/example/corbel/corbel/bytecode/BytesU2AtPinLaw", name := "ok", desc := "([BIIIII)Z" } : Jvm.MethodName) method_3_code (7 : Nat) (Option.some Jvm.ClassFile.FieldType.boolean)).before args0 about1 = true := code_word (m := ⟨1, 2⟩) (meth := k1m2) (c := k1c2) (by decide +kernel) rfl rfl rfl (by decide +kernel)
set_option maxRecDepth 65536 in
theorem w_c12 : (Jvm.Cond.code ({ cls := "com/example/corbel/corbel/bytecode/BytesU2AtPinLaw", name := "orig", desc := "(III)B" } : Jvm.MethodName) method_2_code (3 : Nat) (Option.some Jvm.ClassFile.FieldType.byte)).before args0 about1 = true := code_word (m := ⟨1, 1⟩) (meth := k1m1) (c := k1c1) (by decide +kernel) rfl rfl rfl (by decide +kernel)
def codes1 : List Jvm.Cond := [Jvm.Cond.code x code maxLocals ret, Jvm.Cond.code ({ cls := "com/example/corbel/corbel/bytecode/Bytes", name := "<init>", desc := "()V" } : Jvm.MethodName) prog_10_method_1_code (1 : Nat) (Option.none : Option Jvm.ClassFile.FieldType), Jvm.Cond.code ({ cls := "java/lang/Object", name := "<init>", desc := "()V" } : Jvm.MethodName) object_method_1_code (1 : Nat) (Option.none : Option Jvm.ClassFile.FieldType), Jvm.Cond.code ({ cls := "com/example/corbel/corbel/bytecode/Bytes", name := "u4", desc := "(I)V" } : Jvm.MethodName) prog_10_method_5_code (2 : Nat) (Option.none : Option Jvm.ClassFile.FieldType), Jvm.Cond.code ({ cls := "com/example/corbel/corbel/bytecode/Bytes", name := "u2", desc := "(I)V" } : Jvm.MethodName) prog_10_method_4_code (2 : Nat) (Option.none : Option Jvm.ClassFile.FieldType), Jvm.Cond.code ({ cls := "com/example/corbel/corbel/bytecode/Bytes", name := "u1", desc := "(I)V" } : Jvm.MethodName) prog_10_method_3_code (2 : Nat) (Option.none : Option Jvm.ClassFile.FieldType), Jvm.Cond.code ({ cls := "com/example/corbel/corbel/bytecode/Bytes", name := "u2At", desc := "(II)V" } : Jvm.MethodName) prog_10_method_6_code (3 : Nat) (Option.none : Option Jvm.ClassFile.FieldType), Jvm.Cond.code ({ cls := "com/example/corbel/corbel/bytecode/Bytes", name := "length", desc := "()I" } : Jvm.MethodName) prog_10_method_2_code (1 : Nat) (Option.some Jvm.ClassFile.FieldType.int), Jvm.Cond.code ({ cls := "com/example/corbel/corbel/bytecode/Bytes", name := "toArray", desc := "()[B" } : Jvm.MethodName) prog_10_method_9_code (1 : Nat) (Option.some (Jvm.ClassFile.FieldType.array Jvm.ClassFile.FieldType.byte)), Jvm.Cond.code ({ cls := "java/util/Arrays", name := "copyOf", desc := "([BI)[B" } : Jvm.MethodName) jdk_65_method_121_code (3 : Nat) (Option.some (Jvm.ClassFile.FieldType.array Jvm.ClassFile.FieldType.byte)), Jvm.Cond.code ({ cls := "java/lang/Math", name := "min", desc := "(II)I" } : Jvm.MethodName) jdk_29_method_69_code (2 : Nat) (Option.some Jvm.ClassFile.FieldType.int), Jvm.Cond.code ({ cls := "com/example/corbel/corbel/bytecode/BytesU2AtPinLaw", name := "ok", desc := "([BIIIII)Z" } : Jvm.MethodName) method_3_code (7 : Nat) (Option.some Jvm.ClassFile.FieldType.boolean), Jvm.Cond.code ({ cls := "com/example/corbel/corbel/bytecode/BytesU2AtPinLaw", name := "orig", desc := "(III)B" } : Jvm.MethodName) method_2_code (3 : Nat) (Option.some Jvm.ClassFile.FieldType.byte)]
set_option maxRecDepth 65536 in
theorem codes_eq : words1.filter isCode = codes1 := rfl
theorem w_codes : ∀ c ∈ words1.filter isCode, c.before args0 about1 = true := by
  rw [codes_eq]
  intro c hc
  simp only [codes1, List.mem_cons, List.not_mem_nil, or_false] at hc
  rcases hc with rfl | rfl | rfl | rfl | rfl | rfl | rfl | rfl | rfl | rfl | rfl | rfl | rfl
  · exact w_c0
  · exact w_c1
  · exact w_c2
  · exact w_c3
  · exact w_c4
  · exact w_c5
  · exact w_c6
  · exact w_c7
  · exact w_c8
  · exact w_c9
  · exact w_c10
  · exact w_c11
  · exact w_c12
set_option maxRecDepth 65536 in
theorem w_t1 : (words1.take 24).all (fun c => isCode c || c.before args0 about1) = true := by decide +kernel
set_option maxRecDepth 65536 in
theorem w_t2 : ((words1.drop 24).take 24).all (fun c => isCode c || c.before args0 about1) = true := by decide +kernel
set_option maxRecDepth 65536 in
theorem w_t3 : ((words1.drop 24).drop 24).all (fun c => isCode c || c.before args0 about1) = true := by decide +kernel
theorem w_tables : (allAtoms (Jvm.Cond.code x code maxLocals ret :: tables_1)).before args0 about1 = true := by
  rw [allAtoms_all]
  show words1.all (fun c => c.before args0 about1) = true
  refine all_split ?_ w_codes
  rw [← List.take_append_drop 24 words1, List.all_append, w_t1, ← List.take_append_drop 24 (words1.drop 24), List.all_append, w_t2, w_t3]
  rfl
set_option maxRecDepth 65536 in
theorem w_case : (Jvm.Cond.and given_1 narrow_1).before args0 about1 = true := by decide +kernel
theorem w_applies : (headSpec (Jvm.Cond.code x code maxLocals ret :: tables_1) room_1).applies x e0.platform about1 = true :=
  (Spec.applies_iff w_frames).mpr ⟨w_running, w_runnable, w_alone, w_named, w_hears, w_ripe, w_room, w_tables⟩
theorem atStart : AtStart classFile x code maxLocals ret World_1 tables_1 room_1 Calls_1 rest_1 Pre_1 launch0 p0 e0 about1 theMethod args0 below0 :=
  ⟨lists_1, trivial, launch0.admits_env _ _ _, launch0.least_env, fairChoices_fair.cas, fairChoices_fair.clock, w_frames, w_args, w_heap, w_applies, trivial, trivial, w_case⟩
end start1
theorem witness_1 : WitnessClaimed_1 := ⟨start1.p0, start1.e0, start1.about1, start1.theMethod, start1.args0, start1.below0, start1.atStart⟩
end Jvm.Pilot.@@N@@
