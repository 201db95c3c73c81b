import JvmDerived
import JvmDerived.Pilot.@@N@@Statement
import JvmDerived.Pilot.@@N@@Code
set_option linter.unusedVariables false
set_option linter.unusedSimpArgs false
namespace Jvm.RoadKit
open Sem ClassFile Op Lib Jvm.Stand Jvm.Free Jvm.LawKit
section New
variable {p : Program} {l : Launch} {e : Env} {R : Room} {s : State} {m : MethodId} {args : Array Value} {below : List Frame} {meth : Method} {c : Code} {T : State} {locs : List Loc} {cells slots : Nat}
theorem retI (X : Stand p l e R s m args below meth c T locs cells slots) (hx : p.tables.exec = Jvm.exec) {pc : Nat} {Ls : Array Slot} {z : Int32} {rest : List Value} (hret : meth.sig.returnType = some .int) (hd : decode c.code pc = .ok (.ireturn, 1)) {fs : List Frame}
    (hl : ∀ (f : JFrame) (acts : List Action), f.method = m → f.locked = none → f.entered = [] → (doReturn e (T.setTop f) acts (some (.int z))).1 = T.setFrames fs) : Steps p.tables e below (T.setTop (mkF m pc Ls (.int z :: rest))) (T.setFrames fs) := by
  have hm' : T.vm.method? m = some meth := X.method'
  have hn : narrow .int (.int z) = .int z := rfl
  show Steps p.tables e below (T.setTop { method := m, pc := pc, locals := Ls, stack := _ :: rest, locked := none }) _
  jvm_step X.here [X.here.top, hx, hd, hm', hret, hn]
  first | (intro acts; rw [hl _ acts rfl rfl rfl]) | rw [hl _ _ rfl rfl rfl]
  exact Steps.refl _
end New
end Jvm.RoadKit
namespace Jvm.Pilot.@@N@@
open Jvm Jvm.ClassFile Sem Op Lib Jvm.Free Jvm.Stand Jvm.LawKit Jvm.RoadKit Bundle Jvm.Pilot.@@N@@.Jvm.D
section Own
variable {p : Program} {l : Launch} {e : Env} {R : Room} {s : State} {m : MethodId} {args : Array Value} {below : List Frame} {meth : Method} {c : Code} {T T' : State} {locs : List Loc} {cells slots : Nat} {Q : Option Value → Heap → List Loc → Prop} {kc ks : Nat} {pc pc' : Nat} {ls : Array Slot} {st : List Value}
/-- from T with the frame g on top the run comes to its end, as Q asks -/
def own_Ends (p : Program) (e : Env) (below : List Frame) (s : State) (Q : Option Value → Heap → List Loc → Prop) (kc ks : Nat) (T : State) (g : JFrame) : Prop :=
  ∃ s₂ o, Steps p.tables e below (T.setTop g) s₂ ∧ s₂.status = .running ∧ Ended s₂ below o ∧ ∃ v L, o = .returned v ∧ Q v s₂.heap L ∧ FrameEnd s o s₂ L kc ks
theorem own_go {g g' : JFrame} (h : ∀ t, Steps p.tables e below (T'.setTop g') t → Steps p.tables e below (T.setTop g) t) (K : own_Ends p e below s Q kc ks T' g') : own_Ends p e below s Q kc ks T g := by
  obtain ⟨s2, o, h1, r⟩ := K
  exact ⟨s2, o, h _ h1, r⟩
theorem own_cast {g g' : JFrame} (q : g = g') (K : own_Ends p e below s Q kc ks T g') : own_Ends p e below s Q kc ks T g := q ▸ K
theorem own_leave {v : Option Value} {g : JFrame} (X : Stand p l e R s m args below meth c T locs cells slots) (hlk : meth.locks = false) (hv : meth.sig.returnType = none → v = none)
    (hs : ∀ fs, (∀ (f : JFrame) (acts : List Action), f.method = m → f.locked = none → f.entered = [] → (doReturn e (T.setTop f) acts v).1 = T.setFrames fs) → Steps p.tables e below (T.setTop g) (T.setFrames fs)) (hc : cells ≤ kc) (hn : slots ≤ ks) (hQ : Q v T.heap locs) : own_Ends p e below s Q kc ks T g := by
  obtain ⟨fs, hr, hrun, hended, hW, hsame⟩ := X.leave (v := v) hv hlk
  exact ⟨_, _, hs fs hr, hrun, hended, _, _, rfl, hQ, ⟨_, rfl⟩, hW, hsame.mono hc hn⟩
theorem own_retI (X : Stand p l e R s m args below meth c T locs cells slots) (hx : p.tables.exec = Jvm.exec) (hlk : meth.locks = false) {z : Int32} (hret : meth.sig.returnType = some .int) (hd : decode c.code pc = .ok (.ireturn, 1)) (hc : cells ≤ kc) (hn : slots ≤ ks) (hQ : Q (some (.int z)) T.heap locs) : own_Ends p e below s Q kc ks T (mkF m pc ls (.int z :: st)) :=
  own_leave X hlk (fun h => by rw [hret] at h; cases h) (fun fs hr => retI X hx hret hd hr) hc hn hQ
theorem own_retN (X : Stand p l e R s m args below meth c T locs cells slots) (hx : p.tables.exec = Jvm.exec) (hlk : meth.locks = false) {z : Int32} {ty : FieldType} (hret : meth.sig.returnType = some ty) (ht : ty = .boolean ∨ ty = .byte ∨ ty = .char ∨ ty = .short) (hd : decode c.code pc = .ok (.ireturn, 1)) (hc : cells ≤ kc) (hn : slots ≤ ks) (hQ : Q (some (.int (nar ty z))) T.heap locs) : own_Ends p e below s Q kc ks T (mkF m pc ls (.int z :: st)) :=
  own_leave X hlk (fun h => by rw [hret] at h; cases h) (fun fs hr => retN X hx (t := ty) hret ht hd hr) hc hn hQ
theorem own_retL (X : Stand p l e R s m args below meth c T locs cells slots) (hx : p.tables.exec = Jvm.exec) (hlk : meth.locks = false) {z : Int64} (hret : meth.sig.returnType = some .long) (hd : decode c.code pc = .ok (.lreturn, 1)) (hc : cells ≤ kc) (hn : slots ≤ ks) (hQ : Q (some (.long z)) T.heap locs) : own_Ends p e below s Q kc ks T (mkF m pc ls [.long z]) :=
  own_leave X hlk (fun h => by rw [hret] at h; cases h) (fun fs hr => retOut X hx (t := .long) hret rfl (Or.inr (Or.inl ⟨rfl, rfl, _, rfl⟩)) hd hr) hc hn hQ
theorem own_retD (X : Stand p l e R s m args below meth c T locs cells slots) (hx : p.tables.exec = Jvm.exec) (hlk : meth.locks = false) {z : UInt64} (hret : meth.sig.returnType = some .double) (hd : decode c.code pc = .ok (.dreturn, 1)) (hc : cells ≤ kc) (hn : slots ≤ ks) (hQ : Q (some (.double z)) T.heap locs) : own_Ends p e below s Q kc ks T (mkF m pc ls [.double z]) :=
  own_leave X hlk (fun h => by rw [hret] at h; cases h) (fun fs hr => retOut X hx (t := .double) hret rfl (Or.inr (Or.inr (Or.inl ⟨rfl, rfl, _, rfl⟩))) hd hr) hc hn hQ
theorem own_retA (X : Stand p l e R s m args below meth c T locs cells slots) (hx : p.tables.exec = Jvm.exec) (hlk : meth.locks = false) {w : Value} {ty : FieldType} (hret : meth.sig.returnType = some ty) (ht : ty.isReference = true) (hw : w.isRef = true) (hn1 : narrow ty w = w) (hd : decode c.code pc = .ok (.areturn, 1)) (hc : cells ≤ kc) (hn : slots ≤ ks) (hQ : Q (some w) T.heap locs) : own_Ends p e below s Q kc ks T (mkF m pc ls (w :: st)) :=
  own_leave X hlk (fun h => by rw [hret] at h; cases h) (fun fs hr => retOut X hx (t := ty) hret hn1 (Or.inr (Or.inr (Or.inr (Or.inr ⟨rfl, ht, hw⟩)))) hd hr) hc hn hQ
theorem own_retV (X : Stand p l e R s m args below meth c T locs cells slots) (hx : p.tables.exec = Jvm.exec) (hlk : meth.locks = false) (hret : meth.sig.returnType = none) (hd : decode c.code pc = .ok (.return_, 1)) (hc : cells ≤ kc) (hn : slots ≤ ks) (hQ : Q none T.heap locs) : own_Ends p e below s Q kc ks T (mkF m pc ls []) :=
  own_leave X hlk (fun _ => rfl) (fun fs hr => X.returnOut hx hret hd hr) hc hn hQ
theorem own_iloadN (X : Stand p l e R s m args below meth c T locs cells slots) (hx : p.tables.exec = Jvm.exec) {k : Fin 4} {v : Int32} (hd : decode c.code pc = .ok (.iload_n k, 1)) (hp : pc + 1 = pc') (hl : ls[k.val]? = some (.val (.int v))) (K : own_Ends p e below s Q kc ks T (mkF m pc' ls (.int v :: st))) : own_Ends p e below s Q kc ks T (mkF m pc ls st) := by
  subst hp
  exact own_go (fun t k => XS.iloadN X.here hx rfl hd hl k) K
theorem own_iload (X : Stand p l e R s m args below meth c T locs cells slots) (hx : p.tables.exec = Jvm.exec) {k : Nat} {v : Int32} (hd : decode c.code pc = .ok (.iload k, 2)) (hp : pc + 2 = pc') (hl : ls[k]? = some (.val (.int v))) (K : own_Ends p e below s Q kc ks T (mkF m pc' ls (.int v :: st))) : own_Ends p e below s Q kc ks T (mkF m pc ls st) := by
  subst hp
  exact own_go (fun t k => XS.iload X.here hx rfl hd hl k) K
theorem own_istoreN (X : Stand p l e R s m args below meth c T locs cells slots) (hx : p.tables.exec = Jvm.exec) {k : Fin 4} {v : Int32} {l' : Array Slot} (hd : decode c.code pc = .ok (.istore_n k, 1)) (hp : pc + 1 = pc') (hl : storeLocals ls k.val (.int v) = some l') (K : own_Ends p e below s Q kc ks T (mkF m pc' l' st)) : own_Ends p e below s Q kc ks T (mkF m pc ls (.int v :: st)) := by
  subst hp
  exact own_go (fun t k => XS.istoreN X.here hx rfl hd rfl hl k) K
theorem own_istore (X : Stand p l e R s m args below meth c T locs cells slots) (hx : p.tables.exec = Jvm.exec) {k : Nat} {v : Int32} {l' : Array Slot} (hd : decode c.code pc = .ok (.istore k, 2)) (hp : pc + 2 = pc') (hl : storeLocals ls k (.int v) = some l') (K : own_Ends p e below s Q kc ks T (mkF m pc' l' st)) : own_Ends p e below s Q kc ks T (mkF m pc ls (.int v :: st)) := by
  subst hp
  exact own_go (fun t k => XS.istore X.here hx rfl hd rfl hl k) K
theorem own_lloadN (X : Stand p l e R s m args below meth c T locs cells slots) (hx : p.tables.exec = Jvm.exec) {k : Fin 4} {v : Int64} (hd : decode c.code pc = .ok (.lload_n k, 1)) (hp : pc + 1 = pc') (hl : ls[k.val]? = some (.val (.long v))) (K : own_Ends p e below s Q kc ks T (mkF m pc' ls (.long v :: st))) : own_Ends p e below s Q kc ks T (mkF m pc ls st) := by
  subst hp
  exact own_go (fun t k => XS.lloadN X.here hx rfl hd hl k) K
theorem own_lload (X : Stand p l e R s m args below meth c T locs cells slots) (hx : p.tables.exec = Jvm.exec) {k : Nat} {v : Int64} (hd : decode c.code pc = .ok (.lload k, 2)) (hp : pc + 2 = pc') (hl : ls[k]? = some (.val (.long v))) (K : own_Ends p e below s Q kc ks T (mkF m pc' ls (.long v :: st))) : own_Ends p e below s Q kc ks T (mkF m pc ls st) := by
  subst hp
  exact own_go (fun t k => XS.lload X.here hx rfl hd hl k) K
theorem own_lstoreN (X : Stand p l e R s m args below meth c T locs cells slots) (hx : p.tables.exec = Jvm.exec) {k : Fin 4} {v : Int64} {l' : Array Slot} (hd : decode c.code pc = .ok (.lstore_n k, 1)) (hp : pc + 1 = pc') (hl : storeLocals ls k.val (.long v) = some l') (K : own_Ends p e below s Q kc ks T (mkF m pc' l' st)) : own_Ends p e below s Q kc ks T (mkF m pc ls (.long v :: st)) := by
  subst hp
  exact own_go (fun t k => XS.lstoreN X.here hx rfl hd rfl hl k) K
theorem own_lstore (X : Stand p l e R s m args below meth c T locs cells slots) (hx : p.tables.exec = Jvm.exec) {k : Nat} {v : Int64} {l' : Array Slot} (hd : decode c.code pc = .ok (.lstore k, 2)) (hp : pc + 2 = pc') (hl : storeLocals ls k (.long v) = some l') (K : own_Ends p e below s Q kc ks T (mkF m pc' l' st)) : own_Ends p e below s Q kc ks T (mkF m pc ls (.long v :: st)) := by
  subst hp
  exact own_go (fun t k => XS.lstore X.here hx rfl hd rfl hl k) K
theorem own_dloadN (X : Stand p l e R s m args below meth c T locs cells slots) (hx : p.tables.exec = Jvm.exec) {k : Fin 4} {v : UInt64} (hd : decode c.code pc = .ok (.dload_n k, 1)) (hp : pc + 1 = pc') (hl : ls[k.val]? = some (.val (.double v))) (K : own_Ends p e below s Q kc ks T (mkF m pc' ls (.double v :: st))) : own_Ends p e below s Q kc ks T (mkF m pc ls st) := by
  subst hp
  exact own_go (fun t k => XS.dloadN X.here hx rfl hd hl k) K
theorem own_dload (X : Stand p l e R s m args below meth c T locs cells slots) (hx : p.tables.exec = Jvm.exec) {k : Nat} {v : UInt64} (hd : decode c.code pc = .ok (.dload k, 2)) (hp : pc + 2 = pc') (hl : ls[k]? = some (.val (.double v))) (K : own_Ends p e below s Q kc ks T (mkF m pc' ls (.double v :: st))) : own_Ends p e below s Q kc ks T (mkF m pc ls st) := by
  subst hp
  exact own_go (fun t k => XS.dload X.here hx rfl hd hl k) K
theorem own_dstoreN (X : Stand p l e R s m args below meth c T locs cells slots) (hx : p.tables.exec = Jvm.exec) {k : Fin 4} {v : UInt64} {l' : Array Slot} (hd : decode c.code pc = .ok (.dstore_n k, 1)) (hp : pc + 1 = pc') (hl : storeLocals ls k.val (.double v) = some l') (K : own_Ends p e below s Q kc ks T (mkF m pc' l' st)) : own_Ends p e below s Q kc ks T (mkF m pc ls (.double v :: st)) := by
  subst hp
  exact own_go (fun t k => XS.dstoreN X.here hx rfl hd rfl hl k) K
theorem own_dstore (X : Stand p l e R s m args below meth c T locs cells slots) (hx : p.tables.exec = Jvm.exec) {k : Nat} {v : UInt64} {l' : Array Slot} (hd : decode c.code pc = .ok (.dstore k, 2)) (hp : pc + 2 = pc') (hl : storeLocals ls k (.double v) = some l') (K : own_Ends p e below s Q kc ks T (mkF m pc' l' st)) : own_Ends p e below s Q kc ks T (mkF m pc ls (.double v :: st)) := by
  subst hp
  exact own_go (fun t k => XS.dstore X.here hx rfl hd rfl hl k) K
theorem own_aloadN (X : Stand p l e R s m args below meth c T locs cells slots) (hx : p.tables.exec = Jvm.exec) {k : Fin 4} {v : Value} (hd : decode c.code pc = .ok (.aload_n k, 1)) (hp : pc + 1 = pc') (hl : ls[k.val]? = some (.val v)) (hv : v.isRef = true) (K : own_Ends p e below s Q kc ks T (mkF m pc' ls (v :: st))) : own_Ends p e below s Q kc ks T (mkF m pc ls st) := by
  subst hp
  exact own_go (fun t k => XS.aloadN X.here hx rfl hd hl hv k) K
theorem own_aload (X : Stand p l e R s m args below meth c T locs cells slots) (hx : p.tables.exec = Jvm.exec) {k : Nat} {v : Value} (hd : decode c.code pc = .ok (.aload k, 2)) (hp : pc + 2 = pc') (hl : ls[k]? = some (.val v)) (hv : v.isRef = true) (K : own_Ends p e below s Q kc ks T (mkF m pc' ls (v :: st))) : own_Ends p e below s Q kc ks T (mkF m pc ls st) := by
  subst hp
  exact own_go (fun t k => XS.aload X.here hx rfl hd hl hv k) K
theorem own_astoreN (X : Stand p l e R s m args below meth c T locs cells slots) (hx : p.tables.exec = Jvm.exec) {k : Fin 4} {v : Value} {l' : Array Slot} (hd : decode c.code pc = .ok (.astore_n k, 1)) (hp : pc + 1 = pc') (hv : v.isRef = true) (hl : storeLocals ls k.val v = some l') (K : own_Ends p e below s Q kc ks T (mkF m pc' l' st)) : own_Ends p e below s Q kc ks T (mkF m pc ls (v :: st)) := by
  subst hp
  exact own_go (fun t k => XS.astoreN X.here hx rfl hd rfl hv hl k) K
theorem own_astore (X : Stand p l e R s m args below meth c T locs cells slots) (hx : p.tables.exec = Jvm.exec) {k : Nat} {v : Value} {l' : Array Slot} (hd : decode c.code pc = .ok (.astore k, 2)) (hp : pc + 2 = pc') (hv : v.isRef = true) (hl : storeLocals ls k v = some l') (K : own_Ends p e below s Q kc ks T (mkF m pc' l' st)) : own_Ends p e below s Q kc ks T (mkF m pc ls (v :: st)) := by
  subst hp
  exact own_go (fun t k => XS.astore X.here hx rfl hd rfl hv hl k) K
theorem own_iconst (X : Stand p l e R s m args below meth c T locs cells slots) (hx : p.tables.exec = Jvm.exec) {i : Int} {z : Int32} (hd : decode c.code pc = .ok (.iconst i, 1)) (hp : pc + 1 = pc') (hz : Int32.ofInt i = z) (K : own_Ends p e below s Q kc ks T (mkF m pc' ls (.int z :: st))) : own_Ends p e below s Q kc ks T (mkF m pc ls st) := by
  subst hp hz
  exact own_go (fun t k => XS.iconst X.here hx rfl hd k) K
theorem own_bipush (X : Stand p l e R s m args below meth c T locs cells slots) (hx : p.tables.exec = Jvm.exec) {i : Int} {z : Int32} (hd : decode c.code pc = .ok (.bipush i, 2)) (hp : pc + 2 = pc') (hz : (Int8.ofInt i).toInt32 = z) (K : own_Ends p e below s Q kc ks T (mkF m pc' ls (.int z :: st))) : own_Ends p e below s Q kc ks T (mkF m pc ls st) := by
  subst hp hz
  exact own_go (fun t k => XS.bipush X.here hx rfl hd k) K
theorem own_sipush (X : Stand p l e R s m args below meth c T locs cells slots) (hx : p.tables.exec = Jvm.exec) {i : Int} {z : Int32} (hd : decode c.code pc = .ok (.sipush i, 3)) (hp : pc + 3 = pc') (hz : (Int16.ofInt i).toInt32 = z) (K : own_Ends p e below s Q kc ks T (mkF m pc' ls (.int z :: st))) : own_Ends p e below s Q kc ks T (mkF m pc ls st) := by
  subst hp hz
  exact own_go (fun t k => XS.sipush X.here hx rfl hd k) K
theorem own_lconst (X : Stand p l e R s m args below meth c T locs cells slots) (hx : p.tables.exec = Jvm.exec) {k : Fin 2} {z : Int64} (hd : decode c.code pc = .ok (.lconst k, 1)) (hp : pc + 1 = pc') (hz : Int64.ofNat k = z) (K : own_Ends p e below s Q kc ks T (mkF m pc' ls (.long z :: st))) : own_Ends p e below s Q kc ks T (mkF m pc ls st) := by
  subst hp hz
  exact own_go (fun t k => XS.lconst X.here hx rfl hd k) K
theorem own_anull (X : Stand p l e R s m args below meth c T locs cells slots) (hx : p.tables.exec = Jvm.exec) (hd : decode c.code pc = .ok (.aconst_null, 1)) (hp : pc + 1 = pc')  (K : own_Ends p e below s Q kc ks T (mkF m pc' ls (.null :: st))) : own_Ends p e below s Q kc ks T (mkF m pc ls st) := by
  subst hp
  exact own_go (fun t k => XS.aconstNull X.here hx rfl hd k) K
theorem own_iadd (X : Stand p l e R s m args below meth c T locs cells slots) (hx : p.tables.exec = Jvm.exec) {x y z : Int32} (hd : decode c.code pc = .ok (.iadd, 1)) (hp : pc + 1 = pc') (hz : x + y = z) (K : own_Ends p e below s Q kc ks T (mkF m pc' ls (.int z :: st))) : own_Ends p e below s Q kc ks T (mkF m pc ls (.int y :: .int x :: st)) := by
  subst hp hz
  exact own_go (fun t k => XS.iadd X.here hx rfl hd rfl k) K
theorem own_ladd (X : Stand p l e R s m args below meth c T locs cells slots) (hx : p.tables.exec = Jvm.exec) {x y z : Int64} (hd : decode c.code pc = .ok (.ladd, 1)) (hp : pc + 1 = pc') (hz : x + y = z) (K : own_Ends p e below s Q kc ks T (mkF m pc' ls (.long z :: st))) : own_Ends p e below s Q kc ks T (mkF m pc ls (.long y :: .long x :: st)) := by
  subst hp hz
  exact own_go (fun t k => XS.ladd X.here hx rfl hd rfl k) K
theorem own_isub (X : Stand p l e R s m args below meth c T locs cells slots) (hx : p.tables.exec = Jvm.exec) {x y z : Int32} (hd : decode c.code pc = .ok (.isub, 1)) (hp : pc + 1 = pc') (hz : x - y = z) (K : own_Ends p e below s Q kc ks T (mkF m pc' ls (.int z :: st))) : own_Ends p e below s Q kc ks T (mkF m pc ls (.int y :: .int x :: st)) := by
  subst hp hz
  exact own_go (fun t k => XS.isub X.here hx rfl hd rfl k) K
theorem own_lsub (X : Stand p l e R s m args below meth c T locs cells slots) (hx : p.tables.exec = Jvm.exec) {x y z : Int64} (hd : decode c.code pc = .ok (.lsub, 1)) (hp : pc + 1 = pc') (hz : x - y = z) (K : own_Ends p e below s Q kc ks T (mkF m pc' ls (.long z :: st))) : own_Ends p e below s Q kc ks T (mkF m pc ls (.long y :: .long x :: st)) := by
  subst hp hz
  exact own_go (fun t k => XS.lsub X.here hx rfl hd rfl k) K
theorem own_imul (X : Stand p l e R s m args below meth c T locs cells slots) (hx : p.tables.exec = Jvm.exec) {x y z : Int32} (hd : decode c.code pc = .ok (.imul, 1)) (hp : pc + 1 = pc') (hz : x * y = z) (K : own_Ends p e below s Q kc ks T (mkF m pc' ls (.int z :: st))) : own_Ends p e below s Q kc ks T (mkF m pc ls (.int y :: .int x :: st)) := by
  subst hp hz
  exact own_go (fun t k => XS.imul X.here hx rfl hd rfl k) K
theorem own_lmul (X : Stand p l e R s m args below meth c T locs cells slots) (hx : p.tables.exec = Jvm.exec) {x y z : Int64} (hd : decode c.code pc = .ok (.lmul, 1)) (hp : pc + 1 = pc') (hz : x * y = z) (K : own_Ends p e below s Q kc ks T (mkF m pc' ls (.long z :: st))) : own_Ends p e below s Q kc ks T (mkF m pc ls (.long y :: .long x :: st)) := by
  subst hp hz
  exact own_go (fun t k => XS.lmul X.here hx rfl hd rfl k) K
theorem own_iand (X : Stand p l e R s m args below meth c T locs cells slots) (hx : p.tables.exec = Jvm.exec) {x y z : Int32} (hd : decode c.code pc = .ok (.iand, 1)) (hp : pc + 1 = pc') (hz : x &&& y = z) (K : own_Ends p e below s Q kc ks T (mkF m pc' ls (.int z :: st))) : own_Ends p e below s Q kc ks T (mkF m pc ls (.int y :: .int x :: st)) := by
  subst hp hz
  exact own_go (fun t k => XS.iand X.here hx rfl hd rfl k) K
theorem own_land (X : Stand p l e R s m args below meth c T locs cells slots) (hx : p.tables.exec = Jvm.exec) {x y z : Int64} (hd : decode c.code pc = .ok (.land, 1)) (hp : pc + 1 = pc') (hz : x &&& y = z) (K : own_Ends p e below s Q kc ks T (mkF m pc' ls (.long z :: st))) : own_Ends p e below s Q kc ks T (mkF m pc ls (.long y :: .long x :: st)) := by
  subst hp hz
  exact own_go (fun t k => XS.land X.here hx rfl hd rfl k) K
theorem own_ior (X : Stand p l e R s m args below meth c T locs cells slots) (hx : p.tables.exec = Jvm.exec) {x y z : Int32} (hd : decode c.code pc = .ok (.ior, 1)) (hp : pc + 1 = pc') (hz : x ||| y = z) (K : own_Ends p e below s Q kc ks T (mkF m pc' ls (.int z :: st))) : own_Ends p e below s Q kc ks T (mkF m pc ls (.int y :: .int x :: st)) := by
  subst hp hz
  exact own_go (fun t k => XS.ior X.here hx rfl hd rfl k) K
theorem own_lor (X : Stand p l e R s m args below meth c T locs cells slots) (hx : p.tables.exec = Jvm.exec) {x y z : Int64} (hd : decode c.code pc = .ok (.lor, 1)) (hp : pc + 1 = pc') (hz : x ||| y = z) (K : own_Ends p e below s Q kc ks T (mkF m pc' ls (.long z :: st))) : own_Ends p e below s Q kc ks T (mkF m pc ls (.long y :: .long x :: st)) := by
  subst hp hz
  exact own_go (fun t k => XS.lor X.here hx rfl hd rfl k) K
theorem own_ixor (X : Stand p l e R s m args below meth c T locs cells slots) (hx : p.tables.exec = Jvm.exec) {x y z : Int32} (hd : decode c.code pc = .ok (.ixor, 1)) (hp : pc + 1 = pc') (hz : x ^^^ y = z) (K : own_Ends p e below s Q kc ks T (mkF m pc' ls (.int z :: st))) : own_Ends p e below s Q kc ks T (mkF m pc ls (.int y :: .int x :: st)) := by
  subst hp hz
  exact own_go (fun t k => XS.ixor X.here hx rfl hd rfl k) K
theorem own_lxor (X : Stand p l e R s m args below meth c T locs cells slots) (hx : p.tables.exec = Jvm.exec) {x y z : Int64} (hd : decode c.code pc = .ok (.lxor, 1)) (hp : pc + 1 = pc') (hz : x ^^^ y = z) (K : own_Ends p e below s Q kc ks T (mkF m pc' ls (.long z :: st))) : own_Ends p e below s Q kc ks T (mkF m pc ls (.long y :: .long x :: st)) := by
  subst hp hz
  exact own_go (fun t k => XS.lxor X.here hx rfl hd rfl k) K
theorem own_ishl (X : Stand p l e R s m args below meth c T locs cells slots) (hx : p.tables.exec = Jvm.exec) {x y z : Int32} (hd : decode c.code pc = .ok (.ishl, 1)) (hp : pc + 1 = pc') (hz : x <<< (y &&& 31) = z) (K : own_Ends p e below s Q kc ks T (mkF m pc' ls (.int z :: st))) : own_Ends p e below s Q kc ks T (mkF m pc ls (.int y :: .int x :: st)) := by
  subst hp hz
  exact own_go (fun t k => XS.ishl X.here hx rfl hd rfl k) K
theorem own_ishr (X : Stand p l e R s m args below meth c T locs cells slots) (hx : p.tables.exec = Jvm.exec) {x y z : Int32} (hd : decode c.code pc = .ok (.ishr, 1)) (hp : pc + 1 = pc') (hz : x >>> (y &&& 31) = z) (K : own_Ends p e below s Q kc ks T (mkF m pc' ls (.int z :: st))) : own_Ends p e below s Q kc ks T (mkF m pc ls (.int y :: .int x :: st)) := by
  subst hp hz
  exact own_go (fun t k => XS.ishr X.here hx rfl hd rfl k) K
theorem own_iushr (X : Stand p l e R s m args below meth c T locs cells slots) (hx : p.tables.exec = Jvm.exec) {x y z : Int32} (hd : decode c.code pc = .ok (.iushr, 1)) (hp : pc + 1 = pc') (hz : (x.toUInt32 >>> (y &&& 31).toUInt32).toInt32 = z) (K : own_Ends p e below s Q kc ks T (mkF m pc' ls (.int z :: st))) : own_Ends p e below s Q kc ks T (mkF m pc ls (.int y :: .int x :: st)) := by
  subst hp hz
  exact own_go (fun t k => XS.iushr X.here hx rfl hd rfl k) K
theorem own_lshl (X : Stand p l e R s m args below meth c T locs cells slots) (hx : p.tables.exec = Jvm.exec) {x z : Int64} {y : Int32} (hd : decode c.code pc = .ok (.lshl, 1)) (hp : pc + 1 = pc') (hz : x <<< (y &&& 0x3f).toInt64 = z) (K : own_Ends p e below s Q kc ks T (mkF m pc' ls (.long z :: st))) : own_Ends p e below s Q kc ks T (mkF m pc ls (.int y :: .long x :: st)) := by
  subst hp hz
  exact own_go (fun t k => XS.lshl X.here hx rfl hd rfl k) K
theorem own_lshr (X : Stand p l e R s m args below meth c T locs cells slots) (hx : p.tables.exec = Jvm.exec) {x z : Int64} {y : Int32} (hd : decode c.code pc = .ok (.lshr, 1)) (hp : pc + 1 = pc') (hz : x >>> (y &&& 0x3f).toInt64 = z) (K : own_Ends p e below s Q kc ks T (mkF m pc' ls (.long z :: st))) : own_Ends p e below s Q kc ks T (mkF m pc ls (.int y :: .long x :: st)) := by
  subst hp hz
  exact own_go (fun t k => XS.lshr X.here hx rfl hd rfl k) K
theorem own_lushr (X : Stand p l e R s m args below meth c T locs cells slots) (hx : p.tables.exec = Jvm.exec) {x z : Int64} {y : Int32} (hd : decode c.code pc = .ok (.lushr, 1)) (hp : pc + 1 = pc') (hz : (x.toUInt64 >>> (y &&& 0x3f).toInt64.toUInt64).toInt64 = z) (K : own_Ends p e below s Q kc ks T (mkF m pc' ls (.long z :: st))) : own_Ends p e below s Q kc ks T (mkF m pc ls (.int y :: .long x :: st)) := by
  subst hp hz
  exact own_go (fun t k => XS.lushr X.here hx rfl hd rfl k) K
theorem own_idiv (X : Stand p l e R s m args below meth c T locs cells slots) (hx : p.tables.exec = Jvm.exec) {x y z : Int32} (hd : decode c.code pc = .ok (.idiv, 1)) (hp : pc + 1 = pc') (hy : y ≠ 0) (hz : x / y = z) (K : own_Ends p e below s Q kc ks T (mkF m pc' ls (.int z :: st))) : own_Ends p e below s Q kc ks T (mkF m pc ls (.int y :: .int x :: st)) := by
  subst hp hz
  exact own_go (fun t k => XS.idiv X.here hx rfl hd rfl hy k) K
theorem own_irem (X : Stand p l e R s m args below meth c T locs cells slots) (hx : p.tables.exec = Jvm.exec) {x y z : Int32} (hd : decode c.code pc = .ok (.irem, 1)) (hp : pc + 1 = pc') (hy : y ≠ 0) (hz : x % y = z) (K : own_Ends p e below s Q kc ks T (mkF m pc' ls (.int z :: st))) : own_Ends p e below s Q kc ks T (mkF m pc ls (.int y :: .int x :: st)) := by
  subst hp hz
  exact own_go (fun t k => iremM (g := mkF m pc ls (.int y :: .int x :: st)) X hx rfl hd rfl hy k) K
theorem own_ldiv (X : Stand p l e R s m args below meth c T locs cells slots) (hx : p.tables.exec = Jvm.exec) {x y z : Int64} (hd : decode c.code pc = .ok (.ldiv, 1)) (hp : pc + 1 = pc') (hy : y ≠ 0) (hz : x / y = z) (K : own_Ends p e below s Q kc ks T (mkF m pc' ls (.long z :: st))) : own_Ends p e below s Q kc ks T (mkF m pc ls (.long y :: .long x :: st)) := by
  subst hp hz
  exact own_go (fun t k => XS.ldiv X.here hx rfl hd rfl hy k) K
theorem own_lrem (X : Stand p l e R s m args below meth c T locs cells slots) (hx : p.tables.exec = Jvm.exec) {x y z : Int64} (hd : decode c.code pc = .ok (.lrem, 1)) (hp : pc + 1 = pc') (hy : y ≠ 0) (hz : x - (x / y) * y = z) (K : own_Ends p e below s Q kc ks T (mkF m pc' ls (.long z :: st))) : own_Ends p e below s Q kc ks T (mkF m pc ls (.long y :: .long x :: st)) := by
  subst hp hz
  exact own_go (fun t k => XS.lrem X.here hx rfl hd rfl hy k) K
theorem own_ineg (X : Stand p l e R s m args below meth c T locs cells slots) (hx : p.tables.exec = Jvm.exec) {x : Int32} {z : Int32} (hd : decode c.code pc = .ok (.ineg, 1)) (hp : pc + 1 = pc') (hz : -x = z) (K : own_Ends p e below s Q kc ks T (mkF m pc' ls (.int z :: st))) : own_Ends p e below s Q kc ks T (mkF m pc ls (.int x :: st)) := by
  subst hp hz
  exact own_go (fun t k => XS.ineg X.here hx rfl hd rfl k) K
theorem own_lneg (X : Stand p l e R s m args below meth c T locs cells slots) (hx : p.tables.exec = Jvm.exec) {x : Int64} {z : Int64} (hd : decode c.code pc = .ok (.lneg, 1)) (hp : pc + 1 = pc') (hz : -x = z) (K : own_Ends p e below s Q kc ks T (mkF m pc' ls (.long z :: st))) : own_Ends p e below s Q kc ks T (mkF m pc ls (.long x :: st)) := by
  subst hp hz
  exact own_go (fun t k => XS.lneg X.here hx rfl hd rfl k) K
theorem own_i2l (X : Stand p l e R s m args below meth c T locs cells slots) (hx : p.tables.exec = Jvm.exec) {x : Int32} {z : Int64} (hd : decode c.code pc = .ok (.i2l, 1)) (hp : pc + 1 = pc') (hz : x.toInt64 = z) (K : own_Ends p e below s Q kc ks T (mkF m pc' ls (.long z :: st))) : own_Ends p e below s Q kc ks T (mkF m pc ls (.int x :: st)) := by
  subst hp hz
  exact own_go (fun t k => XS.i2l X.here hx rfl hd rfl k) K
theorem own_l2i (X : Stand p l e R s m args below meth c T locs cells slots) (hx : p.tables.exec = Jvm.exec) {x : Int64} {z : Int32} (hd : decode c.code pc = .ok (.l2i, 1)) (hp : pc + 1 = pc') (hz : x.toInt32 = z) (K : own_Ends p e below s Q kc ks T (mkF m pc' ls (.int z :: st))) : own_Ends p e below s Q kc ks T (mkF m pc ls (.long x :: st)) := by
  subst hp hz
  exact own_go (fun t k => XS.l2i X.here hx rfl hd rfl k) K
theorem own_i2b (X : Stand p l e R s m args below meth c T locs cells slots) (hx : p.tables.exec = Jvm.exec) {x : Int32} {z : Int32} (hd : decode c.code pc = .ok (.i2b, 1)) (hp : pc + 1 = pc') (hz : x.toInt8.toInt32 = z) (K : own_Ends p e below s Q kc ks T (mkF m pc' ls (.int z :: st))) : own_Ends p e below s Q kc ks T (mkF m pc ls (.int x :: st)) := by
  subst hp hz
  exact own_go (fun t k => XS.i2b X.here hx rfl hd rfl k) K
theorem own_i2s (X : Stand p l e R s m args below meth c T locs cells slots) (hx : p.tables.exec = Jvm.exec) {x : Int32} {z : Int32} (hd : decode c.code pc = .ok (.i2s, 1)) (hp : pc + 1 = pc') (hz : x.toInt16.toInt32 = z) (K : own_Ends p e below s Q kc ks T (mkF m pc' ls (.int z :: st))) : own_Ends p e below s Q kc ks T (mkF m pc ls (.int x :: st)) := by
  subst hp hz
  exact own_go (fun t k => XS.i2s X.here hx rfl hd rfl k) K
theorem own_i2c (X : Stand p l e R s m args below meth c T locs cells slots) (hx : p.tables.exec = Jvm.exec) {x : Int32} {z : Int32} (hd : decode c.code pc = .ok (.i2c, 1)) (hp : pc + 1 = pc') (hz : x.toUInt32.toUInt16.toUInt32.toInt32 = z) (K : own_Ends p e below s Q kc ks T (mkF m pc' ls (.int z :: st))) : own_Ends p e below s Q kc ks T (mkF m pc ls (.int x :: st)) := by
  subst hp hz
  exact own_go (fun t k => XS.i2c X.here hx rfl hd rfl k) K
theorem own_i2d (X : Stand p l e R s m args below meth c T locs cells slots) (hx : p.tables.exec = Jvm.exec) {x : Int32} {z : UInt64} (hd : decode c.code pc = .ok (.i2d, 1)) (hp : pc + 1 = pc') (hz : FP.i2d x = z) (K : own_Ends p e below s Q kc ks T (mkF m pc' ls (.double z :: st))) : own_Ends p e below s Q kc ks T (mkF m pc ls (.int x :: st)) := by
  subst hp hz
  exact own_go (fun t k => XS.i2dS (g := mkF m pc ls (.int x :: st)) X.here hx rfl hd rfl rfl k) K
theorem own_dadd (X : Stand p l e R s m args below meth c T locs cells slots) (hx : p.tables.exec = Jvm.exec) {x y z : UInt64} (hd : decode c.code pc = .ok (.dadd, 1)) (hp : pc + 1 = pc') (hn : Jvm.Free.Fl.NoNaN64 (FP.dadd x y)) (hz : FP.dadd x y = z) (K : own_Ends p e below s Q kc ks T (mkF m pc' ls (.double z :: st))) : own_Ends p e below s Q kc ks T (mkF m pc ls (.double y :: .double x :: st)) := by
  subst hp hz
  exact own_go (fun t k => XS.daddS (g := mkF m pc ls (.double y :: .double x :: st)) X.here hx rfl hd rfl hn rfl k) K
theorem own_dmul (X : Stand p l e R s m args below meth c T locs cells slots) (hx : p.tables.exec = Jvm.exec) {x y z : UInt64} (hd : decode c.code pc = .ok (.dmul, 1)) (hp : pc + 1 = pc') (hn : Jvm.Free.Fl.NoNaN64 (FP.dmul x y)) (hz : FP.dmul x y = z) (K : own_Ends p e below s Q kc ks T (mkF m pc' ls (.double z :: st))) : own_Ends p e below s Q kc ks T (mkF m pc ls (.double y :: .double x :: st)) := by
  subst hp hz
  exact own_go (fun t k => XS.dmulS (g := mkF m pc ls (.double y :: .double x :: st)) X.here hx rfl hd rfl hn rfl k) K
theorem own_dcmp (X : Stand p l e R s m args below meth c T locs cells slots) (hx : p.tables.exec = Jvm.exec) {o : CmpOp} {x y : UInt64} {z : Int32} (hd : decode c.code pc = .ok (.dcmp o, 1)) (hp : pc + 1 = pc') (hz : cmpValue (FP.dcmp x y) o = z) (K : own_Ends p e below s Q kc ks T (mkF m pc' ls (.int z :: st))) : own_Ends p e below s Q kc ks T (mkF m pc ls (.double y :: .double x :: st)) := by
  subst hp hz
  exact own_go (fun t k => XS.dcmpS (g := mkF m pc ls (.double y :: .double x :: st)) X.here hx rfl hd rfl rfl k) K
theorem own_lcmp (X : Stand p l e R s m args below meth c T locs cells slots) (hx : p.tables.exec = Jvm.exec) {x y : Int64} {z : Int32} (hd : decode c.code pc = .ok (.lcmp, 1)) (hp : pc + 1 = pc') (hz : lcmpW x y = z) (K : own_Ends p e below s Q kc ks T (mkF m pc' ls (.int z :: st))) : own_Ends p e below s Q kc ks T (mkF m pc ls (.long y :: .long x :: st)) := by
  subst hp hz
  exact own_go (fun t k => XS.lcmp X.here hx rfl hd rfl k) K
theorem own_pop (X : Stand p l e R s m args below meth c T locs cells slots) (hx : p.tables.exec = Jvm.exec) {v : Value} (hd : decode c.code pc = .ok (.pop, 1)) (hp : pc + 1 = pc') (hc : v.category = 1) (K : own_Ends p e below s Q kc ks T (mkF m pc' ls st)) : own_Ends p e below s Q kc ks T (mkF m pc ls (v :: st)) := by
  subst hp
  exact own_go (fun t k => XS.pop X.here hx rfl hd rfl hc k) K
theorem own_dup (X : Stand p l e R s m args below meth c T locs cells slots) (hx : p.tables.exec = Jvm.exec) {v : Value} (hd : decode c.code pc = .ok (.dup, 1)) (hp : pc + 1 = pc') (hc : v.category = 1) (K : own_Ends p e below s Q kc ks T (mkF m pc' ls (v :: v :: st))) : own_Ends p e below s Q kc ks T (mkF m pc ls (v :: st)) := by
  subst hp
  exact own_go (fun t k => XS.dup X.here hx rfl hd rfl hc k) K
theorem own_dupX1 (X : Stand p l e R s m args below meth c T locs cells slots) (hx : p.tables.exec = Jvm.exec) {v w : Value} (hd : decode c.code pc = .ok (.dup_x1, 1)) (hp : pc + 1 = pc') (hc : v.category = 1) (hc' : w.category = 1) (K : own_Ends p e below s Q kc ks T (mkF m pc' ls (v :: w :: v :: st))) : own_Ends p e below s Q kc ks T (mkF m pc ls (v :: w :: st)) := by
  subst hp
  exact own_go (fun t k => XS.dupX1 X.here hx rfl hd rfl hc hc' k) K
theorem own_dup2 (X : Stand p l e R s m args below meth c T locs cells slots) (hx : p.tables.exec = Jvm.exec) {v w : Value} (hd : decode c.code pc = .ok (.dup2, 1)) (hp : pc + 1 = pc') (hc : v.category = 1) (hc' : w.category = 1) (K : own_Ends p e below s Q kc ks T (mkF m pc' ls (v :: w :: v :: w :: st))) : own_Ends p e below s Q kc ks T (mkF m pc ls (v :: w :: st)) := by
  subst hp
  exact own_go (fun t k => XT.dup2 X.here hx rfl hd rfl hc hc' k) K
theorem own_dup2L (X : Stand p l e R s m args below meth c T locs cells slots) (hx : p.tables.exec = Jvm.exec) {x : Int64} (hd : decode c.code pc = .ok (.dup2, 1)) (hp : pc + 1 = pc')  (K : own_Ends p e below s Q kc ks T (mkF m pc' ls (.long x :: .long x :: st))) : own_Ends p e below s Q kc ks T (mkF m pc ls (.long x :: st)) := by
  subst hp
  exact own_go (fun t k => XT.dup2L X.here hx rfl hd rfl k) K
theorem own_iinc (X : Stand p l e R s m args below meth c T locs cells slots) (hx : p.tables.exec = Jvm.exec) {k : Nat} {i : Int} {x z : Int32} {l' : Array Slot} (hd : decode c.code pc = .ok (.iinc k i, 3)) (hp : pc + 3 = pc') (hl : ls[k]? = some (.val (.int x))) (hz : x + Int32.ofInt i = z) (hl' : storeLocals ls k (.int z) = some l') (K : own_Ends p e below s Q kc ks T (mkF m pc' l' st)) : own_Ends p e below s Q kc ks T (mkF m pc ls st) := by
  subst hp hz
  exact own_go (fun t k => XS.iinc X.here hx rfl hd hl hl' k) K
theorem own_goto (X : Stand p l e R s m args below meth c T locs cells slots) (hx : p.tables.exec = Jvm.exec) {o : Int} (hd : decode c.code pc = .ok (.goto o, 3)) (ho : 0 ≤ (pc : Int) + o) (hp : ((pc : Int) + o).toNat = pc') (K : own_Ends p e below s Q kc ks T (mkF m pc' ls st)) : own_Ends p e below s Q kc ks T (mkF m pc ls st) :=
  own_go (fun t k => XS.goto X.here hx rfl rfl hd ho hp k) K
theorem own_ifYes (X : Stand p l e R s m args below meth c T locs cells slots) (hx : p.tables.exec = Jvm.exec) {o : Int} {cd : ClassFile.Cond} {x : Int32} (hd : decode c.code pc = .ok (.ifCond cd o, 3)) (hc : if_icmp.holds cd x 0 = true) (ho : 0 ≤ (pc : Int) + o) (hp : ((pc : Int) + o).toNat = pc') (K : own_Ends p e below s Q kc ks T (mkF m pc' ls st)) : own_Ends p e below s Q kc ks T (mkF m pc ls (.int x :: st)) :=
  own_go (fun t k => XS.ifYes X.here hx rfl rfl hd rfl ((if0 _ _).trans hc) ho hp k) K
theorem own_ifNo (X : Stand p l e R s m args below meth c T locs cells slots) (hx : p.tables.exec = Jvm.exec) {o : Int} {cd : ClassFile.Cond} {x : Int32} (hd : decode c.code pc = .ok (.ifCond cd o, 3)) (hp : pc + 3 = pc') (hc : if_icmp.holds cd x 0 = false) (K : own_Ends p e below s Q kc ks T (mkF m pc' ls st)) : own_Ends p e below s Q kc ks T (mkF m pc ls (.int x :: st)) := by
  subst hp
  exact own_go (fun t k => XS.ifNo X.here hx rfl hd rfl ((if0 _ _).trans hc) k) K
theorem own_icmpYes (X : Stand p l e R s m args below meth c T locs cells slots) (hx : p.tables.exec = Jvm.exec) {o : Int} {cd : ClassFile.Cond} {x y : Int32} (hd : decode c.code pc = .ok (.if_icmp cd o, 3)) (hc : if_icmp.holds cd x y = true) (ho : 0 ≤ (pc : Int) + o) (hp : ((pc : Int) + o).toNat = pc') (K : own_Ends p e below s Q kc ks T (mkF m pc' ls st)) : own_Ends p e below s Q kc ks T (mkF m pc ls (.int y :: .int x :: st)) :=
  own_go (fun t k => XS.icmpYes X.here hx rfl rfl hd rfl hc ho hp k) K
theorem own_icmpNo (X : Stand p l e R s m args below meth c T locs cells slots) (hx : p.tables.exec = Jvm.exec) {o : Int} {cd : ClassFile.Cond} {x y : Int32} (hd : decode c.code pc = .ok (.if_icmp cd o, 3)) (hp : pc + 3 = pc') (hc : if_icmp.holds cd x y = false) (K : own_Ends p e below s Q kc ks T (mkF m pc' ls st)) : own_Ends p e below s Q kc ks T (mkF m pc ls (.int y :: .int x :: st)) := by
  subst hp
  exact own_go (fun t k => XS.icmpNo X.here hx rfl hd rfl hc k) K
theorem own_ifnullYes (X : Stand p l e R s m args below meth c T locs cells slots) (hx : p.tables.exec = Jvm.exec) {o : Int} (hd : decode c.code pc = .ok (.ifnull o, 3)) (ho : 0 ≤ (pc : Int) + o) (hp : ((pc : Int) + o).toNat = pc') (K : own_Ends p e below s Q kc ks T (mkF m pc' ls st)) : own_Ends p e below s Q kc ks T (mkF m pc ls (.null :: st)) :=
  own_go (fun t k => XS.ifnullYes X.here hx rfl rfl hd rfl ho hp k) K
theorem own_ifnullNo (X : Stand p l e R s m args below meth c T locs cells slots) (hx : p.tables.exec = Jvm.exec) {o : Int} {b : Addr} (hd : decode c.code pc = .ok (.ifnull o, 3)) (hp : pc + 3 = pc')  (K : own_Ends p e below s Q kc ks T (mkF m pc' ls st)) : own_Ends p e below s Q kc ks T (mkF m pc ls (.ref b :: st)) := by
  subst hp
  exact own_go (fun t k => XS.ifnullNo X.here hx rfl hd rfl k) K
theorem own_ifnonnullYes (X : Stand p l e R s m args below meth c T locs cells slots) (hx : p.tables.exec = Jvm.exec) {o : Int} {b : Addr} (hd : decode c.code pc = .ok (.ifnonnull o, 3)) (ho : 0 ≤ (pc : Int) + o) (hp : ((pc : Int) + o).toNat = pc') (K : own_Ends p e below s Q kc ks T (mkF m pc' ls st)) : own_Ends p e below s Q kc ks T (mkF m pc ls (.ref b :: st)) :=
  own_go (fun t k => XS.ifnonnullYes X.here hx rfl rfl hd rfl ho hp k) K
theorem own_ifnonnullNo (X : Stand p l e R s m args below meth c T locs cells slots) (hx : p.tables.exec = Jvm.exec) {o : Int} (hd : decode c.code pc = .ok (.ifnonnull o, 3)) (hp : pc + 3 = pc')  (K : own_Ends p e below s Q kc ks T (mkF m pc' ls st)) : own_Ends p e below s Q kc ks T (mkF m pc ls (.null :: st)) := by
  subst hp
  exact own_go (fun t k => XS.ifnonnullNo X.here hx rfl hd rfl k) K
theorem own_acmpYes (X : Stand p l e R s m args below meth c T locs cells slots) (hx : p.tables.exec = Jvm.exec) {o : Int} {cd : ACond} {v w : Value} (hd : decode c.code pc = .ok (.if_acmp cd o, 3)) (h1 : v.isRef = true) (h2 : w.isRef = true) (hc : XT.acmp cd v w = true) (ho : 0 ≤ (pc : Int) + o) (hp : ((pc : Int) + o).toNat = pc') (K : own_Ends p e below s Q kc ks T (mkF m pc' ls st)) : own_Ends p e below s Q kc ks T (mkF m pc ls (w :: v :: st)) :=
  own_go (fun t k => XT.acmpYes X.here hx rfl rfl hd rfl h1 h2 hc ho hp k) K
theorem own_acmpNo (X : Stand p l e R s m args below meth c T locs cells slots) (hx : p.tables.exec = Jvm.exec) {o : Int} {cd : ACond} {v w : Value} (hd : decode c.code pc = .ok (.if_acmp cd o, 3)) (hp : pc + 3 = pc') (h1 : v.isRef = true) (h2 : w.isRef = true) (hc : XT.acmp cd v w = false) (K : own_Ends p e below s Q kc ks T (mkF m pc' ls st)) : own_Ends p e below s Q kc ks T (mkF m pc ls (w :: v :: st)) := by
  subst hp
  exact own_go (fun t k => XT.acmpNo X.here hx rfl hd rfl h1 h2 hc k) K
theorem own_ldcI (X : Stand p l e R s m args below meth c T locs cells slots) (hx : p.tables.exec = Jvm.exec) {own : String} {ix : Nat} {v : Int32} {Z : State} {a0 : Array Value} (hZ : Z.Warmed39 s.vm) (hown : s.vm.findClass own = some m.cls) (w : (Jvm.Cond.constant own ix v).before a0 Z = true) (hd : decode c.code pc = .ok (.ldc ix, 2)) (hp : pc + 2 = pc')  (K : own_Ends p e below s Q kc ks T (mkF m pc' ls (.int v :: st))) : own_Ends p e below s Q kc ks T (mkF m pc ls st) := by
  subst hp
  exact own_go (fun t k => X.ldcInt hx hown (mvT hZ w) (g := mkF m pc ls st) rfl hd t k) K
theorem own_ldcwI (X : Stand p l e R s m args below meth c T locs cells slots) (hx : p.tables.exec = Jvm.exec) {own : String} {ix : Nat} {v : Int32} {Z : State} {a0 : Array Value} (hZ : Z.Warmed39 s.vm) (hown : s.vm.findClass own = some m.cls) (w : (Jvm.Cond.constant own ix v).before a0 Z = true) (hd : decode c.code pc = .ok (.ldc_w ix, 3)) (hp : pc + 3 = pc')  (K : own_Ends p e below s Q kc ks T (mkF m pc' ls (.int v :: st))) : own_Ends p e below s Q kc ks T (mkF m pc ls st) := by
  subst hp
  exact own_go (fun t k => X.ldcwInt hx hown (mvT hZ w) (g := mkF m pc ls st) rfl hd t k) K
theorem own_ldc2J (X : Stand p l e R s m args below meth c T locs cells slots) (hx : p.tables.exec = Jvm.exec) {own : String} {ix : Nat} {v : Int64} {Z : State} {a0 : Array Value} (hZ : Z.Warmed39 s.vm) (hown : s.vm.findClass own = some m.cls) (w : (Jvm.Cond.constantLong own ix v).before a0 Z = true) (hd : decode c.code pc = .ok (.ldc2_w ix, 3)) (hp : pc + 3 = pc')  (K : own_Ends p e below s Q kc ks T (mkF m pc' ls (.long v :: st))) : own_Ends p e below s Q kc ks T (mkF m pc ls st) := by
  subst hp
  exact own_go (fun t k => X.ldc2Long hx hown (mvT hZ w) (g := mkF m pc ls st) rfl hd t k) K
theorem own_iaload (X : Stand p l e R s m args below meth c T locs cells slots) (hx : p.tables.exec = Jvm.exec) {Z : State} {h : Heap} {a : Addr} {k : ClassId} {n j : Int32} {vs : List Value} {d v : Value} (hZ : Z.Warmed39 s.vm) (eT : T.heap = h) (V : Arv Z h a k .int n vs d) (hd : decode c.code pc = .ok (.iaload, 1)) (hp : pc + 1 = pc') (hj : ¬ j < 0 ∧ j < n) (hv : vs.getD j.toNatClampNeg d = v) (K : own_Ends p e below s Q kc ks T (mkF m pc' ls (v :: st))) : own_Ends p e below s Q kc ks T (mkF m pc ls (.int j :: .ref a :: st)) := by
  subst hp
  obtain ⟨cl, A, q1, S, q2, H, G⟩ := V
  have hin := inb_of S hj
  exact own_go (fun t k => X.iaload hx (by rw [eT]; exact A.1) (State.isArrayOf_alike hZ.alike A.2.1) A.2.2 hin (H.at hin hv) (g := mkF m pc ls (.int j :: .ref a :: st)) rfl rfl hd t k) K
theorem own_laload (X : Stand p l e R s m args below meth c T locs cells slots) (hx : p.tables.exec = Jvm.exec) {Z : State} {h : Heap} {a : Addr} {k : ClassId} {n j : Int32} {vs : List Value} {d v : Value} (hZ : Z.Warmed39 s.vm) (eT : T.heap = h) (V : Arv Z h a k .long n vs d) (hd : decode c.code pc = .ok (.laload, 1)) (hp : pc + 1 = pc') (hj : ¬ j < 0 ∧ j < n) (hv : vs.getD j.toNatClampNeg d = v) (K : own_Ends p e below s Q kc ks T (mkF m pc' ls (v :: st))) : own_Ends p e below s Q kc ks T (mkF m pc ls (.int j :: .ref a :: st)) := by
  subst hp
  obtain ⟨cl, A, q1, S, q2, H, G⟩ := V
  have hin := inb_of S hj
  exact own_go (fun t k => X.laload hx (by rw [eT]; exact A.1) (State.isArrayOf_alike hZ.alike A.2.1) A.2.2 hin (H.at hin hv) (g := mkF m pc ls (.int j :: .ref a :: st)) rfl rfl hd t k) K
theorem own_caload (X : Stand p l e R s m args below meth c T locs cells slots) (hx : p.tables.exec = Jvm.exec) {Z : State} {h : Heap} {a : Addr} {k : ClassId} {n j : Int32} {vs : List Value} {d v : Value} (hZ : Z.Warmed39 s.vm) (eT : T.heap = h) (V : Arv Z h a k .char n vs d) (hd : decode c.code pc = .ok (.caload, 1)) (hp : pc + 1 = pc') (hj : ¬ j < 0 ∧ j < n) (hv : vs.getD j.toNatClampNeg d = v) (K : own_Ends p e below s Q kc ks T (mkF m pc' ls (v :: st))) : own_Ends p e below s Q kc ks T (mkF m pc ls (.int j :: .ref a :: st)) := by
  subst hp
  obtain ⟨cl, A, q1, S, q2, H, G⟩ := V
  have hin := inb_of S hj
  exact own_go (fun t k => X.caload hx (by rw [eT]; exact A.1) (State.isArrayOf_alike hZ.alike A.2.1) A.2.2 hin (H.at hin hv) (g := mkF m pc ls (.int j :: .ref a :: st)) rfl rfl hd t k) K
theorem own_baload (X : Stand p l e R s m args below meth c T locs cells slots) (hx : p.tables.exec = Jvm.exec) {Z : State} {h : Heap} {a : Addr} {k : ClassId} {n j : Int32} {vs : List Value} {d v : Value} (hZ : Z.Warmed39 s.vm) (eT : T.heap = h) (V : Arv Z h a k .byte n vs d) (hd : decode c.code pc = .ok (.baload, 1)) (hp : pc + 1 = pc') (hj : ¬ j < 0 ∧ j < n) (hv : vs.getD j.toNatClampNeg d = v) (K : own_Ends p e below s Q kc ks T (mkF m pc' ls (v :: st))) : own_Ends p e below s Q kc ks T (mkF m pc ls (.int j :: .ref a :: st)) := by
  subst hp
  obtain ⟨cl, A, q1, S, q2, H, G⟩ := V
  have hin := inb_of S hj
  exact own_go (fun t k => X.baloadBytes hx (by rw [eT]; exact A.1) (State.isArrayOf_alike hZ.alike A.2.1) A.2.2 hin (H.at hin hv) (g := mkF m pc ls (.int j :: .ref a :: st)) rfl rfl hd t k) K
theorem own_zaload (X : Stand p l e R s m args below meth c T locs cells slots) (hx : p.tables.exec = Jvm.exec) {Z : State} {h : Heap} {a : Addr} {k : ClassId} {n j : Int32} {vs : List Value} {d v : Value} (hZ : Z.Warmed39 s.vm) (eT : T.heap = h) (V : Arv Z h a k .boolean n vs d) (hd : decode c.code pc = .ok (.baload, 1)) (hp : pc + 1 = pc') (hj : ¬ j < 0 ∧ j < n) (hv : vs.getD j.toNatClampNeg d = v) (K : own_Ends p e below s Q kc ks T (mkF m pc' ls (v :: st))) : own_Ends p e below s Q kc ks T (mkF m pc ls (.int j :: .ref a :: st)) := by
  subst hp
  obtain ⟨cl, A, q1, S, q2, H, G⟩ := V
  have hin := inb_of S hj
  exact own_go (fun t k => X.baloadBooleans hx (by rw [eT]; exact A.1) (State.isArrayOf_alike hZ.alike A.2.1) A.2.2 hin (H.at hin hv) (g := mkF m pc ls (.int j :: .ref a :: st)) rfl rfl hd t k) K
theorem own_daload (X : Stand p l e R s m args below meth c T locs cells slots) (hx : p.tables.exec = Jvm.exec) {Z : State} {h : Heap} {a : Addr} {k : ClassId} {n j : Int32} {vs : List Value} {d v : Value} (hZ : Z.Warmed39 s.vm) (eT : T.heap = h) (V : Arv Z h a k .double n vs d) (hd : decode c.code pc = .ok (.daload, 1)) (hp : pc + 1 = pc') (hj : ¬ j < 0 ∧ j < n) (hv : vs.getD j.toNatClampNeg d = v) (K : own_Ends p e below s Q kc ks T (mkF m pc' ls (v :: st))) : own_Ends p e below s Q kc ks T (mkF m pc ls (.int j :: .ref a :: st)) := by
  subst hp
  obtain ⟨cl, A, q1, S, q2, H, G⟩ := V
  have hin := inb_of S hj
  exact own_go (fun t k => X.daload hx (by rw [eT]; exact A.1) (State.isArrayOf_alike hZ.alike A.2.1) A.2.2 hin (H.at hin hv) (g := mkF m pc ls (.int j :: .ref a :: st)) rfl rfl hd t k) K
theorem own_alen (X : Stand p l e R s m args below meth c T locs cells slots) (hx : p.tables.exec = Jvm.exec) {Z : State} {h : Heap} {a : Addr} {k : ClassId} {ty : FieldType} {n : Int32} {vs : List Value} {d : Value} (hZ : Z.Warmed39 s.vm) (eT : T.heap = h) (V : Arv Z h a k ty n vs d) (hd : decode c.code pc = .ok (.arraylength, 1)) (hp : pc + 1 = pc')  (K : own_Ends p e below s Q kc ks T (mkF m pc' ls (.int n :: st))) : own_Ends p e below s Q kc ks T (mkF m pc ls (.ref a :: st)) := by
  subst hp
  obtain ⟨cl, A, q1, S, q2, H, G⟩ := V
  rw [← len_of S q2] at K
  exact own_go (fun t k => X.arraylength hx (by rw [eT]; exact A.1) (State.isArrayOf_alike hZ.alike A.2.1) (g := mkF m pc ls (.ref a :: st)) rfl rfl hd t k) K
theorem own_iastore (X : Stand p l e R s m args below meth c T locs cells slots) (hx : p.tables.exec = Jvm.exec) {Z : State} {h : Heap} {a : Addr} {k : ClassId} {n j : Int32} {vs : List Value} {d : Value} {x : Int32} (hZ : Z.Warmed39 s.vm) (eT : T.heap = h) (V : Arv Z h a k .int n vs d) (hd : decode c.code pc = .ok (.iastore, 1)) (hp : pc + 1 = pc') (hj : ¬ j < 0 ∧ j < n) (i : Nat) (hi : j.toNatClampNeg = i) (hl : i < vs.length) {n0 : Nat} (N : Fr n0 locs) (ge : n0 ≤ a)
    (K : ∀ T' h' L, Stand p l e R s m args below meth c T' L cells slots → T'.heap = h' → Fr n0 L → Wr h h' a j.toNatClampNeg (.int x) → Arv Z h' a k .int n (vs.set i (.int x)) d → own_Ends p e below s Q kc ks T' (mkF m pc' ls st)) : own_Ends p e below s Q kc ks T (mkF m pc ls (.int x :: .int j :: .ref a :: st)) := by
  subst hp
  obtain ⟨cl, A, q1, S, q2, H, G⟩ := V
  have hin := inb_of S hj
  obtain ⟨T1, h1, X1, e1, W1, st1⟩ := stI X hx hZ eT A (j := j) hin (g := mkF m pc ls (.int x :: .int j :: .ref a :: st)) rfl rfl hd
  exact own_go st1 (K T1 h1 _ X1 e1 (Fr.snoc X1 N ge) W1 (Arv.set A q1 S q2 H G rfl W1 i hi hl))
theorem own_lastore (X : Stand p l e R s m args below meth c T locs cells slots) (hx : p.tables.exec = Jvm.exec) {Z : State} {h : Heap} {a : Addr} {k : ClassId} {n j : Int32} {vs : List Value} {d : Value} {x : Int64} (hZ : Z.Warmed39 s.vm) (eT : T.heap = h) (V : Arv Z h a k .long n vs d) (hd : decode c.code pc = .ok (.lastore, 1)) (hp : pc + 1 = pc') (hj : ¬ j < 0 ∧ j < n) (i : Nat) (hi : j.toNatClampNeg = i) (hl : i < vs.length) {n0 : Nat} (N : Fr n0 locs) (ge : n0 ≤ a)
    (K : ∀ T' h' L, Stand p l e R s m args below meth c T' L cells slots → T'.heap = h' → Fr n0 L → Wr h h' a j.toNatClampNeg (.long x) → Arv Z h' a k .long n (vs.set i (.long x)) d → own_Ends p e below s Q kc ks T' (mkF m pc' ls st)) : own_Ends p e below s Q kc ks T (mkF m pc ls (.long x :: .int j :: .ref a :: st)) := by
  subst hp
  obtain ⟨cl, A, q1, S, q2, H, G⟩ := V
  have hin := inb_of S hj
  obtain ⟨T1, h1, X1, e1, W1, st1⟩ := stJ X hx hZ eT A (j := j) hin (g := mkF m pc ls (.long x :: .int j :: .ref a :: st)) rfl rfl hd
  exact own_go st1 (K T1 h1 _ X1 e1 (Fr.snoc X1 N ge) W1 (Arv.set A q1 S q2 H G rfl W1 i hi hl))
theorem own_dastore (X : Stand p l e R s m args below meth c T locs cells slots) (hx : p.tables.exec = Jvm.exec) {Z : State} {h : Heap} {a : Addr} {k : ClassId} {n j : Int32} {vs : List Value} {d : Value} {x : UInt64} (hZ : Z.Warmed39 s.vm) (eT : T.heap = h) (V : Arv Z h a k .double n vs d) (hd : decode c.code pc = .ok (.dastore, 1)) (hp : pc + 1 = pc') (hj : ¬ j < 0 ∧ j < n) (i : Nat) (hi : j.toNatClampNeg = i) (hl : i < vs.length) {n0 : Nat} (N : Fr n0 locs) (ge : n0 ≤ a)
    (K : ∀ T' h' L, Stand p l e R s m args below meth c T' L cells slots → T'.heap = h' → Fr n0 L → Wr h h' a j.toNatClampNeg (.double x) → Arv Z h' a k .double n (vs.set i (.double x)) d → own_Ends p e below s Q kc ks T' (mkF m pc' ls st)) : own_Ends p e below s Q kc ks T (mkF m pc ls (.double x :: .int j :: .ref a :: st)) := by
  subst hp
  obtain ⟨cl, A, q1, S, q2, H, G⟩ := V
  have hin := inb_of S hj
  obtain ⟨T1, h1, X1, e1, W1, st1⟩ := stD X hx hZ eT A (j := j) hin (g := mkF m pc ls (.double x :: .int j :: .ref a :: st)) rfl rfl hd
  exact own_go st1 (K T1 h1 _ X1 e1 (Fr.snoc X1 N ge) W1 (Arv.set A q1 S q2 H G rfl W1 i hi hl))
theorem own_castore (X : Stand p l e R s m args below meth c T locs cells slots) (hx : p.tables.exec = Jvm.exec) {Z : State} {h : Heap} {a : Addr} {k : ClassId} {n j : Int32} {vs : List Value} {d : Value} {x : Int32} (hZ : Z.Warmed39 s.vm) (eT : T.heap = h) (V : Arv Z h a k .char n vs d) (hd : decode c.code pc = .ok (.castore, 1)) (hp : pc + 1 = pc') (hj : ¬ j < 0 ∧ j < n) (i : Nat) (hi : j.toNatClampNeg = i) (hl : i < vs.length) {n0 : Nat} (N : Fr n0 locs) (ge : n0 ≤ a)
    (K : ∀ T' h' L, Stand p l e R s m args below meth c T' L cells slots → T'.heap = h' → Fr n0 L → Wr h h' a j.toNatClampNeg (.int (nar .char x)) → Arv Z h' a k .char n (vs.set i (.int (nar .char x))) d → own_Ends p e below s Q kc ks T' (mkF m pc' ls st)) : own_Ends p e below s Q kc ks T (mkF m pc ls (.int x :: .int j :: .ref a :: st)) := by
  subst hp
  obtain ⟨cl, A, q1, S, q2, H, G⟩ := V
  have hin := inb_of S hj
  obtain ⟨T1, h1, X1, e1, W1, st1⟩ := stC X hx hZ eT A (j := j) hin (g := mkF m pc ls (.int x :: .int j :: .ref a :: st)) rfl rfl hd
  exact own_go st1 (K T1 h1 _ X1 e1 (Fr.snoc X1 N ge) W1 (Arv.set A q1 S q2 H G (fits_nar_char _) W1 i hi hl))
theorem own_bastore (X : Stand p l e R s m args below meth c T locs cells slots) (hx : p.tables.exec = Jvm.exec) {Z : State} {h : Heap} {a : Addr} {k : ClassId} {n j : Int32} {vs : List Value} {d : Value} {x : Int32} (hZ : Z.Warmed39 s.vm) (eT : T.heap = h) (V : Arv Z h a k .byte n vs d) (hd : decode c.code pc = .ok (.bastore, 1)) (hp : pc + 1 = pc') (hj : ¬ j < 0 ∧ j < n) (i : Nat) (hi : j.toNatClampNeg = i) (hl : i < vs.length) {n0 : Nat} (N : Fr n0 locs) (ge : n0 ≤ a)
    (K : ∀ T' h' L, Stand p l e R s m args below meth c T' L cells slots → T'.heap = h' → Fr n0 L → Wr h h' a j.toNatClampNeg (.int (nar .byte x)) → Arv Z h' a k .byte n (vs.set i (.int (nar .byte x))) d → own_Ends p e below s Q kc ks T' (mkF m pc' ls st)) : own_Ends p e below s Q kc ks T (mkF m pc ls (.int x :: .int j :: .ref a :: st)) := by
  subst hp
  obtain ⟨cl, A, q1, S, q2, H, G⟩ := V
  have hin := inb_of S hj
  obtain ⟨T1, h1, X1, e1, W1, st1⟩ := stB X hx hZ eT A (j := j) hin (g := mkF m pc ls (.int x :: .int j :: .ref a :: st)) rfl rfl hd
  exact own_go st1 (K T1 h1 _ X1 e1 (Fr.snoc X1 N ge) W1 (Arv.set A q1 S q2 H G (fits_nar_byte _) W1 i hi hl))
theorem own_zastore (X : Stand p l e R s m args below meth c T locs cells slots) (hx : p.tables.exec = Jvm.exec) {Z : State} {h : Heap} {a : Addr} {k : ClassId} {n j : Int32} {vs : List Value} {d : Value} {x : Int32} (hZ : Z.Warmed39 s.vm) (eT : T.heap = h) (V : Arv Z h a k .boolean n vs d) (hd : decode c.code pc = .ok (.bastore, 1)) (hp : pc + 1 = pc') (hj : ¬ j < 0 ∧ j < n) (i : Nat) (hi : j.toNatClampNeg = i) (hl : i < vs.length) {n0 : Nat} (N : Fr n0 locs) (ge : n0 ≤ a)
    (K : ∀ T' h' L, Stand p l e R s m args below meth c T' L cells slots → T'.heap = h' → Fr n0 L → Wr h h' a j.toNatClampNeg (.int (nar .boolean x)) → Arv Z h' a k .boolean n (vs.set i (.int (nar .boolean x))) d → own_Ends p e below s Q kc ks T' (mkF m pc' ls st)) : own_Ends p e below s Q kc ks T (mkF m pc ls (.int x :: .int j :: .ref a :: st)) := by
  subst hp
  obtain ⟨cl, A, q1, S, q2, H, G⟩ := V
  have hin := inb_of S hj
  obtain ⟨T1, h1, X1, e1, W1, st1⟩ := stZ X hx hZ eT A (j := j) hin (g := mkF m pc ls (.int x :: .int j :: .ref a :: st)) rfl rfl hd
  exact own_go st1 (K T1 h1 _ X1 e1 (Fr.snoc X1 N ge) W1 (Arv.set A q1 S q2 H G (fits_nar_bool _) W1 i hi hl))
theorem own_newarr (X : Stand p l e R s m args below meth c T locs cells slots) (hx : p.tables.exec = Jvm.exec) {Z : State} {a0 : Array Value} {h : Heap} {aty : ArrayType} (hZ : Z.Warmed39 s.vm) (w : (Jvm.Cond.arrayClass (newarray.typeOf aty)).before a0 Z = true) (eT : T.heap = h) (hd : decode c.code pc = .ok (.newarray aty, 2)) (hp : pc + 2 = pc') {n : Int32} (hn : ¬ n < 0) (cap q : Nat) (hcap : n.toNatClampNeg ≤ cap) (hb : cap * 8 ≤ 536870912) (hc : cells + 1 ≤ R.cells) (hl : slots + cap ≤ R.slots)
    (K : ∀ T' h' a k, Stand p l e R s m args below meth c T' locs (cells + 1) (slots + cap) → T'.heap = h' → Ext h h' → a = h.size → Arv Z h' a k (newarray.typeOf aty) n (List.replicate q (defaultValue (newarray.typeOf aty))) (defaultValue (newarray.typeOf aty)) → own_Ends p e below s Q kc ks T' (mkF m pc' ls (.ref a :: st))) : own_Ends p e below s Q kc ks T (mkF m pc ls (.int n :: st)) := by
  subst hp
  obtain ⟨T1, h1, k1, X1, e1, E1, A1, st1⟩ := newP X hx hZ w eT (g := mkF m pc ls (.int n :: st)) rfl hd rfl hn (cap := cap) hcap hb hc hl
  exact own_go st1 (K T1 h1 _ k1 X1 e1 E1 rfl ((Arv.new A1 hn).pad (pad_rep [] _ q)))
theorem own_newarrE (X : Stand p l e R s m args below meth c T locs cells slots) (hx : p.tables.exec = Jvm.exec) {Z : State} {a0 : Array Value} {h : Heap} {aty : ArrayType} (hZ : Z.Warmed39 s.vm) (w : (Jvm.Cond.arrayClass (newarray.typeOf aty)).before a0 Z = true) (eT : T.heap = h) (hd : decode c.code pc = .ok (.newarray aty, 2)) (hp : pc + 2 = pc') {n : Int32} (hn : ¬ n < 0) (cap q : Nat) (hcap : n.toNatClampNeg ≤ cap) (hb : cap * 8 ≤ 536870912) (hc : cells + 1 ≤ R.cells) (hl : slots + cap ≤ R.slots) {ad : String} (had : "[" ++ (newarray.typeOf aty).toString = ad)
    (K : ∀ T' h' a k, Stand p l e R s m args below meth c T' locs (cells + 1) (slots + cap) → T'.heap = h' → Ext h h' → a = h.size → Arv Z h' a k (newarray.typeOf aty) n (List.replicate q (defaultValue (newarray.typeOf aty))) (defaultValue (newarray.typeOf aty)) → Exa Z h' a ad → own_Ends p e below s Q kc ks T' (mkF m pc' ls (.ref a :: st))) : own_Ends p e below s Q kc ks T (mkF m pc ls (.int n :: st)) := by
  subst hp
  obtain ⟨T1, h1, k1, X1, e1, E1, A1, Z1, st1⟩ := newPE X hx hZ w eT (g := mkF m pc ls (.int n :: st)) rfl hd rfl hn (cap := cap) hcap hb hc hl had
  exact own_go st1 (K T1 h1 _ k1 X1 e1 E1 rfl ((Arv.new A1 hn).pad (pad_rep [] _ q)) Z1)
theorem own_callS (X : Stand p l e R s m args below meth c T locs cells slots) (hx : p.tables.exec = Jvm.exec) {Z : State} {a0 : Array Value} {h : Heap} {own : String} {ix : Nat} {y : MethodName} {bytes : ByteArray} {maxL W : Nat} {ret : Option FieldType} {rm : Room} {Qc : Option Value → Heap → List Loc → Prop} {argsL rest : List Value} (hZ : Z.Warmed39 s.vm) (eT : T.heap = h) (hown : s.vm.findClass own = some m.cls) (hsz : ls.size = c.maxLocals) (wl : (Jvm.Cond.methodLink own ix y).before a0 Z = true) (ws : (Jvm.Cond.static y).before a0 Z = true) (wi : (Jvm.Cond.initialized y.cls).before a0 Z = true) (wc : (Jvm.Cond.code y bytes maxL ret).before a0 Z = true) (hy : y.cls ≠ "java/lang/invoke/MethodHandle" ∧ y.cls ≠ "java/lang/invoke/VarHandle") (hM : MetFree l y (head1 [Jvm.Cond.code y bytes maxL ret] rm) (fun a U => a = argsL.toArray ∧ Z.Warmed39 U.vm ∧ U.heap = h) (fun _ _ _ _ _ => True) (fun _ U o U' => ∃ v L, o = .returned v ∧ Qc v U'.heap L ∧ FrameEnd U o U' L rm.cells rm.slots)) (hf : rm.frames + 1 ≤ R.frames) (hlo : W + (maxL + 11) + rm.locals ≤ R.locals) (hcl : cells + rm.cells ≤ R.cells) (hsl : slots + rm.slots ≤ R.slots)
    (hlen : ∀ sig, parseMethodDescriptor y.desc = some sig → argsL.length = sig.parameters.length) (hst : st = argsL.reverse ++ rest) (hW : 2 * 0 + (rest.map fun v => v.category).sum ≤ W) (hd : decode c.code pc = .ok (.invokestatic ix, 3)) (hp : pc + 3 = pc') (K : ∀ T' L v, Stand p l e R s m args below meth c T' (locs ++ L) (cells + rm.cells) (slots + rm.slots) → Qc v T'.heap L → own_Ends p e below s Q kc ks T' (mkF m pc' ls (v.toList ++ rest))) : own_Ends p e below s Q kc ks T (mkF m pc ls st) := by
  subst hp
  obtain ⟨v, _, ⟨T1, L1, k1, n1⟩, -, X1, ⟨Lc, hQ, r1, r2, r3⟩, st1⟩ := Jvm.LawKit.callS X hx (y := y) hown (mvT hZ wl) (mvT hZ ws) (mvT hZ wi) (mvT hZ wc) hy (backOf (W := W) hM hZ wc wi hf hlo) (g := mkF m pc ls st) rfl hsz (argsL := argsL) (rest := rest) hlen hst hW hd (fun _ _ => ⟨rfl, eT, hcl, hsl⟩)
  dsimp only [Pt.U, Pt.locs, Pt.cells, Pt.slots] at X1 r1 r2 r3 st1 hQ
  subst r1 r2 r3
  exact own_go (st1) (K T1 Lc v X1 hQ)
theorem own_callC (X : Stand p l e R s m args below meth c T locs cells slots) (hx : p.tables.exec = Jvm.exec) {b : Addr} {Z : State} {a0 : Array Value} {h : Heap} {own : String} {ix : Nat} {y : MethodName} {bytes : ByteArray} {maxL W : Nat} {ret : Option FieldType} {rm : Room} {Qc : Option Value → Heap → List Loc → Prop} {argsL rest : List Value} (hZ : Z.Warmed39 s.vm) (eT : T.heap = h) (hown : s.vm.findClass own = some m.cls) (hsz : ls.size = c.maxLocals) (hret : ret = none) (hinit : y.name = "<init>") (wl : (Jvm.Cond.methodLink own ix y).before a0 Z = true) (wm : (Jvm.Cond.instanceMethod y).before a0 Z = true) (wi : (Jvm.Cond.initialized y.cls).before a0 Z = true) (wc : (Jvm.Cond.code y bytes maxL ret).before a0 Z = true) (hy : y.cls ≠ "java/lang/invoke/MethodHandle" ∧ y.cls ≠ "java/lang/invoke/VarHandle") (hM : MetFree l y (head1 [Jvm.Cond.code y bytes maxL ret] rm) (fun a U => a = (Value.ref b :: argsL).toArray ∧ Z.Warmed39 U.vm ∧ U.heap = h) (fun _ _ _ _ _ => True) (fun _ U o U' => ∃ v L, o = .returned v ∧ Qc v U'.heap L ∧ FrameEnd U o U' L rm.cells rm.slots)) (hf : rm.frames + 1 ≤ R.frames) (hlo : W + (maxL + 11) + rm.locals ≤ R.locals) (hcl : cells + rm.cells ≤ R.cells) (hsl : slots + rm.slots ≤ R.slots)
    (hlen : ∀ sig, parseMethodDescriptor y.desc = some sig → argsL.length = sig.parameters.length) (hst : st = argsL.reverse ++ .ref b :: rest) (hW : 2 * 0 + (rest.map fun v => v.category).sum ≤ W) (hd : decode c.code pc = .ok (.invokespecial ix, 3)) (hp : pc + 3 = pc') (K : ∀ T' L v, Stand p l e R s m args below meth c T' (locs ++ L) (cells + rm.cells) (slots + rm.slots) → Qc v T'.heap L → own_Ends p e below s Q kc ks T' (mkF m pc' ls (v.toList ++ rest))) : own_Ends p e below s Q kc ks T (mkF m pc ls st) := by
  subst hp hret
  obtain ⟨v, _, ⟨T1, L1, k1, n1⟩, -, X1, ⟨Lc, hQ, r1, r2, r3⟩, st1⟩ := X.specialBack hx (y := y) hinit hown (mvT hZ wl) (mvT hZ wm) (mvT hZ wc) hy (backOf (W := W) hM hZ wc wi hf hlo) (g := mkF m pc ls st) rfl hsz (Steps.refl _) (a := b) (argsL := argsL) (rest := rest) hlen hst hW hd (fun _ _ => ⟨rfl, eT, hcl, hsl⟩)
  dsimp only [Pt.U, Pt.locs, Pt.cells, Pt.slots] at X1 r1 r2 r3 st1 hQ
  subst r1 r2 r3
  exact own_go (fun t k => st1.trans k) (K T1 Lc v X1 hQ)
theorem own_callV (X : Stand p l e R s m args below meth c T locs cells slots) (hx : p.tables.exec = Jvm.exec) {b : Addr} {C : String} {Z : State} {a0 : Array Value} {h : Heap} {own : String} {ix : Nat} {y : MethodName} {bytes : ByteArray} {maxL W : Nat} {ret : Option FieldType} {rm : Room} {Qc : Option Value → Heap → List Loc → Prop} {argsL rest : List Value} (hZ : Z.Warmed39 s.vm) (eT : T.heap = h) (hown : s.vm.findClass own = some m.cls) (hsz : ls.size = c.maxLocals) (E : Exa Z h b C) (wl : (Jvm.Cond.methodLink own ix y).before a0 Z = true) (wd : (Jvm.Cond.declares y).before a0 Z = true) (wsel : (Jvm.Cond.selects C y y).before a0 Z = true) (wm : (Jvm.Cond.instanceMethod y).before a0 Z = true) (wi : (Jvm.Cond.initialized y.cls).before a0 Z = true) (wc : (Jvm.Cond.code y bytes maxL ret).before a0 Z = true) (hy : y.cls ≠ "java/lang/invoke/MethodHandle" ∧ y.cls ≠ "java/lang/invoke/VarHandle") (hM : MetFree l y (head1 [Jvm.Cond.code y bytes maxL ret] rm) (fun a U => a = (Value.ref b :: argsL).toArray ∧ Z.Warmed39 U.vm ∧ U.heap = h) (fun _ _ _ _ _ => True) (fun _ U o U' => ∃ v L, o = .returned v ∧ Qc v U'.heap L ∧ FrameEnd U o U' L rm.cells rm.slots)) (hf : rm.frames + 1 ≤ R.frames) (hlo : W + (maxL + 11) + rm.locals ≤ R.locals) (hcl : cells + rm.cells ≤ R.cells) (hsl : slots + rm.slots ≤ R.slots)
    (hlen : ∀ sig, parseMethodDescriptor y.desc = some sig → argsL.length = sig.parameters.length) (hst : st = argsL.reverse ++ .ref b :: rest) (hW : 2 * 0 + (rest.map fun v => v.category).sum ≤ W) (hd : decode c.code pc = .ok (.invokevirtual ix, 3)) (hp : pc + 3 = pc') (K : ∀ T' L v, Stand p l e R s m args below meth c T' (locs ++ L) (cells + rm.cells) (slots + rm.slots) → Qc v T'.heap L → own_Ends p e below s Q kc ks T' (mkF m pc' ls (v.toList ++ rest))) : own_Ends p e below s Q kc ks T (mkF m pc ls st) := by
  subst hp
  obtain ⟨cq, kq, qa, qb, qc⟩ := isOf hZ eT E
  obtain ⟨v, _, ⟨T1, L1, k1, n1⟩, -, X1, ⟨Lc, hQ, r1, r2, r3⟩, st1⟩ := X.virtualBack hx (y := y) (z := y) hown (mvT hZ wl) (mvT hZ wd) (notFace_of_selects (args := #[]) (mvT hZ wsel)) (mvT hZ wsel) (mvT hZ wm) hy (backOf (W := W) hM hZ wc wi hf hlo) qa qc (g := mkF m pc ls st) rfl hsz (Steps.refl _) (argsL := argsL) (rest := rest) hlen hst hW hd (fun _ _ => ⟨rfl, eT, hcl, hsl⟩)
  dsimp only [Pt.U, Pt.locs, Pt.cells, Pt.slots] at X1 r1 r2 r3 st1 hQ
  subst r1 r2 r3
  exact own_go (fun t k => st1.trans k) (K T1 Lc v X1 hQ)
theorem own_callP (X : Stand p l e R s m args below meth c T locs cells slots) (hx : p.tables.exec = Jvm.exec) {b : Addr} {C : String} {Z : State} {a0 : Array Value} {h : Heap} {own : String} {ix : Nat} {y : MethodName} {bytes : ByteArray} {maxL W : Nat} {ret : Option FieldType} {rm : Room} {Qc : Option Value → Heap → List Loc → Prop} {argsL rest : List Value} (hZ : Z.Warmed39 s.vm) (eT : T.heap = h) (hown : s.vm.findClass own = some m.cls) (hsz : ls.size = c.maxLocals) (E : Exa Z h b C) (wl : (Jvm.Cond.methodLink own ix y).before a0 Z = true) (wsel : (Jvm.Cond.selects y.cls y y).before a0 Z = true) (wp : (Jvm.Cond.privateMethod y).before a0 Z = true) (wm : (Jvm.Cond.instanceMethod y).before a0 Z = true) (wi : (Jvm.Cond.initialized y.cls).before a0 Z = true) (wc : (Jvm.Cond.code y bytes maxL ret).before a0 Z = true) (hy : y.cls ≠ "java/lang/invoke/MethodHandle" ∧ y.cls ≠ "java/lang/invoke/VarHandle") (hM : MetFree l y (head1 [Jvm.Cond.code y bytes maxL ret] rm) (fun a U => a = (Value.ref b :: argsL).toArray ∧ Z.Warmed39 U.vm ∧ U.heap = h) (fun _ _ _ _ _ => True) (fun _ U o U' => ∃ v L, o = .returned v ∧ Qc v U'.heap L ∧ FrameEnd U o U' L rm.cells rm.slots)) (hf : rm.frames + 1 ≤ R.frames) (hlo : W + (maxL + 11) + rm.locals ≤ R.locals) (hcl : cells + rm.cells ≤ R.cells) (hsl : slots + rm.slots ≤ R.slots)
    (hlen : ∀ sig, parseMethodDescriptor y.desc = some sig → argsL.length = sig.parameters.length) (hst : st = argsL.reverse ++ .ref b :: rest) (hW : 2 * 0 + (rest.map fun v => v.category).sum ≤ W) (hd : decode c.code pc = .ok (.invokevirtual ix, 3)) (hp : pc + 3 = pc') (K : ∀ T' L v, Stand p l e R s m args below meth c T' (locs ++ L) (cells + rm.cells) (slots + rm.slots) → Qc v T'.heap L → own_Ends p e below s Q kc ks T' (mkF m pc' ls (v.toList ++ rest))) : own_Ends p e below s Q kc ks T (mkF m pc ls st) := by
  subst hp
  obtain ⟨cq, qa, qb⟩ := E.cell
  obtain ⟨v, _, ⟨T1, L1, k1, n1⟩, -, X1, ⟨Lc, hQ, r1, r2, r3⟩, st1⟩ := X.privateBack hx (y := y) hown (mvT hZ wl) (mvT hZ wm) (mvT hZ wsel) (Jvm.Cond.privateMethod_at (mvP hZ wp (args := #[]))) (mvT hZ wc) hy (backOf (W := W) hM hZ wc wi hf hlo) (g := mkF m pc ls st) rfl hsz (Steps.refl _) (a := b) (by rw [eT]; exact qa) qb (argsL := argsL) (rest := rest) hlen hst hW hd (fun _ _ => ⟨rfl, eT, hcl, hsl⟩)
  dsimp only [Pt.U, Pt.locs, Pt.cells, Pt.slots] at X1 r1 r2 r3 st1 hQ
  subst r1 r2 r3
  exact own_go (fun t k => st1.trans k) (K T1 Lc v X1 hQ)
theorem own_mvM {Z : State} {a0 args : Array Value} {own host : String} {ix : Nat} {y : MethodName} (hZ : Z.Warmed39 s.vm) (w : (Jvm.Cond.methodLinkNest own ix y host).before a0 Z = true) : (Jvm.Cond.methodLinkNest own ix y host).before args s = true := (Jvm.Cond.methodLinkNest_wide hZ w :)
theorem own_callN (X : Stand p l e R s m args below meth c T locs cells slots) (hx : p.tables.exec = Jvm.exec) {b : Addr} {host : String} {Z : State} {a0 : Array Value} {h : Heap} {own : String} {ix : Nat} {y : MethodName} {bytes : ByteArray} {maxL W : Nat} {ret : Option FieldType} {rm : Room} {Qc : Option Value → Heap → List Loc → Prop} {argsL rest : List Value} (hZ : Z.Warmed39 s.vm) (eT : T.heap = h) (hown : s.vm.findClass own = some m.cls) (hsz : ls.size = c.maxLocals) (hret : ret = none) (hinit : y.name = "<init>") (wl : (Jvm.Cond.methodLinkNest own ix y host).before a0 Z = true) (wm : (Jvm.Cond.instanceMethod y).before a0 Z = true) (wi : (Jvm.Cond.initialized y.cls).before a0 Z = true) (wc : (Jvm.Cond.code y bytes maxL ret).before a0 Z = true) (hy : y.cls ≠ "java/lang/invoke/MethodHandle" ∧ y.cls ≠ "java/lang/invoke/VarHandle") (hM : MetFree l y (head1 [Jvm.Cond.code y bytes maxL ret] rm) (fun a U => a = (Value.ref b :: argsL).toArray ∧ Z.Warmed39 U.vm ∧ U.heap = h) (fun _ _ _ _ _ => True) (fun _ U o U' => ∃ v L, o = .returned v ∧ Qc v U'.heap L ∧ FrameEnd U o U' L rm.cells rm.slots)) (hf : rm.frames + 1 ≤ R.frames) (hlo : W + (maxL + 11) + rm.locals ≤ R.locals) (hcl : cells + rm.cells ≤ R.cells) (hsl : slots + rm.slots ≤ R.slots)
    (hlen : ∀ sig, parseMethodDescriptor y.desc = some sig → argsL.length = sig.parameters.length) (hst : st = argsL.reverse ++ .ref b :: rest) (hW : 2 * 0 + (rest.map fun v => v.category).sum ≤ W) (hd : decode c.code pc = .ok (.invokespecial ix, 3)) (hp : pc + 3 = pc') (K : ∀ T' L v, Stand p l e R s m args below meth c T' (locs ++ L) (cells + rm.cells) (slots + rm.slots) → Qc v T'.heap L → own_Ends p e below s Q kc ks T' (mkF m pc' ls (v.toList ++ rest))) : own_Ends p e below s Q kc ks T (mkF m pc ls st) := by
  subst hp hret
  obtain ⟨v, _, ⟨T1, L1, k1, n1⟩, -, X1, ⟨Lc, hQ, r1, r2, r3⟩, st1⟩ := X.specialBackNest hx (y := y) hinit hown (own_mvM hZ wl) (mvT hZ wm) (mvT hZ wc) hy (backOf (W := W) hM hZ wc wi hf hlo) (g := mkF m pc ls st) rfl hsz (Steps.refl _) (a := b) (argsL := argsL) (rest := rest) hlen hst hW hd (fun _ _ => ⟨rfl, eT, hcl, hsl⟩)
  dsimp only [Pt.U, Pt.locs, Pt.cells, Pt.slots] at X1 r1 r2 r3 st1 hQ
  subst r1 r2 r3
  exact own_go (fun t k => st1.trans k) (K T1 Lc v X1 hQ)
theorem own_anewarr (X : Stand p l e R s m args below meth c T locs cells slots) (hx : p.tables.exec = Jvm.exec) {Z : State} {a0 : Array Value} {h : Heap} {own C : String} {ix : Nat} (hZ : Z.Warmed39 s.vm) (hown : s.vm.findClass own = some m.cls) (w1 : (Jvm.Cond.classLink own ix C).before a0 Z = true) (w2 : (Jvm.Cond.arrayOver (.object C)).before a0 Z = true) (eT : T.heap = h) (hd : decode c.code pc = .ok (.anewarray ix, 3)) (hp : pc + 3 = pc') {n : Int32} (hn : ¬ n < 0) (cap q : Nat) (hcap : n.toNatClampNeg ≤ cap) (hb : cap * 8 ≤ 536870912) (hc : cells + 1 ≤ R.cells) (hl : slots + cap ≤ R.slots) {ad : String} (had : "[" ++ (FieldType.object C).toString = ad)
    (K : ∀ T' h' a k, Stand p l e R s m args below meth c T' locs (cells + 1) (slots + cap) → T'.heap = h' → Ext h h' → a = h.size → Arv Z h' a k (.object C) n (List.replicate q .null) .null → Exa Z h' a ad → Ovr Z k C → own_Ends p e below s Q kc ks T' (mkF m pc' ls (.ref a :: st))) : own_Ends p e below s Q kc ks T (mkF m pc ls (.int n :: st)) := by
  subst hp
  obtain ⟨T1, h1, k1, X1, e1, E1, A1, Z1, O1, st1⟩ := newRE X hx hZ hown w1 w2 eT (g := mkF m pc ls (.int n :: st)) rfl hd rfl hn (cap := cap) hcap hb hc hl had
  exact own_go st1 (K T1 h1 _ k1 X1 e1 E1 rfl ((Arv.new A1 hn).pad (pad_rep [] _ q)) Z1 O1)
theorem own_aastore (X : Stand p l e R s m args below meth c T locs cells slots) (hx : p.tables.exec = Jvm.exec) {Z : State} {h : Heap} {a b : Addr} {k : ClassId} {C D : String} {n j : Int32} {vs : List Value} {d : Value} (hZ : Z.Warmed39 s.vm) (eT : T.heap = h) (V : Arv Z h a k (.object D) n vs d) (O : Ovr Z k C) (I : Ins Z h b C true) (hd : decode c.code pc = .ok (.aastore, 1)) (hp : pc + 1 = pc') (hj : ¬ j < 0 ∧ j < n) (i : Nat) (hi : j.toNatClampNeg = i) (hl : i < vs.length) {n0 : Nat} (N : Fr n0 locs) (ge : n0 ≤ a)
    (K : ∀ T' h' L, Stand p l e R s m args below meth c T' L cells slots → T'.heap = h' → Fr n0 L → Wr h h' a j.toNatClampNeg (.ref b) → Arv Z h' a k (.object D) n (vs.set i (.ref b)) d → own_Ends p e below s Q kc ks T' (mkF m pc' ls st)) : own_Ends p e below s Q kc ks T (mkF m pc ls (.ref b :: .int j :: .ref a :: st)) := by
  subst hp
  obtain ⟨cl, A, q1, S, q2, H, G⟩ := V
  have hin := inb_of S hj
  obtain ⟨T1, h1, X1, e1, W1, st1⟩ := stR X hx hZ eT A (j := j) hin rfl (Sto.ofV A q1 O I) (g := mkF m pc ls (.ref b :: .int j :: .ref a :: st)) rfl rfl hd
  exact own_go st1 (K T1 h1 _ X1 e1 (Fr.snoc X1 N ge) W1 (Arv.set A q1 S q2 H G rfl W1 i hi hl))
theorem own_tswIn (X : Stand p l e R s m args below meth c T locs cells slots) (hx : p.tables.exec = Jvm.exec) {d lo hi o : Int} {offs : Array Int} {len : Nat} {i : Int32} (hd : decode c.code pc = .ok (.tableswitch d lo hi offs, len)) (hin : ¬ (i.toInt < lo ∨ i.toInt > hi)) (hoff : offs[(i.toInt - lo).toNat]? = some o) (ho : 0 ≤ (pc : Int) + o) (hp : ((pc : Int) + o).toNat = pc') (K : own_Ends p e below s Q kc ks T (mkF m pc' ls st)) : own_Ends p e below s Q kc ks T (mkF m pc ls (.int i :: st)) :=
  own_go (fun t k => XS.tswIn X.here hx rfl rfl hd rfl hin hoff ho hp k) K
theorem own_tswOut (X : Stand p l e R s m args below meth c T locs cells slots) (hx : p.tables.exec = Jvm.exec) {d lo hi : Int} {offs : Array Int} {len : Nat} {i : Int32} (hd : decode c.code pc = .ok (.tableswitch d lo hi offs, len)) (hout : i.toInt < lo ∨ i.toInt > hi) (ho : 0 ≤ (pc : Int) + d) (hp : ((pc : Int) + d).toNat = pc') (K : own_Ends p e below s Q kc ks T (mkF m pc' ls st)) : own_Ends p e below s Q kc ks T (mkF m pc ls (.int i :: st)) :=
  own_go (fun t k => XS.tswOut X.here hx rfl rfl hd rfl hout ho hp k) K
theorem own_ext {h h' : Heap} (K : Keep h h' []) : Ext h h' := ⟨K.1, fun a c q => K.2.1 a c q nin0⟩
theorem own_stak {Z : State} {h h' : Heap} {ws : List Addr} {C n d : String} {v : Value} (F : Sta Z h C n d v) (K : Keep h h' ws) (q : ∀ x ∈ ws, ∃ c : Cell, h[x]? = some c ∧ c.vm.isStatics = false) : Sta Z h' C n d v := by
  obtain ⟨cf, i, k, f, st, cell, h1, h2, h3, h4, h5, h6, h7⟩ := F
  refine ⟨cf, i, k, f, st, cell, h1, h2, h3, h4, K.2.1 st cell h5 (fun z => ?_), h6, h7⟩
  obtain ⟨c, q1, q2⟩ := q st z
  cases h5.symm.trans q1
  rw [h6] at q2; cases q2
theorem own_exac {Z : State} {h : Heap} {a : Addr} {C : String} (F : Exa Z h a C) : ∃ c : Cell, h[a]? = some c ∧ c.vm.isStatics = false := by
  obtain ⟨c, _, h1, -, -, h4, -⟩ := F; exact ⟨c, h1, h4⟩
theorem own_arvc {Z : State} {h : Heap} {a : Addr} {k : ClassId} {ty : FieldType} {n : Int32} {vs : List Value} {d : Value} (F : Arv Z h a k ty n vs d) : ∃ c : Cell, h[a]? = some c ∧ c.vm.isStatics = false := by
  obtain ⟨c, A, -⟩ := F; exact ⟨c, A.1, A.plain⟩
end Own
theorem own_w0 {Z : State} {a0 : Array Value} (hw : ∀ d ∈ tables_1, d.before a0 Z = true) : (Jvm.Cond.constant "com/example/exacting_validator/exactingvalidator/pattern/CodePointSetsContainsPinLaw" (7 : Nat) (1048575 : Int32)).before a0 Z = true := hw _ (List.mem_of_getElem? (i := 0) rfl)
theorem own_w1 {Z : State} {a0 : Array Value} (hw : ∀ d ∈ tables_1, d.before a0 Z = true) : (Jvm.Cond.arrayClass Jvm.ClassFile.FieldType.int).before a0 Z = true := hw _ (List.mem_of_getElem? (i := 1) rfl)
theorem own_w2 {Z : State} {a0 : Array Value} (hw : ∀ d ∈ tables_1, d.before a0 Z = true) : (Jvm.Cond.methodLink "com/example/exacting_validator/exactingvalidator/pattern/CodePointSetsContainsPinLaw" (15 : Nat) ({ cls := "com/example/exacting_validator/exactingvalidator/pattern/CodePointSets", name := "contains", desc := "([II)Z" } : Jvm.MethodName)).before a0 Z = true := hw _ (List.mem_of_getElem? (i := 2) rfl)
theorem own_w3 {Z : State} {a0 : Array Value} (hw : ∀ d ∈ tables_1, d.before a0 Z = true) : (Jvm.Cond.static ({ cls := "com/example/exacting_validator/exactingvalidator/pattern/CodePointSets", name := "contains", desc := "([II)Z" } : Jvm.MethodName)).before a0 Z = true := hw _ (List.mem_of_getElem? (i := 3) rfl)
theorem own_w4 {Z : State} {a0 : Array Value} (hw : ∀ d ∈ tables_1, d.before a0 Z = true) : (Jvm.Cond.initialized "com/example/exacting_validator/exactingvalidator/pattern/CodePointSets").before a0 Z = true := hw _ (List.mem_of_getElem? (i := 4) rfl)
theorem own_w5 {Z : State} {a0 : Array Value} (hw : ∀ d ∈ tables_1, d.before a0 Z = true) : (Jvm.Cond.code ({ cls := "com/example/exacting_validator/exactingvalidator/pattern/CodePointSets", name := "contains", desc := "([II)Z" } : Jvm.MethodName) prog_3_method_4_code (5 : Nat) (Option.some Jvm.ClassFile.FieldType.boolean)).before a0 Z = true := hw _ (List.mem_of_getElem? (i := 5) rfl)
theorem own_w6 {Z : State} {a0 : Array Value} (hw : ∀ d ∈ tables_1, d.before a0 Z = true) : (Jvm.Cond.methodLink "com/example/exacting_validator/exactingvalidator/pattern/CodePointSetsContainsPinLaw" (9 : Nat) ({ cls := "com/example/exacting_validator/exactingvalidator/pattern/CodePointSetsContainsPinLaw", name := "in", desc := "(III)Z" } : Jvm.MethodName)).before a0 Z = true := hw _ (List.mem_of_getElem? (i := 6) rfl)
theorem own_w7 {Z : State} {a0 : Array Value} (hw : ∀ d ∈ tables_1, d.before a0 Z = true) : (Jvm.Cond.static ({ cls := "com/example/exacting_validator/exactingvalidator/pattern/CodePointSetsContainsPinLaw", name := "in", desc := "(III)Z" } : Jvm.MethodName)).before a0 Z = true := hw _ (List.mem_of_getElem? (i := 7) rfl)
theorem own_w8 {Z : State} {a0 : Array Value} (hw : ∀ d ∈ tables_1, d.before a0 Z = true) : (Jvm.Cond.initialized "com/example/exacting_validator/exactingvalidator/pattern/CodePointSetsContainsPinLaw").before a0 Z = true := hw _ (List.mem_of_getElem? (i := 8) rfl)
theorem own_w9 {Z : State} {a0 : Array Value} (hw : ∀ d ∈ tables_1, d.before a0 Z = true) : (Jvm.Cond.code ({ cls := "com/example/exacting_validator/exactingvalidator/pattern/CodePointSetsContainsPinLaw", name := "in", desc := "(III)Z" } : Jvm.MethodName) method_3_code (3 : Nat) (Option.some Jvm.ClassFile.FieldType.boolean)).before a0 Z = true := hw _ (List.mem_of_getElem? (i := 9) rfl)
theorem own_w10 {Z : State} {a0 : Array Value} (hw : ∀ d ∈ tables_1, d.before a0 Z = true) : (Jvm.Cond.constant "com/example/exacting_validator/exactingvalidator/pattern/CodePointSetsContainsPinLaw" (8 : Nat) (2147483647 : Int32)).before a0 Z = true := hw _ (List.mem_of_getElem? (i := 10) rfl)
theorem own_pd0 : parseMethodDescriptor "([II)Z" = some ⟨[(.array .int), .int], some .boolean⟩ := by decide +kernel
theorem own_pd1 : parseMethodDescriptor "(III)Z" = some ⟨[.int, .int, .int], some .boolean⟩ := by decide +kernel
theorem own_pn0 : plainName "com/example/exacting_validator/exactingvalidator/pattern/CodePointSetsContainsPinLaw" = true := by first | (simp [plainName, overriddenIn]; done) | decide +kernel
theorem own_pn1 : plainName "com/example/exacting_validator/exactingvalidator/pattern/CodePointSets" = true := by first | (simp [plainName, overriddenIn]; done) | decide +kernel
theorem own_arrat {s : State} {a : Addr} {c : Cell} (h : s.arrayAt? a = some c) : s.heap[a]? = some c := by
  unfold State.arrayAt? at h
  cases q : s.heap[a]? with
  | none => simp [q] at h
  | some d =>
    simp [q] at h
    obtain ⟨k, -, h2⟩ := Option.bind_eq_some_iff.mp h
    split at h2
    · cases h2
    · split at h2
      · exact h2
      · cases h2
theorem own_b1 {x a b : Int32} (h : x < a) (q : ¬ b < a) : x < b := by rw [Int32.lt_iff_toInt_lt] at *; omega
theorem own_b2 {x a b : Int32} (h : ¬ x < a) (q : ¬ a < b) : ¬ x < b := by rw [Int32.lt_iff_toInt_lt] at *; omega
theorem own_b3 {x a b : Int32} (h : a < x) (q : ¬ a < b) : b < x := by rw [Int32.lt_iff_toInt_lt] at *; omega
theorem own_b4 {x a b : Int32} (h : ¬ a < x) (q : ¬ b < a) : ¬ b < x := by rw [Int32.lt_iff_toInt_lt] at *; omega
theorem own_b5 {x a b : Int32} (h : x < a) (q : ¬ b < a - 1 ∧ a - 1 < a) : ¬ b < x := by
  obtain ⟨q1, q2⟩ := q
  have := c_isub a 1; have := rng32 a; have := rng32 (a - 1); have e1 : (1 : Int32).toInt = 1 := rfl
  rw [Int32.lt_iff_toInt_lt] at *; omega
theorem own_b6 {x a b : Int32} (h : ¬ x < a) (q : b < a) : b < x := by rw [Int32.lt_iff_toInt_lt] at *; omega
theorem own_b7 {x a b : Int32} (h : a < x) (q : ¬ a + 1 < b ∧ a < a + 1) : ¬ x < b := by
  obtain ⟨q1, q2⟩ := q
  have := c_iadd a 1; have := rng32 a; have := rng32 (a + 1); have e1 : (1 : Int32).toInt = 1 := rfl
  rw [Int32.lt_iff_toInt_lt] at *; omega
theorem own_b8 {x a b : Int32} (h : ¬ a < x) (q : a < b) : x < b := by rw [Int32.lt_iff_toInt_lt] at *; omega
theorem own_n1 {x b : Int32} (h : x < b) : ¬ x = b := fun q => by subst q; rw [Int32.lt_iff_toInt_lt] at h; omega
theorem own_n2 {x b : Int32} (h : b < x) : ¬ x = b := fun q => by subst q; rw [Int32.lt_iff_toInt_lt] at h; omega
theorem own_i1 {x y : Int32} (h : x < y) : x.toInt < y.toInt := Int32.lt_iff_toInt_lt.mp h
theorem own_i2 {x y : Int32} (h : ¬ x < y) : y.toInt ≤ x.toInt := Int.not_lt.mp fun q => h (Int32.lt_iff_toInt_lt.mpr q)
theorem own_i3 {x y : Int32} (h : x = y) : x.toInt = y.toInt := congrArg Int32.toInt h
theorem own_i4 {x y : Int32} (h : ¬ x = y) : ¬ x.toInt = y.toInt := fun q => h (Int32.toInt_inj.mp q)
theorem own_some {x y : Int32} (h : x = y) : some (Value.int x) = some (Value.int y) := congrArg (fun z => some (Value.int z)) h
theorem own_ae1 {a b : Addr} (h : a = b) : XT.acmp .eq (.ref a) (.ref b) = true ∧ XT.acmp .ne (.ref a) (.ref b) = false := ⟨decide_eq_true (congrArg Value.ref h), decide_eq_false fun q => q (congrArg Value.ref h)⟩
theorem own_ae0 {a b : Addr} (h : ¬ a = b) : XT.acmp .eq (.ref a) (.ref b) = false ∧ XT.acmp .ne (.ref a) (.ref b) = true := ⟨decide_eq_false fun q => h (Value.ref.inj q), decide_eq_true fun q => h (Value.ref.inj q)⟩
theorem own_ann : XT.acmp .eq .null .null = true ∧ XT.acmp .ne .null .null = false := ⟨rfl, rfl⟩
theorem own_anr (b : Addr) : XT.acmp .eq .null (.ref b) = false ∧ XT.acmp .ne .null (.ref b) = true := by constructor <;> first | rfl | (simp [XT.acmp]; done) | decide
theorem own_arn (b : Addr) : XT.acmp .eq (.ref b) .null = false ∧ XT.acmp .ne (.ref b) .null = true := by constructor <;> first | rfl | (simp [XT.acmp]; done) | decide
theorem own_eqi {args : Array Value} {s : State} {t : Term} {k : Int32} (h : (Jvm.Cond.eq t (Term.int k)).value args s none s [] = some true) : t.eval args s none [] s = some (.int k) := by
  obtain ⟨x, y, e1, e2, k1, k2⟩ := cmp_v (Or.inl h)
  obtain rfl : Value.int k = y := Option.some.inj ((Term.int_eval k).symm.trans e2)
  obtain ⟨z, rfl⟩ : ∃ z, x = .int z := k2
  have q : z = k := gotT (Cond.eq_ints e1 (Term.int_eval k)) h
  rw [e1, q]
theorem own_eql {args : Array Value} {s : State} {t : Term} {k : Int64} (h : (Jvm.Cond.eq t (Term.long k)).value args s none s [] = some true) : t.eval args s none [] s = some (.long k) := by
  obtain ⟨x, y, e1, e2, k1, k2⟩ := cmp_v (Or.inl h)
  obtain rfl : Value.long k = y := Option.some.inj ((show (Term.long k).eval args s none [] s = some (.long k) from rfl).symm.trans e2)
  obtain ⟨z, rfl⟩ : ∃ z, x = .long z := k2
  have q : z = k := gotT (eq_L e1 (show (Term.long k).eval args s none [] s = some (.long k) from rfl)) h
  rw [e1, q]
theorem own_len {args : Array Value} {s : State} {t : Term} {k : Int32} {a : Addr} {c : Cell} (h : (Term.length t).eval args s none [] s = some (.int k)) (ht : t.eval args s none [] s = some (.ref a)) (hc : s.heap[a]? = some c) : c.slots.size.toInt32 = k ∧ c.slots.size < 2 ^ 31 := by
  obtain ⟨a', cell, e1, e2, e3⟩ := Term.length_spec h
  cases ht.symm.trans e1
  have e4 : s.heap[a]? = some cell := own_arrat e2
  cases hc.symm.trans e4
  refine ⟨(Value.int.inj e3).symm, ?_⟩
  by_cases q : c.slots.size < 2 ^ 31
  · exact q
  · simp [Term.eval, ht, e2, q] at h
theorem own_nb0 : nar .boolean 0 = 0 := by decide
theorem own_nb1 : nar .boolean 1 = 1 := by decide
def own_ushr (x y : Int32) : Int32 := (x.toUInt32 >>> (y &&& 31).toUInt32).toInt32
def own_ushrL (x : Int64) (y : Int32) : Int64 := (x.toUInt64 >>> (y &&& 0x3f).toInt64.toUInt64).toInt64
theorem own_d1_0 : decode prog_3_method_4_code 0 = .ok (.iconst 0, 1) := by decide +kernel
theorem own_d1_1 : decode prog_3_method_4_code 1 = .ok (.istore_n 2, 1) := by decide +kernel
theorem own_d1_2 : decode prog_3_method_4_code 2 = .ok (.aload_n 0, 1) := by decide +kernel
theorem own_d1_3 : decode prog_3_method_4_code 3 = .ok (.arraylength, 1) := by decide +kernel
theorem own_d1_4 : decode prog_3_method_4_code 4 = .ok (.iconst 2, 1) := by decide +kernel
theorem own_d1_5 : decode prog_3_method_4_code 5 = .ok (.idiv, 1) := by decide +kernel
theorem own_d1_6 : decode prog_3_method_4_code 6 = .ok (.iconst 1, 1) := by decide +kernel
theorem own_d1_7 : decode prog_3_method_4_code 7 = .ok (.isub, 1) := by decide +kernel
theorem own_d1_8 : decode prog_3_method_4_code 8 = .ok (.istore_n 3, 1) := by decide +kernel
theorem own_d1_9 : decode prog_3_method_4_code 9 = .ok (.iload_n 2, 1) := by decide +kernel
theorem own_d1_10 : decode prog_3_method_4_code 10 = .ok (.iload_n 3, 1) := by decide +kernel
theorem own_d1_11 : decode prog_3_method_4_code 11 = .ok (.if_icmp .gt 53, 3) := by decide +kernel
theorem own_d1_14 : decode prog_3_method_4_code 14 = .ok (.iload_n 2, 1) := by decide +kernel
theorem own_d1_15 : decode prog_3_method_4_code 15 = .ok (.iload_n 3, 1) := by decide +kernel
theorem own_d1_16 : decode prog_3_method_4_code 16 = .ok (.iadd, 1) := by decide +kernel
theorem own_d1_17 : decode prog_3_method_4_code 17 = .ok (.iconst 1, 1) := by decide +kernel
theorem own_d1_18 : decode prog_3_method_4_code 18 = .ok (.iushr, 1) := by decide +kernel
theorem own_d1_19 : decode prog_3_method_4_code 19 = .ok (.istore 4, 2) := by decide +kernel
theorem own_d1_21 : decode prog_3_method_4_code 21 = .ok (.iload_n 1, 1) := by decide +kernel
theorem own_d1_22 : decode prog_3_method_4_code 22 = .ok (.aload_n 0, 1) := by decide +kernel
theorem own_d1_23 : decode prog_3_method_4_code 23 = .ok (.iconst 2, 1) := by decide +kernel
theorem own_d1_24 : decode prog_3_method_4_code 24 = .ok (.iload 4, 2) := by decide +kernel
theorem own_d1_26 : decode prog_3_method_4_code 26 = .ok (.imul, 1) := by decide +kernel
theorem own_d1_27 : decode prog_3_method_4_code 27 = .ok (.iaload, 1) := by decide +kernel
theorem own_d1_28 : decode prog_3_method_4_code 28 = .ok (.if_icmp .ge 11, 3) := by decide +kernel
theorem own_d1_31 : decode prog_3_method_4_code 31 = .ok (.iload 4, 2) := by decide +kernel
theorem own_d1_33 : decode prog_3_method_4_code 33 = .ok (.iconst 1, 1) := by decide +kernel
theorem own_d1_34 : decode prog_3_method_4_code 34 = .ok (.isub, 1) := by decide +kernel
theorem own_d1_35 : decode prog_3_method_4_code 35 = .ok (.istore_n 3, 1) := by decide +kernel
theorem own_d1_36 : decode prog_3_method_4_code 36 = .ok (.goto 25, 3) := by decide +kernel
theorem own_d1_39 : decode prog_3_method_4_code 39 = .ok (.iload_n 1, 1) := by decide +kernel
theorem own_d1_40 : decode prog_3_method_4_code 40 = .ok (.aload_n 0, 1) := by decide +kernel
theorem own_d1_41 : decode prog_3_method_4_code 41 = .ok (.iconst 2, 1) := by decide +kernel
theorem own_d1_42 : decode prog_3_method_4_code 42 = .ok (.iload 4, 2) := by decide +kernel
theorem own_d1_44 : decode prog_3_method_4_code 44 = .ok (.imul, 1) := by decide +kernel
theorem own_d1_45 : decode prog_3_method_4_code 45 = .ok (.iconst 1, 1) := by decide +kernel
theorem own_d1_46 : decode prog_3_method_4_code 46 = .ok (.iadd, 1) := by decide +kernel
theorem own_d1_47 : decode prog_3_method_4_code 47 = .ok (.iaload, 1) := by decide +kernel
theorem own_d1_48 : decode prog_3_method_4_code 48 = .ok (.if_icmp .le 11, 3) := by decide +kernel
theorem own_d1_51 : decode prog_3_method_4_code 51 = .ok (.iload 4, 2) := by decide +kernel
theorem own_d1_53 : decode prog_3_method_4_code 53 = .ok (.iconst 1, 1) := by decide +kernel
theorem own_d1_54 : decode prog_3_method_4_code 54 = .ok (.iadd, 1) := by decide +kernel
theorem own_d1_55 : decode prog_3_method_4_code 55 = .ok (.istore_n 2, 1) := by decide +kernel
theorem own_d1_56 : decode prog_3_method_4_code 56 = .ok (.goto 5, 3) := by decide +kernel
theorem own_d1_59 : decode prog_3_method_4_code 59 = .ok (.iconst 1, 1) := by decide +kernel
theorem own_d1_60 : decode prog_3_method_4_code 60 = .ok (.ireturn, 1) := by decide +kernel
theorem own_d1_61 : decode prog_3_method_4_code 61 = .ok (.goto (-52), 3) := by decide +kernel
theorem own_d1_64 : decode prog_3_method_4_code 64 = .ok (.iconst 0, 1) := by decide +kernel
theorem own_d1_65 : decode prog_3_method_4_code 65 = .ok (.ireturn, 1) := by decide +kernel
theorem own_d2_0 : decode method_3_code 0 = .ok (.iload_n 1, 1) := by decide +kernel
theorem own_d2_1 : decode method_3_code 1 = .ok (.iload_n 0, 1) := by decide +kernel
theorem own_d2_2 : decode method_3_code 2 = .ok (.if_icmp .gt 12, 3) := by decide +kernel
theorem own_d2_5 : decode method_3_code 5 = .ok (.iload_n 0, 1) := by decide +kernel
theorem own_d2_6 : decode method_3_code 6 = .ok (.iload_n 2, 1) := by decide +kernel
theorem own_d2_7 : decode method_3_code 7 = .ok (.if_icmp .gt 7, 3) := by decide +kernel
theorem own_d2_10 : decode method_3_code 10 = .ok (.iconst 1, 1) := by decide +kernel
theorem own_d2_11 : decode method_3_code 11 = .ok (.goto 4, 3) := by decide +kernel
theorem own_d2_14 : decode method_3_code 14 = .ok (.iconst 0, 1) := by decide +kernel
theorem own_d2_15 : decode method_3_code 15 = .ok (.ireturn, 1) := by decide +kernel
def own_in (x l u : Int32) : Int32 := if l.toInt ≤ x.toInt ∧ x.toInt ≤ u.toInt then 1 else 0
theorem own_inT {x l u : Int32} (h : ¬ own_in x l u = 0) : l.toInt ≤ x.toInt ∧ x.toInt ≤ u.toInt := by
  unfold own_in at h; split at h
  · assumption
  · exact absurd rfl h
theorem own_inF {x l u : Int32} (h : own_in x l u = 0) : ¬ (l.toInt ≤ x.toInt ∧ x.toInt ≤ u.toInt) := by
  unfold own_in at h; split at h
  · exact absurd h (by decide)
  · assumption
theorem own_r5 {p n : Int32} (h : (p &&& 7) % 5 = n) : n = 0 ∨ n = 1 ∨ n = 2 ∨ n = 3 ∨ n = 4 := by
  have h1 := c_mask p 7 3 (by decide) (by decide)
  have h2 := (c_irem (p &&& 7) 5 5 rfl).1 (by rw [h1]; omega)
  rw [h] at h2
  have : n.toInt = 0 ∨ n.toInt = 1 ∨ n.toInt = 2 ∨ n.toInt = 3 ∨ n.toInt = 4 := by omega
  rcases this with q | q | q | q | q
  · exact Or.inl (Int32.toInt_inj.mp q)
  · exact Or.inr (Or.inl (Int32.toInt_inj.mp q))
  · exact Or.inr (Or.inr (Or.inl (Int32.toInt_inj.mp q)))
  · exact Or.inr (Or.inr (Or.inr (Or.inl (Int32.toInt_inj.mp q))))
  · exact Or.inr (Or.inr (Or.inr (Or.inr (Int32.toInt_inj.mp q))))
theorem own_l1 {p l : Int32} (h : p &&& 1048575 = l) : 0 ≤ l.toInt ∧ l.toInt ≤ 1048575 := by
  have h1 := c_mask p 1048575 20 (by decide) (by decide)
  rw [h] at h1; omega
theorem own_up {x y z : Int32} (h : x + (y &&& 255) = z) (r : 0 ≤ x.toInt ∧ x.toInt ≤ 2000000) : x.toInt ≤ z.toInt ∧ z.toInt ≤ x.toInt + 255 := by
  have h1 := c_mask y 255 8 (by decide) (by decide)
  have h2 := c_iadd x (y &&& 255)
  rw [h] at h2
  have := rng32 z
  omega
theorem own_up2 {x y z : Int32} (h : (x + 2) + (y &&& 255) = z) (r : 0 ≤ x.toInt ∧ x.toInt ≤ 1500000) : x.toInt + 2 ≤ z.toInt ∧ z.toInt ≤ x.toInt + 257 := by
  have h1 := c_iadd x 2
  have e2 : (2 : Int32).toInt = 2 := rfl
  have := rng32 (x + 2)
  have h2 := own_up h ⟨by omega, by omega⟩
  omega
def own_c0 (x : Int32)  : Int32 := if False then 1 else 0
def own_c1 (x : Int32) (l0 u0 : Int32) : Int32 := if (l0.toInt ≤ x.toInt ∧ x.toInt ≤ u0.toInt) then 1 else 0
def own_c2 (x : Int32) (l0 u0 : Int32) (l1 u1 : Int32) : Int32 := if (l0.toInt ≤ x.toInt ∧ x.toInt ≤ u0.toInt) ∨ (l1.toInt ≤ x.toInt ∧ x.toInt ≤ u1.toInt) then 1 else 0
def own_c3 (x : Int32) (l0 u0 : Int32) (l1 u1 : Int32) (l2 u2 : Int32) : Int32 := if (l0.toInt ≤ x.toInt ∧ x.toInt ≤ u0.toInt) ∨ (l1.toInt ≤ x.toInt ∧ x.toInt ≤ u1.toInt) ∨ (l2.toInt ≤ x.toInt ∧ x.toInt ≤ u2.toInt) then 1 else 0
def own_c4 (x : Int32) (l0 u0 : Int32) (l1 u1 : Int32) (l2 u2 : Int32) (l3 u3 : Int32) : Int32 := if (l0.toInt ≤ x.toInt ∧ x.toInt ≤ u0.toInt) ∨ (l1.toInt ≤ x.toInt ∧ x.toInt ≤ u1.toInt) ∨ (l2.toInt ≤ x.toInt ∧ x.toInt ≤ u2.toInt) ∨ (l3.toInt ≤ x.toInt ∧ x.toInt ≤ u3.toInt) then 1 else 0
def own_room2 : Room := { frames := 0, cells := 0, slots := 0, locals := 0 }
def own_Q2 (Z : State) (p0 : Int32) (p1 : Int32) (p2 : Int32) (h0 : Heap) (n0 : Nat) (v : Option Value) (h : Heap) (L : List Loc) : Prop := v = some (.int (own_in p0 p1 p2)) ∧ Fr n0 L ∧ h = h0
theorem own_ef_rm2 (m : MethodId) (x0 : Int32) (x1 : Int32) (x2 : Int32) : entryFrame m #[(.int x0), (.int x1), (.int x2)] 3 = mkF m 0 #[.val (.int x0), .val (.int x1), .val (.int x2)] [] := by first | (simp [entryFrame, mkF, argsToLocals, Value.category]; done) | rfl
set_option maxRecDepth 65536 in
set_option maxHeartbeats 40000000 in
theorem own_rm2 (l : Launch) (Z : State) (a0 : Array Value) (hw : ∀ d ∈ tables_1, d.before a0 Z = true) (ws : List Jvm.Cond) (p0 : Int32) (p1 : Int32) (p2 : Int32) (h0 : Heap) (n0 : Nat) :
    MetFree l (⟨"com/example/exacting_validator/exactingvalidator/pattern/CodePointSetsContainsPinLaw", "in", "(III)Z"⟩ : MethodName) (head1 (Jvm.Cond.code (⟨"com/example/exacting_validator/exactingvalidator/pattern/CodePointSetsContainsPinLaw", "in", "(III)Z"⟩ : MethodName) method_3_code 3 (some .boolean) :: ws) own_room2) (fun zz U => zz = #[(.int p0), (.int p1), (.int p2)] ∧ Z.Warmed39 U.vm ∧ U.heap = h0) (fun _ _ _ _ _ => True) (fun _ U o U' => ∃ v L, o = .returned v ∧ own_Q2 Z p0 p1 p2 h0 n0 v U'.heap L ∧ FrameEnd U o U' L own_room2.cells own_room2.slots) := by
  refine MetFree.of_bodySF (plainFor_of_name own_pn0) hisR ?_
  intro p e s m args below meth c s₁ Bd hml0 hP hK
  obtain ⟨rfl, hZ, hh⟩ := hP
  have hx := Bd.exec
  have hby := Bd.bytes
  have hml : c.maxLocals = 3 := hml0
  have hown : s.vm.findClass "com/example/exacting_validator/exactingvalidator/pattern/CodePointSetsContainsPinLaw" = some m.cls := findClass_of_methodNamed Bd.named
  have hnm := (name_of_methodNamed Bd.named Bd.method).1
  have hlk : meth.locks = false := BodyLoose.notSynchronized Bd
  have hret := Bd.returns
  have X0 : Stand p l e own_room2 s m #[(.int p0), (.int p1), (.int p2)] below meth c s₁ [] 0 0 := Stand.of_body Bd
  have e0 : s₁.heap = h0 := by rw [← hh, Bd.state]; rfl
  have N0 := Fr.nil n0
  show own_Ends p e below s (own_Q2 Z p0 p1 p2 h0 n0) own_room2.cells own_room2.slots s₁ (entryFrame m #[(.int p0), (.int p1), (.int p2)] 3)
  refine own_cast (own_ef_rm2 m p0 p1 p2) ?_
  refine own_iloadN (pc' := 1) X0 hx (hb hby own_d2_0) rfl rfl ?_
  refine own_iloadN (pc' := 2) X0 hx (hb hby own_d2_1) rfl rfl ?_
  by_cases hc2_31 : p0 < p1
  · refine own_icmpYes (pc' := 14) X0 hx (hb hby own_d2_2) (tlt hc2_31).2.2.1 (by decide) (by decide) ?_
    refine own_iconst (pc' := 15) (z := (0 : Int32)) X0 hx (hb hby own_d2_14) rfl rfl ?_
    refine own_retN X0 hx hlk hret (by simp) (hb hby own_d2_15) (by decide) (by decide) ?_
    have i_hc2_31 : p0.toInt < p1.toInt := own_i1 hc2_31
    refine ⟨own_some ?_, N0, e0⟩
    rw [own_nb0]; unfold own_in
    split <;> first | rfl | (exfalso; omega)
  · refine own_icmpNo (pc' := 5) X0 hx (hb hby own_d2_2) rfl (flt hc2_31).2.2.1 ?_
    refine own_iloadN (pc' := 6) X0 hx (hb hby own_d2_5) rfl rfl ?_
    refine own_iloadN (pc' := 7) X0 hx (hb hby own_d2_6) rfl rfl ?_
    by_cases hc7_32 : p2 < p0
    · refine own_icmpYes (pc' := 14) X0 hx (hb hby own_d2_7) (tlt hc7_32).2.2.1 (by decide) (by decide) ?_
      refine own_iconst (pc' := 15) (z := (0 : Int32)) X0 hx (hb hby own_d2_14) rfl rfl ?_
      refine own_retN X0 hx hlk hret (by simp) (hb hby own_d2_15) (by decide) (by decide) ?_
      have i_hc2_31 : p1.toInt ≤ p0.toInt := own_i2 hc2_31
      have i_hc7_32 : p2.toInt < p0.toInt := own_i1 hc7_32
      refine ⟨own_some ?_, N0, e0⟩
      rw [own_nb0]; unfold own_in
      split <;> first | rfl | (exfalso; omega)
    · refine own_icmpNo (pc' := 10) X0 hx (hb hby own_d2_7) rfl (flt hc7_32).2.2.1 ?_
      refine own_iconst (pc' := 11) (z := (1 : Int32)) X0 hx (hb hby own_d2_10) rfl rfl ?_
      refine own_goto (pc' := 15) X0 hx (hb hby own_d2_11) (by decide) (by decide) ?_
      refine own_retN X0 hx hlk hret (by simp) (hb hby own_d2_15) (by decide) (by decide) ?_
      have i_hc2_31 : p1.toInt ≤ p0.toInt := own_i2 hc2_31
      have i_hc7_32 : p0.toInt ≤ p2.toInt := own_i2 hc7_32
      refine ⟨own_some ?_, N0, e0⟩
      rw [own_nb1]; unfold own_in
      split <;> first | rfl | (exfalso; omega)
def own_room1_0 : Room := { frames := 0, cells := 0, slots := 0, locals := 0 }
def own_Q1_0 (Z : State) (r : Addr) (x : Int32) (k : ClassId) (h0 : Heap) (n0 : Nat) (v : Option Value) (h : Heap) (L : List Loc) : Prop := v = some (.int (own_c0 x )) ∧ Fr n0 L ∧ h = h0
theorem own_ef_rm1_0 (m : MethodId) (x0 : Addr) (x1 : Int32) : entryFrame m #[(.ref x0), (.int x1)] 5 = mkF m 0 #[.val (.ref x0), .val (.int x1), .unset, .unset, .unset] [] := by first | (simp [entryFrame, mkF, argsToLocals, Value.category]; done) | rfl
set_option maxRecDepth 65536 in
set_option maxHeartbeats 40000000 in
theorem own_rm1_0 (l : Launch) (Z : State) (a0 : Array Value) (hw : ∀ d ∈ tables_1, d.before a0 Z = true) (ws : List Jvm.Cond) (r : Addr) (x : Int32) (k : ClassId) (h0 : Heap) (n0 : Nat) (V0 : Arv Z h0 r k .int (0 : Int32) [] (.int (0 : Int32))) :
    MetFree l (⟨"com/example/exacting_validator/exactingvalidator/pattern/CodePointSets", "contains", "([II)Z"⟩ : MethodName) (head1 (Jvm.Cond.code (⟨"com/example/exacting_validator/exactingvalidator/pattern/CodePointSets", "contains", "([II)Z"⟩ : MethodName) prog_3_method_4_code 5 (some .boolean) :: ws) own_room1_0) (fun zz U => zz = #[(.ref r), (.int x)] ∧ Z.Warmed39 U.vm ∧ U.heap = h0) (fun _ _ _ _ _ => True) (fun _ U o U' => ∃ v L, o = .returned v ∧ own_Q1_0 Z r x k h0 n0 v U'.heap L ∧ FrameEnd U o U' L own_room1_0.cells own_room1_0.slots) := by
  refine MetFree.of_bodySF (plainFor_of_name own_pn1) hisR ?_
  intro p e s m args below meth c s₁ Bd hml0 hP hK
  obtain ⟨rfl, hZ, hh⟩ := hP
  have hx := Bd.exec
  have hby := Bd.bytes
  have hml : c.maxLocals = 5 := hml0
  have hown : s.vm.findClass "com/example/exacting_validator/exactingvalidator/pattern/CodePointSets" = some m.cls := findClass_of_methodNamed Bd.named
  have hnm := (name_of_methodNamed Bd.named Bd.method).1
  have hlk : meth.locks = false := BodyLoose.notSynchronized Bd
  have hret := Bd.returns
  have X0 : Stand p l e own_room1_0 s m #[(.ref r), (.int x)] below meth c s₁ [] 0 0 := Stand.of_body Bd
  have e0 : s₁.heap = h0 := by rw [← hh, Bd.state]; rfl
  have N0 := Fr.nil n0
  show own_Ends p e below s (own_Q1_0 Z r x k h0 n0) own_room1_0.cells own_room1_0.slots s₁ (entryFrame m #[(.ref r), (.int x)] 5)
  refine own_cast (own_ef_rm1_0 m r x) ?_
  refine own_iconst (pc' := 1) (z := (0 : Int32)) X0 hx (hb hby own_d1_0) rfl rfl ?_
  refine own_istoreN (pc' := 2) (l' := #[.val (.ref r), .val (.int x), .val (.int (0 : Int32)), .unset, .unset]) X0 hx (hb hby own_d1_1) rfl rfl ?_
  refine own_aloadN (pc' := 3) X0 hx (hb hby own_d1_2) rfl rfl rfl ?_
  refine own_alen (pc' := 4) X0 hx hZ e0 V0 (hb hby own_d1_3) rfl ?_
  refine own_iconst (pc' := 5) (z := (2 : Int32)) X0 hx (hb hby own_d1_4) rfl rfl ?_
  refine own_idiv (pc' := 6) (z := (0 : Int32)) X0 hx (hb hby own_d1_5) rfl (by decide) (by decide) ?_
  refine own_iconst (pc' := 7) (z := (1 : Int32)) X0 hx (hb hby own_d1_6) rfl rfl ?_
  refine own_isub (pc' := 8) (z := (-1 : Int32)) X0 hx (hb hby own_d1_7) rfl (by decide) ?_
  refine own_istoreN (pc' := 9) (l' := #[.val (.ref r), .val (.int x), .val (.int (0 : Int32)), .val (.int (-1 : Int32)), .unset]) X0 hx (hb hby own_d1_8) rfl rfl ?_
  refine own_iloadN (pc' := 10) X0 hx (hb hby own_d1_9) rfl rfl ?_
  refine own_iloadN (pc' := 11) X0 hx (hb hby own_d1_10) rfl rfl ?_
  refine own_icmpYes (pc' := 64) X0 hx (hb hby own_d1_11) (tlt (by decide)).2.2.1 (by decide) (by decide) ?_
  refine own_iconst (pc' := 65) (z := (0 : Int32)) X0 hx (hb hby own_d1_64) rfl rfl ?_
  refine own_retN X0 hx hlk hret (by simp) (hb hby own_d1_65) (by decide) (by decide) ?_
  refine ⟨own_some ?_, N0, e0⟩
  rw [own_nb0]; unfold own_c0
  split <;> first | rfl | (exfalso; omega)
def own_room1_1 : Room := { frames := 0, cells := 0, slots := 0, locals := 0 }
def own_Q1_1 (Z : State) (r : Addr) (x : Int32) (k : ClassId) (l0 : Int32) (u0 : Int32) (h0 : Heap) (n0 : Nat) (v : Option Value) (h : Heap) (L : List Loc) : Prop := v = some (.int (own_c1 x l0 u0)) ∧ Fr n0 L ∧ h = h0
theorem own_ef_rm1_1 (m : MethodId) (x0 : Addr) (x1 : Int32) : entryFrame m #[(.ref x0), (.int x1)] 5 = mkF m 0 #[.val (.ref x0), .val (.int x1), .unset, .unset, .unset] [] := by first | (simp [entryFrame, mkF, argsToLocals, Value.category]; done) | rfl
set_option maxRecDepth 65536 in
set_option maxHeartbeats 40000000 in
theorem own_rm1_1 (l : Launch) (Z : State) (a0 : Array Value) (hw : ∀ d ∈ tables_1, d.before a0 Z = true) (ws : List Jvm.Cond) (r : Addr) (x : Int32) (k : ClassId) (l0 : Int32) (u0 : Int32) (h0 : Heap) (n0 : Nat) (V0 : Arv Z h0 r k .int (2 : Int32) [(.int l0), (.int u0)] (.int (0 : Int32))) (ho0 : l0.toInt ≤ u0.toInt) :
    MetFree l (⟨"com/example/exacting_validator/exactingvalidator/pattern/CodePointSets", "contains", "([II)Z"⟩ : MethodName) (head1 (Jvm.Cond.code (⟨"com/example/exacting_validator/exactingvalidator/pattern/CodePointSets", "contains", "([II)Z"⟩ : MethodName) prog_3_method_4_code 5 (some .boolean) :: ws) own_room1_1) (fun zz U => zz = #[(.ref r), (.int x)] ∧ Z.Warmed39 U.vm ∧ U.heap = h0) (fun _ _ _ _ _ => True) (fun _ U o U' => ∃ v L, o = .returned v ∧ own_Q1_1 Z r x k l0 u0 h0 n0 v U'.heap L ∧ FrameEnd U o U' L own_room1_1.cells own_room1_1.slots) := by
  refine MetFree.of_bodySF (plainFor_of_name own_pn1) hisR ?_
  intro p e s m args below meth c s₁ Bd hml0 hP hK
  obtain ⟨rfl, hZ, hh⟩ := hP
  have hx := Bd.exec
  have hby := Bd.bytes
  have hml : c.maxLocals = 5 := hml0
  have hown : s.vm.findClass "com/example/exacting_validator/exactingvalidator/pattern/CodePointSets" = some m.cls := findClass_of_methodNamed Bd.named
  have hnm := (name_of_methodNamed Bd.named Bd.method).1
  have hlk : meth.locks = false := BodyLoose.notSynchronized Bd
  have hret := Bd.returns
  have X0 : Stand p l e own_room1_1 s m #[(.ref r), (.int x)] below meth c s₁ [] 0 0 := Stand.of_body Bd
  have e0 : s₁.heap = h0 := by rw [← hh, Bd.state]; rfl
  have N0 := Fr.nil n0
  show own_Ends p e below s (own_Q1_1 Z r x k l0 u0 h0 n0) own_room1_1.cells own_room1_1.slots s₁ (entryFrame m #[(.ref r), (.int x)] 5)
  refine own_cast (own_ef_rm1_1 m r x) ?_
  refine own_iconst (pc' := 1) (z := (0 : Int32)) X0 hx (hb hby own_d1_0) rfl rfl ?_
  refine own_istoreN (pc' := 2) (l' := #[.val (.ref r), .val (.int x), .val (.int (0 : Int32)), .unset, .unset]) X0 hx (hb hby own_d1_1) rfl rfl ?_
  refine own_aloadN (pc' := 3) X0 hx (hb hby own_d1_2) rfl rfl rfl ?_
  refine own_alen (pc' := 4) X0 hx hZ e0 V0 (hb hby own_d1_3) rfl ?_
  refine own_iconst (pc' := 5) (z := (2 : Int32)) X0 hx (hb hby own_d1_4) rfl rfl ?_
  refine own_idiv (pc' := 6) (z := (1 : Int32)) X0 hx (hb hby own_d1_5) rfl (by decide) (by decide) ?_
  refine own_iconst (pc' := 7) (z := (1 : Int32)) X0 hx (hb hby own_d1_6) rfl rfl ?_
  refine own_isub (pc' := 8) (z := (0 : Int32)) X0 hx (hb hby own_d1_7) rfl (by decide) ?_
  refine own_istoreN (pc' := 9) (l' := #[.val (.ref r), .val (.int x), .val (.int (0 : Int32)), .val (.int (0 : Int32)), .unset]) X0 hx (hb hby own_d1_8) rfl rfl ?_
  refine own_iloadN (pc' := 10) X0 hx (hb hby own_d1_9) rfl rfl ?_
  refine own_iloadN (pc' := 11) X0 hx (hb hby own_d1_10) rfl rfl ?_
  refine own_icmpNo (pc' := 14) X0 hx (hb hby own_d1_11) rfl (flt (by decide)).2.2.1 ?_
  refine own_iloadN (pc' := 15) X0 hx (hb hby own_d1_14) rfl rfl ?_
  refine own_iloadN (pc' := 16) X0 hx (hb hby own_d1_15) rfl rfl ?_
  refine own_iadd (pc' := 17) (z := (0 : Int32)) X0 hx (hb hby own_d1_16) rfl (by decide) ?_
  refine own_iconst (pc' := 18) (z := (1 : Int32)) X0 hx (hb hby own_d1_17) rfl rfl ?_
  refine own_iushr (pc' := 19) (z := (0 : Int32)) X0 hx (hb hby own_d1_18) rfl (by decide) ?_
  refine own_istore (pc' := 21) (l' := #[.val (.ref r), .val (.int x), .val (.int (0 : Int32)), .val (.int (0 : Int32)), .val (.int (0 : Int32))]) X0 hx (hb hby own_d1_19) rfl rfl ?_
  refine own_iloadN (pc' := 22) X0 hx (hb hby own_d1_21) rfl rfl ?_
  refine own_aloadN (pc' := 23) X0 hx (hb hby own_d1_22) rfl rfl rfl ?_
  refine own_iconst (pc' := 24) (z := (2 : Int32)) X0 hx (hb hby own_d1_23) rfl rfl ?_
  refine own_iload (pc' := 26) X0 hx (hb hby own_d1_24) rfl rfl ?_
  refine own_imul (pc' := 27) (z := (0 : Int32)) X0 hx (hb hby own_d1_26) rfl (by decide) ?_
  refine own_iaload (pc' := 28) X0 hx hZ e0 V0 (hb hby own_d1_27) rfl (by decide) rfl ?_
  by_cases hc28_31 : x < l0
  · refine own_icmpNo (pc' := 31) X0 hx (hb hby own_d1_28) rfl (tlt hc28_31).2.1 ?_
    refine own_iload (pc' := 33) X0 hx (hb hby own_d1_31) rfl rfl ?_
    refine own_iconst (pc' := 34) (z := (1 : Int32)) X0 hx (hb hby own_d1_33) rfl rfl ?_
    refine own_isub (pc' := 35) (z := (-1 : Int32)) X0 hx (hb hby own_d1_34) rfl (by decide) ?_
    refine own_istoreN (pc' := 36) (l' := #[.val (.ref r), .val (.int x), .val (.int (0 : Int32)), .val (.int (-1 : Int32)), .val (.int (0 : Int32))]) X0 hx (hb hby own_d1_35) rfl rfl ?_
    refine own_goto (pc' := 61) X0 hx (hb hby own_d1_36) (by decide) (by decide) ?_
    refine own_goto (pc' := 9) X0 hx (hb hby own_d1_61) (by decide) (by decide) ?_
    refine own_iloadN (pc' := 10) X0 hx (hb hby own_d1_9) rfl rfl ?_
    refine own_iloadN (pc' := 11) X0 hx (hb hby own_d1_10) rfl rfl ?_
    refine own_icmpYes (pc' := 64) X0 hx (hb hby own_d1_11) (tlt (by decide)).2.2.1 (by decide) (by decide) ?_
    refine own_iconst (pc' := 65) (z := (0 : Int32)) X0 hx (hb hby own_d1_64) rfl rfl ?_
    refine own_retN X0 hx hlk hret (by simp) (hb hby own_d1_65) (by decide) (by decide) ?_
    have i_hc28_31 : x.toInt < l0.toInt := own_i1 hc28_31
    refine ⟨own_some ?_, N0, e0⟩
    rw [own_nb0]; unfold own_c1
    split <;> first | rfl | (exfalso; omega)
  · refine own_icmpYes (pc' := 39) X0 hx (hb hby own_d1_28) (flt hc28_31).2.1 (by decide) (by decide) ?_
    refine own_iloadN (pc' := 40) X0 hx (hb hby own_d1_39) rfl rfl ?_
    refine own_aloadN (pc' := 41) X0 hx (hb hby own_d1_40) rfl rfl rfl ?_
    refine own_iconst (pc' := 42) (z := (2 : Int32)) X0 hx (hb hby own_d1_41) rfl rfl ?_
    refine own_iload (pc' := 44) X0 hx (hb hby own_d1_42) rfl rfl ?_
    refine own_imul (pc' := 45) (z := (0 : Int32)) X0 hx (hb hby own_d1_44) rfl (by decide) ?_
    refine own_iconst (pc' := 46) (z := (1 : Int32)) X0 hx (hb hby own_d1_45) rfl rfl ?_
    refine own_iadd (pc' := 47) (z := (1 : Int32)) X0 hx (hb hby own_d1_46) rfl (by decide) ?_
    refine own_iaload (pc' := 48) X0 hx hZ e0 V0 (hb hby own_d1_47) rfl (by decide) rfl ?_
    by_cases hc48_32 : u0 < x
    · refine own_icmpNo (pc' := 51) X0 hx (hb hby own_d1_48) rfl (tlt hc48_32).2.2.2 ?_
      refine own_iload (pc' := 53) X0 hx (hb hby own_d1_51) rfl rfl ?_
      refine own_iconst (pc' := 54) (z := (1 : Int32)) X0 hx (hb hby own_d1_53) rfl rfl ?_
      refine own_iadd (pc' := 55) (z := (1 : Int32)) X0 hx (hb hby own_d1_54) rfl (by decide) ?_
      refine own_istoreN (pc' := 56) (l' := #[.val (.ref r), .val (.int x), .val (.int (1 : Int32)), .val (.int (0 : Int32)), .val (.int (0 : Int32))]) X0 hx (hb hby own_d1_55) rfl rfl ?_
      refine own_goto (pc' := 61) X0 hx (hb hby own_d1_56) (by decide) (by decide) ?_
      refine own_goto (pc' := 9) X0 hx (hb hby own_d1_61) (by decide) (by decide) ?_
      refine own_iloadN (pc' := 10) X0 hx (hb hby own_d1_9) rfl rfl ?_
      refine own_iloadN (pc' := 11) X0 hx (hb hby own_d1_10) rfl rfl ?_
      refine own_icmpYes (pc' := 64) X0 hx (hb hby own_d1_11) (tlt (by decide)).2.2.1 (by decide) (by decide) ?_
      refine own_iconst (pc' := 65) (z := (0 : Int32)) X0 hx (hb hby own_d1_64) rfl rfl ?_
      refine own_retN X0 hx hlk hret (by simp) (hb hby own_d1_65) (by decide) (by decide) ?_
      have i_hc28_31 : l0.toInt ≤ x.toInt := own_i2 hc28_31
      have i_hc48_32 : u0.toInt < x.toInt := own_i1 hc48_32
      refine ⟨own_some ?_, N0, e0⟩
      rw [own_nb0]; unfold own_c1
      split <;> first | rfl | (exfalso; omega)
    · refine own_icmpYes (pc' := 59) X0 hx (hb hby own_d1_48) (flt hc48_32).2.2.2 (by decide) (by decide) ?_
      refine own_iconst (pc' := 60) (z := (1 : Int32)) X0 hx (hb hby own_d1_59) rfl rfl ?_
      refine own_retN X0 hx hlk hret (by simp) (hb hby own_d1_60) (by decide) (by decide) ?_
      have i_hc28_31 : l0.toInt ≤ x.toInt := own_i2 hc28_31
      have i_hc48_32 : x.toInt ≤ u0.toInt := own_i2 hc48_32
      refine ⟨own_some ?_, N0, e0⟩
      rw [own_nb1]; unfold own_c1
      split <;> first | rfl | (exfalso; omega)
def own_room1_2 : Room := { frames := 0, cells := 0, slots := 0, locals := 0 }
def own_Q1_2 (Z : State) (r : Addr) (x : Int32) (k : ClassId) (l0 : Int32) (u0 : Int32) (l1 : Int32) (u1 : Int32) (h0 : Heap) (n0 : Nat) (v : Option Value) (h : Heap) (L : List Loc) : Prop := v = some (.int (own_c2 x l0 u0 l1 u1)) ∧ Fr n0 L ∧ h = h0
theorem own_ef_rm1_2 (m : MethodId) (x0 : Addr) (x1 : Int32) : entryFrame m #[(.ref x0), (.int x1)] 5 = mkF m 0 #[.val (.ref x0), .val (.int x1), .unset, .unset, .unset] [] := by first | (simp [entryFrame, mkF, argsToLocals, Value.category]; done) | rfl
set_option maxRecDepth 65536 in
set_option maxHeartbeats 40000000 in
theorem own_rm1_2 (l : Launch) (Z : State) (a0 : Array Value) (hw : ∀ d ∈ tables_1, d.before a0 Z = true) (ws : List Jvm.Cond) (r : Addr) (x : Int32) (k : ClassId) (l0 : Int32) (u0 : Int32) (l1 : Int32) (u1 : Int32) (h0 : Heap) (n0 : Nat) (V0 : Arv Z h0 r k .int (4 : Int32) [(.int l0), (.int u0), (.int l1), (.int u1)] (.int (0 : Int32))) (ho0 : l0.toInt ≤ u0.toInt) (ho1 : u0.toInt < l1.toInt) (ho2 : l1.toInt ≤ u1.toInt) :
    MetFree l (⟨"com/example/exacting_validator/exactingvalidator/pattern/CodePointSets", "contains", "([II)Z"⟩ : MethodName) (head1 (Jvm.Cond.code (⟨"com/example/exacting_validator/exactingvalidator/pattern/CodePointSets", "contains", "([II)Z"⟩ : MethodName) prog_3_method_4_code 5 (some .boolean) :: ws) own_room1_2) (fun zz U => zz = #[(.ref r), (.int x)] ∧ Z.Warmed39 U.vm ∧ U.heap = h0) (fun _ _ _ _ _ => True) (fun _ U o U' => ∃ v L, o = .returned v ∧ own_Q1_2 Z r x k l0 u0 l1 u1 h0 n0 v U'.heap L ∧ FrameEnd U o U' L own_room1_2.cells own_room1_2.slots) := by
  refine MetFree.of_bodySF (plainFor_of_name own_pn1) hisR ?_
  intro p e s m args below meth c s₁ Bd hml0 hP hK
  obtain ⟨rfl, hZ, hh⟩ := hP
  have hx := Bd.exec
  have hby := Bd.bytes
  have hml : c.maxLocals = 5 := hml0
  have hown : s.vm.findClass "com/example/exacting_validator/exactingvalidator/pattern/CodePointSets" = some m.cls := findClass_of_methodNamed Bd.named
  have hnm := (name_of_methodNamed Bd.named Bd.method).1
  have hlk : meth.locks = false := BodyLoose.notSynchronized Bd
  have hret := Bd.returns
  have X0 : Stand p l e own_room1_2 s m #[(.ref r), (.int x)] below meth c s₁ [] 0 0 := Stand.of_body Bd
  have e0 : s₁.heap = h0 := by rw [← hh, Bd.state]; rfl
  have N0 := Fr.nil n0
  show own_Ends p e below s (own_Q1_2 Z r x k l0 u0 l1 u1 h0 n0) own_room1_2.cells own_room1_2.slots s₁ (entryFrame m #[(.ref r), (.int x)] 5)
  refine own_cast (own_ef_rm1_2 m r x) ?_
  refine own_iconst (pc' := 1) (z := (0 : Int32)) X0 hx (hb hby own_d1_0) rfl rfl ?_
  refine own_istoreN (pc' := 2) (l' := #[.val (.ref r), .val (.int x), .val (.int (0 : Int32)), .unset, .unset]) X0 hx (hb hby own_d1_1) rfl rfl ?_
  refine own_aloadN (pc' := 3) X0 hx (hb hby own_d1_2) rfl rfl rfl ?_
  refine own_alen (pc' := 4) X0 hx hZ e0 V0 (hb hby own_d1_3) rfl ?_
  refine own_iconst (pc' := 5) (z := (2 : Int32)) X0 hx (hb hby own_d1_4) rfl rfl ?_
  refine own_idiv (pc' := 6) (z := (2 : Int32)) X0 hx (hb hby own_d1_5) rfl (by decide) (by decide) ?_
  refine own_iconst (pc' := 7) (z := (1 : Int32)) X0 hx (hb hby own_d1_6) rfl rfl ?_
  refine own_isub (pc' := 8) (z := (1 : Int32)) X0 hx (hb hby own_d1_7) rfl (by decide) ?_
  refine own_istoreN (pc' := 9) (l' := #[.val (.ref r), .val (.int x), .val (.int (0 : Int32)), .val (.int (1 : Int32)), .unset]) X0 hx (hb hby own_d1_8) rfl rfl ?_
  refine own_iloadN (pc' := 10) X0 hx (hb hby own_d1_9) rfl rfl ?_
  refine own_iloadN (pc' := 11) X0 hx (hb hby own_d1_10) rfl rfl ?_
  refine own_icmpNo (pc' := 14) X0 hx (hb hby own_d1_11) rfl (flt (by decide)).2.2.1 ?_
  refine own_iloadN (pc' := 15) X0 hx (hb hby own_d1_14) rfl rfl ?_
  refine own_iloadN (pc' := 16) X0 hx (hb hby own_d1_15) rfl rfl ?_
  refine own_iadd (pc' := 17) (z := (1 : Int32)) X0 hx (hb hby own_d1_16) rfl (by decide) ?_
  refine own_iconst (pc' := 18) (z := (1 : Int32)) X0 hx (hb hby own_d1_17) rfl rfl ?_
  refine own_iushr (pc' := 19) (z := (0 : Int32)) X0 hx (hb hby own_d1_18) rfl (by decide) ?_
  refine own_istore (pc' := 21) (l' := #[.val (.ref r), .val (.int x), .val (.int (0 : Int32)), .val (.int (1 : Int32)), .val (.int (0 : Int32))]) X0 hx (hb hby own_d1_19) rfl rfl ?_
  refine own_iloadN (pc' := 22) X0 hx (hb hby own_d1_21) rfl rfl ?_
  refine own_aloadN (pc' := 23) X0 hx (hb hby own_d1_22) rfl rfl rfl ?_
  refine own_iconst (pc' := 24) (z := (2 : Int32)) X0 hx (hb hby own_d1_23) rfl rfl ?_
  refine own_iload (pc' := 26) X0 hx (hb hby own_d1_24) rfl rfl ?_
  refine own_imul (pc' := 27) (z := (0 : Int32)) X0 hx (hb hby own_d1_26) rfl (by decide) ?_
  refine own_iaload (pc' := 28) X0 hx hZ e0 V0 (hb hby own_d1_27) rfl (by decide) rfl ?_
  by_cases hc28_31 : x < l0
  · refine own_icmpNo (pc' := 31) X0 hx (hb hby own_d1_28) rfl (tlt hc28_31).2.1 ?_
    refine own_iload (pc' := 33) X0 hx (hb hby own_d1_31) rfl rfl ?_
    refine own_iconst (pc' := 34) (z := (1 : Int32)) X0 hx (hb hby own_d1_33) rfl rfl ?_
    refine own_isub (pc' := 35) (z := (-1 : Int32)) X0 hx (hb hby own_d1_34) rfl (by decide) ?_
    refine own_istoreN (pc' := 36) (l' := #[.val (.ref r), .val (.int x), .val (.int (0 : Int32)), .val (.int (-1 : Int32)), .val (.int (0 : Int32))]) X0 hx (hb hby own_d1_35) rfl rfl ?_
    refine own_goto (pc' := 61) X0 hx (hb hby own_d1_36) (by decide) (by decide) ?_
    refine own_goto (pc' := 9) X0 hx (hb hby own_d1_61) (by decide) (by decide) ?_
    refine own_iloadN (pc' := 10) X0 hx (hb hby own_d1_9) rfl rfl ?_
    refine own_iloadN (pc' := 11) X0 hx (hb hby own_d1_10) rfl rfl ?_
    refine own_icmpYes (pc' := 64) X0 hx (hb hby own_d1_11) (tlt (by decide)).2.2.1 (by decide) (by decide) ?_
    refine own_iconst (pc' := 65) (z := (0 : Int32)) X0 hx (hb hby own_d1_64) rfl rfl ?_
    refine own_retN X0 hx hlk hret (by simp) (hb hby own_d1_65) (by decide) (by decide) ?_
    have i_hc28_31 : x.toInt < l0.toInt := own_i1 hc28_31
    refine ⟨own_some ?_, N0, e0⟩
    rw [own_nb0]; unfold own_c2
    split <;> first | rfl | (exfalso; omega)
  · refine own_icmpYes (pc' := 39) X0 hx (hb hby own_d1_28) (flt hc28_31).2.1 (by decide) (by decide) ?_
    refine own_iloadN (pc' := 40) X0 hx (hb hby own_d1_39) rfl rfl ?_
    refine own_aloadN (pc' := 41) X0 hx (hb hby own_d1_40) rfl rfl rfl ?_
    refine own_iconst (pc' := 42) (z := (2 : Int32)) X0 hx (hb hby own_d1_41) rfl rfl ?_
    refine own_iload (pc' := 44) X0 hx (hb hby own_d1_42) rfl rfl ?_
    refine own_imul (pc' := 45) (z := (0 : Int32)) X0 hx (hb hby own_d1_44) rfl (by decide) ?_
    refine own_iconst (pc' := 46) (z := (1 : Int32)) X0 hx (hb hby own_d1_45) rfl rfl ?_
    refine own_iadd (pc' := 47) (z := (1 : Int32)) X0 hx (hb hby own_d1_46) rfl (by decide) ?_
    refine own_iaload (pc' := 48) X0 hx hZ e0 V0 (hb hby own_d1_47) rfl (by decide) rfl ?_
    by_cases hc48_32 : u0 < x
    · refine own_icmpNo (pc' := 51) X0 hx (hb hby own_d1_48) rfl (tlt hc48_32).2.2.2 ?_
      refine own_iload (pc' := 53) X0 hx (hb hby own_d1_51) rfl rfl ?_
      refine own_iconst (pc' := 54) (z := (1 : Int32)) X0 hx (hb hby own_d1_53) rfl rfl ?_
      refine own_iadd (pc' := 55) (z := (1 : Int32)) X0 hx (hb hby own_d1_54) rfl (by decide) ?_
      refine own_istoreN (pc' := 56) (l' := #[.val (.ref r), .val (.int x), .val (.int (1 : Int32)), .val (.int (1 : Int32)), .val (.int (0 : Int32))]) X0 hx (hb hby own_d1_55) rfl rfl ?_
      refine own_goto (pc' := 61) X0 hx (hb hby own_d1_56) (by decide) (by decide) ?_
      refine own_goto (pc' := 9) X0 hx (hb hby own_d1_61) (by decide) (by decide) ?_
      refine own_iloadN (pc' := 10) X0 hx (hb hby own_d1_9) rfl rfl ?_
      refine own_iloadN (pc' := 11) X0 hx (hb hby own_d1_10) rfl rfl ?_
      refine own_icmpNo (pc' := 14) X0 hx (hb hby own_d1_11) rfl (flt (by decide)).2.2.1 ?_
      refine own_iloadN (pc' := 15) X0 hx (hb hby own_d1_14) rfl rfl ?_
      refine own_iloadN (pc' := 16) X0 hx (hb hby own_d1_15) rfl rfl ?_
      refine own_iadd (pc' := 17) (z := (2 : Int32)) X0 hx (hb hby own_d1_16) rfl (by decide) ?_
      refine own_iconst (pc' := 18) (z := (1 : Int32)) X0 hx (hb hby own_d1_17) rfl rfl ?_
      refine own_iushr (pc' := 19) (z := (1 : Int32)) X0 hx (hb hby own_d1_18) rfl (by decide) ?_
      refine own_istore (pc' := 21) (l' := #[.val (.ref r), .val (.int x), .val (.int (1 : Int32)), .val (.int (1 : Int32)), .val (.int (1 : Int32))]) X0 hx (hb hby own_d1_19) rfl rfl ?_
      refine own_iloadN (pc' := 22) X0 hx (hb hby own_d1_21) rfl rfl ?_
      refine own_aloadN (pc' := 23) X0 hx (hb hby own_d1_22) rfl rfl rfl ?_
      refine own_iconst (pc' := 24) (z := (2 : Int32)) X0 hx (hb hby own_d1_23) rfl rfl ?_
      refine own_iload (pc' := 26) X0 hx (hb hby own_d1_24) rfl rfl ?_
      refine own_imul (pc' := 27) (z := (2 : Int32)) X0 hx (hb hby own_d1_26) rfl (by decide) ?_
      refine own_iaload (pc' := 28) X0 hx hZ e0 V0 (hb hby own_d1_27) rfl (by decide) rfl ?_
      by_cases hc28_33 : x < l1
      · refine own_icmpNo (pc' := 31) X0 hx (hb hby own_d1_28) rfl (tlt hc28_33).2.1 ?_
        refine own_iload (pc' := 33) X0 hx (hb hby own_d1_31) rfl rfl ?_
        refine own_iconst (pc' := 34) (z := (1 : Int32)) X0 hx (hb hby own_d1_33) rfl rfl ?_
        refine own_isub (pc' := 35) (z := (0 : Int32)) X0 hx (hb hby own_d1_34) rfl (by decide) ?_
        refine own_istoreN (pc' := 36) (l' := #[.val (.ref r), .val (.int x), .val (.int (1 : Int32)), .val (.int (0 : Int32)), .val (.int (1 : Int32))]) X0 hx (hb hby own_d1_35) rfl rfl ?_
        refine own_goto (pc' := 61) X0 hx (hb hby own_d1_36) (by decide) (by decide) ?_
        refine own_goto (pc' := 9) X0 hx (hb hby own_d1_61) (by decide) (by decide) ?_
        refine own_iloadN (pc' := 10) X0 hx (hb hby own_d1_9) rfl rfl ?_
        refine own_iloadN (pc' := 11) X0 hx (hb hby own_d1_10) rfl rfl ?_
        refine own_icmpYes (pc' := 64) X0 hx (hb hby own_d1_11) (tlt (by decide)).2.2.1 (by decide) (by decide) ?_
        refine own_iconst (pc' := 65) (z := (0 : Int32)) X0 hx (hb hby own_d1_64) rfl rfl ?_
        refine own_retN X0 hx hlk hret (by simp) (hb hby own_d1_65) (by decide) (by decide) ?_
        have i_hc28_31 : l0.toInt ≤ x.toInt := own_i2 hc28_31
        have i_hc48_32 : u0.toInt < x.toInt := own_i1 hc48_32
        have i_hc28_33 : x.toInt < l1.toInt := own_i1 hc28_33
        refine ⟨own_some ?_, N0, e0⟩
        rw [own_nb0]; unfold own_c2
        split <;> first | rfl | (exfalso; omega)
      · refine own_icmpYes (pc' := 39) X0 hx (hb hby own_d1_28) (flt hc28_33).2.1 (by decide) (by decide) ?_
        refine own_iloadN (pc' := 40) X0 hx (hb hby own_d1_39) rfl rfl ?_
        refine own_aloadN (pc' := 41) X0 hx (hb hby own_d1_40) rfl rfl rfl ?_
        refine own_iconst (pc' := 42) (z := (2 : Int32)) X0 hx (hb hby own_d1_41) rfl rfl ?_
        refine own_iload (pc' := 44) X0 hx (hb hby own_d1_42) rfl rfl ?_
        refine own_imul (pc' := 45) (z := (2 : Int32)) X0 hx (hb hby own_d1_44) rfl (by decide) ?_
        refine own_iconst (pc' := 46) (z := (1 : Int32)) X0 hx (hb hby own_d1_45) rfl rfl ?_
        refine own_iadd (pc' := 47) (z := (3 : Int32)) X0 hx (hb hby own_d1_46) rfl (by decide) ?_
        refine own_iaload (pc' := 48) X0 hx hZ e0 V0 (hb hby own_d1_47) rfl (by decide) rfl ?_
        by_cases hc48_34 : u1 < x
        · refine own_icmpNo (pc' := 51) X0 hx (hb hby own_d1_48) rfl (tlt hc48_34).2.2.2 ?_
          refine own_iload (pc' := 53) X0 hx (hb hby own_d1_51) rfl rfl ?_
          refine own_iconst (pc' := 54) (z := (1 : Int32)) X0 hx (hb hby own_d1_53) rfl rfl ?_
          refine own_iadd (pc' := 55) (z := (2 : Int32)) X0 hx (hb hby own_d1_54) rfl (by decide) ?_
          refine own_istoreN (pc' := 56) (l' := #[.val (.ref r), .val (.int x), .val (.int (2 : Int32)), .val (.int (1 : Int32)), .val (.int (1 : Int32))]) X0 hx (hb hby own_d1_55) rfl rfl ?_
          refine own_goto (pc' := 61) X0 hx (hb hby own_d1_56) (by decide) (by decide) ?_
          refine own_goto (pc' := 9) X0 hx (hb hby own_d1_61) (by decide) (by decide) ?_
          refine own_iloadN (pc' := 10) X0 hx (hb hby own_d1_9) rfl rfl ?_
          refine own_iloadN (pc' := 11) X0 hx (hb hby own_d1_10) rfl rfl ?_
          refine own_icmpYes (pc' := 64) X0 hx (hb hby own_d1_11) (tlt (by decide)).2.2.1 (by decide) (by decide) ?_
          refine own_iconst (pc' := 65) (z := (0 : Int32)) X0 hx (hb hby own_d1_64) rfl rfl ?_
          refine own_retN X0 hx hlk hret (by simp) (hb hby own_d1_65) (by decide) (by decide) ?_
          have i_hc28_31 : l0.toInt ≤ x.toInt := own_i2 hc28_31
          have i_hc48_32 : u0.toInt < x.toInt := own_i1 hc48_32
          have i_hc28_33 : l1.toInt ≤ x.toInt := own_i2 hc28_33
          have i_hc48_34 : u1.toInt < x.toInt := own_i1 hc48_34
          refine ⟨own_some ?_, N0, e0⟩
          rw [own_nb0]; unfold own_c2
          split <;> first | rfl | (exfalso; omega)
        · refine own_icmpYes (pc' := 59) X0 hx (hb hby own_d1_48) (flt hc48_34).2.2.2 (by decide) (by decide) ?_
          refine own_iconst (pc' := 60) (z := (1 : Int32)) X0 hx (hb hby own_d1_59) rfl rfl ?_
          refine own_retN X0 hx hlk hret (by simp) (hb hby own_d1_60) (by decide) (by decide) ?_
          have i_hc28_31 : l0.toInt ≤ x.toInt := own_i2 hc28_31
          have i_hc48_32 : u0.toInt < x.toInt := own_i1 hc48_32
          have i_hc28_33 : l1.toInt ≤ x.toInt := own_i2 hc28_33
          have i_hc48_34 : x.toInt ≤ u1.toInt := own_i2 hc48_34
          refine ⟨own_some ?_, N0, e0⟩
          rw [own_nb1]; unfold own_c2
          split <;> first | rfl | (exfalso; omega)
    · refine own_icmpYes (pc' := 59) X0 hx (hb hby own_d1_48) (flt hc48_32).2.2.2 (by decide) (by decide) ?_
      refine own_iconst (pc' := 60) (z := (1 : Int32)) X0 hx (hb hby own_d1_59) rfl rfl ?_
      refine own_retN X0 hx hlk hret (by simp) (hb hby own_d1_60) (by decide) (by decide) ?_
      have i_hc28_31 : l0.toInt ≤ x.toInt := own_i2 hc28_31
      have i_hc48_32 : x.toInt ≤ u0.toInt := own_i2 hc48_32
      refine ⟨own_some ?_, N0, e0⟩
      rw [own_nb1]; unfold own_c2
      split <;> first | rfl | (exfalso; omega)
def own_room1_3 : Room := { frames := 0, cells := 0, slots := 0, locals := 0 }
def own_Q1_3 (Z : State) (r : Addr) (x : Int32) (k : ClassId) (l0 : Int32) (u0 : Int32) (l1 : Int32) (u1 : Int32) (l2 : Int32) (u2 : Int32) (h0 : Heap) (n0 : Nat) (v : Option Value) (h : Heap) (L : List Loc) : Prop := v = some (.int (own_c3 x l0 u0 l1 u1 l2 u2)) ∧ Fr n0 L ∧ h = h0
theorem own_ef_rm1_3 (m : MethodId) (x0 : Addr) (x1 : Int32) : entryFrame m #[(.ref x0), (.int x1)] 5 = mkF m 0 #[.val (.ref x0), .val (.int x1), .unset, .unset, .unset] [] := by first | (simp [entryFrame, mkF, argsToLocals, Value.category]; done) | rfl
set_option maxRecDepth 65536 in
set_option maxHeartbeats 40000000 in
theorem own_rm1_3 (l : Launch) (Z : State) (a0 : Array Value) (hw : ∀ d ∈ tables_1, d.before a0 Z = true) (ws : List Jvm.Cond) (r : Addr) (x : Int32) (k : ClassId) (l0 : Int32) (u0 : Int32) (l1 : Int32) (u1 : Int32) (l2 : Int32) (u2 : Int32) (h0 : Heap) (n0 : Nat) (V0 : Arv Z h0 r k .int (6 : Int32) [(.int l0), (.int u0), (.int l1), (.int u1), (.int l2), (.int u2)] (.int (0 : Int32))) (ho0 : l0.toInt ≤ u0.toInt) (ho1 : u0.toInt < l1.toInt) (ho2 : l1.toInt ≤ u1.toInt) (ho3 : u1.toInt < l2.toInt) (ho4 : l2.toInt ≤ u2.toInt) :
    MetFree l (⟨"com/example/exacting_validator/exactingvalidator/pattern/CodePointSets", "contains", "([II)Z"⟩ : MethodName) (head1 (Jvm.Cond.code (⟨"com/example/exacting_validator/exactingvalidator/pattern/CodePointSets", "contains", "([II)Z"⟩ : MethodName) prog_3_method_4_code 5 (some .boolean) :: ws) own_room1_3) (fun zz U => zz = #[(.ref r), (.int x)] ∧ Z.Warmed39 U.vm ∧ U.heap = h0) (fun _ _ _ _ _ => True) (fun _ U o U' => ∃ v L, o = .returned v ∧ own_Q1_3 Z r x k l0 u0 l1 u1 l2 u2 h0 n0 v U'.heap L ∧ FrameEnd U o U' L own_room1_3.cells own_room1_3.slots) := by
  refine MetFree.of_bodySF (plainFor_of_name own_pn1) hisR ?_
  intro p e s m args below meth c s₁ Bd hml0 hP hK
  obtain ⟨rfl, hZ, hh⟩ := hP
  have hx := Bd.exec
  have hby := Bd.bytes
  have hml : c.maxLocals = 5 := hml0
  have hown : s.vm.findClass "com/example/exacting_validator/exactingvalidator/pattern/CodePointSets" = some m.cls := findClass_of_methodNamed Bd.named
  have hnm := (name_of_methodNamed Bd.named Bd.method).1
  have hlk : meth.locks = false := BodyLoose.notSynchronized Bd
  have hret := Bd.returns
  have X0 : Stand p l e own_room1_3 s m #[(.ref r), (.int x)] below meth c s₁ [] 0 0 := Stand.of_body Bd
  have e0 : s₁.heap = h0 := by rw [← hh, Bd.state]; rfl
  have N0 := Fr.nil n0
  show own_Ends p e below s (own_Q1_3 Z r x k l0 u0 l1 u1 l2 u2 h0 n0) own_room1_3.cells own_room1_3.slots s₁ (entryFrame m #[(.ref r), (.int x)] 5)
  refine own_cast (own_ef_rm1_3 m r x) ?_
  refine own_iconst (pc' := 1) (z := (0 : Int32)) X0 hx (hb hby own_d1_0) rfl rfl ?_
  refine own_istoreN (pc' := 2) (l' := #[.val (.ref r), .val (.int x), .val (.int (0 : Int32)), .unset, .unset]) X0 hx (hb hby own_d1_1) rfl rfl ?_
  refine own_aloadN (pc' := 3) X0 hx (hb hby own_d1_2) rfl rfl rfl ?_
  refine own_alen (pc' := 4) X0 hx hZ e0 V0 (hb hby own_d1_3) rfl ?_
  refine own_iconst (pc' := 5) (z := (2 : Int32)) X0 hx (hb hby own_d1_4) rfl rfl ?_
  refine own_idiv (pc' := 6) (z := (3 : Int32)) X0 hx (hb hby own_d1_5) rfl (by decide) (by decide) ?_
  refine own_iconst (pc' := 7) (z := (1 : Int32)) X0 hx (hb hby own_d1_6) rfl rfl ?_
  refine own_isub (pc' := 8) (z := (2 : Int32)) X0 hx (hb hby own_d1_7) rfl (by decide) ?_
  refine own_istoreN (pc' := 9) (l' := #[.val (.ref r), .val (.int x), .val (.int (0 : Int32)), .val (.int (2 : Int32)), .unset]) X0 hx (hb hby own_d1_8) rfl rfl ?_
  refine own_iloadN (pc' := 10) X0 hx (hb hby own_d1_9) rfl rfl ?_
  refine own_iloadN (pc' := 11) X0 hx (hb hby own_d1_10) rfl rfl ?_
  refine own_icmpNo (pc' := 14) X0 hx (hb hby own_d1_11) rfl (flt (by decide)).2.2.1 ?_
  refine own_iloadN (pc' := 15) X0 hx (hb hby own_d1_14) rfl rfl ?_
  refine own_iloadN (pc' := 16) X0 hx (hb hby own_d1_15) rfl rfl ?_
  refine own_iadd (pc' := 17) (z := (2 : Int32)) X0 hx (hb hby own_d1_16) rfl (by decide) ?_
  refine own_iconst (pc' := 18) (z := (1 : Int32)) X0 hx (hb hby own_d1_17) rfl rfl ?_
  refine own_iushr (pc' := 19) (z := (1 : Int32)) X0 hx (hb hby own_d1_18) rfl (by decide) ?_
  refine own_istore (pc' := 21) (l' := #[.val (.ref r), .val (.int x), .val (.int (0 : Int32)), .val (.int (2 : Int32)), .val (.int (1 : Int32))]) X0 hx (hb hby own_d1_19) rfl rfl ?_
  refine own_iloadN (pc' := 22) X0 hx (hb hby own_d1_21) rfl rfl ?_
  refine own_aloadN (pc' := 23) X0 hx (hb hby own_d1_22) rfl rfl rfl ?_
  refine own_iconst (pc' := 24) (z := (2 : Int32)) X0 hx (hb hby own_d1_23) rfl rfl ?_
  refine own_iload (pc' := 26) X0 hx (hb hby own_d1_24) rfl rfl ?_
  refine own_imul (pc' := 27) (z := (2 : Int32)) X0 hx (hb hby own_d1_26) rfl (by decide) ?_
  refine own_iaload (pc' := 28) X0 hx hZ e0 V0 (hb hby own_d1_27) rfl (by decide) rfl ?_
  by_cases hc28_31 : x < l1
  · refine own_icmpNo (pc' := 31) X0 hx (hb hby own_d1_28) rfl (tlt hc28_31).2.1 ?_
    refine own_iload (pc' := 33) X0 hx (hb hby own_d1_31) rfl rfl ?_
    refine own_iconst (pc' := 34) (z := (1 : Int32)) X0 hx (hb hby own_d1_33) rfl rfl ?_
    refine own_isub (pc' := 35) (z := (0 : Int32)) X0 hx (hb hby own_d1_34) rfl (by decide) ?_
    refine own_istoreN (pc' := 36) (l' := #[.val (.ref r), .val (.int x), .val (.int (0 : Int32)), .val (.int (0 : Int32)), .val (.int (1 : Int32))]) X0 hx (hb hby own_d1_35) rfl rfl ?_
    refine own_goto (pc' := 61) X0 hx (hb hby own_d1_36) (by decide) (by decide) ?_
    refine own_goto (pc' := 9) X0 hx (hb hby own_d1_61) (by decide) (by decide) ?_
    refine own_iloadN (pc' := 10) X0 hx (hb hby own_d1_9) rfl rfl ?_
    refine own_iloadN (pc' := 11) X0 hx (hb hby own_d1_10) rfl rfl ?_
    refine own_icmpNo (pc' := 14) X0 hx (hb hby own_d1_11) rfl (flt (by decide)).2.2.1 ?_
    refine own_iloadN (pc' := 15) X0 hx (hb hby own_d1_14) rfl rfl ?_
    refine own_iloadN (pc' := 16) X0 hx (hb hby own_d1_15) rfl rfl ?_
    refine own_iadd (pc' := 17) (z := (0 : Int32)) X0 hx (hb hby own_d1_16) rfl (by decide) ?_
    refine own_iconst (pc' := 18) (z := (1 : Int32)) X0 hx (hb hby own_d1_17) rfl rfl ?_
    refine own_iushr (pc' := 19) (z := (0 : Int32)) X0 hx (hb hby own_d1_18) rfl (by decide) ?_
    refine own_istore (pc' := 21) (l' := #[.val (.ref r), .val (.int x), .val (.int (0 : Int32)), .val (.int (0 : Int32)), .val (.int (0 : Int32))]) X0 hx (hb hby own_d1_19) rfl rfl ?_
    refine own_iloadN (pc' := 22) X0 hx (hb hby own_d1_21) rfl rfl ?_
    refine own_aloadN (pc' := 23) X0 hx (hb hby own_d1_22) rfl rfl rfl ?_
    refine own_iconst (pc' := 24) (z := (2 : Int32)) X0 hx (hb hby own_d1_23) rfl rfl ?_
    refine own_iload (pc' := 26) X0 hx (hb hby own_d1_24) rfl rfl ?_
    refine own_imul (pc' := 27) (z := (0 : Int32)) X0 hx (hb hby own_d1_26) rfl (by decide) ?_
    refine own_iaload (pc' := 28) X0 hx hZ e0 V0 (hb hby own_d1_27) rfl (by decide) rfl ?_
    by_cases hc28_32 : x < l0
    · refine own_icmpNo (pc' := 31) X0 hx (hb hby own_d1_28) rfl (tlt hc28_32).2.1 ?_
      refine own_iload (pc' := 33) X0 hx (hb hby own_d1_31) rfl rfl ?_
      refine own_iconst (pc' := 34) (z := (1 : Int32)) X0 hx (hb hby own_d1_33) rfl rfl ?_
      refine own_isub (pc' := 35) (z := (-1 : Int32)) X0 hx (hb hby own_d1_34) rfl (by decide) ?_
      refine own_istoreN (pc' := 36) (l' := #[.val (.ref r), .val (.int x), .val (.int (0 : Int32)), .val (.int (-1 : Int32)), .val (.int (0 : Int32))]) X0 hx (hb hby own_d1_35) rfl rfl ?_
      refine own_goto (pc' := 61) X0 hx (hb hby own_d1_36) (by decide) (by decide) ?_
      refine own_goto (pc' := 9) X0 hx (hb hby own_d1_61) (by decide) (by decide) ?_
      refine own_iloadN (pc' := 10) X0 hx (hb hby own_d1_9) rfl rfl ?_
      refine own_iloadN (pc' := 11) X0 hx (hb hby own_d1_10) rfl rfl ?_
      refine own_icmpYes (pc' := 64) X0 hx (hb hby own_d1_11) (tlt (by decide)).2.2.1 (by decide) (by decide) ?_
      refine own_iconst (pc' := 65) (z := (0 : Int32)) X0 hx (hb hby own_d1_64) rfl rfl ?_
      refine own_retN X0 hx hlk hret (by simp) (hb hby own_d1_65) (by decide) (by decide) ?_
      have i_hc28_31 : x.toInt < l1.toInt := own_i1 hc28_31
      have i_hc28_32 : x.toInt < l0.toInt := own_i1 hc28_32
      refine ⟨own_some ?_, N0, e0⟩
      rw [own_nb0]; unfold own_c3
      split <;> first | rfl | (exfalso; omega)
    · refine own_icmpYes (pc' := 39) X0 hx (hb hby own_d1_28) (flt hc28_32).2.1 (by decide) (by decide) ?_
      refine own_iloadN (pc' := 40) X0 hx (hb hby own_d1_39) rfl rfl ?_
      refine own_aloadN (pc' := 41) X0 hx (hb hby own_d1_40) rfl rfl rfl ?_
      refine own_iconst (pc' := 42) (z := (2 : Int32)) X0 hx (hb hby own_d1_41) rfl rfl ?_
      refine own_iload (pc' := 44) X0 hx (hb hby own_d1_42) rfl rfl ?_
      refine own_imul (pc' := 45) (z := (0 : Int32)) X0 hx (hb hby own_d1_44) rfl (by decide) ?_
      refine own_iconst (pc' := 46) (z := (1 : Int32)) X0 hx (hb hby own_d1_45) rfl rfl ?_
      refine own_iadd (pc' := 47) (z := (1 : Int32)) X0 hx (hb hby own_d1_46) rfl (by decide) ?_
      refine own_iaload (pc' := 48) X0 hx hZ e0 V0 (hb hby own_d1_47) rfl (by decide) rfl ?_
      by_cases hc48_33 : u0 < x
      · refine own_icmpNo (pc' := 51) X0 hx (hb hby own_d1_48) rfl (tlt hc48_33).2.2.2 ?_
        refine own_iload (pc' := 53) X0 hx (hb hby own_d1_51) rfl rfl ?_
        refine own_iconst (pc' := 54) (z := (1 : Int32)) X0 hx (hb hby own_d1_53) rfl rfl ?_
        refine own_iadd (pc' := 55) (z := (1 : Int32)) X0 hx (hb hby own_d1_54) rfl (by decide) ?_
        refine own_istoreN (pc' := 56) (l' := #[.val (.ref r), .val (.int x), .val (.int (1 : Int32)), .val (.int (0 : Int32)), .val (.int (0 : Int32))]) X0 hx (hb hby own_d1_55) rfl rfl ?_
        refine own_goto (pc' := 61) X0 hx (hb hby own_d1_56) (by decide) (by decide) ?_
        refine own_goto (pc' := 9) X0 hx (hb hby own_d1_61) (by decide) (by decide) ?_
        refine own_iloadN (pc' := 10) X0 hx (hb hby own_d1_9) rfl rfl ?_
        refine own_iloadN (pc' := 11) X0 hx (hb hby own_d1_10) rfl rfl ?_
        refine own_icmpYes (pc' := 64) X0 hx (hb hby own_d1_11) (tlt (by decide)).2.2.1 (by decide) (by decide) ?_
        refine own_iconst (pc' := 65) (z := (0 : Int32)) X0 hx (hb hby own_d1_64) rfl rfl ?_
        refine own_retN X0 hx hlk hret (by simp) (hb hby own_d1_65) (by decide) (by decide) ?_
        have i_hc28_31 : x.toInt < l1.toInt := own_i1 hc28_31
        have i_hc28_32 : l0.toInt ≤ x.toInt := own_i2 hc28_32
        have i_hc48_33 : u0.toInt < x.toInt := own_i1 hc48_33
        refine ⟨own_some ?_, N0, e0⟩
        rw [own_nb0]; unfold own_c3
        split <;> first | rfl | (exfalso; omega)
      · refine own_icmpYes (pc' := 59) X0 hx (hb hby own_d1_48) (flt hc48_33).2.2.2 (by decide) (by decide) ?_
        refine own_iconst (pc' := 60) (z := (1 : Int32)) X0 hx (hb hby own_d1_59) rfl rfl ?_
        refine own_retN X0 hx hlk hret (by simp) (hb hby own_d1_60) (by decide) (by decide) ?_
        have i_hc28_31 : x.toInt < l1.toInt := own_i1 hc28_31
        have i_hc28_32 : l0.toInt ≤ x.toInt := own_i2 hc28_32
        have i_hc48_33 : x.toInt ≤ u0.toInt := own_i2 hc48_33
        refine ⟨own_some ?_, N0, e0⟩
        rw [own_nb1]; unfold own_c3
        split <;> first | rfl | (exfalso; omega)
  · refine own_icmpYes (pc' := 39) X0 hx (hb hby own_d1_28) (flt hc28_31).2.1 (by decide) (by decide) ?_
    refine own_iloadN (pc' := 40) X0 hx (hb hby own_d1_39) rfl rfl ?_
    refine own_aloadN (pc' := 41) X0 hx (hb hby own_d1_40) rfl rfl rfl ?_
    refine own_iconst (pc' := 42) (z := (2 : Int32)) X0 hx (hb hby own_d1_41) rfl rfl ?_
    refine own_iload (pc' := 44) X0 hx (hb hby own_d1_42) rfl rfl ?_
    refine own_imul (pc' := 45) (z := (2 : Int32)) X0 hx (hb hby own_d1_44) rfl (by decide) ?_
    refine own_iconst (pc' := 46) (z := (1 : Int32)) X0 hx (hb hby own_d1_45) rfl rfl ?_
    refine own_iadd (pc' := 47) (z := (3 : Int32)) X0 hx (hb hby own_d1_46) rfl (by decide) ?_
    refine own_iaload (pc' := 48) X0 hx hZ e0 V0 (hb hby own_d1_47) rfl (by decide) rfl ?_
    by_cases hc48_34 : u1 < x
    · refine own_icmpNo (pc' := 51) X0 hx (hb hby own_d1_48) rfl (tlt hc48_34).2.2.2 ?_
      refine own_iload (pc' := 53) X0 hx (hb hby own_d1_51) rfl rfl ?_
      refine own_iconst (pc' := 54) (z := (1 : Int32)) X0 hx (hb hby own_d1_53) rfl rfl ?_
      refine own_iadd (pc' := 55) (z := (2 : Int32)) X0 hx (hb hby own_d1_54) rfl (by decide) ?_
      refine own_istoreN (pc' := 56) (l' := #[.val (.ref r), .val (.int x), .val (.int (2 : Int32)), .val (.int (2 : Int32)), .val (.int (1 : Int32))]) X0 hx (hb hby own_d1_55) rfl rfl ?_
      refine own_goto (pc' := 61) X0 hx (hb hby own_d1_56) (by decide) (by decide) ?_
      refine own_goto (pc' := 9) X0 hx (hb hby own_d1_61) (by decide) (by decide) ?_
      refine own_iloadN (pc' := 10) X0 hx (hb hby own_d1_9) rfl rfl ?_
      refine own_iloadN (pc' := 11) X0 hx (hb hby own_d1_10) rfl rfl ?_
      refine own_icmpNo (pc' := 14) X0 hx (hb hby own_d1_11) rfl (flt (by decide)).2.2.1 ?_
      refine own_iloadN (pc' := 15) X0 hx (hb hby own_d1_14) rfl rfl ?_
      refine own_iloadN (pc' := 16) X0 hx (hb hby own_d1_15) rfl rfl ?_
      refine own_iadd (pc' := 17) (z := (4 : Int32)) X0 hx (hb hby own_d1_16) rfl (by decide) ?_
      refine own_iconst (pc' := 18) (z := (1 : Int32)) X0 hx (hb hby own_d1_17) rfl rfl ?_
      refine own_iushr (pc' := 19) (z := (2 : Int32)) X0 hx (hb hby own_d1_18) rfl (by decide) ?_
      refine own_istore (pc' := 21) (l' := #[.val (.ref r), .val (.int x), .val (.int (2 : Int32)), .val (.int (2 : Int32)), .val (.int (2 : Int32))]) X0 hx (hb hby own_d1_19) rfl rfl ?_
      refine own_iloadN (pc' := 22) X0 hx (hb hby own_d1_21) rfl rfl ?_
      refine own_aloadN (pc' := 23) X0 hx (hb hby own_d1_22) rfl rfl rfl ?_
      refine own_iconst (pc' := 24) (z := (2 : Int32)) X0 hx (hb hby own_d1_23) rfl rfl ?_
      refine own_iload (pc' := 26) X0 hx (hb hby own_d1_24) rfl rfl ?_
      refine own_imul (pc' := 27) (z := (4 : Int32)) X0 hx (hb hby own_d1_26) rfl (by decide) ?_
      refine own_iaload (pc' := 28) X0 hx hZ e0 V0 (hb hby own_d1_27) rfl (by decide) rfl ?_
      by_cases hc28_35 : x < l2
      · refine own_icmpNo (pc' := 31) X0 hx (hb hby own_d1_28) rfl (tlt hc28_35).2.1 ?_
        refine own_iload (pc' := 33) X0 hx (hb hby own_d1_31) rfl rfl ?_
        refine own_iconst (pc' := 34) (z := (1 : Int32)) X0 hx (hb hby own_d1_33) rfl rfl ?_
        refine own_isub (pc' := 35) (z := (1 : Int32)) X0 hx (hb hby own_d1_34) rfl (by decide) ?_
        refine own_istoreN (pc' := 36) (l' := #[.val (.ref r), .val (.int x), .val (.int (2 : Int32)), .val (.int (1 : Int32)), .val (.int (2 : Int32))]) X0 hx (hb hby own_d1_35) rfl rfl ?_
        refine own_goto (pc' := 61) X0 hx (hb hby own_d1_36) (by decide) (by decide) ?_
        refine own_goto (pc' := 9) X0 hx (hb hby own_d1_61) (by decide) (by decide) ?_
        refine own_iloadN (pc' := 10) X0 hx (hb hby own_d1_9) rfl rfl ?_
        refine own_iloadN (pc' := 11) X0 hx (hb hby own_d1_10) rfl rfl ?_
        refine own_icmpYes (pc' := 64) X0 hx (hb hby own_d1_11) (tlt (by decide)).2.2.1 (by decide) (by decide) ?_
        refine own_iconst (pc' := 65) (z := (0 : Int32)) X0 hx (hb hby own_d1_64) rfl rfl ?_
        refine own_retN X0 hx hlk hret (by simp) (hb hby own_d1_65) (by decide) (by decide) ?_
        have i_hc28_31 : l1.toInt ≤ x.toInt := own_i2 hc28_31
        have i_hc48_34 : u1.toInt < x.toInt := own_i1 hc48_34
        have i_hc28_35 : x.toInt < l2.toInt := own_i1 hc28_35
        refine ⟨own_some ?_, N0, e0⟩
        rw [own_nb0]; unfold own_c3
        split <;> first | rfl | (exfalso; omega)
      · refine own_icmpYes (pc' := 39) X0 hx (hb hby own_d1_28) (flt hc28_35).2.1 (by decide) (by decide) ?_
        refine own_iloadN (pc' := 40) X0 hx (hb hby own_d1_39) rfl rfl ?_
        refine own_aloadN (pc' := 41) X0 hx (hb hby own_d1_40) rfl rfl rfl ?_
        refine own_iconst (pc' := 42) (z := (2 : Int32)) X0 hx (hb hby own_d1_41) rfl rfl ?_
        refine own_iload (pc' := 44) X0 hx (hb hby own_d1_42) rfl rfl ?_
        refine own_imul (pc' := 45) (z := (4 : Int32)) X0 hx (hb hby own_d1_44) rfl (by decide) ?_
        refine own_iconst (pc' := 46) (z := (1 : Int32)) X0 hx (hb hby own_d1_45) rfl rfl ?_
        refine own_iadd (pc' := 47) (z := (5 : Int32)) X0 hx (hb hby own_d1_46) rfl (by decide) ?_
        refine own_iaload (pc' := 48) X0 hx hZ e0 V0 (hb hby own_d1_47) rfl (by decide) rfl ?_
        by_cases hc48_36 : u2 < x
        · refine own_icmpNo (pc' := 51) X0 hx (hb hby own_d1_48) rfl (tlt hc48_36).2.2.2 ?_
          refine own_iload (pc' := 53) X0 hx (hb hby own_d1_51) rfl rfl ?_
          refine own_iconst (pc' := 54) (z := (1 : Int32)) X0 hx (hb hby own_d1_53) rfl rfl ?_
          refine own_iadd (pc' := 55) (z := (3 : Int32)) X0 hx (hb hby own_d1_54) rfl (by decide) ?_
          refine own_istoreN (pc' := 56) (l' := #[.val (.ref r), .val (.int x), .val (.int (3 : Int32)), .val (.int (2 : Int32)), .val (.int (2 : Int32))]) X0 hx (hb hby own_d1_55) rfl rfl ?_
          refine own_goto (pc' := 61) X0 hx (hb hby own_d1_56) (by decide) (by decide) ?_
          refine own_goto (pc' := 9) X0 hx (hb hby own_d1_61) (by decide) (by decide) ?_
          refine own_iloadN (pc' := 10) X0 hx (hb hby own_d1_9) rfl rfl ?_
          refine own_iloadN (pc' := 11) X0 hx (hb hby own_d1_10) rfl rfl ?_
          refine own_icmpYes (pc' := 64) X0 hx (hb hby own_d1_11) (tlt (by decide)).2.2.1 (by decide) (by decide) ?_
          refine own_iconst (pc' := 65) (z := (0 : Int32)) X0 hx (hb hby own_d1_64) rfl rfl ?_
          refine own_retN X0 hx hlk hret (by simp) (hb hby own_d1_65) (by decide) (by decide) ?_
          have i_hc28_31 : l1.toInt ≤ x.toInt := own_i2 hc28_31
          have i_hc48_34 : u1.toInt < x.toInt := own_i1 hc48_34
          have i_hc28_35 : l2.toInt ≤ x.toInt := own_i2 hc28_35
          have i_hc48_36 : u2.toInt < x.toInt := own_i1 hc48_36
          refine ⟨own_some ?_, N0, e0⟩
          rw [own_nb0]; unfold own_c3
          split <;> first | rfl | (exfalso; omega)
        · refine own_icmpYes (pc' := 59) X0 hx (hb hby own_d1_48) (flt hc48_36).2.2.2 (by decide) (by decide) ?_
          refine own_iconst (pc' := 60) (z := (1 : Int32)) X0 hx (hb hby own_d1_59) rfl rfl ?_
          refine own_retN X0 hx hlk hret (by simp) (hb hby own_d1_60) (by decide) (by decide) ?_
          have i_hc28_31 : l1.toInt ≤ x.toInt := own_i2 hc28_31
          have i_hc48_34 : u1.toInt < x.toInt := own_i1 hc48_34
          have i_hc28_35 : l2.toInt ≤ x.toInt := own_i2 hc28_35
          have i_hc48_36 : x.toInt ≤ u2.toInt := own_i2 hc48_36
          refine ⟨own_some ?_, N0, e0⟩
          rw [own_nb1]; unfold own_c3
          split <;> first | rfl | (exfalso; omega)
    · refine own_icmpYes (pc' := 59) X0 hx (hb hby own_d1_48) (flt hc48_34).2.2.2 (by decide) (by decide) ?_
      refine own_iconst (pc' := 60) (z := (1 : Int32)) X0 hx (hb hby own_d1_59) rfl rfl ?_
      refine own_retN X0 hx hlk hret (by simp) (hb hby own_d1_60) (by decide) (by decide) ?_
      have i_hc28_31 : l1.toInt ≤ x.toInt := own_i2 hc28_31
      have i_hc48_34 : x.toInt ≤ u1.toInt := own_i2 hc48_34
      refine ⟨own_some ?_, N0, e0⟩
      rw [own_nb1]; unfold own_c3
      split <;> first | rfl | (exfalso; omega)
def own_room1_4 : Room := { frames := 0, cells := 0, slots := 0, locals := 0 }
def own_Q1_4 (Z : State) (r : Addr) (x : Int32) (k : ClassId) (l0 : Int32) (u0 : Int32) (l1 : Int32) (u1 : Int32) (l2 : Int32) (u2 : Int32) (l3 : Int32) (u3 : Int32) (h0 : Heap) (n0 : Nat) (v : Option Value) (h : Heap) (L : List Loc) : Prop := v = some (.int (own_c4 x l0 u0 l1 u1 l2 u2 l3 u3)) ∧ Fr n0 L ∧ h = h0
theorem own_ef_rm1_4 (m : MethodId) (x0 : Addr) (x1 : Int32) : entryFrame m #[(.ref x0), (.int x1)] 5 = mkF m 0 #[.val (.ref x0), .val (.int x1), .unset, .unset, .unset] [] := by first | (simp [entryFrame, mkF, argsToLocals, Value.category]; done) | rfl
set_option maxRecDepth 65536 in
set_option maxHeartbeats 40000000 in
theorem own_rm1_4 (l : Launch) (Z : State) (a0 : Array Value) (hw : ∀ d ∈ tables_1, d.before a0 Z = true) (ws : List Jvm.Cond) (r : Addr) (x : Int32) (k : ClassId) (l0 : Int32) (u0 : Int32) (l1 : Int32) (u1 : Int32) (l2 : Int32) (u2 : Int32) (l3 : Int32) (u3 : Int32) (h0 : Heap) (n0 : Nat) (V0 : Arv Z h0 r k .int (8 : Int32) [(.int l0), (.int u0), (.int l1), (.int u1), (.int l2), (.int u2), (.int l3), (.int u3)] (.int (0 : Int32))) (ho0 : l0.toInt ≤ u0.toInt) (ho1 : u0.toInt < l1.toInt) (ho2 : l1.toInt ≤ u1.toInt) (ho3 : u1.toInt < l2.toInt) (ho4 : l2.toInt ≤ u2.toInt) (ho5 : u2.toInt < l3.toInt) (ho6 : l3.toInt ≤ u3.toInt) :
    MetFree l (⟨"com/example/exacting_validator/exactingvalidator/pattern/CodePointSets", "contains", "([II)Z"⟩ : MethodName) (head1 (Jvm.Cond.code (⟨"com/example/exacting_validator/exactingvalidator/pattern/CodePointSets", "contains", "([II)Z"⟩ : MethodName) prog_3_method_4_code 5 (some .boolean) :: ws) own_room1_4) (fun zz U => zz = #[(.ref r), (.int x)] ∧ Z.Warmed39 U.vm ∧ U.heap = h0) (fun _ _ _ _ _ => True) (fun _ U o U' => ∃ v L, o = .returned v ∧ own_Q1_4 Z r x k l0 u0 l1 u1 l2 u2 l3 u3 h0 n0 v U'.heap L ∧ FrameEnd U o U' L own_room1_4.cells own_room1_4.slots) := by
  refine MetFree.of_bodySF (plainFor_of_name own_pn1) hisR ?_
  intro p e s m args below meth c s₁ Bd hml0 hP hK
  obtain ⟨rfl, hZ, hh⟩ := hP
  have hx := Bd.exec
  have hby := Bd.bytes
  have hml : c.maxLocals = 5 := hml0
  have hown : s.vm.findClass "com/example/exacting_validator/exactingvalidator/pattern/CodePointSets" = some m.cls := findClass_of_methodNamed Bd.named
  have hnm := (name_of_methodNamed Bd.named Bd.method).1
  have hlk : meth.locks = false := BodyLoose.notSynchronized Bd
  have hret := Bd.returns
  have X0 : Stand p l e own_room1_4 s m #[(.ref r), (.int x)] below meth c s₁ [] 0 0 := Stand.of_body Bd
  have e0 : s₁.heap = h0 := by rw [← hh, Bd.state]; rfl
  have N0 := Fr.nil n0
  show own_Ends p e below s (own_Q1_4 Z r x k l0 u0 l1 u1 l2 u2 l3 u3 h0 n0) own_room1_4.cells own_room1_4.slots s₁ (entryFrame m #[(.ref r), (.int x)] 5)
  refine own_cast (own_ef_rm1_4 m r x) ?_
  refine own_iconst (pc' := 1) (z := (0 : Int32)) X0 hx (hb hby own_d1_0) rfl rfl ?_
  refine own_istoreN (pc' := 2) (l' := #[.val (.ref r), .val (.int x), .val (.int (0 : Int32)), .unset, .unset]) X0 hx (hb hby own_d1_1) rfl rfl ?_
  refine own_aloadN (pc' := 3) X0 hx (hb hby own_d1_2) rfl rfl rfl ?_
  refine own_alen (pc' := 4) X0 hx hZ e0 V0 (hb hby own_d1_3) rfl ?_
  refine own_iconst (pc' := 5) (z := (2 : Int32)) X0 hx (hb hby own_d1_4) rfl rfl ?_
  refine own_idiv (pc' := 6) (z := (4 : Int32)) X0 hx (hb hby own_d1_5) rfl (by decide) (by decide) ?_
  refine own_iconst (pc' := 7) (z := (1 : Int32)) X0 hx (hb hby own_d1_6) rfl rfl ?_
  refine own_isub (pc' := 8) (z := (3 : Int32)) X0 hx (hb hby own_d1_7) rfl (by decide) ?_
  refine own_istoreN (pc' := 9) (l' := #[.val (.ref r), .val (.int x), .val (.int (0 : Int32)), .val (.int (3 : Int32)), .unset]) X0 hx (hb hby own_d1_8) rfl rfl ?_
  refine own_iloadN (pc' := 10) X0 hx (hb hby own_d1_9) rfl rfl ?_
  refine own_iloadN (pc' := 11) X0 hx (hb hby own_d1_10) rfl rfl ?_
  refine own_icmpNo (pc' := 14) X0 hx (hb hby own_d1_11) rfl (flt (by decide)).2.2.1 ?_
  refine own_iloadN (pc' := 15) X0 hx (hb hby own_d1_14) rfl rfl ?_
  refine own_iloadN (pc' := 16) X0 hx (hb hby own_d1_15) rfl rfl ?_
  refine own_iadd (pc' := 17) (z := (3 : Int32)) X0 hx (hb hby own_d1_16) rfl (by decide) ?_
  refine own_iconst (pc' := 18) (z := (1 : Int32)) X0 hx (hb hby own_d1_17) rfl rfl ?_
  refine own_iushr (pc' := 19) (z := (1 : Int32)) X0 hx (hb hby own_d1_18) rfl (by decide) ?_
  refine own_istore (pc' := 21) (l' := #[.val (.ref r), .val (.int x), .val (.int (0 : Int32)), .val (.int (3 : Int32)), .val (.int (1 : Int32))]) X0 hx (hb hby own_d1_19) rfl rfl ?_
  refine own_iloadN (pc' := 22) X0 hx (hb hby own_d1_21) rfl rfl ?_
  refine own_aloadN (pc' := 23) X0 hx (hb hby own_d1_22) rfl rfl rfl ?_
  refine own_iconst (pc' := 24) (z := (2 : Int32)) X0 hx (hb hby own_d1_23) rfl rfl ?_
  refine own_iload (pc' := 26) X0 hx (hb hby own_d1_24) rfl rfl ?_
  refine own_imul (pc' := 27) (z := (2 : Int32)) X0 hx (hb hby own_d1_26) rfl (by decide) ?_
  refine own_iaload (pc' := 28) X0 hx hZ e0 V0 (hb hby own_d1_27) rfl (by decide) rfl ?_
  by_cases hc28_31 : x < l1
  · refine own_icmpNo (pc' := 31) X0 hx (hb hby own_d1_28) rfl (tlt hc28_31).2.1 ?_
    refine own_iload (pc' := 33) X0 hx (hb hby own_d1_31) rfl rfl ?_
    refine own_iconst (pc' := 34) (z := (1 : Int32)) X0 hx (hb hby own_d1_33) rfl rfl ?_
    refine own_isub (pc' := 35) (z := (0 : Int32)) X0 hx (hb hby own_d1_34) rfl (by decide) ?_
    refine own_istoreN (pc' := 36) (l' := #[.val (.ref r), .val (.int x), .val (.int (0 : Int32)), .val (.int (0 : Int32)), .val (.int (1 : Int32))]) X0 hx (hb hby own_d1_35) rfl rfl ?_
    refine own_goto (pc' := 61) X0 hx (hb hby own_d1_36) (by decide) (by decide) ?_
    refine own_goto (pc' := 9) X0 hx (hb hby own_d1_61) (by decide) (by decide) ?_
    refine own_iloadN (pc' := 10) X0 hx (hb hby own_d1_9) rfl rfl ?_
    refine own_iloadN (pc' := 11) X0 hx (hb hby own_d1_10) rfl rfl ?_
    refine own_icmpNo (pc' := 14) X0 hx (hb hby own_d1_11) rfl (flt (by decide)).2.2.1 ?_
    refine own_iloadN (pc' := 15) X0 hx (hb hby own_d1_14) rfl rfl ?_
    refine own_iloadN (pc' := 16) X0 hx (hb hby own_d1_15) rfl rfl ?_
    refine own_iadd (pc' := 17) (z := (0 : Int32)) X0 hx (hb hby own_d1_16) rfl (by decide) ?_
    refine own_iconst (pc' := 18) (z := (1 : Int32)) X0 hx (hb hby own_d1_17) rfl rfl ?_
    refine own_iushr (pc' := 19) (z := (0 : Int32)) X0 hx (hb hby own_d1_18) rfl (by decide) ?_
    refine own_istore (pc' := 21) (l' := #[.val (.ref r), .val (.int x), .val (.int (0 : Int32)), .val (.int (0 : Int32)), .val (.int (0 : Int32))]) X0 hx (hb hby own_d1_19) rfl rfl ?_
    refine own_iloadN (pc' := 22) X0 hx (hb hby own_d1_21) rfl rfl ?_
    refine own_aloadN (pc' := 23) X0 hx (hb hby own_d1_22) rfl rfl rfl ?_
    refine own_iconst (pc' := 24) (z := (2 : Int32)) X0 hx (hb hby own_d1_23) rfl rfl ?_
    refine own_iload (pc' := 26) X0 hx (hb hby own_d1_24) rfl rfl ?_
    refine own_imul (pc' := 27) (z := (0 : Int32)) X0 hx (hb hby own_d1_26) rfl (by decide) ?_
    refine own_iaload (pc' := 28) X0 hx hZ e0 V0 (hb hby own_d1_27) rfl (by decide) rfl ?_
    by_cases hc28_32 : x < l0
    · refine own_icmpNo (pc' := 31) X0 hx (hb hby own_d1_28) rfl (tlt hc28_32).2.1 ?_
      refine own_iload (pc' := 33) X0 hx (hb hby own_d1_31) rfl rfl ?_
      refine own_iconst (pc' := 34) (z := (1 : Int32)) X0 hx (hb hby own_d1_33) rfl rfl ?_
      refine own_isub (pc' := 35) (z := (-1 : Int32)) X0 hx (hb hby own_d1_34) rfl (by decide) ?_
      refine own_istoreN (pc' := 36) (l' := #[.val (.ref r), .val (.int x), .val (.int (0 : Int32)), .val (.int (-1 : Int32)), .val (.int (0 : Int32))]) X0 hx (hb hby own_d1_35) rfl rfl ?_
      refine own_goto (pc' := 61) X0 hx (hb hby own_d1_36) (by decide) (by decide) ?_
      refine own_goto (pc' := 9) X0 hx (hb hby own_d1_61) (by decide) (by decide) ?_
      refine own_iloadN (pc' := 10) X0 hx (hb hby own_d1_9) rfl rfl ?_
      refine own_iloadN (pc' := 11) X0 hx (hb hby own_d1_10) rfl rfl ?_
      refine own_icmpYes (pc' := 64) X0 hx (hb hby own_d1_11) (tlt (by decide)).2.2.1 (by decide) (by decide) ?_
      refine own_iconst (pc' := 65) (z := (0 : Int32)) X0 hx (hb hby own_d1_64) rfl rfl ?_
      refine own_retN X0 hx hlk hret (by simp) (hb hby own_d1_65) (by decide) (by decide) ?_
      have i_hc28_31 : x.toInt < l1.toInt := own_i1 hc28_31
      have i_hc28_32 : x.toInt < l0.toInt := own_i1 hc28_32
      refine ⟨own_some ?_, N0, e0⟩
      rw [own_nb0]; unfold own_c4
      split <;> first | rfl | (exfalso; omega)
    · refine own_icmpYes (pc' := 39) X0 hx (hb hby own_d1_28) (flt hc28_32).2.1 (by decide) (by decide) ?_
      refine own_iloadN (pc' := 40) X0 hx (hb hby own_d1_39) rfl rfl ?_
      refine own_aloadN (pc' := 41) X0 hx (hb hby own_d1_40) rfl rfl rfl ?_
      refine own_iconst (pc' := 42) (z := (2 : Int32)) X0 hx (hb hby own_d1_41) rfl rfl ?_
      refine own_iload (pc' := 44) X0 hx (hb hby own_d1_42) rfl rfl ?_
      refine own_imul (pc' := 45) (z := (0 : Int32)) X0 hx (hb hby own_d1_44) rfl (by decide) ?_
      refine own_iconst (pc' := 46) (z := (1 : Int32)) X0 hx (hb hby own_d1_45) rfl rfl ?_
      refine own_iadd (pc' := 47) (z := (1 : Int32)) X0 hx (hb hby own_d1_46) rfl (by decide) ?_
      refine own_iaload (pc' := 48) X0 hx hZ e0 V0 (hb hby own_d1_47) rfl (by decide) rfl ?_
      by_cases hc48_33 : u0 < x
      · refine own_icmpNo (pc' := 51) X0 hx (hb hby own_d1_48) rfl (tlt hc48_33).2.2.2 ?_
        refine own_iload (pc' := 53) X0 hx (hb hby own_d1_51) rfl rfl ?_
        refine own_iconst (pc' := 54) (z := (1 : Int32)) X0 hx (hb hby own_d1_53) rfl rfl ?_
        refine own_iadd (pc' := 55) (z := (1 : Int32)) X0 hx (hb hby own_d1_54) rfl (by decide) ?_
        refine own_istoreN (pc' := 56) (l' := #[.val (.ref r), .val (.int x), .val (.int (1 : Int32)), .val (.int (0 : Int32)), .val (.int (0 : Int32))]) X0 hx (hb hby own_d1_55) rfl rfl ?_
        refine own_goto (pc' := 61) X0 hx (hb hby own_d1_56) (by decide) (by decide) ?_
        refine own_goto (pc' := 9) X0 hx (hb hby own_d1_61) (by decide) (by decide) ?_
        refine own_iloadN (pc' := 10) X0 hx (hb hby own_d1_9) rfl rfl ?_
        refine own_iloadN (pc' := 11) X0 hx (hb hby own_d1_10) rfl rfl ?_
        refine own_icmpYes (pc' := 64) X0 hx (hb hby own_d1_11) (tlt (by decide)).2.2.1 (by decide) (by decide) ?_
        refine own_iconst (pc' := 65) (z := (0 : Int32)) X0 hx (hb hby own_d1_64) rfl rfl ?_
        refine own_retN X0 hx hlk hret (by simp) (hb hby own_d1_65) (by decide) (by decide) ?_
        have i_hc28_31 : x.toInt < l1.toInt := own_i1 hc28_31
        have i_hc28_32 : l0.toInt ≤ x.toInt := own_i2 hc28_32
        have i_hc48_33 : u0.toInt < x.toInt := own_i1 hc48_33
        refine ⟨own_some ?_, N0, e0⟩
        rw [own_nb0]; unfold own_c4
        split <;> first | rfl | (exfalso; omega)
      · refine own_icmpYes (pc' := 59) X0 hx (hb hby own_d1_48) (flt hc48_33).2.2.2 (by decide) (by decide) ?_
        refine own_iconst (pc' := 60) (z := (1 : Int32)) X0 hx (hb hby own_d1_59) rfl rfl ?_
        refine own_retN X0 hx hlk hret (by simp) (hb hby own_d1_60) (by decide) (by decide) ?_
        have i_hc28_31 : x.toInt < l1.toInt := own_i1 hc28_31
        have i_hc28_32 : l0.toInt ≤ x.toInt := own_i2 hc28_32
        have i_hc48_33 : x.toInt ≤ u0.toInt := own_i2 hc48_33
        refine ⟨own_some ?_, N0, e0⟩
        rw [own_nb1]; unfold own_c4
        split <;> first | rfl | (exfalso; omega)
  · refine own_icmpYes (pc' := 39) X0 hx (hb hby own_d1_28) (flt hc28_31).2.1 (by decide) (by decide) ?_
    refine own_iloadN (pc' := 40) X0 hx (hb hby own_d1_39) rfl rfl ?_
    refine own_aloadN (pc' := 41) X0 hx (hb hby own_d1_40) rfl rfl rfl ?_
    refine own_iconst (pc' := 42) (z := (2 : Int32)) X0 hx (hb hby own_d1_41) rfl rfl ?_
    refine own_iload (pc' := 44) X0 hx (hb hby own_d1_42) rfl rfl ?_
    refine own_imul (pc' := 45) (z := (2 : Int32)) X0 hx (hb hby own_d1_44) rfl (by decide) ?_
    refine own_iconst (pc' := 46) (z := (1 : Int32)) X0 hx (hb hby own_d1_45) rfl rfl ?_
    refine own_iadd (pc' := 47) (z := (3 : Int32)) X0 hx (hb hby own_d1_46) rfl (by decide) ?_
    refine own_iaload (pc' := 48) X0 hx hZ e0 V0 (hb hby own_d1_47) rfl (by decide) rfl ?_
    by_cases hc48_34 : u1 < x
    · refine own_icmpNo (pc' := 51) X0 hx (hb hby own_d1_48) rfl (tlt hc48_34).2.2.2 ?_
      refine own_iload (pc' := 53) X0 hx (hb hby own_d1_51) rfl rfl ?_
      refine own_iconst (pc' := 54) (z := (1 : Int32)) X0 hx (hb hby own_d1_53) rfl rfl ?_
      refine own_iadd (pc' := 55) (z := (2 : Int32)) X0 hx (hb hby own_d1_54) rfl (by decide) ?_
      refine own_istoreN (pc' := 56) (l' := #[.val (.ref r), .val (.int x), .val (.int (2 : Int32)), .val (.int (3 : Int32)), .val (.int (1 : Int32))]) X0 hx (hb hby own_d1_55) rfl rfl ?_
      refine own_goto (pc' := 61) X0 hx (hb hby own_d1_56) (by decide) (by decide) ?_
      refine own_goto (pc' := 9) X0 hx (hb hby own_d1_61) (by decide) (by decide) ?_
      refine own_iloadN (pc' := 10) X0 hx (hb hby own_d1_9) rfl rfl ?_
      refine own_iloadN (pc' := 11) X0 hx (hb hby own_d1_10) rfl rfl ?_
      refine own_icmpNo (pc' := 14) X0 hx (hb hby own_d1_11) rfl (flt (by decide)).2.2.1 ?_
      refine own_iloadN (pc' := 15) X0 hx (hb hby own_d1_14) rfl rfl ?_
      refine own_iloadN (pc' := 16) X0 hx (hb hby own_d1_15) rfl rfl ?_
      refine own_iadd (pc' := 17) (z := (5 : Int32)) X0 hx (hb hby own_d1_16) rfl (by decide) ?_
      refine own_iconst (pc' := 18) (z := (1 : Int32)) X0 hx (hb hby own_d1_17) rfl rfl ?_
      refine own_iushr (pc' := 19) (z := (2 : Int32)) X0 hx (hb hby own_d1_18) rfl (by decide) ?_
      refine own_istore (pc' := 21) (l' := #[.val (.ref r), .val (.int x), .val (.int (2 : Int32)), .val (.int (3 : Int32)), .val (.int (2 : Int32))]) X0 hx (hb hby own_d1_19) rfl rfl ?_
      refine own_iloadN (pc' := 22) X0 hx (hb hby own_d1_21) rfl rfl ?_
      refine own_aloadN (pc' := 23) X0 hx (hb hby own_d1_22) rfl rfl rfl ?_
      refine own_iconst (pc' := 24) (z := (2 : Int32)) X0 hx (hb hby own_d1_23) rfl rfl ?_
      refine own_iload (pc' := 26) X0 hx (hb hby own_d1_24) rfl rfl ?_
      refine own_imul (pc' := 27) (z := (4 : Int32)) X0 hx (hb hby own_d1_26) rfl (by decide) ?_
      refine own_iaload (pc' := 28) X0 hx hZ e0 V0 (hb hby own_d1_27) rfl (by decide) rfl ?_
      by_cases hc28_35 : x < l2
      · refine own_icmpNo (pc' := 31) X0 hx (hb hby own_d1_28) rfl (tlt hc28_35).2.1 ?_
        refine own_iload (pc' := 33) X0 hx (hb hby own_d1_31) rfl rfl ?_
        refine own_iconst (pc' := 34) (z := (1 : Int32)) X0 hx (hb hby own_d1_33) rfl rfl ?_
        refine own_isub (pc' := 35) (z := (1 : Int32)) X0 hx (hb hby own_d1_34) rfl (by decide) ?_
        refine own_istoreN (pc' := 36) (l' := #[.val (.ref r), .val (.int x), .val (.int (2 : Int32)), .val (.int (1 : Int32)), .val (.int (2 : Int32))]) X0 hx (hb hby own_d1_35) rfl rfl ?_
        refine own_goto (pc' := 61) X0 hx (hb hby own_d1_36) (by decide) (by decide) ?_
        refine own_goto (pc' := 9) X0 hx (hb hby own_d1_61) (by decide) (by decide) ?_
        refine own_iloadN (pc' := 10) X0 hx (hb hby own_d1_9) rfl rfl ?_
        refine own_iloadN (pc' := 11) X0 hx (hb hby own_d1_10) rfl rfl ?_
        refine own_icmpYes (pc' := 64) X0 hx (hb hby own_d1_11) (tlt (by decide)).2.2.1 (by decide) (by decide) ?_
        refine own_iconst (pc' := 65) (z := (0 : Int32)) X0 hx (hb hby own_d1_64) rfl rfl ?_
        refine own_retN X0 hx hlk hret (by simp) (hb hby own_d1_65) (by decide) (by decide) ?_
        have i_hc28_31 : l1.toInt ≤ x.toInt := own_i2 hc28_31
        have i_hc48_34 : u1.toInt < x.toInt := own_i1 hc48_34
        have i_hc28_35 : x.toInt < l2.toInt := own_i1 hc28_35
        refine ⟨own_some ?_, N0, e0⟩
        rw [own_nb0]; unfold own_c4
        split <;> first | rfl | (exfalso; omega)
      · refine own_icmpYes (pc' := 39) X0 hx (hb hby own_d1_28) (flt hc28_35).2.1 (by decide) (by decide) ?_
        refine own_iloadN (pc' := 40) X0 hx (hb hby own_d1_39) rfl rfl ?_
        refine own_aloadN (pc' := 41) X0 hx (hb hby own_d1_40) rfl rfl rfl ?_
        refine own_iconst (pc' := 42) (z := (2 : Int32)) X0 hx (hb hby own_d1_41) rfl rfl ?_
        refine own_iload (pc' := 44) X0 hx (hb hby own_d1_42) rfl rfl ?_
        refine own_imul (pc' := 45) (z := (4 : Int32)) X0 hx (hb hby own_d1_44) rfl (by decide) ?_
        refine own_iconst (pc' := 46) (z := (1 : Int32)) X0 hx (hb hby own_d1_45) rfl rfl ?_
        refine own_iadd (pc' := 47) (z := (5 : Int32)) X0 hx (hb hby own_d1_46) rfl (by decide) ?_
        refine own_iaload (pc' := 48) X0 hx hZ e0 V0 (hb hby own_d1_47) rfl (by decide) rfl ?_
        by_cases hc48_36 : u2 < x
        · refine own_icmpNo (pc' := 51) X0 hx (hb hby own_d1_48) rfl (tlt hc48_36).2.2.2 ?_
          refine own_iload (pc' := 53) X0 hx (hb hby own_d1_51) rfl rfl ?_
          refine own_iconst (pc' := 54) (z := (1 : Int32)) X0 hx (hb hby own_d1_53) rfl rfl ?_
          refine own_iadd (pc' := 55) (z := (3 : Int32)) X0 hx (hb hby own_d1_54) rfl (by decide) ?_
          refine own_istoreN (pc' := 56) (l' := #[.val (.ref r), .val (.int x), .val (.int (3 : Int32)), .val (.int (3 : Int32)), .val (.int (2 : Int32))]) X0 hx (hb hby own_d1_55) rfl rfl ?_
          refine own_goto (pc' := 61) X0 hx (hb hby own_d1_56) (by decide) (by decide) ?_
          refine own_goto (pc' := 9) X0 hx (hb hby own_d1_61) (by decide) (by decide) ?_
          refine own_iloadN (pc' := 10) X0 hx (hb hby own_d1_9) rfl rfl ?_
          refine own_iloadN (pc' := 11) X0 hx (hb hby own_d1_10) rfl rfl ?_
          refine own_icmpNo (pc' := 14) X0 hx (hb hby own_d1_11) rfl (flt (by decide)).2.2.1 ?_
          refine own_iloadN (pc' := 15) X0 hx (hb hby own_d1_14) rfl rfl ?_
          refine own_iloadN (pc' := 16) X0 hx (hb hby own_d1_15) rfl rfl ?_
          refine own_iadd (pc' := 17) (z := (6 : Int32)) X0 hx (hb hby own_d1_16) rfl (by decide) ?_
          refine own_iconst (pc' := 18) (z := (1 : Int32)) X0 hx (hb hby own_d1_17) rfl rfl ?_
          refine own_iushr (pc' := 19) (z := (3 : Int32)) X0 hx (hb hby own_d1_18) rfl (by decide) ?_
          refine own_istore (pc' := 21) (l' := #[.val (.ref r), .val (.int x), .val (.int (3 : Int32)), .val (.int (3 : Int32)), .val (.int (3 : Int32))]) X0 hx (hb hby own_d1_19) rfl rfl ?_
          refine own_iloadN (pc' := 22) X0 hx (hb hby own_d1_21) rfl rfl ?_
          refine own_aloadN (pc' := 23) X0 hx (hb hby own_d1_22) rfl rfl rfl ?_
          refine own_iconst (pc' := 24) (z := (2 : Int32)) X0 hx (hb hby own_d1_23) rfl rfl ?_
          refine own_iload (pc' := 26) X0 hx (hb hby own_d1_24) rfl rfl ?_
          refine own_imul (pc' := 27) (z := (6 : Int32)) X0 hx (hb hby own_d1_26) rfl (by decide) ?_
          refine own_iaload (pc' := 28) X0 hx hZ e0 V0 (hb hby own_d1_27) rfl (by decide) rfl ?_
          by_cases hc28_37 : x < l3
          · refine own_icmpNo (pc' := 31) X0 hx (hb hby own_d1_28) rfl (tlt hc28_37).2.1 ?_
            refine own_iload (pc' := 33) X0 hx (hb hby own_d1_31) rfl rfl ?_
            refine own_iconst (pc' := 34) (z := (1 : Int32)) X0 hx (hb hby own_d1_33) rfl rfl ?_
            refine own_isub (pc' := 35) (z := (2 : Int32)) X0 hx (hb hby own_d1_34) rfl (by decide) ?_
            refine own_istoreN (pc' := 36) (l' := #[.val (.ref r), .val (.int x), .val (.int (3 : Int32)), .val (.int (2 : Int32)), .val (.int (3 : Int32))]) X0 hx (hb hby own_d1_35) rfl rfl ?_
            refine own_goto (pc' := 61) X0 hx (hb hby own_d1_36) (by decide) (by decide) ?_
            refine own_goto (pc' := 9) X0 hx (hb hby own_d1_61) (by decide) (by decide) ?_
            refine own_iloadN (pc' := 10) X0 hx (hb hby own_d1_9) rfl rfl ?_
            refine own_iloadN (pc' := 11) X0 hx (hb hby own_d1_10) rfl rfl ?_
            refine own_icmpYes (pc' := 64) X0 hx (hb hby own_d1_11) (tlt (by decide)).2.2.1 (by decide) (by decide) ?_
            refine own_iconst (pc' := 65) (z := (0 : Int32)) X0 hx (hb hby own_d1_64) rfl rfl ?_
            refine own_retN X0 hx hlk hret (by simp) (hb hby own_d1_65) (by decide) (by decide) ?_
            have i_hc28_31 : l1.toInt ≤ x.toInt := own_i2 hc28_31
            have i_hc48_34 : u1.toInt < x.toInt := own_i1 hc48_34
            have i_hc28_35 : l2.toInt ≤ x.toInt := own_i2 hc28_35
            have i_hc48_36 : u2.toInt < x.toInt := own_i1 hc48_36
            have i_hc28_37 : x.toInt < l3.toInt := own_i1 hc28_37
            refine ⟨own_some ?_, N0, e0⟩
            rw [own_nb0]; unfold own_c4
            split <;> first | rfl | (exfalso; omega)
          · refine own_icmpYes (pc' := 39) X0 hx (hb hby own_d1_28) (flt hc28_37).2.1 (by decide) (by decide) ?_
            refine own_iloadN (pc' := 40) X0 hx (hb hby own_d1_39) rfl rfl ?_
            refine own_aloadN (pc' := 41) X0 hx (hb hby own_d1_40) rfl rfl rfl ?_
            refine own_iconst (pc' := 42) (z := (2 : Int32)) X0 hx (hb hby own_d1_41) rfl rfl ?_
            refine own_iload (pc' := 44) X0 hx (hb hby own_d1_42) rfl rfl ?_
            refine own_imul (pc' := 45) (z := (6 : Int32)) X0 hx (hb hby own_d1_44) rfl (by decide) ?_
            refine own_iconst (pc' := 46) (z := (1 : Int32)) X0 hx (hb hby own_d1_45) rfl rfl ?_
            refine own_iadd (pc' := 47) (z := (7 : Int32)) X0 hx (hb hby own_d1_46) rfl (by decide) ?_
            refine own_iaload (pc' := 48) X0 hx hZ e0 V0 (hb hby own_d1_47) rfl (by decide) rfl ?_
            by_cases hc48_38 : u3 < x
            · refine own_icmpNo (pc' := 51) X0 hx (hb hby own_d1_48) rfl (tlt hc48_38).2.2.2 ?_
              refine own_iload (pc' := 53) X0 hx (hb hby own_d1_51) rfl rfl ?_
              refine own_iconst (pc' := 54) (z := (1 : Int32)) X0 hx (hb hby own_d1_53) rfl rfl ?_
              refine own_iadd (pc' := 55) (z := (4 : Int32)) X0 hx (hb hby own_d1_54) rfl (by decide) ?_
              refine own_istoreN (pc' := 56) (l' := #[.val (.ref r), .val (.int x), .val (.int (4 : Int32)), .val (.int (3 : Int32)), .val (.int (3 : Int32))]) X0 hx (hb hby own_d1_55) rfl rfl ?_
              refine own_goto (pc' := 61) X0 hx (hb hby own_d1_56) (by decide) (by decide) ?_
              refine own_goto (pc' := 9) X0 hx (hb hby own_d1_61) (by decide) (by decide) ?_
              refine own_iloadN (pc' := 10) X0 hx (hb hby own_d1_9) rfl rfl ?_
              refine own_iloadN (pc' := 11) X0 hx (hb hby own_d1_10) rfl rfl ?_
              refine own_icmpYes (pc' := 64) X0 hx (hb hby own_d1_11) (tlt (by decide)).2.2.1 (by decide) (by decide) ?_
              refine own_iconst (pc' := 65) (z := (0 : Int32)) X0 hx (hb hby own_d1_64) rfl rfl ?_
              refine own_retN X0 hx hlk hret (by simp) (hb hby own_d1_65) (by decide) (by decide) ?_
              have i_hc28_31 : l1.toInt ≤ x.toInt := own_i2 hc28_31
              have i_hc48_34 : u1.toInt < x.toInt := own_i1 hc48_34
              have i_hc28_35 : l2.toInt ≤ x.toInt := own_i2 hc28_35
              have i_hc48_36 : u2.toInt < x.toInt := own_i1 hc48_36
              have i_hc28_37 : l3.toInt ≤ x.toInt := own_i2 hc28_37
              have i_hc48_38 : u3.toInt < x.toInt := own_i1 hc48_38
              refine ⟨own_some ?_, N0, e0⟩
              rw [own_nb0]; unfold own_c4
              split <;> first | rfl | (exfalso; omega)
            · refine own_icmpYes (pc' := 59) X0 hx (hb hby own_d1_48) (flt hc48_38).2.2.2 (by decide) (by decide) ?_
              refine own_iconst (pc' := 60) (z := (1 : Int32)) X0 hx (hb hby own_d1_59) rfl rfl ?_
              refine own_retN X0 hx hlk hret (by simp) (hb hby own_d1_60) (by decide) (by decide) ?_
              have i_hc28_31 : l1.toInt ≤ x.toInt := own_i2 hc28_31
              have i_hc48_34 : u1.toInt < x.toInt := own_i1 hc48_34
              have i_hc28_35 : l2.toInt ≤ x.toInt := own_i2 hc28_35
              have i_hc48_36 : u2.toInt < x.toInt := own_i1 hc48_36
              have i_hc28_37 : l3.toInt ≤ x.toInt := own_i2 hc28_37
              have i_hc48_38 : x.toInt ≤ u3.toInt := own_i2 hc48_38
              refine ⟨own_some ?_, N0, e0⟩
              rw [own_nb1]; unfold own_c4
              split <;> first | rfl | (exfalso; omega)
        · refine own_icmpYes (pc' := 59) X0 hx (hb hby own_d1_48) (flt hc48_36).2.2.2 (by decide) (by decide) ?_
          refine own_iconst (pc' := 60) (z := (1 : Int32)) X0 hx (hb hby own_d1_59) rfl rfl ?_
          refine own_retN X0 hx hlk hret (by simp) (hb hby own_d1_60) (by decide) (by decide) ?_
          have i_hc28_31 : l1.toInt ≤ x.toInt := own_i2 hc28_31
          have i_hc48_34 : u1.toInt < x.toInt := own_i1 hc48_34
          have i_hc28_35 : l2.toInt ≤ x.toInt := own_i2 hc28_35
          have i_hc48_36 : x.toInt ≤ u2.toInt := own_i2 hc48_36
          refine ⟨own_some ?_, N0, e0⟩
          rw [own_nb1]; unfold own_c4
          split <;> first | rfl | (exfalso; omega)
    · refine own_icmpYes (pc' := 59) X0 hx (hb hby own_d1_48) (flt hc48_34).2.2.2 (by decide) (by decide) ?_
      refine own_iconst (pc' := 60) (z := (1 : Int32)) X0 hx (hb hby own_d1_59) rfl rfl ?_
      refine own_retN X0 hx hlk hret (by simp) (hb hby own_d1_60) (by decide) (by decide) ?_
      have i_hc28_31 : l1.toInt ≤ x.toInt := own_i2 hc28_31
      have i_hc48_34 : x.toInt ≤ u1.toInt := own_i2 hc48_34
      refine ⟨own_some ?_, N0, e0⟩
      rw [own_nb1]; unfold own_c4
      split <;> first | rfl | (exfalso; omega)
def own_Q0 (Z : State) (p0 : Int32) (p1 : Int32) (p2 : Int32) (p3 : Int32) (p4 : Int32) (h0 : Heap) (n0 : Nat) (v : Option Value) (h : Heap) (L : List Loc) : Prop := v = some (.int 1) ∧ Fr n0 L
theorem own_ef_rm0 (m : MethodId) (x0 : Int32) (x1 : Int32) (x2 : Int32) (x3 : Int32) (x4 : Int32) : entryFrame m #[(.int x0), (.int x1), (.int x2), (.int x3), (.int x4)] maxLocals = mkF m 0 #[.val (.int x0), .val (.int x1), .val (.int x2), .val (.int x3), .val (.int x4), .unset, .unset, .unset, .unset, .unset, .unset, .unset, .unset, .unset, .unset, .unset, .unset, .unset] [] := by first | (simp [entryFrame, mkF, argsToLocals, Value.category, maxLocals]; done) | rfl
set_option maxRecDepth 65536 in
set_option maxHeartbeats 40000000 in
theorem own_rm0 (l : Launch) (Z : State) (a0 : Array Value) (hw : ∀ d ∈ tables_1, d.before a0 Z = true) (ws : List Jvm.Cond) (p0 : Int32) (p1 : Int32) (p2 : Int32) (p3 : Int32) (p4 : Int32) (h0 : Heap) (n0 : Nat) (Z0 : n0 ≤ h0.size) :
    MetFree l x (head1 (Jvm.Cond.code x code maxLocals ret :: ws) room_1) (fun zz U => zz = #[(.int p0), (.int p1), (.int p2), (.int p3), (.int p4)] ∧ Z.Warmed39 U.vm ∧ U.heap = h0) (fun _ _ _ _ _ => True) (fun _ U o U' => ∃ v L, o = .returned v ∧ own_Q0 Z p0 p1 p2 p3 p4 h0 n0 v U'.heap L ∧ FrameEnd U o U' L 16 128) := by
  refine MetFree.of_bodySF (plainFor_of_name own_pn0) hisR ?_
  intro p e s m args below meth c s₁ Bd hml0 hP hK
  obtain ⟨rfl, hZ, hh⟩ := hP
  have hx := Bd.exec
  have hby := Bd.bytes
  have hml : c.maxLocals = 18 := hml0
  have hown : s.vm.findClass "com/example/exacting_validator/exactingvalidator/pattern/CodePointSetsContainsPinLaw" = some m.cls := findClass_of_methodNamed Bd.named
  have hnm := (name_of_methodNamed Bd.named Bd.method).1
  have hlk : meth.locks = false := BodyLoose.notSynchronized Bd
  have hret := Bd.returns
  have X0 : Stand p l e room_1 s m #[(.int p0), (.int p1), (.int p2), (.int p3), (.int p4)] below meth c s₁ [] 0 0 := Stand.of_body Bd
  have e0 : s₁.heap = h0 := by rw [← hh, Bd.state]; rfl
  have N0 := Fr.nil n0
  show own_Ends p e below s (own_Q0 Z p0 p1 p2 p3 p4 h0 n0) 16 128 s₁ (entryFrame m #[(.int p0), (.int p1), (.int p2), (.int p3), (.int p4)] maxLocals)
  refine own_cast (own_ef_rm0 m p0 p1 p2 p3 p4) ?_
  refine own_iloadN (pc' := 1) X0 hx (hb hby at_0) rfl rfl ?_
  refine own_bipush (pc' := 3) (z := (7 : Int32)) X0 hx (hb hby at_1) rfl rfl ?_
  refine own_iand (pc' := 4) (z := (p0 &&& (7 : Int32))) X0 hx (hb hby at_3) rfl rfl ?_
  refine own_iconst (pc' := 5) (z := (5 : Int32)) X0 hx (hb hby at_4) rfl rfl ?_
  obtain ⟨n31, hn31⟩ : ∃ z, ((p0 &&& (7 : Int32)) % (5 : Int32)) = z := ⟨_, rfl⟩
  refine own_irem (pc' := 6) (z := n31) X0 hx (hb hby at_5) rfl (by decide) hn31 ?_
  refine own_istore (pc' := 8) (l' := #[.val (.int p0), .val (.int p1), .val (.int p2), .val (.int p3), .val (.int p4), .val (.int n31), .unset, .unset, .unset, .unset, .unset, .unset, .unset, .unset, .unset, .unset, .unset, .unset]) X0 hx (hb hby at_6) rfl rfl ?_
  refine own_iloadN (pc' := 9) X0 hx (hb hby at_8) rfl rfl ?_
  refine own_iconst (pc' := 10) (z := (3 : Int32)) X0 hx (hb hby at_9) rfl rfl ?_
  refine own_iushr (pc' := 11) (z := (own_ushr p0 (3 : Int32))) X0 hx (hb hby at_10) rfl rfl ?_
  refine own_iconst (pc' := 12) (z := (1 : Int32)) X0 hx (hb hby at_11) rfl rfl ?_
  refine own_iand (pc' := 13) (z := ((own_ushr p0 (3 : Int32)) &&& (1 : Int32))) X0 hx (hb hby at_12) rfl rfl ?_
  have K33 : ∀ (b32 : Int32), own_Ends p e below s (own_Q0 Z p0 p1 p2 p3 p4 h0 n0) 16 128 s₁ (mkF m 21 #[.val (.int p0), .val (.int p1), .val (.int p2), .val (.int p3), .val (.int p4), .val (.int n31), .unset, .unset, .unset, .unset, .unset, .unset, .unset, .unset, .unset, .unset, .unset, .unset] [(.int b32)]) := by
    intro b32
    refine own_istore (pc' := 23) (l' := #[.val (.int p0), .val (.int p1), .val (.int p2), .val (.int p3), .val (.int p4), .val (.int n31), .val (.int b32), .unset, .unset, .unset, .unset, .unset, .unset, .unset, .unset, .unset, .unset, .unset]) X0 hx (hb hby at_21) rfl rfl ?_
    refine own_iloadN (pc' := 24) X0 hx (hb hby at_23) rfl rfl ?_
    refine own_ldcI (pc' := 26) X0 hx hZ hown (own_w0 hw) (hb hby at_24) rfl ?_
    obtain ⟨l34, hl34⟩ : ∃ z, (p1 &&& (1048575 : Int32)) = z := ⟨_, rfl⟩
    refine own_iand (pc' := 27) (z := l34) X0 hx (hb hby at_26) rfl hl34 ?_
    refine own_istore (pc' := 29) (l' := #[.val (.int p0), .val (.int p1), .val (.int p2), .val (.int p3), .val (.int p4), .val (.int n31), .val (.int b32), .val (.int l34), .unset, .unset, .unset, .unset, .unset, .unset, .unset, .unset, .unset, .unset]) X0 hx (hb hby at_27) rfl rfl ?_
    refine own_iload (pc' := 31) X0 hx (hb hby at_29) rfl rfl ?_
    refine own_iloadN (pc' := 32) X0 hx (hb hby at_31) rfl rfl ?_
    refine own_sipush (pc' := 35) (z := (255 : Int32)) X0 hx (hb hby at_32) rfl rfl ?_
    refine own_iand (pc' := 36) (z := (p2 &&& (255 : Int32))) X0 hx (hb hby at_35) rfl rfl ?_
    obtain ⟨u35, hu35⟩ : ∃ z, (l34 + (p2 &&& (255 : Int32))) = z := ⟨_, rfl⟩
    refine own_iadd (pc' := 37) (z := u35) X0 hx (hb hby at_36) rfl hu35 ?_
    refine own_istore (pc' := 39) (l' := #[.val (.int p0), .val (.int p1), .val (.int p2), .val (.int p3), .val (.int p4), .val (.int n31), .val (.int b32), .val (.int l34), .val (.int u35), .unset, .unset, .unset, .unset, .unset, .unset, .unset, .unset, .unset]) X0 hx (hb hby at_37) rfl rfl ?_
    refine own_iload (pc' := 41) X0 hx (hb hby at_39) rfl rfl ?_
    refine own_iconst (pc' := 42) (z := (2 : Int32)) X0 hx (hb hby at_41) rfl rfl ?_
    refine own_iadd (pc' := 43) (z := (u35 + (2 : Int32))) X0 hx (hb hby at_42) rfl rfl ?_
    refine own_iloadN (pc' := 44) X0 hx (hb hby at_43) rfl rfl ?_
    refine own_bipush (pc' := 46) (z := (8 : Int32)) X0 hx (hb hby at_44) rfl rfl ?_
    refine own_iushr (pc' := 47) (z := (own_ushr p2 (8 : Int32))) X0 hx (hb hby at_46) rfl rfl ?_
    refine own_sipush (pc' := 50) (z := (255 : Int32)) X0 hx (hb hby at_47) rfl rfl ?_
    refine own_iand (pc' := 51) (z := ((own_ushr p2 (8 : Int32)) &&& (255 : Int32))) X0 hx (hb hby at_50) rfl rfl ?_
    obtain ⟨l36, hl36⟩ : ∃ z, ((u35 + (2 : Int32)) + ((own_ushr p2 (8 : Int32)) &&& (255 : Int32))) = z := ⟨_, rfl⟩
    refine own_iadd (pc' := 52) (z := l36) X0 hx (hb hby at_51) rfl hl36 ?_
    refine own_istore (pc' := 54) (l' := #[.val (.int p0), .val (.int p1), .val (.int p2), .val (.int p3), .val (.int p4), .val (.int n31), .val (.int b32), .val (.int l34), .val (.int u35), .val (.int l36), .unset, .unset, .unset, .unset, .unset, .unset, .unset, .unset]) X0 hx (hb hby at_52) rfl rfl ?_
    refine own_iload (pc' := 56) X0 hx (hb hby at_54) rfl rfl ?_
    refine own_iloadN (pc' := 57) X0 hx (hb hby at_56) rfl rfl ?_
    refine own_bipush (pc' := 59) (z := (16 : Int32)) X0 hx (hb hby at_57) rfl rfl ?_
    refine own_iushr (pc' := 60) (z := (own_ushr p2 (16 : Int32))) X0 hx (hb hby at_59) rfl rfl ?_
    refine own_sipush (pc' := 63) (z := (255 : Int32)) X0 hx (hb hby at_60) rfl rfl ?_
    refine own_iand (pc' := 64) (z := ((own_ushr p2 (16 : Int32)) &&& (255 : Int32))) X0 hx (hb hby at_63) rfl rfl ?_
    obtain ⟨u37, hu37⟩ : ∃ z, (l36 + ((own_ushr p2 (16 : Int32)) &&& (255 : Int32))) = z := ⟨_, rfl⟩
    refine own_iadd (pc' := 65) (z := u37) X0 hx (hb hby at_64) rfl hu37 ?_
    refine own_istore (pc' := 67) (l' := #[.val (.int p0), .val (.int p1), .val (.int p2), .val (.int p3), .val (.int p4), .val (.int n31), .val (.int b32), .val (.int l34), .val (.int u35), .val (.int l36), .val (.int u37), .unset, .unset, .unset, .unset, .unset, .unset, .unset]) X0 hx (hb hby at_65) rfl rfl ?_
    refine own_iload (pc' := 69) X0 hx (hb hby at_67) rfl rfl ?_
    refine own_iconst (pc' := 70) (z := (2 : Int32)) X0 hx (hb hby at_69) rfl rfl ?_
    refine own_iadd (pc' := 71) (z := (u37 + (2 : Int32))) X0 hx (hb hby at_70) rfl rfl ?_
    refine own_iloadN (pc' := 72) X0 hx (hb hby at_71) rfl rfl ?_
    refine own_bipush (pc' := 74) (z := (24 : Int32)) X0 hx (hb hby at_72) rfl rfl ?_
    refine own_iushr (pc' := 75) (z := (own_ushr p2 (24 : Int32))) X0 hx (hb hby at_74) rfl rfl ?_
    refine own_sipush (pc' := 78) (z := (255 : Int32)) X0 hx (hb hby at_75) rfl rfl ?_
    refine own_iand (pc' := 79) (z := ((own_ushr p2 (24 : Int32)) &&& (255 : Int32))) X0 hx (hb hby at_78) rfl rfl ?_
    obtain ⟨l38, hl38⟩ : ∃ z, ((u37 + (2 : Int32)) + ((own_ushr p2 (24 : Int32)) &&& (255 : Int32))) = z := ⟨_, rfl⟩
    refine own_iadd (pc' := 80) (z := l38) X0 hx (hb hby at_79) rfl hl38 ?_
    refine own_istore (pc' := 82) (l' := #[.val (.int p0), .val (.int p1), .val (.int p2), .val (.int p3), .val (.int p4), .val (.int n31), .val (.int b32), .val (.int l34), .val (.int u35), .val (.int l36), .val (.int u37), .val (.int l38), .unset, .unset, .unset, .unset, .unset, .unset]) X0 hx (hb hby at_80) rfl rfl ?_
    refine own_iload (pc' := 84) X0 hx (hb hby at_82) rfl rfl ?_
    refine own_iloadN (pc' := 85) X0 hx (hb hby at_84) rfl rfl ?_
    refine own_sipush (pc' := 88) (z := (255 : Int32)) X0 hx (hb hby at_85) rfl rfl ?_
    refine own_iand (pc' := 89) (z := (p3 &&& (255 : Int32))) X0 hx (hb hby at_88) rfl rfl ?_
    obtain ⟨u39, hu39⟩ : ∃ z, (l38 + (p3 &&& (255 : Int32))) = z := ⟨_, rfl⟩
    refine own_iadd (pc' := 90) (z := u39) X0 hx (hb hby at_89) rfl hu39 ?_
    refine own_istore (pc' := 92) (l' := #[.val (.int p0), .val (.int p1), .val (.int p2), .val (.int p3), .val (.int p4), .val (.int n31), .val (.int b32), .val (.int l34), .val (.int u35), .val (.int l36), .val (.int u37), .val (.int l38), .val (.int u39), .unset, .unset, .unset, .unset, .unset]) X0 hx (hb hby at_90) rfl rfl ?_
    refine own_iload (pc' := 94) X0 hx (hb hby at_92) rfl rfl ?_
    refine own_iconst (pc' := 95) (z := (2 : Int32)) X0 hx (hb hby at_94) rfl rfl ?_
    refine own_iadd (pc' := 96) (z := (u39 + (2 : Int32))) X0 hx (hb hby at_95) rfl rfl ?_
    refine own_iloadN (pc' := 97) X0 hx (hb hby at_96) rfl rfl ?_
    refine own_bipush (pc' := 99) (z := (8 : Int32)) X0 hx (hb hby at_97) rfl rfl ?_
    refine own_iushr (pc' := 100) (z := (own_ushr p3 (8 : Int32))) X0 hx (hb hby at_99) rfl rfl ?_
    refine own_sipush (pc' := 103) (z := (255 : Int32)) X0 hx (hb hby at_100) rfl rfl ?_
    refine own_iand (pc' := 104) (z := ((own_ushr p3 (8 : Int32)) &&& (255 : Int32))) X0 hx (hb hby at_103) rfl rfl ?_
    obtain ⟨l40, hl40⟩ : ∃ z, ((u39 + (2 : Int32)) + ((own_ushr p3 (8 : Int32)) &&& (255 : Int32))) = z := ⟨_, rfl⟩
    refine own_iadd (pc' := 105) (z := l40) X0 hx (hb hby at_104) rfl hl40 ?_
    refine own_istore (pc' := 107) (l' := #[.val (.int p0), .val (.int p1), .val (.int p2), .val (.int p3), .val (.int p4), .val (.int n31), .val (.int b32), .val (.int l34), .val (.int u35), .val (.int l36), .val (.int u37), .val (.int l38), .val (.int u39), .val (.int l40), .unset, .unset, .unset, .unset]) X0 hx (hb hby at_105) rfl rfl ?_
    refine own_iload (pc' := 109) X0 hx (hb hby at_107) rfl rfl ?_
    refine own_iloadN (pc' := 110) X0 hx (hb hby at_109) rfl rfl ?_
    refine own_bipush (pc' := 112) (z := (16 : Int32)) X0 hx (hb hby at_110) rfl rfl ?_
    refine own_iushr (pc' := 113) (z := (own_ushr p3 (16 : Int32))) X0 hx (hb hby at_112) rfl rfl ?_
    refine own_sipush (pc' := 116) (z := (255 : Int32)) X0 hx (hb hby at_113) rfl rfl ?_
    refine own_iand (pc' := 117) (z := ((own_ushr p3 (16 : Int32)) &&& (255 : Int32))) X0 hx (hb hby at_116) rfl rfl ?_
    obtain ⟨u41, hu41⟩ : ∃ z, (l40 + ((own_ushr p3 (16 : Int32)) &&& (255 : Int32))) = z := ⟨_, rfl⟩
    refine own_iadd (pc' := 118) (z := u41) X0 hx (hb hby at_117) rfl hu41 ?_
    refine own_istore (pc' := 120) (l' := #[.val (.int p0), .val (.int p1), .val (.int p2), .val (.int p3), .val (.int p4), .val (.int n31), .val (.int b32), .val (.int l34), .val (.int u35), .val (.int l36), .val (.int u37), .val (.int l38), .val (.int u39), .val (.int l40), .val (.int u41), .unset, .unset, .unset]) X0 hx (hb hby at_118) rfl rfl ?_
    refine own_iload (pc' := 122) X0 hx (hb hby at_120) rfl rfl ?_
    have o0 := own_l1 hl34
    have o1 := own_up hu35 ⟨by omega, by omega⟩
    have o2 := own_up2 hl36 ⟨by omega, by omega⟩
    have o3 := own_up hu37 ⟨by omega, by omega⟩
    have o4 := own_up2 hl38 ⟨by omega, by omega⟩
    have o5 := own_up hu39 ⟨by omega, by omega⟩
    have o6 := own_up2 hl40 ⟨by omega, by omega⟩
    have o7 := own_up hu41 ⟨by omega, by omega⟩
    have K43 : ∀ (x42 : Int32), own_Ends p e below s (own_Q0 Z p0 p1 p2 p3 p4 h0 n0) 16 128 s₁ (mkF m 144 #[.val (.int p0), .val (.int p1), .val (.int p2), .val (.int p3), .val (.int p4), .val (.int n31), .val (.int b32), .val (.int l34), .val (.int u35), .val (.int l36), .val (.int u37), .val (.int l38), .val (.int u39), .val (.int l40), .val (.int u41), .unset, .unset, .unset] [(.int x42)]) := by
      intro x42
      refine own_istore (pc' := 146) (l' := #[.val (.int p0), .val (.int p1), .val (.int p2), .val (.int p3), .val (.int p4), .val (.int n31), .val (.int b32), .val (.int l34), .val (.int u35), .val (.int l36), .val (.int u37), .val (.int l38), .val (.int u39), .val (.int l40), .val (.int u41), .val (.int x42), .unset, .unset]) X0 hx (hb hby at_144) rfl rfl ?_
      rcases own_r5 hn31 with rfl | rfl | rfl | rfl | rfl
      · refine own_iconst (pc' := 147) (z := (2 : Int32)) X0 hx (hb hby at_146) rfl rfl ?_
        refine own_iload (pc' := 149) X0 hx (hb hby at_147) rfl rfl ?_
        refine own_imul (pc' := 150) (z := (0 : Int32)) X0 hx (hb hby at_149) rfl (by decide) ?_
        refine own_newarr (pc' := 152) (aty := .int) X0 hx hZ (own_w1 hw) e0 (hb hby at_150) rfl (by decide) 0 0 (by decide) (by decide) (by decide) (by decide) ?_
        intro T44 h44 a44 k44 X44 e44 E44 g44 V44
        replace V44 : Arv Z h44 a44 k44 .int (0 : Int32) [] (.int (0 : Int32)) := V44
        have ge45 : n0 ≤ a44 := by rw [g44]; exact Z0
        show own_Ends p e below s _ _ _ T44 (mkF m 152 #[.val (.int p0), .val (.int p1), .val (.int p2), .val (.int p3), .val (.int p4), .val (.int (0 : Int32)), .val (.int b32), .val (.int l34), .val (.int u35), .val (.int l36), .val (.int u37), .val (.int l38), .val (.int u39), .val (.int l40), .val (.int u41), .val (.int x42), .unset, .unset] [(.ref a44)])
        refine own_astore (pc' := 154) (l' := #[.val (.int p0), .val (.int p1), .val (.int p2), .val (.int p3), .val (.int p4), .val (.int (0 : Int32)), .val (.int b32), .val (.int l34), .val (.int u35), .val (.int l36), .val (.int u37), .val (.int l38), .val (.int u39), .val (.int l40), .val (.int u41), .val (.int x42), .val (.ref a44), .unset]) X44 hx (hb hby at_152) rfl rfl rfl ?_
        refine own_iload (pc' := 156) X44 hx (hb hby at_154) rfl rfl ?_
        refine own_iconst (pc' := 157) (z := (1 : Int32)) X44 hx (hb hby at_156) rfl rfl ?_
        refine own_icmpYes (pc' := 172) X44 hx (hb hby at_157) (tlt (by decide)).1 (by decide) (by decide) ?_
        refine own_iload (pc' := 174) X44 hx (hb hby at_172) rfl rfl ?_
        refine own_iconst (pc' := 175) (z := (2 : Int32)) X44 hx (hb hby at_174) rfl rfl ?_
        refine own_icmpYes (pc' := 190) X44 hx (hb hby at_175) (tlt (by decide)).1 (by decide) (by decide) ?_
        refine own_iload (pc' := 192) X44 hx (hb hby at_190) rfl rfl ?_
        refine own_iconst (pc' := 193) (z := (3 : Int32)) X44 hx (hb hby at_192) rfl rfl ?_
        refine own_icmpYes (pc' := 208) X44 hx (hb hby at_193) (tlt (by decide)).1 (by decide) (by decide) ?_
        refine own_iload (pc' := 210) X44 hx (hb hby at_208) rfl rfl ?_
        refine own_iconst (pc' := 211) (z := (4 : Int32)) X44 hx (hb hby at_210) rfl rfl ?_
        refine own_icmpYes (pc' := 228) X44 hx (hb hby at_211) (tlt (by decide)).1 (by decide) (by decide) ?_
        refine own_iload (pc' := 230) X44 hx (hb hby at_228) rfl rfl ?_
        refine own_iconst (pc' := 231) (z := (1 : Int32)) X44 hx (hb hby at_230) rfl rfl ?_
        refine own_icmpYes (pc' := 246) X44 hx (hb hby at_231) (tlt (by decide)).1 (by decide) (by decide) ?_
        refine own_iload (pc' := 248) X44 hx (hb hby at_246) rfl rfl ?_
        refine own_iconst (pc' := 249) (z := (2 : Int32)) X44 hx (hb hby at_248) rfl rfl ?_
        refine own_icmpYes (pc' := 264) X44 hx (hb hby at_249) (tlt (by decide)).1 (by decide) (by decide) ?_
        refine own_iload (pc' := 266) X44 hx (hb hby at_264) rfl rfl ?_
        refine own_iconst (pc' := 267) (z := (3 : Int32)) X44 hx (hb hby at_266) rfl rfl ?_
        refine own_icmpYes (pc' := 282) X44 hx (hb hby at_267) (tlt (by decide)).1 (by decide) (by decide) ?_
        refine own_iload (pc' := 284) X44 hx (hb hby at_282) rfl rfl ?_
        refine own_iconst (pc' := 285) (z := (4 : Int32)) X44 hx (hb hby at_284) rfl rfl ?_
        refine own_icmpYes (pc' := 304) X44 hx (hb hby at_285) (tlt (by decide)).1 (by decide) (by decide) ?_
        refine own_iconst (pc' := 305) (z := (0 : Int32)) X44 hx (hb hby at_304) rfl rfl ?_
        refine own_istore (pc' := 307) (l' := #[.val (.int p0), .val (.int p1), .val (.int p2), .val (.int p3), .val (.int p4), .val (.int (0 : Int32)), .val (.int b32), .val (.int l34), .val (.int u35), .val (.int l36), .val (.int u37), .val (.int l38), .val (.int u39), .val (.int l40), .val (.int u41), .val (.int x42), .val (.ref a44), .val (.int (0 : Int32))]) X44 hx (hb hby at_305) rfl rfl ?_
        refine own_aload (pc' := 309) X44 hx (hb hby at_307) rfl rfl rfl ?_
        refine own_iload (pc' := 311) X44 hx (hb hby at_309) rfl rfl ?_
        refine own_callS (pc' := 314) (y := (⟨"com/example/exacting_validator/exactingvalidator/pattern/CodePointSets", "contains", "([II)Z"⟩ : MethodName)) (W := 0) (rm := own_room1_0) (argsL := [(.ref a44), (.int x42)]) (rest := []) X44 hx hZ e44 hown (by rw [hml]; rfl) (own_w2 hw) (own_w3 hw) (own_w4 hw) (own_w5 hw) (by decide) (own_rm1_0 l Z a0 hw [] a44 x42 k44  h44 n0 V44 ) (by decide) (by decide) (by decide) (by decide) (lenOf own_pd0 rfl) rfl (by exact Nat.le_of_eq rfl) (hb hby at_311) rfl ?_
        intro T46 Lc46 v46 X46 hQ46
        obtain ⟨rfl, Nq47, eq48⟩ := hQ46
        have N49 := Fr.app N0 Nq47
        show own_Ends p e below s _ _ _ T46 (mkF m 314 #[.val (.int p0), .val (.int p1), .val (.int p2), .val (.int p3), .val (.int p4), .val (.int (0 : Int32)), .val (.int b32), .val (.int l34), .val (.int u35), .val (.int l36), .val (.int u37), .val (.int l38), .val (.int u39), .val (.int l40), .val (.int u41), .val (.int x42), .val (.ref a44), .val (.int (0 : Int32))] [(.int (own_c0 x42 ))])
        refine own_iload (pc' := 316) X46 hx (hb hby at_314) rfl rfl ?_
        have hq50 : (own_c0 x42 ) = (0 : Int32) := by
          unfold own_c0
          split <;> first | rfl | (exfalso; omega)
        refine own_icmpNo (pc' := 319) X46 hx (hb hby at_316) rfl (teq hq50).2 ?_
        refine own_iconst (pc' := 320) (z := (1 : Int32)) X46 hx (hb hby at_319) rfl rfl ?_
        refine own_goto (pc' := 324) X46 hx (hb hby at_320) (by decide) (by decide) ?_
        refine own_retN X46 hx hlk hret (by simp) (hb hby at_324) (by decide) (by decide) ?_
        exact ⟨rfl, N49⟩
      · refine own_iconst (pc' := 147) (z := (2 : Int32)) X0 hx (hb hby at_146) rfl rfl ?_
        refine own_iload (pc' := 149) X0 hx (hb hby at_147) rfl rfl ?_
        refine own_imul (pc' := 150) (z := (2 : Int32)) X0 hx (hb hby at_149) rfl (by decide) ?_
        refine own_newarr (pc' := 152) (aty := .int) X0 hx hZ (own_w1 hw) e0 (hb hby at_150) rfl (by decide) 2 2 (by decide) (by decide) (by decide) (by decide) ?_
        intro T51 h51 a51 k51 X51 e51 E51 g51 V51
        replace V51 : Arv Z h51 a51 k51 .int (2 : Int32) [(.int (0 : Int32)), (.int (0 : Int32))] (.int (0 : Int32)) := V51
        have ge52 : n0 ≤ a51 := by rw [g51]; exact Z0
        show own_Ends p e below s _ _ _ T51 (mkF m 152 #[.val (.int p0), .val (.int p1), .val (.int p2), .val (.int p3), .val (.int p4), .val (.int (1 : Int32)), .val (.int b32), .val (.int l34), .val (.int u35), .val (.int l36), .val (.int u37), .val (.int l38), .val (.int u39), .val (.int l40), .val (.int u41), .val (.int x42), .unset, .unset] [(.ref a51)])
        refine own_astore (pc' := 154) (l' := #[.val (.int p0), .val (.int p1), .val (.int p2), .val (.int p3), .val (.int p4), .val (.int (1 : Int32)), .val (.int b32), .val (.int l34), .val (.int u35), .val (.int l36), .val (.int u37), .val (.int l38), .val (.int u39), .val (.int l40), .val (.int u41), .val (.int x42), .val (.ref a51), .unset]) X51 hx (hb hby at_152) rfl rfl rfl ?_
        refine own_iload (pc' := 156) X51 hx (hb hby at_154) rfl rfl ?_
        refine own_iconst (pc' := 157) (z := (1 : Int32)) X51 hx (hb hby at_156) rfl rfl ?_
        refine own_icmpNo (pc' := 160) X51 hx (hb hby at_157) rfl (flt (by decide)).1 ?_
        refine own_aload (pc' := 162) X51 hx (hb hby at_160) rfl rfl rfl ?_
        refine own_iconst (pc' := 163) (z := (0 : Int32)) X51 hx (hb hby at_162) rfl rfl ?_
        refine own_iload (pc' := 165) X51 hx (hb hby at_163) rfl rfl ?_
        refine own_iastore (pc' := 166) X51 hx hZ e51 V51 (hb hby at_165) rfl (by decide) 0 rfl (by simp) N0 ge52 ?_
        intro T53 h53 L53 X53 e53 N53 W53 V53
        replace V53 : Arv Z h53 a51 k51 .int (2 : Int32) [(.int l34), (.int (0 : Int32))] (.int (0 : Int32)) := V53
        show own_Ends p e below s _ _ _ T53 (mkF m 166 #[.val (.int p0), .val (.int p1), .val (.int p2), .val (.int p3), .val (.int p4), .val (.int (1 : Int32)), .val (.int b32), .val (.int l34), .val (.int u35), .val (.int l36), .val (.int u37), .val (.int l38), .val (.int u39), .val (.int l40), .val (.int u41), .val (.int x42), .val (.ref a51), .unset] [])
        refine own_aload (pc' := 168) X53 hx (hb hby at_166) rfl rfl rfl ?_
        refine own_iconst (pc' := 169) (z := (1 : Int32)) X53 hx (hb hby at_168) rfl rfl ?_
        refine own_iload (pc' := 171) X53 hx (hb hby at_169) rfl rfl ?_
        refine own_iastore (pc' := 172) X53 hx hZ e53 V53 (hb hby at_171) rfl (by decide) 1 rfl (by simp) N53 ge52 ?_
        intro T54 h54 L54 X54 e54 N54 W54 V54
        replace V54 : Arv Z h54 a51 k51 .int (2 : Int32) [(.int l34), (.int u35)] (.int (0 : Int32)) := V54
        show own_Ends p e below s _ _ _ T54 (mkF m 172 #[.val (.int p0), .val (.int p1), .val (.int p2), .val (.int p3), .val (.int p4), .val (.int (1 : Int32)), .val (.int b32), .val (.int l34), .val (.int u35), .val (.int l36), .val (.int u37), .val (.int l38), .val (.int u39), .val (.int l40), .val (.int u41), .val (.int x42), .val (.ref a51), .unset] [])
        refine own_iload (pc' := 174) X54 hx (hb hby at_172) rfl rfl ?_
        refine own_iconst (pc' := 175) (z := (2 : Int32)) X54 hx (hb hby at_174) rfl rfl ?_
        refine own_icmpYes (pc' := 190) X54 hx (hb hby at_175) (tlt (by decide)).1 (by decide) (by decide) ?_
        refine own_iload (pc' := 192) X54 hx (hb hby at_190) rfl rfl ?_
        refine own_iconst (pc' := 193) (z := (3 : Int32)) X54 hx (hb hby at_192) rfl rfl ?_
        refine own_icmpYes (pc' := 208) X54 hx (hb hby at_193) (tlt (by decide)).1 (by decide) (by decide) ?_
        refine own_iload (pc' := 210) X54 hx (hb hby at_208) rfl rfl ?_
        refine own_iconst (pc' := 211) (z := (4 : Int32)) X54 hx (hb hby at_210) rfl rfl ?_
        refine own_icmpYes (pc' := 228) X54 hx (hb hby at_211) (tlt (by decide)).1 (by decide) (by decide) ?_
        refine own_iload (pc' := 230) X54 hx (hb hby at_228) rfl rfl ?_
        refine own_iconst (pc' := 231) (z := (1 : Int32)) X54 hx (hb hby at_230) rfl rfl ?_
        refine own_icmpNo (pc' := 234) X54 hx (hb hby at_231) rfl (flt (by decide)).1 ?_
        refine own_iload (pc' := 236) X54 hx (hb hby at_234) rfl rfl ?_
        refine own_iload (pc' := 238) X54 hx (hb hby at_236) rfl rfl ?_
        refine own_iload (pc' := 240) X54 hx (hb hby at_238) rfl rfl ?_
        refine own_callS (pc' := 243) (y := (⟨"com/example/exacting_validator/exactingvalidator/pattern/CodePointSetsContainsPinLaw", "in", "(III)Z"⟩ : MethodName)) (W := 0) (rm := own_room2) (argsL := [(.int x42), (.int l34), (.int u35)]) (rest := []) X54 hx hZ e54 hown (by rw [hml]; rfl) (own_w6 hw) (own_w7 hw) (own_w8 hw) (own_w9 hw) (by decide) (own_rm2 l Z a0 hw [] x42 l34 u35 h54 n0) (by decide) (by decide) (by decide) (by decide) (lenOf own_pd1 rfl) rfl (by exact Nat.le_of_eq rfl) (hb hby at_240) rfl ?_
        intro T55 Lc55 v55 X55 hQ55
        obtain ⟨rfl, Nq56, eq57⟩ := hQ55
        have N58 := Fr.app N54 Nq56
        show own_Ends p e below s _ _ _ T55 (mkF m 243 #[.val (.int p0), .val (.int p1), .val (.int p2), .val (.int p3), .val (.int p4), .val (.int (1 : Int32)), .val (.int b32), .val (.int l34), .val (.int u35), .val (.int l36), .val (.int u37), .val (.int l38), .val (.int u39), .val (.int l40), .val (.int u41), .val (.int x42), .val (.ref a51), .unset] [(.int (own_in x42 l34 u35))])
        by_cases hc243_59 : (own_in x42 l34 u35) = (0 : Int32)
        · refine own_ifNo (pc' := 246) X55 hx (hb hby at_243) rfl (teq hc243_59).2 ?_
          refine own_iload (pc' := 248) X55 hx (hb hby at_246) rfl rfl ?_
          refine own_iconst (pc' := 249) (z := (2 : Int32)) X55 hx (hb hby at_248) rfl rfl ?_
          refine own_icmpYes (pc' := 264) X55 hx (hb hby at_249) (tlt (by decide)).1 (by decide) (by decide) ?_
          refine own_iload (pc' := 266) X55 hx (hb hby at_264) rfl rfl ?_
          refine own_iconst (pc' := 267) (z := (3 : Int32)) X55 hx (hb hby at_266) rfl rfl ?_
          refine own_icmpYes (pc' := 282) X55 hx (hb hby at_267) (tlt (by decide)).1 (by decide) (by decide) ?_
          refine own_iload (pc' := 284) X55 hx (hb hby at_282) rfl rfl ?_
          refine own_iconst (pc' := 285) (z := (4 : Int32)) X55 hx (hb hby at_284) rfl rfl ?_
          refine own_icmpYes (pc' := 304) X55 hx (hb hby at_285) (tlt (by decide)).1 (by decide) (by decide) ?_
          refine own_iconst (pc' := 305) (z := (0 : Int32)) X55 hx (hb hby at_304) rfl rfl ?_
          refine own_istore (pc' := 307) (l' := #[.val (.int p0), .val (.int p1), .val (.int p2), .val (.int p3), .val (.int p4), .val (.int (1 : Int32)), .val (.int b32), .val (.int l34), .val (.int u35), .val (.int l36), .val (.int u37), .val (.int l38), .val (.int u39), .val (.int l40), .val (.int u41), .val (.int x42), .val (.ref a51), .val (.int (0 : Int32))]) X55 hx (hb hby at_305) rfl rfl ?_
          refine own_aload (pc' := 309) X55 hx (hb hby at_307) rfl rfl rfl ?_
          refine own_iload (pc' := 311) X55 hx (hb hby at_309) rfl rfl ?_
          refine own_callS (pc' := 314) (y := (⟨"com/example/exacting_validator/exactingvalidator/pattern/CodePointSets", "contains", "([II)Z"⟩ : MethodName)) (W := 0) (rm := own_room1_1) (argsL := [(.ref a51), (.int x42)]) (rest := []) X55 hx hZ eq57 hown (by rw [hml]; rfl) (own_w2 hw) (own_w3 hw) (own_w4 hw) (own_w5 hw) (by decide) (own_rm1_1 l Z a0 hw [] a51 x42 k51 l34 u35 h54 n0 V54 (by omega)) (by decide) (by decide) (by decide) (by decide) (lenOf own_pd0 rfl) rfl (by exact Nat.le_of_eq rfl) (hb hby at_311) rfl ?_
          intro T60 Lc60 v60 X60 hQ60
          obtain ⟨rfl, Nq61, eq62⟩ := hQ60
          have N63 := Fr.app N58 Nq61
          show own_Ends p e below s _ _ _ T60 (mkF m 314 #[.val (.int p0), .val (.int p1), .val (.int p2), .val (.int p3), .val (.int p4), .val (.int (1 : Int32)), .val (.int b32), .val (.int l34), .val (.int u35), .val (.int l36), .val (.int u37), .val (.int l38), .val (.int u39), .val (.int l40), .val (.int u41), .val (.int x42), .val (.ref a51), .val (.int (0 : Int32))] [(.int (own_c1 x42 l34 u35))])
          refine own_iload (pc' := 316) X60 hx (hb hby at_314) rfl rfl ?_
          have q_hc243_59 := own_inF hc243_59
          have hq64 : (own_c1 x42 l34 u35) = (0 : Int32) := by
            unfold own_c1
            split <;> first | rfl | (exfalso; omega)
          refine own_icmpNo (pc' := 319) X60 hx (hb hby at_316) rfl (teq hq64).2 ?_
          refine own_iconst (pc' := 320) (z := (1 : Int32)) X60 hx (hb hby at_319) rfl rfl ?_
          refine own_goto (pc' := 324) X60 hx (hb hby at_320) (by decide) (by decide) ?_
          refine own_retN X60 hx hlk hret (by simp) (hb hby at_324) (by decide) (by decide) ?_
          exact ⟨rfl, N63⟩
        · refine own_ifYes (pc' := 300) X55 hx (hb hby at_243) (feq hc243_59).2 (by decide) (by decide) ?_
          refine own_iconst (pc' := 301) (z := (1 : Int32)) X55 hx (hb hby at_300) rfl rfl ?_
          refine own_goto (pc' := 305) X55 hx (hb hby at_301) (by decide) (by decide) ?_
          refine own_istore (pc' := 307) (l' := #[.val (.int p0), .val (.int p1), .val (.int p2), .val (.int p3), .val (.int p4), .val (.int (1 : Int32)), .val (.int b32), .val (.int l34), .val (.int u35), .val (.int l36), .val (.int u37), .val (.int l38), .val (.int u39), .val (.int l40), .val (.int u41), .val (.int x42), .val (.ref a51), .val (.int (1 : Int32))]) X55 hx (hb hby at_305) rfl rfl ?_
          refine own_aload (pc' := 309) X55 hx (hb hby at_307) rfl rfl rfl ?_
          refine own_iload (pc' := 311) X55 hx (hb hby at_309) rfl rfl ?_
          refine own_callS (pc' := 314) (y := (⟨"com/example/exacting_validator/exactingvalidator/pattern/CodePointSets", "contains", "([II)Z"⟩ : MethodName)) (W := 0) (rm := own_room1_1) (argsL := [(.ref a51), (.int x42)]) (rest := []) X55 hx hZ eq57 hown (by rw [hml]; rfl) (own_w2 hw) (own_w3 hw) (own_w4 hw) (own_w5 hw) (by decide) (own_rm1_1 l Z a0 hw [] a51 x42 k51 l34 u35 h54 n0 V54 (by omega)) (by decide) (by decide) (by decide) (by decide) (lenOf own_pd0 rfl) rfl (by exact Nat.le_of_eq rfl) (hb hby at_311) rfl ?_
          intro T65 Lc65 v65 X65 hQ65
          obtain ⟨rfl, Nq66, eq67⟩ := hQ65
          have N68 := Fr.app N58 Nq66
          show own_Ends p e below s _ _ _ T65 (mkF m 314 #[.val (.int p0), .val (.int p1), .val (.int p2), .val (.int p3), .val (.int p4), .val (.int (1 : Int32)), .val (.int b32), .val (.int l34), .val (.int u35), .val (.int l36), .val (.int u37), .val (.int l38), .val (.int u39), .val (.int l40), .val (.int u41), .val (.int x42), .val (.ref a51), .val (.int (1 : Int32))] [(.int (own_c1 x42 l34 u35))])
          refine own_iload (pc' := 316) X65 hx (hb hby at_314) rfl rfl ?_
          have q_hc243_59 := own_inT hc243_59
          have hq69 : (own_c1 x42 l34 u35) = (1 : Int32) := by
            unfold own_c1
            split <;> first | rfl | (exfalso; omega)
          refine own_icmpNo (pc' := 319) X65 hx (hb hby at_316) rfl (teq hq69).2 ?_
          refine own_iconst (pc' := 320) (z := (1 : Int32)) X65 hx (hb hby at_319) rfl rfl ?_
          refine own_goto (pc' := 324) X65 hx (hb hby at_320) (by decide) (by decide) ?_
          refine own_retN X65 hx hlk hret (by simp) (hb hby at_324) (by decide) (by decide) ?_
          exact ⟨rfl, N68⟩
      · refine own_iconst (pc' := 147) (z := (2 : Int32)) X0 hx (hb hby at_146) rfl rfl ?_
        refine own_iload (pc' := 149) X0 hx (hb hby at_147) rfl rfl ?_
        refine own_imul (pc' := 150) (z := (4 : Int32)) X0 hx (hb hby at_149) rfl (by decide) ?_
        refine own_newarr (pc' := 152) (aty := .int) X0 hx hZ (own_w1 hw) e0 (hb hby at_150) rfl (by decide) 4 4 (by decide) (by decide) (by decide) (by decide) ?_
        intro T70 h70 a70 k70 X70 e70 E70 g70 V70
        replace V70 : Arv Z h70 a70 k70 .int (4 : Int32) [(.int (0 : Int32)), (.int (0 : Int32)), (.int (0 : Int32)), (.int (0 : Int32))] (.int (0 : Int32)) := V70
        have ge71 : n0 ≤ a70 := by rw [g70]; exact Z0
        show own_Ends p e below s _ _ _ T70 (mkF m 152 #[.val (.int p0), .val (.int p1), .val (.int p2), .val (.int p3), .val (.int p4), .val (.int (2 : Int32)), .val (.int b32), .val (.int l34), .val (.int u35), .val (.int l36), .val (.int u37), .val (.int l38), .val (.int u39), .val (.int l40), .val (.int u41), .val (.int x42), .unset, .unset] [(.ref a70)])
        refine own_astore (pc' := 154) (l' := #[.val (.int p0), .val (.int p1), .val (.int p2), .val (.int p3), .val (.int p4), .val (.int (2 : Int32)), .val (.int b32), .val (.int l34), .val (.int u35), .val (.int l36), .val (.int u37), .val (.int l38), .val (.int u39), .val (.int l40), .val (.int u41), .val (.int x42), .val (.ref a70), .unset]) X70 hx (hb hby at_152) rfl rfl rfl ?_
        refine own_iload (pc' := 156) X70 hx (hb hby at_154) rfl rfl ?_
        refine own_iconst (pc' := 157) (z := (1 : Int32)) X70 hx (hb hby at_156) rfl rfl ?_
        refine own_icmpNo (pc' := 160) X70 hx (hb hby at_157) rfl (flt (by decide)).1 ?_
        refine own_aload (pc' := 162) X70 hx (hb hby at_160) rfl rfl rfl ?_
        refine own_iconst (pc' := 163) (z := (0 : Int32)) X70 hx (hb hby at_162) rfl rfl ?_
        refine own_iload (pc' := 165) X70 hx (hb hby at_163) rfl rfl ?_
        refine own_iastore (pc' := 166) X70 hx hZ e70 V70 (hb hby at_165) rfl (by decide) 0 rfl (by simp) N0 ge71 ?_
        intro T72 h72 L72 X72 e72 N72 W72 V72
        replace V72 : Arv Z h72 a70 k70 .int (4 : Int32) [(.int l34), (.int (0 : Int32)), (.int (0 : Int32)), (.int (0 : Int32))] (.int (0 : Int32)) := V72
        show own_Ends p e below s _ _ _ T72 (mkF m 166 #[.val (.int p0), .val (.int p1), .val (.int p2), .val (.int p3), .val (.int p4), .val (.int (2 : Int32)), .val (.int b32), .val (.int l34), .val (.int u35), .val (.int l36), .val (.int u37), .val (.int l38), .val (.int u39), .val (.int l40), .val (.int u41), .val (.int x42), .val (.ref a70), .unset] [])
        refine own_aload (pc' := 168) X72 hx (hb hby at_166) rfl rfl rfl ?_
        refine own_iconst (pc' := 169) (z := (1 : Int32)) X72 hx (hb hby at_168) rfl rfl ?_
        refine own_iload (pc' := 171) X72 hx (hb hby at_169) rfl rfl ?_
        refine own_iastore (pc' := 172) X72 hx hZ e72 V72 (hb hby at_171) rfl (by decide) 1 rfl (by simp) N72 ge71 ?_
        intro T73 h73 L73 X73 e73 N73 W73 V73
        replace V73 : Arv Z h73 a70 k70 .int (4 : Int32) [(.int l34), (.int u35), (.int (0 : Int32)), (.int (0 : Int32))] (.int (0 : Int32)) := V73
        show own_Ends p e below s _ _ _ T73 (mkF m 172 #[.val (.int p0), .val (.int p1), .val (.int p2), .val (.int p3), .val (.int p4), .val (.int (2 : Int32)), .val (.int b32), .val (.int l34), .val (.int u35), .val (.int l36), .val (.int u37), .val (.int l38), .val (.int u39), .val (.int l40), .val (.int u41), .val (.int x42), .val (.ref a70), .unset] [])
        refine own_iload (pc' := 174) X73 hx (hb hby at_172) rfl rfl ?_
        refine own_iconst (pc' := 175) (z := (2 : Int32)) X73 hx (hb hby at_174) rfl rfl ?_
        refine own_icmpNo (pc' := 178) X73 hx (hb hby at_175) rfl (flt (by decide)).1 ?_
        refine own_aload (pc' := 180) X73 hx (hb hby at_178) rfl rfl rfl ?_
        refine own_iconst (pc' := 181) (z := (2 : Int32)) X73 hx (hb hby at_180) rfl rfl ?_
        refine own_iload (pc' := 183) X73 hx (hb hby at_181) rfl rfl ?_
        refine own_iastore (pc' := 184) X73 hx hZ e73 V73 (hb hby at_183) rfl (by decide) 2 rfl (by simp) N73 ge71 ?_
        intro T74 h74 L74 X74 e74 N74 W74 V74
        replace V74 : Arv Z h74 a70 k70 .int (4 : Int32) [(.int l34), (.int u35), (.int l36), (.int (0 : Int32))] (.int (0 : Int32)) := V74
        show own_Ends p e below s _ _ _ T74 (mkF m 184 #[.val (.int p0), .val (.int p1), .val (.int p2), .val (.int p3), .val (.int p4), .val (.int (2 : Int32)), .val (.int b32), .val (.int l34), .val (.int u35), .val (.int l36), .val (.int u37), .val (.int l38), .val (.int u39), .val (.int l40), .val (.int u41), .val (.int x42), .val (.ref a70), .unset] [])
        refine own_aload (pc' := 186) X74 hx (hb hby at_184) rfl rfl rfl ?_
        refine own_iconst (pc' := 187) (z := (3 : Int32)) X74 hx (hb hby at_186) rfl rfl ?_
        refine own_iload (pc' := 189) X74 hx (hb hby at_187) rfl rfl ?_
        refine own_iastore (pc' := 190) X74 hx hZ e74 V74 (hb hby at_189) rfl (by decide) 3 rfl (by simp) N74 ge71 ?_
        intro T75 h75 L75 X75 e75 N75 W75 V75
        replace V75 : Arv Z h75 a70 k70 .int (4 : Int32) [(.int l34), (.int u35), (.int l36), (.int u37)] (.int (0 : Int32)) := V75
        show own_Ends p e below s _ _ _ T75 (mkF m 190 #[.val (.int p0), .val (.int p1), .val (.int p2), .val (.int p3), .val (.int p4), .val (.int (2 : Int32)), .val (.int b32), .val (.int l34), .val (.int u35), .val (.int l36), .val (.int u37), .val (.int l38), .val (.int u39), .val (.int l40), .val (.int u41), .val (.int x42), .val (.ref a70), .unset] [])
        refine own_iload (pc' := 192) X75 hx (hb hby at_190) rfl rfl ?_
        refine own_iconst (pc' := 193) (z := (3 : Int32)) X75 hx (hb hby at_192) rfl rfl ?_
        refine own_icmpYes (pc' := 208) X75 hx (hb hby at_193) (tlt (by decide)).1 (by decide) (by decide) ?_
        refine own_iload (pc' := 210) X75 hx (hb hby at_208) rfl rfl ?_
        refine own_iconst (pc' := 211) (z := (4 : Int32)) X75 hx (hb hby at_210) rfl rfl ?_
        refine own_icmpYes (pc' := 228) X75 hx (hb hby at_211) (tlt (by decide)).1 (by decide) (by decide) ?_
        refine own_iload (pc' := 230) X75 hx (hb hby at_228) rfl rfl ?_
        refine own_iconst (pc' := 231) (z := (1 : Int32)) X75 hx (hb hby at_230) rfl rfl ?_
        refine own_icmpNo (pc' := 234) X75 hx (hb hby at_231) rfl (flt (by decide)).1 ?_
        refine own_iload (pc' := 236) X75 hx (hb hby at_234) rfl rfl ?_
        refine own_iload (pc' := 238) X75 hx (hb hby at_236) rfl rfl ?_
        refine own_iload (pc' := 240) X75 hx (hb hby at_238) rfl rfl ?_
        refine own_callS (pc' := 243) (y := (⟨"com/example/exacting_validator/exactingvalidator/pattern/CodePointSetsContainsPinLaw", "in", "(III)Z"⟩ : MethodName)) (W := 0) (rm := own_room2) (argsL := [(.int x42), (.int l34), (.int u35)]) (rest := []) X75 hx hZ e75 hown (by rw [hml]; rfl) (own_w6 hw) (own_w7 hw) (own_w8 hw) (own_w9 hw) (by decide) (own_rm2 l Z a0 hw [] x42 l34 u35 h75 n0) (by decide) (by decide) (by decide) (by decide) (lenOf own_pd1 rfl) rfl (by exact Nat.le_of_eq rfl) (hb hby at_240) rfl ?_
        intro T76 Lc76 v76 X76 hQ76
        obtain ⟨rfl, Nq77, eq78⟩ := hQ76
        have N79 := Fr.app N75 Nq77
        show own_Ends p e below s _ _ _ T76 (mkF m 243 #[.val (.int p0), .val (.int p1), .val (.int p2), .val (.int p3), .val (.int p4), .val (.int (2 : Int32)), .val (.int b32), .val (.int l34), .val (.int u35), .val (.int l36), .val (.int u37), .val (.int l38), .val (.int u39), .val (.int l40), .val (.int u41), .val (.int x42), .val (.ref a70), .unset] [(.int (own_in x42 l34 u35))])
        by_cases hc243_80 : (own_in x42 l34 u35) = (0 : Int32)
        · refine own_ifNo (pc' := 246) X76 hx (hb hby at_243) rfl (teq hc243_80).2 ?_
          refine own_iload (pc' := 248) X76 hx (hb hby at_246) rfl rfl ?_
          refine own_iconst (pc' := 249) (z := (2 : Int32)) X76 hx (hb hby at_248) rfl rfl ?_
          refine own_icmpNo (pc' := 252) X76 hx (hb hby at_249) rfl (flt (by decide)).1 ?_
          refine own_iload (pc' := 254) X76 hx (hb hby at_252) rfl rfl ?_
          refine own_iload (pc' := 256) X76 hx (hb hby at_254) rfl rfl ?_
          refine own_iload (pc' := 258) X76 hx (hb hby at_256) rfl rfl ?_
          refine own_callS (pc' := 261) (y := (⟨"com/example/exacting_validator/exactingvalidator/pattern/CodePointSetsContainsPinLaw", "in", "(III)Z"⟩ : MethodName)) (W := 0) (rm := own_room2) (argsL := [(.int x42), (.int l36), (.int u37)]) (rest := []) X76 hx hZ eq78 hown (by rw [hml]; rfl) (own_w6 hw) (own_w7 hw) (own_w8 hw) (own_w9 hw) (by decide) (own_rm2 l Z a0 hw [] x42 l36 u37 h75 n0) (by decide) (by decide) (by decide) (by decide) (lenOf own_pd1 rfl) rfl (by exact Nat.le_of_eq rfl) (hb hby at_258) rfl ?_
          intro T81 Lc81 v81 X81 hQ81
          obtain ⟨rfl, Nq82, eq83⟩ := hQ81
          have N84 := Fr.app N79 Nq82
          show own_Ends p e below s _ _ _ T81 (mkF m 261 #[.val (.int p0), .val (.int p1), .val (.int p2), .val (.int p3), .val (.int p4), .val (.int (2 : Int32)), .val (.int b32), .val (.int l34), .val (.int u35), .val (.int l36), .val (.int u37), .val (.int l38), .val (.int u39), .val (.int l40), .val (.int u41), .val (.int x42), .val (.ref a70), .unset] [(.int (own_in x42 l36 u37))])
          by_cases hc261_85 : (own_in x42 l36 u37) = (0 : Int32)
          · refine own_ifNo (pc' := 264) X81 hx (hb hby at_261) rfl (teq hc261_85).2 ?_
            refine own_iload (pc' := 266) X81 hx (hb hby at_264) rfl rfl ?_
            refine own_iconst (pc' := 267) (z := (3 : Int32)) X81 hx (hb hby at_266) rfl rfl ?_
            refine own_icmpYes (pc' := 282) X81 hx (hb hby at_267) (tlt (by decide)).1 (by decide) (by decide) ?_
            refine own_iload (pc' := 284) X81 hx (hb hby at_282) rfl rfl ?_
            refine own_iconst (pc' := 285) (z := (4 : Int32)) X81 hx (hb hby at_284) rfl rfl ?_
            refine own_icmpYes (pc' := 304) X81 hx (hb hby at_285) (tlt (by decide)).1 (by decide) (by decide) ?_
            refine own_iconst (pc' := 305) (z := (0 : Int32)) X81 hx (hb hby at_304) rfl rfl ?_
            refine own_istore (pc' := 307) (l' := #[.val (.int p0), .val (.int p1), .val (.int p2), .val (.int p3), .val (.int p4), .val (.int (2 : Int32)), .val (.int b32), .val (.int l34), .val (.int u35), .val (.int l36), .val (.int u37), .val (.int l38), .val (.int u39), .val (.int l40), .val (.int u41), .val (.int x42), .val (.ref a70), .val (.int (0 : Int32))]) X81 hx (hb hby at_305) rfl rfl ?_
            refine own_aload (pc' := 309) X81 hx (hb hby at_307) rfl rfl rfl ?_
            refine own_iload (pc' := 311) X81 hx (hb hby at_309) rfl rfl ?_
            refine own_callS (pc' := 314) (y := (⟨"com/example/exacting_validator/exactingvalidator/pattern/CodePointSets", "contains", "([II)Z"⟩ : MethodName)) (W := 0) (rm := own_room1_2) (argsL := [(.ref a70), (.int x42)]) (rest := []) X81 hx hZ eq83 hown (by rw [hml]; rfl) (own_w2 hw) (own_w3 hw) (own_w4 hw) (own_w5 hw) (by decide) (own_rm1_2 l Z a0 hw [] a70 x42 k70 l34 u35 l36 u37 h75 n0 V75 (by omega) (by omega) (by omega)) (by decide) (by decide) (by decide) (by decide) (lenOf own_pd0 rfl) rfl (by exact Nat.le_of_eq rfl) (hb hby at_311) rfl ?_
            intro T86 Lc86 v86 X86 hQ86
            obtain ⟨rfl, Nq87, eq88⟩ := hQ86
            have N89 := Fr.app N84 Nq87
            show own_Ends p e below s _ _ _ T86 (mkF m 314 #[.val (.int p0), .val (.int p1), .val (.int p2), .val (.int p3), .val (.int p4), .val (.int (2 : Int32)), .val (.int b32), .val (.int l34), .val (.int u35), .val (.int l36), .val (.int u37), .val (.int l38), .val (.int u39), .val (.int l40), .val (.int u41), .val (.int x42), .val (.ref a70), .val (.int (0 : Int32))] [(.int (own_c2 x42 l34 u35 l36 u37))])
            refine own_iload (pc' := 316) X86 hx (hb hby at_314) rfl rfl ?_
            have q_hc243_80 := own_inF hc243_80
            have q_hc261_85 := own_inF hc261_85
            have hq90 : (own_c2 x42 l34 u35 l36 u37) = (0 : Int32) := by
              unfold own_c2
              split <;> first | rfl | (exfalso; omega)
            refine own_icmpNo (pc' := 319) X86 hx (hb hby at_316) rfl (teq hq90).2 ?_
            refine own_iconst (pc' := 320) (z := (1 : Int32)) X86 hx (hb hby at_319) rfl rfl ?_
            refine own_goto (pc' := 324) X86 hx (hb hby at_320) (by decide) (by decide) ?_
            refine own_retN X86 hx hlk hret (by simp) (hb hby at_324) (by decide) (by decide) ?_
            exact ⟨rfl, N89⟩
          · refine own_ifYes (pc' := 300) X81 hx (hb hby at_261) (feq hc261_85).2 (by decide) (by decide) ?_
            refine own_iconst (pc' := 301) (z := (1 : Int32)) X81 hx (hb hby at_300) rfl rfl ?_
            refine own_goto (pc' := 305) X81 hx (hb hby at_301) (by decide) (by decide) ?_
            refine own_istore (pc' := 307) (l' := #[.val (.int p0), .val (.int p1), .val (.int p2), .val (.int p3), .val (.int p4), .val (.int (2 : Int32)), .val (.int b32), .val (.int l34), .val (.int u35), .val (.int l36), .val (.int u37), .val (.int l38), .val (.int u39), .val (.int l40), .val (.int u41), .val (.int x42), .val (.ref a70), .val (.int (1 : Int32))]) X81 hx (hb hby at_305) rfl rfl ?_
            refine own_aload (pc' := 309) X81 hx (hb hby at_307) rfl rfl rfl ?_
            refine own_iload (pc' := 311) X81 hx (hb hby at_309) rfl rfl ?_
            refine own_callS (pc' := 314) (y := (⟨"com/example/exacting_validator/exactingvalidator/pattern/CodePointSets", "contains", "([II)Z"⟩ : MethodName)) (W := 0) (rm := own_room1_2) (argsL := [(.ref a70), (.int x42)]) (rest := []) X81 hx hZ eq83 hown (by rw [hml]; rfl) (own_w2 hw) (own_w3 hw) (own_w4 hw) (own_w5 hw) (by decide) (own_rm1_2 l Z a0 hw [] a70 x42 k70 l34 u35 l36 u37 h75 n0 V75 (by omega) (by omega) (by omega)) (by decide) (by decide) (by decide) (by decide) (lenOf own_pd0 rfl) rfl (by exact Nat.le_of_eq rfl) (hb hby at_311) rfl ?_
            intro T91 Lc91 v91 X91 hQ91
            obtain ⟨rfl, Nq92, eq93⟩ := hQ91
            have N94 := Fr.app N84 Nq92
            show own_Ends p e below s _ _ _ T91 (mkF m 314 #[.val (.int p0), .val (.int p1), .val (.int p2), .val (.int p3), .val (.int p4), .val (.int (2 : Int32)), .val (.int b32), .val (.int l34), .val (.int u35), .val (.int l36), .val (.int u37), .val (.int l38), .val (.int u39), .val (.int l40), .val (.int u41), .val (.int x42), .val (.ref a70), .val (.int (1 : Int32))] [(.int (own_c2 x42 l34 u35 l36 u37))])
            refine own_iload (pc' := 316) X91 hx (hb hby at_314) rfl rfl ?_
            have q_hc243_80 := own_inF hc243_80
            have q_hc261_85 := own_inT hc261_85
            have hq95 : (own_c2 x42 l34 u35 l36 u37) = (1 : Int32) := by
              unfold own_c2
              split <;> first | rfl | (exfalso; omega)
            refine own_icmpNo (pc' := 319) X91 hx (hb hby at_316) rfl (teq hq95).2 ?_
            refine own_iconst (pc' := 320) (z := (1 : Int32)) X91 hx (hb hby at_319) rfl rfl ?_
            refine own_goto (pc' := 324) X91 hx (hb hby at_320) (by decide) (by decide) ?_
            refine own_retN X91 hx hlk hret (by simp) (hb hby at_324) (by decide) (by decide) ?_
            exact ⟨rfl, N94⟩
        · refine own_ifYes (pc' := 300) X76 hx (hb hby at_243) (feq hc243_80).2 (by decide) (by decide) ?_
          refine own_iconst (pc' := 301) (z := (1 : Int32)) X76 hx (hb hby at_300) rfl rfl ?_
          refine own_goto (pc' := 305) X76 hx (hb hby at_301) (by decide) (by decide) ?_
          refine own_istore (pc' := 307) (l' := #[.val (.int p0), .val (.int p1), .val (.int p2), .val (.int p3), .val (.int p4), .val (.int (2 : Int32)), .val (.int b32), .val (.int l34), .val (.int u35), .val (.int l36), .val (.int u37), .val (.int l38), .val (.int u39), .val (.int l40), .val (.int u41), .val (.int x42), .val (.ref a70), .val (.int (1 : Int32))]) X76 hx (hb hby at_305) rfl rfl ?_
          refine own_aload (pc' := 309) X76 hx (hb hby at_307) rfl rfl rfl ?_
          refine own_iload (pc' := 311) X76 hx (hb hby at_309) rfl rfl ?_
          refine own_callS (pc' := 314) (y := (⟨"com/example/exacting_validator/exactingvalidator/pattern/CodePointSets", "contains", "([II)Z"⟩ : MethodName)) (W := 0) (rm := own_room1_2) (argsL := [(.ref a70), (.int x42)]) (rest := []) X76 hx hZ eq78 hown (by rw [hml]; rfl) (own_w2 hw) (own_w3 hw) (own_w4 hw) (own_w5 hw) (by decide) (own_rm1_2 l Z a0 hw [] a70 x42 k70 l34 u35 l36 u37 h75 n0 V75 (by omega) (by omega) (by omega)) (by decide) (by decide) (by decide) (by decide) (lenOf own_pd0 rfl) rfl (by exact Nat.le_of_eq rfl) (hb hby at_311) rfl ?_
          intro T96 Lc96 v96 X96 hQ96
          obtain ⟨rfl, Nq97, eq98⟩ := hQ96
          have N99 := Fr.app N79 Nq97
          show own_Ends p e below s _ _ _ T96 (mkF m 314 #[.val (.int p0), .val (.int p1), .val (.int p2), .val (.int p3), .val (.int p4), .val (.int (2 : Int32)), .val (.int b32), .val (.int l34), .val (.int u35), .val (.int l36), .val (.int u37), .val (.int l38), .val (.int u39), .val (.int l40), .val (.int u41), .val (.int x42), .val (.ref a70), .val (.int (1 : Int32))] [(.int (own_c2 x42 l34 u35 l36 u37))])
          refine own_iload (pc' := 316) X96 hx (hb hby at_314) rfl rfl ?_
          have q_hc243_80 := own_inT hc243_80
          have hq100 : (own_c2 x42 l34 u35 l36 u37) = (1 : Int32) := by
            unfold own_c2
            split <;> first | rfl | (exfalso; omega)
          refine own_icmpNo (pc' := 319) X96 hx (hb hby at_316) rfl (teq hq100).2 ?_
          refine own_iconst (pc' := 320) (z := (1 : Int32)) X96 hx (hb hby at_319) rfl rfl ?_
          refine own_goto (pc' := 324) X96 hx (hb hby at_320) (by decide) (by decide) ?_
          refine own_retN X96 hx hlk hret (by simp) (hb hby at_324) (by decide) (by decide) ?_
          exact ⟨rfl, N99⟩
      · refine own_iconst (pc' := 147) (z := (2 : Int32)) X0 hx (hb hby at_146) rfl rfl ?_
        refine own_iload (pc' := 149) X0 hx (hb hby at_147) rfl rfl ?_
        refine own_imul (pc' := 150) (z := (6 : Int32)) X0 hx (hb hby at_149) rfl (by decide) ?_
        refine own_newarr (pc' := 152) (aty := .int) X0 hx hZ (own_w1 hw) e0 (hb hby at_150) rfl (by decide) 6 6 (by decide) (by decide) (by decide) (by decide) ?_
        intro T101 h101 a101 k101 X101 e101 E101 g101 V101
        replace V101 : Arv Z h101 a101 k101 .int (6 : Int32) [(.int (0 : Int32)), (.int (0 : Int32)), (.int (0 : Int32)), (.int (0 : Int32)), (.int (0 : Int32)), (.int (0 : Int32))] (.int (0 : Int32)) := V101
        have ge102 : n0 ≤ a101 := by rw [g101]; exact Z0
        show own_Ends p e below s _ _ _ T101 (mkF m 152 #[.val (.int p0), .val (.int p1), .val (.int p2), .val (.int p3), .val (.int p4), .val (.int (3 : Int32)), .val (.int b32), .val (.int l34), .val (.int u35), .val (.int l36), .val (.int u37), .val (.int l38), .val (.int u39), .val (.int l40), .val (.int u41), .val (.int x42), .unset, .unset] [(.ref a101)])
        refine own_astore (pc' := 154) (l' := #[.val (.int p0), .val (.int p1), .val (.int p2), .val (.int p3), .val (.int p4), .val (.int (3 : Int32)), .val (.int b32), .val (.int l34), .val (.int u35), .val (.int l36), .val (.int u37), .val (.int l38), .val (.int u39), .val (.int l40), .val (.int u41), .val (.int x42), .val (.ref a101), .unset]) X101 hx (hb hby at_152) rfl rfl rfl ?_
        refine own_iload (pc' := 156) X101 hx (hb hby at_154) rfl rfl ?_
        refine own_iconst (pc' := 157) (z := (1 : Int32)) X101 hx (hb hby at_156) rfl rfl ?_
        refine own_icmpNo (pc' := 160) X101 hx (hb hby at_157) rfl (flt (by decide)).1 ?_
        refine own_aload (pc' := 162) X101 hx (hb hby at_160) rfl rfl rfl ?_
        refine own_iconst (pc' := 163) (z := (0 : Int32)) X101 hx (hb hby at_162) rfl rfl ?_
        refine own_iload (pc' := 165) X101 hx (hb hby at_163) rfl rfl ?_
        refine own_iastore (pc' := 166) X101 hx hZ e101 V101 (hb hby at_165) rfl (by decide) 0 rfl (by simp) N0 ge102 ?_
        intro T103 h103 L103 X103 e103 N103 W103 V103
        replace V103 : Arv Z h103 a101 k101 .int (6 : Int32) [(.int l34), (.int (0 : Int32)), (.int (0 : Int32)), (.int (0 : Int32)), (.int (0 : Int32)), (.int (0 : Int32))] (.int (0 : Int32)) := V103
        show own_Ends p e below s _ _ _ T103 (mkF m 166 #[.val (.int p0), .val (.int p1), .val (.int p2), .val (.int p3), .val (.int p4), .val (.int (3 : Int32)), .val (.int b32), .val (.int l34), .val (.int u35), .val (.int l36), .val (.int u37), .val (.int l38), .val (.int u39), .val (.int l40), .val (.int u41), .val (.int x42), .val (.ref a101), .unset] [])
        refine own_aload (pc' := 168) X103 hx (hb hby at_166) rfl rfl rfl ?_
        refine own_iconst (pc' := 169) (z := (1 : Int32)) X103 hx (hb hby at_168) rfl rfl ?_
        refine own_iload (pc' := 171) X103 hx (hb hby at_169) rfl rfl ?_
        refine own_iastore (pc' := 172) X103 hx hZ e103 V103 (hb hby at_171) rfl (by decide) 1 rfl (by simp) N103 ge102 ?_
        intro T104 h104 L104 X104 e104 N104 W104 V104
        replace V104 : Arv Z h104 a101 k101 .int (6 : Int32) [(.int l34), (.int u35), (.int (0 : Int32)), (.int (0 : Int32)), (.int (0 : Int32)), (.int (0 : Int32))] (.int (0 : Int32)) := V104
        show own_Ends p e below s _ _ _ T104 (mkF m 172 #[.val (.int p0), .val (.int p1), .val (.int p2), .val (.int p3), .val (.int p4), .val (.int (3 : Int32)), .val (.int b32), .val (.int l34), .val (.int u35), .val (.int l36), .val (.int u37), .val (.int l38), .val (.int u39), .val (.int l40), .val (.int u41), .val (.int x42), .val (.ref a101), .unset] [])
        refine own_iload (pc' := 174) X104 hx (hb hby at_172) rfl rfl ?_
        refine own_iconst (pc' := 175) (z := (2 : Int32)) X104 hx (hb hby at_174) rfl rfl ?_
        refine own_icmpNo (pc' := 178) X104 hx (hb hby at_175) rfl (flt (by decide)).1 ?_
        refine own_aload (pc' := 180) X104 hx (hb hby at_178) rfl rfl rfl ?_
        refine own_iconst (pc' := 181) (z := (2 : Int32)) X104 hx (hb hby at_180) rfl rfl ?_
        refine own_iload (pc' := 183) X104 hx (hb hby at_181) rfl rfl ?_
        refine own_iastore (pc' := 184) X104 hx hZ e104 V104 (hb hby at_183) rfl (by decide) 2 rfl (by simp) N104 ge102 ?_
        intro T105 h105 L105 X105 e105 N105 W105 V105
        replace V105 : Arv Z h105 a101 k101 .int (6 : Int32) [(.int l34), (.int u35), (.int l36), (.int (0 : Int32)), (.int (0 : Int32)), (.int (0 : Int32))] (.int (0 : Int32)) := V105
        show own_Ends p e below s _ _ _ T105 (mkF m 184 #[.val (.int p0), .val (.int p1), .val (.int p2), .val (.int p3), .val (.int p4), .val (.int (3 : Int32)), .val (.int b32), .val (.int l34), .val (.int u35), .val (.int l36), .val (.int u37), .val (.int l38), .val (.int u39), .val (.int l40), .val (.int u41), .val (.int x42), .val (.ref a101), .unset] [])
        refine own_aload (pc' := 186) X105 hx (hb hby at_184) rfl rfl rfl ?_
        refine own_iconst (pc' := 187) (z := (3 : Int32)) X105 hx (hb hby at_186) rfl rfl ?_
        refine own_iload (pc' := 189) X105 hx (hb hby at_187) rfl rfl ?_
        refine own_iastore (pc' := 190) X105 hx hZ e105 V105 (hb hby at_189) rfl (by decide) 3 rfl (by simp) N105 ge102 ?_
        intro T106 h106 L106 X106 e106 N106 W106 V106
        replace V106 : Arv Z h106 a101 k101 .int (6 : Int32) [(.int l34), (.int u35), (.int l36), (.int u37), (.int (0 : Int32)), (.int (0 : Int32))] (.int (0 : Int32)) := V106
        show own_Ends p e below s _ _ _ T106 (mkF m 190 #[.val (.int p0), .val (.int p1), .val (.int p2), .val (.int p3), .val (.int p4), .val (.int (3 : Int32)), .val (.int b32), .val (.int l34), .val (.int u35), .val (.int l36), .val (.int u37), .val (.int l38), .val (.int u39), .val (.int l40), .val (.int u41), .val (.int x42), .val (.ref a101), .unset] [])
        refine own_iload (pc' := 192) X106 hx (hb hby at_190) rfl rfl ?_
        refine own_iconst (pc' := 193) (z := (3 : Int32)) X106 hx (hb hby at_192) rfl rfl ?_
        refine own_icmpNo (pc' := 196) X106 hx (hb hby at_193) rfl (flt (by decide)).1 ?_
        refine own_aload (pc' := 198) X106 hx (hb hby at_196) rfl rfl rfl ?_
        refine own_iconst (pc' := 199) (z := (4 : Int32)) X106 hx (hb hby at_198) rfl rfl ?_
        refine own_iload (pc' := 201) X106 hx (hb hby at_199) rfl rfl ?_
        refine own_iastore (pc' := 202) X106 hx hZ e106 V106 (hb hby at_201) rfl (by decide) 4 rfl (by simp) N106 ge102 ?_
        intro T107 h107 L107 X107 e107 N107 W107 V107
        replace V107 : Arv Z h107 a101 k101 .int (6 : Int32) [(.int l34), (.int u35), (.int l36), (.int u37), (.int l38), (.int (0 : Int32))] (.int (0 : Int32)) := V107
        show own_Ends p e below s _ _ _ T107 (mkF m 202 #[.val (.int p0), .val (.int p1), .val (.int p2), .val (.int p3), .val (.int p4), .val (.int (3 : Int32)), .val (.int b32), .val (.int l34), .val (.int u35), .val (.int l36), .val (.int u37), .val (.int l38), .val (.int u39), .val (.int l40), .val (.int u41), .val (.int x42), .val (.ref a101), .unset] [])
        refine own_aload (pc' := 204) X107 hx (hb hby at_202) rfl rfl rfl ?_
        refine own_iconst (pc' := 205) (z := (5 : Int32)) X107 hx (hb hby at_204) rfl rfl ?_
        refine own_iload (pc' := 207) X107 hx (hb hby at_205) rfl rfl ?_
        refine own_iastore (pc' := 208) X107 hx hZ e107 V107 (hb hby at_207) rfl (by decide) 5 rfl (by simp) N107 ge102 ?_
        intro T108 h108 L108 X108 e108 N108 W108 V108
        replace V108 : Arv Z h108 a101 k101 .int (6 : Int32) [(.int l34), (.int u35), (.int l36), (.int u37), (.int l38), (.int u39)] (.int (0 : Int32)) := V108
        show own_Ends p e below s _ _ _ T108 (mkF m 208 #[.val (.int p0), .val (.int p1), .val (.int p2), .val (.int p3), .val (.int p4), .val (.int (3 : Int32)), .val (.int b32), .val (.int l34), .val (.int u35), .val (.int l36), .val (.int u37), .val (.int l38), .val (.int u39), .val (.int l40), .val (.int u41), .val (.int x42), .val (.ref a101), .unset] [])
        refine own_iload (pc' := 210) X108 hx (hb hby at_208) rfl rfl ?_
        refine own_iconst (pc' := 211) (z := (4 : Int32)) X108 hx (hb hby at_210) rfl rfl ?_
        refine own_icmpYes (pc' := 228) X108 hx (hb hby at_211) (tlt (by decide)).1 (by decide) (by decide) ?_
        refine own_iload (pc' := 230) X108 hx (hb hby at_228) rfl rfl ?_
        refine own_iconst (pc' := 231) (z := (1 : Int32)) X108 hx (hb hby at_230) rfl rfl ?_
        refine own_icmpNo (pc' := 234) X108 hx (hb hby at_231) rfl (flt (by decide)).1 ?_
        refine own_iload (pc' := 236) X108 hx (hb hby at_234) rfl rfl ?_
        refine own_iload (pc' := 238) X108 hx (hb hby at_236) rfl rfl ?_
        refine own_iload (pc' := 240) X108 hx (hb hby at_238) rfl rfl ?_
        refine own_callS (pc' := 243) (y := (⟨"com/example/exacting_validator/exactingvalidator/pattern/CodePointSetsContainsPinLaw", "in", "(III)Z"⟩ : MethodName)) (W := 0) (rm := own_room2) (argsL := [(.int x42), (.int l34), (.int u35)]) (rest := []) X108 hx hZ e108 hown (by rw [hml]; rfl) (own_w6 hw) (own_w7 hw) (own_w8 hw) (own_w9 hw) (by decide) (own_rm2 l Z a0 hw [] x42 l34 u35 h108 n0) (by decide) (by decide) (by decide) (by decide) (lenOf own_pd1 rfl) rfl (by exact Nat.le_of_eq rfl) (hb hby at_240) rfl ?_
        intro T109 Lc109 v109 X109 hQ109
        obtain ⟨rfl, Nq110, eq111⟩ := hQ109
        have N112 := Fr.app N108 Nq110
        show own_Ends p e below s _ _ _ T109 (mkF m 243 #[.val (.int p0), .val (.int p1), .val (.int p2), .val (.int p3), .val (.int p4), .val (.int (3 : Int32)), .val (.int b32), .val (.int l34), .val (.int u35), .val (.int l36), .val (.int u37), .val (.int l38), .val (.int u39), .val (.int l40), .val (.int u41), .val (.int x42), .val (.ref a101), .unset] [(.int (own_in x42 l34 u35))])
        by_cases hc243_113 : (own_in x42 l34 u35) = (0 : Int32)
        · refine own_ifNo (pc' := 246) X109 hx (hb hby at_243) rfl (teq hc243_113).2 ?_
          refine own_iload (pc' := 248) X109 hx (hb hby at_246) rfl rfl ?_
          refine own_iconst (pc' := 249) (z := (2 : Int32)) X109 hx (hb hby at_248) rfl rfl ?_
          refine own_icmpNo (pc' := 252) X109 hx (hb hby at_249) rfl (flt (by decide)).1 ?_
          refine own_iload (pc' := 254) X109 hx (hb hby at_252) rfl rfl ?_
          refine own_iload (pc' := 256) X109 hx (hb hby at_254) rfl rfl ?_
          refine own_iload (pc' := 258) X109 hx (hb hby at_256) rfl rfl ?_
          refine own_callS (pc' := 261) (y := (⟨"com/example/exacting_validator/exactingvalidator/pattern/CodePointSetsContainsPinLaw", "in", "(III)Z"⟩ : MethodName)) (W := 0) (rm := own_room2) (argsL := [(.int x42), (.int l36), (.int u37)]) (rest := []) X109 hx hZ eq111 hown (by rw [hml]; rfl) (own_w6 hw) (own_w7 hw) (own_w8 hw) (own_w9 hw) (by decide) (own_rm2 l Z a0 hw [] x42 l36 u37 h108 n0) (by decide) (by decide) (by decide) (by decide) (lenOf own_pd1 rfl) rfl (by exact Nat.le_of_eq rfl) (hb hby at_258) rfl ?_
          intro T114 Lc114 v114 X114 hQ114
          obtain ⟨rfl, Nq115, eq116⟩ := hQ114
          have N117 := Fr.app N112 Nq115
          show own_Ends p e below s _ _ _ T114 (mkF m 261 #[.val (.int p0), .val (.int p1), .val (.int p2), .val (.int p3), .val (.int p4), .val (.int (3 : Int32)), .val (.int b32), .val (.int l34), .val (.int u35), .val (.int l36), .val (.int u37), .val (.int l38), .val (.int u39), .val (.int l40), .val (.int u41), .val (.int x42), .val (.ref a101), .unset] [(.int (own_in x42 l36 u37))])
          by_cases hc261_118 : (own_in x42 l36 u37) = (0 : Int32)
          · refine own_ifNo (pc' := 264) X114 hx (hb hby at_261) rfl (teq hc261_118).2 ?_
            refine own_iload (pc' := 266) X114 hx (hb hby at_264) rfl rfl ?_
            refine own_iconst (pc' := 267) (z := (3 : Int32)) X114 hx (hb hby at_266) rfl rfl ?_
            refine own_icmpNo (pc' := 270) X114 hx (hb hby at_267) rfl (flt (by decide)).1 ?_
            refine own_iload (pc' := 272) X114 hx (hb hby at_270) rfl rfl ?_
            refine own_iload (pc' := 274) X114 hx (hb hby at_272) rfl rfl ?_
            refine own_iload (pc' := 276) X114 hx (hb hby at_274) rfl rfl ?_
            refine own_callS (pc' := 279) (y := (⟨"com/example/exacting_validator/exactingvalidator/pattern/CodePointSetsContainsPinLaw", "in", "(III)Z"⟩ : MethodName)) (W := 0) (rm := own_room2) (argsL := [(.int x42), (.int l38), (.int u39)]) (rest := []) X114 hx hZ eq116 hown (by rw [hml]; rfl) (own_w6 hw) (own_w7 hw) (own_w8 hw) (own_w9 hw) (by decide) (own_rm2 l Z a0 hw [] x42 l38 u39 h108 n0) (by decide) (by decide) (by decide) (by decide) (lenOf own_pd1 rfl) rfl (by exact Nat.le_of_eq rfl) (hb hby at_276) rfl ?_
            intro T119 Lc119 v119 X119 hQ119
            obtain ⟨rfl, Nq120, eq121⟩ := hQ119
            have N122 := Fr.app N117 Nq120
            show own_Ends p e below s _ _ _ T119 (mkF m 279 #[.val (.int p0), .val (.int p1), .val (.int p2), .val (.int p3), .val (.int p4), .val (.int (3 : Int32)), .val (.int b32), .val (.int l34), .val (.int u35), .val (.int l36), .val (.int u37), .val (.int l38), .val (.int u39), .val (.int l40), .val (.int u41), .val (.int x42), .val (.ref a101), .unset] [(.int (own_in x42 l38 u39))])
            by_cases hc279_123 : (own_in x42 l38 u39) = (0 : Int32)
            · refine own_ifNo (pc' := 282) X119 hx (hb hby at_279) rfl (teq hc279_123).2 ?_
              refine own_iload (pc' := 284) X119 hx (hb hby at_282) rfl rfl ?_
              refine own_iconst (pc' := 285) (z := (4 : Int32)) X119 hx (hb hby at_284) rfl rfl ?_
              refine own_icmpYes (pc' := 304) X119 hx (hb hby at_285) (tlt (by decide)).1 (by decide) (by decide) ?_
              refine own_iconst (pc' := 305) (z := (0 : Int32)) X119 hx (hb hby at_304) rfl rfl ?_
              refine own_istore (pc' := 307) (l' := #[.val (.int p0), .val (.int p1), .val (.int p2), .val (.int p3), .val (.int p4), .val (.int (3 : Int32)), .val (.int b32), .val (.int l34), .val (.int u35), .val (.int l36), .val (.int u37), .val (.int l38), .val (.int u39), .val (.int l40), .val (.int u41), .val (.int x42), .val (.ref a101), .val (.int (0 : Int32))]) X119 hx (hb hby at_305) rfl rfl ?_
              refine own_aload (pc' := 309) X119 hx (hb hby at_307) rfl rfl rfl ?_
              refine own_iload (pc' := 311) X119 hx (hb hby at_309) rfl rfl ?_
              refine own_callS (pc' := 314) (y := (⟨"com/example/exacting_validator/exactingvalidator/pattern/CodePointSets", "contains", "([II)Z"⟩ : MethodName)) (W := 0) (rm := own_room1_3) (argsL := [(.ref a101), (.int x42)]) (rest := []) X119 hx hZ eq121 hown (by rw [hml]; rfl) (own_w2 hw) (own_w3 hw) (own_w4 hw) (own_w5 hw) (by decide) (own_rm1_3 l Z a0 hw [] a101 x42 k101 l34 u35 l36 u37 l38 u39 h108 n0 V108 (by omega) (by omega) (by omega) (by omega) (by omega)) (by decide) (by decide) (by decide) (by decide) (lenOf own_pd0 rfl) rfl (by exact Nat.le_of_eq rfl) (hb hby at_311) rfl ?_
              intro T124 Lc124 v124 X124 hQ124
              obtain ⟨rfl, Nq125, eq126⟩ := hQ124
              have N127 := Fr.app N122 Nq125
              show own_Ends p e below s _ _ _ T124 (mkF m 314 #[.val (.int p0), .val (.int p1), .val (.int p2), .val (.int p3), .val (.int p4), .val (.int (3 : Int32)), .val (.int b32), .val (.int l34), .val (.int u35), .val (.int l36), .val (.int u37), .val (.int l38), .val (.int u39), .val (.int l40), .val (.int u41), .val (.int x42), .val (.ref a101), .val (.int (0 : Int32))] [(.int (own_c3 x42 l34 u35 l36 u37 l38 u39))])
              refine own_iload (pc' := 316) X124 hx (hb hby at_314) rfl rfl ?_
              have q_hc243_113 := own_inF hc243_113
              have q_hc261_118 := own_inF hc261_118
              have q_hc279_123 := own_inF hc279_123
              have hq128 : (own_c3 x42 l34 u35 l36 u37 l38 u39) = (0 : Int32) := by
                unfold own_c3
                split <;> first | rfl | (exfalso; omega)
              refine own_icmpNo (pc' := 319) X124 hx (hb hby at_316) rfl (teq hq128).2 ?_
              refine own_iconst (pc' := 320) (z := (1 : Int32)) X124 hx (hb hby at_319) rfl rfl ?_
              refine own_goto (pc' := 324) X124 hx (hb hby at_320) (by decide) (by decide) ?_
              refine own_retN X124 hx hlk hret (by simp) (hb hby at_324) (by decide) (by decide) ?_
              exact ⟨rfl, N127⟩
            · refine own_ifYes (pc' := 300) X119 hx (hb hby at_279) (feq hc279_123).2 (by decide) (by decide) ?_
              refine own_iconst (pc' := 301) (z := (1 : Int32)) X119 hx (hb hby at_300) rfl rfl ?_
              refine own_goto (pc' := 305) X119 hx (hb hby at_301) (by decide) (by decide) ?_
              refine own_istore (pc' := 307) (l' := #[.val (.int p0), .val (.int p1), .val (.int p2), .val (.int p3), .val (.int p4), .val (.int (3 : Int32)), .val (.int b32), .val (.int l34), .val (.int u35), .val (.int l36), .val (.int u37), .val (.int l38), .val (.int u39), .val (.int l40), .val (.int u41), .val (.int x42), .val (.ref a101), .val (.int (1 : Int32))]) X119 hx (hb hby at_305) rfl rfl ?_
              refine own_aload (pc' := 309) X119 hx (hb hby at_307) rfl rfl rfl ?_
              refine own_iload (pc' := 311) X119 hx (hb hby at_309) rfl rfl ?_
              refine own_callS (pc' := 314) (y := (⟨"com/example/exacting_validator/exactingvalidator/pattern/CodePointSets", "contains", "([II)Z"⟩ : MethodName)) (W := 0) (rm := own_room1_3) (argsL := [(.ref a101), (.int x42)]) (rest := []) X119 hx hZ eq121 hown (by rw [hml]; rfl) (own_w2 hw) (own_w3 hw) (own_w4 hw) (own_w5 hw) (by decide) (own_rm1_3 l Z a0 hw [] a101 x42 k101 l34 u35 l36 u37 l38 u39 h108 n0 V108 (by omega) (by omega) (by omega) (by omega) (by omega)) (by decide) (by decide) (by decide) (by decide) (lenOf own_pd0 rfl) rfl (by exact Nat.le_of_eq rfl) (hb hby at_311) rfl ?_
              intro T129 Lc129 v129 X129 hQ129
              obtain ⟨rfl, Nq130, eq131⟩ := hQ129
              have N132 := Fr.app N122 Nq130
              show own_Ends p e below s _ _ _ T129 (mkF m 314 #[.val (.int p0), .val (.int p1), .val (.int p2), .val (.int p3), .val (.int p4), .val (.int (3 : Int32)), .val (.int b32), .val (.int l34), .val (.int u35), .val (.int l36), .val (.int u37), .val (.int l38), .val (.int u39), .val (.int l40), .val (.int u41), .val (.int x42), .val (.ref a101), .val (.int (1 : Int32))] [(.int (own_c3 x42 l34 u35 l36 u37 l38 u39))])
              refine own_iload (pc' := 316) X129 hx (hb hby at_314) rfl rfl ?_
              have q_hc243_113 := own_inF hc243_113
              have q_hc261_118 := own_inF hc261_118
              have q_hc279_123 := own_inT hc279_123
              have hq133 : (own_c3 x42 l34 u35 l36 u37 l38 u39) = (1 : Int32) := by
                unfold own_c3
                split <;> first | rfl | (exfalso; omega)
              refine own_icmpNo (pc' := 319) X129 hx (hb hby at_316) rfl (teq hq133).2 ?_
              refine own_iconst (pc' := 320) (z := (1 : Int32)) X129 hx (hb hby at_319) rfl rfl ?_
              refine own_goto (pc' := 324) X129 hx (hb hby at_320) (by decide) (by decide) ?_
              refine own_retN X129 hx hlk hret (by simp) (hb hby at_324) (by decide) (by decide) ?_
              exact ⟨rfl, N132⟩
          · refine own_ifYes (pc' := 300) X114 hx (hb hby at_261) (feq hc261_118).2 (by decide) (by decide) ?_
            refine own_iconst (pc' := 301) (z := (1 : Int32)) X114 hx (hb hby at_300) rfl rfl ?_
            refine own_goto (pc' := 305) X114 hx (hb hby at_301) (by decide) (by decide) ?_
            refine own_istore (pc' := 307) (l' := #[.val (.int p0), .val (.int p1), .val (.int p2), .val (.int p3), .val (.int p4), .val (.int (3 : Int32)), .val (.int b32), .val (.int l34), .val (.int u35), .val (.int l36), .val (.int u37), .val (.int l38), .val (.int u39), .val (.int l40), .val (.int u41), .val (.int x42), .val (.ref a101), .val (.int (1 : Int32))]) X114 hx (hb hby at_305) rfl rfl ?_
            refine own_aload (pc' := 309) X114 hx (hb hby at_307) rfl rfl rfl ?_
            refine own_iload (pc' := 311) X114 hx (hb hby at_309) rfl rfl ?_
            refine own_callS (pc' := 314) (y := (⟨"com/example/exacting_validator/exactingvalidator/pattern/CodePointSets", "contains", "([II)Z"⟩ : MethodName)) (W := 0) (rm := own_room1_3) (argsL := [(.ref a101), (.int x42)]) (rest := []) X114 hx hZ eq116 hown (by rw [hml]; rfl) (own_w2 hw) (own_w3 hw) (own_w4 hw) (own_w5 hw) (by decide) (own_rm1_3 l Z a0 hw [] a101 x42 k101 l34 u35 l36 u37 l38 u39 h108 n0 V108 (by omega) (by omega) (by omega) (by omega) (by omega)) (by decide) (by decide) (by decide) (by decide) (lenOf own_pd0 rfl) rfl (by exact Nat.le_of_eq rfl) (hb hby at_311) rfl ?_
            intro T134 Lc134 v134 X134 hQ134
            obtain ⟨rfl, Nq135, eq136⟩ := hQ134
            have N137 := Fr.app N117 Nq135
            show own_Ends p e below s _ _ _ T134 (mkF m 314 #[.val (.int p0), .val (.int p1), .val (.int p2), .val (.int p3), .val (.int p4), .val (.int (3 : Int32)), .val (.int b32), .val (.int l34), .val (.int u35), .val (.int l36), .val (.int u37), .val (.int l38), .val (.int u39), .val (.int l40), .val (.int u41), .val (.int x42), .val (.ref a101), .val (.int (1 : Int32))] [(.int (own_c3 x42 l34 u35 l36 u37 l38 u39))])
            refine own_iload (pc' := 316) X134 hx (hb hby at_314) rfl rfl ?_
            have q_hc243_113 := own_inF hc243_113
            have q_hc261_118 := own_inT hc261_118
            have hq138 : (own_c3 x42 l34 u35 l36 u37 l38 u39) = (1 : Int32) := by
              unfold own_c3
              split <;> first | rfl | (exfalso; omega)
            refine own_icmpNo (pc' := 319) X134 hx (hb hby at_316) rfl (teq hq138).2 ?_
            refine own_iconst (pc' := 320) (z := (1 : Int32)) X134 hx (hb hby at_319) rfl rfl ?_
            refine own_goto (pc' := 324) X134 hx (hb hby at_320) (by decide) (by decide) ?_
            refine own_retN X134 hx hlk hret (by simp) (hb hby at_324) (by decide) (by decide) ?_
            exact ⟨rfl, N137⟩
        · refine own_ifYes (pc' := 300) X109 hx (hb hby at_243) (feq hc243_113).2 (by decide) (by decide) ?_
          refine own_iconst (pc' := 301) (z := (1 : Int32)) X109 hx (hb hby at_300) rfl rfl ?_
          refine own_goto (pc' := 305) X109 hx (hb hby at_301) (by decide) (by decide) ?_
          refine own_istore (pc' := 307) (l' := #[.val (.int p0), .val (.int p1), .val (.int p2), .val (.int p3), .val (.int p4), .val (.int (3 : Int32)), .val (.int b32), .val (.int l34), .val (.int u35), .val (.int l36), .val (.int u37), .val (.int l38), .val (.int u39), .val (.int l40), .val (.int u41), .val (.int x42), .val (.ref a101), .val (.int (1 : Int32))]) X109 hx (hb hby at_305) rfl rfl ?_
          refine own_aload (pc' := 309) X109 hx (hb hby at_307) rfl rfl rfl ?_
          refine own_iload (pc' := 311) X109 hx (hb hby at_309) rfl rfl ?_
          refine own_callS (pc' := 314) (y := (⟨"com/example/exacting_validator/exactingvalidator/pattern/CodePointSets", "contains", "([II)Z"⟩ : MethodName)) (W := 0) (rm := own_room1_3) (argsL := [(.ref a101), (.int x42)]) (rest := []) X109 hx hZ eq111 hown (by rw [hml]; rfl) (own_w2 hw) (own_w3 hw) (own_w4 hw) (own_w5 hw) (by decide) (own_rm1_3 l Z a0 hw [] a101 x42 k101 l34 u35 l36 u37 l38 u39 h108 n0 V108 (by omega) (by omega) (by omega) (by omega) (by omega)) (by decide) (by decide) (by decide) (by decide) (lenOf own_pd0 rfl) rfl (by exact Nat.le_of_eq rfl) (hb hby at_311) rfl ?_
          intro T139 Lc139 v139 X139 hQ139
          obtain ⟨rfl, Nq140, eq141⟩ := hQ139
          have N142 := Fr.app N112 Nq140
          show own_Ends p e below s _ _ _ T139 (mkF m 314 #[.val (.int p0), .val (.int p1), .val (.int p2), .val (.int p3), .val (.int p4), .val (.int (3 : Int32)), .val (.int b32), .val (.int l34), .val (.int u35), .val (.int l36), .val (.int u37), .val (.int l38), .val (.int u39), .val (.int l40), .val (.int u41), .val (.int x42), .val (.ref a101), .val (.int (1 : Int32))] [(.int (own_c3 x42 l34 u35 l36 u37 l38 u39))])
          refine own_iload (pc' := 316) X139 hx (hb hby at_314) rfl rfl ?_
          have q_hc243_113 := own_inT hc243_113
          have hq143 : (own_c3 x42 l34 u35 l36 u37 l38 u39) = (1 : Int32) := by
            unfold own_c3
            split <;> first | rfl | (exfalso; omega)
          refine own_icmpNo (pc' := 319) X139 hx (hb hby at_316) rfl (teq hq143).2 ?_
          refine own_iconst (pc' := 320) (z := (1 : Int32)) X139 hx (hb hby at_319) rfl rfl ?_
          refine own_goto (pc' := 324) X139 hx (hb hby at_320) (by decide) (by decide) ?_
          refine own_retN X139 hx hlk hret (by simp) (hb hby at_324) (by decide) (by decide) ?_
          exact ⟨rfl, N142⟩
      · refine own_iconst (pc' := 147) (z := (2 : Int32)) X0 hx (hb hby at_146) rfl rfl ?_
        refine own_iload (pc' := 149) X0 hx (hb hby at_147) rfl rfl ?_
        refine own_imul (pc' := 150) (z := (8 : Int32)) X0 hx (hb hby at_149) rfl (by decide) ?_
        refine own_newarr (pc' := 152) (aty := .int) X0 hx hZ (own_w1 hw) e0 (hb hby at_150) rfl (by decide) 8 8 (by decide) (by decide) (by decide) (by decide) ?_
        intro T144 h144 a144 k144 X144 e144 E144 g144 V144
        replace V144 : Arv Z h144 a144 k144 .int (8 : Int32) [(.int (0 : Int32)), (.int (0 : Int32)), (.int (0 : Int32)), (.int (0 : Int32)), (.int (0 : Int32)), (.int (0 : Int32)), (.int (0 : Int32)), (.int (0 : Int32))] (.int (0 : Int32)) := V144
        have ge145 : n0 ≤ a144 := by rw [g144]; exact Z0
        show own_Ends p e below s _ _ _ T144 (mkF m 152 #[.val (.int p0), .val (.int p1), .val (.int p2), .val (.int p3), .val (.int p4), .val (.int (4 : Int32)), .val (.int b32), .val (.int l34), .val (.int u35), .val (.int l36), .val (.int u37), .val (.int l38), .val (.int u39), .val (.int l40), .val (.int u41), .val (.int x42), .unset, .unset] [(.ref a144)])
        refine own_astore (pc' := 154) (l' := #[.val (.int p0), .val (.int p1), .val (.int p2), .val (.int p3), .val (.int p4), .val (.int (4 : Int32)), .val (.int b32), .val (.int l34), .val (.int u35), .val (.int l36), .val (.int u37), .val (.int l38), .val (.int u39), .val (.int l40), .val (.int u41), .val (.int x42), .val (.ref a144), .unset]) X144 hx (hb hby at_152) rfl rfl rfl ?_
        refine own_iload (pc' := 156) X144 hx (hb hby at_154) rfl rfl ?_
        refine own_iconst (pc' := 157) (z := (1 : Int32)) X144 hx (hb hby at_156) rfl rfl ?_
        refine own_icmpNo (pc' := 160) X144 hx (hb hby at_157) rfl (flt (by decide)).1 ?_
        refine own_aload (pc' := 162) X144 hx (hb hby at_160) rfl rfl rfl ?_
        refine own_iconst (pc' := 163) (z := (0 : Int32)) X144 hx (hb hby at_162) rfl rfl ?_
        refine own_iload (pc' := 165) X144 hx (hb hby at_163) rfl rfl ?_
        refine own_iastore (pc' := 166) X144 hx hZ e144 V144 (hb hby at_165) rfl (by decide) 0 rfl (by simp) N0 ge145 ?_
        intro T146 h146 L146 X146 e146 N146 W146 V146
        replace V146 : Arv Z h146 a144 k144 .int (8 : Int32) [(.int l34), (.int (0 : Int32)), (.int (0 : Int32)), (.int (0 : Int32)), (.int (0 : Int32)), (.int (0 : Int32)), (.int (0 : Int32)), (.int (0 : Int32))] (.int (0 : Int32)) := V146
        show own_Ends p e below s _ _ _ T146 (mkF m 166 #[.val (.int p0), .val (.int p1), .val (.int p2), .val (.int p3), .val (.int p4), .val (.int (4 : Int32)), .val (.int b32), .val (.int l34), .val (.int u35), .val (.int l36), .val (.int u37), .val (.int l38), .val (.int u39), .val (.int l40), .val (.int u41), .val (.int x42), .val (.ref a144), .unset] [])
        refine own_aload (pc' := 168) X146 hx (hb hby at_166) rfl rfl rfl ?_
        refine own_iconst (pc' := 169) (z := (1 : Int32)) X146 hx (hb hby at_168) rfl rfl ?_
        refine own_iload (pc' := 171) X146 hx (hb hby at_169) rfl rfl ?_
        refine own_iastore (pc' := 172) X146 hx hZ e146 V146 (hb hby at_171) rfl (by decide) 1 rfl (by simp) N146 ge145 ?_
        intro T147 h147 L147 X147 e147 N147 W147 V147
        replace V147 : Arv Z h147 a144 k144 .int (8 : Int32) [(.int l34), (.int u35), (.int (0 : Int32)), (.int (0 : Int32)), (.int (0 : Int32)), (.int (0 : Int32)), (.int (0 : Int32)), (.int (0 : Int32))] (.int (0 : Int32)) := V147
        show own_Ends p e below s _ _ _ T147 (mkF m 172 #[.val (.int p0), .val (.int p1), .val (.int p2), .val (.int p3), .val (.int p4), .val (.int (4 : Int32)), .val (.int b32), .val (.int l34), .val (.int u35), .val (.int l36), .val (.int u37), .val (.int l38), .val (.int u39), .val (.int l40), .val (.int u41), .val (.int x42), .val (.ref a144), .unset] [])
        refine own_iload (pc' := 174) X147 hx (hb hby at_172) rfl rfl ?_
        refine own_iconst (pc' := 175) (z := (2 : Int32)) X147 hx (hb hby at_174) rfl rfl ?_
        refine own_icmpNo (pc' := 178) X147 hx (hb hby at_175) rfl (flt (by decide)).1 ?_
        refine own_aload (pc' := 180) X147 hx (hb hby at_178) rfl rfl rfl ?_
        refine own_iconst (pc' := 181) (z := (2 : Int32)) X147 hx (hb hby at_180) rfl rfl ?_
        refine own_iload (pc' := 183) X147 hx (hb hby at_181) rfl rfl ?_
        refine own_iastore (pc' := 184) X147 hx hZ e147 V147 (hb hby at_183) rfl (by decide) 2 rfl (by simp) N147 ge145 ?_
        intro T148 h148 L148 X148 e148 N148 W148 V148
        replace V148 : Arv Z h148 a144 k144 .int (8 : Int32) [(.int l34), (.int u35), (.int l36), (.int (0 : Int32)), (.int (0 : Int32)), (.int (0 : Int32)), (.int (0 : Int32)), (.int (0 : Int32))] (.int (0 : Int32)) := V148
        show own_Ends p e below s _ _ _ T148 (mkF m 184 #[.val (.int p0), .val (.int p1), .val (.int p2), .val (.int p3), .val (.int p4), .val (.int (4 : Int32)), .val (.int b32), .val (.int l34), .val (.int u35), .val (.int l36), .val (.int u37), .val (.int l38), .val (.int u39), .val (.int l40), .val (.int u41), .val (.int x42), .val (.ref a144), .unset] [])
        refine own_aload (pc' := 186) X148 hx (hb hby at_184) rfl rfl rfl ?_
        refine own_iconst (pc' := 187) (z := (3 : Int32)) X148 hx (hb hby at_186) rfl rfl ?_
        refine own_iload (pc' := 189) X148 hx (hb hby at_187) rfl rfl ?_
        refine own_iastore (pc' := 190) X148 hx hZ e148 V148 (hb hby at_189) rfl (by decide) 3 rfl (by simp) N148 ge145 ?_
        intro T149 h149 L149 X149 e149 N149 W149 V149
        replace V149 : Arv Z h149 a144 k144 .int (8 : Int32) [(.int l34), (.int u35), (.int l36), (.int u37), (.int (0 : Int32)), (.int (0 : Int32)), (.int (0 : Int32)), (.int (0 : Int32))] (.int (0 : Int32)) := V149
        show own_Ends p e below s _ _ _ T149 (mkF m 190 #[.val (.int p0), .val (.int p1), .val (.int p2), .val (.int p3), .val (.int p4), .val (.int (4 : Int32)), .val (.int b32), .val (.int l34), .val (.int u35), .val (.int l36), .val (.int u37), .val (.int l38), .val (.int u39), .val (.int l40), .val (.int u41), .val (.int x42), .val (.ref a144), .unset] [])
        refine own_iload (pc' := 192) X149 hx (hb hby at_190) rfl rfl ?_
        refine own_iconst (pc' := 193) (z := (3 : Int32)) X149 hx (hb hby at_192) rfl rfl ?_
        refine own_icmpNo (pc' := 196) X149 hx (hb hby at_193) rfl (flt (by decide)).1 ?_
        refine own_aload (pc' := 198) X149 hx (hb hby at_196) rfl rfl rfl ?_
        refine own_iconst (pc' := 199) (z := (4 : Int32)) X149 hx (hb hby at_198) rfl rfl ?_
        refine own_iload (pc' := 201) X149 hx (hb hby at_199) rfl rfl ?_
        refine own_iastore (pc' := 202) X149 hx hZ e149 V149 (hb hby at_201) rfl (by decide) 4 rfl (by simp) N149 ge145 ?_
        intro T150 h150 L150 X150 e150 N150 W150 V150
        replace V150 : Arv Z h150 a144 k144 .int (8 : Int32) [(.int l34), (.int u35), (.int l36), (.int u37), (.int l38), (.int (0 : Int32)), (.int (0 : Int32)), (.int (0 : Int32))] (.int (0 : Int32)) := V150
        show own_Ends p e below s _ _ _ T150 (mkF m 202 #[.val (.int p0), .val (.int p1), .val (.int p2), .val (.int p3), .val (.int p4), .val (.int (4 : Int32)), .val (.int b32), .val (.int l34), .val (.int u35), .val (.int l36), .val (.int u37), .val (.int l38), .val (.int u39), .val (.int l40), .val (.int u41), .val (.int x42), .val (.ref a144), .unset] [])
        refine own_aload (pc' := 204) X150 hx (hb hby at_202) rfl rfl rfl ?_
        refine own_iconst (pc' := 205) (z := (5 : Int32)) X150 hx (hb hby at_204) rfl rfl ?_
        refine own_iload (pc' := 207) X150 hx (hb hby at_205) rfl rfl ?_
        refine own_iastore (pc' := 208) X150 hx hZ e150 V150 (hb hby at_207) rfl (by decide) 5 rfl (by simp) N150 ge145 ?_
        intro T151 h151 L151 X151 e151 N151 W151 V151
        replace V151 : Arv Z h151 a144 k144 .int (8 : Int32) [(.int l34), (.int u35), (.int l36), (.int u37), (.int l38), (.int u39), (.int (0 : Int32)), (.int (0 : Int32))] (.int (0 : Int32)) := V151
        show own_Ends p e below s _ _ _ T151 (mkF m 208 #[.val (.int p0), .val (.int p1), .val (.int p2), .val (.int p3), .val (.int p4), .val (.int (4 : Int32)), .val (.int b32), .val (.int l34), .val (.int u35), .val (.int l36), .val (.int u37), .val (.int l38), .val (.int u39), .val (.int l40), .val (.int u41), .val (.int x42), .val (.ref a144), .unset] [])
        refine own_iload (pc' := 210) X151 hx (hb hby at_208) rfl rfl ?_
        refine own_iconst (pc' := 211) (z := (4 : Int32)) X151 hx (hb hby at_210) rfl rfl ?_
        refine own_icmpNo (pc' := 214) X151 hx (hb hby at_211) rfl (flt (by decide)).1 ?_
        refine own_aload (pc' := 216) X151 hx (hb hby at_214) rfl rfl rfl ?_
        refine own_bipush (pc' := 218) (z := (6 : Int32)) X151 hx (hb hby at_216) rfl rfl ?_
        refine own_iload (pc' := 220) X151 hx (hb hby at_218) rfl rfl ?_
        refine own_iastore (pc' := 221) X151 hx hZ e151 V151 (hb hby at_220) rfl (by decide) 6 rfl (by simp) N151 ge145 ?_
        intro T152 h152 L152 X152 e152 N152 W152 V152
        replace V152 : Arv Z h152 a144 k144 .int (8 : Int32) [(.int l34), (.int u35), (.int l36), (.int u37), (.int l38), (.int u39), (.int l40), (.int (0 : Int32))] (.int (0 : Int32)) := V152
        show own_Ends p e below s _ _ _ T152 (mkF m 221 #[.val (.int p0), .val (.int p1), .val (.int p2), .val (.int p3), .val (.int p4), .val (.int (4 : Int32)), .val (.int b32), .val (.int l34), .val (.int u35), .val (.int l36), .val (.int u37), .val (.int l38), .val (.int u39), .val (.int l40), .val (.int u41), .val (.int x42), .val (.ref a144), .unset] [])
        refine own_aload (pc' := 223) X152 hx (hb hby at_221) rfl rfl rfl ?_
        refine own_bipush (pc' := 225) (z := (7 : Int32)) X152 hx (hb hby at_223) rfl rfl ?_
        refine own_iload (pc' := 227) X152 hx (hb hby at_225) rfl rfl ?_
        refine own_iastore (pc' := 228) X152 hx hZ e152 V152 (hb hby at_227) rfl (by decide) 7 rfl (by simp) N152 ge145 ?_
        intro T153 h153 L153 X153 e153 N153 W153 V153
        replace V153 : Arv Z h153 a144 k144 .int (8 : Int32) [(.int l34), (.int u35), (.int l36), (.int u37), (.int l38), (.int u39), (.int l40), (.int u41)] (.int (0 : Int32)) := V153
        show own_Ends p e below s _ _ _ T153 (mkF m 228 #[.val (.int p0), .val (.int p1), .val (.int p2), .val (.int p3), .val (.int p4), .val (.int (4 : Int32)), .val (.int b32), .val (.int l34), .val (.int u35), .val (.int l36), .val (.int u37), .val (.int l38), .val (.int u39), .val (.int l40), .val (.int u41), .val (.int x42), .val (.ref a144), .unset] [])
        refine own_iload (pc' := 230) X153 hx (hb hby at_228) rfl rfl ?_
        refine own_iconst (pc' := 231) (z := (1 : Int32)) X153 hx (hb hby at_230) rfl rfl ?_
        refine own_icmpNo (pc' := 234) X153 hx (hb hby at_231) rfl (flt (by decide)).1 ?_
        refine own_iload (pc' := 236) X153 hx (hb hby at_234) rfl rfl ?_
        refine own_iload (pc' := 238) X153 hx (hb hby at_236) rfl rfl ?_
        refine own_iload (pc' := 240) X153 hx (hb hby at_238) rfl rfl ?_
        refine own_callS (pc' := 243) (y := (⟨"com/example/exacting_validator/exactingvalidator/pattern/CodePointSetsContainsPinLaw", "in", "(III)Z"⟩ : MethodName)) (W := 0) (rm := own_room2) (argsL := [(.int x42), (.int l34), (.int u35)]) (rest := []) X153 hx hZ e153 hown (by rw [hml]; rfl) (own_w6 hw) (own_w7 hw) (own_w8 hw) (own_w9 hw) (by decide) (own_rm2 l Z a0 hw [] x42 l34 u35 h153 n0) (by decide) (by decide) (by decide) (by decide) (lenOf own_pd1 rfl) rfl (by exact Nat.le_of_eq rfl) (hb hby at_240) rfl ?_
        intro T154 Lc154 v154 X154 hQ154
        obtain ⟨rfl, Nq155, eq156⟩ := hQ154
        have N157 := Fr.app N153 Nq155
        show own_Ends p e below s _ _ _ T154 (mkF m 243 #[.val (.int p0), .val (.int p1), .val (.int p2), .val (.int p3), .val (.int p4), .val (.int (4 : Int32)), .val (.int b32), .val (.int l34), .val (.int u35), .val (.int l36), .val (.int u37), .val (.int l38), .val (.int u39), .val (.int l40), .val (.int u41), .val (.int x42), .val (.ref a144), .unset] [(.int (own_in x42 l34 u35))])
        by_cases hc243_158 : (own_in x42 l34 u35) = (0 : Int32)
        · refine own_ifNo (pc' := 246) X154 hx (hb hby at_243) rfl (teq hc243_158).2 ?_
          refine own_iload (pc' := 248) X154 hx (hb hby at_246) rfl rfl ?_
          refine own_iconst (pc' := 249) (z := (2 : Int32)) X154 hx (hb hby at_248) rfl rfl ?_
          refine own_icmpNo (pc' := 252) X154 hx (hb hby at_249) rfl (flt (by decide)).1 ?_
          refine own_iload (pc' := 254) X154 hx (hb hby at_252) rfl rfl ?_
          refine own_iload (pc' := 256) X154 hx (hb hby at_254) rfl rfl ?_
          refine own_iload (pc' := 258) X154 hx (hb hby at_256) rfl rfl ?_
          refine own_callS (pc' := 261) (y := (⟨"com/example/exacting_validator/exactingvalidator/pattern/CodePointSetsContainsPinLaw", "in", "(III)Z"⟩ : MethodName)) (W := 0) (rm := own_room2) (argsL := [(.int x42), (.int l36), (.int u37)]) (rest := []) X154 hx hZ eq156 hown (by rw [hml]; rfl) (own_w6 hw) (own_w7 hw) (own_w8 hw) (own_w9 hw) (by decide) (own_rm2 l Z a0 hw [] x42 l36 u37 h153 n0) (by decide) (by decide) (by decide) (by decide) (lenOf own_pd1 rfl) rfl (by exact Nat.le_of_eq rfl) (hb hby at_258) rfl ?_
          intro T159 Lc159 v159 X159 hQ159
          obtain ⟨rfl, Nq160, eq161⟩ := hQ159
          have N162 := Fr.app N157 Nq160
          show own_Ends p e below s _ _ _ T159 (mkF m 261 #[.val (.int p0), .val (.int p1), .val (.int p2), .val (.int p3), .val (.int p4), .val (.int (4 : Int32)), .val (.int b32), .val (.int l34), .val (.int u35), .val (.int l36), .val (.int u37), .val (.int l38), .val (.int u39), .val (.int l40), .val (.int u41), .val (.int x42), .val (.ref a144), .unset] [(.int (own_in x42 l36 u37))])
          by_cases hc261_163 : (own_in x42 l36 u37) = (0 : Int32)
          · refine own_ifNo (pc' := 264) X159 hx (hb hby at_261) rfl (teq hc261_163).2 ?_
            refine own_iload (pc' := 266) X159 hx (hb hby at_264) rfl rfl ?_
            refine own_iconst (pc' := 267) (z := (3 : Int32)) X159 hx (hb hby at_266) rfl rfl ?_
            refine own_icmpNo (pc' := 270) X159 hx (hb hby at_267) rfl (flt (by decide)).1 ?_
            refine own_iload (pc' := 272) X159 hx (hb hby at_270) rfl rfl ?_
            refine own_iload (pc' := 274) X159 hx (hb hby at_272) rfl rfl ?_
            refine own_iload (pc' := 276) X159 hx (hb hby at_274) rfl rfl ?_
            refine own_callS (pc' := 279) (y := (⟨"com/example/exacting_validator/exactingvalidator/pattern/CodePointSetsContainsPinLaw", "in", "(III)Z"⟩ : MethodName)) (W := 0) (rm := own_room2) (argsL := [(.int x42), (.int l38), (.int u39)]) (rest := []) X159 hx hZ eq161 hown (by rw [hml]; rfl) (own_w6 hw) (own_w7 hw) (own_w8 hw) (own_w9 hw) (by decide) (own_rm2 l Z a0 hw [] x42 l38 u39 h153 n0) (by decide) (by decide) (by decide) (by decide) (lenOf own_pd1 rfl) rfl (by exact Nat.le_of_eq rfl) (hb hby at_276) rfl ?_
            intro T164 Lc164 v164 X164 hQ164
            obtain ⟨rfl, Nq165, eq166⟩ := hQ164
            have N167 := Fr.app N162 Nq165
            show own_Ends p e below s _ _ _ T164 (mkF m 279 #[.val (.int p0), .val (.int p1), .val (.int p2), .val (.int p3), .val (.int p4), .val (.int (4 : Int32)), .val (.int b32), .val (.int l34), .val (.int u35), .val (.int l36), .val (.int u37), .val (.int l38), .val (.int u39), .val (.int l40), .val (.int u41), .val (.int x42), .val (.ref a144), .unset] [(.int (own_in x42 l38 u39))])
            by_cases hc279_168 : (own_in x42 l38 u39) = (0 : Int32)
            · refine own_ifNo (pc' := 282) X164 hx (hb hby at_279) rfl (teq hc279_168).2 ?_
              refine own_iload (pc' := 284) X164 hx (hb hby at_282) rfl rfl ?_
              refine own_iconst (pc' := 285) (z := (4 : Int32)) X164 hx (hb hby at_284) rfl rfl ?_
              refine own_icmpNo (pc' := 288) X164 hx (hb hby at_285) rfl (flt (by decide)).1 ?_
              refine own_iload (pc' := 290) X164 hx (hb hby at_288) rfl rfl ?_
              refine own_iload (pc' := 292) X164 hx (hb hby at_290) rfl rfl ?_
              refine own_iload (pc' := 294) X164 hx (hb hby at_292) rfl rfl ?_
              refine own_callS (pc' := 297) (y := (⟨"com/example/exacting_validator/exactingvalidator/pattern/CodePointSetsContainsPinLaw", "in", "(III)Z"⟩ : MethodName)) (W := 0) (rm := own_room2) (argsL := [(.int x42), (.int l40), (.int u41)]) (rest := []) X164 hx hZ eq166 hown (by rw [hml]; rfl) (own_w6 hw) (own_w7 hw) (own_w8 hw) (own_w9 hw) (by decide) (own_rm2 l Z a0 hw [] x42 l40 u41 h153 n0) (by decide) (by decide) (by decide) (by decide) (lenOf own_pd1 rfl) rfl (by exact Nat.le_of_eq rfl) (hb hby at_294) rfl ?_
              intro T169 Lc169 v169 X169 hQ169
              obtain ⟨rfl, Nq170, eq171⟩ := hQ169
              have N172 := Fr.app N167 Nq170
              show own_Ends p e below s _ _ _ T169 (mkF m 297 #[.val (.int p0), .val (.int p1), .val (.int p2), .val (.int p3), .val (.int p4), .val (.int (4 : Int32)), .val (.int b32), .val (.int l34), .val (.int u35), .val (.int l36), .val (.int u37), .val (.int l38), .val (.int u39), .val (.int l40), .val (.int u41), .val (.int x42), .val (.ref a144), .unset] [(.int (own_in x42 l40 u41))])
              by_cases hc297_173 : (own_in x42 l40 u41) = (0 : Int32)
              · refine own_ifYes (pc' := 304) X169 hx (hb hby at_297) (teq hc297_173).1 (by decide) (by decide) ?_
                refine own_iconst (pc' := 305) (z := (0 : Int32)) X169 hx (hb hby at_304) rfl rfl ?_
                refine own_istore (pc' := 307) (l' := #[.val (.int p0), .val (.int p1), .val (.int p2), .val (.int p3), .val (.int p4), .val (.int (4 : Int32)), .val (.int b32), .val (.int l34), .val (.int u35), .val (.int l36), .val (.int u37), .val (.int l38), .val (.int u39), .val (.int l40), .val (.int u41), .val (.int x42), .val (.ref a144), .val (.int (0 : Int32))]) X169 hx (hb hby at_305) rfl rfl ?_
                refine own_aload (pc' := 309) X169 hx (hb hby at_307) rfl rfl rfl ?_
                refine own_iload (pc' := 311) X169 hx (hb hby at_309) rfl rfl ?_
                refine own_callS (pc' := 314) (y := (⟨"com/example/exacting_validator/exactingvalidator/pattern/CodePointSets", "contains", "([II)Z"⟩ : MethodName)) (W := 0) (rm := own_room1_4) (argsL := [(.ref a144), (.int x42)]) (rest := []) X169 hx hZ eq171 hown (by rw [hml]; rfl) (own_w2 hw) (own_w3 hw) (own_w4 hw) (own_w5 hw) (by decide) (own_rm1_4 l Z a0 hw [] a144 x42 k144 l34 u35 l36 u37 l38 u39 l40 u41 h153 n0 V153 (by omega) (by omega) (by omega) (by omega) (by omega) (by omega) (by omega)) (by decide) (by decide) (by decide) (by decide) (lenOf own_pd0 rfl) rfl (by exact Nat.le_of_eq rfl) (hb hby at_311) rfl ?_
                intro T174 Lc174 v174 X174 hQ174
                obtain ⟨rfl, Nq175, eq176⟩ := hQ174
                have N177 := Fr.app N172 Nq175
                show own_Ends p e below s _ _ _ T174 (mkF m 314 #[.val (.int p0), .val (.int p1), .val (.int p2), .val (.int p3), .val (.int p4), .val (.int (4 : Int32)), .val (.int b32), .val (.int l34), .val (.int u35), .val (.int l36), .val (.int u37), .val (.int l38), .val (.int u39), .val (.int l40), .val (.int u41), .val (.int x42), .val (.ref a144), .val (.int (0 : Int32))] [(.int (own_c4 x42 l34 u35 l36 u37 l38 u39 l40 u41))])
                refine own_iload (pc' := 316) X174 hx (hb hby at_314) rfl rfl ?_
                have q_hc243_158 := own_inF hc243_158
                have q_hc261_163 := own_inF hc261_163
                have q_hc279_168 := own_inF hc279_168
                have q_hc297_173 := own_inF hc297_173
                have hq178 : (own_c4 x42 l34 u35 l36 u37 l38 u39 l40 u41) = (0 : Int32) := by
                  unfold own_c4
                  split <;> first | rfl | (exfalso; omega)
                refine own_icmpNo (pc' := 319) X174 hx (hb hby at_316) rfl (teq hq178).2 ?_
                refine own_iconst (pc' := 320) (z := (1 : Int32)) X174 hx (hb hby at_319) rfl rfl ?_
                refine own_goto (pc' := 324) X174 hx (hb hby at_320) (by decide) (by decide) ?_
                refine own_retN X174 hx hlk hret (by simp) (hb hby at_324) (by decide) (by decide) ?_
                exact ⟨rfl, N177⟩
              · refine own_ifNo (pc' := 300) X169 hx (hb hby at_297) rfl (feq hc297_173).1 ?_
                refine own_iconst (pc' := 301) (z := (1 : Int32)) X169 hx (hb hby at_300) rfl rfl ?_
                refine own_goto (pc' := 305) X169 hx (hb hby at_301) (by decide) (by decide) ?_
                refine own_istore (pc' := 307) (l' := #[.val (.int p0), .val (.int p1), .val (.int p2), .val (.int p3), .val (.int p4), .val (.int (4 : Int32)), .val (.int b32), .val (.int l34), .val (.int u35), .val (.int l36), .val (.int u37), .val (.int l38), .val (.int u39), .val (.int l40), .val (.int u41), .val (.int x42), .val (.ref a144), .val (.int (1 : Int32))]) X169 hx (hb hby at_305) rfl rfl ?_
                refine own_aload (pc' := 309) X169 hx (hb hby at_307) rfl rfl rfl ?_
                refine own_iload (pc' := 311) X169 hx (hb hby at_309) rfl rfl ?_
                refine own_callS (pc' := 314) (y := (⟨"com/example/exacting_validator/exactingvalidator/pattern/CodePointSets", "contains", "([II)Z"⟩ : MethodName)) (W := 0) (rm := own_room1_4) (argsL := [(.ref a144), (.int x42)]) (rest := []) X169 hx hZ eq171 hown (by rw [hml]; rfl) (own_w2 hw) (own_w3 hw) (own_w4 hw) (own_w5 hw) (by decide) (own_rm1_4 l Z a0 hw [] a144 x42 k144 l34 u35 l36 u37 l38 u39 l40 u41 h153 n0 V153 (by omega) (by omega) (by omega) (by omega) (by omega) (by omega) (by omega)) (by decide) (by decide) (by decide) (by decide) (lenOf own_pd0 rfl) rfl (by exact Nat.le_of_eq rfl) (hb hby at_311) rfl ?_
                intro T179 Lc179 v179 X179 hQ179
                obtain ⟨rfl, Nq180, eq181⟩ := hQ179
                have N182 := Fr.app N172 Nq180
                show own_Ends p e below s _ _ _ T179 (mkF m 314 #[.val (.int p0), .val (.int p1), .val (.int p2), .val (.int p3), .val (.int p4), .val (.int (4 : Int32)), .val (.int b32), .val (.int l34), .val (.int u35), .val (.int l36), .val (.int u37), .val (.int l38), .val (.int u39), .val (.int l40), .val (.int u41), .val (.int x42), .val (.ref a144), .val (.int (1 : Int32))] [(.int (own_c4 x42 l34 u35 l36 u37 l38 u39 l40 u41))])
                refine own_iload (pc' := 316) X179 hx (hb hby at_314) rfl rfl ?_
                have q_hc243_158 := own_inF hc243_158
                have q_hc261_163 := own_inF hc261_163
                have q_hc279_168 := own_inF hc279_168
                have q_hc297_173 := own_inT hc297_173
                have hq183 : (own_c4 x42 l34 u35 l36 u37 l38 u39 l40 u41) = (1 : Int32) := by
                  unfold own_c4
                  split <;> first | rfl | (exfalso; omega)
                refine own_icmpNo (pc' := 319) X179 hx (hb hby at_316) rfl (teq hq183).2 ?_
                refine own_iconst (pc' := 320) (z := (1 : Int32)) X179 hx (hb hby at_319) rfl rfl ?_
                refine own_goto (pc' := 324) X179 hx (hb hby at_320) (by decide) (by decide) ?_
                refine own_retN X179 hx hlk hret (by simp) (hb hby at_324) (by decide) (by decide) ?_
                exact ⟨rfl, N182⟩
            · refine own_ifYes (pc' := 300) X164 hx (hb hby at_279) (feq hc279_168).2 (by decide) (by decide) ?_
              refine own_iconst (pc' := 301) (z := (1 : Int32)) X164 hx (hb hby at_300) rfl rfl ?_
              refine own_goto (pc' := 305) X164 hx (hb hby at_301) (by decide) (by decide) ?_
              refine own_istore (pc' := 307) (l' := #[.val (.int p0), .val (.int p1), .val (.int p2), .val (.int p3), .val (.int p4), .val (.int (4 : Int32)), .val (.int b32), .val (.int l34), .val (.int u35), .val (.int l36), .val (.int u37), .val (.int l38), .val (.int u39), .val (.int l40), .val (.int u41), .val (.int x42), .val (.ref a144), .val (.int (1 : Int32))]) X164 hx (hb hby at_305) rfl rfl ?_
              refine own_aload (pc' := 309) X164 hx (hb hby at_307) rfl rfl rfl ?_
              refine own_iload (pc' := 311) X164 hx (hb hby at_309) rfl rfl ?_
              refine own_callS (pc' := 314) (y := (⟨"com/example/exacting_validator/exactingvalidator/pattern/CodePointSets", "contains", "([II)Z"⟩ : MethodName)) (W := 0) (rm := own_room1_4) (argsL := [(.ref a144), (.int x42)]) (rest := []) X164 hx hZ eq166 hown (by rw [hml]; rfl) (own_w2 hw) (own_w3 hw) (own_w4 hw) (own_w5 hw) (by decide) (own_rm1_4 l Z a0 hw [] a144 x42 k144 l34 u35 l36 u37 l38 u39 l40 u41 h153 n0 V153 (by omega) (by omega) (by omega) (by omega) (by omega) (by omega) (by omega)) (by decide) (by decide) (by decide) (by decide) (lenOf own_pd0 rfl) rfl (by exact Nat.le_of_eq rfl) (hb hby at_311) rfl ?_
              intro T184 Lc184 v184 X184 hQ184
              obtain ⟨rfl, Nq185, eq186⟩ := hQ184
              have N187 := Fr.app N167 Nq185
              show own_Ends p e below s _ _ _ T184 (mkF m 314 #[.val (.int p0), .val (.int p1), .val (.int p2), .val (.int p3), .val (.int p4), .val (.int (4 : Int32)), .val (.int b32), .val (.int l34), .val (.int u35), .val (.int l36), .val (.int u37), .val (.int l38), .val (.int u39), .val (.int l40), .val (.int u41), .val (.int x42), .val (.ref a144), .val (.int (1 : Int32))] [(.int (own_c4 x42 l34 u35 l36 u37 l38 u39 l40 u41))])
              refine own_iload (pc' := 316) X184 hx (hb hby at_314) rfl rfl ?_
              have q_hc243_158 := own_inF hc243_158
              have q_hc261_163 := own_inF hc261_163
              have q_hc279_168 := own_inT hc279_168
              have hq188 : (own_c4 x42 l34 u35 l36 u37 l38 u39 l40 u41) = (1 : Int32) := by
                unfold own_c4
                split <;> first | rfl | (exfalso; omega)
              refine own_icmpNo (pc' := 319) X184 hx (hb hby at_316) rfl (teq hq188).2 ?_
              refine own_iconst (pc' := 320) (z := (1 : Int32)) X184 hx (hb hby at_319) rfl rfl ?_
              refine own_goto (pc' := 324) X184 hx (hb hby at_320) (by decide) (by decide) ?_
              refine own_retN X184 hx hlk hret (by simp) (hb hby at_324) (by decide) (by decide) ?_
              exact ⟨rfl, N187⟩
          · refine own_ifYes (pc' := 300) X159 hx (hb hby at_261) (feq hc261_163).2 (by decide) (by decide) ?_
            refine own_iconst (pc' := 301) (z := (1 : Int32)) X159 hx (hb hby at_300) rfl rfl ?_
            refine own_goto (pc' := 305) X159 hx (hb hby at_301) (by decide) (by decide) ?_
            refine own_istore (pc' := 307) (l' := #[.val (.int p0), .val (.int p1), .val (.int p2), .val (.int p3), .val (.int p4), .val (.int (4 : Int32)), .val (.int b32), .val (.int l34), .val (.int u35), .val (.int l36), .val (.int u37), .val (.int l38), .val (.int u39), .val (.int l40), .val (.int u41), .val (.int x42), .val (.ref a144), .val (.int (1 : Int32))]) X159 hx (hb hby at_305) rfl rfl ?_
            refine own_aload (pc' := 309) X159 hx (hb hby at_307) rfl rfl rfl ?_
            refine own_iload (pc' := 311) X159 hx (hb hby at_309) rfl rfl ?_
            refine own_callS (pc' := 314) (y := (⟨"com/example/exacting_validator/exactingvalidator/pattern/CodePointSets", "contains", "([II)Z"⟩ : MethodName)) (W := 0) (rm := own_room1_4) (argsL := [(.ref a144), (.int x42)]) (rest := []) X159 hx hZ eq161 hown (by rw [hml]; rfl) (own_w2 hw) (own_w3 hw) (own_w4 hw) (own_w5 hw) (by decide) (own_rm1_4 l Z a0 hw [] a144 x42 k144 l34 u35 l36 u37 l38 u39 l40 u41 h153 n0 V153 (by omega) (by omega) (by omega) (by omega) (by omega) (by omega) (by omega)) (by decide) (by decide) (by decide) (by decide) (lenOf own_pd0 rfl) rfl (by exact Nat.le_of_eq rfl) (hb hby at_311) rfl ?_
            intro T189 Lc189 v189 X189 hQ189
            obtain ⟨rfl, Nq190, eq191⟩ := hQ189
            have N192 := Fr.app N162 Nq190
            show own_Ends p e below s _ _ _ T189 (mkF m 314 #[.val (.int p0), .val (.int p1), .val (.int p2), .val (.int p3), .val (.int p4), .val (.int (4 : Int32)), .val (.int b32), .val (.int l34), .val (.int u35), .val (.int l36), .val (.int u37), .val (.int l38), .val (.int u39), .val (.int l40), .val (.int u41), .val (.int x42), .val (.ref a144), .val (.int (1 : Int32))] [(.int (own_c4 x42 l34 u35 l36 u37 l38 u39 l40 u41))])
            refine own_iload (pc' := 316) X189 hx (hb hby at_314) rfl rfl ?_
            have q_hc243_158 := own_inF hc243_158
            have q_hc261_163 := own_inT hc261_163
            have hq193 : (own_c4 x42 l34 u35 l36 u37 l38 u39 l40 u41) = (1 : Int32) := by
              unfold own_c4
              split <;> first | rfl | (exfalso; omega)
            refine own_icmpNo (pc' := 319) X189 hx (hb hby at_316) rfl (teq hq193).2 ?_
            refine own_iconst (pc' := 320) (z := (1 : Int32)) X189 hx (hb hby at_319) rfl rfl ?_
            refine own_goto (pc' := 324) X189 hx (hb hby at_320) (by decide) (by decide) ?_
            refine own_retN X189 hx hlk hret (by simp) (hb hby at_324) (by decide) (by decide) ?_
            exact ⟨rfl, N192⟩
        · refine own_ifYes (pc' := 300) X154 hx (hb hby at_243) (feq hc243_158).2 (by decide) (by decide) ?_
          refine own_iconst (pc' := 301) (z := (1 : Int32)) X154 hx (hb hby at_300) rfl rfl ?_
          refine own_goto (pc' := 305) X154 hx (hb hby at_301) (by decide) (by decide) ?_
          refine own_istore (pc' := 307) (l' := #[.val (.int p0), .val (.int p1), .val (.int p2), .val (.int p3), .val (.int p4), .val (.int (4 : Int32)), .val (.int b32), .val (.int l34), .val (.int u35), .val (.int l36), .val (.int u37), .val (.int l38), .val (.int u39), .val (.int l40), .val (.int u41), .val (.int x42), .val (.ref a144), .val (.int (1 : Int32))]) X154 hx (hb hby at_305) rfl rfl ?_
          refine own_aload (pc' := 309) X154 hx (hb hby at_307) rfl rfl rfl ?_
          refine own_iload (pc' := 311) X154 hx (hb hby at_309) rfl rfl ?_
          refine own_callS (pc' := 314) (y := (⟨"com/example/exacting_validator/exactingvalidator/pattern/CodePointSets", "contains", "([II)Z"⟩ : MethodName)) (W := 0) (rm := own_room1_4) (argsL := [(.ref a144), (.int x42)]) (rest := []) X154 hx hZ eq156 hown (by rw [hml]; rfl) (own_w2 hw) (own_w3 hw) (own_w4 hw) (own_w5 hw) (by decide) (own_rm1_4 l Z a0 hw [] a144 x42 k144 l34 u35 l36 u37 l38 u39 l40 u41 h153 n0 V153 (by omega) (by omega) (by omega) (by omega) (by omega) (by omega) (by omega)) (by decide) (by decide) (by decide) (by decide) (lenOf own_pd0 rfl) rfl (by exact Nat.le_of_eq rfl) (hb hby at_311) rfl ?_
          intro T194 Lc194 v194 X194 hQ194
          obtain ⟨rfl, Nq195, eq196⟩ := hQ194
          have N197 := Fr.app N157 Nq195
          show own_Ends p e below s _ _ _ T194 (mkF m 314 #[.val (.int p0), .val (.int p1), .val (.int p2), .val (.int p3), .val (.int p4), .val (.int (4 : Int32)), .val (.int b32), .val (.int l34), .val (.int u35), .val (.int l36), .val (.int u37), .val (.int l38), .val (.int u39), .val (.int l40), .val (.int u41), .val (.int x42), .val (.ref a144), .val (.int (1 : Int32))] [(.int (own_c4 x42 l34 u35 l36 u37 l38 u39 l40 u41))])
          refine own_iload (pc' := 316) X194 hx (hb hby at_314) rfl rfl ?_
          have q_hc243_158 := own_inT hc243_158
          have hq198 : (own_c4 x42 l34 u35 l36 u37 l38 u39 l40 u41) = (1 : Int32) := by
            unfold own_c4
            split <;> first | rfl | (exfalso; omega)
          refine own_icmpNo (pc' := 319) X194 hx (hb hby at_316) rfl (teq hq198).2 ?_
          refine own_iconst (pc' := 320) (z := (1 : Int32)) X194 hx (hb hby at_319) rfl rfl ?_
          refine own_goto (pc' := 324) X194 hx (hb hby at_320) (by decide) (by decide) ?_
          refine own_retN X194 hx hlk hret (by simp) (hb hby at_324) (by decide) (by decide) ?_
          exact ⟨rfl, N197⟩
    by_cases hc122_199 : b32 = (0 : Int32)
    · refine own_ifYes (pc' := 142) X0 hx (hb hby at_122) (teq hc122_199).1 (by decide) (by decide) ?_
      refine own_iload (pc' := 144) X0 hx (hb hby at_142) rfl rfl ?_
      exact K43 _
    · refine own_ifNo (pc' := 125) X0 hx (hb hby at_122) rfl (feq hc122_199).1 ?_
      refine own_iload (pc' := 127) X0 hx (hb hby at_125) rfl rfl ?_
      refine own_iconst (pc' := 128) (z := (2 : Int32)) X0 hx (hb hby at_127) rfl rfl ?_
      refine own_isub (pc' := 129) (z := (l34 - (2 : Int32))) X0 hx (hb hby at_128) rfl rfl ?_
      refine own_iload (pc' := 131) X0 hx (hb hby at_129) rfl rfl ?_
      refine own_ldcI (pc' := 133) X0 hx hZ hown (own_w10 hw) (hb hby at_131) rfl ?_
      refine own_iand (pc' := 134) (z := (p4 &&& (2147483647 : Int32))) X0 hx (hb hby at_133) rfl rfl ?_
      refine own_sipush (pc' := 137) (z := (2200 : Int32)) X0 hx (hb hby at_134) rfl rfl ?_
      refine own_irem (pc' := 138) (z := ((p4 &&& (2147483647 : Int32)) % (2200 : Int32))) X0 hx (hb hby at_137) rfl (by decide) rfl ?_
      refine own_iadd (pc' := 139) (z := ((l34 - (2 : Int32)) + ((p4 &&& (2147483647 : Int32)) % (2200 : Int32)))) X0 hx (hb hby at_138) rfl rfl ?_
      refine own_goto (pc' := 144) X0 hx (hb hby at_139) (by decide) (by decide) ?_
      exact K43 _
  by_cases hc13_200 : ((own_ushr p0 (3 : Int32)) &&& (1 : Int32)) = (0 : Int32)
  · refine own_ifYes (pc' := 20) X0 hx (hb hby at_13) (teq hc13_200).1 (by decide) (by decide) ?_
    refine own_iconst (pc' := 21) (z := (0 : Int32)) X0 hx (hb hby at_20) rfl rfl ?_
    exact K33 _
  · refine own_ifNo (pc' := 16) X0 hx (hb hby at_13) rfl (feq hc13_200).1 ?_
    refine own_iconst (pc' := 17) (z := (1 : Int32)) X0 hx (hb hby at_16) rfl rfl ?_
    refine own_goto (pc' := 21) X0 hx (hb hby at_17) (by decide) (by decide) ?_
    exact K33 _
set_option maxRecDepth 65536 in
set_option maxHeartbeats 40000000 in
theorem own_comes {Post : Tables → Env → Array Value → State → Outcome → State → Prop} (hpost : ∀ tb e args s v u, (limb_1_1.after args s (.returned v) u = true ∧ limb_1_2.after args s (.returned v) u = true ∧ True) → FrameEnd s (.returned v) u (Jvm.fieldLocs frame_1_writes args s ++ Jvm.arrayLocs frame_1_arrays args s ++ Jvm.staticLocs frame_1_statics s) 16 128 → Post tb e args s (.returned v) u) :
    ArmFor flags0 classFile x code maxLocals ret World_1 tables_1 room_1 Calls_1 rest_1 Pre_1 Post := by
  intro l hfl _ _ p e ha hc hk s m args below hf hA hF happ hP
  obtain ⟨hcalls, hrest, hpre⟩ := hP
  obtain ⟨-, -, -, hnamed, -, -, -, hat⟩ := (Spec.applies_iff hf).mp happ
  obtain ⟨hg, hn⟩ := and_e (Cond.before_iff.mp (show (Jvm.Cond.and given_1 narrow_1).before args s = true from hpre))
  obtain ⟨g1, g2⟩ := and_e hg
  obtain ⟨g3, g4⟩ := and_e g2
  obtain ⟨g5, g6⟩ := and_e g4
  obtain ⟨g7, g8⟩ := and_e g6
  obtain ⟨g9, g10⟩ := and_e g8
  obtain ⟨w0, w1, w2, w3, w4, rfl⟩ : ∃ w0 w1 w2 w3 w4 : Value, args = #[w0, w1, w2, w3, w4] := by
    have hs : args.size = 5 := by simpa [Cond.value, given_1] using g1
    obtain ⟨L⟩ := args
    match L, hs with
    | [w0, w1, w2, w3, w4], _ => exact ⟨w0, w1, w2, w3, w4, rfl⟩
  have hw := fun d (hd : d ∈ tables_1) => atoms_spec (ws := Jvm.Cond.code x code maxLocals ret :: tables_1) hat d (List.mem_cons_of_mem _ hd)
  have hfit : Fit s := fun {y c} hc i hi => by
    obtain ⟨ha, rfl⟩ := Array.getElem?_eq_some_iff.mp hc
    have q := List.all_eq_true.mp ((Array.all_eq_true_iff_forall_mem.mp hF) _ (Array.getElem_mem ha)) i (List.mem_range.mpr hi)
    simpa [Array.getElem?_eq_getElem hi] using q
  obtain ⟨i0, ei0⟩ := is_v g3
  obtain rfl : w0 = (.int i0) := Option.some.inj ei0
  obtain ⟨i1, ei1⟩ := is_v g5
  obtain rfl : w1 = (.int i1) := Option.some.inj ei1
  obtain ⟨i2, ei2⟩ := is_v g7
  obtain rfl : w2 = (.int i2) := Option.some.inj ei2
  obtain ⟨i3, ei3⟩ := is_v g9
  obtain rfl : w3 = (.int i3) := Option.some.inj ei3
  obtain ⟨i4, ei4⟩ := is_v g10
  obtain rfl : w4 = (.int i4) := Option.some.inj ei4
  obtain ⟨n, o, h1, h2, h3, _, L, rfl, ⟨rfl, N⟩, hq⟩ := own_rm0 l s _ hw tables_1 i0 i1 i2 i3 i4 s.heap s.heap.size (Nat.le_refl _) p e ha hc hk s m _ below hf ((Spec.applies_iff_loose hf).mp happ).1 ⟨rfl, State.Warmed39.refl s, rfl⟩ trivial
  refine ⟨n, _, h1, h2, h3, hpost _ _ _ _ _ _ ⟨Cond.after_iff.mpr rfl, Cond.after_iff.mpr (eq_i res_at (Term.int_eval (1)) rfl), trivial⟩ ⟨hq.1, hq.2.1, (hq.2.2.sift fun y hy => Or.inr (N y hy)).mono (by decide) (by decide)⟩⟩
theorem main_1_1 : Claimed_1_1 := own_comes fun _ _ _ _ _ _ h hF => ⟨h.1, hF⟩
theorem main_1_2 : Claimed_1_2 := own_comes fun _ _ _ _ _ _ h hF => ⟨h.2.1, hF⟩
end Jvm.Pilot.@@N@@
namespace Jvm.Pilot.@@N@@
open Jvm Jvm.ClassFile Sem Op Lib Jvm.Free Jvm.Stand Jvm.Pilot.@@N@@.Jvm.D
/-! MADE BY PROGRAM (witnessworld.py) out of the Statement's table words and the real class files: 9 classes; the members and pool entries that the words name. The judged class is class 1, her method 1. -/
namespace start1
open Jvm.ClassFile
def u (s : String) : CpInfo := .utf8 (stringToUtf16 s)
/-- a pool by its gaps: so many unusable entries, then the entry; so many at the end -/
def gap : Nat → List CpInfo → List CpInfo
  | 0, r => r
  | n + 1, r => .unusable :: gap n r
def poolList (es : List (Nat × CpInfo)) (last : Nat) : List CpInfo := es.foldr (fun e r => gap e.1 (e.2 :: r)) (gap last [])
def pool (es : List (Nat × CpInfo)) (last : Nat) : Array CpInfo := ⟨poolList es last⟩
def fileOf (pool : Array CpInfo) (this : Nat) (attrs : Array Attribute := #[]) (ms : Array MethodInfo := #[]) (fl : Nat := 33) (sup : Nat := 0) (ifs : Array Nat := #[]) (fds : Array FieldInfo := #[]) : ClassFile where
  minorVersion := 0
  majorVersion := 65
  constantPool := pool
  accessFlags := fl
  thisClass := this
  superClass := sup
  interfaces := ifs
  fields := fds
  methods := ms
  attributes := attrs
def plain (name : String) (sup : Option ClassId) : Class where
  name := name
  kind := .ordinary
  loader := none
  accessFlags := 33
  super := sup
  interfaces := #[]
  cf := none
  fields := #[]
  methods := #[]
  instanceTypes := #[]
  staticTypes := #[]
  resolved := #[]
  callSites := []
  init := .initialized
  statics := none
  mirror := none

def pool0 : Array CpInfo := pool [(5, u "<init>"), (0, u "()V"), (1, .class_ 10), (1, u "java/lang/Object")] 113

def k0m0 : Method := { name := "<init>", desc := "()V", sig := { parameters := [], returnType := none }, accessFlags := 1, code := none }
/-- java/lang/Object -/
def k0 : Class := { plain "java/lang/Object" none with
  accessFlags := 33
  interfaces := #[]
  cf := some (fileOf pool0 8 #[] #[{ accessFlags := 1, nameIndex := 5, descriptorIndex := 6, attributes := #[] }] 33 0 #[] #[])
  fields := #[]
  methods := #[k0m0]
  instanceTypes := #[]
  staticTypes := #[]
  resolved := Array.replicate 124 none
  statics := none }

def pool1 : Array CpInfo := pool [(2, .class_ 4), (1, u "java/lang/Object"), (0, u "<init>"), (0, u "()V"), (0, .integer 1048575), (0, .integer 2147483647), (0, .methodref 10 11), (0, .class_ 12), (0, .nameAndType 13 14), (0, u "com/example/exacting_validator/exactingvalidator/pattern/CodePointSetsContainsPinLaw"), (0, u "in"), (0, u "(III)Z"), (0, .methodref 16 17), (0, .class_ 18), (0, .nameAndType 19 20), (0, u "com/example/exacting_validator/exactingvalidator/pattern/CodePointSets"), (0, u "contains"), (0, u "([II)Z"), (2, u "law"), (0, u "(IIIII)Z")] 5

def k1m0 : Method := { name := "<init>", desc := "()V", sig := { parameters := [], returnType := none }, accessFlags := 1, code := none }
def k1c1 : Code := { maxStack := 3, maxLocals := 18, code := code, exceptionTable := #[], attributes := #[] }
def k1m1 : Method := { name := "law", desc := "(IIIII)Z", sig := { parameters := [.int, .int, .int, .int, .int], returnType := some .boolean }, accessFlags := 9, code := some k1c1 }
def k1c2 : Code := { maxStack := 2, maxLocals := 3, code := method_3_code, exceptionTable := #[], attributes := #[] }
def k1m2 : Method := { name := "in", desc := "(III)Z", sig := { parameters := [.int, .int, .int], returnType := some .boolean }, accessFlags := 10, code := some k1c2 }
/-- com/example/exacting_validator/exactingvalidator/pattern/CodePointSetsContainsPinLaw -/
def k1 : Class := { plain "com/example/exacting_validator/exactingvalidator/pattern/CodePointSetsContainsPinLaw" (some 0) with
  accessFlags := 49
  interfaces := #[]
  cf := some (fileOf pool1 10 #[] #[{ accessFlags := 1, nameIndex := 5, descriptorIndex := 6, attributes := #[] }, { accessFlags := 9, nameIndex := 23, descriptorIndex := 24, attributes := #[] }, { accessFlags := 10, nameIndex := 13, descriptorIndex := 14, attributes := #[] }] 49 2 #[] #[])
  fields := #[]
  methods := #[k1m0, k1m1, k1m2]
  instanceTypes := #[]
  staticTypes := #[]
  resolved := Array.replicate 30 none
  statics := none }

def pool2 : Array CpInfo := pool [(2, .class_ 4), (1, u "java/lang/Object"), (0, u "<init>"), (0, u "()V"), (45, .class_ 53), (0, u "com/example/exacting_validator/exactingvalidator/pattern/CodePointSets"), (11, u "contains"), (0, u "([II)Z")] 2

def k2m0 : Method := { name := "<init>", desc := "()V", sig := { parameters := [], returnType := none }, accessFlags := 2, code := none }
def k2c1 : Code := { maxStack := 4, maxLocals := 5, code := prog_3_method_4_code, exceptionTable := #[], attributes := #[] }
def k2m1 : Method := { name := "contains", desc := "([II)Z", sig := { parameters := [(.array .int), .int], returnType := some .boolean }, accessFlags := 8, code := some k2c1 }
/-- com/example/exacting_validator/exactingvalidator/pattern/CodePointSets -/
def k2 : Class := { plain "com/example/exacting_validator/exactingvalidator/pattern/CodePointSets" (some 0) with
  accessFlags := 48
  interfaces := #[]
  cf := some (fileOf pool2 52 #[] #[{ accessFlags := 2, nameIndex := 5, descriptorIndex := 6, attributes := #[] }, { accessFlags := 8, nameIndex := 65, descriptorIndex := 66, attributes := #[] }] 48 2 #[] #[])
  fields := #[]
  methods := #[k2m0, k2m1]
  instanceTypes := #[]
  staticTypes := #[]
  resolved := Array.replicate 69 none
  statics := none }

def pool3 : Array CpInfo := pool [(1, u "java/lang/Cloneable"), (0, .class_ 1), (0, u "java/lang/Object"), (0, .class_ 3)] 3

/-- java/lang/Cloneable -/
def k3 : Class := { plain "java/lang/Cloneable" (some 0) with
  accessFlags := 1537
  interfaces := #[]
  cf := some (fileOf pool3 2 #[] #[] 1537 4 #[] #[])
  fields := #[]
  methods := #[]
  instanceTypes := #[]
  staticTypes := #[]
  resolved := Array.replicate 8 none
  statics := none }

def pool4 : Array CpInfo := pool [(1, u "java/io/Serializable"), (0, .class_ 1), (0, u "java/lang/Object"), (0, .class_ 3)] 3

/-- java/io/Serializable -/
def k4 : Class := { plain "java/io/Serializable" (some 0) with
  accessFlags := 1537
  interfaces := #[]
  cf := some (fileOf pool4 2 #[] #[] 1537 4 #[] #[])
  fields := #[]
  methods := #[]
  instanceTypes := #[]
  staticTypes := #[]
  resolved := Array.replicate 8 none
  statics := none }

/-- the primitive byte -/
def k5 : Class := { plain "byte" none with kind := .primitive 'B', accessFlags := 0x411 }
/-- [B -/
def k6 : Class := { plain "[B" (some 0) with kind := .array 5 .byte, interfaces := #[3, 4], accessFlags := 1041 }

/-- the primitive int -/
def k7 : Class := { plain "int" none with kind := .primitive 'I', accessFlags := 0x411 }
/-- [I -/
def k8 : Class := { plain "[I" (some 0) with kind := .array 7 .int, interfaces := #[3, 4], accessFlags := 1041 }

def heap : Heap := #[]
def classes : Array Class := #[k0, k1, k2, k3, k4, k5, k6, k7, k8]
def interned : List (Array UInt16 × Addr) := []
def slotsUsed : Nat := 0
def theMethod : MethodId := ⟨1, 1⟩
def args0 : Array Value := #[.int 5, .int 5, .int 5, .int 5, .int 5]
def aboutOver (below : List Frame) : State where
  vm := { classes := classes, interned := interned.toArray }
  heap := heap
  slotsUsed := slotsUsed
  threads := #[{ frames := .invoking theMethod args0 :: below }]
def below0 : List Frame := [.native { method := ⟨0, 0⟩, args := #[] }]
def about1 : State := aboutOver below0
def p0 : Program := .bare "" "" ""
def e0 : Env := launch0.env 0 0 0
theorem w_frames : about1.frames = Frame.invoking theMethod args0 :: below0 := rfl
set_option maxRecDepth 65536 in
theorem w_args : argsFit about1.vm theMethod args0 = true := by decide +kernel
set_option maxRecDepth 65536 in
theorem w_heap : heapFits about1 = true := by decide +kernel
set_option maxRecDepth 65536 in
theorem w_runnable : about1.curStatus? = some .runnable := by decide +kernel
set_option maxRecDepth 65536 in
theorem w_alone : about1.alone = true := by decide +kernel
set_option maxRecDepth 65536 in
theorem w_named : about1.methodNamed? x = some theMethod := by decide +kernel
set_option maxRecDepth 65536 in
theorem w_hears : about1.hears theMethod below0 = true := by decide +kernel
set_option maxRecDepth 65536 in
theorem w_ripe : about1.ripe theMethod args0 below0 = true := by decide +kernel
theorem w_running : about1.status = .running := rfl
set_option maxRecDepth 65536 in
theorem w_room : about1.hasRoom e0.platform room_1 = true :=
  launch0.hasRoom_least _ room_1 (by decide +kernel) (by decide +kernel) (by decide +kernel) (by decide +kernel) (by decide +kernel) (by decide +kernel)
theorem allAtoms_all (ts : List Jvm.Cond) (a : Array Jvm.Value) (st : Jvm.State) : (allAtoms ts).before a st = ts.all (fun c => c.before a st) := by
  induction ts with
  | nil => rfl
  | cons c t ih =>
    show (Jvm.Cond.and c (allAtoms t)).before a st = _
    rw [Jvm.Cond.before_and, ih, List.all_cons]
def words1 : List Jvm.Cond := Jvm.Cond.code x code maxLocals ret :: tables_1
/-- a 'code' word, met by the world's own term for the bytes: nothing is compared byte by byte -/
theorem code_word {y : MethodName} {bytes : ByteArray} {mx : Nat} {rt : Option FieldType} {a : Array Value} {s : State} {m : MethodId} {meth : Method} {c : Code} (h1 : s.methodNamed? y = some m) (h2 : s.vm.method? m = some meth) (h3 : meth.code = some c) (h4 : c.code = bytes)
    (h5 : (c.maxLocals == mx && c.exceptionTable.isEmpty && decide (c.maxStack ≤ mostOperands) && decide (meth.sig.returnType = rt) && !meth.locks && decide (parseMethodDescriptor y.desc = some meth.sig)) = true) : (Jvm.Cond.code y bytes mx rt).before a s = true := by
  simp only [Bool.and_eq_true, beq_iff_eq, Bool.not_eq_true', decide_eq_true_eq] at h5
  obtain ⟨⟨⟨⟨⟨g1, g2⟩, g3⟩, g4⟩, g5⟩, g6⟩ := h5
  simp [Cond.before, Cond.holds, Cond.value, h1, h2, h3, h4, g1, g2, g3, g4, g5, g6]
def isCode : Jvm.Cond → Bool
  | .code _ _ _ _ => true
  | _ => false
theorem all_split {L : List Jvm.Cond} {P : Jvm.Cond → Bool} (h1 : L.all (fun c => isCode c || P c) = true) (h2 : ∀ c ∈ L.filter isCode, P c = true) : L.all P = true := by
  refine List.all_eq_true.mpr fun c hc => ?_
  have h := List.all_eq_true.mp h1 c hc
  rcases Bool.eq_false_or_eq_true (isCode c) with hi | hi
  · exact h2 c (List.mem_filter.mpr ⟨hc, hi⟩)
  · simpa [hi] using h
set_option maxRecDepth 65536 in
theorem w_c0 : (Jvm.Cond.code x code maxLocals ret).before args0 about1 = true := code_word (m := ⟨1, 1⟩) (meth := k1m1) (c := k1c1) (by decide +kernel) rfl rfl rfl (by decide +kernel)
set_option maxRecDepth 65536 in
theorem w_c1 : (Jvm.Cond.code ({ cls := "com/example/exacting_validator/exactingvalidator/pattern/CodePointSets", name := "contains", desc := "([II)Z" } : Jvm.MethodName) prog_3_method_4_code (5 : Nat) (Option.some Jvm.ClassFile.FieldType.boolean)).before args0 about1 = true := code_word (m := ⟨2, 1⟩) (meth := k2m1) (c := k2c1) (by decide +kernel) rfl rfl rfl (by decide +kernel)
set_option maxRecDepth 65536 in
theorem w_c2 : (Jvm.Cond.code ({ cls := "com/example/exacting_validator/exactingvalidator/pattern/CodePointSetsContainsPinLaw", name := "in", desc := "(III)Z" } : Jvm.MethodName) method_3_code (3 : Nat) (Option.some Jvm.ClassFile.FieldType.boolean)).before args0 about1 = true := code_word (m := ⟨1, 2⟩) (meth := k1m2) (c := k1c2) (by decide +kernel) rfl rfl rfl (by decide +kernel)
def codes1 : List Jvm.Cond := [Jvm.Cond.code x code maxLocals ret, Jvm.Cond.code ({ cls := "com/example/exacting_validator/exactingvalidator/pattern/CodePointSets", name := "contains", desc := "([II)Z" } : Jvm.MethodName) prog_3_method_4_code (5 : Nat) (Option.some Jvm.ClassFile.FieldType.boolean), Jvm.Cond.code ({ cls := "com/example/exacting_validator/exactingvalidator/pattern/CodePointSetsContainsPinLaw", name := "in", desc := "(III)Z" } : Jvm.MethodName) method_3_code (3 : Nat) (Option.some Jvm.ClassFile.FieldType.boolean)]
set_option maxRecDepth 65536 in
theorem codes_eq : words1.filter isCode = codes1 := rfl
theorem w_codes : ∀ c ∈ words1.filter isCode, c.before args0 about1 = true := by
  rw [codes_eq]
  intro c hc
  simp only [codes1, List.mem_cons, List.not_mem_nil, or_false] at hc
  rcases hc with rfl | rfl | rfl
  · exact w_c0
  · exact w_c1
  · exact w_c2
set_option maxRecDepth 65536 in
theorem w_t1 : words1.all (fun c => isCode c || c.before args0 about1) = true := by decide +kernel
theorem w_tables : (allAtoms (Jvm.Cond.code x code maxLocals ret :: tables_1)).before args0 about1 = true := by
  rw [allAtoms_all]
  show words1.all (fun c => c.before args0 about1) = true
  refine all_split ?_ w_codes
  rw [w_t1]
set_option maxRecDepth 65536 in
theorem w_case : (Jvm.Cond.and given_1 narrow_1).before args0 about1 = true := by decide +kernel
theorem w_applies : (headSpec (Jvm.Cond.code x code maxLocals ret :: tables_1) room_1).applies x e0.platform about1 = true :=
  (Spec.applies_iff w_frames).mpr ⟨w_running, w_runnable, w_alone, w_named, w_hears, w_ripe, w_room, w_tables⟩
theorem atStart : AtStart classFile x code maxLocals ret World_1 tables_1 room_1 Calls_1 rest_1 Pre_1 launch0 p0 e0 about1 theMethod args0 below0 :=
  ⟨lists_1, trivial, launch0.admits_env _ _ _, launch0.least_env, fairChoices_fair.cas, fairChoices_fair.clock, w_frames, w_args, w_heap, w_applies, trivial, trivial, w_case⟩
end start1
theorem witness_1 : WitnessClaimed_1 := ⟨start1.p0, start1.e0, start1.about1, start1.theMethod, start1.args0, start1.below0, start1.atStart⟩
end Jvm.Pilot.@@N@@
