import JvmDerived
import JvmDerived.Pilot.@@N@@Statement
import JvmDerived.Pilot.@@N@@Code
set_option linter.unusedVariables false
set_option linter.unusedSimpArgs false
namespace Jvm.RoadKit
open Sem ClassFile Op Lib Jvm.Stand Jvm.Free Jvm.LawKit
section New
variable {p : Program} {l : Launch} {e : Env} {R : Room} {s : State} {m : MethodId} {args : Array Value} {below : List Frame} {meth : Method} {c : Code} {T : State} {locs : List Loc} {cells slots : Nat}
theorem retI (X : Stand p l e R s m args below meth c T locs cells slots) (hx : p.tables.exec = Jvm.exec) {pc : Nat} {Ls : Array Slot} {z : Int32} {rest : List Value} (hret : meth.sig.returnType = some .int) (hd : decode c.code pc = .ok (.ireturn, 1)) {fs : List Frame}
    (hl : ∀ (f : JFrame) (acts : List Action), f.method = m → f.locked = none → f.entered = [] → (doReturn e (T.setTop f) acts (some (.int z))).1 = T.setFrames fs) : Steps p.tables e below (T.setTop (mkF m pc Ls (.int z :: rest))) (T.setFrames fs) := by
  have hm' : T.vm.method? m = some meth := X.method'
  have hn : narrow .int (.int z) = .int z := rfl
  show Steps p.tables e below (T.setTop { method := m, pc := pc, locals := Ls, stack := _ :: rest, locked := none }) _
  jvm_step X.here [X.here.top, hx, hd, hm', hret, hn]
  first | (intro acts; rw [hl _ acts rfl rfl rfl]) | rw [hl _ _ rfl rfl rfl]
  exact Steps.refl _
end New
end Jvm.RoadKit
namespace Jvm.Pilot.@@N@@
open Jvm Jvm.ClassFile Sem Op Lib Jvm.Free Jvm.Stand Jvm.LawKit Jvm.RoadKit Bundle Jvm.Pilot.@@N@@.Jvm.D
section Own
variable {p : Program} {l : Launch} {e : Env} {R : Room} {s : State} {m : MethodId} {args : Array Value} {below : List Frame} {meth : Method} {c : Code} {T T' : State} {locs : List Loc} {cells slots : Nat} {Q : Option Value → Heap → List Loc → Prop} {kc ks : Nat} {pc pc' : Nat} {ls : Array Slot} {st : List Value}
/-- from T with the frame g on top the run comes to its end, as Q asks -/
def own_Ends (p : Program) (e : Env) (below : List Frame) (s : State) (Q : Option Value → Heap → List Loc → Prop) (kc ks : Nat) (T : State) (g : JFrame) : Prop :=
  ∃ s₂ o, Steps p.tables e below (T.setTop g) s₂ ∧ s₂.status = .running ∧ Ended s₂ below o ∧ ∃ v L, o = .returned v ∧ Q v s₂.heap L ∧ FrameEnd s o s₂ L kc ks
theorem own_go {g g' : JFrame} (h : ∀ t, Steps p.tables e below (T'.setTop g') t → Steps p.tables e below (T.setTop g) t) (K : own_Ends p e below s Q kc ks T' g') : own_Ends p e below s Q kc ks T g := by
  obtain ⟨s2, o, h1, r⟩ := K
  exact ⟨s2, o, h _ h1, r⟩
theorem own_cast {g g' : JFrame} (q : g = g') (K : own_Ends p e below s Q kc ks T g') : own_Ends p e below s Q kc ks T g := q ▸ K
theorem own_leave {v : Option Value} {g : JFrame} (X : Stand p l e R s m args below meth c T locs cells slots) (hlk : meth.locks = false) (hv : meth.sig.returnType = none → v = none)
    (hs : ∀ fs, (∀ (f : JFrame) (acts : List Action), f.method = m → f.locked = none → f.entered = [] → (doReturn e (T.setTop f) acts v).1 = T.setFrames fs) → Steps p.tables e below (T.setTop g) (T.setFrames fs)) (hc : cells ≤ kc) (hn : slots ≤ ks) (hQ : Q v T.heap locs) : own_Ends p e below s Q kc ks T g := by
  obtain ⟨fs, hr, hrun, hended, hW, hsame⟩ := X.leave (v := v) hv hlk
  exact ⟨_, _, hs fs hr, hrun, hended, _, _, rfl, hQ, ⟨_, rfl⟩, hW, hsame.mono hc hn⟩
theorem own_retI (X : Stand p l e R s m args below meth c T locs cells slots) (hx : p.tables.exec = Jvm.exec) (hlk : meth.locks = false) {z : Int32} (hret : meth.sig.returnType = some .int) (hd : decode c.code pc = .ok (.ireturn, 1)) (hc : cells ≤ kc) (hn : slots ≤ ks) (hQ : Q (some (.int z)) T.heap locs) : own_Ends p e below s Q kc ks T (mkF m pc ls (.int z :: st)) :=
  own_leave X hlk (fun h => by rw [hret] at h; cases h) (fun fs hr => retI X hx hret hd hr) hc hn hQ
theorem own_retN (X : Stand p l e R s m args below meth c T locs cells slots) (hx : p.tables.exec = Jvm.exec) (hlk : meth.locks = false) {z : Int32} {ty : FieldType} (hret : meth.sig.returnType = some ty) (ht : ty = .boolean ∨ ty = .byte ∨ ty = .char ∨ ty = .short) (hd : decode c.code pc = .ok (.ireturn, 1)) (hc : cells ≤ kc) (hn : slots ≤ ks) (hQ : Q (some (.int (nar ty z))) T.heap locs) : own_Ends p e below s Q kc ks T (mkF m pc ls (.int z :: st)) :=
  own_leave X hlk (fun h => by rw [hret] at h; cases h) (fun fs hr => retN X hx (t := ty) hret ht hd hr) hc hn hQ
theorem own_retL (X : Stand p l e R s m args below meth c T locs cells slots) (hx : p.tables.exec = Jvm.exec) (hlk : meth.locks = false) {z : Int64} (hret : meth.sig.returnType = some .long) (hd : decode c.code pc = .ok (.lreturn, 1)) (hc : cells ≤ kc) (hn : slots ≤ ks) (hQ : Q (some (.long z)) T.heap locs) : own_Ends p e below s Q kc ks T (mkF m pc ls [.long z]) :=
  own_leave X hlk (fun h => by rw [hret] at h; cases h) (fun fs hr => retOut X hx (t := .long) hret rfl (Or.inr (Or.inl ⟨rfl, rfl, _, rfl⟩)) hd hr) hc hn hQ
theorem own_retD (X : Stand p l e R s m args below meth c T locs cells slots) (hx : p.tables.exec = Jvm.exec) (hlk : meth.locks = false) {z : UInt64} (hret : meth.sig.returnType = some .double) (hd : decode c.code pc = .ok (.dreturn, 1)) (hc : cells ≤ kc) (hn : slots ≤ ks) (hQ : Q (some (.double z)) T.heap locs) : own_Ends p e below s Q kc ks T (mkF m pc ls [.double z]) :=
  own_leave X hlk (fun h => by rw [hret] at h; cases h) (fun fs hr => retOut X hx (t := .double) hret rfl (Or.inr (Or.inr (Or.inl ⟨rfl, rfl, _, rfl⟩))) hd hr) hc hn hQ
theorem own_retA (X : Stand p l e R s m args below meth c T locs cells slots) (hx : p.tables.exec = Jvm.exec) (hlk : meth.locks = false) {w : Value} {ty : FieldType} (hret : meth.sig.returnType = some ty) (ht : ty.isReference = true) (hw : w.isRef = true) (hn1 : narrow ty w = w) (hd : decode c.code pc = .ok (.areturn, 1)) (hc : cells ≤ kc) (hn : slots ≤ ks) (hQ : Q (some w) T.heap locs) : own_Ends p e below s Q kc ks T (mkF m pc ls (w :: st)) :=
  own_leave X hlk (fun h => by rw [hret] at h; cases h) (fun fs hr => retOut X hx (t := ty) hret hn1 (Or.inr (Or.inr (Or.inr (Or.inr ⟨rfl, ht, hw⟩)))) hd hr) hc hn hQ
theorem own_retV (X : Stand p l e R s m args below meth c T locs cells slots) (hx : p.tables.exec = Jvm.exec) (hlk : meth.locks = false) (hret : meth.sig.returnType = none) (hd : decode c.code pc = .ok (.return_, 1)) (hc : cells ≤ kc) (hn : slots ≤ ks) (hQ : Q none T.heap locs) : own_Ends p e below s Q kc ks T (mkF m pc ls []) :=
  own_leave X hlk (fun _ => rfl) (fun fs hr => X.returnOut hx hret hd hr) hc hn hQ
theorem own_iloadN (X : Stand p l e R s m args below meth c T locs cells slots) (hx : p.tables.exec = Jvm.exec) {k : Fin 4} {v : Int32} (hd : decode c.code pc = .ok (.iload_n k, 1)) (hp : pc + 1 = pc') (hl : ls[k.val]? = some (.val (.int v))) (K : own_Ends p e below s Q kc ks T (mkF m pc' ls (.int v :: st))) : own_Ends p e below s Q kc ks T (mkF m pc ls st) := by
  subst hp
  exact own_go (fun t k => XS.iloadN X.here hx rfl hd hl k) K
theorem own_iload (X : Stand p l e R s m args below meth c T locs cells slots) (hx : p.tables.exec = Jvm.exec) {k : Nat} {v : Int32} (hd : decode c.code pc = .ok (.iload k, 2)) (hp : pc + 2 = pc') (hl : ls[k]? = some (.val (.int v))) (K : own_Ends p e below s Q kc ks T (mkF m pc' ls (.int v :: st))) : own_Ends p e below s Q kc ks T (mkF m pc ls st) := by
  subst hp
  exact own_go (fun t k => XS.iload X.here hx rfl hd hl k) K
theorem own_istoreN (X : Stand p l e R s m args below meth c T locs cells slots) (hx : p.tables.exec = Jvm.exec) {k : Fin 4} {v : Int32} {l' : Array Slot} (hd : decode c.code pc = .ok (.istore_n k, 1)) (hp : pc + 1 = pc') (hl : storeLocals ls k.val (.int v) = some l') (K : own_Ends p e below s Q kc ks T (mkF m pc' l' st)) : own_Ends p e below s Q kc ks T (mkF m pc ls (.int v :: st)) := by
  subst hp
  exact own_go (fun t k => XS.istoreN X.here hx rfl hd rfl hl k) K
theorem own_istore (X : Stand p l e R s m args below meth c T locs cells slots) (hx : p.tables.exec = Jvm.exec) {k : Nat} {v : Int32} {l' : Array Slot} (hd : decode c.code pc = .ok (.istore k, 2)) (hp : pc + 2 = pc') (hl : storeLocals ls k (.int v) = some l') (K : own_Ends p e below s Q kc ks T (mkF m pc' l' st)) : own_Ends p e below s Q kc ks T (mkF m pc ls (.int v :: st)) := by
  subst hp
  exact own_go (fun t k => XS.istore X.here hx rfl hd rfl hl k) K
theorem own_lloadN (X : Stand p l e R s m args below meth c T locs cells slots) (hx : p.tables.exec = Jvm.exec) {k : Fin 4} {v : Int64} (hd : decode c.code pc = .ok (.lload_n k, 1)) (hp : pc + 1 = pc') (hl : ls[k.val]? = some (.val (.long v))) (K : own_Ends p e below s Q kc ks T (mkF m pc' ls (.long v :: st))) : own_Ends p e below s Q kc ks T (mkF m pc ls st) := by
  subst hp
  exact own_go (fun t k => XS.lloadN X.here hx rfl hd hl k) K
theorem own_lload (X : Stand p l e R s m args below meth c T locs cells slots) (hx : p.tables.exec = Jvm.exec) {k : Nat} {v : Int64} (hd : decode c.code pc = .ok (.lload k, 2)) (hp : pc + 2 = pc') (hl : ls[k]? = some (.val (.long v))) (K : own_Ends p e below s Q kc ks T (mkF m pc' ls (.long v :: st))) : own_Ends p e below s Q kc ks T (mkF m pc ls st) := by
  subst hp
  exact own_go (fun t k => XS.lload X.here hx rfl hd hl k) K
theorem own_lstoreN (X : Stand p l e R s m args below meth c T locs cells slots) (hx : p.tables.exec = Jvm.exec) {k : Fin 4} {v : Int64} {l' : Array Slot} (hd : decode c.code pc = .ok (.lstore_n k, 1)) (hp : pc + 1 = pc') (hl : storeLocals ls k.val (.long v) = some l') (K : own_Ends p e below s Q kc ks T (mkF m pc' l' st)) : own_Ends p e below s Q kc ks T (mkF m pc ls (.long v :: st)) := by
  subst hp
  exact own_go (fun t k => XS.lstoreN X.here hx rfl hd rfl hl k) K
theorem own_lstore (X : Stand p l e R s m args below meth c T locs cells slots) (hx : p.tables.exec = Jvm.exec) {k : Nat} {v : Int64} {l' : Array Slot} (hd : decode c.code pc = .ok (.lstore k, 2)) (hp : pc + 2 = pc') (hl : storeLocals ls k (.long v) = some l') (K : own_Ends p e below s Q kc ks T (mkF m pc' l' st)) : own_Ends p e below s Q kc ks T (mkF m pc ls (.long v :: st)) := by
  subst hp
  exact own_go (fun t k => XS.lstore X.here hx rfl hd rfl hl k) K
theorem own_dloadN (X : Stand p l e R s m args below meth c T locs cells slots) (hx : p.tables.exec = Jvm.exec) {k : Fin 4} {v : UInt64} (hd : decode c.code pc = .ok (.dload_n k, 1)) (hp : pc + 1 = pc') (hl : ls[k.val]? = some (.val (.double v))) (K : own_Ends p e below s Q kc ks T (mkF m pc' ls (.double v :: st))) : own_Ends p e below s Q kc ks T (mkF m pc ls st) := by
  subst hp
  exact own_go (fun t k => XS.dloadN X.here hx rfl hd hl k) K
theorem own_dload (X : Stand p l e R s m args below meth c T locs cells slots) (hx : p.tables.exec = Jvm.exec) {k : Nat} {v : UInt64} (hd : decode c.code pc = .ok (.dload k, 2)) (hp : pc + 2 = pc') (hl : ls[k]? = some (.val (.double v))) (K : own_Ends p e below s Q kc ks T (mkF m pc' ls (.double v :: st))) : own_Ends p e below s Q kc ks T (mkF m pc ls st) := by
  subst hp
  exact own_go (fun t k => XS.dload X.here hx rfl hd hl k) K
theorem own_dstoreN (X : Stand p l e R s m args below meth c T locs cells slots) (hx : p.tables.exec = Jvm.exec) {k : Fin 4} {v : UInt64} {l' : Array Slot} (hd : decode c.code pc = .ok (.dstore_n k, 1)) (hp : pc + 1 = pc') (hl : storeLocals ls k.val (.double v) = some l') (K : own_Ends p e below s Q kc ks T (mkF m pc' l' st)) : own_Ends p e below s Q kc ks T (mkF m pc ls (.double v :: st)) := by
  subst hp
  exact own_go (fun t k => XS.dstoreN X.here hx rfl hd rfl hl k) K
theorem own_dstore (X : Stand p l e R s m args below meth c T locs cells slots) (hx : p.tables.exec = Jvm.exec) {k : Nat} {v : UInt64} {l' : Array Slot} (hd : decode c.code pc = .ok (.dstore k, 2)) (hp : pc + 2 = pc') (hl : storeLocals ls k (.double v) = some l') (K : own_Ends p e below s Q kc ks T (mkF m pc' l' st)) : own_Ends p e below s Q kc ks T (mkF m pc ls (.double v :: st)) := by
  subst hp
  exact own_go (fun t k => XS.dstore X.here hx rfl hd rfl hl k) K
theorem own_aloadN (X : Stand p l e R s m args below meth c T locs cells slots) (hx : p.tables.exec = Jvm.exec) {k : Fin 4} {v : Value} (hd : decode c.code pc = .ok (.aload_n k, 1)) (hp : pc + 1 = pc') (hl : ls[k.val]? = some (.val v)) (hv : v.isRef = true) (K : own_Ends p e below s Q kc ks T (mkF m pc' ls (v :: st))) : own_Ends p e below s Q kc ks T (mkF m pc ls st) := by
  subst hp
  exact own_go (fun t k => XS.aloadN X.here hx rfl hd hl hv k) K
theorem own_aload (X : Stand p l e R s m args below meth c T locs cells slots) (hx : p.tables.exec = Jvm.exec) {k : Nat} {v : Value} (hd : decode c.code pc = .ok (.aload k, 2)) (hp : pc + 2 = pc') (hl : ls[k]? = some (.val v)) (hv : v.isRef = true) (K : own_Ends p e below s Q kc ks T (mkF m pc' ls (v :: st))) : own_Ends p e below s Q kc ks T (mkF m pc ls st) := by
  subst hp
  exact own_go (fun t k => XS.aload X.here hx rfl hd hl hv k) K
theorem own_astoreN (X : Stand p l e R s m args below meth c T locs cells slots) (hx : p.tables.exec = Jvm.exec) {k : Fin 4} {v : Value} {l' : Array Slot} (hd : decode c.code pc = .ok (.astore_n k, 1)) (hp : pc + 1 = pc') (hv : v.isRef = true) (hl : storeLocals ls k.val v = some l') (K : own_Ends p e below s Q kc ks T (mkF m pc' l' st)) : own_Ends p e below s Q kc ks T (mkF m pc ls (v :: st)) := by
  subst hp
  exact own_go (fun t k => XS.astoreN X.here hx rfl hd rfl hv hl k) K
theorem own_astore (X : Stand p l e R s m args below meth c T locs cells slots) (hx : p.tables.exec = Jvm.exec) {k : Nat} {v : Value} {l' : Array Slot} (hd : decode c.code pc = .ok (.astore k, 2)) (hp : pc + 2 = pc') (hv : v.isRef = true) (hl : storeLocals ls k v = some l') (K : own_Ends p e below s Q kc ks T (mkF m pc' l' st)) : own_Ends p e below s Q kc ks T (mkF m pc ls (v :: st)) := by
  subst hp
  exact own_go (fun t k => XS.astore X.here hx rfl hd rfl hv hl k) K
theorem own_iconst (X : Stand p l e R s m args below meth c T locs cells slots) (hx : p.tables.exec = Jvm.exec) {i : Int} {z : Int32} (hd : decode c.code pc = .ok (.iconst i, 1)) (hp : pc + 1 = pc') (hz : Int32.ofInt i = z) (K : own_Ends p e below s Q kc ks T (mkF m pc' ls (.int z :: st))) : own_Ends p e below s Q kc ks T (mkF m pc ls st) := by
  subst hp hz
  exact own_go (fun t k => XS.iconst X.here hx rfl hd k) K
theorem own_bipush (X : Stand p l e R s m args below meth c T locs cells slots) (hx : p.tables.exec = Jvm.exec) {i : Int} {z : Int32} (hd : decode c.code pc = .ok (.bipush i, 2)) (hp : pc + 2 = pc') (hz : (Int8.ofInt i).toInt32 = z) (K : own_Ends p e below s Q kc ks T (mkF m pc' ls (.int z :: st))) : own_Ends p e below s Q kc ks T (mkF m pc ls st) := by
  subst hp hz
  exact own_go (fun t k => XS.bipush X.here hx rfl hd k) K
theorem own_sipush (X : Stand p l e R s m args below meth c T locs cells slots) (hx : p.tables.exec = Jvm.exec) {i : Int} {z : Int32} (hd : decode c.code pc = .ok (.sipush i, 3)) (hp : pc + 3 = pc') (hz : (Int16.ofInt i).toInt32 = z) (K : own_Ends p e below s Q kc ks T (mkF m pc' ls (.int z :: st))) : own_Ends p e below s Q kc ks T (mkF m pc ls st) := by
  subst hp hz
  exact own_go (fun t k => XS.sipush X.here hx rfl hd k) K
theorem own_lconst (X : Stand p l e R s m args below meth c T locs cells slots) (hx : p.tables.exec = Jvm.exec) {k : Fin 2} {z : Int64} (hd : decode c.code pc = .ok (.lconst k, 1)) (hp : pc + 1 = pc') (hz : Int64.ofNat k = z) (K : own_Ends p e below s Q kc ks T (mkF m pc' ls (.long z :: st))) : own_Ends p e below s Q kc ks T (mkF m pc ls st) := by
  subst hp hz
  exact own_go (fun t k => XS.lconst X.here hx rfl hd k) K
theorem own_anull (X : Stand p l e R s m args below meth c T locs cells slots) (hx : p.tables.exec = Jvm.exec) (hd : decode c.code pc = .ok (.aconst_null, 1)) (hp : pc + 1 = pc')  (K : own_Ends p e below s Q kc ks T (mkF m pc' ls (.null :: st))) : own_Ends p e below s Q kc ks T (mkF m pc ls st) := by
  subst hp
  exact own_go (fun t k => XS.aconstNull X.here hx rfl hd k) K
theorem own_iadd (X : Stand p l e R s m args below meth c T locs cells slots) (hx : p.tables.exec = Jvm.exec) {x y z : Int32} (hd : decode c.code pc = .ok (.iadd, 1)) (hp : pc + 1 = pc') (hz : x + y = z) (K : own_Ends p e below s Q kc ks T (mkF m pc' ls (.int z :: st))) : own_Ends p e below s Q kc ks T (mkF m pc ls (.int y :: .int x :: st)) := by
  subst hp hz
  exact own_go (fun t k => XS.iadd X.here hx rfl hd rfl k) K
theorem own_ladd (X : Stand p l e R s m args below meth c T locs cells slots) (hx : p.tables.exec = Jvm.exec) {x y z : Int64} (hd : decode c.code pc = .ok (.ladd, 1)) (hp : pc + 1 = pc') (hz : x + y = z) (K : own_Ends p e below s Q kc ks T (mkF m pc' ls (.long z :: st))) : own_Ends p e below s Q kc ks T (mkF m pc ls (.long y :: .long x :: st)) := by
  subst hp hz
  exact own_go (fun t k => XS.ladd X.here hx rfl hd rfl k) K
theorem own_isub (X : Stand p l e R s m args below meth c T locs cells slots) (hx : p.tables.exec = Jvm.exec) {x y z : Int32} (hd : decode c.code pc = .ok (.isub, 1)) (hp : pc + 1 = pc') (hz : x - y = z) (K : own_Ends p e below s Q kc ks T (mkF m pc' ls (.int z :: st))) : own_Ends p e below s Q kc ks T (mkF m pc ls (.int y :: .int x :: st)) := by
  subst hp hz
  exact own_go (fun t k => XS.isub X.here hx rfl hd rfl k) K
theorem own_lsub (X : Stand p l e R s m args below meth c T locs cells slots) (hx : p.tables.exec = Jvm.exec) {x y z : Int64} (hd : decode c.code pc = .ok (.lsub, 1)) (hp : pc + 1 = pc') (hz : x - y = z) (K : own_Ends p e below s Q kc ks T (mkF m pc' ls (.long z :: st))) : own_Ends p e below s Q kc ks T (mkF m pc ls (.long y :: .long x :: st)) := by
  subst hp hz
  exact own_go (fun t k => XS.lsub X.here hx rfl hd rfl k) K
theorem own_imul (X : Stand p l e R s m args below meth c T locs cells slots) (hx : p.tables.exec = Jvm.exec) {x y z : Int32} (hd : decode c.code pc = .ok (.imul, 1)) (hp : pc + 1 = pc') (hz : x * y = z) (K : own_Ends p e below s Q kc ks T (mkF m pc' ls (.int z :: st))) : own_Ends p e below s Q kc ks T (mkF m pc ls (.int y :: .int x :: st)) := by
  subst hp hz
  exact own_go (fun t k => XS.imul X.here hx rfl hd rfl k) K
theorem own_lmul (X : Stand p l e R s m args below meth c T locs cells slots) (hx : p.tables.exec = Jvm.exec) {x y z : Int64} (hd : decode c.code pc = .ok (.lmul, 1)) (hp : pc + 1 = pc') (hz : x * y = z) (K : own_Ends p e below s Q kc ks T (mkF m pc' ls (.long z :: st))) : own_Ends p e below s Q kc ks T (mkF m pc ls (.long y :: .long x :: st)) := by
  subst hp hz
  exact own_go (fun t k => XS.lmul X.here hx rfl hd rfl k) K
theorem own_iand (X : Stand p l e R s m args below meth c T locs cells slots) (hx : p.tables.exec = Jvm.exec) {x y z : Int32} (hd : decode c.code pc = .ok (.iand, 1)) (hp : pc + 1 = pc') (hz : x &&& y = z) (K : own_Ends p e below s Q kc ks T (mkF m pc' ls (.int z :: st))) : own_Ends p e below s Q kc ks T (mkF m pc ls (.int y :: .int x :: st)) := by
  subst hp hz
  exact own_go (fun t k => XS.iand X.here hx rfl hd rfl k) K
theorem own_land (X : Stand p l e R s m args below meth c T locs cells slots) (hx : p.tables.exec = Jvm.exec) {x y z : Int64} (hd : decode c.code pc = .ok (.land, 1)) (hp : pc + 1 = pc') (hz : x &&& y = z) (K : own_Ends p e below s Q kc ks T (mkF m pc' ls (.long z :: st))) : own_Ends p e below s Q kc ks T (mkF m pc ls (.long y :: .long x :: st)) := by
  subst hp hz
  exact own_go (fun t k => XS.land X.here hx rfl hd rfl k) K
theorem own_ior (X : Stand p l e R s m args below meth c T locs cells slots) (hx : p.tables.exec = Jvm.exec) {x y z : Int32} (hd : decode c.code pc = .ok (.ior, 1)) (hp : pc + 1 = pc') (hz : x ||| y = z) (K : own_Ends p e below s Q kc ks T (mkF m pc' ls (.int z :: st))) : own_Ends p e below s Q kc ks T (mkF m pc ls (.int y :: .int x :: st)) := by
  subst hp hz
  exact own_go (fun t k => XS.ior X.here hx rfl hd rfl k) K
theorem own_lor (X : Stand p l e R s m args below meth c T locs cells slots) (hx : p.tables.exec = Jvm.exec) {x y z : Int64} (hd : decode c.code pc = .ok (.lor, 1)) (hp : pc + 1 = pc') (hz : x ||| y = z) (K : own_Ends p e below s Q kc ks T (mkF m pc' ls (.long z :: st))) : own_Ends p e below s Q kc ks T (mkF m pc ls (.long y :: .long x :: st)) := by
  subst hp hz
  exact own_go (fun t k => XS.lor X.here hx rfl hd rfl k) K
theorem own_ixor (X : Stand p l e R s m args below meth c T locs cells slots) (hx : p.tables.exec = Jvm.exec) {x y z : Int32} (hd : decode c.code pc = .ok (.ixor, 1)) (hp : pc + 1 = pc') (hz : x ^^^ y = z) (K : own_Ends p e below s Q kc ks T (mkF m pc' ls (.int z :: st))) : own_Ends p e below s Q kc ks T (mkF m pc ls (.int y :: .int x :: st)) := by
  subst hp hz
  exact own_go (fun t k => XS.ixor X.here hx rfl hd rfl k) K
theorem own_lxor (X : Stand p l e R s m args below meth c T locs cells slots) (hx : p.tables.exec = Jvm.exec) {x y z : Int64} (hd : decode c.code pc = .ok (.lxor, 1)) (hp : pc + 1 = pc') (hz : x ^^^ y = z) (K : own_Ends p e below s Q kc ks T (mkF m pc' ls (.long z :: st))) : own_Ends p e below s Q kc ks T (mkF m pc ls (.long y :: .long x :: st)) := by
  subst hp hz
  exact own_go (fun t k => XS.lxor X.here hx rfl hd rfl k) K
theorem own_ishl (X : Stand p l e R s m args below meth c T locs cells slots) (hx : p.tables.exec = Jvm.exec) {x y z : Int32} (hd : decode c.code pc = .ok (.ishl, 1)) (hp : pc + 1 = pc') (hz : x <<< (y &&& 31) = z) (K : own_Ends p e below s Q kc ks T (mkF m pc' ls (.int z :: st))) : own_Ends p e below s Q kc ks T (mkF m pc ls (.int y :: .int x :: st)) := by
  subst hp hz
  exact own_go (fun t k => XS.ishl X.here hx rfl hd rfl k) K
theorem own_ishr (X : Stand p l e R s m args below meth c T locs cells slots) (hx : p.tables.exec = Jvm.exec) {x y z : Int32} (hd : decode c.code pc = .ok (.ishr, 1)) (hp : pc + 1 = pc') (hz : x >>> (y &&& 31) = z) (K : own_Ends p e below s Q kc ks T (mkF m pc' ls (.int z :: st))) : own_Ends p e below s Q kc ks T (mkF m pc ls (.int y :: .int x :: st)) := by
  subst hp hz
  exact own_go (fun t k => XS.ishr X.here hx rfl hd rfl k) K
theorem own_iushr (X : Stand p l e R s m args below meth c T locs cells slots) (hx : p.tables.exec = Jvm.exec) {x y z : Int32} (hd : decode c.code pc = .ok (.iushr, 1)) (hp : pc + 1 = pc') (hz : (x.toUInt32 >>> (y &&& 31).toUInt32).toInt32 = z) (K : own_Ends p e below s Q kc ks T (mkF m pc' ls (.int z :: st))) : own_Ends p e below s Q kc ks T (mkF m pc ls (.int y :: .int x :: st)) := by
  subst hp hz
  exact own_go (fun t k => XS.iushr X.here hx rfl hd rfl k) K
theorem own_lshl (X : Stand p l e R s m args below meth c T locs cells slots) (hx : p.tables.exec = Jvm.exec) {x z : Int64} {y : Int32} (hd : decode c.code pc = .ok (.lshl, 1)) (hp : pc + 1 = pc') (hz : x <<< (y &&& 0x3f).toInt64 = z) (K : own_Ends p e below s Q kc ks T (mkF m pc' ls (.long z :: st))) : own_Ends p e below s Q kc ks T (mkF m pc ls (.int y :: .long x :: st)) := by
  subst hp hz
  exact own_go (fun t k => XS.lshl X.here hx rfl hd rfl k) K
theorem own_lshr (X : Stand p l e R s m args below meth c T locs cells slots) (hx : p.tables.exec = Jvm.exec) {x z : Int64} {y : Int32} (hd : decode c.code pc = .ok (.lshr, 1)) (hp : pc + 1 = pc') (hz : x >>> (y &&& 0x3f).toInt64 = z) (K : own_Ends p e below s Q kc ks T (mkF m pc' ls (.long z :: st))) : own_Ends p e below s Q kc ks T (mkF m pc ls (.int y :: .long x :: st)) := by
  subst hp hz
  exact own_go (fun t k => XS.lshr X.here hx rfl hd rfl k) K
theorem own_lushr (X : Stand p l e R s m args below meth c T locs cells slots) (hx : p.tables.exec = Jvm.exec) {x z : Int64} {y : Int32} (hd : decode c.code pc = .ok (.lushr, 1)) (hp : pc + 1 = pc') (hz : (x.toUInt64 >>> (y &&& 0x3f).toInt64.toUInt64).toInt64 = z) (K : own_Ends p e below s Q kc ks T (mkF m pc' ls (.long z :: st))) : own_Ends p e below s Q kc ks T (mkF m pc ls (.int y :: .long x :: st)) := by
  subst hp hz
  exact own_go (fun t k => XS.lushr X.here hx rfl hd rfl k) K
theorem own_idiv (X : Stand p l e R s m args below meth c T locs cells slots) (hx : p.tables.exec = Jvm.exec) {x y z : Int32} (hd : decode c.code pc = .ok (.idiv, 1)) (hp : pc + 1 = pc') (hy : y ≠ 0) (hz : x / y = z) (K : own_Ends p e below s Q kc ks T (mkF m pc' ls (.int z :: st))) : own_Ends p e below s Q kc ks T (mkF m pc ls (.int y :: .int x :: st)) := by
  subst hp hz
  exact own_go (fun t k => XS.idiv X.here hx rfl hd rfl hy k) K
theorem own_irem (X : Stand p l e R s m args below meth c T locs cells slots) (hx : p.tables.exec = Jvm.exec) {x y z : Int32} (hd : decode c.code pc = .ok (.irem, 1)) (hp : pc + 1 = pc') (hy : y ≠ 0) (hz : x % y = z) (K : own_Ends p e below s Q kc ks T (mkF m pc' ls (.int z :: st))) : own_Ends p e below s Q kc ks T (mkF m pc ls (.int y :: .int x :: st)) := by
  subst hp hz
  exact own_go (fun t k => iremM (g := mkF m pc ls (.int y :: .int x :: st)) X hx rfl hd rfl hy k) K
theorem own_ldiv (X : Stand p l e R s m args below meth c T locs cells slots) (hx : p.tables.exec = Jvm.exec) {x y z : Int64} (hd : decode c.code pc = .ok (.ldiv, 1)) (hp : pc + 1 = pc') (hy : y ≠ 0) (hz : x / y = z) (K : own_Ends p e below s Q kc ks T (mkF m pc' ls (.long z :: st))) : own_Ends p e below s Q kc ks T (mkF m pc ls (.long y :: .long x :: st)) := by
  subst hp hz
  exact own_go (fun t k => XS.ldiv X.here hx rfl hd rfl hy k) K
theorem own_lrem (X : Stand p l e R s m args below meth c T locs cells slots) (hx : p.tables.exec = Jvm.exec) {x y z : Int64} (hd : decode c.code pc = .ok (.lrem, 1)) (hp : pc + 1 = pc') (hy : y ≠ 0) (hz : x - (x / y) * y = z) (K : own_Ends p e below s Q kc ks T (mkF m pc' ls (.long z :: st))) : own_Ends p e below s Q kc ks T (mkF m pc ls (.long y :: .long x :: st)) := by
  subst hp hz
  exact own_go (fun t k => XS.lrem X.here hx rfl hd rfl hy k) K
theorem own_ineg (X : Stand p l e R s m args below meth c T locs cells slots) (hx : p.tables.exec = Jvm.exec) {x : Int32} {z : Int32} (hd : decode c.code pc = .ok (.ineg, 1)) (hp : pc + 1 = pc') (hz : -x = z) (K : own_Ends p e below s Q kc ks T (mkF m pc' ls (.int z :: st))) : own_Ends p e below s Q kc ks T (mkF m pc ls (.int x :: st)) := by
  subst hp hz
  exact own_go (fun t k => XS.ineg X.here hx rfl hd rfl k) K
theorem own_lneg (X : Stand p l e R s m args below meth c T locs cells slots) (hx : p.tables.exec = Jvm.exec) {x : Int64} {z : Int64} (hd : decode c.code pc = .ok (.lneg, 1)) (hp : pc + 1 = pc') (hz : -x = z) (K : own_Ends p e below s Q kc ks T (mkF m pc' ls (.long z :: st))) : own_Ends p e below s Q kc ks T (mkF m pc ls (.long x :: st)) := by
  subst hp hz
  exact own_go (fun t k => XS.lneg X.here hx rfl hd rfl k) K
theorem own_i2l (X : Stand p l e R s m args below meth c T locs cells slots) (hx : p.tables.exec = Jvm.exec) {x : Int32} {z : Int64} (hd : decode c.code pc = .ok (.i2l, 1)) (hp : pc + 1 = pc') (hz : x.toInt64 = z) (K : own_Ends p e below s Q kc ks T (mkF m pc' ls (.long z :: st))) : own_Ends p e below s Q kc ks T (mkF m pc ls (.int x :: st)) := by
  subst hp hz
  exact own_go (fun t k => XS.i2l X.here hx rfl hd rfl k) K
theorem own_l2i (X : Stand p l e R s m args below meth c T locs cells slots) (hx : p.tables.exec = Jvm.exec) {x : Int64} {z : Int32} (hd : decode c.code pc = .ok (.l2i, 1)) (hp : pc + 1 = pc') (hz : x.toInt32 = z) (K : own_Ends p e below s Q kc ks T (mkF m pc' ls (.int z :: st))) : own_Ends p e below s Q kc ks T (mkF m pc ls (.long x :: st)) := by
  subst hp hz
  exact own_go (fun t k => XS.l2i X.here hx rfl hd rfl k) K
theorem own_i2b (X : Stand p l e R s m args below meth c T locs cells slots) (hx : p.tables.exec = Jvm.exec) {x : Int32} {z : Int32} (hd : decode c.code pc = .ok (.i2b, 1)) (hp : pc + 1 = pc') (hz : x.toInt8.toInt32 = z) (K : own_Ends p e below s Q kc ks T (mkF m pc' ls (.int z :: st))) : own_Ends p e below s Q kc ks T (mkF m pc ls (.int x :: st)) := by
  subst hp hz
  exact own_go (fun t k => XS.i2b X.here hx rfl hd rfl k) K
theorem own_i2s (X : Stand p l e R s m args below meth c T locs cells slots) (hx : p.tables.exec = Jvm.exec) {x : Int32} {z : Int32} (hd : decode c.code pc = .ok (.i2s, 1)) (hp : pc + 1 = pc') (hz : x.toInt16.toInt32 = z) (K : own_Ends p e below s Q kc ks T (mkF m pc' ls (.int z :: st))) : own_Ends p e below s Q kc ks T (mkF m pc ls (.int x :: st)) := by
  subst hp hz
  exact own_go (fun t k => XS.i2s X.here hx rfl hd rfl k) K
theorem own_i2c (X : Stand p l e R s m args below meth c T locs cells slots) (hx : p.tables.exec = Jvm.exec) {x : Int32} {z : Int32} (hd : decode c.code pc = .ok (.i2c, 1)) (hp : pc + 1 = pc') (hz : x.toUInt32.toUInt16.toUInt32.toInt32 = z) (K : own_Ends p e below s Q kc ks T (mkF m pc' ls (.int z :: st))) : own_Ends p e below s Q kc ks T (mkF m pc ls (.int x :: st)) := by
  subst hp hz
  exact own_go (fun t k => XS.i2c X.here hx rfl hd rfl k) K
theorem own_i2d (X : Stand p l e R s m args below meth c T locs cells slots) (hx : p.tables.exec = Jvm.exec) {x : Int32} {z : UInt64} (hd : decode c.code pc = .ok (.i2d, 1)) (hp : pc + 1 = pc') (hz : FP.i2d x = z) (K : own_Ends p e below s Q kc ks T (mkF m pc' ls (.double z :: st))) : own_Ends p e below s Q kc ks T (mkF m pc ls (.int x :: st)) := by
  subst hp hz
  exact own_go (fun t k => XS.i2dS (g := mkF m pc ls (.int x :: st)) X.here hx rfl hd rfl rfl k) K
theorem own_dadd (X : Stand p l e R s m args below meth c T locs cells slots) (hx : p.tables.exec = Jvm.exec) {x y z : UInt64} (hd : decode c.code pc = .ok (.dadd, 1)) (hp : pc + 1 = pc') (hn : Jvm.Free.Fl.NoNaN64 (FP.dadd x y)) (hz : FP.dadd x y = z) (K : own_Ends p e below s Q kc ks T (mkF m pc' ls (.double z :: st))) : own_Ends p e below s Q kc ks T (mkF m pc ls (.double y :: .double x :: st)) := by
  subst hp hz
  exact own_go (fun t k => XS.daddS (g := mkF m pc ls (.double y :: .double x :: st)) X.here hx rfl hd rfl hn rfl k) K
theorem own_dmul (X : Stand p l e R s m args below meth c T locs cells slots) (hx : p.tables.exec = Jvm.exec) {x y z : UInt64} (hd : decode c.code pc = .ok (.dmul, 1)) (hp : pc + 1 = pc') (hn : Jvm.Free.Fl.NoNaN64 (FP.dmul x y)) (hz : FP.dmul x y = z) (K : own_Ends p e below s Q kc ks T (mkF m pc' ls (.double z :: st))) : own_Ends p e below s Q kc ks T (mkF m pc ls (.double y :: .double x :: st)) := by
  subst hp hz
  exact own_go (fun t k => XS.dmulS (g := mkF m pc ls (.double y :: .double x :: st)) X.here hx rfl hd rfl hn rfl k) K
theorem own_dcmp (X : Stand p l e R s m args below meth c T locs cells slots) (hx : p.tables.exec = Jvm.exec) {o : CmpOp} {x y : UInt64} {z : Int32} (hd : decode c.code pc = .ok (.dcmp o, 1)) (hp : pc + 1 = pc') (hz : cmpValue (FP.dcmp x y) o = z) (K : own_Ends p e below s Q kc ks T (mkF m pc' ls (.int z :: st))) : own_Ends p e below s Q kc ks T (mkF m pc ls (.double y :: .double x :: st)) := by
  subst hp hz
  exact own_go (fun t k => XS.dcmpS (g := mkF m pc ls (.double y :: .double x :: st)) X.here hx rfl hd rfl rfl k) K
theorem own_lcmp (X : Stand p l e R s m args below meth c T locs cells slots) (hx : p.tables.exec = Jvm.exec) {x y : Int64} {z : Int32} (hd : decode c.code pc = .ok (.lcmp, 1)) (hp : pc + 1 = pc') (hz : lcmpW x y = z) (K : own_Ends p e below s Q kc ks T (mkF m pc' ls (.int z :: st))) : own_Ends p e below s Q kc ks T (mkF m pc ls (.long y :: .long x :: st)) := by
  subst hp hz
  exact own_go (fun t k => XS.lcmp X.here hx rfl hd rfl k) K
theorem own_pop (X : Stand p l e R s m args below meth c T locs cells slots) (hx : p.tables.exec = Jvm.exec) {v : Value} (hd : decode c.code pc = .ok (.pop, 1)) (hp : pc + 1 = pc') (hc : v.category = 1) (K : own_Ends p e below s Q kc ks T (mkF m pc' ls st)) : own_Ends p e below s Q kc ks T (mkF m pc ls (v :: st)) := by
  subst hp
  exact own_go (fun t k => XS.pop X.here hx rfl hd rfl hc k) K
theorem own_dup (X : Stand p l e R s m args below meth c T locs cells slots) (hx : p.tables.exec = Jvm.exec) {v : Value} (hd : decode c.code pc = .ok (.dup, 1)) (hp : pc + 1 = pc') (hc : v.category = 1) (K : own_Ends p e below s Q kc ks T (mkF m pc' ls (v :: v :: st))) : own_Ends p e below s Q kc ks T (mkF m pc ls (v :: st)) := by
  subst hp
  exact own_go (fun t k => XS.dup X.here hx rfl hd rfl hc k) K
theorem own_dupX1 (X : Stand p l e R s m args below meth c T locs cells slots) (hx : p.tables.exec = Jvm.exec) {v w : Value} (hd : decode c.code pc = .ok (.dup_x1, 1)) (hp : pc + 1 = pc') (hc : v.category = 1) (hc' : w.category = 1) (K : own_Ends p e below s Q kc ks T (mkF m pc' ls (v :: w :: v :: st))) : own_Ends p e below s Q kc ks T (mkF m pc ls (v :: w :: st)) := by
  subst hp
  exact own_go (fun t k => XS.dupX1 X.here hx rfl hd rfl hc hc' k) K
theorem own_dup2 (X : Stand p l e R s m args below meth c T locs cells slots) (hx : p.tables.exec = Jvm.exec) {v w : Value} (hd : decode c.code pc = .ok (.dup2, 1)) (hp : pc + 1 = pc') (hc : v.category = 1) (hc' : w.category = 1) (K : own_Ends p e below s Q kc ks T (mkF m pc' ls (v :: w :: v :: w :: st))) : own_Ends p e below s Q kc ks T (mkF m pc ls (v :: w :: st)) := by
  subst hp
  exact own_go (fun t k => XT.dup2 X.here hx rfl hd rfl hc hc' k) K
theorem own_dup2L (X : Stand p l e R s m args below meth c T locs cells slots) (hx : p.tables.exec = Jvm.exec) {x : Int64} (hd : decode c.code pc = .ok (.dup2, 1)) (hp : pc + 1 = pc')  (K : own_Ends p e below s Q kc ks T (mkF m pc' ls (.long x :: .long x :: st))) : own_Ends p e below s Q kc ks T (mkF m pc ls (.long x :: st)) := by
  subst hp
  exact own_go (fun t k => XT.dup2L X.here hx rfl hd rfl k) K
theorem own_iinc (X : Stand p l e R s m args below meth c T locs cells slots) (hx : p.tables.exec = Jvm.exec) {k : Nat} {i : Int} {x z : Int32} {l' : Array Slot} (hd : decode c.code pc = .ok (.iinc k i, 3)) (hp : pc + 3 = pc') (hl : ls[k]? = some (.val (.int x))) (hz : x + Int32.ofInt i = z) (hl' : storeLocals ls k (.int z) = some l') (K : own_Ends p e below s Q kc ks T (mkF m pc' l' st)) : own_Ends p e below s Q kc ks T (mkF m pc ls st) := by
  subst hp hz
  exact own_go (fun t k => XS.iinc X.here hx rfl hd hl hl' k) K
theorem own_goto (X : Stand p l e R s m args below meth c T locs cells slots) (hx : p.tables.exec = Jvm.exec) {o : Int} (hd : decode c.code pc = .ok (.goto o, 3)) (ho : 0 ≤ (pc : Int) + o) (hp : ((pc : Int) + o).toNat = pc') (K : own_Ends p e below s Q kc ks T (mkF m pc' ls st)) : own_Ends p e below s Q kc ks T (mkF m pc ls st) :=
  own_go (fun t k => XS.goto X.here hx rfl rfl hd ho hp k) K
theorem own_ifYes (X : Stand p l e R s m args below meth c T locs cells slots) (hx : p.tables.exec = Jvm.exec) {o : Int} {cd : ClassFile.Cond} {x : Int32} (hd : decode c.code pc = .ok (.ifCond cd o, 3)) (hc : if_icmp.holds cd x 0 = true) (ho : 0 ≤ (pc : Int) + o) (hp : ((pc : Int) + o).toNat = pc') (K : own_Ends p e below s Q kc ks T (mkF m pc' ls st)) : own_Ends p e below s Q kc ks T (mkF m pc ls (.int x :: st)) :=
  own_go (fun t k => XS.ifYes X.here hx rfl rfl hd rfl ((if0 _ _).trans hc) ho hp k) K
theorem own_ifNo (X : Stand p l e R s m args below meth c T locs cells slots) (hx : p.tables.exec = Jvm.exec) {o : Int} {cd : ClassFile.Cond} {x : Int32} (hd : decode c.code pc = .ok (.ifCond cd o, 3)) (hp : pc + 3 = pc') (hc : if_icmp.holds cd x 0 = false) (K : own_Ends p e below s Q kc ks T (mkF m pc' ls st)) : own_Ends p e below s Q kc ks T (mkF m pc ls (.int x :: st)) := by
  subst hp
  exact own_go (fun t k => XS.ifNo X.here hx rfl hd rfl ((if0 _ _).trans hc) k) K
theorem own_icmpYes (X : Stand p l e R s m args below meth c T locs cells slots) (hx : p.tables.exec = Jvm.exec) {o : Int} {cd : ClassFile.Cond} {x y : Int32} (hd : decode c.code pc = .ok (.if_icmp cd o, 3)) (hc : if_icmp.holds cd x y = true) (ho : 0 ≤ (pc : Int) + o) (hp : ((pc : Int) + o).toNat = pc') (K : own_Ends p e below s Q kc ks T (mkF m pc' ls st)) : own_Ends p e below s Q kc ks T (mkF m pc ls (.int y :: .int x :: st)) :=
  own_go (fun t k => XS.icmpYes X.here hx rfl rfl hd rfl hc ho hp k) K
theorem own_icmpNo (X : Stand p l e R s m args below meth c T locs cells slots) (hx : p.tables.exec = Jvm.exec) {o : Int} {cd : ClassFile.Cond} {x y : Int32} (hd : decode c.code pc = .ok (.if_icmp cd o, 3)) (hp : pc + 3 = pc') (hc : if_icmp.holds cd x y = false) (K : own_Ends p e below s Q kc ks T (mkF m pc' ls st)) : own_Ends p e below s Q kc ks T (mkF m pc ls (.int y :: .int x :: st)) := by
  subst hp
  exact own_go (fun t k => XS.icmpNo X.here hx rfl hd rfl hc k) K
theorem own_ifnullYes (X : Stand p l e R s m args below meth c T locs cells slots) (hx : p.tables.exec = Jvm.exec) {o : Int} (hd : decode c.code pc = .ok (.ifnull o, 3)) (ho : 0 ≤ (pc : Int) + o) (hp : ((pc : Int) + o).toNat = pc') (K : own_Ends p e below s Q kc ks T (mkF m pc' ls st)) : own_Ends p e below s Q kc ks T (mkF m pc ls (.null :: st)) :=
  own_go (fun t k => XS.ifnullYes X.here hx rfl rfl hd rfl ho hp k) K
theorem own_ifnullNo (X : Stand p l e R s m args below meth c T locs cells slots) (hx : p.tables.exec = Jvm.exec) {o : Int} {b : Addr} (hd : decode c.code pc = .ok (.ifnull o, 3)) (hp : pc + 3 = pc')  (K : own_Ends p e below s Q kc ks T (mkF m pc' ls st)) : own_Ends p e below s Q kc ks T (mkF m pc ls (.ref b :: st)) := by
  subst hp
  exact own_go (fun t k => XS.ifnullNo X.here hx rfl hd rfl k) K
theorem own_ifnonnullYes (X : Stand p l e R s m args below meth c T locs cells slots) (hx : p.tables.exec = Jvm.exec) {o : Int} {b : Addr} (hd : decode c.code pc = .ok (.ifnonnull o, 3)) (ho : 0 ≤ (pc : Int) + o) (hp : ((pc : Int) + o).toNat = pc') (K : own_Ends p e below s Q kc ks T (mkF m pc' ls st)) : own_Ends p e below s Q kc ks T (mkF m pc ls (.ref b :: st)) :=
  own_go (fun t k => XS.ifnonnullYes X.here hx rfl rfl hd rfl ho hp k) K
theorem own_ifnonnullNo (X : Stand p l e R s m args below meth c T locs cells slots) (hx : p.tables.exec = Jvm.exec) {o : Int} (hd : decode c.code pc = .ok (.ifnonnull o, 3)) (hp : pc + 3 = pc')  (K : own_Ends p e below s Q kc ks T (mkF m pc' ls st)) : own_Ends p e below s Q kc ks T (mkF m pc ls (.null :: st)) := by
  subst hp
  exact own_go (fun t k => XS.ifnonnullNo X.here hx rfl hd rfl k) K
theorem own_acmpYes (X : Stand p l e R s m args below meth c T locs cells slots) (hx : p.tables.exec = Jvm.exec) {o : Int} {cd : ACond} {v w : Value} (hd : decode c.code pc = .ok (.if_acmp cd o, 3)) (h1 : v.isRef = true) (h2 : w.isRef = true) (hc : XT.acmp cd v w = true) (ho : 0 ≤ (pc : Int) + o) (hp : ((pc : Int) + o).toNat = pc') (K : own_Ends p e below s Q kc ks T (mkF m pc' ls st)) : own_Ends p e below s Q kc ks T (mkF m pc ls (w :: v :: st)) :=
  own_go (fun t k => XT.acmpYes X.here hx rfl rfl hd rfl h1 h2 hc ho hp k) K
theorem own_acmpNo (X : Stand p l e R s m args below meth c T locs cells slots) (hx : p.tables.exec = Jvm.exec) {o : Int} {cd : ACond} {v w : Value} (hd : decode c.code pc = .ok (.if_acmp cd o, 3)) (hp : pc + 3 = pc') (h1 : v.isRef = true) (h2 : w.isRef = true) (hc : XT.acmp cd v w = false) (K : own_Ends p e below s Q kc ks T (mkF m pc' ls st)) : own_Ends p e below s Q kc ks T (mkF m pc ls (w :: v :: st)) := by
  subst hp
  exact own_go (fun t k => XT.acmpNo X.here hx rfl hd rfl h1 h2 hc k) K
theorem own_ldcI (X : Stand p l e R s m args below meth c T locs cells slots) (hx : p.tables.exec = Jvm.exec) {own : String} {ix : Nat} {v : Int32} {Z : State} {a0 : Array Value} (hZ : Z.Warmed39 s.vm) (hown : s.vm.findClass own = some m.cls) (w : (Jvm.Cond.constant own ix v).before a0 Z = true) (hd : decode c.code pc = .ok (.ldc ix, 2)) (hp : pc + 2 = pc')  (K : own_Ends p e below s Q kc ks T (mkF m pc' ls (.int v :: st))) : own_Ends p e below s Q kc ks T (mkF m pc ls st) := by
  subst hp
  exact own_go (fun t k => X.ldcInt hx hown (mvT hZ w) (g := mkF m pc ls st) rfl hd t k) K
theorem own_ldcwI (X : Stand p l e R s m args below meth c T locs cells slots) (hx : p.tables.exec = Jvm.exec) {own : String} {ix : Nat} {v : Int32} {Z : State} {a0 : Array Value} (hZ : Z.Warmed39 s.vm) (hown : s.vm.findClass own = some m.cls) (w : (Jvm.Cond.constant own ix v).before a0 Z = true) (hd : decode c.code pc = .ok (.ldc_w ix, 3)) (hp : pc + 3 = pc')  (K : own_Ends p e below s Q kc ks T (mkF m pc' ls (.int v :: st))) : own_Ends p e below s Q kc ks T (mkF m pc ls st) := by
  subst hp
  exact own_go (fun t k => X.ldcwInt hx hown (mvT hZ w) (g := mkF m pc ls st) rfl hd t k) K
theorem own_ldc2J (X : Stand p l e R s m args below meth c T locs cells slots) (hx : p.tables.exec = Jvm.exec) {own : String} {ix : Nat} {v : Int64} {Z : State} {a0 : Array Value} (hZ : Z.Warmed39 s.vm) (hown : s.vm.findClass own = some m.cls) (w : (Jvm.Cond.constantLong own ix v).before a0 Z = true) (hd : decode c.code pc = .ok (.ldc2_w ix, 3)) (hp : pc + 3 = pc')  (K : own_Ends p e below s Q kc ks T (mkF m pc' ls (.long v :: st))) : own_Ends p e below s Q kc ks T (mkF m pc ls st) := by
  subst hp
  exact own_go (fun t k => X.ldc2Long hx hown (mvT hZ w) (g := mkF m pc ls st) rfl hd t k) K
theorem own_iaload (X : Stand p l e R s m args below meth c T locs cells slots) (hx : p.tables.exec = Jvm.exec) {Z : State} {h : Heap} {a : Addr} {k : ClassId} {n j : Int32} {vs : List Value} {d v : Value} (hZ : Z.Warmed39 s.vm) (eT : T.heap = h) (V : Arv Z h a k .int n vs d) (hd : decode c.code pc = .ok (.iaload, 1)) (hp : pc + 1 = pc') (hj : ¬ j < 0 ∧ j < n) (hv : vs.getD j.toNatClampNeg d = v) (K : own_Ends p e below s Q kc ks T (mkF m pc' ls (v :: st))) : own_Ends p e below s Q kc ks T (mkF m pc ls (.int j :: .ref a :: st)) := by
  subst hp
  obtain ⟨cl, A, q1, S, q2, H, G⟩ := V
  have hin := inb_of S hj
  exact own_go (fun t k => X.iaload hx (by rw [eT]; exact A.1) (State.isArrayOf_alike hZ.alike A.2.1) A.2.2 hin (H.at hin hv) (g := mkF m pc ls (.int j :: .ref a :: st)) rfl rfl hd t k) K
theorem own_laload (X : Stand p l e R s m args below meth c T locs cells slots) (hx : p.tables.exec = Jvm.exec) {Z : State} {h : Heap} {a : Addr} {k : ClassId} {n j : Int32} {vs : List Value} {d v : Value} (hZ : Z.Warmed39 s.vm) (eT : T.heap = h) (V : Arv Z h a k .long n vs d) (hd : decode c.code pc = .ok (.laload, 1)) (hp : pc + 1 = pc') (hj : ¬ j < 0 ∧ j < n) (hv : vs.getD j.toNatClampNeg d = v) (K : own_Ends p e below s Q kc ks T (mkF m pc' ls (v :: st))) : own_Ends p e below s Q kc ks T (mkF m pc ls (.int j :: .ref a :: st)) := by
  subst hp
  obtain ⟨cl, A, q1, S, q2, H, G⟩ := V
  have hin := inb_of S hj
  exact own_go (fun t k => X.laload hx (by rw [eT]; exact A.1) (State.isArrayOf_alike hZ.alike A.2.1) A.2.2 hin (H.at hin hv) (g := mkF m pc ls (.int j :: .ref a :: st)) rfl rfl hd t k) K
theorem own_caload (X : Stand p l e R s m args below meth c T locs cells slots) (hx : p.tables.exec = Jvm.exec) {Z : State} {h : Heap} {a : Addr} {k : ClassId} {n j : Int32} {vs : List Value} {d v : Value} (hZ : Z.Warmed39 s.vm) (eT : T.heap = h) (V : Arv Z h a k .char n vs d) (hd : decode c.code pc = .ok (.caload, 1)) (hp : pc + 1 = pc') (hj : ¬ j < 0 ∧ j < n) (hv : vs.getD j.toNatClampNeg d = v) (K : own_Ends p e below s Q kc ks T (mkF m pc' ls (v :: st))) : own_Ends p e below s Q kc ks T (mkF m pc ls (.int j :: .ref a :: st)) := by
  subst hp
  obtain ⟨cl, A, q1, S, q2, H, G⟩ := V
  have hin := inb_of S hj
  exact own_go (fun t k => X.caload hx (by rw [eT]; exact A.1) (State.isArrayOf_alike hZ.alike A.2.1) A.2.2 hin (H.at hin hv) (g := mkF m pc ls (.int j :: .ref a :: st)) rfl rfl hd t k) K
theorem own_baload (X : Stand p l e R s m args below meth c T locs cells slots) (hx : p.tables.exec = Jvm.exec) {Z : State} {h : Heap} {a : Addr} {k : ClassId} {n j : Int32} {vs : List Value} {d v : Value} (hZ : Z.Warmed39 s.vm) (eT : T.heap = h) (V : Arv Z h a k .byte n vs d) (hd : decode c.code pc = .ok (.baload, 1)) (hp : pc + 1 = pc') (hj : ¬ j < 0 ∧ j < n) (hv : vs.getD j.toNatClampNeg d = v) (K : own_Ends p e below s Q kc ks T (mkF m pc' ls (v :: st))) : own_Ends p e below s Q kc ks T (mkF m pc ls (.int j :: .ref a :: st)) := by
  subst hp
  obtain ⟨cl, A, q1, S, q2, H, G⟩ := V
  have hin := inb_of S hj
  exact own_go (fun t k => X.baloadBytes hx (by rw [eT]; exact A.1) (State.isArrayOf_alike hZ.alike A.2.1) A.2.2 hin (H.at hin hv) (g := mkF m pc ls (.int j :: .ref a :: st)) rfl rfl hd t k) K
theorem own_zaload (X : Stand p l e R s m args below meth c T locs cells slots) (hx : p.tables.exec = Jvm.exec) {Z : State} {h : Heap} {a : Addr} {k : ClassId} {n j : Int32} {vs : List Value} {d v : Value} (hZ : Z.Warmed39 s.vm) (eT : T.heap = h) (V : Arv Z h a k .boolean n vs d) (hd : decode c.code pc = .ok (.baload, 1)) (hp : pc + 1 = pc') (hj : ¬ j < 0 ∧ j < n) (hv : vs.getD j.toNatClampNeg d = v) (K : own_Ends p e below s Q kc ks T (mkF m pc' ls (v :: st))) : own_Ends p e below s Q kc ks T (mkF m pc ls (.int j :: .ref a :: st)) := by
  subst hp
  obtain ⟨cl, A, q1, S, q2, H, G⟩ := V
  have hin := inb_of S hj
  exact own_go (fun t k => X.baloadBooleans hx (by rw [eT]; exact A.1) (State.isArrayOf_alike hZ.alike A.2.1) A.2.2 hin (H.at hin hv) (g := mkF m pc ls (.int j :: .ref a :: st)) rfl rfl hd t k) K
theorem own_daload (X : Stand p l e R s m args below meth c T locs cells slots) (hx : p.tables.exec = Jvm.exec) {Z : State} {h : Heap} {a : Addr} {k : ClassId} {n j : Int32} {vs : List Value} {d v : Value} (hZ : Z.Warmed39 s.vm) (eT : T.heap = h) (V : Arv Z h a k .double n vs d) (hd : decode c.code pc = .ok (.daload, 1)) (hp : pc + 1 = pc') (hj : ¬ j < 0 ∧ j < n) (hv : vs.getD j.toNatClampNeg d = v) (K : own_Ends p e below s Q kc ks T (mkF m pc' ls (v :: st))) : own_Ends p e below s Q kc ks T (mkF m pc ls (.int j :: .ref a :: st)) := by
  subst hp
  obtain ⟨cl, A, q1, S, q2, H, G⟩ := V
  have hin := inb_of S hj
  exact own_go (fun t k => X.daload hx (by rw [eT]; exact A.1) (State.isArrayOf_alike hZ.alike A.2.1) A.2.2 hin (H.at hin hv) (g := mkF m pc ls (.int j :: .ref a :: st)) rfl rfl hd t k) K
theorem own_alen (X : Stand p l e R s m args below meth c T locs cells slots) (hx : p.tables.exec = Jvm.exec) {Z : State} {h : Heap} {a : Addr} {k : ClassId} {ty : FieldType} {n : Int32} {vs : List Value} {d : Value} (hZ : Z.Warmed39 s.vm) (eT : T.heap = h) (V : Arv Z h a k ty n vs d) (hd : decode c.code pc = .ok (.arraylength, 1)) (hp : pc + 1 = pc')  (K : own_Ends p e below s Q kc ks T (mkF m pc' ls (.int n :: st))) : own_Ends p e below s Q kc ks T (mkF m pc ls (.ref a :: st)) := by
  subst hp
  obtain ⟨cl, A, q1, S, q2, H, G⟩ := V
  rw [← len_of S q2] at K
  exact own_go (fun t k => X.arraylength hx (by rw [eT]; exact A.1) (State.isArrayOf_alike hZ.alike A.2.1) (g := mkF m pc ls (.ref a :: st)) rfl rfl hd t k) K
theorem own_iastore (X : Stand p l e R s m args below meth c T locs cells slots) (hx : p.tables.exec = Jvm.exec) {Z : State} {h : Heap} {a : Addr} {k : ClassId} {n j : Int32} {vs : List Value} {d : Value} {x : Int32} (hZ : Z.Warmed39 s.vm) (eT : T.heap = h) (V : Arv Z h a k .int n vs d) (hd : decode c.code pc = .ok (.iastore, 1)) (hp : pc + 1 = pc') (hj : ¬ j < 0 ∧ j < n) (i : Nat) (hi : j.toNatClampNeg = i) (hl : i < vs.length) {n0 : Nat} (N : Fr n0 locs) (ge : n0 ≤ a)
    (K : ∀ T' h' L, Stand p l e R s m args below meth c T' L cells slots → T'.heap = h' → Fr n0 L → Wr h h' a j.toNatClampNeg (.int x) → Arv Z h' a k .int n (vs.set i (.int x)) d → own_Ends p e below s Q kc ks T' (mkF m pc' ls st)) : own_Ends p e below s Q kc ks T (mkF m pc ls (.int x :: .int j :: .ref a :: st)) := by
  subst hp
  obtain ⟨cl, A, q1, S, q2, H, G⟩ := V
  have hin := inb_of S hj
  obtain ⟨T1, h1, X1, e1, W1, st1⟩ := stI X hx hZ eT A (j := j) hin (g := mkF m pc ls (.int x :: .int j :: .ref a :: st)) rfl rfl hd
  exact own_go st1 (K T1 h1 _ X1 e1 (Fr.snoc X1 N ge) W1 (Arv.set A q1 S q2 H G rfl W1 i hi hl))
theorem own_lastore (X : Stand p l e R s m args below meth c T locs cells slots) (hx : p.tables.exec = Jvm.exec) {Z : State} {h : Heap} {a : Addr} {k : ClassId} {n j : Int32} {vs : List Value} {d : Value} {x : Int64} (hZ : Z.Warmed39 s.vm) (eT : T.heap = h) (V : Arv Z h a k .long n vs d) (hd : decode c.code pc = .ok (.lastore, 1)) (hp : pc + 1 = pc') (hj : ¬ j < 0 ∧ j < n) (i : Nat) (hi : j.toNatClampNeg = i) (hl : i < vs.length) {n0 : Nat} (N : Fr n0 locs) (ge : n0 ≤ a)
    (K : ∀ T' h' L, Stand p l e R s m args below meth c T' L cells slots → T'.heap = h' → Fr n0 L → Wr h h' a j.toNatClampNeg (.long x) → Arv Z h' a k .long n (vs.set i (.long x)) d → own_Ends p e below s Q kc ks T' (mkF m pc' ls st)) : own_Ends p e below s Q kc ks T (mkF m pc ls (.long x :: .int j :: .ref a :: st)) := by
  subst hp
  obtain ⟨cl, A, q1, S, q2, H, G⟩ := V
  have hin := inb_of S hj
  obtain ⟨T1, h1, X1, e1, W1, st1⟩ := stJ X hx hZ eT A (j := j) hin (g := mkF m pc ls (.long x :: .int j :: .ref a :: st)) rfl rfl hd
  exact own_go st1 (K T1 h1 _ X1 e1 (Fr.snoc X1 N ge) W1 (Arv.set A q1 S q2 H G rfl W1 i hi hl))
theorem own_dastore (X : Stand p l e R s m args below meth c T locs cells slots) (hx : p.tables.exec = Jvm.exec) {Z : State} {h : Heap} {a : Addr} {k : ClassId} {n j : Int32} {vs : List Value} {d : Value} {x : UInt64} (hZ : Z.Warmed39 s.vm) (eT : T.heap = h) (V : Arv Z h a k .double n vs d) (hd : decode c.code pc = .ok (.dastore, 1)) (hp : pc + 1 = pc') (hj : ¬ j < 0 ∧ j < n) (i : Nat) (hi : j.toNatClampNeg = i) (hl : i < vs.length) {n0 : Nat} (N : Fr n0 locs) (ge : n0 ≤ a)
    (K : ∀ T' h' L, Stand p l e R s m args below meth c T' L cells slots → T'.heap = h' → Fr n0 L → Wr h h' a j.toNatClampNeg (.double x) → Arv Z h' a k .double n (vs.set i (.double x)) d → own_Ends p e below s Q kc ks T' (mkF m pc' ls st)) : own_Ends p e below s Q kc ks T (mkF m pc ls (.double x :: .int j :: .ref a :: st)) := by
  subst hp
  obtain ⟨cl, A, q1, S, q2, H, G⟩ := V
  have hin := inb_of S hj
  obtain ⟨T1, h1, X1, e1, W1, st1⟩ := stD X hx hZ eT A (j := j) hin (g := mkF m pc ls (.double x :: .int j :: .ref a :: st)) rfl rfl hd
  exact own_go st1 (K T1 h1 _ X1 e1 (Fr.snoc X1 N ge) W1 (Arv.set A q1 S q2 H G rfl W1 i hi hl))
theorem own_castore (X : Stand p l e R s m args below meth c T locs cells slots) (hx : p.tables.exec = Jvm.exec) {Z : State} {h : Heap} {a : Addr} {k : ClassId} {n j : Int32} {vs : List Value} {d : Value} {x : Int32} (hZ : Z.Warmed39 s.vm) (eT : T.heap = h) (V : Arv Z h a k .char n vs d) (hd : decode c.code pc = .ok (.castore, 1)) (hp : pc + 1 = pc') (hj : ¬ j < 0 ∧ j < n) (i : Nat) (hi : j.toNatClampNeg = i) (hl : i < vs.length) {n0 : Nat} (N : Fr n0 locs) (ge : n0 ≤ a)
    (K : ∀ T' h' L, Stand p l e R s m args below meth c T' L cells slots → T'.heap = h' → Fr n0 L → Wr h h' a j.toNatClampNeg (.int (nar .char x)) → Arv Z h' a k .char n (vs.set i (.int (nar .char x))) d → own_Ends p e below s Q kc ks T' (mkF m pc' ls st)) : own_Ends p e below s Q kc ks T (mkF m pc ls (.int x :: .int j :: .ref a :: st)) := by
  subst hp
  obtain ⟨cl, A, q1, S, q2, H, G⟩ := V
  have hin := inb_of S hj
  obtain ⟨T1, h1, X1, e1, W1, st1⟩ := stC X hx hZ eT A (j := j) hin (g := mkF m pc ls (.int x :: .int j :: .ref a :: st)) rfl rfl hd
  exact own_go st1 (K T1 h1 _ X1 e1 (Fr.snoc X1 N ge) W1 (Arv.set A q1 S q2 H G (fits_nar_char _) W1 i hi hl))
theorem own_bastore (X : Stand p l e R s m args below meth c T locs cells slots) (hx : p.tables.exec = Jvm.exec) {Z : State} {h : Heap} {a : Addr} {k : ClassId} {n j : Int32} {vs : List Value} {d : Value} {x : Int32} (hZ : Z.Warmed39 s.vm) (eT : T.heap = h) (V : Arv Z h a k .byte n vs d) (hd : decode c.code pc = .ok (.bastore, 1)) (hp : pc + 1 = pc') (hj : ¬ j < 0 ∧ j < n) (i : Nat) (hi : j.toNatClampNeg = i) (hl : i < vs.length) {n0 : Nat} (N : Fr n0 locs) (ge : n0 ≤ a)
    (K : ∀ T' h' L, Stand p l e R s m args below meth c T' L cells slots → T'.heap = h' → Fr n0 L → Wr h h' a j.toNatClampNeg (.int (nar .byte x)) → Arv Z h' a k .byte n (vs.set i (.int (nar .byte x))) d → own_Ends p e below s Q kc ks T' (mkF m pc' ls st)) : own_Ends p e below s Q kc ks T (mkF m pc ls (.int x :: .int j :: .ref a :: st)) := by
  subst hp
  obtain ⟨cl, A, q1, S, q2, H, G⟩ := V
  have hin := inb_of S hj
  obtain ⟨T1, h1, X1, e1, W1, st1⟩ := stB X hx hZ eT A (j := j) hin (g := mkF m pc ls (.int x :: .int j :: .ref a :: st)) rfl rfl hd
  exact own_go st1 (K T1 h1 _ X1 e1 (Fr.snoc X1 N ge) W1 (Arv.set A q1 S q2 H G (fits_nar_byte _) W1 i hi hl))
theorem own_zastore (X : Stand p l e R s m args below meth c T locs cells slots) (hx : p.tables.exec = Jvm.exec) {Z : State} {h : Heap} {a : Addr} {k : ClassId} {n j : Int32} {vs : List Value} {d : Value} {x : Int32} (hZ : Z.Warmed39 s.vm) (eT : T.heap = h) (V : Arv Z h a k .boolean n vs d) (hd : decode c.code pc = .ok (.bastore, 1)) (hp : pc + 1 = pc') (hj : ¬ j < 0 ∧ j < n) (i : Nat) (hi : j.toNatClampNeg = i) (hl : i < vs.length) {n0 : Nat} (N : Fr n0 locs) (ge : n0 ≤ a)
    (K : ∀ T' h' L, Stand p l e R s m args below meth c T' L cells slots → T'.heap = h' → Fr n0 L → Wr h h' a j.toNatClampNeg (.int (nar .boolean x)) → Arv Z h' a k .boolean n (vs.set i (.int (nar .boolean x))) d → own_Ends p e below s Q kc ks T' (mkF m pc' ls st)) : own_Ends p e below s Q kc ks T (mkF m pc ls (.int x :: .int j :: .ref a :: st)) := by
  subst hp
  obtain ⟨cl, A, q1, S, q2, H, G⟩ := V
  have hin := inb_of S hj
  obtain ⟨T1, h1, X1, e1, W1, st1⟩ := stZ X hx hZ eT A (j := j) hin (g := mkF m pc ls (.int x :: .int j :: .ref a :: st)) rfl rfl hd
  exact own_go st1 (K T1 h1 _ X1 e1 (Fr.snoc X1 N ge) W1 (Arv.set A q1 S q2 H G (fits_nar_bool _) W1 i hi hl))
theorem own_newarr (X : Stand p l e R s m args below meth c T locs cells slots) (hx : p.tables.exec = Jvm.exec) {Z : State} {a0 : Array Value} {h : Heap} {aty : ArrayType} (hZ : Z.Warmed39 s.vm) (w : (Jvm.Cond.arrayClass (newarray.typeOf aty)).before a0 Z = true) (eT : T.heap = h) (hd : decode c.code pc = .ok (.newarray aty, 2)) (hp : pc + 2 = pc') {n : Int32} (hn : ¬ n < 0) (cap q : Nat) (hcap : n.toNatClampNeg ≤ cap) (hb : cap * 8 ≤ 536870912) (hc : cells + 1 ≤ R.cells) (hl : slots + cap ≤ R.slots)
    (K : ∀ T' h' a k, Stand p l e R s m args below meth c T' locs (cells + 1) (slots + cap) → T'.heap = h' → Ext h h' → a = h.size → Arv Z h' a k (newarray.typeOf aty) n (List.replicate q (defaultValue (newarray.typeOf aty))) (defaultValue (newarray.typeOf aty)) → own_Ends p e below s Q kc ks T' (mkF m pc' ls (.ref a :: st))) : own_Ends p e below s Q kc ks T (mkF m pc ls (.int n :: st)) := by
  subst hp
  obtain ⟨T1, h1, k1, X1, e1, E1, A1, st1⟩ := newP X hx hZ w eT (g := mkF m pc ls (.int n :: st)) rfl hd rfl hn (cap := cap) hcap hb hc hl
  exact own_go st1 (K T1 h1 _ k1 X1 e1 E1 rfl ((Arv.new A1 hn).pad (pad_rep [] _ q)))
theorem own_newarrE (X : Stand p l e R s m args below meth c T locs cells slots) (hx : p.tables.exec = Jvm.exec) {Z : State} {a0 : Array Value} {h : Heap} {aty : ArrayType} (hZ : Z.Warmed39 s.vm) (w : (Jvm.Cond.arrayClass (newarray.typeOf aty)).before a0 Z = true) (eT : T.heap = h) (hd : decode c.code pc = .ok (.newarray aty, 2)) (hp : pc + 2 = pc') {n : Int32} (hn : ¬ n < 0) (cap q : Nat) (hcap : n.toNatClampNeg ≤ cap) (hb : cap * 8 ≤ 536870912) (hc : cells + 1 ≤ R.cells) (hl : slots + cap ≤ R.slots) {ad : String} (had : "[" ++ (newarray.typeOf aty).toString = ad)
    (K : ∀ T' h' a k, Stand p l e R s m args below meth c T' locs (cells + 1) (slots + cap) → T'.heap = h' → Ext h h' → a = h.size → Arv Z h' a k (newarray.typeOf aty) n (List.replicate q (defaultValue (newarray.typeOf aty))) (defaultValue (newarray.typeOf aty)) → Exa Z h' a ad → own_Ends p e below s Q kc ks T' (mkF m pc' ls (.ref a :: st))) : own_Ends p e below s Q kc ks T (mkF m pc ls (.int n :: st)) := by
  subst hp
  obtain ⟨T1, h1, k1, X1, e1, E1, A1, Z1, st1⟩ := newPE X hx hZ w eT (g := mkF m pc ls (.int n :: st)) rfl hd rfl hn (cap := cap) hcap hb hc hl had
  exact own_go st1 (K T1 h1 _ k1 X1 e1 E1 rfl ((Arv.new A1 hn).pad (pad_rep [] _ q)) Z1)
theorem own_callS (X : Stand p l e R s m args below meth c T locs cells slots) (hx : p.tables.exec = Jvm.exec) {Z : State} {a0 : Array Value} {h : Heap} {own : String} {ix : Nat} {y : MethodName} {bytes : ByteArray} {maxL W : Nat} {ret : Option FieldType} {rm : Room} {Qc : Option Value → Heap → List Loc → Prop} {argsL rest : List Value} (hZ : Z.Warmed39 s.vm) (eT : T.heap = h) (hown : s.vm.findClass own = some m.cls) (hsz : ls.size = c.maxLocals) (wl : (Jvm.Cond.methodLink own ix y).before a0 Z = true) (ws : (Jvm.Cond.static y).before a0 Z = true) (wi : (Jvm.Cond.initialized y.cls).before a0 Z = true) (wc : (Jvm.Cond.code y bytes maxL ret).before a0 Z = true) (hy : y.cls ≠ "java/lang/invoke/MethodHandle" ∧ y.cls ≠ "java/lang/invoke/VarHandle") (hM : MetFree l y (head1 [Jvm.Cond.code y bytes maxL ret] rm) (fun a U => a = argsL.toArray ∧ Z.Warmed39 U.vm ∧ U.heap = h) (fun _ _ _ _ _ => True) (fun _ U o U' => ∃ v L, o = .returned v ∧ Qc v U'.heap L ∧ FrameEnd U o U' L rm.cells rm.slots)) (hf : rm.frames + 1 ≤ R.frames) (hlo : W + (maxL + 11) + rm.locals ≤ R.locals) (hcl : cells + rm.cells ≤ R.cells) (hsl : slots + rm.slots ≤ R.slots)
    (hlen : ∀ sig, parseMethodDescriptor y.desc = some sig → argsL.length = sig.parameters.length) (hst : st = argsL.reverse ++ rest) (hW : 2 * 0 + (rest.map fun v => v.category).sum ≤ W) (hd : decode c.code pc = .ok (.invokestatic ix, 3)) (hp : pc + 3 = pc') (K : ∀ T' L v, Stand p l e R s m args below meth c T' (locs ++ L) (cells + rm.cells) (slots + rm.slots) → Qc v T'.heap L → own_Ends p e below s Q kc ks T' (mkF m pc' ls (v.toList ++ rest))) : own_Ends p e below s Q kc ks T (mkF m pc ls st) := by
  subst hp
  obtain ⟨v, _, ⟨T1, L1, k1, n1⟩, -, X1, ⟨Lc, hQ, r1, r2, r3⟩, st1⟩ := Jvm.LawKit.callS X hx (y := y) hown (mvT hZ wl) (mvT hZ ws) (mvT hZ wi) (mvT hZ wc) hy (backOf (W := W) hM hZ wc wi hf hlo) (g := mkF m pc ls st) rfl hsz (argsL := argsL) (rest := rest) hlen hst hW hd (fun _ _ => ⟨rfl, eT, hcl, hsl⟩)
  dsimp only [Pt.U, Pt.locs, Pt.cells, Pt.slots] at X1 r1 r2 r3 st1 hQ
  subst r1 r2 r3
  exact own_go (st1) (K T1 Lc v X1 hQ)
theorem own_callC (X : Stand p l e R s m args below meth c T locs cells slots) (hx : p.tables.exec = Jvm.exec) {b : Addr} {Z : State} {a0 : Array Value} {h : Heap} {own : String} {ix : Nat} {y : MethodName} {bytes : ByteArray} {maxL W : Nat} {ret : Option FieldType} {rm : Room} {Qc : Option Value → Heap → List Loc → Prop} {argsL rest : List Value} (hZ : Z.Warmed39 s.vm) (eT : T.heap = h) (hown : s.vm.findClass own = some m.cls) (hsz : ls.size = c.maxLocals) (hret : ret = none) (hinit : y.name = "<init>") (wl : (Jvm.Cond.methodLink own ix y).before a0 Z = true) (wm : (Jvm.Cond.instanceMethod y).before a0 Z = true) (wi : (Jvm.Cond.initialized y.cls).before a0 Z = true) (wc : (Jvm.Cond.code y bytes maxL ret).before a0 Z = true) (hy : y.cls ≠ "java/lang/invoke/MethodHandle" ∧ y.cls ≠ "java/lang/invoke/VarHandle") (hM : MetFree l y (head1 [Jvm.Cond.code y bytes maxL ret] rm) (fun a U => a = (Value.ref b :: argsL).toArray ∧ Z.Warmed39 U.vm ∧ U.heap = h) (fun _ _ _ _ _ => True) (fun _ U o U' => ∃ v L, o = .returned v ∧ Qc v U'.heap L ∧ FrameEnd U o U' L rm.cells rm.slots)) (hf : rm.frames + 1 ≤ R.frames) (hlo : W + (maxL + 11) + rm.locals ≤ R.locals) (hcl : cells + rm.cells ≤ R.cells) (hsl : slots + rm.slots ≤ R.slots)
    (hlen : ∀ sig, parseMethodDescriptor y.desc = some sig → argsL.length = sig.parameters.length) (hst : st = argsL.reverse ++ .ref b :: rest) (hW : 2 * 0 + (rest.map fun v => v.category).sum ≤ W) (hd : decode c.code pc = .ok (.invokespecial ix, 3)) (hp : pc + 3 = pc') (K : ∀ T' L v, Stand p l e R s m args below meth c T' (locs ++ L) (cells + rm.cells) (slots + rm.slots) → Qc v T'.heap L → own_Ends p e below s Q kc ks T' (mkF m pc' ls (v.toList ++ rest))) : own_Ends p e below s Q kc ks T (mkF m pc ls st) := by
  subst hp hret
  obtain ⟨v, _, ⟨T1, L1, k1, n1⟩, -, X1, ⟨Lc, hQ, r1, r2, r3⟩, st1⟩ := X.specialBack hx (y := y) hinit hown (mvT hZ wl) (mvT hZ wm) (mvT hZ wc) hy (backOf (W := W) hM hZ wc wi hf hlo) (g := mkF m pc ls st) rfl hsz (Steps.refl _) (a := b) (argsL := argsL) (rest := rest) hlen hst hW hd (fun _ _ => ⟨rfl, eT, hcl, hsl⟩)
  dsimp only [Pt.U, Pt.locs, Pt.cells, Pt.slots] at X1 r1 r2 r3 st1 hQ
  subst r1 r2 r3
  exact own_go (fun t k => st1.trans k) (K T1 Lc v X1 hQ)
theorem own_callV (X : Stand p l e R s m args below meth c T locs cells slots) (hx : p.tables.exec = Jvm.exec) {b : Addr} {C : String} {Z : State} {a0 : Array Value} {h : Heap} {own : String} {ix : Nat} {y : MethodName} {bytes : ByteArray} {maxL W : Nat} {ret : Option FieldType} {rm : Room} {Qc : Option Value → Heap → List Loc → Prop} {argsL rest : List Value} (hZ : Z.Warmed39 s.vm) (eT : T.heap = h) (hown : s.vm.findClass own = some m.cls) (hsz : ls.size = c.maxLocals) (E : Exa Z h b C) (wl : (Jvm.Cond.methodLink own ix y).before a0 Z = true) (wd : (Jvm.Cond.declares y).before a0 Z = true) (wsel : (Jvm.Cond.selects C y y).before a0 Z = true) (wm : (Jvm.Cond.instanceMethod y).before a0 Z = true) (wi : (Jvm.Cond.initialized y.cls).before a0 Z = true) (wc : (Jvm.Cond.code y bytes maxL ret).before a0 Z = true) (hy : y.cls ≠ "java/lang/invoke/MethodHandle" ∧ y.cls ≠ "java/lang/invoke/VarHandle") (hM : MetFree l y (head1 [Jvm.Cond.code y bytes maxL ret] rm) (fun a U => a = (Value.ref b :: argsL).toArray ∧ Z.Warmed39 U.vm ∧ U.heap = h) (fun _ _ _ _ _ => True) (fun _ U o U' => ∃ v L, o = .returned v ∧ Qc v U'.heap L ∧ FrameEnd U o U' L rm.cells rm.slots)) (hf : rm.frames + 1 ≤ R.frames) (hlo : W + (maxL + 11) + rm.locals ≤ R.locals) (hcl : cells + rm.cells ≤ R.cells) (hsl : slots + rm.slots ≤ R.slots)
    (hlen : ∀ sig, parseMethodDescriptor y.desc = some sig → argsL.length = sig.parameters.length) (hst : st = argsL.reverse ++ .ref b :: rest) (hW : 2 * 0 + (rest.map fun v => v.category).sum ≤ W) (hd : decode c.code pc = .ok (.invokevirtual ix, 3)) (hp : pc + 3 = pc') (K : ∀ T' L v, Stand p l e R s m args below meth c T' (locs ++ L) (cells + rm.cells) (slots + rm.slots) → Qc v T'.heap L → own_Ends p e below s Q kc ks T' (mkF m pc' ls (v.toList ++ rest))) : own_Ends p e below s Q kc ks T (mkF m pc ls st) := by
  subst hp
  obtain ⟨cq, kq, qa, qb, qc⟩ := isOf hZ eT E
  obtain ⟨v, _, ⟨T1, L1, k1, n1⟩, -, X1, ⟨Lc, hQ, r1, r2, r3⟩, st1⟩ := X.virtualBack hx (y := y) (z := y) hown (mvT hZ wl) (mvT hZ wd) (notFace_of_selects (args := #[]) (mvT hZ wsel)) (mvT hZ wsel) (mvT hZ wm) hy (backOf (W := W) hM hZ wc wi hf hlo) qa qc (g := mkF m pc ls st) rfl hsz (Steps.refl _) (argsL := argsL) (rest := rest) hlen hst hW hd (fun _ _ => ⟨rfl, eT, hcl, hsl⟩)
  dsimp only [Pt.U, Pt.locs, Pt.cells, Pt.slots] at X1 r1 r2 r3 st1 hQ
  subst r1 r2 r3
  exact own_go (fun t k => st1.trans k) (K T1 Lc v X1 hQ)
theorem own_callP (X : Stand p l e R s m args below meth c T locs cells slots) (hx : p.tables.exec = Jvm.exec) {b : Addr} {C : String} {Z : State} {a0 : Array Value} {h : Heap} {own : String} {ix : Nat} {y : MethodName} {bytes : ByteArray} {maxL W : Nat} {ret : Option FieldType} {rm : Room} {Qc : Option Value → Heap → List Loc → Prop} {argsL rest : List Value} (hZ : Z.Warmed39 s.vm) (eT : T.heap = h) (hown : s.vm.findClass own = some m.cls) (hsz : ls.size = c.maxLocals) (E : Exa Z h b C) (wl : (Jvm.Cond.methodLink own ix y).before a0 Z = true) (wsel : (Jvm.Cond.selects y.cls y y).before a0 Z = true) (wp : (Jvm.Cond.privateMethod y).before a0 Z = true) (wm : (Jvm.Cond.instanceMethod y).before a0 Z = true) (wi : (Jvm.Cond.initialized y.cls).before a0 Z = true) (wc : (Jvm.Cond.code y bytes maxL ret).before a0 Z = true) (hy : y.cls ≠ "java/lang/invoke/MethodHandle" ∧ y.cls ≠ "java/lang/invoke/VarHandle") (hM : MetFree l y (head1 [Jvm.Cond.code y bytes maxL ret] rm) (fun a U => a = (Value.ref b :: argsL).toArray ∧ Z.Warmed39 U.vm ∧ U.heap = h) (fun _ _ _ _ _ => True) (fun _ U o U' => ∃ v L, o = .returned v ∧ Qc v U'.heap L ∧ FrameEnd U o U' L rm.cells rm.slots)) (hf : rm.frames + 1 ≤ R.frames) (hlo : W + (maxL + 11) + rm.locals ≤ R.locals) (hcl : cells + rm.cells ≤ R.cells) (hsl : slots + rm.slots ≤ R.slots)
    (hlen : ∀ sig, parseMethodDescriptor y.desc = some sig → argsL.length = sig.parameters.length) (hst : st = argsL.reverse ++ .ref b :: rest) (hW : 2 * 0 + (rest.map fun v => v.category).sum ≤ W) (hd : decode c.code pc = .ok (.invokevirtual ix, 3)) (hp : pc + 3 = pc') (K : ∀ T' L v, Stand p l e R s m args below meth c T' (locs ++ L) (cells + rm.cells) (slots + rm.slots) → Qc v T'.heap L → own_Ends p e below s Q kc ks T' (mkF m pc' ls (v.toList ++ rest))) : own_Ends p e below s Q kc ks T (mkF m pc ls st) := by
  subst hp
  obtain ⟨cq, qa, qb⟩ := E.cell
  obtain ⟨v, _, ⟨T1, L1, k1, n1⟩, -, X1, ⟨Lc, hQ, r1, r2, r3⟩, st1⟩ := X.privateBack hx (y := y) hown (mvT hZ wl) (mvT hZ wm) (mvT hZ wsel) (Jvm.Cond.privateMethod_at (mvP hZ wp (args := #[]))) (mvT hZ wc) hy (backOf (W := W) hM hZ wc wi hf hlo) (g := mkF m pc ls st) rfl hsz (Steps.refl _) (a := b) (by rw [eT]; exact qa) qb (argsL := argsL) (rest := rest) hlen hst hW hd (fun _ _ => ⟨rfl, eT, hcl, hsl⟩)
  dsimp only [Pt.U, Pt.locs, Pt.cells, Pt.slots] at X1 r1 r2 r3 st1 hQ
  subst r1 r2 r3
  exact own_go (fun t k => st1.trans k) (K T1 Lc v X1 hQ)
theorem own_mvM {Z : State} {a0 args : Array Value} {own host : String} {ix : Nat} {y : MethodName} (hZ : Z.Warmed39 s.vm) (w : (Jvm.Cond.methodLinkNest own ix y host).before a0 Z = true) : (Jvm.Cond.methodLinkNest own ix y host).before args s = true := (Jvm.Cond.methodLinkNest_wide hZ w :)
theorem own_callN (X : Stand p l e R s m args below meth c T locs cells slots) (hx : p.tables.exec = Jvm.exec) {b : Addr} {host : String} {Z : State} {a0 : Array Value} {h : Heap} {own : String} {ix : Nat} {y : MethodName} {bytes : ByteArray} {maxL W : Nat} {ret : Option FieldType} {rm : Room} {Qc : Option Value → Heap → List Loc → Prop} {argsL rest : List Value} (hZ : Z.Warmed39 s.vm) (eT : T.heap = h) (hown : s.vm.findClass own = some m.cls) (hsz : ls.size = c.maxLocals) (hret : ret = none) (hinit : y.name = "<init>") (wl : (Jvm.Cond.methodLinkNest own ix y host).before a0 Z = true) (wm : (Jvm.Cond.instanceMethod y).before a0 Z = true) (wi : (Jvm.Cond.initialized y.cls).before a0 Z = true) (wc : (Jvm.Cond.code y bytes maxL ret).before a0 Z = true) (hy : y.cls ≠ "java/lang/invoke/MethodHandle" ∧ y.cls ≠ "java/lang/invoke/VarHandle") (hM : MetFree l y (head1 [Jvm.Cond.code y bytes maxL ret] rm) (fun a U => a = (Value.ref b :: argsL).toArray ∧ Z.Warmed39 U.vm ∧ U.heap = h) (fun _ _ _ _ _ => True) (fun _ U o U' => ∃ v L, o = .returned v ∧ Qc v U'.heap L ∧ FrameEnd U o U' L rm.cells rm.slots)) (hf : rm.frames + 1 ≤ R.frames) (hlo : W + (maxL + 11) + rm.locals ≤ R.locals) (hcl : cells + rm.cells ≤ R.cells) (hsl : slots + rm.slots ≤ R.slots)
    (hlen : ∀ sig, parseMethodDescriptor y.desc = some sig → argsL.length = sig.parameters.length) (hst : st = argsL.reverse ++ .ref b :: rest) (hW : 2 * 0 + (rest.map fun v => v.category).sum ≤ W) (hd : decode c.code pc = .ok (.invokespecial ix, 3)) (hp : pc + 3 = pc') (K : ∀ T' L v, Stand p l e R s m args below meth c T' (locs ++ L) (cells + rm.cells) (slots + rm.slots) → Qc v T'.heap L → own_Ends p e below s Q kc ks T' (mkF m pc' ls (v.toList ++ rest))) : own_Ends p e below s Q kc ks T (mkF m pc ls st) := by
  subst hp hret
  obtain ⟨v, _, ⟨T1, L1, k1, n1⟩, -, X1, ⟨Lc, hQ, r1, r2, r3⟩, st1⟩ := X.specialBackNest hx (y := y) hinit hown (own_mvM hZ wl) (mvT hZ wm) (mvT hZ wc) hy (backOf (W := W) hM hZ wc wi hf hlo) (g := mkF m pc ls st) rfl hsz (Steps.refl _) (a := b) (argsL := argsL) (rest := rest) hlen hst hW hd (fun _ _ => ⟨rfl, eT, hcl, hsl⟩)
  dsimp only [Pt.U, Pt.locs, Pt.cells, Pt.slots] at X1 r1 r2 r3 st1 hQ
  subst r1 r2 r3
  exact own_go (fun t k => st1.trans k) (K T1 Lc v X1 hQ)
theorem own_anewarr (X : Stand p l e R s m args below meth c T locs cells slots) (hx : p.tables.exec = Jvm.exec) {Z : State} {a0 : Array Value} {h : Heap} {own C : String} {ix : Nat} (hZ : Z.Warmed39 s.vm) (hown : s.vm.findClass own = some m.cls) (w1 : (Jvm.Cond.classLink own ix C).before a0 Z = true) (w2 : (Jvm.Cond.arrayOver (.object C)).before a0 Z = true) (eT : T.heap = h) (hd : decode c.code pc = .ok (.anewarray ix, 3)) (hp : pc + 3 = pc') {n : Int32} (hn : ¬ n < 0) (cap q : Nat) (hcap : n.toNatClampNeg ≤ cap) (hb : cap * 8 ≤ 536870912) (hc : cells + 1 ≤ R.cells) (hl : slots + cap ≤ R.slots) {ad : String} (had : "[" ++ (FieldType.object C).toString = ad)
    (K : ∀ T' h' a k, Stand p l e R s m args below meth c T' locs (cells + 1) (slots + cap) → T'.heap = h' → Ext h h' → a = h.size → Arv Z h' a k (.object C) n (List.replicate q .null) .null → Exa Z h' a ad → Ovr Z k C → own_Ends p e below s Q kc ks T' (mkF m pc' ls (.ref a :: st))) : own_Ends p e below s Q kc ks T (mkF m pc ls (.int n :: st)) := by
  subst hp
  obtain ⟨T1, h1, k1, X1, e1, E1, A1, Z1, O1, st1⟩ := newRE X hx hZ hown w1 w2 eT (g := mkF m pc ls (.int n :: st)) rfl hd rfl hn (cap := cap) hcap hb hc hl had
  exact own_go st1 (K T1 h1 _ k1 X1 e1 E1 rfl ((Arv.new A1 hn).pad (pad_rep [] _ q)) Z1 O1)
theorem own_aastore (X : Stand p l e R s m args below meth c T locs cells slots) (hx : p.tables.exec = Jvm.exec) {Z : State} {h : Heap} {a b : Addr} {k : ClassId} {C D : String} {n j : Int32} {vs : List Value} {d : Value} (hZ : Z.Warmed39 s.vm) (eT : T.heap = h) (V : Arv Z h a k (.object D) n vs d) (O : Ovr Z k C) (I : Ins Z h b C true) (hd : decode c.code pc = .ok (.aastore, 1)) (hp : pc + 1 = pc') (hj : ¬ j < 0 ∧ j < n) (i : Nat) (hi : j.toNatClampNeg = i) (hl : i < vs.length) {n0 : Nat} (N : Fr n0 locs) (ge : n0 ≤ a)
    (K : ∀ T' h' L, Stand p l e R s m args below meth c T' L cells slots → T'.heap = h' → Fr n0 L → Wr h h' a j.toNatClampNeg (.ref b) → Arv Z h' a k (.object D) n (vs.set i (.ref b)) d → own_Ends p e below s Q kc ks T' (mkF m pc' ls st)) : own_Ends p e below s Q kc ks T (mkF m pc ls (.ref b :: .int j :: .ref a :: st)) := by
  subst hp
  obtain ⟨cl, A, q1, S, q2, H, G⟩ := V
  have hin := inb_of S hj
  obtain ⟨T1, h1, X1, e1, W1, st1⟩ := stR X hx hZ eT A (j := j) hin rfl (Sto.ofV A q1 O I) (g := mkF m pc ls (.ref b :: .int j :: .ref a :: st)) rfl rfl hd
  exact own_go st1 (K T1 h1 _ X1 e1 (Fr.snoc X1 N ge) W1 (Arv.set A q1 S q2 H G rfl W1 i hi hl))
theorem own_tswIn (X : Stand p l e R s m args below meth c T locs cells slots) (hx : p.tables.exec = Jvm.exec) {d lo hi o : Int} {offs : Array Int} {len : Nat} {i : Int32} (hd : decode c.code pc = .ok (.tableswitch d lo hi offs, len)) (hin : ¬ (i.toInt < lo ∨ i.toInt > hi)) (hoff : offs[(i.toInt - lo).toNat]? = some o) (ho : 0 ≤ (pc : Int) + o) (hp : ((pc : Int) + o).toNat = pc') (K : own_Ends p e below s Q kc ks T (mkF m pc' ls st)) : own_Ends p e below s Q kc ks T (mkF m pc ls (.int i :: st)) :=
  own_go (fun t k => XS.tswIn X.here hx rfl rfl hd rfl hin hoff ho hp k) K
theorem own_tswOut (X : Stand p l e R s m args below meth c T locs cells slots) (hx : p.tables.exec = Jvm.exec) {d lo hi : Int} {offs : Array Int} {len : Nat} {i : Int32} (hd : decode c.code pc = .ok (.tableswitch d lo hi offs, len)) (hout : i.toInt < lo ∨ i.toInt > hi) (ho : 0 ≤ (pc : Int) + d) (hp : ((pc : Int) + d).toNat = pc') (K : own_Ends p e below s Q kc ks T (mkF m pc' ls st)) : own_Ends p e below s Q kc ks T (mkF m pc ls (.int i :: st)) :=
  own_go (fun t k => XS.tswOut X.here hx rfl rfl hd rfl hout ho hp k) K
theorem own_ext {h h' : Heap} (K : Keep h h' []) : Ext h h' := ⟨K.1, fun a c q => K.2.1 a c q nin0⟩
theorem own_stak {Z : State} {h h' : Heap} {ws : List Addr} {C n d : String} {v : Value} (F : Sta Z h C n d v) (K : Keep h h' ws) (q : ∀ x ∈ ws, ∃ c : Cell, h[x]? = some c ∧ c.vm.isStatics = false) : Sta Z h' C n d v := by
  obtain ⟨cf, i, k, f, st, cell, h1, h2, h3, h4, h5, h6, h7⟩ := F
  refine ⟨cf, i, k, f, st, cell, h1, h2, h3, h4, K.2.1 st cell h5 (fun z => ?_), h6, h7⟩
  obtain ⟨c, q1, q2⟩ := q st z
  cases h5.symm.trans q1
  rw [h6] at q2; cases q2
theorem own_exac {Z : State} {h : Heap} {a : Addr} {C : String} (F : Exa Z h a C) : ∃ c : Cell, h[a]? = some c ∧ c.vm.isStatics = false := by
  obtain ⟨c, _, h1, -, -, h4, -⟩ := F; exact ⟨c, h1, h4⟩
theorem own_arvc {Z : State} {h : Heap} {a : Addr} {k : ClassId} {ty : FieldType} {n : Int32} {vs : List Value} {d : Value} (F : Arv Z h a k ty n vs d) : ∃ c : Cell, h[a]? = some c ∧ c.vm.isStatics = false := by
  obtain ⟨c, A, -⟩ := F; exact ⟨c, A.1, A.plain⟩
end Own
theorem own_w0 {Z : State} {a0 : Array Value} (hw : ∀ d ∈ tables_1, d.before a0 Z = true) : (Jvm.Cond.constant "com/example/exacting_validator/exactingvalidator/pattern/CodePointSetsComplementPinLaw" (7 : Nat) (2147483647 : Int32)).before a0 Z = true := hw _ (List.mem_of_getElem? (i := 0) rfl)
theorem own_w1 {Z : State} {a0 : Array Value} (hw : ∀ d ∈ tables_1, d.before a0 Z = true) : (Jvm.Cond.constant "com/example/exacting_validator/exactingvalidator/pattern/CodePointSetsComplementPinLaw" (8 : Nat) (1114112 : Int32)).before a0 Z = true := hw _ (List.mem_of_getElem? (i := 1) rfl)
theorem own_w2 {Z : State} {a0 : Array Value} (hw : ∀ d ∈ tables_1, d.before a0 Z = true) : (Jvm.Cond.arrayClass Jvm.ClassFile.FieldType.int).before a0 Z = true := hw _ (List.mem_of_getElem? (i := 2) rfl)
theorem own_w3 {Z : State} {a0 : Array Value} (hw : ∀ d ∈ tables_1, d.before a0 Z = true) : (Jvm.Cond.constant "com/example/exacting_validator/exactingvalidator/pattern/CodePointSetsComplementPinLaw" (10 : Nat) (1114111 : Int32)).before a0 Z = true := hw _ (List.mem_of_getElem? (i := 3) rfl)
theorem own_w4 {Z : State} {a0 : Array Value} (hw : ∀ d ∈ tables_1, d.before a0 Z = true) : (Jvm.Cond.methodLink "com/example/exacting_validator/exactingvalidator/pattern/CodePointSetsComplementPinLaw" (11 : Nat) ({ cls := "com/example/exacting_validator/exactingvalidator/pattern/CodePointSets", name := "complement", desc := "([I)[I" } : Jvm.MethodName)).before a0 Z = true := hw _ (List.mem_of_getElem? (i := 4) rfl)
theorem own_w5 {Z : State} {a0 : Array Value} (hw : ∀ d ∈ tables_1, d.before a0 Z = true) : (Jvm.Cond.static ({ cls := "com/example/exacting_validator/exactingvalidator/pattern/CodePointSets", name := "complement", desc := "([I)[I" } : Jvm.MethodName)).before a0 Z = true := hw _ (List.mem_of_getElem? (i := 5) rfl)
theorem own_w6 {Z : State} {a0 : Array Value} (hw : ∀ d ∈ tables_1, d.before a0 Z = true) : (Jvm.Cond.initialized "com/example/exacting_validator/exactingvalidator/pattern/CodePointSets").before a0 Z = true := hw _ (List.mem_of_getElem? (i := 6) rfl)
theorem own_w7 {Z : State} {a0 : Array Value} (hw : ∀ d ∈ tables_1, d.before a0 Z = true) : (Jvm.Cond.code ({ cls := "com/example/exacting_validator/exactingvalidator/pattern/CodePointSets", name := "complement", desc := "([I)[I" } : Jvm.MethodName) prog_3_method_3_code (5 : Nat) (Option.some (Jvm.ClassFile.FieldType.array Jvm.ClassFile.FieldType.int))).before a0 Z = true := hw _ (List.mem_of_getElem? (i := 7) rfl)
theorem own_w8 {Z : State} {a0 : Array Value} (hw : ∀ d ∈ tables_1, d.before a0 Z = true) : (Jvm.Cond.constant "com/example/exacting_validator/exactingvalidator/pattern/CodePointSets" (51 : Nat) (1114111 : Int32)).before a0 Z = true := hw _ (List.mem_of_getElem? (i := 8) rfl)
theorem own_w9 {Z : State} {a0 : Array Value} (hw : ∀ d ∈ tables_1, d.before a0 Z = true) : (Jvm.Cond.methodLink "com/example/exacting_validator/exactingvalidator/pattern/CodePointSets" (45 : Nat) ({ cls := "java/util/Arrays", name := "copyOf", desc := "([II)[I" } : Jvm.MethodName)).before a0 Z = true := hw _ (List.mem_of_getElem? (i := 9) rfl)
theorem own_w10 {Z : State} {a0 : Array Value} (hw : ∀ d ∈ tables_1, d.before a0 Z = true) : (Jvm.Cond.static ({ cls := "java/util/Arrays", name := "copyOf", desc := "([II)[I" } : Jvm.MethodName)).before a0 Z = true := hw _ (List.mem_of_getElem? (i := 10) rfl)
theorem own_w11 {Z : State} {a0 : Array Value} (hw : ∀ d ∈ tables_1, d.before a0 Z = true) : (Jvm.Cond.initialized "java/util/Arrays").before a0 Z = true := hw _ (List.mem_of_getElem? (i := 11) rfl)
theorem own_w12 {Z : State} {a0 : Array Value} (hw : ∀ d ∈ tables_1, d.before a0 Z = true) : (Jvm.Cond.code ({ cls := "java/util/Arrays", name := "copyOf", desc := "([II)[I" } : Jvm.MethodName) jdk_65_method_123_code (3 : Nat) (Option.some (Jvm.ClassFile.FieldType.array Jvm.ClassFile.FieldType.int))).before a0 Z = true := hw _ (List.mem_of_getElem? (i := 12) rfl)
theorem own_w13 {Z : State} {a0 : Array Value} (hw : ∀ d ∈ tables_1, d.before a0 Z = true) : (Jvm.Cond.methodLink "java/util/Arrays" (316 : Nat) ({ cls := "[I", name := "clone", desc := "()Ljava/lang/Object;" } : Jvm.MethodName)).before a0 Z = true := hw _ (List.mem_of_getElem? (i := 13) rfl)
theorem own_w14 {Z : State} {a0 : Array Value} (hw : ∀ d ∈ tables_1, d.before a0 Z = true) : (Jvm.Cond.sameMethod "[I" "java/lang/Object" "clone" "()Ljava/lang/Object;").before a0 Z = true := hw _ (List.mem_of_getElem? (i := 14) rfl)
theorem own_w16 {Z : State} {a0 : Array Value} (hw : ∀ d ∈ tables_1, d.before a0 Z = true) : (Jvm.Cond.instanceMethod ({ cls := "java/lang/Object", name := "clone", desc := "()Ljava/lang/Object;" } : Jvm.MethodName)).before a0 Z = true := hw _ (List.mem_of_getElem? (i := 16) rfl)
theorem own_w17 {Z : State} {a0 : Array Value} (hw : ∀ d ∈ tables_1, d.before a0 Z = true) : (Jvm.Cond.selects "[I" ({ cls := "[I", name := "clone", desc := "()Ljava/lang/Object;" } : Jvm.MethodName) ({ cls := "java/lang/Object", name := "clone", desc := "()Ljava/lang/Object;" } : Jvm.MethodName)).before a0 Z = true := hw _ (List.mem_of_getElem? (i := 17) rfl)
theorem own_w18 {Z : State} {a0 : Array Value} (hw : ∀ d ∈ tables_1, d.before a0 Z = true) : (Jvm.Cond.native ({ cls := "java/lang/Object", name := "clone", desc := "()Ljava/lang/Object;" } : Jvm.MethodName)).before a0 Z = true := hw _ (List.mem_of_getElem? (i := 18) rfl)
theorem own_w19 {Z : State} {a0 : Array Value} (hw : ∀ d ∈ tables_1, d.before a0 Z = true) : (Jvm.Cond.castable "[I" "java/lang/Cloneable").before a0 Z = true := hw _ (List.mem_of_getElem? (i := 19) rfl)
theorem own_w20 {Z : State} {a0 : Array Value} (hw : ∀ d ∈ tables_1, d.before a0 Z = true) : (Jvm.Cond.classLink "java/util/Arrays" (317 : Nat) "[I").before a0 Z = true := hw _ (List.mem_of_getElem? (i := 20) rfl)
theorem own_w22 {Z : State} {a0 : Array Value} (hw : ∀ d ∈ tables_1, d.before a0 Z = true) : (Jvm.Cond.methodLink "com/example/exacting_validator/exactingvalidator/pattern/CodePointSetsComplementPinLaw" (17 : Nat) ({ cls := "com/example/exacting_validator/exactingvalidator/pattern/CodePointSetsComplementPinLaw", name := "same", desc := "([I[II)Z" } : Jvm.MethodName)).before a0 Z = true := hw _ (List.mem_of_getElem? (i := 22) rfl)
theorem own_w23 {Z : State} {a0 : Array Value} (hw : ∀ d ∈ tables_1, d.before a0 Z = true) : (Jvm.Cond.static ({ cls := "com/example/exacting_validator/exactingvalidator/pattern/CodePointSetsComplementPinLaw", name := "same", desc := "([I[II)Z" } : Jvm.MethodName)).before a0 Z = true := hw _ (List.mem_of_getElem? (i := 23) rfl)
theorem own_w24 {Z : State} {a0 : Array Value} (hw : ∀ d ∈ tables_1, d.before a0 Z = true) : (Jvm.Cond.initialized "com/example/exacting_validator/exactingvalidator/pattern/CodePointSetsComplementPinLaw").before a0 Z = true := hw _ (List.mem_of_getElem? (i := 24) rfl)
theorem own_w25 {Z : State} {a0 : Array Value} (hw : ∀ d ∈ tables_1, d.before a0 Z = true) : (Jvm.Cond.code ({ cls := "com/example/exacting_validator/exactingvalidator/pattern/CodePointSetsComplementPinLaw", name := "same", desc := "([I[II)Z" } : Jvm.MethodName) method_3_code (3 : Nat) (Option.some Jvm.ClassFile.FieldType.boolean)).before a0 Z = true := hw _ (List.mem_of_getElem? (i := 25) rfl)
theorem own_w26 {Z : State} {a0 : Array Value} (hw : ∀ d ∈ tables_1, d.before a0 Z = true) : (Jvm.Cond.constant "com/example/exacting_validator/exactingvalidator/pattern/CodePointSetsComplementPinLaw" (9 : Nat) (1114109 : Int32)).before a0 Z = true := hw _ (List.mem_of_getElem? (i := 26) rfl)
theorem own_w27 {Z : State} {a0 : Array Value} (hw : ∀ d ∈ tables_1, d.before a0 Z = true) : (Jvm.Cond.methodLink "java/util/Arrays" (304 : Nat) ({ cls := "java/lang/Math", name := "min", desc := "(II)I" } : Jvm.MethodName)).before a0 Z = true := hw _ (List.mem_of_getElem? (i := 27) rfl)
theorem own_w28 {Z : State} {a0 : Array Value} (hw : ∀ d ∈ tables_1, d.before a0 Z = true) : (Jvm.Cond.static ({ cls := "java/lang/Math", name := "min", desc := "(II)I" } : Jvm.MethodName)).before a0 Z = true := hw _ (List.mem_of_getElem? (i := 28) rfl)
theorem own_w29 {Z : State} {a0 : Array Value} (hw : ∀ d ∈ tables_1, d.before a0 Z = true) : (Jvm.Cond.initialized "java/lang/Math").before a0 Z = true := hw _ (List.mem_of_getElem? (i := 29) rfl)
theorem own_w30 {Z : State} {a0 : Array Value} (hw : ∀ d ∈ tables_1, d.before a0 Z = true) : (Jvm.Cond.code ({ cls := "java/lang/Math", name := "min", desc := "(II)I" } : Jvm.MethodName) jdk_29_method_69_code (2 : Nat) (Option.some Jvm.ClassFile.FieldType.int)).before a0 Z = true := hw _ (List.mem_of_getElem? (i := 30) rfl)
theorem own_w31 {Z : State} {a0 : Array Value} (hw : ∀ d ∈ tables_1, d.before a0 Z = true) : (Jvm.Cond.methodLink "java/util/Arrays" (150 : Nat) ({ cls := "java/lang/System", name := "arraycopy", desc := "(Ljava/lang/Object;ILjava/lang/Object;II)V" } : Jvm.MethodName)).before a0 Z = true := hw _ (List.mem_of_getElem? (i := 31) rfl)
theorem own_w32 {Z : State} {a0 : Array Value} (hw : ∀ d ∈ tables_1, d.before a0 Z = true) : (Jvm.Cond.static ({ cls := "java/lang/System", name := "arraycopy", desc := "(Ljava/lang/Object;ILjava/lang/Object;II)V" } : Jvm.MethodName)).before a0 Z = true := hw _ (List.mem_of_getElem? (i := 32) rfl)
theorem own_w33 {Z : State} {a0 : Array Value} (hw : ∀ d ∈ tables_1, d.before a0 Z = true) : (Jvm.Cond.initialized "java/lang/System").before a0 Z = true := hw _ (List.mem_of_getElem? (i := 33) rfl)
theorem own_w34 {Z : State} {a0 : Array Value} (hw : ∀ d ∈ tables_1, d.before a0 Z = true) : (Jvm.Cond.native ({ cls := "java/lang/System", name := "arraycopy", desc := "(Ljava/lang/Object;ILjava/lang/Object;II)V" } : Jvm.MethodName)).before a0 Z = true := hw _ (List.mem_of_getElem? (i := 34) rfl)
theorem own_pd0 : parseMethodDescriptor "(II)I" = some ⟨[.int, .int], some .int⟩ := by decide +kernel
theorem own_pd1 : parseMethodDescriptor "([II)[I" = some ⟨[(.array .int), .int], some (.array .int)⟩ := by decide +kernel
theorem own_pd2 : parseMethodDescriptor "([I)[I" = some ⟨[(.array .int)], some (.array .int)⟩ := by decide +kernel
theorem own_pd3 : parseMethodDescriptor "([I[II)Z" = some ⟨[(.array .int), (.array .int), .int], some .boolean⟩ := by decide +kernel
theorem own_pn0 : plainName "java/util/Arrays" = true := by first | (simp [plainName, overriddenIn]; done) | decide +kernel
theorem own_pn1 : plainName "com/example/exacting_validator/exactingvalidator/pattern/CodePointSets" = true := by first | (simp [plainName, overriddenIn]; done) | decide +kernel
theorem own_pn2 : plainName "com/example/exacting_validator/exactingvalidator/pattern/CodePointSetsComplementPinLaw" = true := by first | (simp [plainName, overriddenIn]; done) | decide +kernel
theorem own_arrat {s : State} {a : Addr} {c : Cell} (h : s.arrayAt? a = some c) : s.heap[a]? = some c := by
  unfold State.arrayAt? at h
  cases q : s.heap[a]? with
  | none => simp [q] at h
  | some d =>
    simp [q] at h
    obtain ⟨k, -, h2⟩ := Option.bind_eq_some_iff.mp h
    split at h2
    · cases h2
    · split at h2
      · exact h2
      · cases h2
theorem own_b1 {x a b : Int32} (h : x < a) (q : ¬ b < a) : x < b := by rw [Int32.lt_iff_toInt_lt] at *; omega
theorem own_b2 {x a b : Int32} (h : ¬ x < a) (q : ¬ a < b) : ¬ x < b := by rw [Int32.lt_iff_toInt_lt] at *; omega
theorem own_b3 {x a b : Int32} (h : a < x) (q : ¬ a < b) : b < x := by rw [Int32.lt_iff_toInt_lt] at *; omega
theorem own_b4 {x a b : Int32} (h : ¬ a < x) (q : ¬ b < a) : ¬ b < x := by rw [Int32.lt_iff_toInt_lt] at *; omega
theorem own_b5 {x a b : Int32} (h : x < a) (q : ¬ b < a - 1 ∧ a - 1 < a) : ¬ b < x := by
  obtain ⟨q1, q2⟩ := q
  have := c_isub a 1; have := rng32 a; have := rng32 (a - 1); have e1 : (1 : Int32).toInt = 1 := rfl
  rw [Int32.lt_iff_toInt_lt] at *; omega
theorem own_b6 {x a b : Int32} (h : ¬ x < a) (q : b < a) : b < x := by rw [Int32.lt_iff_toInt_lt] at *; omega
theorem own_b7 {x a b : Int32} (h : a < x) (q : ¬ a + 1 < b ∧ a < a + 1) : ¬ x < b := by
  obtain ⟨q1, q2⟩ := q
  have := c_iadd a 1; have := rng32 a; have := rng32 (a + 1); have e1 : (1 : Int32).toInt = 1 := rfl
  rw [Int32.lt_iff_toInt_lt] at *; omega
theorem own_b8 {x a b : Int32} (h : ¬ a < x) (q : a < b) : x < b := by rw [Int32.lt_iff_toInt_lt] at *; omega
theorem own_n1 {x b : Int32} (h : x < b) : ¬ x = b := fun q => by subst q; rw [Int32.lt_iff_toInt_lt] at h; omega
theorem own_n2 {x b : Int32} (h : b < x) : ¬ x = b := fun q => by subst q; rw [Int32.lt_iff_toInt_lt] at h; omega
theorem own_i1 {x y : Int32} (h : x < y) : x.toInt < y.toInt := Int32.lt_iff_toInt_lt.mp h
theorem own_i2 {x y : Int32} (h : ¬ x < y) : y.toInt ≤ x.toInt := Int.not_lt.mp fun q => h (Int32.lt_iff_toInt_lt.mpr q)
theorem own_i3 {x y : Int32} (h : x = y) : x.toInt = y.toInt := congrArg Int32.toInt h
theorem own_i4 {x y : Int32} (h : ¬ x = y) : ¬ x.toInt = y.toInt := fun q => h (Int32.toInt_inj.mp q)
theorem own_some {x y : Int32} (h : x = y) : some (Value.int x) = some (Value.int y) := congrArg (fun z => some (Value.int z)) h
theorem own_ae1 {a b : Addr} (h : a = b) : XT.acmp .eq (.ref a) (.ref b) = true ∧ XT.acmp .ne (.ref a) (.ref b) = false := ⟨decide_eq_true (congrArg Value.ref h), decide_eq_false fun q => q (congrArg Value.ref h)⟩
theorem own_ae0 {a b : Addr} (h : ¬ a = b) : XT.acmp .eq (.ref a) (.ref b) = false ∧ XT.acmp .ne (.ref a) (.ref b) = true := ⟨decide_eq_false fun q => h (Value.ref.inj q), decide_eq_true fun q => h (Value.ref.inj q)⟩
theorem own_ann : XT.acmp .eq .null .null = true ∧ XT.acmp .ne .null .null = false := ⟨rfl, rfl⟩
theorem own_anr (b : Addr) : XT.acmp .eq .null (.ref b) = false ∧ XT.acmp .ne .null (.ref b) = true := by constructor <;> first | rfl | (simp [XT.acmp]; done) | decide
theorem own_arn (b : Addr) : XT.acmp .eq (.ref b) .null = false ∧ XT.acmp .ne (.ref b) .null = true := by constructor <;> first | rfl | (simp [XT.acmp]; done) | decide
theorem own_eqi {args : Array Value} {s : State} {t : Term} {k : Int32} (h : (Jvm.Cond.eq t (Term.int k)).value args s none s [] = some true) : t.eval args s none [] s = some (.int k) := by
  obtain ⟨x, y, e1, e2, k1, k2⟩ := cmp_v (Or.inl h)
  obtain rfl : Value.int k = y := Option.some.inj ((Term.int_eval k).symm.trans e2)
  obtain ⟨z, rfl⟩ : ∃ z, x = .int z := k2
  have q : z = k := gotT (Cond.eq_ints e1 (Term.int_eval k)) h
  rw [e1, q]
theorem own_eql {args : Array Value} {s : State} {t : Term} {k : Int64} (h : (Jvm.Cond.eq t (Term.long k)).value args s none s [] = some true) : t.eval args s none [] s = some (.long k) := by
  obtain ⟨x, y, e1, e2, k1, k2⟩ := cmp_v (Or.inl h)
  obtain rfl : Value.long k = y := Option.some.inj ((show (Term.long k).eval args s none [] s = some (.long k) from rfl).symm.trans e2)
  obtain ⟨z, rfl⟩ : ∃ z, x = .long z := k2
  have q : z = k := gotT (eq_L e1 (show (Term.long k).eval args s none [] s = some (.long k) from rfl)) h
  rw [e1, q]
theorem own_len {args : Array Value} {s : State} {t : Term} {k : Int32} {a : Addr} {c : Cell} (h : (Term.length t).eval args s none [] s = some (.int k)) (ht : t.eval args s none [] s = some (.ref a)) (hc : s.heap[a]? = some c) : c.slots.size.toInt32 = k ∧ c.slots.size < 2 ^ 31 := by
  obtain ⟨a', cell, e1, e2, e3⟩ := Term.length_spec h
  cases ht.symm.trans e1
  have e4 : s.heap[a]? = some cell := own_arrat e2
  cases hc.symm.trans e4
  refine ⟨(Value.int.inj e3).symm, ?_⟩
  by_cases q : c.slots.size < 2 ^ 31
  · exact q
  · simp [Term.eval, ht, e2, q] at h
theorem own_nb0 : nar .boolean 0 = 0 := by decide
theorem own_nb1 : nar .boolean 1 = 1 := by decide
def own_ushr (x y : Int32) : Int32 := (x.toUInt32 >>> (y &&& 31).toUInt32).toInt32
def own_ushrL (x : Int64) (y : Int32) : Int64 := (x.toUInt64 >>> (y &&& 0x3f).toInt64.toUInt64).toInt64
theorem own_d1_0 : decode prog_3_method_3_code 0 = .ok (.aload_n 0, 1) := by decide +kernel
theorem own_d1_1 : decode prog_3_method_3_code 1 = .ok (.arraylength, 1) := by decide +kernel
theorem own_d1_2 : decode prog_3_method_3_code 2 = .ok (.iconst 2, 1) := by decide +kernel
theorem own_d1_3 : decode prog_3_method_3_code 3 = .ok (.iadd, 1) := by decide +kernel
theorem own_d1_4 : decode prog_3_method_3_code 4 = .ok (.newarray .int, 2) := by decide +kernel
theorem own_d1_6 : decode prog_3_method_3_code 6 = .ok (.astore_n 1, 1) := by decide +kernel
theorem own_d1_7 : decode prog_3_method_3_code 7 = .ok (.iconst 0, 1) := by decide +kernel
theorem own_d1_8 : decode prog_3_method_3_code 8 = .ok (.istore_n 2, 1) := by decide +kernel
theorem own_d1_9 : decode prog_3_method_3_code 9 = .ok (.iconst 0, 1) := by decide +kernel
theorem own_d1_10 : decode prog_3_method_3_code 10 = .ok (.istore_n 3, 1) := by decide +kernel
theorem own_d1_11 : decode prog_3_method_3_code 11 = .ok (.iconst 0, 1) := by decide +kernel
theorem own_d1_12 : decode prog_3_method_3_code 12 = .ok (.istore 4, 2) := by decide +kernel
theorem own_d1_14 : decode prog_3_method_3_code 14 = .ok (.iload 4, 2) := by decide +kernel
theorem own_d1_16 : decode prog_3_method_3_code 16 = .ok (.aload_n 0, 1) := by decide +kernel
theorem own_d1_17 : decode prog_3_method_3_code 17 = .ok (.arraylength, 1) := by decide +kernel
theorem own_d1_18 : decode prog_3_method_3_code 18 = .ok (.if_icmp .ge 44, 3) := by decide +kernel
theorem own_d1_21 : decode prog_3_method_3_code 21 = .ok (.aload_n 0, 1) := by decide +kernel
theorem own_d1_22 : decode prog_3_method_3_code 22 = .ok (.iload 4, 2) := by decide +kernel
theorem own_d1_24 : decode prog_3_method_3_code 24 = .ok (.iaload, 1) := by decide +kernel
theorem own_d1_25 : decode prog_3_method_3_code 25 = .ok (.iload_n 3, 1) := by decide +kernel
theorem own_d1_26 : decode prog_3_method_3_code 26 = .ok (.if_icmp .le 21, 3) := by decide +kernel
theorem own_d1_29 : decode prog_3_method_3_code 29 = .ok (.aload_n 1, 1) := by decide +kernel
theorem own_d1_30 : decode prog_3_method_3_code 30 = .ok (.iload_n 2, 1) := by decide +kernel
theorem own_d1_31 : decode prog_3_method_3_code 31 = .ok (.iload_n 3, 1) := by decide +kernel
theorem own_d1_32 : decode prog_3_method_3_code 32 = .ok (.iastore, 1) := by decide +kernel
theorem own_d1_33 : decode prog_3_method_3_code 33 = .ok (.aload_n 1, 1) := by decide +kernel
theorem own_d1_34 : decode prog_3_method_3_code 34 = .ok (.iload_n 2, 1) := by decide +kernel
theorem own_d1_35 : decode prog_3_method_3_code 35 = .ok (.iconst 1, 1) := by decide +kernel
theorem own_d1_36 : decode prog_3_method_3_code 36 = .ok (.iadd, 1) := by decide +kernel
theorem own_d1_37 : decode prog_3_method_3_code 37 = .ok (.aload_n 0, 1) := by decide +kernel
theorem own_d1_38 : decode prog_3_method_3_code 38 = .ok (.iload 4, 2) := by decide +kernel
theorem own_d1_40 : decode prog_3_method_3_code 40 = .ok (.iaload, 1) := by decide +kernel
theorem own_d1_41 : decode prog_3_method_3_code 41 = .ok (.iconst 1, 1) := by decide +kernel
theorem own_d1_42 : decode prog_3_method_3_code 42 = .ok (.isub, 1) := by decide +kernel
theorem own_d1_43 : decode prog_3_method_3_code 43 = .ok (.iastore, 1) := by decide +kernel
theorem own_d1_44 : decode prog_3_method_3_code 44 = .ok (.iinc 2 2, 3) := by decide +kernel
theorem own_d1_47 : decode prog_3_method_3_code 47 = .ok (.aload_n 0, 1) := by decide +kernel
theorem own_d1_48 : decode prog_3_method_3_code 48 = .ok (.iload 4, 2) := by decide +kernel
theorem own_d1_50 : decode prog_3_method_3_code 50 = .ok (.iconst 1, 1) := by decide +kernel
theorem own_d1_51 : decode prog_3_method_3_code 51 = .ok (.iadd, 1) := by decide +kernel
theorem own_d1_52 : decode prog_3_method_3_code 52 = .ok (.iaload, 1) := by decide +kernel
theorem own_d1_53 : decode prog_3_method_3_code 53 = .ok (.iconst 1, 1) := by decide +kernel
theorem own_d1_54 : decode prog_3_method_3_code 54 = .ok (.iadd, 1) := by decide +kernel
theorem own_d1_55 : decode prog_3_method_3_code 55 = .ok (.istore_n 3, 1) := by decide +kernel
theorem own_d1_56 : decode prog_3_method_3_code 56 = .ok (.iinc 4 2, 3) := by decide +kernel
theorem own_d1_59 : decode prog_3_method_3_code 59 = .ok (.goto (-45), 3) := by decide +kernel
theorem own_d1_62 : decode prog_3_method_3_code 62 = .ok (.iload_n 3, 1) := by decide +kernel
theorem own_d1_63 : decode prog_3_method_3_code 63 = .ok (.ldc 51, 2) := by decide +kernel
theorem own_d1_65 : decode prog_3_method_3_code 65 = .ok (.if_icmp .gt 17, 3) := by decide +kernel
theorem own_d1_68 : decode prog_3_method_3_code 68 = .ok (.aload_n 1, 1) := by decide +kernel
theorem own_d1_69 : decode prog_3_method_3_code 69 = .ok (.iload_n 2, 1) := by decide +kernel
theorem own_d1_70 : decode prog_3_method_3_code 70 = .ok (.iload_n 3, 1) := by decide +kernel
theorem own_d1_71 : decode prog_3_method_3_code 71 = .ok (.iastore, 1) := by decide +kernel
theorem own_d1_72 : decode prog_3_method_3_code 72 = .ok (.aload_n 1, 1) := by decide +kernel
theorem own_d1_73 : decode prog_3_method_3_code 73 = .ok (.iload_n 2, 1) := by decide +kernel
theorem own_d1_74 : decode prog_3_method_3_code 74 = .ok (.iconst 1, 1) := by decide +kernel
theorem own_d1_75 : decode prog_3_method_3_code 75 = .ok (.iadd, 1) := by decide +kernel
theorem own_d1_76 : decode prog_3_method_3_code 76 = .ok (.ldc 51, 2) := by decide +kernel
theorem own_d1_78 : decode prog_3_method_3_code 78 = .ok (.iastore, 1) := by decide +kernel
theorem own_d1_79 : decode prog_3_method_3_code 79 = .ok (.iinc 2 2, 3) := by decide +kernel
theorem own_d1_82 : decode prog_3_method_3_code 82 = .ok (.aload_n 1, 1) := by decide +kernel
theorem own_d1_83 : decode prog_3_method_3_code 83 = .ok (.iload_n 2, 1) := by decide +kernel
theorem own_d1_84 : decode prog_3_method_3_code 84 = .ok (.invokestatic 45, 3) := by decide +kernel
theorem own_d1_87 : decode prog_3_method_3_code 87 = .ok (.areturn, 1) := by decide +kernel
theorem own_d2_0 : decode jdk_65_method_123_code 0 = .ok (.iload_n 1, 1) := by decide +kernel
theorem own_d2_1 : decode jdk_65_method_123_code 1 = .ok (.aload_n 0, 1) := by decide +kernel
theorem own_d2_2 : decode jdk_65_method_123_code 2 = .ok (.arraylength, 1) := by decide +kernel
theorem own_d2_3 : decode jdk_65_method_123_code 3 = .ok (.if_icmp .ne 11, 3) := by decide +kernel
theorem own_d2_6 : decode jdk_65_method_123_code 6 = .ok (.aload_n 0, 1) := by decide +kernel
theorem own_d2_7 : decode jdk_65_method_123_code 7 = .ok (.invokevirtual 316, 3) := by decide +kernel
theorem own_d2_10 : decode jdk_65_method_123_code 10 = .ok (.checkcast 317, 3) := by decide +kernel
theorem own_d2_13 : decode jdk_65_method_123_code 13 = .ok (.areturn, 1) := by decide +kernel
theorem own_d2_14 : decode jdk_65_method_123_code 14 = .ok (.iload_n 1, 1) := by decide +kernel
theorem own_d2_15 : decode jdk_65_method_123_code 15 = .ok (.newarray .int, 2) := by decide +kernel
theorem own_d2_17 : decode jdk_65_method_123_code 17 = .ok (.astore_n 2, 1) := by decide +kernel
theorem own_d2_18 : decode jdk_65_method_123_code 18 = .ok (.aload_n 0, 1) := by decide +kernel
theorem own_d2_19 : decode jdk_65_method_123_code 19 = .ok (.iconst 0, 1) := by decide +kernel
theorem own_d2_20 : decode jdk_65_method_123_code 20 = .ok (.aload_n 2, 1) := by decide +kernel
theorem own_d2_21 : decode jdk_65_method_123_code 21 = .ok (.iconst 0, 1) := by decide +kernel
theorem own_d2_22 : decode jdk_65_method_123_code 22 = .ok (.aload_n 0, 1) := by decide +kernel
theorem own_d2_23 : decode jdk_65_method_123_code 23 = .ok (.arraylength, 1) := by decide +kernel
theorem own_d2_24 : decode jdk_65_method_123_code 24 = .ok (.iload_n 1, 1) := by decide +kernel
theorem own_d2_25 : decode jdk_65_method_123_code 25 = .ok (.invokestatic 304, 3) := by decide +kernel
theorem own_d2_28 : decode jdk_65_method_123_code 28 = .ok (.invokestatic 150, 3) := by decide +kernel
theorem own_d2_31 : decode jdk_65_method_123_code 31 = .ok (.aload_n 2, 1) := by decide +kernel
theorem own_d2_32 : decode jdk_65_method_123_code 32 = .ok (.areturn, 1) := by decide +kernel
theorem own_d3_0 : decode method_3_code 0 = .ok (.aload_n 0, 1) := by decide +kernel
theorem own_d3_1 : decode method_3_code 1 = .ok (.ifnull 9, 3) := by decide +kernel
theorem own_d3_4 : decode method_3_code 4 = .ok (.aload_n 0, 1) := by decide +kernel
theorem own_d3_5 : decode method_3_code 5 = .ok (.arraylength, 1) := by decide +kernel
theorem own_d3_6 : decode method_3_code 6 = .ok (.iload_n 2, 1) := by decide +kernel
theorem own_d3_7 : decode method_3_code 7 = .ok (.if_icmp .eq 5, 3) := by decide +kernel
theorem own_d3_10 : decode method_3_code 10 = .ok (.iconst 0, 1) := by decide +kernel
theorem own_d3_11 : decode method_3_code 11 = .ok (.ireturn, 1) := by decide +kernel
theorem own_d3_12 : decode method_3_code 12 = .ok (.iload_n 2, 1) := by decide +kernel
theorem own_d3_13 : decode method_3_code 13 = .ok (.ifCond .le 12, 3) := by decide +kernel
theorem own_d3_16 : decode method_3_code 16 = .ok (.aload_n 0, 1) := by decide +kernel
theorem own_d3_17 : decode method_3_code 17 = .ok (.iconst 0, 1) := by decide +kernel
theorem own_d3_18 : decode method_3_code 18 = .ok (.iaload, 1) := by decide +kernel
theorem own_d3_19 : decode method_3_code 19 = .ok (.aload_n 1, 1) := by decide +kernel
theorem own_d3_20 : decode method_3_code 20 = .ok (.iconst 0, 1) := by decide +kernel
theorem own_d3_21 : decode method_3_code 21 = .ok (.iaload, 1) := by decide +kernel
theorem own_d3_22 : decode method_3_code 22 = .ok (.if_icmp .ne 77, 3) := by decide +kernel
theorem own_d3_25 : decode method_3_code 25 = .ok (.iload_n 2, 1) := by decide +kernel
theorem own_d3_26 : decode method_3_code 26 = .ok (.iconst 1, 1) := by decide +kernel
theorem own_d3_27 : decode method_3_code 27 = .ok (.if_icmp .le 12, 3) := by decide +kernel
theorem own_d3_30 : decode method_3_code 30 = .ok (.aload_n 0, 1) := by decide +kernel
theorem own_d3_31 : decode method_3_code 31 = .ok (.iconst 1, 1) := by decide +kernel
theorem own_d3_32 : decode method_3_code 32 = .ok (.iaload, 1) := by decide +kernel
theorem own_d3_33 : decode method_3_code 33 = .ok (.aload_n 1, 1) := by decide +kernel
theorem own_d3_34 : decode method_3_code 34 = .ok (.iconst 1, 1) := by decide +kernel
theorem own_d3_35 : decode method_3_code 35 = .ok (.iaload, 1) := by decide +kernel
theorem own_d3_36 : decode method_3_code 36 = .ok (.if_icmp .ne 63, 3) := by decide +kernel
theorem own_d3_39 : decode method_3_code 39 = .ok (.iload_n 2, 1) := by decide +kernel
theorem own_d3_40 : decode method_3_code 40 = .ok (.iconst 2, 1) := by decide +kernel
theorem own_d3_41 : decode method_3_code 41 = .ok (.if_icmp .le 12, 3) := by decide +kernel
theorem own_d3_44 : decode method_3_code 44 = .ok (.aload_n 0, 1) := by decide +kernel
theorem own_d3_45 : decode method_3_code 45 = .ok (.iconst 2, 1) := by decide +kernel
theorem own_d3_46 : decode method_3_code 46 = .ok (.iaload, 1) := by decide +kernel
theorem own_d3_47 : decode method_3_code 47 = .ok (.aload_n 1, 1) := by decide +kernel
theorem own_d3_48 : decode method_3_code 48 = .ok (.iconst 2, 1) := by decide +kernel
theorem own_d3_49 : decode method_3_code 49 = .ok (.iaload, 1) := by decide +kernel
theorem own_d3_50 : decode method_3_code 50 = .ok (.if_icmp .ne 49, 3) := by decide +kernel
theorem own_d3_53 : decode method_3_code 53 = .ok (.iload_n 2, 1) := by decide +kernel
theorem own_d3_54 : decode method_3_code 54 = .ok (.iconst 3, 1) := by decide +kernel
theorem own_d3_55 : decode method_3_code 55 = .ok (.if_icmp .le 12, 3) := by decide +kernel
theorem own_d3_58 : decode method_3_code 58 = .ok (.aload_n 0, 1) := by decide +kernel
theorem own_d3_59 : decode method_3_code 59 = .ok (.iconst 3, 1) := by decide +kernel
theorem own_d3_60 : decode method_3_code 60 = .ok (.iaload, 1) := by decide +kernel
theorem own_d3_61 : decode method_3_code 61 = .ok (.aload_n 1, 1) := by decide +kernel
theorem own_d3_62 : decode method_3_code 62 = .ok (.iconst 3, 1) := by decide +kernel
theorem own_d3_63 : decode method_3_code 63 = .ok (.iaload, 1) := by decide +kernel
theorem own_d3_64 : decode method_3_code 64 = .ok (.if_icmp .ne 35, 3) := by decide +kernel
theorem own_d3_67 : decode method_3_code 67 = .ok (.iload_n 2, 1) := by decide +kernel
theorem own_d3_68 : decode method_3_code 68 = .ok (.iconst 4, 1) := by decide +kernel
theorem own_d3_69 : decode method_3_code 69 = .ok (.if_icmp .le 12, 3) := by decide +kernel
theorem own_d3_72 : decode method_3_code 72 = .ok (.aload_n 0, 1) := by decide +kernel
theorem own_d3_73 : decode method_3_code 73 = .ok (.iconst 4, 1) := by decide +kernel
theorem own_d3_74 : decode method_3_code 74 = .ok (.iaload, 1) := by decide +kernel
theorem own_d3_75 : decode method_3_code 75 = .ok (.aload_n 1, 1) := by decide +kernel
theorem own_d3_76 : decode method_3_code 76 = .ok (.iconst 4, 1) := by decide +kernel
theorem own_d3_77 : decode method_3_code 77 = .ok (.iaload, 1) := by decide +kernel
theorem own_d3_78 : decode method_3_code 78 = .ok (.if_icmp .ne 21, 3) := by decide +kernel
theorem own_d3_81 : decode method_3_code 81 = .ok (.iload_n 2, 1) := by decide +kernel
theorem own_d3_82 : decode method_3_code 82 = .ok (.iconst 5, 1) := by decide +kernel
theorem own_d3_83 : decode method_3_code 83 = .ok (.if_icmp .le 12, 3) := by decide +kernel
theorem own_d3_86 : decode method_3_code 86 = .ok (.aload_n 0, 1) := by decide +kernel
theorem own_d3_87 : decode method_3_code 87 = .ok (.iconst 5, 1) := by decide +kernel
theorem own_d3_88 : decode method_3_code 88 = .ok (.iaload, 1) := by decide +kernel
theorem own_d3_89 : decode method_3_code 89 = .ok (.aload_n 1, 1) := by decide +kernel
theorem own_d3_90 : decode method_3_code 90 = .ok (.iconst 5, 1) := by decide +kernel
theorem own_d3_91 : decode method_3_code 91 = .ok (.iaload, 1) := by decide +kernel
theorem own_d3_92 : decode method_3_code 92 = .ok (.if_icmp .ne 7, 3) := by decide +kernel
theorem own_d3_95 : decode method_3_code 95 = .ok (.iconst 1, 1) := by decide +kernel
theorem own_d3_96 : decode method_3_code 96 = .ok (.goto 4, 3) := by decide +kernel
theorem own_d3_99 : decode method_3_code 99 = .ok (.iconst 0, 1) := by decide +kernel
theorem own_d3_100 : decode method_3_code 100 = .ok (.ireturn, 1) := by decide +kernel
theorem own_d4_0 : decode jdk_29_method_69_code 0 = .ok (.iload_n 0, 1) := by decide +kernel
theorem own_d4_1 : decode jdk_29_method_69_code 1 = .ok (.iload_n 1, 1) := by decide +kernel
theorem own_d4_2 : decode jdk_29_method_69_code 2 = .ok (.if_icmp .gt 7, 3) := by decide +kernel
theorem own_d4_5 : decode jdk_29_method_69_code 5 = .ok (.iload_n 0, 1) := by decide +kernel
theorem own_d4_6 : decode jdk_29_method_69_code 6 = .ok (.goto 4, 3) := by decide +kernel
theorem own_d4_9 : decode jdk_29_method_69_code 9 = .ok (.iload_n 1, 1) := by decide +kernel
theorem own_d4_10 : decode jdk_29_method_69_code 10 = .ok (.ireturn, 1) := by decide +kernel
theorem own_n3 {p n : Int32} (h : (p &&& 2147483647) % 3 = n) : n = 0 ∨ n = 1 ∨ n = 2 := by
  have h1 := c_mask p 2147483647 31 (by decide) (by decide)
  have h2 := (c_irem (p &&& 2147483647) 3 3 rfl).1 (by rw [h1]; omega)
  rw [h] at h2
  have : n.toInt = 0 ∨ n.toInt = 1 ∨ n.toInt = 2 := by omega
  rcases this with q | q | q
  · exact Or.inl (Int32.toInt_inj.mp q)
  · exact Or.inr (Or.inl (Int32.toInt_inj.mp q))
  · exact Or.inr (Or.inr (Int32.toInt_inj.mp q))
theorem own_a {p a : Int32} (h : (p &&& 2147483647) % 1114112 = a) : 0 ≤ a.toInt ∧ a.toInt ≤ 1114111 := by
  have h1 := c_mask p 2147483647 31 (by decide) (by decide)
  have h2 := (c_irem (p &&& 2147483647) 1114112 1114112 rfl).1 (by rw [h1]; omega)
  rw [h] at h2
  omega
theorem own_R {a : Int32} (h : 0 ≤ a.toInt ∧ a.toInt ≤ 1114111) : ((1114112 : Int32) - a).toInt = 1114112 - a.toInt := by
  have h1 := c_isub 1114112 a
  have e1 : (1114112 : Int32).toInt = 1114112 := rfl
  have := rng32 ((1114112 : Int32) - a)
  omega
theorem own_nz {x : Int32} (h : 0 < x.toInt) : x ≠ 0 := fun q => by rw [q] at h; exact absurd h (by decide)
theorem own_add {a q y b : Int32} (hy : 0 < y.toInt) (ha : 0 ≤ a.toInt ∧ a.toInt + y.toInt ≤ 1114112) (h : a + (q &&& 2147483647) % y = b) : a.toInt ≤ b.toInt ∧ b.toInt < a.toInt + y.toInt := by
  have h1 := c_mask q 2147483647 31 (by decide) (by decide)
  have h2 := (c_iremV (q &&& 2147483647) y).1 (by rw [h1]; omega) hy
  have h3 := c_iadd a ((q &&& 2147483647) % y)
  rw [h] at h3
  have := rng32 b
  omega
theorem own_R2 {b : Int32} (h : 0 ≤ b.toInt ∧ b.toInt ≤ 1114109) : ((1114112 : Int32) - b - 2).toInt = 1114110 - b.toInt := by
  have h1 := own_R ⟨h.1, by omega⟩
  have h2 := c_isub ((1114112 : Int32) - b) 2
  have e1 : (2 : Int32).toInt = 2 := rfl
  have := rng32 ((1114112 : Int32) - b - 2)
  omega
theorem own_p2 {b : Int32} (h : 0 ≤ b.toInt ∧ b.toInt ≤ 1114111) : (b + 2).toInt = b.toInt + 2 := by
  have h2 := c_iadd b 2
  have e1 : (2 : Int32).toInt = 2 := rfl
  have := rng32 (b + 2)
  omega
theorem own_p1 {b : Int32} (h : 0 ≤ b.toInt ∧ b.toInt ≤ 1114111) : (b + 1).toInt = b.toInt + 1 := by
  have h2 := c_iadd b 1
  have e1 : (1 : Int32).toInt = 1 := rfl
  have := rng32 (b + 1)
  omega
theorem own_lt {x y : Int32} (h : x.toInt < y.toInt) : x < y := Int32.lt_iff_toInt_lt.mpr h
theorem own_nlt {x y : Int32} (h : y.toInt ≤ x.toInt) : ¬ x < y := fun q => by rw [Int32.lt_iff_toInt_lt] at q; omega
def own_room4_4_2 : Room := { frames := 0, cells := 0, slots := 0, locals := 0 }
def own_Q4_4_2 (Z : State)  (h0 : Heap) (n0 : Nat) (v : Option Value) (h : Heap) (L : List Loc) : Prop := v = some (.int 2) ∧ Fr n0 L ∧ h = h0
theorem own_ef_rm4_4_2 (m : MethodId) (x0 : Int32) (x1 : Int32) : entryFrame m #[(.int x0), (.int x1)] 2 = mkF m 0 #[.val (.int x0), .val (.int x1)] [] := by first | (simp [entryFrame, mkF, argsToLocals, Value.category]; done) | rfl
set_option maxRecDepth 65536 in
set_option maxHeartbeats 40000000 in
theorem own_rm4_4_2 (l : Launch) (Z : State) (a0 : Array Value) (hw : ∀ d ∈ tables_1, d.before a0 Z = true) (ws : List Jvm.Cond)  (h0 : Heap) (n0 : Nat) :
    MetFree l (⟨"java/lang/Math", "min", "(II)I"⟩ : MethodName) (head1 (Jvm.Cond.code (⟨"java/lang/Math", "min", "(II)I"⟩ : MethodName) jdk_29_method_69_code 2 (some .int) :: ws) own_room4_4_2) (fun zz U => zz = #[(.int (4 : Int32)), (.int (2 : Int32))] ∧ Z.Warmed39 U.vm ∧ U.heap = h0) (fun _ _ _ _ _ => True) (fun _ U o U' => ∃ v L, o = .returned v ∧ own_Q4_4_2 Z  h0 n0 v U'.heap L ∧ FrameEnd U o U' L own_room4_4_2.cells own_room4_4_2.slots) := by
  refine MetFree.of_bodySF (Jvm.Free.JP.mathPlain rfl (by decide +kernel)) hisR ?_
  intro p e s m args below meth c s₁ Bd hml0 hP hK
  obtain ⟨rfl, hZ, hh⟩ := hP
  have hx := Bd.exec
  have hby := Bd.bytes
  have hml : c.maxLocals = 2 := hml0
  have hown : s.vm.findClass "java/lang/Math" = some m.cls := findClass_of_methodNamed Bd.named
  have hnm := (name_of_methodNamed Bd.named Bd.method).1
  have hlk : meth.locks = false := BodyLoose.notSynchronized Bd
  have hret := Bd.returns
  have X0 : Stand p l e own_room4_4_2 s m #[(.int (4 : Int32)), (.int (2 : Int32))] below meth c s₁ [] 0 0 := Stand.of_body Bd
  have e0 : s₁.heap = h0 := by rw [← hh, Bd.state]; rfl
  have N0 := Fr.nil n0
  show own_Ends p e below s (own_Q4_4_2 Z  h0 n0) own_room4_4_2.cells own_room4_4_2.slots s₁ (entryFrame m #[(.int (4 : Int32)), (.int (2 : Int32))] 2)
  refine own_cast (own_ef_rm4_4_2 m (4 : Int32) (2 : Int32)) ?_
  refine own_iloadN (pc' := 1) X0 hx (hb hby own_d4_0) rfl rfl ?_
  refine own_iloadN (pc' := 2) X0 hx (hb hby own_d4_1) rfl rfl ?_
  refine own_icmpYes (pc' := 9) X0 hx (hb hby own_d4_2) (tlt (by decide)).2.2.1 (by decide) (by decide) ?_
  refine own_iloadN (pc' := 10) X0 hx (hb hby own_d4_9) rfl rfl ?_
  refine own_retI X0 hx hlk hret (hb hby own_d4_10) (by decide) (by decide) ?_
  exact ⟨rfl, N0, e0⟩
def own_room4_4_0 : Room := { frames := 0, cells := 0, slots := 0, locals := 0 }
def own_Q4_4_0 (Z : State)  (h0 : Heap) (n0 : Nat) (v : Option Value) (h : Heap) (L : List Loc) : Prop := v = some (.int 0) ∧ Fr n0 L ∧ h = h0
theorem own_ef_rm4_4_0 (m : MethodId) (x0 : Int32) (x1 : Int32) : entryFrame m #[(.int x0), (.int x1)] 2 = mkF m 0 #[.val (.int x0), .val (.int x1)] [] := by first | (simp [entryFrame, mkF, argsToLocals, Value.category]; done) | rfl
set_option maxRecDepth 65536 in
set_option maxHeartbeats 40000000 in
theorem own_rm4_4_0 (l : Launch) (Z : State) (a0 : Array Value) (hw : ∀ d ∈ tables_1, d.before a0 Z = true) (ws : List Jvm.Cond)  (h0 : Heap) (n0 : Nat) :
    MetFree l (⟨"java/lang/Math", "min", "(II)I"⟩ : MethodName) (head1 (Jvm.Cond.code (⟨"java/lang/Math", "min", "(II)I"⟩ : MethodName) jdk_29_method_69_code 2 (some .int) :: ws) own_room4_4_0) (fun zz U => zz = #[(.int (4 : Int32)), (.int (0 : Int32))] ∧ Z.Warmed39 U.vm ∧ U.heap = h0) (fun _ _ _ _ _ => True) (fun _ U o U' => ∃ v L, o = .returned v ∧ own_Q4_4_0 Z  h0 n0 v U'.heap L ∧ FrameEnd U o U' L own_room4_4_0.cells own_room4_4_0.slots) := by
  refine MetFree.of_bodySF (Jvm.Free.JP.mathPlain rfl (by decide +kernel)) hisR ?_
  intro p e s m args below meth c s₁ Bd hml0 hP hK
  obtain ⟨rfl, hZ, hh⟩ := hP
  have hx := Bd.exec
  have hby := Bd.bytes
  have hml : c.maxLocals = 2 := hml0
  have hown : s.vm.findClass "java/lang/Math" = some m.cls := findClass_of_methodNamed Bd.named
  have hnm := (name_of_methodNamed Bd.named Bd.method).1
  have hlk : meth.locks = false := BodyLoose.notSynchronized Bd
  have hret := Bd.returns
  have X0 : Stand p l e own_room4_4_0 s m #[(.int (4 : Int32)), (.int (0 : Int32))] below meth c s₁ [] 0 0 := Stand.of_body Bd
  have e0 : s₁.heap = h0 := by rw [← hh, Bd.state]; rfl
  have N0 := Fr.nil n0
  show own_Ends p e below s (own_Q4_4_0 Z  h0 n0) own_room4_4_0.cells own_room4_4_0.slots s₁ (entryFrame m #[(.int (4 : Int32)), (.int (0 : Int32))] 2)
  refine own_cast (own_ef_rm4_4_0 m (4 : Int32) (0 : Int32)) ?_
  refine own_iloadN (pc' := 1) X0 hx (hb hby own_d4_0) rfl rfl ?_
  refine own_iloadN (pc' := 2) X0 hx (hb hby own_d4_1) rfl rfl ?_
  refine own_icmpYes (pc' := 9) X0 hx (hb hby own_d4_2) (tlt (by decide)).2.2.1 (by decide) (by decide) ?_
  refine own_iloadN (pc' := 10) X0 hx (hb hby own_d4_9) rfl rfl ?_
  refine own_retI X0 hx hlk hret (hb hby own_d4_10) (by decide) (by decide) ?_
  exact ⟨rfl, N0, e0⟩
def own_room4_6_4 : Room := { frames := 0, cells := 0, slots := 0, locals := 0 }
def own_Q4_6_4 (Z : State)  (h0 : Heap) (n0 : Nat) (v : Option Value) (h : Heap) (L : List Loc) : Prop := v = some (.int 4) ∧ Fr n0 L ∧ h = h0
theorem own_ef_rm4_6_4 (m : MethodId) (x0 : Int32) (x1 : Int32) : entryFrame m #[(.int x0), (.int x1)] 2 = mkF m 0 #[.val (.int x0), .val (.int x1)] [] := by first | (simp [entryFrame, mkF, argsToLocals, Value.category]; done) | rfl
set_option maxRecDepth 65536 in
set_option maxHeartbeats 40000000 in
theorem own_rm4_6_4 (l : Launch) (Z : State) (a0 : Array Value) (hw : ∀ d ∈ tables_1, d.before a0 Z = true) (ws : List Jvm.Cond)  (h0 : Heap) (n0 : Nat) :
    MetFree l (⟨"java/lang/Math", "min", "(II)I"⟩ : MethodName) (head1 (Jvm.Cond.code (⟨"java/lang/Math", "min", "(II)I"⟩ : MethodName) jdk_29_method_69_code 2 (some .int) :: ws) own_room4_6_4) (fun zz U => zz = #[(.int (6 : Int32)), (.int (4 : Int32))] ∧ Z.Warmed39 U.vm ∧ U.heap = h0) (fun _ _ _ _ _ => True) (fun _ U o U' => ∃ v L, o = .returned v ∧ own_Q4_6_4 Z  h0 n0 v U'.heap L ∧ FrameEnd U o U' L own_room4_6_4.cells own_room4_6_4.slots) := by
  refine MetFree.of_bodySF (Jvm.Free.JP.mathPlain rfl (by decide +kernel)) hisR ?_
  intro p e s m args below meth c s₁ Bd hml0 hP hK
  obtain ⟨rfl, hZ, hh⟩ := hP
  have hx := Bd.exec
  have hby := Bd.bytes
  have hml : c.maxLocals = 2 := hml0
  have hown : s.vm.findClass "java/lang/Math" = some m.cls := findClass_of_methodNamed Bd.named
  have hnm := (name_of_methodNamed Bd.named Bd.method).1
  have hlk : meth.locks = false := BodyLoose.notSynchronized Bd
  have hret := Bd.returns
  have X0 : Stand p l e own_room4_6_4 s m #[(.int (6 : Int32)), (.int (4 : Int32))] below meth c s₁ [] 0 0 := Stand.of_body Bd
  have e0 : s₁.heap = h0 := by rw [← hh, Bd.state]; rfl
  have N0 := Fr.nil n0
  show own_Ends p e below s (own_Q4_6_4 Z  h0 n0) own_room4_6_4.cells own_room4_6_4.slots s₁ (entryFrame m #[(.int (6 : Int32)), (.int (4 : Int32))] 2)
  refine own_cast (own_ef_rm4_6_4 m (6 : Int32) (4 : Int32)) ?_
  refine own_iloadN (pc' := 1) X0 hx (hb hby own_d4_0) rfl rfl ?_
  refine own_iloadN (pc' := 2) X0 hx (hb hby own_d4_1) rfl rfl ?_
  refine own_icmpYes (pc' := 9) X0 hx (hb hby own_d4_2) (tlt (by decide)).2.2.1 (by decide) (by decide) ?_
  refine own_iloadN (pc' := 10) X0 hx (hb hby own_d4_9) rfl rfl ?_
  refine own_retI X0 hx hlk hret (hb hby own_d4_10) (by decide) (by decide) ?_
  exact ⟨rfl, N0, e0⟩
def own_room4_6_2 : Room := { frames := 0, cells := 0, slots := 0, locals := 0 }
def own_Q4_6_2 (Z : State)  (h0 : Heap) (n0 : Nat) (v : Option Value) (h : Heap) (L : List Loc) : Prop := v = some (.int 2) ∧ Fr n0 L ∧ h = h0
theorem own_ef_rm4_6_2 (m : MethodId) (x0 : Int32) (x1 : Int32) : entryFrame m #[(.int x0), (.int x1)] 2 = mkF m 0 #[.val (.int x0), .val (.int x1)] [] := by first | (simp [entryFrame, mkF, argsToLocals, Value.category]; done) | rfl
set_option maxRecDepth 65536 in
set_option maxHeartbeats 40000000 in
theorem own_rm4_6_2 (l : Launch) (Z : State) (a0 : Array Value) (hw : ∀ d ∈ tables_1, d.before a0 Z = true) (ws : List Jvm.Cond)  (h0 : Heap) (n0 : Nat) :
    MetFree l (⟨"java/lang/Math", "min", "(II)I"⟩ : MethodName) (head1 (Jvm.Cond.code (⟨"java/lang/Math", "min", "(II)I"⟩ : MethodName) jdk_29_method_69_code 2 (some .int) :: ws) own_room4_6_2) (fun zz U => zz = #[(.int (6 : Int32)), (.int (2 : Int32))] ∧ Z.Warmed39 U.vm ∧ U.heap = h0) (fun _ _ _ _ _ => True) (fun _ U o U' => ∃ v L, o = .returned v ∧ own_Q4_6_2 Z  h0 n0 v U'.heap L ∧ FrameEnd U o U' L own_room4_6_2.cells own_room4_6_2.slots) := by
  refine MetFree.of_bodySF (Jvm.Free.JP.mathPlain rfl (by decide +kernel)) hisR ?_
  intro p e s m args below meth c s₁ Bd hml0 hP hK
  obtain ⟨rfl, hZ, hh⟩ := hP
  have hx := Bd.exec
  have hby := Bd.bytes
  have hml : c.maxLocals = 2 := hml0
  have hown : s.vm.findClass "java/lang/Math" = some m.cls := findClass_of_methodNamed Bd.named
  have hnm := (name_of_methodNamed Bd.named Bd.method).1
  have hlk : meth.locks = false := BodyLoose.notSynchronized Bd
  have hret := Bd.returns
  have X0 : Stand p l e own_room4_6_2 s m #[(.int (6 : Int32)), (.int (2 : Int32))] below meth c s₁ [] 0 0 := Stand.of_body Bd
  have e0 : s₁.heap = h0 := by rw [← hh, Bd.state]; rfl
  have N0 := Fr.nil n0
  show own_Ends p e below s (own_Q4_6_2 Z  h0 n0) own_room4_6_2.cells own_room4_6_2.slots s₁ (entryFrame m #[(.int (6 : Int32)), (.int (2 : Int32))] 2)
  refine own_cast (own_ef_rm4_6_2 m (6 : Int32) (2 : Int32)) ?_
  refine own_iloadN (pc' := 1) X0 hx (hb hby own_d4_0) rfl rfl ?_
  refine own_iloadN (pc' := 2) X0 hx (hb hby own_d4_1) rfl rfl ?_
  refine own_icmpYes (pc' := 9) X0 hx (hb hby own_d4_2) (tlt (by decide)).2.2.1 (by decide) (by decide) ?_
  refine own_iloadN (pc' := 10) X0 hx (hb hby own_d4_9) rfl rfl ?_
  refine own_retI X0 hx hlk hret (hb hby own_d4_10) (by decide) (by decide) ?_
  exact ⟨rfl, N0, e0⟩
def own_room2_2_2 : Room := { frames := 1, cells := 1, slots := 2, locals := 14 }
def own_Q2_2_2 (Z : State) (b : Addr) (bk : ClassId) (x0 : Int32) (x1 : Int32) (h0 : Heap) (n0 : Nat) (v : Option Value) (h : Heap) (L : List Loc) : Prop := ∃ (ra : Addr) (rk : ClassId), v = some (.ref ra) ∧ Fr n0 L ∧ Keep h0 h [] ∧ h0.size ≤ ra ∧ Arv Z h ra rk .int (2 : Int32) [(.int x0), (.int x1)] (.int (0 : Int32))
theorem own_ef_rm2_2_2 (m : MethodId) (x0 : Addr) (x1 : Int32) : entryFrame m #[(.ref x0), (.int x1)] 3 = mkF m 0 #[.val (.ref x0), .val (.int x1), .unset] [] := by first | (simp [entryFrame, mkF, argsToLocals, Value.category]; done) | rfl
set_option maxRecDepth 65536 in
set_option maxHeartbeats 40000000 in
theorem own_rm2_2_2 (l : Launch) (Z : State) (a0 : Array Value) (hw : ∀ d ∈ tables_1, d.before a0 Z = true) (ws : List Jvm.Cond) (b : Addr) (bk : ClassId) (x0 : Int32) (x1 : Int32) (h0 : Heap) (n0 : Nat) (Z0 : n0 ≤ h0.size) (V0 : Arv Z h0 b bk .int (2 : Int32) [(.int x0), (.int x1)] (.int (0 : Int32))) (E0 : Exa Z h0 b "[I") :
    MetFree l (⟨"java/util/Arrays", "copyOf", "([II)[I"⟩ : MethodName) (head1 (Jvm.Cond.code (⟨"java/util/Arrays", "copyOf", "([II)[I"⟩ : MethodName) jdk_65_method_123_code 3 (some (.array .int)) :: ws) own_room2_2_2) (fun zz U => zz = #[(.ref b), (.int (2 : Int32))] ∧ Z.Warmed39 U.vm ∧ U.heap = h0) (fun _ _ _ _ _ => True) (fun _ U o U' => ∃ v L, o = .returned v ∧ own_Q2_2_2 Z b bk x0 x1 h0 n0 v U'.heap L ∧ FrameEnd U o U' L own_room2_2_2.cells own_room2_2_2.slots) := by
  refine MetFree.of_bodySF (plainFor_of_name own_pn0) hisR ?_
  intro p e s m args below meth c s₁ Bd hml0 hP hK
  obtain ⟨rfl, hZ, hh⟩ := hP
  have hx := Bd.exec
  have hby := Bd.bytes
  have hml : c.maxLocals = 3 := hml0
  have hown : s.vm.findClass "java/util/Arrays" = some m.cls := findClass_of_methodNamed Bd.named
  have hnm := (name_of_methodNamed Bd.named Bd.method).1
  have hlk : meth.locks = false := BodyLoose.notSynchronized Bd
  have hret := Bd.returns
  have X0 : Stand p l e own_room2_2_2 s m #[(.ref b), (.int (2 : Int32))] below meth c s₁ [] 0 0 := Stand.of_body Bd
  have e0 : s₁.heap = h0 := by rw [← hh, Bd.state]; rfl
  have N0 := Fr.nil n0
  show own_Ends p e below s (own_Q2_2_2 Z b bk x0 x1 h0 n0) own_room2_2_2.cells own_room2_2_2.slots s₁ (entryFrame m #[(.ref b), (.int (2 : Int32))] 3)
  refine own_cast (own_ef_rm2_2_2 m b (2 : Int32)) ?_
  have K0 := Keep.refl h0 ([] : List Addr)
  refine own_iloadN (pc' := 1) X0 hx (hb hby own_d2_0) rfl rfl ?_
  refine own_aloadN (pc' := 2) X0 hx (hb hby own_d2_1) rfl rfl rfl ?_
  refine own_alen (pc' := 3) X0 hx hZ e0 V0 (hb hby own_d2_2) rfl ?_
  refine own_icmpNo (pc' := 6) X0 hx (hb hby own_d2_3) rfl (teq (by decide)).2 ?_
  refine own_aloadN (pc' := 7) X0 hx (hb hby own_d2_6) rfl rfl rfl ?_
  obtain ⟨T31, h31, X31, e31, E31, V31, Ex31, st31⟩ := cloneH X0 hx hZ hown (own_w13 hw) (own_w14 hw) (own_w18 hw) (own_w16 hw) (own_w17 hw) (own_w19 hw) e0 (hs := []) V0 E0 (g := (mkF m 7 #[.val (.ref b), .val (.int (2 : Int32)), .unset] [(.ref b)])) rfl (by rw [hml]; rfl) (rest := []) rfl (hb hby own_d2_7) (by decide) (W := 0) (by exact Nat.le_of_eq rfl) (by decide) (cap := 2) (by decide) (by decide) (by decide)
  refine own_go st31 ?_
  replace V31 : Arv Z h31 h0.size bk .int (2 : Int32) [(.int x0), (.int x1)] (.int (0 : Int32)) := V31
  obtain ⟨a31, g31⟩ : ∃ z, z = h0.size := ⟨_, rfl⟩
  rw [← g31] at V31 Ex31
  have ge32 : n0 ≤ a31 := by rw [g31]; exact Z0
  have sz33 : h0.size ≤ a31 := by rw [g31]; exact K0.1
  have ne34 : b ≠ a31 := Nat.ne_of_lt (by rw [g31]; exact V0.lt)
  show own_Ends p e below s _ _ _ T31 (mkF m 10 #[.val (.ref b), .val (.int (2 : Int32)), .unset] [(.ref h0.size)])
  rw [← g31]
  obtain ⟨T35, X35, e35, st35⟩ := castY X31 hx hZ hown (own_w20 hw) e31 (Ins.self Ex31) (g := (mkF m 10 #[.val (.ref b), .val (.int (2 : Int32)), .unset] [(.ref a31)])) rfl rfl (hb hby own_d2_10)
  refine own_go st35 ?_
  show own_Ends p e below s _ _ _ T35 (mkF m 13 #[.val (.ref b), .val (.int (2 : Int32)), .unset] [(.ref a31)])
  refine own_retA X35 hx hlk hret rfl rfl rfl (hb hby own_d2_13) (by decide) (by decide) ?_
  have f36 := (K0.ext E31)
  rw [e35]; exact ⟨_, _, rfl, N0, f36, sz33, V31⟩
def own_room2_4_4 : Room := { frames := 1, cells := 1, slots := 4, locals := 14 }
def own_Q2_4_4 (Z : State) (b : Addr) (bk : ClassId) (x0 : Int32) (x1 : Int32) (x2 : Int32) (x3 : Int32) (h0 : Heap) (n0 : Nat) (v : Option Value) (h : Heap) (L : List Loc) : Prop := ∃ (ra : Addr) (rk : ClassId), v = some (.ref ra) ∧ Fr n0 L ∧ Keep h0 h [] ∧ h0.size ≤ ra ∧ Arv Z h ra rk .int (4 : Int32) [(.int x0), (.int x1), (.int x2), (.int x3)] (.int (0 : Int32))
theorem own_ef_rm2_4_4 (m : MethodId) (x0 : Addr) (x1 : Int32) : entryFrame m #[(.ref x0), (.int x1)] 3 = mkF m 0 #[.val (.ref x0), .val (.int x1), .unset] [] := by first | (simp [entryFrame, mkF, argsToLocals, Value.category]; done) | rfl
set_option maxRecDepth 65536 in
set_option maxHeartbeats 40000000 in
theorem own_rm2_4_4 (l : Launch) (Z : State) (a0 : Array Value) (hw : ∀ d ∈ tables_1, d.before a0 Z = true) (ws : List Jvm.Cond) (b : Addr) (bk : ClassId) (x0 : Int32) (x1 : Int32) (x2 : Int32) (x3 : Int32) (h0 : Heap) (n0 : Nat) (Z0 : n0 ≤ h0.size) (V0 : Arv Z h0 b bk .int (4 : Int32) [(.int x0), (.int x1), (.int x2), (.int x3)] (.int (0 : Int32))) (E0 : Exa Z h0 b "[I") :
    MetFree l (⟨"java/util/Arrays", "copyOf", "([II)[I"⟩ : MethodName) (head1 (Jvm.Cond.code (⟨"java/util/Arrays", "copyOf", "([II)[I"⟩ : MethodName) jdk_65_method_123_code 3 (some (.array .int)) :: ws) own_room2_4_4) (fun zz U => zz = #[(.ref b), (.int (4 : Int32))] ∧ Z.Warmed39 U.vm ∧ U.heap = h0) (fun _ _ _ _ _ => True) (fun _ U o U' => ∃ v L, o = .returned v ∧ own_Q2_4_4 Z b bk x0 x1 x2 x3 h0 n0 v U'.heap L ∧ FrameEnd U o U' L own_room2_4_4.cells own_room2_4_4.slots) := by
  refine MetFree.of_bodySF (plainFor_of_name own_pn0) hisR ?_
  intro p e s m args below meth c s₁ Bd hml0 hP hK
  obtain ⟨rfl, hZ, hh⟩ := hP
  have hx := Bd.exec
  have hby := Bd.bytes
  have hml : c.maxLocals = 3 := hml0
  have hown : s.vm.findClass "java/util/Arrays" = some m.cls := findClass_of_methodNamed Bd.named
  have hnm := (name_of_methodNamed Bd.named Bd.method).1
  have hlk : meth.locks = false := BodyLoose.notSynchronized Bd
  have hret := Bd.returns
  have X0 : Stand p l e own_room2_4_4 s m #[(.ref b), (.int (4 : Int32))] below meth c s₁ [] 0 0 := Stand.of_body Bd
  have e0 : s₁.heap = h0 := by rw [← hh, Bd.state]; rfl
  have N0 := Fr.nil n0
  show own_Ends p e below s (own_Q2_4_4 Z b bk x0 x1 x2 x3 h0 n0) own_room2_4_4.cells own_room2_4_4.slots s₁ (entryFrame m #[(.ref b), (.int (4 : Int32))] 3)
  refine own_cast (own_ef_rm2_4_4 m b (4 : Int32)) ?_
  have K0 := Keep.refl h0 ([] : List Addr)
  refine own_iloadN (pc' := 1) X0 hx (hb hby own_d2_0) rfl rfl ?_
  refine own_aloadN (pc' := 2) X0 hx (hb hby own_d2_1) rfl rfl rfl ?_
  refine own_alen (pc' := 3) X0 hx hZ e0 V0 (hb hby own_d2_2) rfl ?_
  refine own_icmpNo (pc' := 6) X0 hx (hb hby own_d2_3) rfl (teq (by decide)).2 ?_
  refine own_aloadN (pc' := 7) X0 hx (hb hby own_d2_6) rfl rfl rfl ?_
  obtain ⟨T31, h31, X31, e31, E31, V31, Ex31, st31⟩ := cloneH X0 hx hZ hown (own_w13 hw) (own_w14 hw) (own_w18 hw) (own_w16 hw) (own_w17 hw) (own_w19 hw) e0 (hs := []) V0 E0 (g := (mkF m 7 #[.val (.ref b), .val (.int (4 : Int32)), .unset] [(.ref b)])) rfl (by rw [hml]; rfl) (rest := []) rfl (hb hby own_d2_7) (by decide) (W := 0) (by exact Nat.le_of_eq rfl) (by decide) (cap := 4) (by decide) (by decide) (by decide)
  refine own_go st31 ?_
  replace V31 : Arv Z h31 h0.size bk .int (4 : Int32) [(.int x0), (.int x1), (.int x2), (.int x3)] (.int (0 : Int32)) := V31
  obtain ⟨a31, g31⟩ : ∃ z, z = h0.size := ⟨_, rfl⟩
  rw [← g31] at V31 Ex31
  have ge32 : n0 ≤ a31 := by rw [g31]; exact Z0
  have sz33 : h0.size ≤ a31 := by rw [g31]; exact K0.1
  have ne34 : b ≠ a31 := Nat.ne_of_lt (by rw [g31]; exact V0.lt)
  show own_Ends p e below s _ _ _ T31 (mkF m 10 #[.val (.ref b), .val (.int (4 : Int32)), .unset] [(.ref h0.size)])
  rw [← g31]
  obtain ⟨T35, X35, e35, st35⟩ := castY X31 hx hZ hown (own_w20 hw) e31 (Ins.self Ex31) (g := (mkF m 10 #[.val (.ref b), .val (.int (4 : Int32)), .unset] [(.ref a31)])) rfl rfl (hb hby own_d2_10)
  refine own_go st35 ?_
  show own_Ends p e below s _ _ _ T35 (mkF m 13 #[.val (.ref b), .val (.int (4 : Int32)), .unset] [(.ref a31)])
  refine own_retA X35 hx hlk hret rfl rfl rfl (hb hby own_d2_13) (by decide) (by decide) ?_
  have f36 := (K0.ext E31)
  rw [e35]; exact ⟨_, _, rfl, N0, f36, sz33, V31⟩
def own_room2_6_6 : Room := { frames := 1, cells := 1, slots := 6, locals := 14 }
def own_Q2_6_6 (Z : State) (b : Addr) (bk : ClassId) (x0 : Int32) (x1 : Int32) (x2 : Int32) (x3 : Int32) (x4 : Int32) (x5 : Int32) (h0 : Heap) (n0 : Nat) (v : Option Value) (h : Heap) (L : List Loc) : Prop := ∃ (ra : Addr) (rk : ClassId), v = some (.ref ra) ∧ Fr n0 L ∧ Keep h0 h [] ∧ h0.size ≤ ra ∧ Arv Z h ra rk .int (6 : Int32) [(.int x0), (.int x1), (.int x2), (.int x3), (.int x4), (.int x5)] (.int (0 : Int32))
theorem own_ef_rm2_6_6 (m : MethodId) (x0 : Addr) (x1 : Int32) : entryFrame m #[(.ref x0), (.int x1)] 3 = mkF m 0 #[.val (.ref x0), .val (.int x1), .unset] [] := by first | (simp [entryFrame, mkF, argsToLocals, Value.category]; done) | rfl
set_option maxRecDepth 65536 in
set_option maxHeartbeats 40000000 in
theorem own_rm2_6_6 (l : Launch) (Z : State) (a0 : Array Value) (hw : ∀ d ∈ tables_1, d.before a0 Z = true) (ws : List Jvm.Cond) (b : Addr) (bk : ClassId) (x0 : Int32) (x1 : Int32) (x2 : Int32) (x3 : Int32) (x4 : Int32) (x5 : Int32) (h0 : Heap) (n0 : Nat) (Z0 : n0 ≤ h0.size) (V0 : Arv Z h0 b bk .int (6 : Int32) [(.int x0), (.int x1), (.int x2), (.int x3), (.int x4), (.int x5)] (.int (0 : Int32))) (E0 : Exa Z h0 b "[I") :
    MetFree l (⟨"java/util/Arrays", "copyOf", "([II)[I"⟩ : MethodName) (head1 (Jvm.Cond.code (⟨"java/util/Arrays", "copyOf", "([II)[I"⟩ : MethodName) jdk_65_method_123_code 3 (some (.array .int)) :: ws) own_room2_6_6) (fun zz U => zz = #[(.ref b), (.int (6 : Int32))] ∧ Z.Warmed39 U.vm ∧ U.heap = h0) (fun _ _ _ _ _ => True) (fun _ U o U' => ∃ v L, o = .returned v ∧ own_Q2_6_6 Z b bk x0 x1 x2 x3 x4 x5 h0 n0 v U'.heap L ∧ FrameEnd U o U' L own_room2_6_6.cells own_room2_6_6.slots) := by
  refine MetFree.of_bodySF (plainFor_of_name own_pn0) hisR ?_
  intro p e s m args below meth c s₁ Bd hml0 hP hK
  obtain ⟨rfl, hZ, hh⟩ := hP
  have hx := Bd.exec
  have hby := Bd.bytes
  have hml : c.maxLocals = 3 := hml0
  have hown : s.vm.findClass "java/util/Arrays" = some m.cls := findClass_of_methodNamed Bd.named
  have hnm := (name_of_methodNamed Bd.named Bd.method).1
  have hlk : meth.locks = false := BodyLoose.notSynchronized Bd
  have hret := Bd.returns
  have X0 : Stand p l e own_room2_6_6 s m #[(.ref b), (.int (6 : Int32))] below meth c s₁ [] 0 0 := Stand.of_body Bd
  have e0 : s₁.heap = h0 := by rw [← hh, Bd.state]; rfl
  have N0 := Fr.nil n0
  show own_Ends p e below s (own_Q2_6_6 Z b bk x0 x1 x2 x3 x4 x5 h0 n0) own_room2_6_6.cells own_room2_6_6.slots s₁ (entryFrame m #[(.ref b), (.int (6 : Int32))] 3)
  refine own_cast (own_ef_rm2_6_6 m b (6 : Int32)) ?_
  have K0 := Keep.refl h0 ([] : List Addr)
  refine own_iloadN (pc' := 1) X0 hx (hb hby own_d2_0) rfl rfl ?_
  refine own_aloadN (pc' := 2) X0 hx (hb hby own_d2_1) rfl rfl rfl ?_
  refine own_alen (pc' := 3) X0 hx hZ e0 V0 (hb hby own_d2_2) rfl ?_
  refine own_icmpNo (pc' := 6) X0 hx (hb hby own_d2_3) rfl (teq (by decide)).2 ?_
  refine own_aloadN (pc' := 7) X0 hx (hb hby own_d2_6) rfl rfl rfl ?_
  obtain ⟨T31, h31, X31, e31, E31, V31, Ex31, st31⟩ := cloneH X0 hx hZ hown (own_w13 hw) (own_w14 hw) (own_w18 hw) (own_w16 hw) (own_w17 hw) (own_w19 hw) e0 (hs := []) V0 E0 (g := (mkF m 7 #[.val (.ref b), .val (.int (6 : Int32)), .unset] [(.ref b)])) rfl (by rw [hml]; rfl) (rest := []) rfl (hb hby own_d2_7) (by decide) (W := 0) (by exact Nat.le_of_eq rfl) (by decide) (cap := 6) (by decide) (by decide) (by decide)
  refine own_go st31 ?_
  replace V31 : Arv Z h31 h0.size bk .int (6 : Int32) [(.int x0), (.int x1), (.int x2), (.int x3), (.int x4), (.int x5)] (.int (0 : Int32)) := V31
  obtain ⟨a31, g31⟩ : ∃ z, z = h0.size := ⟨_, rfl⟩
  rw [← g31] at V31 Ex31
  have ge32 : n0 ≤ a31 := by rw [g31]; exact Z0
  have sz33 : h0.size ≤ a31 := by rw [g31]; exact K0.1
  have ne34 : b ≠ a31 := Nat.ne_of_lt (by rw [g31]; exact V0.lt)
  show own_Ends p e below s _ _ _ T31 (mkF m 10 #[.val (.ref b), .val (.int (6 : Int32)), .unset] [(.ref h0.size)])
  rw [← g31]
  obtain ⟨T35, X35, e35, st35⟩ := castY X31 hx hZ hown (own_w20 hw) e31 (Ins.self Ex31) (g := (mkF m 10 #[.val (.ref b), .val (.int (6 : Int32)), .unset] [(.ref a31)])) rfl rfl (hb hby own_d2_10)
  refine own_go st35 ?_
  show own_Ends p e below s _ _ _ T35 (mkF m 13 #[.val (.ref b), .val (.int (6 : Int32)), .unset] [(.ref a31)])
  refine own_retA X35 hx hlk hret rfl rfl rfl (hb hby own_d2_13) (by decide) (by decide) ?_
  have f36 := (K0.ext E31)
  rw [e35]; exact ⟨_, _, rfl, N0, f36, sz33, V31⟩
def own_room2_4_2 : Room := { frames := 1, cells := 1, slots := 2, locals := 18 }
def own_Q2_4_2 (Z : State) (b : Addr) (bk : ClassId) (x0 : Int32) (x1 : Int32) (x2 : Int32) (x3 : Int32) (h0 : Heap) (n0 : Nat) (v : Option Value) (h : Heap) (L : List Loc) : Prop := ∃ (ra : Addr) (rk : ClassId), v = some (.ref ra) ∧ Fr n0 L ∧ Keep h0 h [] ∧ h0.size ≤ ra ∧ Arv Z h ra rk .int (2 : Int32) [(.int x0), (.int x1)] (.int (0 : Int32))
theorem own_ef_rm2_4_2 (m : MethodId) (x0 : Addr) (x1 : Int32) : entryFrame m #[(.ref x0), (.int x1)] 3 = mkF m 0 #[.val (.ref x0), .val (.int x1), .unset] [] := by first | (simp [entryFrame, mkF, argsToLocals, Value.category]; done) | rfl
set_option maxRecDepth 65536 in
set_option maxHeartbeats 40000000 in
theorem own_rm2_4_2 (l : Launch) (Z : State) (a0 : Array Value) (hw : ∀ d ∈ tables_1, d.before a0 Z = true) (ws : List Jvm.Cond) (b : Addr) (bk : ClassId) (x0 : Int32) (x1 : Int32) (x2 : Int32) (x3 : Int32) (h0 : Heap) (n0 : Nat) (Z0 : n0 ≤ h0.size) (V0 : Arv Z h0 b bk .int (4 : Int32) [(.int x0), (.int x1), (.int x2), (.int x3)] (.int (0 : Int32))) (E0 : Exa Z h0 b "[I") :
    MetFree l (⟨"java/util/Arrays", "copyOf", "([II)[I"⟩ : MethodName) (head1 (Jvm.Cond.code (⟨"java/util/Arrays", "copyOf", "([II)[I"⟩ : MethodName) jdk_65_method_123_code 3 (some (.array .int)) :: ws) own_room2_4_2) (fun zz U => zz = #[(.ref b), (.int (2 : Int32))] ∧ Z.Warmed39 U.vm ∧ U.heap = h0) (fun _ _ _ _ _ => True) (fun _ U o U' => ∃ v L, o = .returned v ∧ own_Q2_4_2 Z b bk x0 x1 x2 x3 h0 n0 v U'.heap L ∧ FrameEnd U o U' L own_room2_4_2.cells own_room2_4_2.slots) := by
  refine MetFree.of_bodySF (plainFor_of_name own_pn0) hisR ?_
  intro p e s m args below meth c s₁ Bd hml0 hP hK
  obtain ⟨rfl, hZ, hh⟩ := hP
  have hx := Bd.exec
  have hby := Bd.bytes
  have hml : c.maxLocals = 3 := hml0
  have hown : s.vm.findClass "java/util/Arrays" = some m.cls := findClass_of_methodNamed Bd.named
  have hnm := (name_of_methodNamed Bd.named Bd.method).1
  have hlk : meth.locks = false := BodyLoose.notSynchronized Bd
  have hret := Bd.returns
  have X0 : Stand p l e own_room2_4_2 s m #[(.ref b), (.int (2 : Int32))] below meth c s₁ [] 0 0 := Stand.of_body Bd
  have e0 : s₁.heap = h0 := by rw [← hh, Bd.state]; rfl
  have N0 := Fr.nil n0
  show own_Ends p e below s (own_Q2_4_2 Z b bk x0 x1 x2 x3 h0 n0) own_room2_4_2.cells own_room2_4_2.slots s₁ (entryFrame m #[(.ref b), (.int (2 : Int32))] 3)
  refine own_cast (own_ef_rm2_4_2 m b (2 : Int32)) ?_
  have K0 := Keep.refl h0 ([] : List Addr)
  refine own_iloadN (pc' := 1) X0 hx (hb hby own_d2_0) rfl rfl ?_
  refine own_aloadN (pc' := 2) X0 hx (hb hby own_d2_1) rfl rfl rfl ?_
  refine own_alen (pc' := 3) X0 hx hZ e0 V0 (hb hby own_d2_2) rfl ?_
  refine own_icmpYes (pc' := 14) X0 hx (hb hby own_d2_3) (feq (by decide)).2 (by decide) (by decide) ?_
  refine own_iloadN (pc' := 15) X0 hx (hb hby own_d2_14) rfl rfl ?_
  refine own_newarr (pc' := 17) (aty := .int) X0 hx hZ (own_w2 hw) e0 (hb hby own_d2_15) rfl (by decide) 2 2 (by decide) (by decide) (by decide) (by decide) ?_
  intro T31 h31 a31 k31 X31 e31 E31 g31 V31
  replace V31 : Arv Z h31 a31 k31 .int (2 : Int32) [(.int (0 : Int32)), (.int (0 : Int32))] (.int (0 : Int32)) := V31
  have ge32 : n0 ≤ a31 := by rw [g31]; exact Z0
  have sz33 : h0.size ≤ a31 := by rw [g31]; exact K0.1
  have ne34 : b ≠ a31 := Nat.ne_of_lt (by rw [g31]; exact V0.lt)
  show own_Ends p e below s _ _ _ T31 (mkF m 17 #[.val (.ref b), .val (.int (2 : Int32)), .unset] [(.ref a31)])
  refine own_astoreN (pc' := 18) (l' := #[.val (.ref b), .val (.int (2 : Int32)), .val (.ref a31)]) X31 hx (hb hby own_d2_17) rfl rfl rfl ?_
  refine own_aloadN (pc' := 19) X31 hx (hb hby own_d2_18) rfl rfl rfl ?_
  refine own_iconst (pc' := 20) (z := (0 : Int32)) X31 hx (hb hby own_d2_19) rfl rfl ?_
  refine own_aloadN (pc' := 21) X31 hx (hb hby own_d2_20) rfl rfl rfl ?_
  refine own_iconst (pc' := 22) (z := (0 : Int32)) X31 hx (hb hby own_d2_21) rfl rfl ?_
  refine own_aloadN (pc' := 23) X31 hx (hb hby own_d2_22) rfl rfl rfl ?_
  have f35 := (V0.ext E31)
  refine own_alen (pc' := 24) X31 hx hZ e31 f35 (hb hby own_d2_23) rfl ?_
  refine own_iloadN (pc' := 25) X31 hx (hb hby own_d2_24) rfl rfl ?_
  refine own_callS (pc' := 28) (y := (⟨"java/lang/Math", "min", "(II)I"⟩ : MethodName)) (W := 4) (rm := own_room4_4_2) (argsL := [(.int (4 : Int32)), (.int (2 : Int32))]) (rest := [(.int (0 : Int32)), (.ref a31), (.int (0 : Int32)), (.ref b)]) X31 hx hZ e31 hown (by rw [hml]; rfl) (own_w27 hw) (own_w28 hw) (own_w29 hw) (own_w30 hw) (by decide) (own_rm4_4_2 l Z a0 hw [] h31 n0) (by decide) (by decide) (by decide) (by decide) (lenOf own_pd0 rfl) rfl (by exact Nat.le_of_eq rfl) (hb hby own_d2_25) rfl ?_
  intro T36 Lc36 v36 X36 hQ36
  obtain ⟨rfl, Nq36, Kq36⟩ := hQ36
  have N36 := Fr.app N0 Nq36
  show own_Ends p e below s _ _ _ T36 (mkF m 28 #[.val (.ref b), .val (.int (2 : Int32)), .val (.ref a31)] [(.int (2 : Int32)), (.int (0 : Int32)), (.ref a31), (.int (0 : Int32)), (.ref b)])
  obtain ⟨T37, h37, L37, X37, e37, N37, Kc37, V37, st37⟩ := cpA X36 hx hZ hown (own_w31 hw) (own_w34 hw) (own_w32 hw) (own_w33 hw) Kq36 f35 V31 (us := [(.int x0), (.int x1)]) (Or.inl ⟨rfl, rfl⟩) (sp := (0 : Int32)) (dp := (0 : Int32)) (nn := (2 : Int32)) (by decide) (by decide) (by decide) (by decide) (by decide) rfl (by decide) N36 ge32 (g := (mkF m 28 #[.val (.ref b), .val (.int (2 : Int32)), .val (.ref a31)] [(.int (2 : Int32)), (.int (0 : Int32)), (.ref a31), (.int (0 : Int32)), (.ref b)])) rfl (by rw [hml]; rfl) (rest := []) rfl (hb hby own_d2_28) (by decide) (W := 0) (by exact Nat.le_of_eq rfl) (by decide)
  refine own_go st37 ?_
  replace V37 : Arv Z h37 a31 k31 .int (2 : Int32) [(.int x0), (.int x1)] (.int (0 : Int32)) := V37
  show own_Ends p e below s _ _ _ T37 (mkF m 31 #[.val (.ref b), .val (.int (2 : Int32)), .val (.ref a31)] [])
  refine own_aloadN (pc' := 32) X37 hx (hb hby own_d2_31) rfl rfl rfl ?_
  refine own_retA X37 hx hlk hret rfl rfl rfl (hb hby own_d2_32) (by decide) (by decide) ?_
  have f38 := ((K0.ext E31).trans Kc37 (allS (Or.inr sz33) all0))
  rw [e37]; exact ⟨_, _, rfl, N37, f38, sz33, V37⟩
def own_room2_4_0 : Room := { frames := 1, cells := 1, slots := 0, locals := 18 }
def own_Q2_4_0 (Z : State) (b : Addr) (bk : ClassId) (x0 : Int32) (x1 : Int32) (x2 : Int32) (x3 : Int32) (h0 : Heap) (n0 : Nat) (v : Option Value) (h : Heap) (L : List Loc) : Prop := ∃ (ra : Addr) (rk : ClassId), v = some (.ref ra) ∧ Fr n0 L ∧ Keep h0 h [] ∧ h0.size ≤ ra ∧ Arv Z h ra rk .int (0 : Int32) [] (.int (0 : Int32))
theorem own_ef_rm2_4_0 (m : MethodId) (x0 : Addr) (x1 : Int32) : entryFrame m #[(.ref x0), (.int x1)] 3 = mkF m 0 #[.val (.ref x0), .val (.int x1), .unset] [] := by first | (simp [entryFrame, mkF, argsToLocals, Value.category]; done) | rfl
set_option maxRecDepth 65536 in
set_option maxHeartbeats 40000000 in
theorem own_rm2_4_0 (l : Launch) (Z : State) (a0 : Array Value) (hw : ∀ d ∈ tables_1, d.before a0 Z = true) (ws : List Jvm.Cond) (b : Addr) (bk : ClassId) (x0 : Int32) (x1 : Int32) (x2 : Int32) (x3 : Int32) (h0 : Heap) (n0 : Nat) (Z0 : n0 ≤ h0.size) (V0 : Arv Z h0 b bk .int (4 : Int32) [(.int x0), (.int x1), (.int x2), (.int x3)] (.int (0 : Int32))) (E0 : Exa Z h0 b "[I") :
    MetFree l (⟨"java/util/Arrays", "copyOf", "([II)[I"⟩ : MethodName) (head1 (Jvm.Cond.code (⟨"java/util/Arrays", "copyOf", "([II)[I"⟩ : MethodName) jdk_65_method_123_code 3 (some (.array .int)) :: ws) own_room2_4_0) (fun zz U => zz = #[(.ref b), (.int (0 : Int32))] ∧ Z.Warmed39 U.vm ∧ U.heap = h0) (fun _ _ _ _ _ => True) (fun _ U o U' => ∃ v L, o = .returned v ∧ own_Q2_4_0 Z b bk x0 x1 x2 x3 h0 n0 v U'.heap L ∧ FrameEnd U o U' L own_room2_4_0.cells own_room2_4_0.slots) := by
  refine MetFree.of_bodySF (plainFor_of_name own_pn0) hisR ?_
  intro p e s m args below meth c s₁ Bd hml0 hP hK
  obtain ⟨rfl, hZ, hh⟩ := hP
  have hx := Bd.exec
  have hby := Bd.bytes
  have hml : c.maxLocals = 3 := hml0
  have hown : s.vm.findClass "java/util/Arrays" = some m.cls := findClass_of_methodNamed Bd.named
  have hnm := (name_of_methodNamed Bd.named Bd.method).1
  have hlk : meth.locks = false := BodyLoose.notSynchronized Bd
  have hret := Bd.returns
  have X0 : Stand p l e own_room2_4_0 s m #[(.ref b), (.int (0 : Int32))] below meth c s₁ [] 0 0 := Stand.of_body Bd
  have e0 : s₁.heap = h0 := by rw [← hh, Bd.state]; rfl
  have N0 := Fr.nil n0
  show own_Ends p e below s (own_Q2_4_0 Z b bk x0 x1 x2 x3 h0 n0) own_room2_4_0.cells own_room2_4_0.slots s₁ (entryFrame m #[(.ref b), (.int (0 : Int32))] 3)
  refine own_cast (own_ef_rm2_4_0 m b (0 : Int32)) ?_
  have K0 := Keep.refl h0 ([] : List Addr)
  refine own_iloadN (pc' := 1) X0 hx (hb hby own_d2_0) rfl rfl ?_
  refine own_aloadN (pc' := 2) X0 hx (hb hby own_d2_1) rfl rfl rfl ?_
  refine own_alen (pc' := 3) X0 hx hZ e0 V0 (hb hby own_d2_2) rfl ?_
  refine own_icmpYes (pc' := 14) X0 hx (hb hby own_d2_3) (feq (by decide)).2 (by decide) (by decide) ?_
  refine own_iloadN (pc' := 15) X0 hx (hb hby own_d2_14) rfl rfl ?_
  refine own_newarr (pc' := 17) (aty := .int) X0 hx hZ (own_w2 hw) e0 (hb hby own_d2_15) rfl (by decide) 0 0 (by decide) (by decide) (by decide) (by decide) ?_
  intro T31 h31 a31 k31 X31 e31 E31 g31 V31
  replace V31 : Arv Z h31 a31 k31 .int (0 : Int32) [] (.int (0 : Int32)) := V31
  have ge32 : n0 ≤ a31 := by rw [g31]; exact Z0
  have sz33 : h0.size ≤ a31 := by rw [g31]; exact K0.1
  have ne34 : b ≠ a31 := Nat.ne_of_lt (by rw [g31]; exact V0.lt)
  show own_Ends p e below s _ _ _ T31 (mkF m 17 #[.val (.ref b), .val (.int (0 : Int32)), .unset] [(.ref a31)])
  refine own_astoreN (pc' := 18) (l' := #[.val (.ref b), .val (.int (0 : Int32)), .val (.ref a31)]) X31 hx (hb hby own_d2_17) rfl rfl rfl ?_
  refine own_aloadN (pc' := 19) X31 hx (hb hby own_d2_18) rfl rfl rfl ?_
  refine own_iconst (pc' := 20) (z := (0 : Int32)) X31 hx (hb hby own_d2_19) rfl rfl ?_
  refine own_aloadN (pc' := 21) X31 hx (hb hby own_d2_20) rfl rfl rfl ?_
  refine own_iconst (pc' := 22) (z := (0 : Int32)) X31 hx (hb hby own_d2_21) rfl rfl ?_
  refine own_aloadN (pc' := 23) X31 hx (hb hby own_d2_22) rfl rfl rfl ?_
  have f35 := (V0.ext E31)
  refine own_alen (pc' := 24) X31 hx hZ e31 f35 (hb hby own_d2_23) rfl ?_
  refine own_iloadN (pc' := 25) X31 hx (hb hby own_d2_24) rfl rfl ?_
  refine own_callS (pc' := 28) (y := (⟨"java/lang/Math", "min", "(II)I"⟩ : MethodName)) (W := 4) (rm := own_room4_4_0) (argsL := [(.int (4 : Int32)), (.int (0 : Int32))]) (rest := [(.int (0 : Int32)), (.ref a31), (.int (0 : Int32)), (.ref b)]) X31 hx hZ e31 hown (by rw [hml]; rfl) (own_w27 hw) (own_w28 hw) (own_w29 hw) (own_w30 hw) (by decide) (own_rm4_4_0 l Z a0 hw [] h31 n0) (by decide) (by decide) (by decide) (by decide) (lenOf own_pd0 rfl) rfl (by exact Nat.le_of_eq rfl) (hb hby own_d2_25) rfl ?_
  intro T36 Lc36 v36 X36 hQ36
  obtain ⟨rfl, Nq36, Kq36⟩ := hQ36
  have N36 := Fr.app N0 Nq36
  show own_Ends p e below s _ _ _ T36 (mkF m 28 #[.val (.ref b), .val (.int (0 : Int32)), .val (.ref a31)] [(.int (0 : Int32)), (.int (0 : Int32)), (.ref a31), (.int (0 : Int32)), (.ref b)])
  obtain ⟨T37, h37, L37, X37, e37, N37, Kc37, V37, st37⟩ := cpA X36 hx hZ hown (own_w31 hw) (own_w34 hw) (own_w32 hw) (own_w33 hw) Kq36 f35 V31 (us := []) (Or.inl ⟨rfl, rfl⟩) (sp := (0 : Int32)) (dp := (0 : Int32)) (nn := (0 : Int32)) (by decide) (by decide) (by decide) (by decide) (by decide) rfl (by decide) N36 ge32 (g := (mkF m 28 #[.val (.ref b), .val (.int (0 : Int32)), .val (.ref a31)] [(.int (0 : Int32)), (.int (0 : Int32)), (.ref a31), (.int (0 : Int32)), (.ref b)])) rfl (by rw [hml]; rfl) (rest := []) rfl (hb hby own_d2_28) (by decide) (W := 0) (by exact Nat.le_of_eq rfl) (by decide)
  refine own_go st37 ?_
  replace V37 : Arv Z h37 a31 k31 .int (0 : Int32) [] (.int (0 : Int32)) := V37
  show own_Ends p e below s _ _ _ T37 (mkF m 31 #[.val (.ref b), .val (.int (0 : Int32)), .val (.ref a31)] [])
  refine own_aloadN (pc' := 32) X37 hx (hb hby own_d2_31) rfl rfl rfl ?_
  refine own_retA X37 hx hlk hret rfl rfl rfl (hb hby own_d2_32) (by decide) (by decide) ?_
  have f38 := ((K0.ext E31).trans Kc37 (allS (Or.inr sz33) all0))
  rw [e37]; exact ⟨_, _, rfl, N37, f38, sz33, V37⟩
def own_room2_6_4 : Room := { frames := 1, cells := 1, slots := 4, locals := 18 }
def own_Q2_6_4 (Z : State) (b : Addr) (bk : ClassId) (x0 : Int32) (x1 : Int32) (x2 : Int32) (x3 : Int32) (x4 : Int32) (x5 : Int32) (h0 : Heap) (n0 : Nat) (v : Option Value) (h : Heap) (L : List Loc) : Prop := ∃ (ra : Addr) (rk : ClassId), v = some (.ref ra) ∧ Fr n0 L ∧ Keep h0 h [] ∧ h0.size ≤ ra ∧ Arv Z h ra rk .int (4 : Int32) [(.int x0), (.int x1), (.int x2), (.int x3)] (.int (0 : Int32))
theorem own_ef_rm2_6_4 (m : MethodId) (x0 : Addr) (x1 : Int32) : entryFrame m #[(.ref x0), (.int x1)] 3 = mkF m 0 #[.val (.ref x0), .val (.int x1), .unset] [] := by first | (simp [entryFrame, mkF, argsToLocals, Value.category]; done) | rfl
set_option maxRecDepth 65536 in
set_option maxHeartbeats 40000000 in
theorem own_rm2_6_4 (l : Launch) (Z : State) (a0 : Array Value) (hw : ∀ d ∈ tables_1, d.before a0 Z = true) (ws : List Jvm.Cond) (b : Addr) (bk : ClassId) (x0 : Int32) (x1 : Int32) (x2 : Int32) (x3 : Int32) (x4 : Int32) (x5 : Int32) (h0 : Heap) (n0 : Nat) (Z0 : n0 ≤ h0.size) (V0 : Arv Z h0 b bk .int (6 : Int32) [(.int x0), (.int x1), (.int x2), (.int x3), (.int x4), (.int x5)] (.int (0 : Int32))) (E0 : Exa Z h0 b "[I") :
    MetFree l (⟨"java/util/Arrays", "copyOf", "([II)[I"⟩ : MethodName) (head1 (Jvm.Cond.code (⟨"java/util/Arrays", "copyOf", "([II)[I"⟩ : MethodName) jdk_65_method_123_code 3 (some (.array .int)) :: ws) own_room2_6_4) (fun zz U => zz = #[(.ref b), (.int (4 : Int32))] ∧ Z.Warmed39 U.vm ∧ U.heap = h0) (fun _ _ _ _ _ => True) (fun _ U o U' => ∃ v L, o = .returned v ∧ own_Q2_6_4 Z b bk x0 x1 x2 x3 x4 x5 h0 n0 v U'.heap L ∧ FrameEnd U o U' L own_room2_6_4.cells own_room2_6_4.slots) := by
  refine MetFree.of_bodySF (plainFor_of_name own_pn0) hisR ?_
  intro p e s m args below meth c s₁ Bd hml0 hP hK
  obtain ⟨rfl, hZ, hh⟩ := hP
  have hx := Bd.exec
  have hby := Bd.bytes
  have hml : c.maxLocals = 3 := hml0
  have hown : s.vm.findClass "java/util/Arrays" = some m.cls := findClass_of_methodNamed Bd.named
  have hnm := (name_of_methodNamed Bd.named Bd.method).1
  have hlk : meth.locks = false := BodyLoose.notSynchronized Bd
  have hret := Bd.returns
  have X0 : Stand p l e own_room2_6_4 s m #[(.ref b), (.int (4 : Int32))] below meth c s₁ [] 0 0 := Stand.of_body Bd
  have e0 : s₁.heap = h0 := by rw [← hh, Bd.state]; rfl
  have N0 := Fr.nil n0
  show own_Ends p e below s (own_Q2_6_4 Z b bk x0 x1 x2 x3 x4 x5 h0 n0) own_room2_6_4.cells own_room2_6_4.slots s₁ (entryFrame m #[(.ref b), (.int (4 : Int32))] 3)
  refine own_cast (own_ef_rm2_6_4 m b (4 : Int32)) ?_
  have K0 := Keep.refl h0 ([] : List Addr)
  refine own_iloadN (pc' := 1) X0 hx (hb hby own_d2_0) rfl rfl ?_
  refine own_aloadN (pc' := 2) X0 hx (hb hby own_d2_1) rfl rfl rfl ?_
  refine own_alen (pc' := 3) X0 hx hZ e0 V0 (hb hby own_d2_2) rfl ?_
  refine own_icmpYes (pc' := 14) X0 hx (hb hby own_d2_3) (feq (by decide)).2 (by decide) (by decide) ?_
  refine own_iloadN (pc' := 15) X0 hx (hb hby own_d2_14) rfl rfl ?_
  refine own_newarr (pc' := 17) (aty := .int) X0 hx hZ (own_w2 hw) e0 (hb hby own_d2_15) rfl (by decide) 4 4 (by decide) (by decide) (by decide) (by decide) ?_
  intro T31 h31 a31 k31 X31 e31 E31 g31 V31
  replace V31 : Arv Z h31 a31 k31 .int (4 : Int32) [(.int (0 : Int32)), (.int (0 : Int32)), (.int (0 : Int32)), (.int (0 : Int32))] (.int (0 : Int32)) := V31
  have ge32 : n0 ≤ a31 := by rw [g31]; exact Z0
  have sz33 : h0.size ≤ a31 := by rw [g31]; exact K0.1
  have ne34 : b ≠ a31 := Nat.ne_of_lt (by rw [g31]; exact V0.lt)
  show own_Ends p e below s _ _ _ T31 (mkF m 17 #[.val (.ref b), .val (.int (4 : Int32)), .unset] [(.ref a31)])
  refine own_astoreN (pc' := 18) (l' := #[.val (.ref b), .val (.int (4 : Int32)), .val (.ref a31)]) X31 hx (hb hby own_d2_17) rfl rfl rfl ?_
  refine own_aloadN (pc' := 19) X31 hx (hb hby own_d2_18) rfl rfl rfl ?_
  refine own_iconst (pc' := 20) (z := (0 : Int32)) X31 hx (hb hby own_d2_19) rfl rfl ?_
  refine own_aloadN (pc' := 21) X31 hx (hb hby own_d2_20) rfl rfl rfl ?_
  refine own_iconst (pc' := 22) (z := (0 : Int32)) X31 hx (hb hby own_d2_21) rfl rfl ?_
  refine own_aloadN (pc' := 23) X31 hx (hb hby own_d2_22) rfl rfl rfl ?_
  have f35 := (V0.ext E31)
  refine own_alen (pc' := 24) X31 hx hZ e31 f35 (hb hby own_d2_23) rfl ?_
  refine own_iloadN (pc' := 25) X31 hx (hb hby own_d2_24) rfl rfl ?_
  refine own_callS (pc' := 28) (y := (⟨"java/lang/Math", "min", "(II)I"⟩ : MethodName)) (W := 4) (rm := own_room4_6_4) (argsL := [(.int (6 : Int32)), (.int (4 : Int32))]) (rest := [(.int (0 : Int32)), (.ref a31), (.int (0 : Int32)), (.ref b)]) X31 hx hZ e31 hown (by rw [hml]; rfl) (own_w27 hw) (own_w28 hw) (own_w29 hw) (own_w30 hw) (by decide) (own_rm4_6_4 l Z a0 hw [] h31 n0) (by decide) (by decide) (by decide) (by decide) (lenOf own_pd0 rfl) rfl (by exact Nat.le_of_eq rfl) (hb hby own_d2_25) rfl ?_
  intro T36 Lc36 v36 X36 hQ36
  obtain ⟨rfl, Nq36, Kq36⟩ := hQ36
  have N36 := Fr.app N0 Nq36
  show own_Ends p e below s _ _ _ T36 (mkF m 28 #[.val (.ref b), .val (.int (4 : Int32)), .val (.ref a31)] [(.int (4 : Int32)), (.int (0 : Int32)), (.ref a31), (.int (0 : Int32)), (.ref b)])
  obtain ⟨T37, h37, L37, X37, e37, N37, Kc37, V37, st37⟩ := cpA X36 hx hZ hown (own_w31 hw) (own_w34 hw) (own_w32 hw) (own_w33 hw) Kq36 f35 V31 (us := [(.int x0), (.int x1), (.int x2), (.int x3)]) (Or.inl ⟨rfl, rfl⟩) (sp := (0 : Int32)) (dp := (0 : Int32)) (nn := (4 : Int32)) (by decide) (by decide) (by decide) (by decide) (by decide) rfl (by decide) N36 ge32 (g := (mkF m 28 #[.val (.ref b), .val (.int (4 : Int32)), .val (.ref a31)] [(.int (4 : Int32)), (.int (0 : Int32)), (.ref a31), (.int (0 : Int32)), (.ref b)])) rfl (by rw [hml]; rfl) (rest := []) rfl (hb hby own_d2_28) (by decide) (W := 0) (by exact Nat.le_of_eq rfl) (by decide)
  refine own_go st37 ?_
  replace V37 : Arv Z h37 a31 k31 .int (4 : Int32) [(.int x0), (.int x1), (.int x2), (.int x3)] (.int (0 : Int32)) := V37
  show own_Ends p e below s _ _ _ T37 (mkF m 31 #[.val (.ref b), .val (.int (4 : Int32)), .val (.ref a31)] [])
  refine own_aloadN (pc' := 32) X37 hx (hb hby own_d2_31) rfl rfl rfl ?_
  refine own_retA X37 hx hlk hret rfl rfl rfl (hb hby own_d2_32) (by decide) (by decide) ?_
  have f38 := ((K0.ext E31).trans Kc37 (allS (Or.inr sz33) all0))
  rw [e37]; exact ⟨_, _, rfl, N37, f38, sz33, V37⟩
def own_room2_6_2 : Room := { frames := 1, cells := 1, slots := 2, locals := 18 }
def own_Q2_6_2 (Z : State) (b : Addr) (bk : ClassId) (x0 : Int32) (x1 : Int32) (x2 : Int32) (x3 : Int32) (x4 : Int32) (x5 : Int32) (h0 : Heap) (n0 : Nat) (v : Option Value) (h : Heap) (L : List Loc) : Prop := ∃ (ra : Addr) (rk : ClassId), v = some (.ref ra) ∧ Fr n0 L ∧ Keep h0 h [] ∧ h0.size ≤ ra ∧ Arv Z h ra rk .int (2 : Int32) [(.int x0), (.int x1)] (.int (0 : Int32))
theorem own_ef_rm2_6_2 (m : MethodId) (x0 : Addr) (x1 : Int32) : entryFrame m #[(.ref x0), (.int x1)] 3 = mkF m 0 #[.val (.ref x0), .val (.int x1), .unset] [] := by first | (simp [entryFrame, mkF, argsToLocals, Value.category]; done) | rfl
set_option maxRecDepth 65536 in
set_option maxHeartbeats 40000000 in
theorem own_rm2_6_2 (l : Launch) (Z : State) (a0 : Array Value) (hw : ∀ d ∈ tables_1, d.before a0 Z = true) (ws : List Jvm.Cond) (b : Addr) (bk : ClassId) (x0 : Int32) (x1 : Int32) (x2 : Int32) (x3 : Int32) (x4 : Int32) (x5 : Int32) (h0 : Heap) (n0 : Nat) (Z0 : n0 ≤ h0.size) (V0 : Arv Z h0 b bk .int (6 : Int32) [(.int x0), (.int x1), (.int x2), (.int x3), (.int x4), (.int x5)] (.int (0 : Int32))) (E0 : Exa Z h0 b "[I") :
    MetFree l (⟨"java/util/Arrays", "copyOf", "([II)[I"⟩ : MethodName) (head1 (Jvm.Cond.code (⟨"java/util/Arrays", "copyOf", "([II)[I"⟩ : MethodName) jdk_65_method_123_code 3 (some (.array .int)) :: ws) own_room2_6_2) (fun zz U => zz = #[(.ref b), (.int (2 : Int32))] ∧ Z.Warmed39 U.vm ∧ U.heap = h0) (fun _ _ _ _ _ => True) (fun _ U o U' => ∃ v L, o = .returned v ∧ own_Q2_6_2 Z b bk x0 x1 x2 x3 x4 x5 h0 n0 v U'.heap L ∧ FrameEnd U o U' L own_room2_6_2.cells own_room2_6_2.slots) := by
  refine MetFree.of_bodySF (plainFor_of_name own_pn0) hisR ?_
  intro p e s m args below meth c s₁ Bd hml0 hP hK
  obtain ⟨rfl, hZ, hh⟩ := hP
  have hx := Bd.exec
  have hby := Bd.bytes
  have hml : c.maxLocals = 3 := hml0
  have hown : s.vm.findClass "java/util/Arrays" = some m.cls := findClass_of_methodNamed Bd.named
  have hnm := (name_of_methodNamed Bd.named Bd.method).1
  have hlk : meth.locks = false := BodyLoose.notSynchronized Bd
  have hret := Bd.returns
  have X0 : Stand p l e own_room2_6_2 s m #[(.ref b), (.int (2 : Int32))] below meth c s₁ [] 0 0 := Stand.of_body Bd
  have e0 : s₁.heap = h0 := by rw [← hh, Bd.state]; rfl
  have N0 := Fr.nil n0
  show own_Ends p e below s (own_Q2_6_2 Z b bk x0 x1 x2 x3 x4 x5 h0 n0) own_room2_6_2.cells own_room2_6_2.slots s₁ (entryFrame m #[(.ref b), (.int (2 : Int32))] 3)
  refine own_cast (own_ef_rm2_6_2 m b (2 : Int32)) ?_
  have K0 := Keep.refl h0 ([] : List Addr)
  refine own_iloadN (pc' := 1) X0 hx (hb hby own_d2_0) rfl rfl ?_
  refine own_aloadN (pc' := 2) X0 hx (hb hby own_d2_1) rfl rfl rfl ?_
  refine own_alen (pc' := 3) X0 hx hZ e0 V0 (hb hby own_d2_2) rfl ?_
  refine own_icmpYes (pc' := 14) X0 hx (hb hby own_d2_3) (feq (by decide)).2 (by decide) (by decide) ?_
  refine own_iloadN (pc' := 15) X0 hx (hb hby own_d2_14) rfl rfl ?_
  refine own_newarr (pc' := 17) (aty := .int) X0 hx hZ (own_w2 hw) e0 (hb hby own_d2_15) rfl (by decide) 2 2 (by decide) (by decide) (by decide) (by decide) ?_
  intro T31 h31 a31 k31 X31 e31 E31 g31 V31
  replace V31 : Arv Z h31 a31 k31 .int (2 : Int32) [(.int (0 : Int32)), (.int (0 : Int32))] (.int (0 : Int32)) := V31
  have ge32 : n0 ≤ a31 := by rw [g31]; exact Z0
  have sz33 : h0.size ≤ a31 := by rw [g31]; exact K0.1
  have ne34 : b ≠ a31 := Nat.ne_of_lt (by rw [g31]; exact V0.lt)
  show own_Ends p e below s _ _ _ T31 (mkF m 17 #[.val (.ref b), .val (.int (2 : Int32)), .unset] [(.ref a31)])
  refine own_astoreN (pc' := 18) (l' := #[.val (.ref b), .val (.int (2 : Int32)), .val (.ref a31)]) X31 hx (hb hby own_d2_17) rfl rfl rfl ?_
  refine own_aloadN (pc' := 19) X31 hx (hb hby own_d2_18) rfl rfl rfl ?_
  refine own_iconst (pc' := 20) (z := (0 : Int32)) X31 hx (hb hby own_d2_19) rfl rfl ?_
  refine own_aloadN (pc' := 21) X31 hx (hb hby own_d2_20) rfl rfl rfl ?_
  refine own_iconst (pc' := 22) (z := (0 : Int32)) X31 hx (hb hby own_d2_21) rfl rfl ?_
  refine own_aloadN (pc' := 23) X31 hx (hb hby own_d2_22) rfl rfl rfl ?_
  have f35 := (V0.ext E31)
  refine own_alen (pc' := 24) X31 hx hZ e31 f35 (hb hby own_d2_23) rfl ?_
  refine own_iloadN (pc' := 25) X31 hx (hb hby own_d2_24) rfl rfl ?_
  refine own_callS (pc' := 28) (y := (⟨"java/lang/Math", "min", "(II)I"⟩ : MethodName)) (W := 4) (rm := own_room4_6_2) (argsL := [(.int (6 : Int32)), (.int (2 : Int32))]) (rest := [(.int (0 : Int32)), (.ref a31), (.int (0 : Int32)), (.ref b)]) X31 hx hZ e31 hown (by rw [hml]; rfl) (own_w27 hw) (own_w28 hw) (own_w29 hw) (own_w30 hw) (by decide) (own_rm4_6_2 l Z a0 hw [] h31 n0) (by decide) (by decide) (by decide) (by decide) (lenOf own_pd0 rfl) rfl (by exact Nat.le_of_eq rfl) (hb hby own_d2_25) rfl ?_
  intro T36 Lc36 v36 X36 hQ36
  obtain ⟨rfl, Nq36, Kq36⟩ := hQ36
  have N36 := Fr.app N0 Nq36
  show own_Ends p e below s _ _ _ T36 (mkF m 28 #[.val (.ref b), .val (.int (2 : Int32)), .val (.ref a31)] [(.int (2 : Int32)), (.int (0 : Int32)), (.ref a31), (.int (0 : Int32)), (.ref b)])
  obtain ⟨T37, h37, L37, X37, e37, N37, Kc37, V37, st37⟩ := cpA X36 hx hZ hown (own_w31 hw) (own_w34 hw) (own_w32 hw) (own_w33 hw) Kq36 f35 V31 (us := [(.int x0), (.int x1)]) (Or.inl ⟨rfl, rfl⟩) (sp := (0 : Int32)) (dp := (0 : Int32)) (nn := (2 : Int32)) (by decide) (by decide) (by decide) (by decide) (by decide) rfl (by decide) N36 ge32 (g := (mkF m 28 #[.val (.ref b), .val (.int (2 : Int32)), .val (.ref a31)] [(.int (2 : Int32)), (.int (0 : Int32)), (.ref a31), (.int (0 : Int32)), (.ref b)])) rfl (by rw [hml]; rfl) (rest := []) rfl (hb hby own_d2_28) (by decide) (W := 0) (by exact Nat.le_of_eq rfl) (by decide)
  refine own_go st37 ?_
  replace V37 : Arv Z h37 a31 k31 .int (2 : Int32) [(.int x0), (.int x1)] (.int (0 : Int32)) := V37
  show own_Ends p e below s _ _ _ T37 (mkF m 31 #[.val (.ref b), .val (.int (2 : Int32)), .val (.ref a31)] [])
  refine own_aloadN (pc' := 32) X37 hx (hb hby own_d2_31) rfl rfl rfl ?_
  refine own_retA X37 hx hlk hret rfl rfl rfl (hb hby own_d2_32) (by decide) (by decide) ?_
  have f38 := ((K0.ext E31).trans Kc37 (allS (Or.inr sz33) all0))
  rw [e37]; exact ⟨_, _, rfl, N37, f38, sz33, V37⟩
def own_room1_000 : Room := { frames := 2, cells := 2, slots := 4, locals := 28 }
def own_Q1_000 (Z : State) (b : Addr) (bk : ClassId) (h0 : Heap) (n0 : Nat) (v : Option Value) (h : Heap) (L : List Loc) : Prop := ∃ (ra : Addr) (rk : ClassId), v = some (.ref ra) ∧ Fr n0 L ∧ Keep h0 h [] ∧ h0.size ≤ ra ∧ Arv Z h ra rk .int (2 : Int32) [(.int (0 : Int32)), (.int (1114111 : Int32))] (.int (0 : Int32))
theorem own_ef_rm1_000 (m : MethodId) (x0 : Addr) : entryFrame m #[(.ref x0)] 5 = mkF m 0 #[.val (.ref x0), .unset, .unset, .unset, .unset] [] := by first | (simp [entryFrame, mkF, argsToLocals, Value.category]; done) | rfl
set_option maxRecDepth 65536 in
set_option maxHeartbeats 40000000 in
theorem own_rm1_000 (l : Launch) (Z : State) (a0 : Array Value) (hw : ∀ d ∈ tables_1, d.before a0 Z = true) (ws : List Jvm.Cond) (b : Addr) (bk : ClassId) (h0 : Heap) (n0 : Nat) (Z0 : n0 ≤ h0.size) (V0 : Arv Z h0 b bk .int (0 : Int32) [] (.int (0 : Int32))) :
    MetFree l (⟨"com/example/exacting_validator/exactingvalidator/pattern/CodePointSets", "complement", "([I)[I"⟩ : MethodName) (head1 (Jvm.Cond.code (⟨"com/example/exacting_validator/exactingvalidator/pattern/CodePointSets", "complement", "([I)[I"⟩ : MethodName) prog_3_method_3_code 5 (some (.array .int)) :: ws) own_room1_000) (fun zz U => zz = #[(.ref b)] ∧ Z.Warmed39 U.vm ∧ U.heap = h0) (fun _ _ _ _ _ => True) (fun _ U o U' => ∃ v L, o = .returned v ∧ own_Q1_000 Z b bk h0 n0 v U'.heap L ∧ FrameEnd U o U' L own_room1_000.cells own_room1_000.slots) := by
  refine MetFree.of_bodySF (plainFor_of_name own_pn1) hisR ?_
  intro p e s m args below meth c s₁ Bd hml0 hP hK
  obtain ⟨rfl, hZ, hh⟩ := hP
  have hx := Bd.exec
  have hby := Bd.bytes
  have hml : c.maxLocals = 5 := hml0
  have hown : s.vm.findClass "com/example/exacting_validator/exactingvalidator/pattern/CodePointSets" = some m.cls := findClass_of_methodNamed Bd.named
  have hnm := (name_of_methodNamed Bd.named Bd.method).1
  have hlk : meth.locks = false := BodyLoose.notSynchronized Bd
  have hret := Bd.returns
  have X0 : Stand p l e own_room1_000 s m #[(.ref b)] below meth c s₁ [] 0 0 := Stand.of_body Bd
  have e0 : s₁.heap = h0 := by rw [← hh, Bd.state]; rfl
  have N0 := Fr.nil n0
  show own_Ends p e below s (own_Q1_000 Z b bk h0 n0) own_room1_000.cells own_room1_000.slots s₁ (entryFrame m #[(.ref b)] 5)
  refine own_cast (own_ef_rm1_000 m b) ?_
  have K0 := Keep.refl h0 ([] : List Addr)
  refine own_aloadN (pc' := 1) X0 hx (hb hby own_d1_0) rfl rfl rfl ?_
  refine own_alen (pc' := 2) X0 hx hZ e0 V0 (hb hby own_d1_1) rfl ?_
  refine own_iconst (pc' := 3) (z := (2 : Int32)) X0 hx (hb hby own_d1_2) rfl rfl ?_
  refine own_iadd (pc' := 4) (z := (2 : Int32)) X0 hx (hb hby own_d1_3) rfl (by decide) ?_
  refine own_newarrE (pc' := 6) (aty := .int) X0 hx hZ (own_w2 hw) e0 (hb hby own_d1_4) rfl (by decide) 2 2 (by decide) (by decide) (by decide) (by decide) (ad := "[I") (by decide) ?_
  intro T31 h31 a31 k31 X31 e31 E31 g31 V31 Ex31
  replace V31 : Arv Z h31 a31 k31 .int (2 : Int32) [(.int (0 : Int32)), (.int (0 : Int32))] (.int (0 : Int32)) := V31
  have ge32 : n0 ≤ a31 := by rw [g31]; exact Z0
  have sz33 : h0.size ≤ a31 := by rw [g31]; exact K0.1
  have ne34 : b ≠ a31 := Nat.ne_of_lt (by rw [g31]; exact V0.lt)
  show own_Ends p e below s _ _ _ T31 (mkF m 6 #[.val (.ref b), .unset, .unset, .unset, .unset] [(.ref a31)])
  refine own_astoreN (pc' := 7) (l' := #[.val (.ref b), .val (.ref a31), .unset, .unset, .unset]) X31 hx (hb hby own_d1_6) rfl rfl rfl ?_
  refine own_iconst (pc' := 8) (z := (0 : Int32)) X31 hx (hb hby own_d1_7) rfl rfl ?_
  refine own_istoreN (pc' := 9) (l' := #[.val (.ref b), .val (.ref a31), .val (.int (0 : Int32)), .unset, .unset]) X31 hx (hb hby own_d1_8) rfl rfl ?_
  refine own_iconst (pc' := 10) (z := (0 : Int32)) X31 hx (hb hby own_d1_9) rfl rfl ?_
  refine own_istoreN (pc' := 11) (l' := #[.val (.ref b), .val (.ref a31), .val (.int (0 : Int32)), .val (.int (0 : Int32)), .unset]) X31 hx (hb hby own_d1_10) rfl rfl ?_
  refine own_iconst (pc' := 12) (z := (0 : Int32)) X31 hx (hb hby own_d1_11) rfl rfl ?_
  refine own_istore (pc' := 14) (l' := #[.val (.ref b), .val (.ref a31), .val (.int (0 : Int32)), .val (.int (0 : Int32)), .val (.int (0 : Int32))]) X31 hx (hb hby own_d1_12) rfl rfl ?_
  refine own_iload (pc' := 16) X31 hx (hb hby own_d1_14) rfl rfl ?_
  refine own_aloadN (pc' := 17) X31 hx (hb hby own_d1_16) rfl rfl rfl ?_
  have f35 := (V0.ext E31)
  refine own_alen (pc' := 18) X31 hx hZ e31 f35 (hb hby own_d1_17) rfl ?_
  refine own_icmpYes (pc' := 62) X31 hx (hb hby own_d1_18) (flt (by decide)).2.1 (by decide) (by decide) ?_
  refine own_iloadN (pc' := 63) X31 hx (hb hby own_d1_62) rfl rfl ?_
  refine own_ldcI (pc' := 65) X31 hx hZ hown (own_w8 hw) (hb hby own_d1_63) rfl ?_
  refine own_icmpNo (pc' := 68) X31 hx (hb hby own_d1_65) rfl (flt (by decide)).2.2.1 ?_
  refine own_aloadN (pc' := 69) X31 hx (hb hby own_d1_68) rfl rfl rfl ?_
  refine own_iloadN (pc' := 70) X31 hx (hb hby own_d1_69) rfl rfl ?_
  refine own_iloadN (pc' := 71) X31 hx (hb hby own_d1_70) rfl rfl ?_
  refine own_iastore (pc' := 72) X31 hx hZ e31 V31 (hb hby own_d1_71) rfl (by decide) 0 rfl (by simp) N0 ge32 ?_
  intro T36 h36 L36 X36 e36 N36 W36 V36
  replace V36 : Arv Z h36 a31 k31 .int (2 : Int32) [(.int (0 : Int32)), (.int (0 : Int32))] (.int (0 : Int32)) := V36
  show own_Ends p e below s _ _ _ T36 (mkF m 72 #[.val (.ref b), .val (.ref a31), .val (.int (0 : Int32)), .val (.int (0 : Int32)), .val (.int (0 : Int32))] [])
  refine own_aloadN (pc' := 73) X36 hx (hb hby own_d1_72) rfl rfl rfl ?_
  refine own_iloadN (pc' := 74) X36 hx (hb hby own_d1_73) rfl rfl ?_
  refine own_iconst (pc' := 75) (z := (1 : Int32)) X36 hx (hb hby own_d1_74) rfl rfl ?_
  refine own_iadd (pc' := 76) (z := (1 : Int32)) X36 hx (hb hby own_d1_75) rfl (by decide) ?_
  refine own_ldcI (pc' := 78) X36 hx hZ hown (own_w8 hw) (hb hby own_d1_76) rfl ?_
  refine own_iastore (pc' := 79) X36 hx hZ e36 V36 (hb hby own_d1_78) rfl (by decide) 1 rfl (by simp) N36 ge32 ?_
  intro T37 h37 L37 X37 e37 N37 W37 V37
  replace V37 : Arv Z h37 a31 k31 .int (2 : Int32) [(.int (0 : Int32)), (.int (1114111 : Int32))] (.int (0 : Int32)) := V37
  show own_Ends p e below s _ _ _ T37 (mkF m 79 #[.val (.ref b), .val (.ref a31), .val (.int (0 : Int32)), .val (.int (0 : Int32)), .val (.int (0 : Int32))] [])
  refine own_iinc (pc' := 82) (z := (2 : Int32)) (l' := #[.val (.ref b), .val (.ref a31), .val (.int (2 : Int32)), .val (.int (0 : Int32)), .val (.int (0 : Int32))]) X37 hx (hb hby own_d1_79) rfl rfl (by decide) rfl ?_
  refine own_aloadN (pc' := 83) X37 hx (hb hby own_d1_82) rfl rfl rfl ?_
  refine own_iloadN (pc' := 84) X37 hx (hb hby own_d1_83) rfl rfl ?_
  have f38 := ((Ex31.wr W36).wr W37)
  have f39 := (Nat.le_trans (Nat.le_trans (Nat.le_trans Z0 E31.1) (Keep.of_wr W36).1) (Keep.of_wr W37).1)
  refine own_callS (pc' := 87) (y := (⟨"java/util/Arrays", "copyOf", "([II)[I"⟩ : MethodName)) (W := 0) (rm := own_room2_2_2) (argsL := [(.ref a31), (.int (2 : Int32))]) (rest := []) X37 hx hZ e37 hown (by rw [hml]; rfl) (own_w9 hw) (own_w10 hw) (own_w11 hw) (own_w12 hw) (by decide) (own_rm2_2_2 l Z a0 hw [] a31 k31 (0 : Int32) (1114111 : Int32) h37 n0 f39 V37 f38) (by decide) (by decide) (by decide) (by decide) (lenOf own_pd1 rfl) rfl (by exact Nat.le_of_eq rfl) (hb hby own_d1_84) rfl ?_
  intro T40 Lc40 v40 X40 hQ40
  obtain ⟨ra40, rk40, rfl, Nq40, Kq40, G40_0, G40_1⟩ := hQ40
  have N40 := Fr.app N37 Nq40
  have ge41 : n0 ≤ ra40 := Nat.le_trans f39 G40_0
  have f42 := (((K0.ext E31).wr W36 (Or.inr sz33)).wr W37 (Or.inr sz33))
  have sz43 : h0.size ≤ ra40 := Nat.le_trans f42.1 G40_0
  have f44 := ((f35.other W36 ne34).other W37 ne34)
  have ne45 : b ≠ ra40 := Nat.ne_of_lt (Nat.lt_of_lt_of_le f44.lt G40_0)
  have ne46 : a31 ≠ ra40 := Nat.ne_of_lt (Nat.lt_of_lt_of_le V37.lt G40_0)
  show own_Ends p e below s _ _ _ T40 (mkF m 87 #[.val (.ref b), .val (.ref a31), .val (.int (2 : Int32)), .val (.int (0 : Int32)), .val (.int (0 : Int32))] [(.ref ra40)])
  refine own_retA X40 hx hlk hret rfl rfl rfl (hb hby own_d1_87) (by decide) (by decide) ?_
  have f47 := (f42.trans Kq40 all0)
  exact ⟨_, _, rfl, N40, f47, sz43, G40_1⟩
def own_room1_100 : Room := { frames := 2, cells := 2, slots := 4, locals := 32 }
def own_Q1_100 (Z : State) (b : Addr) (bk : ClassId) (x0 : Int32) (x1 : Int32) (h0 : Heap) (n0 : Nat) (v : Option Value) (h : Heap) (L : List Loc) : Prop := ∃ (ra : Addr) (rk : ClassId), v = some (.ref ra) ∧ Fr n0 L ∧ Keep h0 h [] ∧ h0.size ≤ ra ∧ Arv Z h ra rk .int (0 : Int32) [] (.int (0 : Int32))
theorem own_ef_rm1_100 (m : MethodId) (x0 : Addr) : entryFrame m #[(.ref x0)] 5 = mkF m 0 #[.val (.ref x0), .unset, .unset, .unset, .unset] [] := by first | (simp [entryFrame, mkF, argsToLocals, Value.category]; done) | rfl
set_option maxRecDepth 65536 in
set_option maxHeartbeats 40000000 in
theorem own_rm1_100 (l : Launch) (Z : State) (a0 : Array Value) (hw : ∀ d ∈ tables_1, d.before a0 Z = true) (ws : List Jvm.Cond) (b : Addr) (bk : ClassId) (x0 : Int32) (x1 : Int32) (h0 : Heap) (n0 : Nat) (Z0 : n0 ≤ h0.size) (V0 : Arv Z h0 b bk .int (2 : Int32) [(.int x0), (.int x1)] (.int (0 : Int32))) (ha : ¬ (0 : Int32) < x0) (hl : (1114111 : Int32) < x1 + (1 : Int32)) :
    MetFree l (⟨"com/example/exacting_validator/exactingvalidator/pattern/CodePointSets", "complement", "([I)[I"⟩ : MethodName) (head1 (Jvm.Cond.code (⟨"com/example/exacting_validator/exactingvalidator/pattern/CodePointSets", "complement", "([I)[I"⟩ : MethodName) prog_3_method_3_code 5 (some (.array .int)) :: ws) own_room1_100) (fun zz U => zz = #[(.ref b)] ∧ Z.Warmed39 U.vm ∧ U.heap = h0) (fun _ _ _ _ _ => True) (fun _ U o U' => ∃ v L, o = .returned v ∧ own_Q1_100 Z b bk x0 x1 h0 n0 v U'.heap L ∧ FrameEnd U o U' L own_room1_100.cells own_room1_100.slots) := by
  refine MetFree.of_bodySF (plainFor_of_name own_pn1) hisR ?_
  intro p e s m args below meth c s₁ Bd hml0 hP hK
  obtain ⟨rfl, hZ, hh⟩ := hP
  have hx := Bd.exec
  have hby := Bd.bytes
  have hml : c.maxLocals = 5 := hml0
  have hown : s.vm.findClass "com/example/exacting_validator/exactingvalidator/pattern/CodePointSets" = some m.cls := findClass_of_methodNamed Bd.named
  have hnm := (name_of_methodNamed Bd.named Bd.method).1
  have hlk : meth.locks = false := BodyLoose.notSynchronized Bd
  have hret := Bd.returns
  have X0 : Stand p l e own_room1_100 s m #[(.ref b)] below meth c s₁ [] 0 0 := Stand.of_body Bd
  have e0 : s₁.heap = h0 := by rw [← hh, Bd.state]; rfl
  have N0 := Fr.nil n0
  show own_Ends p e below s (own_Q1_100 Z b bk x0 x1 h0 n0) own_room1_100.cells own_room1_100.slots s₁ (entryFrame m #[(.ref b)] 5)
  refine own_cast (own_ef_rm1_100 m b) ?_
  have K0 := Keep.refl h0 ([] : List Addr)
  refine own_aloadN (pc' := 1) X0 hx (hb hby own_d1_0) rfl rfl rfl ?_
  refine own_alen (pc' := 2) X0 hx hZ e0 V0 (hb hby own_d1_1) rfl ?_
  refine own_iconst (pc' := 3) (z := (2 : Int32)) X0 hx (hb hby own_d1_2) rfl rfl ?_
  refine own_iadd (pc' := 4) (z := (4 : Int32)) X0 hx (hb hby own_d1_3) rfl (by decide) ?_
  refine own_newarrE (pc' := 6) (aty := .int) X0 hx hZ (own_w2 hw) e0 (hb hby own_d1_4) rfl (by decide) 4 4 (by decide) (by decide) (by decide) (by decide) (ad := "[I") (by decide) ?_
  intro T31 h31 a31 k31 X31 e31 E31 g31 V31 Ex31
  replace V31 : Arv Z h31 a31 k31 .int (4 : Int32) [(.int (0 : Int32)), (.int (0 : Int32)), (.int (0 : Int32)), (.int (0 : Int32))] (.int (0 : Int32)) := V31
  have ge32 : n0 ≤ a31 := by rw [g31]; exact Z0
  have sz33 : h0.size ≤ a31 := by rw [g31]; exact K0.1
  have ne34 : b ≠ a31 := Nat.ne_of_lt (by rw [g31]; exact V0.lt)
  show own_Ends p e below s _ _ _ T31 (mkF m 6 #[.val (.ref b), .unset, .unset, .unset, .unset] [(.ref a31)])
  refine own_astoreN (pc' := 7) (l' := #[.val (.ref b), .val (.ref a31), .unset, .unset, .unset]) X31 hx (hb hby own_d1_6) rfl rfl rfl ?_
  refine own_iconst (pc' := 8) (z := (0 : Int32)) X31 hx (hb hby own_d1_7) rfl rfl ?_
  refine own_istoreN (pc' := 9) (l' := #[.val (.ref b), .val (.ref a31), .val (.int (0 : Int32)), .unset, .unset]) X31 hx (hb hby own_d1_8) rfl rfl ?_
  refine own_iconst (pc' := 10) (z := (0 : Int32)) X31 hx (hb hby own_d1_9) rfl rfl ?_
  refine own_istoreN (pc' := 11) (l' := #[.val (.ref b), .val (.ref a31), .val (.int (0 : Int32)), .val (.int (0 : Int32)), .unset]) X31 hx (hb hby own_d1_10) rfl rfl ?_
  refine own_iconst (pc' := 12) (z := (0 : Int32)) X31 hx (hb hby own_d1_11) rfl rfl ?_
  refine own_istore (pc' := 14) (l' := #[.val (.ref b), .val (.ref a31), .val (.int (0 : Int32)), .val (.int (0 : Int32)), .val (.int (0 : Int32))]) X31 hx (hb hby own_d1_12) rfl rfl ?_
  refine own_iload (pc' := 16) X31 hx (hb hby own_d1_14) rfl rfl ?_
  refine own_aloadN (pc' := 17) X31 hx (hb hby own_d1_16) rfl rfl rfl ?_
  have f35 := (V0.ext E31)
  refine own_alen (pc' := 18) X31 hx hZ e31 f35 (hb hby own_d1_17) rfl ?_
  refine own_icmpNo (pc' := 21) X31 hx (hb hby own_d1_18) rfl (tlt (by decide)).2.1 ?_
  refine own_aloadN (pc' := 22) X31 hx (hb hby own_d1_21) rfl rfl rfl ?_
  refine own_iload (pc' := 24) X31 hx (hb hby own_d1_22) rfl rfl ?_
  refine own_iaload (pc' := 25) X31 hx hZ e31 f35 (hb hby own_d1_24) rfl (by decide) rfl ?_
  refine own_iloadN (pc' := 26) X31 hx (hb hby own_d1_25) rfl rfl ?_
  refine own_icmpYes (pc' := 47) X31 hx (hb hby own_d1_26) (flt ha).2.2.2 (by decide) (by decide) ?_
  refine own_aloadN (pc' := 48) X31 hx (hb hby own_d1_47) rfl rfl rfl ?_
  refine own_iload (pc' := 50) X31 hx (hb hby own_d1_48) rfl rfl ?_
  refine own_iconst (pc' := 51) (z := (1 : Int32)) X31 hx (hb hby own_d1_50) rfl rfl ?_
  refine own_iadd (pc' := 52) (z := (1 : Int32)) X31 hx (hb hby own_d1_51) rfl (by decide) ?_
  refine own_iaload (pc' := 53) X31 hx hZ e31 f35 (hb hby own_d1_52) rfl (by decide) rfl ?_
  refine own_iconst (pc' := 54) (z := (1 : Int32)) X31 hx (hb hby own_d1_53) rfl rfl ?_
  refine own_iadd (pc' := 55) (z := (x1 + (1 : Int32))) X31 hx (hb hby own_d1_54) rfl rfl ?_
  refine own_istoreN (pc' := 56) (l' := #[.val (.ref b), .val (.ref a31), .val (.int (0 : Int32)), .val (.int (x1 + (1 : Int32))), .val (.int (0 : Int32))]) X31 hx (hb hby own_d1_55) rfl rfl ?_
  refine own_iinc (pc' := 59) (z := (2 : Int32)) (l' := #[.val (.ref b), .val (.ref a31), .val (.int (0 : Int32)), .val (.int (x1 + (1 : Int32))), .val (.int (2 : Int32))]) X31 hx (hb hby own_d1_56) rfl rfl (by decide) rfl ?_
  refine own_goto (pc' := 14) X31 hx (hb hby own_d1_59) (by decide) (by decide) ?_
  refine own_iload (pc' := 16) X31 hx (hb hby own_d1_14) rfl rfl ?_
  refine own_aloadN (pc' := 17) X31 hx (hb hby own_d1_16) rfl rfl rfl ?_
  refine own_alen (pc' := 18) X31 hx hZ e31 f35 (hb hby own_d1_17) rfl ?_
  refine own_icmpYes (pc' := 62) X31 hx (hb hby own_d1_18) (flt (by decide)).2.1 (by decide) (by decide) ?_
  refine own_iloadN (pc' := 63) X31 hx (hb hby own_d1_62) rfl rfl ?_
  refine own_ldcI (pc' := 65) X31 hx hZ hown (own_w8 hw) (hb hby own_d1_63) rfl ?_
  refine own_icmpYes (pc' := 82) X31 hx (hb hby own_d1_65) (tlt hl).2.2.1 (by decide) (by decide) ?_
  refine own_aloadN (pc' := 83) X31 hx (hb hby own_d1_82) rfl rfl rfl ?_
  refine own_iloadN (pc' := 84) X31 hx (hb hby own_d1_83) rfl rfl ?_
  have f36 := (Nat.le_trans Z0 E31.1)
  refine own_callS (pc' := 87) (y := (⟨"java/util/Arrays", "copyOf", "([II)[I"⟩ : MethodName)) (W := 0) (rm := own_room2_4_0) (argsL := [(.ref a31), (.int (0 : Int32))]) (rest := []) X31 hx hZ e31 hown (by rw [hml]; rfl) (own_w9 hw) (own_w10 hw) (own_w11 hw) (own_w12 hw) (by decide) (own_rm2_4_0 l Z a0 hw [] a31 k31 (0 : Int32) (0 : Int32) (0 : Int32) (0 : Int32) h31 n0 f36 V31 Ex31) (by decide) (by decide) (by decide) (by decide) (lenOf own_pd1 rfl) rfl (by exact Nat.le_of_eq rfl) (hb hby own_d1_84) rfl ?_
  intro T37 Lc37 v37 X37 hQ37
  obtain ⟨ra37, rk37, rfl, Nq37, Kq37, G37_0, G37_1⟩ := hQ37
  have N37 := Fr.app N0 Nq37
  have ge38 : n0 ≤ ra37 := Nat.le_trans f36 G37_0
  have f39 := (K0.ext E31)
  have sz40 : h0.size ≤ ra37 := Nat.le_trans f39.1 G37_0
  have ne41 : b ≠ ra37 := Nat.ne_of_lt (Nat.lt_of_lt_of_le f35.lt G37_0)
  have ne42 : a31 ≠ ra37 := Nat.ne_of_lt (Nat.lt_of_lt_of_le V31.lt G37_0)
  show own_Ends p e below s _ _ _ T37 (mkF m 87 #[.val (.ref b), .val (.ref a31), .val (.int (0 : Int32)), .val (.int (x1 + (1 : Int32))), .val (.int (2 : Int32))] [(.ref ra37)])
  refine own_retA X37 hx hlk hret rfl rfl rfl (hb hby own_d1_87) (by decide) (by decide) ?_
  have f43 := (f39.trans Kq37 all0)
  exact ⟨_, _, rfl, N37, f43, sz40, G37_1⟩
def own_room1_101 : Room := { frames := 2, cells := 2, slots := 6, locals := 32 }
def own_Q1_101 (Z : State) (b : Addr) (bk : ClassId) (x0 : Int32) (x1 : Int32) (h0 : Heap) (n0 : Nat) (v : Option Value) (h : Heap) (L : List Loc) : Prop := ∃ (ra : Addr) (rk : ClassId), v = some (.ref ra) ∧ Fr n0 L ∧ Keep h0 h [] ∧ h0.size ≤ ra ∧ Arv Z h ra rk .int (2 : Int32) [(.int (x1 + (1 : Int32))), (.int (1114111 : Int32))] (.int (0 : Int32))
theorem own_ef_rm1_101 (m : MethodId) (x0 : Addr) : entryFrame m #[(.ref x0)] 5 = mkF m 0 #[.val (.ref x0), .unset, .unset, .unset, .unset] [] := by first | (simp [entryFrame, mkF, argsToLocals, Value.category]; done) | rfl
set_option maxRecDepth 65536 in
set_option maxHeartbeats 40000000 in
theorem own_rm1_101 (l : Launch) (Z : State) (a0 : Array Value) (hw : ∀ d ∈ tables_1, d.before a0 Z = true) (ws : List Jvm.Cond) (b : Addr) (bk : ClassId) (x0 : Int32) (x1 : Int32) (h0 : Heap) (n0 : Nat) (Z0 : n0 ≤ h0.size) (V0 : Arv Z h0 b bk .int (2 : Int32) [(.int x0), (.int x1)] (.int (0 : Int32))) (ha : ¬ (0 : Int32) < x0) (hl : ¬ (1114111 : Int32) < x1 + (1 : Int32)) :
    MetFree l (⟨"com/example/exacting_validator/exactingvalidator/pattern/CodePointSets", "complement", "([I)[I"⟩ : MethodName) (head1 (Jvm.Cond.code (⟨"com/example/exacting_validator/exactingvalidator/pattern/CodePointSets", "complement", "([I)[I"⟩ : MethodName) prog_3_method_3_code 5 (some (.array .int)) :: ws) own_room1_101) (fun zz U => zz = #[(.ref b)] ∧ Z.Warmed39 U.vm ∧ U.heap = h0) (fun _ _ _ _ _ => True) (fun _ U o U' => ∃ v L, o = .returned v ∧ own_Q1_101 Z b bk x0 x1 h0 n0 v U'.heap L ∧ FrameEnd U o U' L own_room1_101.cells own_room1_101.slots) := by
  refine MetFree.of_bodySF (plainFor_of_name own_pn1) hisR ?_
  intro p e s m args below meth c s₁ Bd hml0 hP hK
  obtain ⟨rfl, hZ, hh⟩ := hP
  have hx := Bd.exec
  have hby := Bd.bytes
  have hml : c.maxLocals = 5 := hml0
  have hown : s.vm.findClass "com/example/exacting_validator/exactingvalidator/pattern/CodePointSets" = some m.cls := findClass_of_methodNamed Bd.named
  have hnm := (name_of_methodNamed Bd.named Bd.method).1
  have hlk : meth.locks = false := BodyLoose.notSynchronized Bd
  have hret := Bd.returns
  have X0 : Stand p l e own_room1_101 s m #[(.ref b)] below meth c s₁ [] 0 0 := Stand.of_body Bd
  have e0 : s₁.heap = h0 := by rw [← hh, Bd.state]; rfl
  have N0 := Fr.nil n0
  show own_Ends p e below s (own_Q1_101 Z b bk x0 x1 h0 n0) own_room1_101.cells own_room1_101.slots s₁ (entryFrame m #[(.ref b)] 5)
  refine own_cast (own_ef_rm1_101 m b) ?_
  have K0 := Keep.refl h0 ([] : List Addr)
  refine own_aloadN (pc' := 1) X0 hx (hb hby own_d1_0) rfl rfl rfl ?_
  refine own_alen (pc' := 2) X0 hx hZ e0 V0 (hb hby own_d1_1) rfl ?_
  refine own_iconst (pc' := 3) (z := (2 : Int32)) X0 hx (hb hby own_d1_2) rfl rfl ?_
  refine own_iadd (pc' := 4) (z := (4 : Int32)) X0 hx (hb hby own_d1_3) rfl (by decide) ?_
  refine own_newarrE (pc' := 6) (aty := .int) X0 hx hZ (own_w2 hw) e0 (hb hby own_d1_4) rfl (by decide) 4 4 (by decide) (by decide) (by decide) (by decide) (ad := "[I") (by decide) ?_
  intro T31 h31 a31 k31 X31 e31 E31 g31 V31 Ex31
  replace V31 : Arv Z h31 a31 k31 .int (4 : Int32) [(.int (0 : Int32)), (.int (0 : Int32)), (.int (0 : Int32)), (.int (0 : Int32))] (.int (0 : Int32)) := V31
  have ge32 : n0 ≤ a31 := by rw [g31]; exact Z0
  have sz33 : h0.size ≤ a31 := by rw [g31]; exact K0.1
  have ne34 : b ≠ a31 := Nat.ne_of_lt (by rw [g31]; exact V0.lt)
  show own_Ends p e below s _ _ _ T31 (mkF m 6 #[.val (.ref b), .unset, .unset, .unset, .unset] [(.ref a31)])
  refine own_astoreN (pc' := 7) (l' := #[.val (.ref b), .val (.ref a31), .unset, .unset, .unset]) X31 hx (hb hby own_d1_6) rfl rfl rfl ?_
  refine own_iconst (pc' := 8) (z := (0 : Int32)) X31 hx (hb hby own_d1_7) rfl rfl ?_
  refine own_istoreN (pc' := 9) (l' := #[.val (.ref b), .val (.ref a31), .val (.int (0 : Int32)), .unset, .unset]) X31 hx (hb hby own_d1_8) rfl rfl ?_
  refine own_iconst (pc' := 10) (z := (0 : Int32)) X31 hx (hb hby own_d1_9) rfl rfl ?_
  refine own_istoreN (pc' := 11) (l' := #[.val (.ref b), .val (.ref a31), .val (.int (0 : Int32)), .val (.int (0 : Int32)), .unset]) X31 hx (hb hby own_d1_10) rfl rfl ?_
  refine own_iconst (pc' := 12) (z := (0 : Int32)) X31 hx (hb hby own_d1_11) rfl rfl ?_
  refine own_istore (pc' := 14) (l' := #[.val (.ref b), .val (.ref a31), .val (.int (0 : Int32)), .val (.int (0 : Int32)), .val (.int (0 : Int32))]) X31 hx (hb hby own_d1_12) rfl rfl ?_
  refine own_iload (pc' := 16) X31 hx (hb hby own_d1_14) rfl rfl ?_
  refine own_aloadN (pc' := 17) X31 hx (hb hby own_d1_16) rfl rfl rfl ?_
  have f35 := (V0.ext E31)
  refine own_alen (pc' := 18) X31 hx hZ e31 f35 (hb hby own_d1_17) rfl ?_
  refine own_icmpNo (pc' := 21) X31 hx (hb hby own_d1_18) rfl (tlt (by decide)).2.1 ?_
  refine own_aloadN (pc' := 22) X31 hx (hb hby own_d1_21) rfl rfl rfl ?_
  refine own_iload (pc' := 24) X31 hx (hb hby own_d1_22) rfl rfl ?_
  refine own_iaload (pc' := 25) X31 hx hZ e31 f35 (hb hby own_d1_24) rfl (by decide) rfl ?_
  refine own_iloadN (pc' := 26) X31 hx (hb hby own_d1_25) rfl rfl ?_
  refine own_icmpYes (pc' := 47) X31 hx (hb hby own_d1_26) (flt ha).2.2.2 (by decide) (by decide) ?_
  refine own_aloadN (pc' := 48) X31 hx (hb hby own_d1_47) rfl rfl rfl ?_
  refine own_iload (pc' := 50) X31 hx (hb hby own_d1_48) rfl rfl ?_
  refine own_iconst (pc' := 51) (z := (1 : Int32)) X31 hx (hb hby own_d1_50) rfl rfl ?_
  refine own_iadd (pc' := 52) (z := (1 : Int32)) X31 hx (hb hby own_d1_51) rfl (by decide) ?_
  refine own_iaload (pc' := 53) X31 hx hZ e31 f35 (hb hby own_d1_52) rfl (by decide) rfl ?_
  refine own_iconst (pc' := 54) (z := (1 : Int32)) X31 hx (hb hby own_d1_53) rfl rfl ?_
  refine own_iadd (pc' := 55) (z := (x1 + (1 : Int32))) X31 hx (hb hby own_d1_54) rfl rfl ?_
  refine own_istoreN (pc' := 56) (l' := #[.val (.ref b), .val (.ref a31), .val (.int (0 : Int32)), .val (.int (x1 + (1 : Int32))), .val (.int (0 : Int32))]) X31 hx (hb hby own_d1_55) rfl rfl ?_
  refine own_iinc (pc' := 59) (z := (2 : Int32)) (l' := #[.val (.ref b), .val (.ref a31), .val (.int (0 : Int32)), .val (.int (x1 + (1 : Int32))), .val (.int (2 : Int32))]) X31 hx (hb hby own_d1_56) rfl rfl (by decide) rfl ?_
  refine own_goto (pc' := 14) X31 hx (hb hby own_d1_59) (by decide) (by decide) ?_
  refine own_iload (pc' := 16) X31 hx (hb hby own_d1_14) rfl rfl ?_
  refine own_aloadN (pc' := 17) X31 hx (hb hby own_d1_16) rfl rfl rfl ?_
  refine own_alen (pc' := 18) X31 hx hZ e31 f35 (hb hby own_d1_17) rfl ?_
  refine own_icmpYes (pc' := 62) X31 hx (hb hby own_d1_18) (flt (by decide)).2.1 (by decide) (by decide) ?_
  refine own_iloadN (pc' := 63) X31 hx (hb hby own_d1_62) rfl rfl ?_
  refine own_ldcI (pc' := 65) X31 hx hZ hown (own_w8 hw) (hb hby own_d1_63) rfl ?_
  refine own_icmpNo (pc' := 68) X31 hx (hb hby own_d1_65) rfl (flt hl).2.2.1 ?_
  refine own_aloadN (pc' := 69) X31 hx (hb hby own_d1_68) rfl rfl rfl ?_
  refine own_iloadN (pc' := 70) X31 hx (hb hby own_d1_69) rfl rfl ?_
  refine own_iloadN (pc' := 71) X31 hx (hb hby own_d1_70) rfl rfl ?_
  refine own_iastore (pc' := 72) X31 hx hZ e31 V31 (hb hby own_d1_71) rfl (by decide) 0 rfl (by simp) N0 ge32 ?_
  intro T36 h36 L36 X36 e36 N36 W36 V36
  replace V36 : Arv Z h36 a31 k31 .int (4 : Int32) [(.int (x1 + (1 : Int32))), (.int (0 : Int32)), (.int (0 : Int32)), (.int (0 : Int32))] (.int (0 : Int32)) := V36
  show own_Ends p e below s _ _ _ T36 (mkF m 72 #[.val (.ref b), .val (.ref a31), .val (.int (0 : Int32)), .val (.int (x1 + (1 : Int32))), .val (.int (2 : Int32))] [])
  refine own_aloadN (pc' := 73) X36 hx (hb hby own_d1_72) rfl rfl rfl ?_
  refine own_iloadN (pc' := 74) X36 hx (hb hby own_d1_73) rfl rfl ?_
  refine own_iconst (pc' := 75) (z := (1 : Int32)) X36 hx (hb hby own_d1_74) rfl rfl ?_
  refine own_iadd (pc' := 76) (z := (1 : Int32)) X36 hx (hb hby own_d1_75) rfl (by decide) ?_
  refine own_ldcI (pc' := 78) X36 hx hZ hown (own_w8 hw) (hb hby own_d1_76) rfl ?_
  refine own_iastore (pc' := 79) X36 hx hZ e36 V36 (hb hby own_d1_78) rfl (by decide) 1 rfl (by simp) N36 ge32 ?_
  intro T37 h37 L37 X37 e37 N37 W37 V37
  replace V37 : Arv Z h37 a31 k31 .int (4 : Int32) [(.int (x1 + (1 : Int32))), (.int (1114111 : Int32)), (.int (0 : Int32)), (.int (0 : Int32))] (.int (0 : Int32)) := V37
  show own_Ends p e below s _ _ _ T37 (mkF m 79 #[.val (.ref b), .val (.ref a31), .val (.int (0 : Int32)), .val (.int (x1 + (1 : Int32))), .val (.int (2 : Int32))] [])
  refine own_iinc (pc' := 82) (z := (2 : Int32)) (l' := #[.val (.ref b), .val (.ref a31), .val (.int (2 : Int32)), .val (.int (x1 + (1 : Int32))), .val (.int (2 : Int32))]) X37 hx (hb hby own_d1_79) rfl rfl (by decide) rfl ?_
  refine own_aloadN (pc' := 83) X37 hx (hb hby own_d1_82) rfl rfl rfl ?_
  refine own_iloadN (pc' := 84) X37 hx (hb hby own_d1_83) rfl rfl ?_
  have f38 := ((Ex31.wr W36).wr W37)
  have f39 := (Nat.le_trans (Nat.le_trans (Nat.le_trans Z0 E31.1) (Keep.of_wr W36).1) (Keep.of_wr W37).1)
  refine own_callS (pc' := 87) (y := (⟨"java/util/Arrays", "copyOf", "([II)[I"⟩ : MethodName)) (W := 0) (rm := own_room2_4_2) (argsL := [(.ref a31), (.int (2 : Int32))]) (rest := []) X37 hx hZ e37 hown (by rw [hml]; rfl) (own_w9 hw) (own_w10 hw) (own_w11 hw) (own_w12 hw) (by decide) (own_rm2_4_2 l Z a0 hw [] a31 k31 (x1 + (1 : Int32)) (1114111 : Int32) (0 : Int32) (0 : Int32) h37 n0 f39 V37 f38) (by decide) (by decide) (by decide) (by decide) (lenOf own_pd1 rfl) rfl (by exact Nat.le_of_eq rfl) (hb hby own_d1_84) rfl ?_
  intro T40 Lc40 v40 X40 hQ40
  obtain ⟨ra40, rk40, rfl, Nq40, Kq40, G40_0, G40_1⟩ := hQ40
  have N40 := Fr.app N37 Nq40
  have ge41 : n0 ≤ ra40 := Nat.le_trans f39 G40_0
  have f42 := (((K0.ext E31).wr W36 (Or.inr sz33)).wr W37 (Or.inr sz33))
  have sz43 : h0.size ≤ ra40 := Nat.le_trans f42.1 G40_0
  have f44 := ((f35.other W36 ne34).other W37 ne34)
  have ne45 : b ≠ ra40 := Nat.ne_of_lt (Nat.lt_of_lt_of_le f44.lt G40_0)
  have ne46 : a31 ≠ ra40 := Nat.ne_of_lt (Nat.lt_of_lt_of_le V37.lt G40_0)
  show own_Ends p e below s _ _ _ T40 (mkF m 87 #[.val (.ref b), .val (.ref a31), .val (.int (2 : Int32)), .val (.int (x1 + (1 : Int32))), .val (.int (2 : Int32))] [(.ref ra40)])
  refine own_retA X40 hx hlk hret rfl rfl rfl (hb hby own_d1_87) (by decide) (by decide) ?_
  have f47 := (f42.trans Kq40 all0)
  exact ⟨_, _, rfl, N40, f47, sz43, G40_1⟩
def own_room1_110 : Room := { frames := 2, cells := 2, slots := 6, locals := 32 }
def own_Q1_110 (Z : State) (b : Addr) (bk : ClassId) (x0 : Int32) (x1 : Int32) (h0 : Heap) (n0 : Nat) (v : Option Value) (h : Heap) (L : List Loc) : Prop := ∃ (ra : Addr) (rk : ClassId), v = some (.ref ra) ∧ Fr n0 L ∧ Keep h0 h [] ∧ h0.size ≤ ra ∧ Arv Z h ra rk .int (2 : Int32) [(.int (0 : Int32)), (.int (x0 - (1 : Int32)))] (.int (0 : Int32))
theorem own_ef_rm1_110 (m : MethodId) (x0 : Addr) : entryFrame m #[(.ref x0)] 5 = mkF m 0 #[.val (.ref x0), .unset, .unset, .unset, .unset] [] := by first | (simp [entryFrame, mkF, argsToLocals, Value.category]; done) | rfl
set_option maxRecDepth 65536 in
set_option maxHeartbeats 40000000 in
theorem own_rm1_110 (l : Launch) (Z : State) (a0 : Array Value) (hw : ∀ d ∈ tables_1, d.before a0 Z = true) (ws : List Jvm.Cond) (b : Addr) (bk : ClassId) (x0 : Int32) (x1 : Int32) (h0 : Heap) (n0 : Nat) (Z0 : n0 ≤ h0.size) (V0 : Arv Z h0 b bk .int (2 : Int32) [(.int x0), (.int x1)] (.int (0 : Int32))) (ha : (0 : Int32) < x0) (hl : (1114111 : Int32) < x1 + (1 : Int32)) :
    MetFree l (⟨"com/example/exacting_validator/exactingvalidator/pattern/CodePointSets", "complement", "([I)[I"⟩ : MethodName) (head1 (Jvm.Cond.code (⟨"com/example/exacting_validator/exactingvalidator/pattern/CodePointSets", "complement", "([I)[I"⟩ : MethodName) prog_3_method_3_code 5 (some (.array .int)) :: ws) own_room1_110) (fun zz U => zz = #[(.ref b)] ∧ Z.Warmed39 U.vm ∧ U.heap = h0) (fun _ _ _ _ _ => True) (fun _ U o U' => ∃ v L, o = .returned v ∧ own_Q1_110 Z b bk x0 x1 h0 n0 v U'.heap L ∧ FrameEnd U o U' L own_room1_110.cells own_room1_110.slots) := by
  refine MetFree.of_bodySF (plainFor_of_name own_pn1) hisR ?_
  intro p e s m args below meth c s₁ Bd hml0 hP hK
  obtain ⟨rfl, hZ, hh⟩ := hP
  have hx := Bd.exec
  have hby := Bd.bytes
  have hml : c.maxLocals = 5 := hml0
  have hown : s.vm.findClass "com/example/exacting_validator/exactingvalidator/pattern/CodePointSets" = some m.cls := findClass_of_methodNamed Bd.named
  have hnm := (name_of_methodNamed Bd.named Bd.method).1
  have hlk : meth.locks = false := BodyLoose.notSynchronized Bd
  have hret := Bd.returns
  have X0 : Stand p l e own_room1_110 s m #[(.ref b)] below meth c s₁ [] 0 0 := Stand.of_body Bd
  have e0 : s₁.heap = h0 := by rw [← hh, Bd.state]; rfl
  have N0 := Fr.nil n0
  show own_Ends p e below s (own_Q1_110 Z b bk x0 x1 h0 n0) own_room1_110.cells own_room1_110.slots s₁ (entryFrame m #[(.ref b)] 5)
  refine own_cast (own_ef_rm1_110 m b) ?_
  have K0 := Keep.refl h0 ([] : List Addr)
  refine own_aloadN (pc' := 1) X0 hx (hb hby own_d1_0) rfl rfl rfl ?_
  refine own_alen (pc' := 2) X0 hx hZ e0 V0 (hb hby own_d1_1) rfl ?_
  refine own_iconst (pc' := 3) (z := (2 : Int32)) X0 hx (hb hby own_d1_2) rfl rfl ?_
  refine own_iadd (pc' := 4) (z := (4 : Int32)) X0 hx (hb hby own_d1_3) rfl (by decide) ?_
  refine own_newarrE (pc' := 6) (aty := .int) X0 hx hZ (own_w2 hw) e0 (hb hby own_d1_4) rfl (by decide) 4 4 (by decide) (by decide) (by decide) (by decide) (ad := "[I") (by decide) ?_
  intro T31 h31 a31 k31 X31 e31 E31 g31 V31 Ex31
  replace V31 : Arv Z h31 a31 k31 .int (4 : Int32) [(.int (0 : Int32)), (.int (0 : Int32)), (.int (0 : Int32)), (.int (0 : Int32))] (.int (0 : Int32)) := V31
  have ge32 : n0 ≤ a31 := by rw [g31]; exact Z0
  have sz33 : h0.size ≤ a31 := by rw [g31]; exact K0.1
  have ne34 : b ≠ a31 := Nat.ne_of_lt (by rw [g31]; exact V0.lt)
  show own_Ends p e below s _ _ _ T31 (mkF m 6 #[.val (.ref b), .unset, .unset, .unset, .unset] [(.ref a31)])
  refine own_astoreN (pc' := 7) (l' := #[.val (.ref b), .val (.ref a31), .unset, .unset, .unset]) X31 hx (hb hby own_d1_6) rfl rfl rfl ?_
  refine own_iconst (pc' := 8) (z := (0 : Int32)) X31 hx (hb hby own_d1_7) rfl rfl ?_
  refine own_istoreN (pc' := 9) (l' := #[.val (.ref b), .val (.ref a31), .val (.int (0 : Int32)), .unset, .unset]) X31 hx (hb hby own_d1_8) rfl rfl ?_
  refine own_iconst (pc' := 10) (z := (0 : Int32)) X31 hx (hb hby own_d1_9) rfl rfl ?_
  refine own_istoreN (pc' := 11) (l' := #[.val (.ref b), .val (.ref a31), .val (.int (0 : Int32)), .val (.int (0 : Int32)), .unset]) X31 hx (hb hby own_d1_10) rfl rfl ?_
  refine own_iconst (pc' := 12) (z := (0 : Int32)) X31 hx (hb hby own_d1_11) rfl rfl ?_
  refine own_istore (pc' := 14) (l' := #[.val (.ref b), .val (.ref a31), .val (.int (0 : Int32)), .val (.int (0 : Int32)), .val (.int (0 : Int32))]) X31 hx (hb hby own_d1_12) rfl rfl ?_
  refine own_iload (pc' := 16) X31 hx (hb hby own_d1_14) rfl rfl ?_
  refine own_aloadN (pc' := 17) X31 hx (hb hby own_d1_16) rfl rfl rfl ?_
  have f35 := (V0.ext E31)
  refine own_alen (pc' := 18) X31 hx hZ e31 f35 (hb hby own_d1_17) rfl ?_
  refine own_icmpNo (pc' := 21) X31 hx (hb hby own_d1_18) rfl (tlt (by decide)).2.1 ?_
  refine own_aloadN (pc' := 22) X31 hx (hb hby own_d1_21) rfl rfl rfl ?_
  refine own_iload (pc' := 24) X31 hx (hb hby own_d1_22) rfl rfl ?_
  refine own_iaload (pc' := 25) X31 hx hZ e31 f35 (hb hby own_d1_24) rfl (by decide) rfl ?_
  refine own_iloadN (pc' := 26) X31 hx (hb hby own_d1_25) rfl rfl ?_
  refine own_icmpNo (pc' := 29) X31 hx (hb hby own_d1_26) rfl (tlt ha).2.2.2 ?_
  refine own_aloadN (pc' := 30) X31 hx (hb hby own_d1_29) rfl rfl rfl ?_
  refine own_iloadN (pc' := 31) X31 hx (hb hby own_d1_30) rfl rfl ?_
  refine own_iloadN (pc' := 32) X31 hx (hb hby own_d1_31) rfl rfl ?_
  refine own_iastore (pc' := 33) X31 hx hZ e31 V31 (hb hby own_d1_32) rfl (by decide) 0 rfl (by simp) N0 ge32 ?_
  intro T36 h36 L36 X36 e36 N36 W36 V36
  replace V36 : Arv Z h36 a31 k31 .int (4 : Int32) [(.int (0 : Int32)), (.int (0 : Int32)), (.int (0 : Int32)), (.int (0 : Int32))] (.int (0 : Int32)) := V36
  show own_Ends p e below s _ _ _ T36 (mkF m 33 #[.val (.ref b), .val (.ref a31), .val (.int (0 : Int32)), .val (.int (0 : Int32)), .val (.int (0 : Int32))] [])
  refine own_aloadN (pc' := 34) X36 hx (hb hby own_d1_33) rfl rfl rfl ?_
  refine own_iloadN (pc' := 35) X36 hx (hb hby own_d1_34) rfl rfl ?_
  refine own_iconst (pc' := 36) (z := (1 : Int32)) X36 hx (hb hby own_d1_35) rfl rfl ?_
  refine own_iadd (pc' := 37) (z := (1 : Int32)) X36 hx (hb hby own_d1_36) rfl (by decide) ?_
  refine own_aloadN (pc' := 38) X36 hx (hb hby own_d1_37) rfl rfl rfl ?_
  refine own_iload (pc' := 40) X36 hx (hb hby own_d1_38) rfl rfl ?_
  have f37 := (f35.other W36 ne34)
  refine own_iaload (pc' := 41) X36 hx hZ e36 f37 (hb hby own_d1_40) rfl (by decide) rfl ?_
  refine own_iconst (pc' := 42) (z := (1 : Int32)) X36 hx (hb hby own_d1_41) rfl rfl ?_
  refine own_isub (pc' := 43) (z := (x0 - (1 : Int32))) X36 hx (hb hby own_d1_42) rfl rfl ?_
  refine own_iastore (pc' := 44) X36 hx hZ e36 V36 (hb hby own_d1_43) rfl (by decide) 1 rfl (by simp) N36 ge32 ?_
  intro T38 h38 L38 X38 e38 N38 W38 V38
  replace V38 : Arv Z h38 a31 k31 .int (4 : Int32) [(.int (0 : Int32)), (.int (x0 - (1 : Int32))), (.int (0 : Int32)), (.int (0 : Int32))] (.int (0 : Int32)) := V38
  show own_Ends p e below s _ _ _ T38 (mkF m 44 #[.val (.ref b), .val (.ref a31), .val (.int (0 : Int32)), .val (.int (0 : Int32)), .val (.int (0 : Int32))] [])
  refine own_iinc (pc' := 47) (z := (2 : Int32)) (l' := #[.val (.ref b), .val (.ref a31), .val (.int (2 : Int32)), .val (.int (0 : Int32)), .val (.int (0 : Int32))]) X38 hx (hb hby own_d1_44) rfl rfl (by decide) rfl ?_
  refine own_aloadN (pc' := 48) X38 hx (hb hby own_d1_47) rfl rfl rfl ?_
  refine own_iload (pc' := 50) X38 hx (hb hby own_d1_48) rfl rfl ?_
  refine own_iconst (pc' := 51) (z := (1 : Int32)) X38 hx (hb hby own_d1_50) rfl rfl ?_
  refine own_iadd (pc' := 52) (z := (1 : Int32)) X38 hx (hb hby own_d1_51) rfl (by decide) ?_
  have f39 := (f37.other W38 ne34)
  refine own_iaload (pc' := 53) X38 hx hZ e38 f39 (hb hby own_d1_52) rfl (by decide) rfl ?_
  refine own_iconst (pc' := 54) (z := (1 : Int32)) X38 hx (hb hby own_d1_53) rfl rfl ?_
  refine own_iadd (pc' := 55) (z := (x1 + (1 : Int32))) X38 hx (hb hby own_d1_54) rfl rfl ?_
  refine own_istoreN (pc' := 56) (l' := #[.val (.ref b), .val (.ref a31), .val (.int (2 : Int32)), .val (.int (x1 + (1 : Int32))), .val (.int (0 : Int32))]) X38 hx (hb hby own_d1_55) rfl rfl ?_
  refine own_iinc (pc' := 59) (z := (2 : Int32)) (l' := #[.val (.ref b), .val (.ref a31), .val (.int (2 : Int32)), .val (.int (x1 + (1 : Int32))), .val (.int (2 : Int32))]) X38 hx (hb hby own_d1_56) rfl rfl (by decide) rfl ?_
  refine own_goto (pc' := 14) X38 hx (hb hby own_d1_59) (by decide) (by decide) ?_
  refine own_iload (pc' := 16) X38 hx (hb hby own_d1_14) rfl rfl ?_
  refine own_aloadN (pc' := 17) X38 hx (hb hby own_d1_16) rfl rfl rfl ?_
  refine own_alen (pc' := 18) X38 hx hZ e38 f39 (hb hby own_d1_17) rfl ?_
  refine own_icmpYes (pc' := 62) X38 hx (hb hby own_d1_18) (flt (by decide)).2.1 (by decide) (by decide) ?_
  refine own_iloadN (pc' := 63) X38 hx (hb hby own_d1_62) rfl rfl ?_
  refine own_ldcI (pc' := 65) X38 hx hZ hown (own_w8 hw) (hb hby own_d1_63) rfl ?_
  refine own_icmpYes (pc' := 82) X38 hx (hb hby own_d1_65) (tlt hl).2.2.1 (by decide) (by decide) ?_
  refine own_aloadN (pc' := 83) X38 hx (hb hby own_d1_82) rfl rfl rfl ?_
  refine own_iloadN (pc' := 84) X38 hx (hb hby own_d1_83) rfl rfl ?_
  have f40 := ((Ex31.wr W36).wr W38)
  have f41 := (Nat.le_trans (Nat.le_trans (Nat.le_trans Z0 E31.1) (Keep.of_wr W36).1) (Keep.of_wr W38).1)
  refine own_callS (pc' := 87) (y := (⟨"java/util/Arrays", "copyOf", "([II)[I"⟩ : MethodName)) (W := 0) (rm := own_room2_4_2) (argsL := [(.ref a31), (.int (2 : Int32))]) (rest := []) X38 hx hZ e38 hown (by rw [hml]; rfl) (own_w9 hw) (own_w10 hw) (own_w11 hw) (own_w12 hw) (by decide) (own_rm2_4_2 l Z a0 hw [] a31 k31 (0 : Int32) (x0 - (1 : Int32)) (0 : Int32) (0 : Int32) h38 n0 f41 V38 f40) (by decide) (by decide) (by decide) (by decide) (lenOf own_pd1 rfl) rfl (by exact Nat.le_of_eq rfl) (hb hby own_d1_84) rfl ?_
  intro T42 Lc42 v42 X42 hQ42
  obtain ⟨ra42, rk42, rfl, Nq42, Kq42, G42_0, G42_1⟩ := hQ42
  have N42 := Fr.app N38 Nq42
  have ge43 : n0 ≤ ra42 := Nat.le_trans f41 G42_0
  have f44 := (((K0.ext E31).wr W36 (Or.inr sz33)).wr W38 (Or.inr sz33))
  have sz45 : h0.size ≤ ra42 := Nat.le_trans f44.1 G42_0
  have ne46 : b ≠ ra42 := Nat.ne_of_lt (Nat.lt_of_lt_of_le f39.lt G42_0)
  have ne47 : a31 ≠ ra42 := Nat.ne_of_lt (Nat.lt_of_lt_of_le V38.lt G42_0)
  show own_Ends p e below s _ _ _ T42 (mkF m 87 #[.val (.ref b), .val (.ref a31), .val (.int (2 : Int32)), .val (.int (x1 + (1 : Int32))), .val (.int (2 : Int32))] [(.ref ra42)])
  refine own_retA X42 hx hlk hret rfl rfl rfl (hb hby own_d1_87) (by decide) (by decide) ?_
  have f48 := (f44.trans Kq42 all0)
  exact ⟨_, _, rfl, N42, f48, sz45, G42_1⟩
def own_room1_111 : Room := { frames := 2, cells := 2, slots := 8, locals := 28 }
def own_Q1_111 (Z : State) (b : Addr) (bk : ClassId) (x0 : Int32) (x1 : Int32) (h0 : Heap) (n0 : Nat) (v : Option Value) (h : Heap) (L : List Loc) : Prop := ∃ (ra : Addr) (rk : ClassId), v = some (.ref ra) ∧ Fr n0 L ∧ Keep h0 h [] ∧ h0.size ≤ ra ∧ Arv Z h ra rk .int (4 : Int32) [(.int (0 : Int32)), (.int (x0 - (1 : Int32))), (.int (x1 + (1 : Int32))), (.int (1114111 : Int32))] (.int (0 : Int32))
theorem own_ef_rm1_111 (m : MethodId) (x0 : Addr) : entryFrame m #[(.ref x0)] 5 = mkF m 0 #[.val (.ref x0), .unset, .unset, .unset, .unset] [] := by first | (simp [entryFrame, mkF, argsToLocals, Value.category]; done) | rfl
set_option maxRecDepth 65536 in
set_option maxHeartbeats 40000000 in
theorem own_rm1_111 (l : Launch) (Z : State) (a0 : Array Value) (hw : ∀ d ∈ tables_1, d.before a0 Z = true) (ws : List Jvm.Cond) (b : Addr) (bk : ClassId) (x0 : Int32) (x1 : Int32) (h0 : Heap) (n0 : Nat) (Z0 : n0 ≤ h0.size) (V0 : Arv Z h0 b bk .int (2 : Int32) [(.int x0), (.int x1)] (.int (0 : Int32))) (ha : (0 : Int32) < x0) (hl : ¬ (1114111 : Int32) < x1 + (1 : Int32)) :
    MetFree l (⟨"com/example/exacting_validator/exactingvalidator/pattern/CodePointSets", "complement", "([I)[I"⟩ : MethodName) (head1 (Jvm.Cond.code (⟨"com/example/exacting_validator/exactingvalidator/pattern/CodePointSets", "complement", "([I)[I"⟩ : MethodName) prog_3_method_3_code 5 (some (.array .int)) :: ws) own_room1_111) (fun zz U => zz = #[(.ref b)] ∧ Z.Warmed39 U.vm ∧ U.heap = h0) (fun _ _ _ _ _ => True) (fun _ U o U' => ∃ v L, o = .returned v ∧ own_Q1_111 Z b bk x0 x1 h0 n0 v U'.heap L ∧ FrameEnd U o U' L own_room1_111.cells own_room1_111.slots) := by
  refine MetFree.of_bodySF (plainFor_of_name own_pn1) hisR ?_
  intro p e s m args below meth c s₁ Bd hml0 hP hK
  obtain ⟨rfl, hZ, hh⟩ := hP
  have hx := Bd.exec
  have hby := Bd.bytes
  have hml : c.maxLocals = 5 := hml0
  have hown : s.vm.findClass "com/example/exacting_validator/exactingvalidator/pattern/CodePointSets" = some m.cls := findClass_of_methodNamed Bd.named
  have hnm := (name_of_methodNamed Bd.named Bd.method).1
  have hlk : meth.locks = false := BodyLoose.notSynchronized Bd
  have hret := Bd.returns
  have X0 : Stand p l e own_room1_111 s m #[(.ref b)] below meth c s₁ [] 0 0 := Stand.of_body Bd
  have e0 : s₁.heap = h0 := by rw [← hh, Bd.state]; rfl
  have N0 := Fr.nil n0
  show own_Ends p e below s (own_Q1_111 Z b bk x0 x1 h0 n0) own_room1_111.cells own_room1_111.slots s₁ (entryFrame m #[(.ref b)] 5)
  refine own_cast (own_ef_rm1_111 m b) ?_
  have K0 := Keep.refl h0 ([] : List Addr)
  refine own_aloadN (pc' := 1) X0 hx (hb hby own_d1_0) rfl rfl rfl ?_
  refine own_alen (pc' := 2) X0 hx hZ e0 V0 (hb hby own_d1_1) rfl ?_
  refine own_iconst (pc' := 3) (z := (2 : Int32)) X0 hx (hb hby own_d1_2) rfl rfl ?_
  refine own_iadd (pc' := 4) (z := (4 : Int32)) X0 hx (hb hby own_d1_3) rfl (by decide) ?_
  refine own_newarrE (pc' := 6) (aty := .int) X0 hx hZ (own_w2 hw) e0 (hb hby own_d1_4) rfl (by decide) 4 4 (by decide) (by decide) (by decide) (by decide) (ad := "[I") (by decide) ?_
  intro T31 h31 a31 k31 X31 e31 E31 g31 V31 Ex31
  replace V31 : Arv Z h31 a31 k31 .int (4 : Int32) [(.int (0 : Int32)), (.int (0 : Int32)), (.int (0 : Int32)), (.int (0 : Int32))] (.int (0 : Int32)) := V31
  have ge32 : n0 ≤ a31 := by rw [g31]; exact Z0
  have sz33 : h0.size ≤ a31 := by rw [g31]; exact K0.1
  have ne34 : b ≠ a31 := Nat.ne_of_lt (by rw [g31]; exact V0.lt)
  show own_Ends p e below s _ _ _ T31 (mkF m 6 #[.val (.ref b), .unset, .unset, .unset, .unset] [(.ref a31)])
  refine own_astoreN (pc' := 7) (l' := #[.val (.ref b), .val (.ref a31), .unset, .unset, .unset]) X31 hx (hb hby own_d1_6) rfl rfl rfl ?_
  refine own_iconst (pc' := 8) (z := (0 : Int32)) X31 hx (hb hby own_d1_7) rfl rfl ?_
  refine own_istoreN (pc' := 9) (l' := #[.val (.ref b), .val (.ref a31), .val (.int (0 : Int32)), .unset, .unset]) X31 hx (hb hby own_d1_8) rfl rfl ?_
  refine own_iconst (pc' := 10) (z := (0 : Int32)) X31 hx (hb hby own_d1_9) rfl rfl ?_
  refine own_istoreN (pc' := 11) (l' := #[.val (.ref b), .val (.ref a31), .val (.int (0 : Int32)), .val (.int (0 : Int32)), .unset]) X31 hx (hb hby own_d1_10) rfl rfl ?_
  refine own_iconst (pc' := 12) (z := (0 : Int32)) X31 hx (hb hby own_d1_11) rfl rfl ?_
  refine own_istore (pc' := 14) (l' := #[.val (.ref b), .val (.ref a31), .val (.int (0 : Int32)), .val (.int (0 : Int32)), .val (.int (0 : Int32))]) X31 hx (hb hby own_d1_12) rfl rfl ?_
  refine own_iload (pc' := 16) X31 hx (hb hby own_d1_14) rfl rfl ?_
  refine own_aloadN (pc' := 17) X31 hx (hb hby own_d1_16) rfl rfl rfl ?_
  have f35 := (V0.ext E31)
  refine own_alen (pc' := 18) X31 hx hZ e31 f35 (hb hby own_d1_17) rfl ?_
  refine own_icmpNo (pc' := 21) X31 hx (hb hby own_d1_18) rfl (tlt (by decide)).2.1 ?_
  refine own_aloadN (pc' := 22) X31 hx (hb hby own_d1_21) rfl rfl rfl ?_
  refine own_iload (pc' := 24) X31 hx (hb hby own_d1_22) rfl rfl ?_
  refine own_iaload (pc' := 25) X31 hx hZ e31 f35 (hb hby own_d1_24) rfl (by decide) rfl ?_
  refine own_iloadN (pc' := 26) X31 hx (hb hby own_d1_25) rfl rfl ?_
  refine own_icmpNo (pc' := 29) X31 hx (hb hby own_d1_26) rfl (tlt ha).2.2.2 ?_
  refine own_aloadN (pc' := 30) X31 hx (hb hby own_d1_29) rfl rfl rfl ?_
  refine own_iloadN (pc' := 31) X31 hx (hb hby own_d1_30) rfl rfl ?_
  refine own_iloadN (pc' := 32) X31 hx (hb hby own_d1_31) rfl rfl ?_
  refine own_iastore (pc' := 33) X31 hx hZ e31 V31 (hb hby own_d1_32) rfl (by decide) 0 rfl (by simp) N0 ge32 ?_
  intro T36 h36 L36 X36 e36 N36 W36 V36
  replace V36 : Arv Z h36 a31 k31 .int (4 : Int32) [(.int (0 : Int32)), (.int (0 : Int32)), (.int (0 : Int32)), (.int (0 : Int32))] (.int (0 : Int32)) := V36
  show own_Ends p e below s _ _ _ T36 (mkF m 33 #[.val (.ref b), .val (.ref a31), .val (.int (0 : Int32)), .val (.int (0 : Int32)), .val (.int (0 : Int32))] [])
  refine own_aloadN (pc' := 34) X36 hx (hb hby own_d1_33) rfl rfl rfl ?_
  refine own_iloadN (pc' := 35) X36 hx (hb hby own_d1_34) rfl rfl ?_
  refine own_iconst (pc' := 36) (z := (1 : Int32)) X36 hx (hb hby own_d1_35) rfl rfl ?_
  refine own_iadd (pc' := 37) (z := (1 : Int32)) X36 hx (hb hby own_d1_36) rfl (by decide) ?_
  refine own_aloadN (pc' := 38) X36 hx (hb hby own_d1_37) rfl rfl rfl ?_
  refine own_iload (pc' := 40) X36 hx (hb hby own_d1_38) rfl rfl ?_
  have f37 := (f35.other W36 ne34)
  refine own_iaload (pc' := 41) X36 hx hZ e36 f37 (hb hby own_d1_40) rfl (by decide) rfl ?_
  refine own_iconst (pc' := 42) (z := (1 : Int32)) X36 hx (hb hby own_d1_41) rfl rfl ?_
  refine own_isub (pc' := 43) (z := (x0 - (1 : Int32))) X36 hx (hb hby own_d1_42) rfl rfl ?_
  refine own_iastore (pc' := 44) X36 hx hZ e36 V36 (hb hby own_d1_43) rfl (by decide) 1 rfl (by simp) N36 ge32 ?_
  intro T38 h38 L38 X38 e38 N38 W38 V38
  replace V38 : Arv Z h38 a31 k31 .int (4 : Int32) [(.int (0 : Int32)), (.int (x0 - (1 : Int32))), (.int (0 : Int32)), (.int (0 : Int32))] (.int (0 : Int32)) := V38
  show own_Ends p e below s _ _ _ T38 (mkF m 44 #[.val (.ref b), .val (.ref a31), .val (.int (0 : Int32)), .val (.int (0 : Int32)), .val (.int (0 : Int32))] [])
  refine own_iinc (pc' := 47) (z := (2 : Int32)) (l' := #[.val (.ref b), .val (.ref a31), .val (.int (2 : Int32)), .val (.int (0 : Int32)), .val (.int (0 : Int32))]) X38 hx (hb hby own_d1_44) rfl rfl (by decide) rfl ?_
  refine own_aloadN (pc' := 48) X38 hx (hb hby own_d1_47) rfl rfl rfl ?_
  refine own_iload (pc' := 50) X38 hx (hb hby own_d1_48) rfl rfl ?_
  refine own_iconst (pc' := 51) (z := (1 : Int32)) X38 hx (hb hby own_d1_50) rfl rfl ?_
  refine own_iadd (pc' := 52) (z := (1 : Int32)) X38 hx (hb hby own_d1_51) rfl (by decide) ?_
  have f39 := (f37.other W38 ne34)
  refine own_iaload (pc' := 53) X38 hx hZ e38 f39 (hb hby own_d1_52) rfl (by decide) rfl ?_
  refine own_iconst (pc' := 54) (z := (1 : Int32)) X38 hx (hb hby own_d1_53) rfl rfl ?_
  refine own_iadd (pc' := 55) (z := (x1 + (1 : Int32))) X38 hx (hb hby own_d1_54) rfl rfl ?_
  refine own_istoreN (pc' := 56) (l' := #[.val (.ref b), .val (.ref a31), .val (.int (2 : Int32)), .val (.int (x1 + (1 : Int32))), .val (.int (0 : Int32))]) X38 hx (hb hby own_d1_55) rfl rfl ?_
  refine own_iinc (pc' := 59) (z := (2 : Int32)) (l' := #[.val (.ref b), .val (.ref a31), .val (.int (2 : Int32)), .val (.int (x1 + (1 : Int32))), .val (.int (2 : Int32))]) X38 hx (hb hby own_d1_56) rfl rfl (by decide) rfl ?_
  refine own_goto (pc' := 14) X38 hx (hb hby own_d1_59) (by decide) (by decide) ?_
  refine own_iload (pc' := 16) X38 hx (hb hby own_d1_14) rfl rfl ?_
  refine own_aloadN (pc' := 17) X38 hx (hb hby own_d1_16) rfl rfl rfl ?_
  refine own_alen (pc' := 18) X38 hx hZ e38 f39 (hb hby own_d1_17) rfl ?_
  refine own_icmpYes (pc' := 62) X38 hx (hb hby own_d1_18) (flt (by decide)).2.1 (by decide) (by decide) ?_
  refine own_iloadN (pc' := 63) X38 hx (hb hby own_d1_62) rfl rfl ?_
  refine own_ldcI (pc' := 65) X38 hx hZ hown (own_w8 hw) (hb hby own_d1_63) rfl ?_
  refine own_icmpNo (pc' := 68) X38 hx (hb hby own_d1_65) rfl (flt hl).2.2.1 ?_
  refine own_aloadN (pc' := 69) X38 hx (hb hby own_d1_68) rfl rfl rfl ?_
  refine own_iloadN (pc' := 70) X38 hx (hb hby own_d1_69) rfl rfl ?_
  refine own_iloadN (pc' := 71) X38 hx (hb hby own_d1_70) rfl rfl ?_
  refine own_iastore (pc' := 72) X38 hx hZ e38 V38 (hb hby own_d1_71) rfl (by decide) 2 rfl (by simp) N38 ge32 ?_
  intro T40 h40 L40 X40 e40 N40 W40 V40
  replace V40 : Arv Z h40 a31 k31 .int (4 : Int32) [(.int (0 : Int32)), (.int (x0 - (1 : Int32))), (.int (x1 + (1 : Int32))), (.int (0 : Int32))] (.int (0 : Int32)) := V40
  show own_Ends p e below s _ _ _ T40 (mkF m 72 #[.val (.ref b), .val (.ref a31), .val (.int (2 : Int32)), .val (.int (x1 + (1 : Int32))), .val (.int (2 : Int32))] [])
  refine own_aloadN (pc' := 73) X40 hx (hb hby own_d1_72) rfl rfl rfl ?_
  refine own_iloadN (pc' := 74) X40 hx (hb hby own_d1_73) rfl rfl ?_
  refine own_iconst (pc' := 75) (z := (1 : Int32)) X40 hx (hb hby own_d1_74) rfl rfl ?_
  refine own_iadd (pc' := 76) (z := (3 : Int32)) X40 hx (hb hby own_d1_75) rfl (by decide) ?_
  refine own_ldcI (pc' := 78) X40 hx hZ hown (own_w8 hw) (hb hby own_d1_76) rfl ?_
  refine own_iastore (pc' := 79) X40 hx hZ e40 V40 (hb hby own_d1_78) rfl (by decide) 3 rfl (by simp) N40 ge32 ?_
  intro T41 h41 L41 X41 e41 N41 W41 V41
  replace V41 : Arv Z h41 a31 k31 .int (4 : Int32) [(.int (0 : Int32)), (.int (x0 - (1 : Int32))), (.int (x1 + (1 : Int32))), (.int (1114111 : Int32))] (.int (0 : Int32)) := V41
  show own_Ends p e below s _ _ _ T41 (mkF m 79 #[.val (.ref b), .val (.ref a31), .val (.int (2 : Int32)), .val (.int (x1 + (1 : Int32))), .val (.int (2 : Int32))] [])
  refine own_iinc (pc' := 82) (z := (4 : Int32)) (l' := #[.val (.ref b), .val (.ref a31), .val (.int (4 : Int32)), .val (.int (x1 + (1 : Int32))), .val (.int (2 : Int32))]) X41 hx (hb hby own_d1_79) rfl rfl (by decide) rfl ?_
  refine own_aloadN (pc' := 83) X41 hx (hb hby own_d1_82) rfl rfl rfl ?_
  refine own_iloadN (pc' := 84) X41 hx (hb hby own_d1_83) rfl rfl ?_
  have f42 := ((((Ex31.wr W36).wr W38).wr W40).wr W41)
  have f43 := (Nat.le_trans (Nat.le_trans (Nat.le_trans (Nat.le_trans (Nat.le_trans Z0 E31.1) (Keep.of_wr W36).1) (Keep.of_wr W38).1) (Keep.of_wr W40).1) (Keep.of_wr W41).1)
  refine own_callS (pc' := 87) (y := (⟨"java/util/Arrays", "copyOf", "([II)[I"⟩ : MethodName)) (W := 0) (rm := own_room2_4_4) (argsL := [(.ref a31), (.int (4 : Int32))]) (rest := []) X41 hx hZ e41 hown (by rw [hml]; rfl) (own_w9 hw) (own_w10 hw) (own_w11 hw) (own_w12 hw) (by decide) (own_rm2_4_4 l Z a0 hw [] a31 k31 (0 : Int32) (x0 - (1 : Int32)) (x1 + (1 : Int32)) (1114111 : Int32) h41 n0 f43 V41 f42) (by decide) (by decide) (by decide) (by decide) (lenOf own_pd1 rfl) rfl (by exact Nat.le_of_eq rfl) (hb hby own_d1_84) rfl ?_
  intro T44 Lc44 v44 X44 hQ44
  obtain ⟨ra44, rk44, rfl, Nq44, Kq44, G44_0, G44_1⟩ := hQ44
  have N44 := Fr.app N41 Nq44
  have ge45 : n0 ≤ ra44 := Nat.le_trans f43 G44_0
  have f46 := (((((K0.ext E31).wr W36 (Or.inr sz33)).wr W38 (Or.inr sz33)).wr W40 (Or.inr sz33)).wr W41 (Or.inr sz33))
  have sz47 : h0.size ≤ ra44 := Nat.le_trans f46.1 G44_0
  have f48 := ((f39.other W40 ne34).other W41 ne34)
  have ne49 : b ≠ ra44 := Nat.ne_of_lt (Nat.lt_of_lt_of_le f48.lt G44_0)
  have ne50 : a31 ≠ ra44 := Nat.ne_of_lt (Nat.lt_of_lt_of_le V41.lt G44_0)
  show own_Ends p e below s _ _ _ T44 (mkF m 87 #[.val (.ref b), .val (.ref a31), .val (.int (4 : Int32)), .val (.int (x1 + (1 : Int32))), .val (.int (2 : Int32))] [(.ref ra44)])
  refine own_retA X44 hx hlk hret rfl rfl rfl (hb hby own_d1_87) (by decide) (by decide) ?_
  have f51 := (f46.trans Kq44 all0)
  exact ⟨_, _, rfl, N44, f51, sz47, G44_1⟩
def own_room1_200 : Room := { frames := 2, cells := 2, slots := 8, locals := 32 }
def own_Q1_200 (Z : State) (b : Addr) (bk : ClassId) (x0 : Int32) (x1 : Int32) (x2 : Int32) (x3 : Int32) (h0 : Heap) (n0 : Nat) (v : Option Value) (h : Heap) (L : List Loc) : Prop := ∃ (ra : Addr) (rk : ClassId), v = some (.ref ra) ∧ Fr n0 L ∧ Keep h0 h [] ∧ h0.size ≤ ra ∧ Arv Z h ra rk .int (2 : Int32) [(.int (x1 + (1 : Int32))), (.int (x2 - (1 : Int32)))] (.int (0 : Int32))
theorem own_ef_rm1_200 (m : MethodId) (x0 : Addr) : entryFrame m #[(.ref x0)] 5 = mkF m 0 #[.val (.ref x0), .unset, .unset, .unset, .unset] [] := by first | (simp [entryFrame, mkF, argsToLocals, Value.category]; done) | rfl
set_option maxRecDepth 65536 in
set_option maxHeartbeats 40000000 in
theorem own_rm1_200 (l : Launch) (Z : State) (a0 : Array Value) (hw : ∀ d ∈ tables_1, d.before a0 Z = true) (ws : List Jvm.Cond) (b : Addr) (bk : ClassId) (x0 : Int32) (x1 : Int32) (x2 : Int32) (x3 : Int32) (h0 : Heap) (n0 : Nat) (Z0 : n0 ≤ h0.size) (V0 : Arv Z h0 b bk .int (4 : Int32) [(.int x0), (.int x1), (.int x2), (.int x3)] (.int (0 : Int32))) (ha : ¬ (0 : Int32) < x0) (hl : (1114111 : Int32) < x3 + (1 : Int32)) (hm : x1 + (1 : Int32) < x2) :
    MetFree l (⟨"com/example/exacting_validator/exactingvalidator/pattern/CodePointSets", "complement", "([I)[I"⟩ : MethodName) (head1 (Jvm.Cond.code (⟨"com/example/exacting_validator/exactingvalidator/pattern/CodePointSets", "complement", "([I)[I"⟩ : MethodName) prog_3_method_3_code 5 (some (.array .int)) :: ws) own_room1_200) (fun zz U => zz = #[(.ref b)] ∧ Z.Warmed39 U.vm ∧ U.heap = h0) (fun _ _ _ _ _ => True) (fun _ U o U' => ∃ v L, o = .returned v ∧ own_Q1_200 Z b bk x0 x1 x2 x3 h0 n0 v U'.heap L ∧ FrameEnd U o U' L own_room1_200.cells own_room1_200.slots) := by
  refine MetFree.of_bodySF (plainFor_of_name own_pn1) hisR ?_
  intro p e s m args below meth c s₁ Bd hml0 hP hK
  obtain ⟨rfl, hZ, hh⟩ := hP
  have hx := Bd.exec
  have hby := Bd.bytes
  have hml : c.maxLocals = 5 := hml0
  have hown : s.vm.findClass "com/example/exacting_validator/exactingvalidator/pattern/CodePointSets" = some m.cls := findClass_of_methodNamed Bd.named
  have hnm := (name_of_methodNamed Bd.named Bd.method).1
  have hlk : meth.locks = false := BodyLoose.notSynchronized Bd
  have hret := Bd.returns
  have X0 : Stand p l e own_room1_200 s m #[(.ref b)] below meth c s₁ [] 0 0 := Stand.of_body Bd
  have e0 : s₁.heap = h0 := by rw [← hh, Bd.state]; rfl
  have N0 := Fr.nil n0
  show own_Ends p e below s (own_Q1_200 Z b bk x0 x1 x2 x3 h0 n0) own_room1_200.cells own_room1_200.slots s₁ (entryFrame m #[(.ref b)] 5)
  refine own_cast (own_ef_rm1_200 m b) ?_
  have K0 := Keep.refl h0 ([] : List Addr)
  refine own_aloadN (pc' := 1) X0 hx (hb hby own_d1_0) rfl rfl rfl ?_
  refine own_alen (pc' := 2) X0 hx hZ e0 V0 (hb hby own_d1_1) rfl ?_
  refine own_iconst (pc' := 3) (z := (2 : Int32)) X0 hx (hb hby own_d1_2) rfl rfl ?_
  refine own_iadd (pc' := 4) (z := (6 : Int32)) X0 hx (hb hby own_d1_3) rfl (by decide) ?_
  refine own_newarrE (pc' := 6) (aty := .int) X0 hx hZ (own_w2 hw) e0 (hb hby own_d1_4) rfl (by decide) 6 6 (by decide) (by decide) (by decide) (by decide) (ad := "[I") (by decide) ?_
  intro T31 h31 a31 k31 X31 e31 E31 g31 V31 Ex31
  replace V31 : Arv Z h31 a31 k31 .int (6 : Int32) [(.int (0 : Int32)), (.int (0 : Int32)), (.int (0 : Int32)), (.int (0 : Int32)), (.int (0 : Int32)), (.int (0 : Int32))] (.int (0 : Int32)) := V31
  have ge32 : n0 ≤ a31 := by rw [g31]; exact Z0
  have sz33 : h0.size ≤ a31 := by rw [g31]; exact K0.1
  have ne34 : b ≠ a31 := Nat.ne_of_lt (by rw [g31]; exact V0.lt)
  show own_Ends p e below s _ _ _ T31 (mkF m 6 #[.val (.ref b), .unset, .unset, .unset, .unset] [(.ref a31)])
  refine own_astoreN (pc' := 7) (l' := #[.val (.ref b), .val (.ref a31), .unset, .unset, .unset]) X31 hx (hb hby own_d1_6) rfl rfl rfl ?_
  refine own_iconst (pc' := 8) (z := (0 : Int32)) X31 hx (hb hby own_d1_7) rfl rfl ?_
  refine own_istoreN (pc' := 9) (l' := #[.val (.ref b), .val (.ref a31), .val (.int (0 : Int32)), .unset, .unset]) X31 hx (hb hby own_d1_8) rfl rfl ?_
  refine own_iconst (pc' := 10) (z := (0 : Int32)) X31 hx (hb hby own_d1_9) rfl rfl ?_
  refine own_istoreN (pc' := 11) (l' := #[.val (.ref b), .val (.ref a31), .val (.int (0 : Int32)), .val (.int (0 : Int32)), .unset]) X31 hx (hb hby own_d1_10) rfl rfl ?_
  refine own_iconst (pc' := 12) (z := (0 : Int32)) X31 hx (hb hby own_d1_11) rfl rfl ?_
  refine own_istore (pc' := 14) (l' := #[.val (.ref b), .val (.ref a31), .val (.int (0 : Int32)), .val (.int (0 : Int32)), .val (.int (0 : Int32))]) X31 hx (hb hby own_d1_12) rfl rfl ?_
  refine own_iload (pc' := 16) X31 hx (hb hby own_d1_14) rfl rfl ?_
  refine own_aloadN (pc' := 17) X31 hx (hb hby own_d1_16) rfl rfl rfl ?_
  have f35 := (V0.ext E31)
  refine own_alen (pc' := 18) X31 hx hZ e31 f35 (hb hby own_d1_17) rfl ?_
  refine own_icmpNo (pc' := 21) X31 hx (hb hby own_d1_18) rfl (tlt (by decide)).2.1 ?_
  refine own_aloadN (pc' := 22) X31 hx (hb hby own_d1_21) rfl rfl rfl ?_
  refine own_iload (pc' := 24) X31 hx (hb hby own_d1_22) rfl rfl ?_
  refine own_iaload (pc' := 25) X31 hx hZ e31 f35 (hb hby own_d1_24) rfl (by decide) rfl ?_
  refine own_iloadN (pc' := 26) X31 hx (hb hby own_d1_25) rfl rfl ?_
  refine own_icmpYes (pc' := 47) X31 hx (hb hby own_d1_26) (flt ha).2.2.2 (by decide) (by decide) ?_
  refine own_aloadN (pc' := 48) X31 hx (hb hby own_d1_47) rfl rfl rfl ?_
  refine own_iload (pc' := 50) X31 hx (hb hby own_d1_48) rfl rfl ?_
  refine own_iconst (pc' := 51) (z := (1 : Int32)) X31 hx (hb hby own_d1_50) rfl rfl ?_
  refine own_iadd (pc' := 52) (z := (1 : Int32)) X31 hx (hb hby own_d1_51) rfl (by decide) ?_
  refine own_iaload (pc' := 53) X31 hx hZ e31 f35 (hb hby own_d1_52) rfl (by decide) rfl ?_
  refine own_iconst (pc' := 54) (z := (1 : Int32)) X31 hx (hb hby own_d1_53) rfl rfl ?_
  refine own_iadd (pc' := 55) (z := (x1 + (1 : Int32))) X31 hx (hb hby own_d1_54) rfl rfl ?_
  refine own_istoreN (pc' := 56) (l' := #[.val (.ref b), .val (.ref a31), .val (.int (0 : Int32)), .val (.int (x1 + (1 : Int32))), .val (.int (0 : Int32))]) X31 hx (hb hby own_d1_55) rfl rfl ?_
  refine own_iinc (pc' := 59) (z := (2 : Int32)) (l' := #[.val (.ref b), .val (.ref a31), .val (.int (0 : Int32)), .val (.int (x1 + (1 : Int32))), .val (.int (2 : Int32))]) X31 hx (hb hby own_d1_56) rfl rfl (by decide) rfl ?_
  refine own_goto (pc' := 14) X31 hx (hb hby own_d1_59) (by decide) (by decide) ?_
  refine own_iload (pc' := 16) X31 hx (hb hby own_d1_14) rfl rfl ?_
  refine own_aloadN (pc' := 17) X31 hx (hb hby own_d1_16) rfl rfl rfl ?_
  refine own_alen (pc' := 18) X31 hx hZ e31 f35 (hb hby own_d1_17) rfl ?_
  refine own_icmpNo (pc' := 21) X31 hx (hb hby own_d1_18) rfl (tlt (by decide)).2.1 ?_
  refine own_aloadN (pc' := 22) X31 hx (hb hby own_d1_21) rfl rfl rfl ?_
  refine own_iload (pc' := 24) X31 hx (hb hby own_d1_22) rfl rfl ?_
  refine own_iaload (pc' := 25) X31 hx hZ e31 f35 (hb hby own_d1_24) rfl (by decide) rfl ?_
  refine own_iloadN (pc' := 26) X31 hx (hb hby own_d1_25) rfl rfl ?_
  refine own_icmpNo (pc' := 29) X31 hx (hb hby own_d1_26) rfl (tlt hm).2.2.2 ?_
  refine own_aloadN (pc' := 30) X31 hx (hb hby own_d1_29) rfl rfl rfl ?_
  refine own_iloadN (pc' := 31) X31 hx (hb hby own_d1_30) rfl rfl ?_
  refine own_iloadN (pc' := 32) X31 hx (hb hby own_d1_31) rfl rfl ?_
  refine own_iastore (pc' := 33) X31 hx hZ e31 V31 (hb hby own_d1_32) rfl (by decide) 0 rfl (by simp) N0 ge32 ?_
  intro T36 h36 L36 X36 e36 N36 W36 V36
  replace V36 : Arv Z h36 a31 k31 .int (6 : Int32) [(.int (x1 + (1 : Int32))), (.int (0 : Int32)), (.int (0 : Int32)), (.int (0 : Int32)), (.int (0 : Int32)), (.int (0 : Int32))] (.int (0 : Int32)) := V36
  show own_Ends p e below s _ _ _ T36 (mkF m 33 #[.val (.ref b), .val (.ref a31), .val (.int (0 : Int32)), .val (.int (x1 + (1 : Int32))), .val (.int (2 : Int32))] [])
  refine own_aloadN (pc' := 34) X36 hx (hb hby own_d1_33) rfl rfl rfl ?_
  refine own_iloadN (pc' := 35) X36 hx (hb hby own_d1_34) rfl rfl ?_
  refine own_iconst (pc' := 36) (z := (1 : Int32)) X36 hx (hb hby own_d1_35) rfl rfl ?_
  refine own_iadd (pc' := 37) (z := (1 : Int32)) X36 hx (hb hby own_d1_36) rfl (by decide) ?_
  refine own_aloadN (pc' := 38) X36 hx (hb hby own_d1_37) rfl rfl rfl ?_
  refine own_iload (pc' := 40) X36 hx (hb hby own_d1_38) rfl rfl ?_
  have f37 := (f35.other W36 ne34)
  refine own_iaload (pc' := 41) X36 hx hZ e36 f37 (hb hby own_d1_40) rfl (by decide) rfl ?_
  refine own_iconst (pc' := 42) (z := (1 : Int32)) X36 hx (hb hby own_d1_41) rfl rfl ?_
  refine own_isub (pc' := 43) (z := (x2 - (1 : Int32))) X36 hx (hb hby own_d1_42) rfl rfl ?_
  refine own_iastore (pc' := 44) X36 hx hZ e36 V36 (hb hby own_d1_43) rfl (by decide) 1 rfl (by simp) N36 ge32 ?_
  intro T38 h38 L38 X38 e38 N38 W38 V38
  replace V38 : Arv Z h38 a31 k31 .int (6 : Int32) [(.int (x1 + (1 : Int32))), (.int (x2 - (1 : Int32))), (.int (0 : Int32)), (.int (0 : Int32)), (.int (0 : Int32)), (.int (0 : Int32))] (.int (0 : Int32)) := V38
  show own_Ends p e below s _ _ _ T38 (mkF m 44 #[.val (.ref b), .val (.ref a31), .val (.int (0 : Int32)), .val (.int (x1 + (1 : Int32))), .val (.int (2 : Int32))] [])
  refine own_iinc (pc' := 47) (z := (2 : Int32)) (l' := #[.val (.ref b), .val (.ref a31), .val (.int (2 : Int32)), .val (.int (x1 + (1 : Int32))), .val (.int (2 : Int32))]) X38 hx (hb hby own_d1_44) rfl rfl (by decide) rfl ?_
  refine own_aloadN (pc' := 48) X38 hx (hb hby own_d1_47) rfl rfl rfl ?_
  refine own_iload (pc' := 50) X38 hx (hb hby own_d1_48) rfl rfl ?_
  refine own_iconst (pc' := 51) (z := (1 : Int32)) X38 hx (hb hby own_d1_50) rfl rfl ?_
  refine own_iadd (pc' := 52) (z := (3 : Int32)) X38 hx (hb hby own_d1_51) rfl (by decide) ?_
  have f39 := (f37.other W38 ne34)
  refine own_iaload (pc' := 53) X38 hx hZ e38 f39 (hb hby own_d1_52) rfl (by decide) rfl ?_
  refine own_iconst (pc' := 54) (z := (1 : Int32)) X38 hx (hb hby own_d1_53) rfl rfl ?_
  refine own_iadd (pc' := 55) (z := (x3 + (1 : Int32))) X38 hx (hb hby own_d1_54) rfl rfl ?_
  refine own_istoreN (pc' := 56) (l' := #[.val (.ref b), .val (.ref a31), .val (.int (2 : Int32)), .val (.int (x3 + (1 : Int32))), .val (.int (2 : Int32))]) X38 hx (hb hby own_d1_55) rfl rfl ?_
  refine own_iinc (pc' := 59) (z := (4 : Int32)) (l' := #[.val (.ref b), .val (.ref a31), .val (.int (2 : Int32)), .val (.int (x3 + (1 : Int32))), .val (.int (4 : Int32))]) X38 hx (hb hby own_d1_56) rfl rfl (by decide) rfl ?_
  refine own_goto (pc' := 14) X38 hx (hb hby own_d1_59) (by decide) (by decide) ?_
  refine own_iload (pc' := 16) X38 hx (hb hby own_d1_14) rfl rfl ?_
  refine own_aloadN (pc' := 17) X38 hx (hb hby own_d1_16) rfl rfl rfl ?_
  refine own_alen (pc' := 18) X38 hx hZ e38 f39 (hb hby own_d1_17) rfl ?_
  refine own_icmpYes (pc' := 62) X38 hx (hb hby own_d1_18) (flt (by decide)).2.1 (by decide) (by decide) ?_
  refine own_iloadN (pc' := 63) X38 hx (hb hby own_d1_62) rfl rfl ?_
  refine own_ldcI (pc' := 65) X38 hx hZ hown (own_w8 hw) (hb hby own_d1_63) rfl ?_
  refine own_icmpYes (pc' := 82) X38 hx (hb hby own_d1_65) (tlt hl).2.2.1 (by decide) (by decide) ?_
  refine own_aloadN (pc' := 83) X38 hx (hb hby own_d1_82) rfl rfl rfl ?_
  refine own_iloadN (pc' := 84) X38 hx (hb hby own_d1_83) rfl rfl ?_
  have f40 := ((Ex31.wr W36).wr W38)
  have f41 := (Nat.le_trans (Nat.le_trans (Nat.le_trans Z0 E31.1) (Keep.of_wr W36).1) (Keep.of_wr W38).1)
  refine own_callS (pc' := 87) (y := (⟨"java/util/Arrays", "copyOf", "([II)[I"⟩ : MethodName)) (W := 0) (rm := own_room2_6_2) (argsL := [(.ref a31), (.int (2 : Int32))]) (rest := []) X38 hx hZ e38 hown (by rw [hml]; rfl) (own_w9 hw) (own_w10 hw) (own_w11 hw) (own_w12 hw) (by decide) (own_rm2_6_2 l Z a0 hw [] a31 k31 (x1 + (1 : Int32)) (x2 - (1 : Int32)) (0 : Int32) (0 : Int32) (0 : Int32) (0 : Int32) h38 n0 f41 V38 f40) (by decide) (by decide) (by decide) (by decide) (lenOf own_pd1 rfl) rfl (by exact Nat.le_of_eq rfl) (hb hby own_d1_84) rfl ?_
  intro T42 Lc42 v42 X42 hQ42
  obtain ⟨ra42, rk42, rfl, Nq42, Kq42, G42_0, G42_1⟩ := hQ42
  have N42 := Fr.app N38 Nq42
  have ge43 : n0 ≤ ra42 := Nat.le_trans f41 G42_0
  have f44 := (((K0.ext E31).wr W36 (Or.inr sz33)).wr W38 (Or.inr sz33))
  have sz45 : h0.size ≤ ra42 := Nat.le_trans f44.1 G42_0
  have ne46 : b ≠ ra42 := Nat.ne_of_lt (Nat.lt_of_lt_of_le f39.lt G42_0)
  have ne47 : a31 ≠ ra42 := Nat.ne_of_lt (Nat.lt_of_lt_of_le V38.lt G42_0)
  show own_Ends p e below s _ _ _ T42 (mkF m 87 #[.val (.ref b), .val (.ref a31), .val (.int (2 : Int32)), .val (.int (x3 + (1 : Int32))), .val (.int (4 : Int32))] [(.ref ra42)])
  refine own_retA X42 hx hlk hret rfl rfl rfl (hb hby own_d1_87) (by decide) (by decide) ?_
  have f48 := (f44.trans Kq42 all0)
  exact ⟨_, _, rfl, N42, f48, sz45, G42_1⟩
def own_room1_201 : Room := { frames := 2, cells := 2, slots := 10, locals := 32 }
def own_Q1_201 (Z : State) (b : Addr) (bk : ClassId) (x0 : Int32) (x1 : Int32) (x2 : Int32) (x3 : Int32) (h0 : Heap) (n0 : Nat) (v : Option Value) (h : Heap) (L : List Loc) : Prop := ∃ (ra : Addr) (rk : ClassId), v = some (.ref ra) ∧ Fr n0 L ∧ Keep h0 h [] ∧ h0.size ≤ ra ∧ Arv Z h ra rk .int (4 : Int32) [(.int (x1 + (1 : Int32))), (.int (x2 - (1 : Int32))), (.int (x3 + (1 : Int32))), (.int (1114111 : Int32))] (.int (0 : Int32))
theorem own_ef_rm1_201 (m : MethodId) (x0 : Addr) : entryFrame m #[(.ref x0)] 5 = mkF m 0 #[.val (.ref x0), .unset, .unset, .unset, .unset] [] := by first | (simp [entryFrame, mkF, argsToLocals, Value.category]; done) | rfl
set_option maxRecDepth 65536 in
set_option maxHeartbeats 40000000 in
theorem own_rm1_201 (l : Launch) (Z : State) (a0 : Array Value) (hw : ∀ d ∈ tables_1, d.before a0 Z = true) (ws : List Jvm.Cond) (b : Addr) (bk : ClassId) (x0 : Int32) (x1 : Int32) (x2 : Int32) (x3 : Int32) (h0 : Heap) (n0 : Nat) (Z0 : n0 ≤ h0.size) (V0 : Arv Z h0 b bk .int (4 : Int32) [(.int x0), (.int x1), (.int x2), (.int x3)] (.int (0 : Int32))) (ha : ¬ (0 : Int32) < x0) (hl : ¬ (1114111 : Int32) < x3 + (1 : Int32)) (hm : x1 + (1 : Int32) < x2) :
    MetFree l (⟨"com/example/exacting_validator/exactingvalidator/pattern/CodePointSets", "complement", "([I)[I"⟩ : MethodName) (head1 (Jvm.Cond.code (⟨"com/example/exacting_validator/exactingvalidator/pattern/CodePointSets", "complement", "([I)[I"⟩ : MethodName) prog_3_method_3_code 5 (some (.array .int)) :: ws) own_room1_201) (fun zz U => zz = #[(.ref b)] ∧ Z.Warmed39 U.vm ∧ U.heap = h0) (fun _ _ _ _ _ => True) (fun _ U o U' => ∃ v L, o = .returned v ∧ own_Q1_201 Z b bk x0 x1 x2 x3 h0 n0 v U'.heap L ∧ FrameEnd U o U' L own_room1_201.cells own_room1_201.slots) := by
  refine MetFree.of_bodySF (plainFor_of_name own_pn1) hisR ?_
  intro p e s m args below meth c s₁ Bd hml0 hP hK
  obtain ⟨rfl, hZ, hh⟩ := hP
  have hx := Bd.exec
  have hby := Bd.bytes
  have hml : c.maxLocals = 5 := hml0
  have hown : s.vm.findClass "com/example/exacting_validator/exactingvalidator/pattern/CodePointSets" = some m.cls := findClass_of_methodNamed Bd.named
  have hnm := (name_of_methodNamed Bd.named Bd.method).1
  have hlk : meth.locks = false := BodyLoose.notSynchronized Bd
  have hret := Bd.returns
  have X0 : Stand p l e own_room1_201 s m #[(.ref b)] below meth c s₁ [] 0 0 := Stand.of_body Bd
  have e0 : s₁.heap = h0 := by rw [← hh, Bd.state]; rfl
  have N0 := Fr.nil n0
  show own_Ends p e below s (own_Q1_201 Z b bk x0 x1 x2 x3 h0 n0) own_room1_201.cells own_room1_201.slots s₁ (entryFrame m #[(.ref b)] 5)
  refine own_cast (own_ef_rm1_201 m b) ?_
  have K0 := Keep.refl h0 ([] : List Addr)
  refine own_aloadN (pc' := 1) X0 hx (hb hby own_d1_0) rfl rfl rfl ?_
  refine own_alen (pc' := 2) X0 hx hZ e0 V0 (hb hby own_d1_1) rfl ?_
  refine own_iconst (pc' := 3) (z := (2 : Int32)) X0 hx (hb hby own_d1_2) rfl rfl ?_
  refine own_iadd (pc' := 4) (z := (6 : Int32)) X0 hx (hb hby own_d1_3) rfl (by decide) ?_
  refine own_newarrE (pc' := 6) (aty := .int) X0 hx hZ (own_w2 hw) e0 (hb hby own_d1_4) rfl (by decide) 6 6 (by decide) (by decide) (by decide) (by decide) (ad := "[I") (by decide) ?_
  intro T31 h31 a31 k31 X31 e31 E31 g31 V31 Ex31
  replace V31 : Arv Z h31 a31 k31 .int (6 : Int32) [(.int (0 : Int32)), (.int (0 : Int32)), (.int (0 : Int32)), (.int (0 : Int32)), (.int (0 : Int32)), (.int (0 : Int32))] (.int (0 : Int32)) := V31
  have ge32 : n0 ≤ a31 := by rw [g31]; exact Z0
  have sz33 : h0.size ≤ a31 := by rw [g31]; exact K0.1
  have ne34 : b ≠ a31 := Nat.ne_of_lt (by rw [g31]; exact V0.lt)
  show own_Ends p e below s _ _ _ T31 (mkF m 6 #[.val (.ref b), .unset, .unset, .unset, .unset] [(.ref a31)])
  refine own_astoreN (pc' := 7) (l' := #[.val (.ref b), .val (.ref a31), .unset, .unset, .unset]) X31 hx (hb hby own_d1_6) rfl rfl rfl ?_
  refine own_iconst (pc' := 8) (z := (0 : Int32)) X31 hx (hb hby own_d1_7) rfl rfl ?_
  refine own_istoreN (pc' := 9) (l' := #[.val (.ref b), .val (.ref a31), .val (.int (0 : Int32)), .unset, .unset]) X31 hx (hb hby own_d1_8) rfl rfl ?_
  refine own_iconst (pc' := 10) (z := (0 : Int32)) X31 hx (hb hby own_d1_9) rfl rfl ?_
  refine own_istoreN (pc' := 11) (l' := #[.val (.ref b), .val (.ref a31), .val (.int (0 : Int32)), .val (.int (0 : Int32)), .unset]) X31 hx (hb hby own_d1_10) rfl rfl ?_
  refine own_iconst (pc' := 12) (z := (0 : Int32)) X31 hx (hb hby own_d1_11) rfl rfl ?_
  refine own_istore (pc' := 14) (l' := #[.val (.ref b), .val (.ref a31), .val (.int (0 : Int32)), .val (.int (0 : Int32)), .val (.int (0 : Int32))]) X31 hx (hb hby own_d1_12) rfl rfl ?_
  refine own_iload (pc' := 16) X31 hx (hb hby own_d1_14) rfl rfl ?_
  refine own_aloadN (pc' := 17) X31 hx (hb hby own_d1_16) rfl rfl rfl ?_
  have f35 := (V0.ext E31)
  refine own_alen (pc' := 18) X31 hx hZ e31 f35 (hb hby own_d1_17) rfl ?_
  refine own_icmpNo (pc' := 21) X31 hx (hb hby own_d1_18) rfl (tlt (by decide)).2.1 ?_
  refine own_aloadN (pc' := 22) X31 hx (hb hby own_d1_21) rfl rfl rfl ?_
  refine own_iload (pc' := 24) X31 hx (hb hby own_d1_22) rfl rfl ?_
  refine own_iaload (pc' := 25) X31 hx hZ e31 f35 (hb hby own_d1_24) rfl (by decide) rfl ?_
  refine own_iloadN (pc' := 26) X31 hx (hb hby own_d1_25) rfl rfl ?_
  refine own_icmpYes (pc' := 47) X31 hx (hb hby own_d1_26) (flt ha).2.2.2 (by decide) (by decide) ?_
  refine own_aloadN (pc' := 48) X31 hx (hb hby own_d1_47) rfl rfl rfl ?_
  refine own_iload (pc' := 50) X31 hx (hb hby own_d1_48) rfl rfl ?_
  refine own_iconst (pc' := 51) (z := (1 : Int32)) X31 hx (hb hby own_d1_50) rfl rfl ?_
  refine own_iadd (pc' := 52) (z := (1 : Int32)) X31 hx (hb hby own_d1_51) rfl (by decide) ?_
  refine own_iaload (pc' := 53) X31 hx hZ e31 f35 (hb hby own_d1_52) rfl (by decide) rfl ?_
  refine own_iconst (pc' := 54) (z := (1 : Int32)) X31 hx (hb hby own_d1_53) rfl rfl ?_
  refine own_iadd (pc' := 55) (z := (x1 + (1 : Int32))) X31 hx (hb hby own_d1_54) rfl rfl ?_
  refine own_istoreN (pc' := 56) (l' := #[.val (.ref b), .val (.ref a31), .val (.int (0 : Int32)), .val (.int (x1 + (1 : Int32))), .val (.int (0 : Int32))]) X31 hx (hb hby own_d1_55) rfl rfl ?_
  refine own_iinc (pc' := 59) (z := (2 : Int32)) (l' := #[.val (.ref b), .val (.ref a31), .val (.int (0 : Int32)), .val (.int (x1 + (1 : Int32))), .val (.int (2 : Int32))]) X31 hx (hb hby own_d1_56) rfl rfl (by decide) rfl ?_
  refine own_goto (pc' := 14) X31 hx (hb hby own_d1_59) (by decide) (by decide) ?_
  refine own_iload (pc' := 16) X31 hx (hb hby own_d1_14) rfl rfl ?_
  refine own_aloadN (pc' := 17) X31 hx (hb hby own_d1_16) rfl rfl rfl ?_
  refine own_alen (pc' := 18) X31 hx hZ e31 f35 (hb hby own_d1_17) rfl ?_
  refine own_icmpNo (pc' := 21) X31 hx (hb hby own_d1_18) rfl (tlt (by decide)).2.1 ?_
  refine own_aloadN (pc' := 22) X31 hx (hb hby own_d1_21) rfl rfl rfl ?_
  refine own_iload (pc' := 24) X31 hx (hb hby own_d1_22) rfl rfl ?_
  refine own_iaload (pc' := 25) X31 hx hZ e31 f35 (hb hby own_d1_24) rfl (by decide) rfl ?_
  refine own_iloadN (pc' := 26) X31 hx (hb hby own_d1_25) rfl rfl ?_
  refine own_icmpNo (pc' := 29) X31 hx (hb hby own_d1_26) rfl (tlt hm).2.2.2 ?_
  refine own_aloadN (pc' := 30) X31 hx (hb hby own_d1_29) rfl rfl rfl ?_
  refine own_iloadN (pc' := 31) X31 hx (hb hby own_d1_30) rfl rfl ?_
  refine own_iloadN (pc' := 32) X31 hx (hb hby own_d1_31) rfl rfl ?_
  refine own_iastore (pc' := 33) X31 hx hZ e31 V31 (hb hby own_d1_32) rfl (by decide) 0 rfl (by simp) N0 ge32 ?_
  intro T36 h36 L36 X36 e36 N36 W36 V36
  replace V36 : Arv Z h36 a31 k31 .int (6 : Int32) [(.int (x1 + (1 : Int32))), (.int (0 : Int32)), (.int (0 : Int32)), (.int (0 : Int32)), (.int (0 : Int32)), (.int (0 : Int32))] (.int (0 : Int32)) := V36
  show own_Ends p e below s _ _ _ T36 (mkF m 33 #[.val (.ref b), .val (.ref a31), .val (.int (0 : Int32)), .val (.int (x1 + (1 : Int32))), .val (.int (2 : Int32))] [])
  refine own_aloadN (pc' := 34) X36 hx (hb hby own_d1_33) rfl rfl rfl ?_
  refine own_iloadN (pc' := 35) X36 hx (hb hby own_d1_34) rfl rfl ?_
  refine own_iconst (pc' := 36) (z := (1 : Int32)) X36 hx (hb hby own_d1_35) rfl rfl ?_
  refine own_iadd (pc' := 37) (z := (1 : Int32)) X36 hx (hb hby own_d1_36) rfl (by decide) ?_
  refine own_aloadN (pc' := 38) X36 hx (hb hby own_d1_37) rfl rfl rfl ?_
  refine own_iload (pc' := 40) X36 hx (hb hby own_d1_38) rfl rfl ?_
  have f37 := (f35.other W36 ne34)
  refine own_iaload (pc' := 41) X36 hx hZ e36 f37 (hb hby own_d1_40) rfl (by decide) rfl ?_
  refine own_iconst (pc' := 42) (z := (1 : Int32)) X36 hx (hb hby own_d1_41) rfl rfl ?_
  refine own_isub (pc' := 43) (z := (x2 - (1 : Int32))) X36 hx (hb hby own_d1_42) rfl rfl ?_
  refine own_iastore (pc' := 44) X36 hx hZ e36 V36 (hb hby own_d1_43) rfl (by decide) 1 rfl (by simp) N36 ge32 ?_
  intro T38 h38 L38 X38 e38 N38 W38 V38
  replace V38 : Arv Z h38 a31 k31 .int (6 : Int32) [(.int (x1 + (1 : Int32))), (.int (x2 - (1 : Int32))), (.int (0 : Int32)), (.int (0 : Int32)), (.int (0 : Int32)), (.int (0 : Int32))] (.int (0 : Int32)) := V38
  show own_Ends p e below s _ _ _ T38 (mkF m 44 #[.val (.ref b), .val (.ref a31), .val (.int (0 : Int32)), .val (.int (x1 + (1 : Int32))), .val (.int (2 : Int32))] [])
  refine own_iinc (pc' := 47) (z := (2 : Int32)) (l' := #[.val (.ref b), .val (.ref a31), .val (.int (2 : Int32)), .val (.int (x1 + (1 : Int32))), .val (.int (2 : Int32))]) X38 hx (hb hby own_d1_44) rfl rfl (by decide) rfl ?_
  refine own_aloadN (pc' := 48) X38 hx (hb hby own_d1_47) rfl rfl rfl ?_
  refine own_iload (pc' := 50) X38 hx (hb hby own_d1_48) rfl rfl ?_
  refine own_iconst (pc' := 51) (z := (1 : Int32)) X38 hx (hb hby own_d1_50) rfl rfl ?_
  refine own_iadd (pc' := 52) (z := (3 : Int32)) X38 hx (hb hby own_d1_51) rfl (by decide) ?_
  have f39 := (f37.other W38 ne34)
  refine own_iaload (pc' := 53) X38 hx hZ e38 f39 (hb hby own_d1_52) rfl (by decide) rfl ?_
  refine own_iconst (pc' := 54) (z := (1 : Int32)) X38 hx (hb hby own_d1_53) rfl rfl ?_
  refine own_iadd (pc' := 55) (z := (x3 + (1 : Int32))) X38 hx (hb hby own_d1_54) rfl rfl ?_
  refine own_istoreN (pc' := 56) (l' := #[.val (.ref b), .val (.ref a31), .val (.int (2 : Int32)), .val (.int (x3 + (1 : Int32))), .val (.int (2 : Int32))]) X38 hx (hb hby own_d1_55) rfl rfl ?_
  refine own_iinc (pc' := 59) (z := (4 : Int32)) (l' := #[.val (.ref b), .val (.ref a31), .val (.int (2 : Int32)), .val (.int (x3 + (1 : Int32))), .val (.int (4 : Int32))]) X38 hx (hb hby own_d1_56) rfl rfl (by decide) rfl ?_
  refine own_goto (pc' := 14) X38 hx (hb hby own_d1_59) (by decide) (by decide) ?_
  refine own_iload (pc' := 16) X38 hx (hb hby own_d1_14) rfl rfl ?_
  refine own_aloadN (pc' := 17) X38 hx (hb hby own_d1_16) rfl rfl rfl ?_
  refine own_alen (pc' := 18) X38 hx hZ e38 f39 (hb hby own_d1_17) rfl ?_
  refine own_icmpYes (pc' := 62) X38 hx (hb hby own_d1_18) (flt (by decide)).2.1 (by decide) (by decide) ?_
  refine own_iloadN (pc' := 63) X38 hx (hb hby own_d1_62) rfl rfl ?_
  refine own_ldcI (pc' := 65) X38 hx hZ hown (own_w8 hw) (hb hby own_d1_63) rfl ?_
  refine own_icmpNo (pc' := 68) X38 hx (hb hby own_d1_65) rfl (flt hl).2.2.1 ?_
  refine own_aloadN (pc' := 69) X38 hx (hb hby own_d1_68) rfl rfl rfl ?_
  refine own_iloadN (pc' := 70) X38 hx (hb hby own_d1_69) rfl rfl ?_
  refine own_iloadN (pc' := 71) X38 hx (hb hby own_d1_70) rfl rfl ?_
  refine own_iastore (pc' := 72) X38 hx hZ e38 V38 (hb hby own_d1_71) rfl (by decide) 2 rfl (by simp) N38 ge32 ?_
  intro T40 h40 L40 X40 e40 N40 W40 V40
  replace V40 : Arv Z h40 a31 k31 .int (6 : Int32) [(.int (x1 + (1 : Int32))), (.int (x2 - (1 : Int32))), (.int (x3 + (1 : Int32))), (.int (0 : Int32)), (.int (0 : Int32)), (.int (0 : Int32))] (.int (0 : Int32)) := V40
  show own_Ends p e below s _ _ _ T40 (mkF m 72 #[.val (.ref b), .val (.ref a31), .val (.int (2 : Int32)), .val (.int (x3 + (1 : Int32))), .val (.int (4 : Int32))] [])
  refine own_aloadN (pc' := 73) X40 hx (hb hby own_d1_72) rfl rfl rfl ?_
  refine own_iloadN (pc' := 74) X40 hx (hb hby own_d1_73) rfl rfl ?_
  refine own_iconst (pc' := 75) (z := (1 : Int32)) X40 hx (hb hby own_d1_74) rfl rfl ?_
  refine own_iadd (pc' := 76) (z := (3 : Int32)) X40 hx (hb hby own_d1_75) rfl (by decide) ?_
  refine own_ldcI (pc' := 78) X40 hx hZ hown (own_w8 hw) (hb hby own_d1_76) rfl ?_
  refine own_iastore (pc' := 79) X40 hx hZ e40 V40 (hb hby own_d1_78) rfl (by decide) 3 rfl (by simp) N40 ge32 ?_
  intro T41 h41 L41 X41 e41 N41 W41 V41
  replace V41 : Arv Z h41 a31 k31 .int (6 : Int32) [(.int (x1 + (1 : Int32))), (.int (x2 - (1 : Int32))), (.int (x3 + (1 : Int32))), (.int (1114111 : Int32)), (.int (0 : Int32)), (.int (0 : Int32))] (.int (0 : Int32)) := V41
  show own_Ends p e below s _ _ _ T41 (mkF m 79 #[.val (.ref b), .val (.ref a31), .val (.int (2 : Int32)), .val (.int (x3 + (1 : Int32))), .val (.int (4 : Int32))] [])
  refine own_iinc (pc' := 82) (z := (4 : Int32)) (l' := #[.val (.ref b), .val (.ref a31), .val (.int (4 : Int32)), .val (.int (x3 + (1 : Int32))), .val (.int (4 : Int32))]) X41 hx (hb hby own_d1_79) rfl rfl (by decide) rfl ?_
  refine own_aloadN (pc' := 83) X41 hx (hb hby own_d1_82) rfl rfl rfl ?_
  refine own_iloadN (pc' := 84) X41 hx (hb hby own_d1_83) rfl rfl ?_
  have f42 := ((((Ex31.wr W36).wr W38).wr W40).wr W41)
  have f43 := (Nat.le_trans (Nat.le_trans (Nat.le_trans (Nat.le_trans (Nat.le_trans Z0 E31.1) (Keep.of_wr W36).1) (Keep.of_wr W38).1) (Keep.of_wr W40).1) (Keep.of_wr W41).1)
  refine own_callS (pc' := 87) (y := (⟨"java/util/Arrays", "copyOf", "([II)[I"⟩ : MethodName)) (W := 0) (rm := own_room2_6_4) (argsL := [(.ref a31), (.int (4 : Int32))]) (rest := []) X41 hx hZ e41 hown (by rw [hml]; rfl) (own_w9 hw) (own_w10 hw) (own_w11 hw) (own_w12 hw) (by decide) (own_rm2_6_4 l Z a0 hw [] a31 k31 (x1 + (1 : Int32)) (x2 - (1 : Int32)) (x3 + (1 : Int32)) (1114111 : Int32) (0 : Int32) (0 : Int32) h41 n0 f43 V41 f42) (by decide) (by decide) (by decide) (by decide) (lenOf own_pd1 rfl) rfl (by exact Nat.le_of_eq rfl) (hb hby own_d1_84) rfl ?_
  intro T44 Lc44 v44 X44 hQ44
  obtain ⟨ra44, rk44, rfl, Nq44, Kq44, G44_0, G44_1⟩ := hQ44
  have N44 := Fr.app N41 Nq44
  have ge45 : n0 ≤ ra44 := Nat.le_trans f43 G44_0
  have f46 := (((((K0.ext E31).wr W36 (Or.inr sz33)).wr W38 (Or.inr sz33)).wr W40 (Or.inr sz33)).wr W41 (Or.inr sz33))
  have sz47 : h0.size ≤ ra44 := Nat.le_trans f46.1 G44_0
  have f48 := ((f39.other W40 ne34).other W41 ne34)
  have ne49 : b ≠ ra44 := Nat.ne_of_lt (Nat.lt_of_lt_of_le f48.lt G44_0)
  have ne50 : a31 ≠ ra44 := Nat.ne_of_lt (Nat.lt_of_lt_of_le V41.lt G44_0)
  show own_Ends p e below s _ _ _ T44 (mkF m 87 #[.val (.ref b), .val (.ref a31), .val (.int (4 : Int32)), .val (.int (x3 + (1 : Int32))), .val (.int (4 : Int32))] [(.ref ra44)])
  refine own_retA X44 hx hlk hret rfl rfl rfl (hb hby own_d1_87) (by decide) (by decide) ?_
  have f51 := (f46.trans Kq44 all0)
  exact ⟨_, _, rfl, N44, f51, sz47, G44_1⟩
def own_room1_210 : Room := { frames := 2, cells := 2, slots := 10, locals := 32 }
def own_Q1_210 (Z : State) (b : Addr) (bk : ClassId) (x0 : Int32) (x1 : Int32) (x2 : Int32) (x3 : Int32) (h0 : Heap) (n0 : Nat) (v : Option Value) (h : Heap) (L : List Loc) : Prop := ∃ (ra : Addr) (rk : ClassId), v = some (.ref ra) ∧ Fr n0 L ∧ Keep h0 h [] ∧ h0.size ≤ ra ∧ Arv Z h ra rk .int (4 : Int32) [(.int (0 : Int32)), (.int (x0 - (1 : Int32))), (.int (x1 + (1 : Int32))), (.int (x2 - (1 : Int32)))] (.int (0 : Int32))
theorem own_ef_rm1_210 (m : MethodId) (x0 : Addr) : entryFrame m #[(.ref x0)] 5 = mkF m 0 #[.val (.ref x0), .unset, .unset, .unset, .unset] [] := by first | (simp [entryFrame, mkF, argsToLocals, Value.category]; done) | rfl
set_option maxRecDepth 65536 in
set_option maxHeartbeats 40000000 in
theorem own_rm1_210 (l : Launch) (Z : State) (a0 : Array Value) (hw : ∀ d ∈ tables_1, d.before a0 Z = true) (ws : List Jvm.Cond) (b : Addr) (bk : ClassId) (x0 : Int32) (x1 : Int32) (x2 : Int32) (x3 : Int32) (h0 : Heap) (n0 : Nat) (Z0 : n0 ≤ h0.size) (V0 : Arv Z h0 b bk .int (4 : Int32) [(.int x0), (.int x1), (.int x2), (.int x3)] (.int (0 : Int32))) (ha : (0 : Int32) < x0) (hl : (1114111 : Int32) < x3 + (1 : Int32)) (hm : x1 + (1 : Int32) < x2) :
    MetFree l (⟨"com/example/exacting_validator/exactingvalidator/pattern/CodePointSets", "complement", "([I)[I"⟩ : MethodName) (head1 (Jvm.Cond.code (⟨"com/example/exacting_validator/exactingvalidator/pattern/CodePointSets", "complement", "([I)[I"⟩ : MethodName) prog_3_method_3_code 5 (some (.array .int)) :: ws) own_room1_210) (fun zz U => zz = #[(.ref b)] ∧ Z.Warmed39 U.vm ∧ U.heap = h0) (fun _ _ _ _ _ => True) (fun _ U o U' => ∃ v L, o = .returned v ∧ own_Q1_210 Z b bk x0 x1 x2 x3 h0 n0 v U'.heap L ∧ FrameEnd U o U' L own_room1_210.cells own_room1_210.slots) := by
  refine MetFree.of_bodySF (plainFor_of_name own_pn1) hisR ?_
  intro p e s m args below meth c s₁ Bd hml0 hP hK
  obtain ⟨rfl, hZ, hh⟩ := hP
  have hx := Bd.exec
  have hby := Bd.bytes
  have hml : c.maxLocals = 5 := hml0
  have hown : s.vm.findClass "com/example/exacting_validator/exactingvalidator/pattern/CodePointSets" = some m.cls := findClass_of_methodNamed Bd.named
  have hnm := (name_of_methodNamed Bd.named Bd.method).1
  have hlk : meth.locks = false := BodyLoose.notSynchronized Bd
  have hret := Bd.returns
  have X0 : Stand p l e own_room1_210 s m #[(.ref b)] below meth c s₁ [] 0 0 := Stand.of_body Bd
  have e0 : s₁.heap = h0 := by rw [← hh, Bd.state]; rfl
  have N0 := Fr.nil n0
  show own_Ends p e below s (own_Q1_210 Z b bk x0 x1 x2 x3 h0 n0) own_room1_210.cells own_room1_210.slots s₁ (entryFrame m #[(.ref b)] 5)
  refine own_cast (own_ef_rm1_210 m b) ?_
  have K0 := Keep.refl h0 ([] : List Addr)
  refine own_aloadN (pc' := 1) X0 hx (hb hby own_d1_0) rfl rfl rfl ?_
  refine own_alen (pc' := 2) X0 hx hZ e0 V0 (hb hby own_d1_1) rfl ?_
  refine own_iconst (pc' := 3) (z := (2 : Int32)) X0 hx (hb hby own_d1_2) rfl rfl ?_
  refine own_iadd (pc' := 4) (z := (6 : Int32)) X0 hx (hb hby own_d1_3) rfl (by decide) ?_
  refine own_newarrE (pc' := 6) (aty := .int) X0 hx hZ (own_w2 hw) e0 (hb hby own_d1_4) rfl (by decide) 6 6 (by decide) (by decide) (by decide) (by decide) (ad := "[I") (by decide) ?_
  intro T31 h31 a31 k31 X31 e31 E31 g31 V31 Ex31
  replace V31 : Arv Z h31 a31 k31 .int (6 : Int32) [(.int (0 : Int32)), (.int (0 : Int32)), (.int (0 : Int32)), (.int (0 : Int32)), (.int (0 : Int32)), (.int (0 : Int32))] (.int (0 : Int32)) := V31
  have ge32 : n0 ≤ a31 := by rw [g31]; exact Z0
  have sz33 : h0.size ≤ a31 := by rw [g31]; exact K0.1
  have ne34 : b ≠ a31 := Nat.ne_of_lt (by rw [g31]; exact V0.lt)
  show own_Ends p e below s _ _ _ T31 (mkF m 6 #[.val (.ref b), .unset, .unset, .unset, .unset] [(.ref a31)])
  refine own_astoreN (pc' := 7) (l' := #[.val (.ref b), .val (.ref a31), .unset, .unset, .unset]) X31 hx (hb hby own_d1_6) rfl rfl rfl ?_
  refine own_iconst (pc' := 8) (z := (0 : Int32)) X31 hx (hb hby own_d1_7) rfl rfl ?_
  refine own_istoreN (pc' := 9) (l' := #[.val (.ref b), .val (.ref a31), .val (.int (0 : Int32)), .unset, .unset]) X31 hx (hb hby own_d1_8) rfl rfl ?_
  refine own_iconst (pc' := 10) (z := (0 : Int32)) X31 hx (hb hby own_d1_9) rfl rfl ?_
  refine own_istoreN (pc' := 11) (l' := #[.val (.ref b), .val (.ref a31), .val (.int (0 : Int32)), .val (.int (0 : Int32)), .unset]) X31 hx (hb hby own_d1_10) rfl rfl ?_
  refine own_iconst (pc' := 12) (z := (0 : Int32)) X31 hx (hb hby own_d1_11) rfl rfl ?_
  refine own_istore (pc' := 14) (l' := #[.val (.ref b), .val (.ref a31), .val (.int (0 : Int32)), .val (.int (0 : Int32)), .val (.int (0 : Int32))]) X31 hx (hb hby own_d1_12) rfl rfl ?_
  refine own_iload (pc' := 16) X31 hx (hb hby own_d1_14) rfl rfl ?_
  refine own_aloadN (pc' := 17) X31 hx (hb hby own_d1_16) rfl rfl rfl ?_
  have f35 := (V0.ext E31)
  refine own_alen (pc' := 18) X31 hx hZ e31 f35 (hb hby own_d1_17) rfl ?_
  refine own_icmpNo (pc' := 21) X31 hx (hb hby own_d1_18) rfl (tlt (by decide)).2.1 ?_
  refine own_aloadN (pc' := 22) X31 hx (hb hby own_d1_21) rfl rfl rfl ?_
  refine own_iload (pc' := 24) X31 hx (hb hby own_d1_22) rfl rfl ?_
  refine own_iaload (pc' := 25) X31 hx hZ e31 f35 (hb hby own_d1_24) rfl (by decide) rfl ?_
  refine own_iloadN (pc' := 26) X31 hx (hb hby own_d1_25) rfl rfl ?_
  refine own_icmpNo (pc' := 29) X31 hx (hb hby own_d1_26) rfl (tlt ha).2.2.2 ?_
  refine own_aloadN (pc' := 30) X31 hx (hb hby own_d1_29) rfl rfl rfl ?_
  refine own_iloadN (pc' := 31) X31 hx (hb hby own_d1_30) rfl rfl ?_
  refine own_iloadN (pc' := 32) X31 hx (hb hby own_d1_31) rfl rfl ?_
  refine own_iastore (pc' := 33) X31 hx hZ e31 V31 (hb hby own_d1_32) rfl (by decide) 0 rfl (by simp) N0 ge32 ?_
  intro T36 h36 L36 X36 e36 N36 W36 V36
  replace V36 : Arv Z h36 a31 k31 .int (6 : Int32) [(.int (0 : Int32)), (.int (0 : Int32)), (.int (0 : Int32)), (.int (0 : Int32)), (.int (0 : Int32)), (.int (0 : Int32))] (.int (0 : Int32)) := V36
  show own_Ends p e below s _ _ _ T36 (mkF m 33 #[.val (.ref b), .val (.ref a31), .val (.int (0 : Int32)), .val (.int (0 : Int32)), .val (.int (0 : Int32))] [])
  refine own_aloadN (pc' := 34) X36 hx (hb hby own_d1_33) rfl rfl rfl ?_
  refine own_iloadN (pc' := 35) X36 hx (hb hby own_d1_34) rfl rfl ?_
  refine own_iconst (pc' := 36) (z := (1 : Int32)) X36 hx (hb hby own_d1_35) rfl rfl ?_
  refine own_iadd (pc' := 37) (z := (1 : Int32)) X36 hx (hb hby own_d1_36) rfl (by decide) ?_
  refine own_aloadN (pc' := 38) X36 hx (hb hby own_d1_37) rfl rfl rfl ?_
  refine own_iload (pc' := 40) X36 hx (hb hby own_d1_38) rfl rfl ?_
  have f37 := (f35.other W36 ne34)
  refine own_iaload (pc' := 41) X36 hx hZ e36 f37 (hb hby own_d1_40) rfl (by decide) rfl ?_
  refine own_iconst (pc' := 42) (z := (1 : Int32)) X36 hx (hb hby own_d1_41) rfl rfl ?_
  refine own_isub (pc' := 43) (z := (x0 - (1 : Int32))) X36 hx (hb hby own_d1_42) rfl rfl ?_
  refine own_iastore (pc' := 44) X36 hx hZ e36 V36 (hb hby own_d1_43) rfl (by decide) 1 rfl (by simp) N36 ge32 ?_
  intro T38 h38 L38 X38 e38 N38 W38 V38
  replace V38 : Arv Z h38 a31 k31 .int (6 : Int32) [(.int (0 : Int32)), (.int (x0 - (1 : Int32))), (.int (0 : Int32)), (.int (0 : Int32)), (.int (0 : Int32)), (.int (0 : Int32))] (.int (0 : Int32)) := V38
  show own_Ends p e below s _ _ _ T38 (mkF m 44 #[.val (.ref b), .val (.ref a31), .val (.int (0 : Int32)), .val (.int (0 : Int32)), .val (.int (0 : Int32))] [])
  refine own_iinc (pc' := 47) (z := (2 : Int32)) (l' := #[.val (.ref b), .val (.ref a31), .val (.int (2 : Int32)), .val (.int (0 : Int32)), .val (.int (0 : Int32))]) X38 hx (hb hby own_d1_44) rfl rfl (by decide) rfl ?_
  refine own_aloadN (pc' := 48) X38 hx (hb hby own_d1_47) rfl rfl rfl ?_
  refine own_iload (pc' := 50) X38 hx (hb hby own_d1_48) rfl rfl ?_
  refine own_iconst (pc' := 51) (z := (1 : Int32)) X38 hx (hb hby own_d1_50) rfl rfl ?_
  refine own_iadd (pc' := 52) (z := (1 : Int32)) X38 hx (hb hby own_d1_51) rfl (by decide) ?_
  have f39 := (f37.other W38 ne34)
  refine own_iaload (pc' := 53) X38 hx hZ e38 f39 (hb hby own_d1_52) rfl (by decide) rfl ?_
  refine own_iconst (pc' := 54) (z := (1 : Int32)) X38 hx (hb hby own_d1_53) rfl rfl ?_
  refine own_iadd (pc' := 55) (z := (x1 + (1 : Int32))) X38 hx (hb hby own_d1_54) rfl rfl ?_
  refine own_istoreN (pc' := 56) (l' := #[.val (.ref b), .val (.ref a31), .val (.int (2 : Int32)), .val (.int (x1 + (1 : Int32))), .val (.int (0 : Int32))]) X38 hx (hb hby own_d1_55) rfl rfl ?_
  refine own_iinc (pc' := 59) (z := (2 : Int32)) (l' := #[.val (.ref b), .val (.ref a31), .val (.int (2 : Int32)), .val (.int (x1 + (1 : Int32))), .val (.int (2 : Int32))]) X38 hx (hb hby own_d1_56) rfl rfl (by decide) rfl ?_
  refine own_goto (pc' := 14) X38 hx (hb hby own_d1_59) (by decide) (by decide) ?_
  refine own_iload (pc' := 16) X38 hx (hb hby own_d1_14) rfl rfl ?_
  refine own_aloadN (pc' := 17) X38 hx (hb hby own_d1_16) rfl rfl rfl ?_
  refine own_alen (pc' := 18) X38 hx hZ e38 f39 (hb hby own_d1_17) rfl ?_
  refine own_icmpNo (pc' := 21) X38 hx (hb hby own_d1_18) rfl (tlt (by decide)).2.1 ?_
  refine own_aloadN (pc' := 22) X38 hx (hb hby own_d1_21) rfl rfl rfl ?_
  refine own_iload (pc' := 24) X38 hx (hb hby own_d1_22) rfl rfl ?_
  refine own_iaload (pc' := 25) X38 hx hZ e38 f39 (hb hby own_d1_24) rfl (by decide) rfl ?_
  refine own_iloadN (pc' := 26) X38 hx (hb hby own_d1_25) rfl rfl ?_
  refine own_icmpNo (pc' := 29) X38 hx (hb hby own_d1_26) rfl (tlt hm).2.2.2 ?_
  refine own_aloadN (pc' := 30) X38 hx (hb hby own_d1_29) rfl rfl rfl ?_
  refine own_iloadN (pc' := 31) X38 hx (hb hby own_d1_30) rfl rfl ?_
  refine own_iloadN (pc' := 32) X38 hx (hb hby own_d1_31) rfl rfl ?_
  refine own_iastore (pc' := 33) X38 hx hZ e38 V38 (hb hby own_d1_32) rfl (by decide) 2 rfl (by simp) N38 ge32 ?_
  intro T40 h40 L40 X40 e40 N40 W40 V40
  replace V40 : Arv Z h40 a31 k31 .int (6 : Int32) [(.int (0 : Int32)), (.int (x0 - (1 : Int32))), (.int (x1 + (1 : Int32))), (.int (0 : Int32)), (.int (0 : Int32)), (.int (0 : Int32))] (.int (0 : Int32)) := V40
  show own_Ends p e below s _ _ _ T40 (mkF m 33 #[.val (.ref b), .val (.ref a31), .val (.int (2 : Int32)), .val (.int (x1 + (1 : Int32))), .val (.int (2 : Int32))] [])
  refine own_aloadN (pc' := 34) X40 hx (hb hby own_d1_33) rfl rfl rfl ?_
  refine own_iloadN (pc' := 35) X40 hx (hb hby own_d1_34) rfl rfl ?_
  refine own_iconst (pc' := 36) (z := (1 : Int32)) X40 hx (hb hby own_d1_35) rfl rfl ?_
  refine own_iadd (pc' := 37) (z := (3 : Int32)) X40 hx (hb hby own_d1_36) rfl (by decide) ?_
  refine own_aloadN (pc' := 38) X40 hx (hb hby own_d1_37) rfl rfl rfl ?_
  refine own_iload (pc' := 40) X40 hx (hb hby own_d1_38) rfl rfl ?_
  have f41 := (f39.other W40 ne34)
  refine own_iaload (pc' := 41) X40 hx hZ e40 f41 (hb hby own_d1_40) rfl (by decide) rfl ?_
  refine own_iconst (pc' := 42) (z := (1 : Int32)) X40 hx (hb hby own_d1_41) rfl rfl ?_
  refine own_isub (pc' := 43) (z := (x2 - (1 : Int32))) X40 hx (hb hby own_d1_42) rfl rfl ?_
  refine own_iastore (pc' := 44) X40 hx hZ e40 V40 (hb hby own_d1_43) rfl (by decide) 3 rfl (by simp) N40 ge32 ?_
  intro T42 h42 L42 X42 e42 N42 W42 V42
  replace V42 : Arv Z h42 a31 k31 .int (6 : Int32) [(.int (0 : Int32)), (.int (x0 - (1 : Int32))), (.int (x1 + (1 : Int32))), (.int (x2 - (1 : Int32))), (.int (0 : Int32)), (.int (0 : Int32))] (.int (0 : Int32)) := V42
  show own_Ends p e below s _ _ _ T42 (mkF m 44 #[.val (.ref b), .val (.ref a31), .val (.int (2 : Int32)), .val (.int (x1 + (1 : Int32))), .val (.int (2 : Int32))] [])
  refine own_iinc (pc' := 47) (z := (4 : Int32)) (l' := #[.val (.ref b), .val (.ref a31), .val (.int (4 : Int32)), .val (.int (x1 + (1 : Int32))), .val (.int (2 : Int32))]) X42 hx (hb hby own_d1_44) rfl rfl (by decide) rfl ?_
  refine own_aloadN (pc' := 48) X42 hx (hb hby own_d1_47) rfl rfl rfl ?_
  refine own_iload (pc' := 50) X42 hx (hb hby own_d1_48) rfl rfl ?_
  refine own_iconst (pc' := 51) (z := (1 : Int32)) X42 hx (hb hby own_d1_50) rfl rfl ?_
  refine own_iadd (pc' := 52) (z := (3 : Int32)) X42 hx (hb hby own_d1_51) rfl (by decide) ?_
  have f43 := (f41.other W42 ne34)
  refine own_iaload (pc' := 53) X42 hx hZ e42 f43 (hb hby own_d1_52) rfl (by decide) rfl ?_
  refine own_iconst (pc' := 54) (z := (1 : Int32)) X42 hx (hb hby own_d1_53) rfl rfl ?_
  refine own_iadd (pc' := 55) (z := (x3 + (1 : Int32))) X42 hx (hb hby own_d1_54) rfl rfl ?_
  refine own_istoreN (pc' := 56) (l' := #[.val (.ref b), .val (.ref a31), .val (.int (4 : Int32)), .val (.int (x3 + (1 : Int32))), .val (.int (2 : Int32))]) X42 hx (hb hby own_d1_55) rfl rfl ?_
  refine own_iinc (pc' := 59) (z := (4 : Int32)) (l' := #[.val (.ref b), .val (.ref a31), .val (.int (4 : Int32)), .val (.int (x3 + (1 : Int32))), .val (.int (4 : Int32))]) X42 hx (hb hby own_d1_56) rfl rfl (by decide) rfl ?_
  refine own_goto (pc' := 14) X42 hx (hb hby own_d1_59) (by decide) (by decide) ?_
  refine own_iload (pc' := 16) X42 hx (hb hby own_d1_14) rfl rfl ?_
  refine own_aloadN (pc' := 17) X42 hx (hb hby own_d1_16) rfl rfl rfl ?_
  refine own_alen (pc' := 18) X42 hx hZ e42 f43 (hb hby own_d1_17) rfl ?_
  refine own_icmpYes (pc' := 62) X42 hx (hb hby own_d1_18) (flt (by decide)).2.1 (by decide) (by decide) ?_
  refine own_iloadN (pc' := 63) X42 hx (hb hby own_d1_62) rfl rfl ?_
  refine own_ldcI (pc' := 65) X42 hx hZ hown (own_w8 hw) (hb hby own_d1_63) rfl ?_
  refine own_icmpYes (pc' := 82) X42 hx (hb hby own_d1_65) (tlt hl).2.2.1 (by decide) (by decide) ?_
  refine own_aloadN (pc' := 83) X42 hx (hb hby own_d1_82) rfl rfl rfl ?_
  refine own_iloadN (pc' := 84) X42 hx (hb hby own_d1_83) rfl rfl ?_
  have f44 := ((((Ex31.wr W36).wr W38).wr W40).wr W42)
  have f45 := (Nat.le_trans (Nat.le_trans (Nat.le_trans (Nat.le_trans (Nat.le_trans Z0 E31.1) (Keep.of_wr W36).1) (Keep.of_wr W38).1) (Keep.of_wr W40).1) (Keep.of_wr W42).1)
  refine own_callS (pc' := 87) (y := (⟨"java/util/Arrays", "copyOf", "([II)[I"⟩ : MethodName)) (W := 0) (rm := own_room2_6_4) (argsL := [(.ref a31), (.int (4 : Int32))]) (rest := []) X42 hx hZ e42 hown (by rw [hml]; rfl) (own_w9 hw) (own_w10 hw) (own_w11 hw) (own_w12 hw) (by decide) (own_rm2_6_4 l Z a0 hw [] a31 k31 (0 : Int32) (x0 - (1 : Int32)) (x1 + (1 : Int32)) (x2 - (1 : Int32)) (0 : Int32) (0 : Int32) h42 n0 f45 V42 f44) (by decide) (by decide) (by decide) (by decide) (lenOf own_pd1 rfl) rfl (by exact Nat.le_of_eq rfl) (hb hby own_d1_84) rfl ?_
  intro T46 Lc46 v46 X46 hQ46
  obtain ⟨ra46, rk46, rfl, Nq46, Kq46, G46_0, G46_1⟩ := hQ46
  have N46 := Fr.app N42 Nq46
  have ge47 : n0 ≤ ra46 := Nat.le_trans f45 G46_0
  have f48 := (((((K0.ext E31).wr W36 (Or.inr sz33)).wr W38 (Or.inr sz33)).wr W40 (Or.inr sz33)).wr W42 (Or.inr sz33))
  have sz49 : h0.size ≤ ra46 := Nat.le_trans f48.1 G46_0
  have ne50 : b ≠ ra46 := Nat.ne_of_lt (Nat.lt_of_lt_of_le f43.lt G46_0)
  have ne51 : a31 ≠ ra46 := Nat.ne_of_lt (Nat.lt_of_lt_of_le V42.lt G46_0)
  show own_Ends p e below s _ _ _ T46 (mkF m 87 #[.val (.ref b), .val (.ref a31), .val (.int (4 : Int32)), .val (.int (x3 + (1 : Int32))), .val (.int (4 : Int32))] [(.ref ra46)])
  refine own_retA X46 hx hlk hret rfl rfl rfl (hb hby own_d1_87) (by decide) (by decide) ?_
  have f52 := (f48.trans Kq46 all0)
  exact ⟨_, _, rfl, N46, f52, sz49, G46_1⟩
def own_room1_211 : Room := { frames := 2, cells := 2, slots := 12, locals := 28 }
def own_Q1_211 (Z : State) (b : Addr) (bk : ClassId) (x0 : Int32) (x1 : Int32) (x2 : Int32) (x3 : Int32) (h0 : Heap) (n0 : Nat) (v : Option Value) (h : Heap) (L : List Loc) : Prop := ∃ (ra : Addr) (rk : ClassId), v = some (.ref ra) ∧ Fr n0 L ∧ Keep h0 h [] ∧ h0.size ≤ ra ∧ Arv Z h ra rk .int (6 : Int32) [(.int (0 : Int32)), (.int (x0 - (1 : Int32))), (.int (x1 + (1 : Int32))), (.int (x2 - (1 : Int32))), (.int (x3 + (1 : Int32))), (.int (1114111 : Int32))] (.int (0 : Int32))
theorem own_ef_rm1_211 (m : MethodId) (x0 : Addr) : entryFrame m #[(.ref x0)] 5 = mkF m 0 #[.val (.ref x0), .unset, .unset, .unset, .unset] [] := by first | (simp [entryFrame, mkF, argsToLocals, Value.category]; done) | rfl
set_option maxRecDepth 65536 in
set_option maxHeartbeats 40000000 in
theorem own_rm1_211 (l : Launch) (Z : State) (a0 : Array Value) (hw : ∀ d ∈ tables_1, d.before a0 Z = true) (ws : List Jvm.Cond) (b : Addr) (bk : ClassId) (x0 : Int32) (x1 : Int32) (x2 : Int32) (x3 : Int32) (h0 : Heap) (n0 : Nat) (Z0 : n0 ≤ h0.size) (V0 : Arv Z h0 b bk .int (4 : Int32) [(.int x0), (.int x1), (.int x2), (.int x3)] (.int (0 : Int32))) (ha : (0 : Int32) < x0) (hl : ¬ (1114111 : Int32) < x3 + (1 : Int32)) (hm : x1 + (1 : Int32) < x2) :
    MetFree l (⟨"com/example/exacting_validator/exactingvalidator/pattern/CodePointSets", "complement", "([I)[I"⟩ : MethodName) (head1 (Jvm.Cond.code (⟨"com/example/exacting_validator/exactingvalidator/pattern/CodePointSets", "complement", "([I)[I"⟩ : MethodName) prog_3_method_3_code 5 (some (.array .int)) :: ws) own_room1_211) (fun zz U => zz = #[(.ref b)] ∧ Z.Warmed39 U.vm ∧ U.heap = h0) (fun _ _ _ _ _ => True) (fun _ U o U' => ∃ v L, o = .returned v ∧ own_Q1_211 Z b bk x0 x1 x2 x3 h0 n0 v U'.heap L ∧ FrameEnd U o U' L own_room1_211.cells own_room1_211.slots) := by
  refine MetFree.of_bodySF (plainFor_of_name own_pn1) hisR ?_
  intro p e s m args below meth c s₁ Bd hml0 hP hK
  obtain ⟨rfl, hZ, hh⟩ := hP
  have hx := Bd.exec
  have hby := Bd.bytes
  have hml : c.maxLocals = 5 := hml0
  have hown : s.vm.findClass "com/example/exacting_validator/exactingvalidator/pattern/CodePointSets" = some m.cls := findClass_of_methodNamed Bd.named
  have hnm := (name_of_methodNamed Bd.named Bd.method).1
  have hlk : meth.locks = false := BodyLoose.notSynchronized Bd
  have hret := Bd.returns
  have X0 : Stand p l e own_room1_211 s m #[(.ref b)] below meth c s₁ [] 0 0 := Stand.of_body Bd
  have e0 : s₁.heap = h0 := by rw [← hh, Bd.state]; rfl
  have N0 := Fr.nil n0
  show own_Ends p e below s (own_Q1_211 Z b bk x0 x1 x2 x3 h0 n0) own_room1_211.cells own_room1_211.slots s₁ (entryFrame m #[(.ref b)] 5)
  refine own_cast (own_ef_rm1_211 m b) ?_
  have K0 := Keep.refl h0 ([] : List Addr)
  refine own_aloadN (pc' := 1) X0 hx (hb hby own_d1_0) rfl rfl rfl ?_
  refine own_alen (pc' := 2) X0 hx hZ e0 V0 (hb hby own_d1_1) rfl ?_
  refine own_iconst (pc' := 3) (z := (2 : Int32)) X0 hx (hb hby own_d1_2) rfl rfl ?_
  refine own_iadd (pc' := 4) (z := (6 : Int32)) X0 hx (hb hby own_d1_3) rfl (by decide) ?_
  refine own_newarrE (pc' := 6) (aty := .int) X0 hx hZ (own_w2 hw) e0 (hb hby own_d1_4) rfl (by decide) 6 6 (by decide) (by decide) (by decide) (by decide) (ad := "[I") (by decide) ?_
  intro T31 h31 a31 k31 X31 e31 E31 g31 V31 Ex31
  replace V31 : Arv Z h31 a31 k31 .int (6 : Int32) [(.int (0 : Int32)), (.int (0 : Int32)), (.int (0 : Int32)), (.int (0 : Int32)), (.int (0 : Int32)), (.int (0 : Int32))] (.int (0 : Int32)) := V31
  have ge32 : n0 ≤ a31 := by rw [g31]; exact Z0
  have sz33 : h0.size ≤ a31 := by rw [g31]; exact K0.1
  have ne34 : b ≠ a31 := Nat.ne_of_lt (by rw [g31]; exact V0.lt)
  show own_Ends p e below s _ _ _ T31 (mkF m 6 #[.val (.ref b), .unset, .unset, .unset, .unset] [(.ref a31)])
  refine own_astoreN (pc' := 7) (l' := #[.val (.ref b), .val (.ref a31), .unset, .unset, .unset]) X31 hx (hb hby own_d1_6) rfl rfl rfl ?_
  refine own_iconst (pc' := 8) (z := (0 : Int32)) X31 hx (hb hby own_d1_7) rfl rfl ?_
  refine own_istoreN (pc' := 9) (l' := #[.val (.ref b), .val (.ref a31), .val (.int (0 : Int32)), .unset, .unset]) X31 hx (hb hby own_d1_8) rfl rfl ?_
  refine own_iconst (pc' := 10) (z := (0 : Int32)) X31 hx (hb hby own_d1_9) rfl rfl ?_
  refine own_istoreN (pc' := 11) (l' := #[.val (.ref b), .val (.ref a31), .val (.int (0 : Int32)), .val (.int (0 : Int32)), .unset]) X31 hx (hb hby own_d1_10) rfl rfl ?_
  refine own_iconst (pc' := 12) (z := (0 : Int32)) X31 hx (hb hby own_d1_11) rfl rfl ?_
  refine own_istore (pc' := 14) (l' := #[.val (.ref b), .val (.ref a31), .val (.int (0 : Int32)), .val (.int (0 : Int32)), .val (.int (0 : Int32))]) X31 hx (hb hby own_d1_12) rfl rfl ?_
  refine own_iload (pc' := 16) X31 hx (hb hby own_d1_14) rfl rfl ?_
  refine own_aloadN (pc' := 17) X31 hx (hb hby own_d1_16) rfl rfl rfl ?_
  have f35 := (V0.ext E31)
  refine own_alen (pc' := 18) X31 hx hZ e31 f35 (hb hby own_d1_17) rfl ?_
  refine own_icmpNo (pc' := 21) X31 hx (hb hby own_d1_18) rfl (tlt (by decide)).2.1 ?_
  refine own_aloadN (pc' := 22) X31 hx (hb hby own_d1_21) rfl rfl rfl ?_
  refine own_iload (pc' := 24) X31 hx (hb hby own_d1_22) rfl rfl ?_
  refine own_iaload (pc' := 25) X31 hx hZ e31 f35 (hb hby own_d1_24) rfl (by decide) rfl ?_
  refine own_iloadN (pc' := 26) X31 hx (hb hby own_d1_25) rfl rfl ?_
  refine own_icmpNo (pc' := 29) X31 hx (hb hby own_d1_26) rfl (tlt ha).2.2.2 ?_
  refine own_aloadN (pc' := 30) X31 hx (hb hby own_d1_29) rfl rfl rfl ?_
  refine own_iloadN (pc' := 31) X31 hx (hb hby own_d1_30) rfl rfl ?_
  refine own_iloadN (pc' := 32) X31 hx (hb hby own_d1_31) rfl rfl ?_
  refine own_iastore (pc' := 33) X31 hx hZ e31 V31 (hb hby own_d1_32) rfl (by decide) 0 rfl (by simp) N0 ge32 ?_
  intro T36 h36 L36 X36 e36 N36 W36 V36
  replace V36 : Arv Z h36 a31 k31 .int (6 : Int32) [(.int (0 : Int32)), (.int (0 : Int32)), (.int (0 : Int32)), (.int (0 : Int32)), (.int (0 : Int32)), (.int (0 : Int32))] (.int (0 : Int32)) := V36
  show own_Ends p e below s _ _ _ T36 (mkF m 33 #[.val (.ref b), .val (.ref a31), .val (.int (0 : Int32)), .val (.int (0 : Int32)), .val (.int (0 : Int32))] [])
  refine own_aloadN (pc' := 34) X36 hx (hb hby own_d1_33) rfl rfl rfl ?_
  refine own_iloadN (pc' := 35) X36 hx (hb hby own_d1_34) rfl rfl ?_
  refine own_iconst (pc' := 36) (z := (1 : Int32)) X36 hx (hb hby own_d1_35) rfl rfl ?_
  refine own_iadd (pc' := 37) (z := (1 : Int32)) X36 hx (hb hby own_d1_36) rfl (by decide) ?_
  refine own_aloadN (pc' := 38) X36 hx (hb hby own_d1_37) rfl rfl rfl ?_
  refine own_iload (pc' := 40) X36 hx (hb hby own_d1_38) rfl rfl ?_
  have f37 := (f35.other W36 ne34)
  refine own_iaload (pc' := 41) X36 hx hZ e36 f37 (hb hby own_d1_40) rfl (by decide) rfl ?_
  refine own_iconst (pc' := 42) (z := (1 : Int32)) X36 hx (hb hby own_d1_41) rfl rfl ?_
  refine own_isub (pc' := 43) (z := (x0 - (1 : Int32))) X36 hx (hb hby own_d1_42) rfl rfl ?_
  refine own_iastore (pc' := 44) X36 hx hZ e36 V36 (hb hby own_d1_43) rfl (by decide) 1 rfl (by simp) N36 ge32 ?_
  intro T38 h38 L38 X38 e38 N38 W38 V38
  replace V38 : Arv Z h38 a31 k31 .int (6 : Int32) [(.int (0 : Int32)), (.int (x0 - (1 : Int32))), (.int (0 : Int32)), (.int (0 : Int32)), (.int (0 : Int32)), (.int (0 : Int32))] (.int (0 : Int32)) := V38
  show own_Ends p e below s _ _ _ T38 (mkF m 44 #[.val (.ref b), .val (.ref a31), .val (.int (0 : Int32)), .val (.int (0 : Int32)), .val (.int (0 : Int32))] [])
  refine own_iinc (pc' := 47) (z := (2 : Int32)) (l' := #[.val (.ref b), .val (.ref a31), .val (.int (2 : Int32)), .val (.int (0 : Int32)), .val (.int (0 : Int32))]) X38 hx (hb hby own_d1_44) rfl rfl (by decide) rfl ?_
  refine own_aloadN (pc' := 48) X38 hx (hb hby own_d1_47) rfl rfl rfl ?_
  refine own_iload (pc' := 50) X38 hx (hb hby own_d1_48) rfl rfl ?_
  refine own_iconst (pc' := 51) (z := (1 : Int32)) X38 hx (hb hby own_d1_50) rfl rfl ?_
  refine own_iadd (pc' := 52) (z := (1 : Int32)) X38 hx (hb hby own_d1_51) rfl (by decide) ?_
  have f39 := (f37.other W38 ne34)
  refine own_iaload (pc' := 53) X38 hx hZ e38 f39 (hb hby own_d1_52) rfl (by decide) rfl ?_
  refine own_iconst (pc' := 54) (z := (1 : Int32)) X38 hx (hb hby own_d1_53) rfl rfl ?_
  refine own_iadd (pc' := 55) (z := (x1 + (1 : Int32))) X38 hx (hb hby own_d1_54) rfl rfl ?_
  refine own_istoreN (pc' := 56) (l' := #[.val (.ref b), .val (.ref a31), .val (.int (2 : Int32)), .val (.int (x1 + (1 : Int32))), .val (.int (0 : Int32))]) X38 hx (hb hby own_d1_55) rfl rfl ?_
  refine own_iinc (pc' := 59) (z := (2 : Int32)) (l' := #[.val (.ref b), .val (.ref a31), .val (.int (2 : Int32)), .val (.int (x1 + (1 : Int32))), .val (.int (2 : Int32))]) X38 hx (hb hby own_d1_56) rfl rfl (by decide) rfl ?_
  refine own_goto (pc' := 14) X38 hx (hb hby own_d1_59) (by decide) (by decide) ?_
  refine own_iload (pc' := 16) X38 hx (hb hby own_d1_14) rfl rfl ?_
  refine own_aloadN (pc' := 17) X38 hx (hb hby own_d1_16) rfl rfl rfl ?_
  refine own_alen (pc' := 18) X38 hx hZ e38 f39 (hb hby own_d1_17) rfl ?_
  refine own_icmpNo (pc' := 21) X38 hx (hb hby own_d1_18) rfl (tlt (by decide)).2.1 ?_
  refine own_aloadN (pc' := 22) X38 hx (hb hby own_d1_21) rfl rfl rfl ?_
  refine own_iload (pc' := 24) X38 hx (hb hby own_d1_22) rfl rfl ?_
  refine own_iaload (pc' := 25) X38 hx hZ e38 f39 (hb hby own_d1_24) rfl (by decide) rfl ?_
  refine own_iloadN (pc' := 26) X38 hx (hb hby own_d1_25) rfl rfl ?_
  refine own_icmpNo (pc' := 29) X38 hx (hb hby own_d1_26) rfl (tlt hm).2.2.2 ?_
  refine own_aloadN (pc' := 30) X38 hx (hb hby own_d1_29) rfl rfl rfl ?_
  refine own_iloadN (pc' := 31) X38 hx (hb hby own_d1_30) rfl rfl ?_
  refine own_iloadN (pc' := 32) X38 hx (hb hby own_d1_31) rfl rfl ?_
  refine own_iastore (pc' := 33) X38 hx hZ e38 V38 (hb hby own_d1_32) rfl (by decide) 2 rfl (by simp) N38 ge32 ?_
  intro T40 h40 L40 X40 e40 N40 W40 V40
  replace V40 : Arv Z h40 a31 k31 .int (6 : Int32) [(.int (0 : Int32)), (.int (x0 - (1 : Int32))), (.int (x1 + (1 : Int32))), (.int (0 : Int32)), (.int (0 : Int32)), (.int (0 : Int32))] (.int (0 : Int32)) := V40
  show own_Ends p e below s _ _ _ T40 (mkF m 33 #[.val (.ref b), .val (.ref a31), .val (.int (2 : Int32)), .val (.int (x1 + (1 : Int32))), .val (.int (2 : Int32))] [])
  refine own_aloadN (pc' := 34) X40 hx (hb hby own_d1_33) rfl rfl rfl ?_
  refine own_iloadN (pc' := 35) X40 hx (hb hby own_d1_34) rfl rfl ?_
  refine own_iconst (pc' := 36) (z := (1 : Int32)) X40 hx (hb hby own_d1_35) rfl rfl ?_
  refine own_iadd (pc' := 37) (z := (3 : Int32)) X40 hx (hb hby own_d1_36) rfl (by decide) ?_
  refine own_aloadN (pc' := 38) X40 hx (hb hby own_d1_37) rfl rfl rfl ?_
  refine own_iload (pc' := 40) X40 hx (hb hby own_d1_38) rfl rfl ?_
  have f41 := (f39.other W40 ne34)
  refine own_iaload (pc' := 41) X40 hx hZ e40 f41 (hb hby own_d1_40) rfl (by decide) rfl ?_
  refine own_iconst (pc' := 42) (z := (1 : Int32)) X40 hx (hb hby own_d1_41) rfl rfl ?_
  refine own_isub (pc' := 43) (z := (x2 - (1 : Int32))) X40 hx (hb hby own_d1_42) rfl rfl ?_
  refine own_iastore (pc' := 44) X40 hx hZ e40 V40 (hb hby own_d1_43) rfl (by decide) 3 rfl (by simp) N40 ge32 ?_
  intro T42 h42 L42 X42 e42 N42 W42 V42
  replace V42 : Arv Z h42 a31 k31 .int (6 : Int32) [(.int (0 : Int32)), (.int (x0 - (1 : Int32))), (.int (x1 + (1 : Int32))), (.int (x2 - (1 : Int32))), (.int (0 : Int32)), (.int (0 : Int32))] (.int (0 : Int32)) := V42
  show own_Ends p e below s _ _ _ T42 (mkF m 44 #[.val (.ref b), .val (.ref a31), .val (.int (2 : Int32)), .val (.int (x1 + (1 : Int32))), .val (.int (2 : Int32))] [])
  refine own_iinc (pc' := 47) (z := (4 : Int32)) (l' := #[.val (.ref b), .val (.ref a31), .val (.int (4 : Int32)), .val (.int (x1 + (1 : Int32))), .val (.int (2 : Int32))]) X42 hx (hb hby own_d1_44) rfl rfl (by decide) rfl ?_
  refine own_aloadN (pc' := 48) X42 hx (hb hby own_d1_47) rfl rfl rfl ?_
  refine own_iload (pc' := 50) X42 hx (hb hby own_d1_48) rfl rfl ?_
  refine own_iconst (pc' := 51) (z := (1 : Int32)) X42 hx (hb hby own_d1_50) rfl rfl ?_
  refine own_iadd (pc' := 52) (z := (3 : Int32)) X42 hx (hb hby own_d1_51) rfl (by decide) ?_
  have f43 := (f41.other W42 ne34)
  refine own_iaload (pc' := 53) X42 hx hZ e42 f43 (hb hby own_d1_52) rfl (by decide) rfl ?_
  refine own_iconst (pc' := 54) (z := (1 : Int32)) X42 hx (hb hby own_d1_53) rfl rfl ?_
  refine own_iadd (pc' := 55) (z := (x3 + (1 : Int32))) X42 hx (hb hby own_d1_54) rfl rfl ?_
  refine own_istoreN (pc' := 56) (l' := #[.val (.ref b), .val (.ref a31), .val (.int (4 : Int32)), .val (.int (x3 + (1 : Int32))), .val (.int (2 : Int32))]) X42 hx (hb hby own_d1_55) rfl rfl ?_
  refine own_iinc (pc' := 59) (z := (4 : Int32)) (l' := #[.val (.ref b), .val (.ref a31), .val (.int (4 : Int32)), .val (.int (x3 + (1 : Int32))), .val (.int (4 : Int32))]) X42 hx (hb hby own_d1_56) rfl rfl (by decide) rfl ?_
  refine own_goto (pc' := 14) X42 hx (hb hby own_d1_59) (by decide) (by decide) ?_
  refine own_iload (pc' := 16) X42 hx (hb hby own_d1_14) rfl rfl ?_
  refine own_aloadN (pc' := 17) X42 hx (hb hby own_d1_16) rfl rfl rfl ?_
  refine own_alen (pc' := 18) X42 hx hZ e42 f43 (hb hby own_d1_17) rfl ?_
  refine own_icmpYes (pc' := 62) X42 hx (hb hby own_d1_18) (flt (by decide)).2.1 (by decide) (by decide) ?_
  refine own_iloadN (pc' := 63) X42 hx (hb hby own_d1_62) rfl rfl ?_
  refine own_ldcI (pc' := 65) X42 hx hZ hown (own_w8 hw) (hb hby own_d1_63) rfl ?_
  refine own_icmpNo (pc' := 68) X42 hx (hb hby own_d1_65) rfl (flt hl).2.2.1 ?_
  refine own_aloadN (pc' := 69) X42 hx (hb hby own_d1_68) rfl rfl rfl ?_
  refine own_iloadN (pc' := 70) X42 hx (hb hby own_d1_69) rfl rfl ?_
  refine own_iloadN (pc' := 71) X42 hx (hb hby own_d1_70) rfl rfl ?_
  refine own_iastore (pc' := 72) X42 hx hZ e42 V42 (hb hby own_d1_71) rfl (by decide) 4 rfl (by simp) N42 ge32 ?_
  intro T44 h44 L44 X44 e44 N44 W44 V44
  replace V44 : Arv Z h44 a31 k31 .int (6 : Int32) [(.int (0 : Int32)), (.int (x0 - (1 : Int32))), (.int (x1 + (1 : Int32))), (.int (x2 - (1 : Int32))), (.int (x3 + (1 : Int32))), (.int (0 : Int32))] (.int (0 : Int32)) := V44
  show own_Ends p e below s _ _ _ T44 (mkF m 72 #[.val (.ref b), .val (.ref a31), .val (.int (4 : Int32)), .val (.int (x3 + (1 : Int32))), .val (.int (4 : Int32))] [])
  refine own_aloadN (pc' := 73) X44 hx (hb hby own_d1_72) rfl rfl rfl ?_
  refine own_iloadN (pc' := 74) X44 hx (hb hby own_d1_73) rfl rfl ?_
  refine own_iconst (pc' := 75) (z := (1 : Int32)) X44 hx (hb hby own_d1_74) rfl rfl ?_
  refine own_iadd (pc' := 76) (z := (5 : Int32)) X44 hx (hb hby own_d1_75) rfl (by decide) ?_
  refine own_ldcI (pc' := 78) X44 hx hZ hown (own_w8 hw) (hb hby own_d1_76) rfl ?_
  refine own_iastore (pc' := 79) X44 hx hZ e44 V44 (hb hby own_d1_78) rfl (by decide) 5 rfl (by simp) N44 ge32 ?_
  intro T45 h45 L45 X45 e45 N45 W45 V45
  replace V45 : Arv Z h45 a31 k31 .int (6 : Int32) [(.int (0 : Int32)), (.int (x0 - (1 : Int32))), (.int (x1 + (1 : Int32))), (.int (x2 - (1 : Int32))), (.int (x3 + (1 : Int32))), (.int (1114111 : Int32))] (.int (0 : Int32)) := V45
  show own_Ends p e below s _ _ _ T45 (mkF m 79 #[.val (.ref b), .val (.ref a31), .val (.int (4 : Int32)), .val (.int (x3 + (1 : Int32))), .val (.int (4 : Int32))] [])
  refine own_iinc (pc' := 82) (z := (6 : Int32)) (l' := #[.val (.ref b), .val (.ref a31), .val (.int (6 : Int32)), .val (.int (x3 + (1 : Int32))), .val (.int (4 : Int32))]) X45 hx (hb hby own_d1_79) rfl rfl (by decide) rfl ?_
  refine own_aloadN (pc' := 83) X45 hx (hb hby own_d1_82) rfl rfl rfl ?_
  refine own_iloadN (pc' := 84) X45 hx (hb hby own_d1_83) rfl rfl ?_
  have f46 := ((((((Ex31.wr W36).wr W38).wr W40).wr W42).wr W44).wr W45)
  have f47 := (Nat.le_trans (Nat.le_trans (Nat.le_trans (Nat.le_trans (Nat.le_trans (Nat.le_trans (Nat.le_trans Z0 E31.1) (Keep.of_wr W36).1) (Keep.of_wr W38).1) (Keep.of_wr W40).1) (Keep.of_wr W42).1) (Keep.of_wr W44).1) (Keep.of_wr W45).1)
  refine own_callS (pc' := 87) (y := (⟨"java/util/Arrays", "copyOf", "([II)[I"⟩ : MethodName)) (W := 0) (rm := own_room2_6_6) (argsL := [(.ref a31), (.int (6 : Int32))]) (rest := []) X45 hx hZ e45 hown (by rw [hml]; rfl) (own_w9 hw) (own_w10 hw) (own_w11 hw) (own_w12 hw) (by decide) (own_rm2_6_6 l Z a0 hw [] a31 k31 (0 : Int32) (x0 - (1 : Int32)) (x1 + (1 : Int32)) (x2 - (1 : Int32)) (x3 + (1 : Int32)) (1114111 : Int32) h45 n0 f47 V45 f46) (by decide) (by decide) (by decide) (by decide) (lenOf own_pd1 rfl) rfl (by exact Nat.le_of_eq rfl) (hb hby own_d1_84) rfl ?_
  intro T48 Lc48 v48 X48 hQ48
  obtain ⟨ra48, rk48, rfl, Nq48, Kq48, G48_0, G48_1⟩ := hQ48
  have N48 := Fr.app N45 Nq48
  have ge49 : n0 ≤ ra48 := Nat.le_trans f47 G48_0
  have f50 := (((((((K0.ext E31).wr W36 (Or.inr sz33)).wr W38 (Or.inr sz33)).wr W40 (Or.inr sz33)).wr W42 (Or.inr sz33)).wr W44 (Or.inr sz33)).wr W45 (Or.inr sz33))
  have sz51 : h0.size ≤ ra48 := Nat.le_trans f50.1 G48_0
  have f52 := ((f43.other W44 ne34).other W45 ne34)
  have ne53 : b ≠ ra48 := Nat.ne_of_lt (Nat.lt_of_lt_of_le f52.lt G48_0)
  have ne54 : a31 ≠ ra48 := Nat.ne_of_lt (Nat.lt_of_lt_of_le V45.lt G48_0)
  show own_Ends p e below s _ _ _ T48 (mkF m 87 #[.val (.ref b), .val (.ref a31), .val (.int (6 : Int32)), .val (.int (x3 + (1 : Int32))), .val (.int (4 : Int32))] [(.ref ra48)])
  refine own_retA X48 hx hlk hret rfl rfl rfl (hb hby own_d1_87) (by decide) (by decide) ?_
  have f55 := (f50.trans Kq48 all0)
  exact ⟨_, _, rfl, N48, f55, sz51, G48_1⟩
def own_room3_0 : Room := { frames := 0, cells := 0, slots := 0, locals := 0 }
def own_Q3_0 (Z : State) (g : Addr) (f : Addr) (gk : ClassId) (fk : ClassId) (y0 : Int32) (y1 : Int32) (y2 : Int32) (y3 : Int32) (y4 : Int32) (y5 : Int32) (h0 : Heap) (n0 : Nat) (v : Option Value) (h : Heap) (L : List Loc) : Prop := v = some (.int 1) ∧ Fr n0 L ∧ h = h0
theorem own_ef_rm3_0 (m : MethodId) (x0 : Addr) (x1 : Addr) (x2 : Int32) : entryFrame m #[(.ref x0), (.ref x1), (.int x2)] 3 = mkF m 0 #[.val (.ref x0), .val (.ref x1), .val (.int x2)] [] := by first | (simp [entryFrame, mkF, argsToLocals, Value.category]; done) | rfl
set_option maxRecDepth 65536 in
set_option maxHeartbeats 40000000 in
theorem own_rm3_0 (l : Launch) (Z : State) (a0 : Array Value) (hw : ∀ d ∈ tables_1, d.before a0 Z = true) (ws : List Jvm.Cond) (g : Addr) (f : Addr) (gk : ClassId) (fk : ClassId) (y0 : Int32) (y1 : Int32) (y2 : Int32) (y3 : Int32) (y4 : Int32) (y5 : Int32) (h0 : Heap) (n0 : Nat) (V0 : Arv Z h0 g gk .int (0 : Int32) [] (.int (0 : Int32))) (V1 : Arv Z h0 f fk .int (6 : Int32) [(.int y0), (.int y1), (.int y2), (.int y3), (.int y4), (.int y5)] (.int (0 : Int32))) :
    MetFree l (⟨"com/example/exacting_validator/exactingvalidator/pattern/CodePointSetsComplementPinLaw", "same", "([I[II)Z"⟩ : MethodName) (head1 (Jvm.Cond.code (⟨"com/example/exacting_validator/exactingvalidator/pattern/CodePointSetsComplementPinLaw", "same", "([I[II)Z"⟩ : MethodName) method_3_code 3 (some .boolean) :: ws) own_room3_0) (fun zz U => zz = #[(.ref g), (.ref f), (.int (0 : Int32))] ∧ Z.Warmed39 U.vm ∧ U.heap = h0) (fun _ _ _ _ _ => True) (fun _ U o U' => ∃ v L, o = .returned v ∧ own_Q3_0 Z g f gk fk y0 y1 y2 y3 y4 y5 h0 n0 v U'.heap L ∧ FrameEnd U o U' L own_room3_0.cells own_room3_0.slots) := by
  refine MetFree.of_bodySF (plainFor_of_name own_pn2) hisR ?_
  intro p e s m args below meth c s₁ Bd hml0 hP hK
  obtain ⟨rfl, hZ, hh⟩ := hP
  have hx := Bd.exec
  have hby := Bd.bytes
  have hml : c.maxLocals = 3 := hml0
  have hown : s.vm.findClass "com/example/exacting_validator/exactingvalidator/pattern/CodePointSetsComplementPinLaw" = some m.cls := findClass_of_methodNamed Bd.named
  have hnm := (name_of_methodNamed Bd.named Bd.method).1
  have hlk : meth.locks = false := BodyLoose.notSynchronized Bd
  have hret := Bd.returns
  have X0 : Stand p l e own_room3_0 s m #[(.ref g), (.ref f), (.int (0 : Int32))] below meth c s₁ [] 0 0 := Stand.of_body Bd
  have e0 : s₁.heap = h0 := by rw [← hh, Bd.state]; rfl
  have N0 := Fr.nil n0
  show own_Ends p e below s (own_Q3_0 Z g f gk fk y0 y1 y2 y3 y4 y5 h0 n0) own_room3_0.cells own_room3_0.slots s₁ (entryFrame m #[(.ref g), (.ref f), (.int (0 : Int32))] 3)
  refine own_cast (own_ef_rm3_0 m g f (0 : Int32)) ?_
  refine own_aloadN (pc' := 1) X0 hx (hb hby own_d3_0) rfl rfl rfl ?_
  refine own_ifnullNo (pc' := 4) X0 hx (hb hby own_d3_1) rfl ?_
  refine own_aloadN (pc' := 5) X0 hx (hb hby own_d3_4) rfl rfl rfl ?_
  refine own_alen (pc' := 6) X0 hx hZ e0 V0 (hb hby own_d3_5) rfl ?_
  refine own_iloadN (pc' := 7) X0 hx (hb hby own_d3_6) rfl rfl ?_
  refine own_icmpYes (pc' := 12) X0 hx (hb hby own_d3_7) (teq (by decide)).1 (by decide) (by decide) ?_
  refine own_iloadN (pc' := 13) X0 hx (hb hby own_d3_12) rfl rfl ?_
  refine own_ifYes (pc' := 25) X0 hx (hb hby own_d3_13) (flt (by decide)).2.2.2 (by decide) (by decide) ?_
  refine own_iloadN (pc' := 26) X0 hx (hb hby own_d3_25) rfl rfl ?_
  refine own_iconst (pc' := 27) (z := (1 : Int32)) X0 hx (hb hby own_d3_26) rfl rfl ?_
  refine own_icmpYes (pc' := 39) X0 hx (hb hby own_d3_27) (flt (by decide)).2.2.2 (by decide) (by decide) ?_
  refine own_iloadN (pc' := 40) X0 hx (hb hby own_d3_39) rfl rfl ?_
  refine own_iconst (pc' := 41) (z := (2 : Int32)) X0 hx (hb hby own_d3_40) rfl rfl ?_
  refine own_icmpYes (pc' := 53) X0 hx (hb hby own_d3_41) (flt (by decide)).2.2.2 (by decide) (by decide) ?_
  refine own_iloadN (pc' := 54) X0 hx (hb hby own_d3_53) rfl rfl ?_
  refine own_iconst (pc' := 55) (z := (3 : Int32)) X0 hx (hb hby own_d3_54) rfl rfl ?_
  refine own_icmpYes (pc' := 67) X0 hx (hb hby own_d3_55) (flt (by decide)).2.2.2 (by decide) (by decide) ?_
  refine own_iloadN (pc' := 68) X0 hx (hb hby own_d3_67) rfl rfl ?_
  refine own_iconst (pc' := 69) (z := (4 : Int32)) X0 hx (hb hby own_d3_68) rfl rfl ?_
  refine own_icmpYes (pc' := 81) X0 hx (hb hby own_d3_69) (flt (by decide)).2.2.2 (by decide) (by decide) ?_
  refine own_iloadN (pc' := 82) X0 hx (hb hby own_d3_81) rfl rfl ?_
  refine own_iconst (pc' := 83) (z := (5 : Int32)) X0 hx (hb hby own_d3_82) rfl rfl ?_
  refine own_icmpYes (pc' := 95) X0 hx (hb hby own_d3_83) (flt (by decide)).2.2.2 (by decide) (by decide) ?_
  refine own_iconst (pc' := 96) (z := (1 : Int32)) X0 hx (hb hby own_d3_95) rfl rfl ?_
  refine own_goto (pc' := 100) X0 hx (hb hby own_d3_96) (by decide) (by decide) ?_
  refine own_retN X0 hx hlk hret (by simp) (hb hby own_d3_100) (by decide) (by decide) ?_
  exact ⟨rfl, N0, e0⟩
def own_room3_2 : Room := { frames := 0, cells := 0, slots := 0, locals := 0 }
def own_Q3_2 (Z : State) (g : Addr) (f : Addr) (gk : ClassId) (fk : ClassId) (g0 : Int32) (g1 : Int32) (y2 : Int32) (y3 : Int32) (y4 : Int32) (y5 : Int32) (h0 : Heap) (n0 : Nat) (v : Option Value) (h : Heap) (L : List Loc) : Prop := v = some (.int 1) ∧ Fr n0 L ∧ h = h0
theorem own_ef_rm3_2 (m : MethodId) (x0 : Addr) (x1 : Addr) (x2 : Int32) : entryFrame m #[(.ref x0), (.ref x1), (.int x2)] 3 = mkF m 0 #[.val (.ref x0), .val (.ref x1), .val (.int x2)] [] := by first | (simp [entryFrame, mkF, argsToLocals, Value.category]; done) | rfl
set_option maxRecDepth 65536 in
set_option maxHeartbeats 40000000 in
theorem own_rm3_2 (l : Launch) (Z : State) (a0 : Array Value) (hw : ∀ d ∈ tables_1, d.before a0 Z = true) (ws : List Jvm.Cond) (g : Addr) (f : Addr) (gk : ClassId) (fk : ClassId) (g0 : Int32) (g1 : Int32) (y2 : Int32) (y3 : Int32) (y4 : Int32) (y5 : Int32) (h0 : Heap) (n0 : Nat) (V0 : Arv Z h0 g gk .int (2 : Int32) [(.int g0), (.int g1)] (.int (0 : Int32))) (V1 : Arv Z h0 f fk .int (6 : Int32) [(.int g0), (.int g1), (.int y2), (.int y3), (.int y4), (.int y5)] (.int (0 : Int32))) :
    MetFree l (⟨"com/example/exacting_validator/exactingvalidator/pattern/CodePointSetsComplementPinLaw", "same", "([I[II)Z"⟩ : MethodName) (head1 (Jvm.Cond.code (⟨"com/example/exacting_validator/exactingvalidator/pattern/CodePointSetsComplementPinLaw", "same", "([I[II)Z"⟩ : MethodName) method_3_code 3 (some .boolean) :: ws) own_room3_2) (fun zz U => zz = #[(.ref g), (.ref f), (.int (2 : Int32))] ∧ Z.Warmed39 U.vm ∧ U.heap = h0) (fun _ _ _ _ _ => True) (fun _ U o U' => ∃ v L, o = .returned v ∧ own_Q3_2 Z g f gk fk g0 g1 y2 y3 y4 y5 h0 n0 v U'.heap L ∧ FrameEnd U o U' L own_room3_2.cells own_room3_2.slots) := by
  refine MetFree.of_bodySF (plainFor_of_name own_pn2) hisR ?_
  intro p e s m args below meth c s₁ Bd hml0 hP hK
  obtain ⟨rfl, hZ, hh⟩ := hP
  have hx := Bd.exec
  have hby := Bd.bytes
  have hml : c.maxLocals = 3 := hml0
  have hown : s.vm.findClass "com/example/exacting_validator/exactingvalidator/pattern/CodePointSetsComplementPinLaw" = some m.cls := findClass_of_methodNamed Bd.named
  have hnm := (name_of_methodNamed Bd.named Bd.method).1
  have hlk : meth.locks = false := BodyLoose.notSynchronized Bd
  have hret := Bd.returns
  have X0 : Stand p l e own_room3_2 s m #[(.ref g), (.ref f), (.int (2 : Int32))] below meth c s₁ [] 0 0 := Stand.of_body Bd
  have e0 : s₁.heap = h0 := by rw [← hh, Bd.state]; rfl
  have N0 := Fr.nil n0
  show own_Ends p e below s (own_Q3_2 Z g f gk fk g0 g1 y2 y3 y4 y5 h0 n0) own_room3_2.cells own_room3_2.slots s₁ (entryFrame m #[(.ref g), (.ref f), (.int (2 : Int32))] 3)
  refine own_cast (own_ef_rm3_2 m g f (2 : Int32)) ?_
  refine own_aloadN (pc' := 1) X0 hx (hb hby own_d3_0) rfl rfl rfl ?_
  refine own_ifnullNo (pc' := 4) X0 hx (hb hby own_d3_1) rfl ?_
  refine own_aloadN (pc' := 5) X0 hx (hb hby own_d3_4) rfl rfl rfl ?_
  refine own_alen (pc' := 6) X0 hx hZ e0 V0 (hb hby own_d3_5) rfl ?_
  refine own_iloadN (pc' := 7) X0 hx (hb hby own_d3_6) rfl rfl ?_
  refine own_icmpYes (pc' := 12) X0 hx (hb hby own_d3_7) (teq (by decide)).1 (by decide) (by decide) ?_
  refine own_iloadN (pc' := 13) X0 hx (hb hby own_d3_12) rfl rfl ?_
  refine own_ifNo (pc' := 16) X0 hx (hb hby own_d3_13) rfl (tlt (by decide)).2.2.2 ?_
  refine own_aloadN (pc' := 17) X0 hx (hb hby own_d3_16) rfl rfl rfl ?_
  refine own_iconst (pc' := 18) (z := (0 : Int32)) X0 hx (hb hby own_d3_17) rfl rfl ?_
  refine own_iaload (pc' := 19) X0 hx hZ e0 V0 (hb hby own_d3_18) rfl (by decide) rfl ?_
  refine own_aloadN (pc' := 20) X0 hx (hb hby own_d3_19) rfl rfl rfl ?_
  refine own_iconst (pc' := 21) (z := (0 : Int32)) X0 hx (hb hby own_d3_20) rfl rfl ?_
  refine own_iaload (pc' := 22) X0 hx hZ e0 V1 (hb hby own_d3_21) rfl (by decide) rfl ?_
  refine own_icmpNo (pc' := 25) X0 hx (hb hby own_d3_22) rfl (teq rfl).2 ?_
  refine own_iloadN (pc' := 26) X0 hx (hb hby own_d3_25) rfl rfl ?_
  refine own_iconst (pc' := 27) (z := (1 : Int32)) X0 hx (hb hby own_d3_26) rfl rfl ?_
  refine own_icmpNo (pc' := 30) X0 hx (hb hby own_d3_27) rfl (tlt (by decide)).2.2.2 ?_
  refine own_aloadN (pc' := 31) X0 hx (hb hby own_d3_30) rfl rfl rfl ?_
  refine own_iconst (pc' := 32) (z := (1 : Int32)) X0 hx (hb hby own_d3_31) rfl rfl ?_
  refine own_iaload (pc' := 33) X0 hx hZ e0 V0 (hb hby own_d3_32) rfl (by decide) rfl ?_
  refine own_aloadN (pc' := 34) X0 hx (hb hby own_d3_33) rfl rfl rfl ?_
  refine own_iconst (pc' := 35) (z := (1 : Int32)) X0 hx (hb hby own_d3_34) rfl rfl ?_
  refine own_iaload (pc' := 36) X0 hx hZ e0 V1 (hb hby own_d3_35) rfl (by decide) rfl ?_
  refine own_icmpNo (pc' := 39) X0 hx (hb hby own_d3_36) rfl (teq rfl).2 ?_
  refine own_iloadN (pc' := 40) X0 hx (hb hby own_d3_39) rfl rfl ?_
  refine own_iconst (pc' := 41) (z := (2 : Int32)) X0 hx (hb hby own_d3_40) rfl rfl ?_
  refine own_icmpYes (pc' := 53) X0 hx (hb hby own_d3_41) (flt (by decide)).2.2.2 (by decide) (by decide) ?_
  refine own_iloadN (pc' := 54) X0 hx (hb hby own_d3_53) rfl rfl ?_
  refine own_iconst (pc' := 55) (z := (3 : Int32)) X0 hx (hb hby own_d3_54) rfl rfl ?_
  refine own_icmpYes (pc' := 67) X0 hx (hb hby own_d3_55) (flt (by decide)).2.2.2 (by decide) (by decide) ?_
  refine own_iloadN (pc' := 68) X0 hx (hb hby own_d3_67) rfl rfl ?_
  refine own_iconst (pc' := 69) (z := (4 : Int32)) X0 hx (hb hby own_d3_68) rfl rfl ?_
  refine own_icmpYes (pc' := 81) X0 hx (hb hby own_d3_69) (flt (by decide)).2.2.2 (by decide) (by decide) ?_
  refine own_iloadN (pc' := 82) X0 hx (hb hby own_d3_81) rfl rfl ?_
  refine own_iconst (pc' := 83) (z := (5 : Int32)) X0 hx (hb hby own_d3_82) rfl rfl ?_
  refine own_icmpYes (pc' := 95) X0 hx (hb hby own_d3_83) (flt (by decide)).2.2.2 (by decide) (by decide) ?_
  refine own_iconst (pc' := 96) (z := (1 : Int32)) X0 hx (hb hby own_d3_95) rfl rfl ?_
  refine own_goto (pc' := 100) X0 hx (hb hby own_d3_96) (by decide) (by decide) ?_
  refine own_retN X0 hx hlk hret (by simp) (hb hby own_d3_100) (by decide) (by decide) ?_
  exact ⟨rfl, N0, e0⟩
def own_room3_4 : Room := { frames := 0, cells := 0, slots := 0, locals := 0 }
def own_Q3_4 (Z : State) (g : Addr) (f : Addr) (gk : ClassId) (fk : ClassId) (g0 : Int32) (g1 : Int32) (g2 : Int32) (g3 : Int32) (y4 : Int32) (y5 : Int32) (h0 : Heap) (n0 : Nat) (v : Option Value) (h : Heap) (L : List Loc) : Prop := v = some (.int 1) ∧ Fr n0 L ∧ h = h0
theorem own_ef_rm3_4 (m : MethodId) (x0 : Addr) (x1 : Addr) (x2 : Int32) : entryFrame m #[(.ref x0), (.ref x1), (.int x2)] 3 = mkF m 0 #[.val (.ref x0), .val (.ref x1), .val (.int x2)] [] := by first | (simp [entryFrame, mkF, argsToLocals, Value.category]; done) | rfl
set_option maxRecDepth 65536 in
set_option maxHeartbeats 40000000 in
theorem own_rm3_4 (l : Launch) (Z : State) (a0 : Array Value) (hw : ∀ d ∈ tables_1, d.before a0 Z = true) (ws : List Jvm.Cond) (g : Addr) (f : Addr) (gk : ClassId) (fk : ClassId) (g0 : Int32) (g1 : Int32) (g2 : Int32) (g3 : Int32) (y4 : Int32) (y5 : Int32) (h0 : Heap) (n0 : Nat) (V0 : Arv Z h0 g gk .int (4 : Int32) [(.int g0), (.int g1), (.int g2), (.int g3)] (.int (0 : Int32))) (V1 : Arv Z h0 f fk .int (6 : Int32) [(.int g0), (.int g1), (.int g2), (.int g3), (.int y4), (.int y5)] (.int (0 : Int32))) :
    MetFree l (⟨"com/example/exacting_validator/exactingvalidator/pattern/CodePointSetsComplementPinLaw", "same", "([I[II)Z"⟩ : MethodName) (head1 (Jvm.Cond.code (⟨"com/example/exacting_validator/exactingvalidator/pattern/CodePointSetsComplementPinLaw", "same", "([I[II)Z"⟩ : MethodName) method_3_code 3 (some .boolean) :: ws) own_room3_4) (fun zz U => zz = #[(.ref g), (.ref f), (.int (4 : Int32))] ∧ Z.Warmed39 U.vm ∧ U.heap = h0) (fun _ _ _ _ _ => True) (fun _ U o U' => ∃ v L, o = .returned v ∧ own_Q3_4 Z g f gk fk g0 g1 g2 g3 y4 y5 h0 n0 v U'.heap L ∧ FrameEnd U o U' L own_room3_4.cells own_room3_4.slots) := by
  refine MetFree.of_bodySF (plainFor_of_name own_pn2) hisR ?_
  intro p e s m args below meth c s₁ Bd hml0 hP hK
  obtain ⟨rfl, hZ, hh⟩ := hP
  have hx := Bd.exec
  have hby := Bd.bytes
  have hml : c.maxLocals = 3 := hml0
  have hown : s.vm.findClass "com/example/exacting_validator/exactingvalidator/pattern/CodePointSetsComplementPinLaw" = some m.cls := findClass_of_methodNamed Bd.named
  have hnm := (name_of_methodNamed Bd.named Bd.method).1
  have hlk : meth.locks = false := BodyLoose.notSynchronized Bd
  have hret := Bd.returns
  have X0 : Stand p l e own_room3_4 s m #[(.ref g), (.ref f), (.int (4 : Int32))] below meth c s₁ [] 0 0 := Stand.of_body Bd
  have e0 : s₁.heap = h0 := by rw [← hh, Bd.state]; rfl
  have N0 := Fr.nil n0
  show own_Ends p e below s (own_Q3_4 Z g f gk fk g0 g1 g2 g3 y4 y5 h0 n0) own_room3_4.cells own_room3_4.slots s₁ (entryFrame m #[(.ref g), (.ref f), (.int (4 : Int32))] 3)
  refine own_cast (own_ef_rm3_4 m g f (4 : Int32)) ?_
  refine own_aloadN (pc' := 1) X0 hx (hb hby own_d3_0) rfl rfl rfl ?_
  refine own_ifnullNo (pc' := 4) X0 hx (hb hby own_d3_1) rfl ?_
  refine own_aloadN (pc' := 5) X0 hx (hb hby own_d3_4) rfl rfl rfl ?_
  refine own_alen (pc' := 6) X0 hx hZ e0 V0 (hb hby own_d3_5) rfl ?_
  refine own_iloadN (pc' := 7) X0 hx (hb hby own_d3_6) rfl rfl ?_
  refine own_icmpYes (pc' := 12) X0 hx (hb hby own_d3_7) (teq (by decide)).1 (by decide) (by decide) ?_
  refine own_iloadN (pc' := 13) X0 hx (hb hby own_d3_12) rfl rfl ?_
  refine own_ifNo (pc' := 16) X0 hx (hb hby own_d3_13) rfl (tlt (by decide)).2.2.2 ?_
  refine own_aloadN (pc' := 17) X0 hx (hb hby own_d3_16) rfl rfl rfl ?_
  refine own_iconst (pc' := 18) (z := (0 : Int32)) X0 hx (hb hby own_d3_17) rfl rfl ?_
  refine own_iaload (pc' := 19) X0 hx hZ e0 V0 (hb hby own_d3_18) rfl (by decide) rfl ?_
  refine own_aloadN (pc' := 20) X0 hx (hb hby own_d3_19) rfl rfl rfl ?_
  refine own_iconst (pc' := 21) (z := (0 : Int32)) X0 hx (hb hby own_d3_20) rfl rfl ?_
  refine own_iaload (pc' := 22) X0 hx hZ e0 V1 (hb hby own_d3_21) rfl (by decide) rfl ?_
  refine own_icmpNo (pc' := 25) X0 hx (hb hby own_d3_22) rfl (teq rfl).2 ?_
  refine own_iloadN (pc' := 26) X0 hx (hb hby own_d3_25) rfl rfl ?_
  refine own_iconst (pc' := 27) (z := (1 : Int32)) X0 hx (hb hby own_d3_26) rfl rfl ?_
  refine own_icmpNo (pc' := 30) X0 hx (hb hby own_d3_27) rfl (tlt (by decide)).2.2.2 ?_
  refine own_aloadN (pc' := 31) X0 hx (hb hby own_d3_30) rfl rfl rfl ?_
  refine own_iconst (pc' := 32) (z := (1 : Int32)) X0 hx (hb hby own_d3_31) rfl rfl ?_
  refine own_iaload (pc' := 33) X0 hx hZ e0 V0 (hb hby own_d3_32) rfl (by decide) rfl ?_
  refine own_aloadN (pc' := 34) X0 hx (hb hby own_d3_33) rfl rfl rfl ?_
  refine own_iconst (pc' := 35) (z := (1 : Int32)) X0 hx (hb hby own_d3_34) rfl rfl ?_
  refine own_iaload (pc' := 36) X0 hx hZ e0 V1 (hb hby own_d3_35) rfl (by decide) rfl ?_
  refine own_icmpNo (pc' := 39) X0 hx (hb hby own_d3_36) rfl (teq rfl).2 ?_
  refine own_iloadN (pc' := 40) X0 hx (hb hby own_d3_39) rfl rfl ?_
  refine own_iconst (pc' := 41) (z := (2 : Int32)) X0 hx (hb hby own_d3_40) rfl rfl ?_
  refine own_icmpNo (pc' := 44) X0 hx (hb hby own_d3_41) rfl (tlt (by decide)).2.2.2 ?_
  refine own_aloadN (pc' := 45) X0 hx (hb hby own_d3_44) rfl rfl rfl ?_
  refine own_iconst (pc' := 46) (z := (2 : Int32)) X0 hx (hb hby own_d3_45) rfl rfl ?_
  refine own_iaload (pc' := 47) X0 hx hZ e0 V0 (hb hby own_d3_46) rfl (by decide) rfl ?_
  refine own_aloadN (pc' := 48) X0 hx (hb hby own_d3_47) rfl rfl rfl ?_
  refine own_iconst (pc' := 49) (z := (2 : Int32)) X0 hx (hb hby own_d3_48) rfl rfl ?_
  refine own_iaload (pc' := 50) X0 hx hZ e0 V1 (hb hby own_d3_49) rfl (by decide) rfl ?_
  refine own_icmpNo (pc' := 53) X0 hx (hb hby own_d3_50) rfl (teq rfl).2 ?_
  refine own_iloadN (pc' := 54) X0 hx (hb hby own_d3_53) rfl rfl ?_
  refine own_iconst (pc' := 55) (z := (3 : Int32)) X0 hx (hb hby own_d3_54) rfl rfl ?_
  refine own_icmpNo (pc' := 58) X0 hx (hb hby own_d3_55) rfl (tlt (by decide)).2.2.2 ?_
  refine own_aloadN (pc' := 59) X0 hx (hb hby own_d3_58) rfl rfl rfl ?_
  refine own_iconst (pc' := 60) (z := (3 : Int32)) X0 hx (hb hby own_d3_59) rfl rfl ?_
  refine own_iaload (pc' := 61) X0 hx hZ e0 V0 (hb hby own_d3_60) rfl (by decide) rfl ?_
  refine own_aloadN (pc' := 62) X0 hx (hb hby own_d3_61) rfl rfl rfl ?_
  refine own_iconst (pc' := 63) (z := (3 : Int32)) X0 hx (hb hby own_d3_62) rfl rfl ?_
  refine own_iaload (pc' := 64) X0 hx hZ e0 V1 (hb hby own_d3_63) rfl (by decide) rfl ?_
  refine own_icmpNo (pc' := 67) X0 hx (hb hby own_d3_64) rfl (teq rfl).2 ?_
  refine own_iloadN (pc' := 68) X0 hx (hb hby own_d3_67) rfl rfl ?_
  refine own_iconst (pc' := 69) (z := (4 : Int32)) X0 hx (hb hby own_d3_68) rfl rfl ?_
  refine own_icmpYes (pc' := 81) X0 hx (hb hby own_d3_69) (flt (by decide)).2.2.2 (by decide) (by decide) ?_
  refine own_iloadN (pc' := 82) X0 hx (hb hby own_d3_81) rfl rfl ?_
  refine own_iconst (pc' := 83) (z := (5 : Int32)) X0 hx (hb hby own_d3_82) rfl rfl ?_
  refine own_icmpYes (pc' := 95) X0 hx (hb hby own_d3_83) (flt (by decide)).2.2.2 (by decide) (by decide) ?_
  refine own_iconst (pc' := 96) (z := (1 : Int32)) X0 hx (hb hby own_d3_95) rfl rfl ?_
  refine own_goto (pc' := 100) X0 hx (hb hby own_d3_96) (by decide) (by decide) ?_
  refine own_retN X0 hx hlk hret (by simp) (hb hby own_d3_100) (by decide) (by decide) ?_
  exact ⟨rfl, N0, e0⟩
def own_room3_6 : Room := { frames := 0, cells := 0, slots := 0, locals := 0 }
def own_Q3_6 (Z : State) (g : Addr) (f : Addr) (gk : ClassId) (fk : ClassId) (g0 : Int32) (g1 : Int32) (g2 : Int32) (g3 : Int32) (g4 : Int32) (g5 : Int32) (h0 : Heap) (n0 : Nat) (v : Option Value) (h : Heap) (L : List Loc) : Prop := v = some (.int 1) ∧ Fr n0 L ∧ h = h0
theorem own_ef_rm3_6 (m : MethodId) (x0 : Addr) (x1 : Addr) (x2 : Int32) : entryFrame m #[(.ref x0), (.ref x1), (.int x2)] 3 = mkF m 0 #[.val (.ref x0), .val (.ref x1), .val (.int x2)] [] := by first | (simp [entryFrame, mkF, argsToLocals, Value.category]; done) | rfl
set_option maxRecDepth 65536 in
set_option maxHeartbeats 40000000 in
theorem own_rm3_6 (l : Launch) (Z : State) (a0 : Array Value) (hw : ∀ d ∈ tables_1, d.before a0 Z = true) (ws : List Jvm.Cond) (g : Addr) (f : Addr) (gk : ClassId) (fk : ClassId) (g0 : Int32) (g1 : Int32) (g2 : Int32) (g3 : Int32) (g4 : Int32) (g5 : Int32) (h0 : Heap) (n0 : Nat) (V0 : Arv Z h0 g gk .int (6 : Int32) [(.int g0), (.int g1), (.int g2), (.int g3), (.int g4), (.int g5)] (.int (0 : Int32))) (V1 : Arv Z h0 f fk .int (6 : Int32) [(.int g0), (.int g1), (.int g2), (.int g3), (.int g4), (.int g5)] (.int (0 : Int32))) :
    MetFree l (⟨"com/example/exacting_validator/exactingvalidator/pattern/CodePointSetsComplementPinLaw", "same", "([I[II)Z"⟩ : MethodName) (head1 (Jvm.Cond.code (⟨"com/example/exacting_validator/exactingvalidator/pattern/CodePointSetsComplementPinLaw", "same", "([I[II)Z"⟩ : MethodName) method_3_code 3 (some .boolean) :: ws) own_room3_6) (fun zz U => zz = #[(.ref g), (.ref f), (.int (6 : Int32))] ∧ Z.Warmed39 U.vm ∧ U.heap = h0) (fun _ _ _ _ _ => True) (fun _ U o U' => ∃ v L, o = .returned v ∧ own_Q3_6 Z g f gk fk g0 g1 g2 g3 g4 g5 h0 n0 v U'.heap L ∧ FrameEnd U o U' L own_room3_6.cells own_room3_6.slots) := by
  refine MetFree.of_bodySF (plainFor_of_name own_pn2) hisR ?_
  intro p e s m args below meth c s₁ Bd hml0 hP hK
  obtain ⟨rfl, hZ, hh⟩ := hP
  have hx := Bd.exec
  have hby := Bd.bytes
  have hml : c.maxLocals = 3 := hml0
  have hown : s.vm.findClass "com/example/exacting_validator/exactingvalidator/pattern/CodePointSetsComplementPinLaw" = some m.cls := findClass_of_methodNamed Bd.named
  have hnm := (name_of_methodNamed Bd.named Bd.method).1
  have hlk : meth.locks = false := BodyLoose.notSynchronized Bd
  have hret := Bd.returns
  have X0 : Stand p l e own_room3_6 s m #[(.ref g), (.ref f), (.int (6 : Int32))] below meth c s₁ [] 0 0 := Stand.of_body Bd
  have e0 : s₁.heap = h0 := by rw [← hh, Bd.state]; rfl
  have N0 := Fr.nil n0
  show own_Ends p e below s (own_Q3_6 Z g f gk fk g0 g1 g2 g3 g4 g5 h0 n0) own_room3_6.cells own_room3_6.slots s₁ (entryFrame m #[(.ref g), (.ref f), (.int (6 : Int32))] 3)
  refine own_cast (own_ef_rm3_6 m g f (6 : Int32)) ?_
  refine own_aloadN (pc' := 1) X0 hx (hb hby own_d3_0) rfl rfl rfl ?_
  refine own_ifnullNo (pc' := 4) X0 hx (hb hby own_d3_1) rfl ?_
  refine own_aloadN (pc' := 5) X0 hx (hb hby own_d3_4) rfl rfl rfl ?_
  refine own_alen (pc' := 6) X0 hx hZ e0 V0 (hb hby own_d3_5) rfl ?_
  refine own_iloadN (pc' := 7) X0 hx (hb hby own_d3_6) rfl rfl ?_
  refine own_icmpYes (pc' := 12) X0 hx (hb hby own_d3_7) (teq (by decide)).1 (by decide) (by decide) ?_
  refine own_iloadN (pc' := 13) X0 hx (hb hby own_d3_12) rfl rfl ?_
  refine own_ifNo (pc' := 16) X0 hx (hb hby own_d3_13) rfl (tlt (by decide)).2.2.2 ?_
  refine own_aloadN (pc' := 17) X0 hx (hb hby own_d3_16) rfl rfl rfl ?_
  refine own_iconst (pc' := 18) (z := (0 : Int32)) X0 hx (hb hby own_d3_17) rfl rfl ?_
  refine own_iaload (pc' := 19) X0 hx hZ e0 V0 (hb hby own_d3_18) rfl (by decide) rfl ?_
  refine own_aloadN (pc' := 20) X0 hx (hb hby own_d3_19) rfl rfl rfl ?_
  refine own_iconst (pc' := 21) (z := (0 : Int32)) X0 hx (hb hby own_d3_20) rfl rfl ?_
  refine own_iaload (pc' := 22) X0 hx hZ e0 V1 (hb hby own_d3_21) rfl (by decide) rfl ?_
  refine own_icmpNo (pc' := 25) X0 hx (hb hby own_d3_22) rfl (teq rfl).2 ?_
  refine own_iloadN (pc' := 26) X0 hx (hb hby own_d3_25) rfl rfl ?_
  refine own_iconst (pc' := 27) (z := (1 : Int32)) X0 hx (hb hby own_d3_26) rfl rfl ?_
  refine own_icmpNo (pc' := 30) X0 hx (hb hby own_d3_27) rfl (tlt (by decide)).2.2.2 ?_
  refine own_aloadN (pc' := 31) X0 hx (hb hby own_d3_30) rfl rfl rfl ?_
  refine own_iconst (pc' := 32) (z := (1 : Int32)) X0 hx (hb hby own_d3_31) rfl rfl ?_
  refine own_iaload (pc' := 33) X0 hx hZ e0 V0 (hb hby own_d3_32) rfl (by decide) rfl ?_
  refine own_aloadN (pc' := 34) X0 hx (hb hby own_d3_33) rfl rfl rfl ?_
  refine own_iconst (pc' := 35) (z := (1 : Int32)) X0 hx (hb hby own_d3_34) rfl rfl ?_
  refine own_iaload (pc' := 36) X0 hx hZ e0 V1 (hb hby own_d3_35) rfl (by decide) rfl ?_
  refine own_icmpNo (pc' := 39) X0 hx (hb hby own_d3_36) rfl (teq rfl).2 ?_
  refine own_iloadN (pc' := 40) X0 hx (hb hby own_d3_39) rfl rfl ?_
  refine own_iconst (pc' := 41) (z := (2 : Int32)) X0 hx (hb hby own_d3_40) rfl rfl ?_
  refine own_icmpNo (pc' := 44) X0 hx (hb hby own_d3_41) rfl (tlt (by decide)).2.2.2 ?_
  refine own_aloadN (pc' := 45) X0 hx (hb hby own_d3_44) rfl rfl rfl ?_
  refine own_iconst (pc' := 46) (z := (2 : Int32)) X0 hx (hb hby own_d3_45) rfl rfl ?_
  refine own_iaload (pc' := 47) X0 hx hZ e0 V0 (hb hby own_d3_46) rfl (by decide) rfl ?_
  refine own_aloadN (pc' := 48) X0 hx (hb hby own_d3_47) rfl rfl rfl ?_
  refine own_iconst (pc' := 49) (z := (2 : Int32)) X0 hx (hb hby own_d3_48) rfl rfl ?_
  refine own_iaload (pc' := 50) X0 hx hZ e0 V1 (hb hby own_d3_49) rfl (by decide) rfl ?_
  refine own_icmpNo (pc' := 53) X0 hx (hb hby own_d3_50) rfl (teq rfl).2 ?_
  refine own_iloadN (pc' := 54) X0 hx (hb hby own_d3_53) rfl rfl ?_
  refine own_iconst (pc' := 55) (z := (3 : Int32)) X0 hx (hb hby own_d3_54) rfl rfl ?_
  refine own_icmpNo (pc' := 58) X0 hx (hb hby own_d3_55) rfl (tlt (by decide)).2.2.2 ?_
  refine own_aloadN (pc' := 59) X0 hx (hb hby own_d3_58) rfl rfl rfl ?_
  refine own_iconst (pc' := 60) (z := (3 : Int32)) X0 hx (hb hby own_d3_59) rfl rfl ?_
  refine own_iaload (pc' := 61) X0 hx hZ e0 V0 (hb hby own_d3_60) rfl (by decide) rfl ?_
  refine own_aloadN (pc' := 62) X0 hx (hb hby own_d3_61) rfl rfl rfl ?_
  refine own_iconst (pc' := 63) (z := (3 : Int32)) X0 hx (hb hby own_d3_62) rfl rfl ?_
  refine own_iaload (pc' := 64) X0 hx hZ e0 V1 (hb hby own_d3_63) rfl (by decide) rfl ?_
  refine own_icmpNo (pc' := 67) X0 hx (hb hby own_d3_64) rfl (teq rfl).2 ?_
  refine own_iloadN (pc' := 68) X0 hx (hb hby own_d3_67) rfl rfl ?_
  refine own_iconst (pc' := 69) (z := (4 : Int32)) X0 hx (hb hby own_d3_68) rfl rfl ?_
  refine own_icmpNo (pc' := 72) X0 hx (hb hby own_d3_69) rfl (tlt (by decide)).2.2.2 ?_
  refine own_aloadN (pc' := 73) X0 hx (hb hby own_d3_72) rfl rfl rfl ?_
  refine own_iconst (pc' := 74) (z := (4 : Int32)) X0 hx (hb hby own_d3_73) rfl rfl ?_
  refine own_iaload (pc' := 75) X0 hx hZ e0 V0 (hb hby own_d3_74) rfl (by decide) rfl ?_
  refine own_aloadN (pc' := 76) X0 hx (hb hby own_d3_75) rfl rfl rfl ?_
  refine own_iconst (pc' := 77) (z := (4 : Int32)) X0 hx (hb hby own_d3_76) rfl rfl ?_
  refine own_iaload (pc' := 78) X0 hx hZ e0 V1 (hb hby own_d3_77) rfl (by decide) rfl ?_
  refine own_icmpNo (pc' := 81) X0 hx (hb hby own_d3_78) rfl (teq rfl).2 ?_
  refine own_iloadN (pc' := 82) X0 hx (hb hby own_d3_81) rfl rfl ?_
  refine own_iconst (pc' := 83) (z := (5 : Int32)) X0 hx (hb hby own_d3_82) rfl rfl ?_
  refine own_icmpNo (pc' := 86) X0 hx (hb hby own_d3_83) rfl (tlt (by decide)).2.2.2 ?_
  refine own_aloadN (pc' := 87) X0 hx (hb hby own_d3_86) rfl rfl rfl ?_
  refine own_iconst (pc' := 88) (z := (5 : Int32)) X0 hx (hb hby own_d3_87) rfl rfl ?_
  refine own_iaload (pc' := 89) X0 hx hZ e0 V0 (hb hby own_d3_88) rfl (by decide) rfl ?_
  refine own_aloadN (pc' := 90) X0 hx (hb hby own_d3_89) rfl rfl rfl ?_
  refine own_iconst (pc' := 91) (z := (5 : Int32)) X0 hx (hb hby own_d3_90) rfl rfl ?_
  refine own_iaload (pc' := 92) X0 hx hZ e0 V1 (hb hby own_d3_91) rfl (by decide) rfl ?_
  refine own_icmpNo (pc' := 95) X0 hx (hb hby own_d3_92) rfl (teq rfl).2 ?_
  refine own_iconst (pc' := 96) (z := (1 : Int32)) X0 hx (hb hby own_d3_95) rfl rfl ?_
  refine own_goto (pc' := 100) X0 hx (hb hby own_d3_96) (by decide) (by decide) ?_
  refine own_retN X0 hx hlk hret (by simp) (hb hby own_d3_100) (by decide) (by decide) ?_
  exact ⟨rfl, N0, e0⟩
def own_Q0 (Z : State) (p0 : Int32) (p1 : Int32) (p2 : Int32) (p3 : Int32) (p4 : Int32) (h0 : Heap) (n0 : Nat) (v : Option Value) (h : Heap) (L : List Loc) : Prop := v = some (.int 1) ∧ Fr n0 L
theorem own_ef_rm0 (m : MethodId) (x0 : Int32) (x1 : Int32) (x2 : Int32) (x3 : Int32) (x4 : Int32) : entryFrame m #[(.int x0), (.int x1), (.int x2), (.int x3), (.int x4)] maxLocals = mkF m 0 #[.val (.int x0), .val (.int x1), .val (.int x2), .val (.int x3), .val (.int x4), .unset, .unset, .unset, .unset, .unset, .unset, .unset, .unset, .unset, .unset] [] := by first | (simp [entryFrame, mkF, argsToLocals, Value.category, maxLocals]; done) | rfl
set_option maxRecDepth 65536 in
set_option maxHeartbeats 40000000 in
theorem own_rm0 (l : Launch) (Z : State) (a0 : Array Value) (hw : ∀ d ∈ tables_1, d.before a0 Z = true) (ws : List Jvm.Cond) (p0 : Int32) (p1 : Int32) (p2 : Int32) (p3 : Int32) (p4 : Int32) (h0 : Heap) (n0 : Nat) (Z0 : n0 ≤ h0.size) :
    MetFree l x (head1 (Jvm.Cond.code x code maxLocals ret :: ws) room_1) (fun zz U => zz = #[(.int p0), (.int p1), (.int p2), (.int p3), (.int p4)] ∧ Z.Warmed39 U.vm ∧ U.heap = h0) (fun _ _ _ _ _ => True) (fun _ U o U' => ∃ v L, o = .returned v ∧ own_Q0 Z p0 p1 p2 p3 p4 h0 n0 v U'.heap L ∧ FrameEnd U o U' L 16 128) := by
  refine MetFree.of_bodySF (plainFor_of_name own_pn2) hisR ?_
  intro p e s m args below meth c s₁ Bd hml0 hP hK
  obtain ⟨rfl, hZ, hh⟩ := hP
  have hx := Bd.exec
  have hby := Bd.bytes
  have hml : c.maxLocals = 15 := hml0
  have hown : s.vm.findClass "com/example/exacting_validator/exactingvalidator/pattern/CodePointSetsComplementPinLaw" = some m.cls := findClass_of_methodNamed Bd.named
  have hnm := (name_of_methodNamed Bd.named Bd.method).1
  have hlk : meth.locks = false := BodyLoose.notSynchronized Bd
  have hret := Bd.returns
  have X0 : Stand p l e room_1 s m #[(.int p0), (.int p1), (.int p2), (.int p3), (.int p4)] below meth c s₁ [] 0 0 := Stand.of_body Bd
  have e0 : s₁.heap = h0 := by rw [← hh, Bd.state]; rfl
  have N0 := Fr.nil n0
  show own_Ends p e below s (own_Q0 Z p0 p1 p2 p3 p4 h0 n0) 16 128 s₁ (entryFrame m #[(.int p0), (.int p1), (.int p2), (.int p3), (.int p4)] maxLocals)
  refine own_cast (own_ef_rm0 m p0 p1 p2 p3 p4) ?_
  refine own_iload (pc' := 2) X0 hx (hb hby at_0) rfl rfl ?_
  refine own_ldcI (pc' := 4) X0 hx hZ hown (own_w0 hw) (hb hby at_2) rfl ?_
  refine own_iand (pc' := 5) (z := (p4 &&& (2147483647 : Int32))) X0 hx (hb hby at_4) rfl rfl ?_
  refine own_iconst (pc' := 6) (z := (3 : Int32)) X0 hx (hb hby at_5) rfl rfl ?_
  obtain ⟨n31, hn31⟩ : ∃ z, ((p4 &&& (2147483647 : Int32)) % (3 : Int32)) = z := ⟨_, rfl⟩
  refine own_irem (pc' := 7) (z := n31) X0 hx (hb hby at_6) rfl (by decide) hn31 ?_
  refine own_istore (pc' := 9) (l' := #[.val (.int p0), .val (.int p1), .val (.int p2), .val (.int p3), .val (.int p4), .val (.int n31), .unset, .unset, .unset, .unset, .unset, .unset, .unset, .unset, .unset]) X0 hx (hb hby at_7) rfl rfl ?_
  refine own_iloadN (pc' := 10) X0 hx (hb hby at_9) rfl rfl ?_
  refine own_ldcI (pc' := 12) X0 hx hZ hown (own_w0 hw) (hb hby at_10) rfl ?_
  refine own_iand (pc' := 13) (z := (p0 &&& (2147483647 : Int32))) X0 hx (hb hby at_12) rfl rfl ?_
  refine own_ldcI (pc' := 15) X0 hx hZ hown (own_w1 hw) (hb hby at_13) rfl ?_
  obtain ⟨a32, ha32⟩ : ∃ z, ((p0 &&& (2147483647 : Int32)) % (1114112 : Int32)) = z := ⟨_, rfl⟩
  refine own_irem (pc' := 16) (z := a32) X0 hx (hb hby at_15) rfl (by decide) ha32 ?_
  have ra := own_a ha32
  refine own_istore (pc' := 18) (l' := #[.val (.int p0), .val (.int p1), .val (.int p2), .val (.int p3), .val (.int p4), .val (.int n31), .val (.int a32), .unset, .unset, .unset, .unset, .unset, .unset, .unset, .unset]) X0 hx (hb hby at_16) rfl rfl ?_
  refine own_iload (pc' := 20) X0 hx (hb hby at_18) rfl rfl ?_
  refine own_iloadN (pc' := 21) X0 hx (hb hby at_20) rfl rfl ?_
  refine own_ldcI (pc' := 23) X0 hx hZ hown (own_w0 hw) (hb hby at_21) rfl ?_
  refine own_iand (pc' := 24) (z := (p1 &&& (2147483647 : Int32))) X0 hx (hb hby at_23) rfl rfl ?_
  refine own_ldcI (pc' := 26) X0 hx hZ hown (own_w1 hw) (hb hby at_24) rfl ?_
  refine own_iload (pc' := 28) X0 hx (hb hby at_26) rfl rfl ?_
  refine own_isub (pc' := 29) (z := ((1114112 : Int32) - a32)) X0 hx (hb hby at_28) rfl rfl ?_
  refine own_irem (pc' := 30) (z := ((p1 &&& (2147483647 : Int32)) % ((1114112 : Int32) - a32))) X0 hx (hb hby at_29) rfl (own_nz (by rw [own_R ra]; omega)) rfl ?_
  obtain ⟨b33, hb33⟩ : ∃ z, (a32 + ((p1 &&& (2147483647 : Int32)) % ((1114112 : Int32) - a32))) = z := ⟨_, rfl⟩
  refine own_iadd (pc' := 31) (z := b33) X0 hx (hb hby at_30) rfl hb33 ?_
  have rb := own_add (by rw [own_R ra]; omega) ⟨ra.1, by rw [own_R ra]; omega⟩ hb33
  rw [own_R ra] at rb
  refine own_istore (pc' := 33) (l' := #[.val (.int p0), .val (.int p1), .val (.int p2), .val (.int p3), .val (.int p4), .val (.int n31), .val (.int a32), .val (.int b33), .unset, .unset, .unset, .unset, .unset, .unset, .unset]) X0 hx (hb hby at_31) rfl rfl ?_
  refine own_iconst (pc' := 34) (z := (0 : Int32)) X0 hx (hb hby at_33) rfl rfl ?_
  refine own_istore (pc' := 36) (l' := #[.val (.int p0), .val (.int p1), .val (.int p2), .val (.int p3), .val (.int p4), .val (.int n31), .val (.int a32), .val (.int b33), .val (.int (0 : Int32)), .unset, .unset, .unset, .unset, .unset, .unset]) X0 hx (hb hby at_34) rfl rfl ?_
  refine own_iconst (pc' := 37) (z := (0 : Int32)) X0 hx (hb hby at_36) rfl rfl ?_
  refine own_istore (pc' := 39) (l' := #[.val (.int p0), .val (.int p1), .val (.int p2), .val (.int p3), .val (.int p4), .val (.int n31), .val (.int a32), .val (.int b33), .val (.int (0 : Int32)), .val (.int (0 : Int32)), .unset, .unset, .unset, .unset, .unset]) X0 hx (hb hby at_37) rfl rfl ?_
  rcases own_n3 hn31 with rfl | rfl | rfl
  · refine own_iload (pc' := 41) X0 hx (hb hby at_39) rfl rfl ?_
    refine own_iconst (pc' := 42) (z := (2 : Int32)) X0 hx (hb hby at_41) rfl rfl ?_
    refine own_icmpYes (pc' := 92) X0 hx (hb hby at_42) (feq (by decide)).2 (by decide) (by decide) ?_
    refine own_iload (pc' := 94) X0 hx (hb hby at_92) rfl rfl ?_
    refine own_ifNo (pc' := 97) X0 hx (hb hby at_94) rfl (teq (by decide)).2 ?_
    refine own_iconst (pc' := 98) (z := (0 : Int32)) X0 hx (hb hby at_97) rfl rfl ?_
    refine own_newarr (pc' := 100) (aty := .int) X0 hx hZ (own_w2 hw) e0 (hb hby at_98) rfl (by decide) 0 0 (by decide) (by decide) (by decide) (by decide) ?_
    intro T34 h34 a34 k34 X34 e34 E34 g34 V34
    replace V34 : Arv Z h34 a34 k34 .int (0 : Int32) [] (.int (0 : Int32)) := V34
    have ge35 : n0 ≤ a34 := by rw [g34]; exact Z0
    show own_Ends p e below s _ _ _ T34 (mkF m 100 #[.val (.int p0), .val (.int p1), .val (.int p2), .val (.int p3), .val (.int p4), .val (.int (0 : Int32)), .val (.int a32), .val (.int b33), .val (.int (0 : Int32)), .val (.int (0 : Int32)), .unset, .unset, .unset, .unset, .unset] [(.ref a34)])
    refine own_astore (pc' := 102) (l' := #[.val (.int p0), .val (.int p1), .val (.int p2), .val (.int p3), .val (.int p4), .val (.int (0 : Int32)), .val (.int a32), .val (.int b33), .val (.int (0 : Int32)), .val (.int (0 : Int32)), .val (.ref a34), .unset, .unset, .unset, .unset]) X34 hx (hb hby at_100) rfl rfl rfl ?_
    refine own_goto (pc' := 154) X34 hx (hb hby at_102) (by decide) (by decide) ?_
    refine own_bipush (pc' := 156) (z := (6 : Int32)) X34 hx (hb hby at_154) rfl rfl ?_
    refine own_newarr (pc' := 158) (aty := .int) X34 hx hZ (own_w2 hw) e34 (hb hby at_156) rfl (by decide) 6 6 (by decide) (by decide) (by decide) (by decide) ?_
    intro T36 h36 a36 k36 X36 e36 E36 g36 V36
    replace V36 : Arv Z h36 a36 k36 .int (6 : Int32) [(.int (0 : Int32)), (.int (0 : Int32)), (.int (0 : Int32)), (.int (0 : Int32)), (.int (0 : Int32)), (.int (0 : Int32))] (.int (0 : Int32)) := V36
    have f37 := (Nat.le_trans Z0 E34.1)
    have ge38 : n0 ≤ a36 := by rw [g36]; exact f37
    have ne39 : a34 ≠ a36 := Nat.ne_of_lt (by rw [g36]; exact V34.lt)
    show own_Ends p e below s _ _ _ T36 (mkF m 158 #[.val (.int p0), .val (.int p1), .val (.int p2), .val (.int p3), .val (.int p4), .val (.int (0 : Int32)), .val (.int a32), .val (.int b33), .val (.int (0 : Int32)), .val (.int (0 : Int32)), .val (.ref a34), .unset, .unset, .unset, .unset] [(.ref a36)])
    refine own_astore (pc' := 160) (l' := #[.val (.int p0), .val (.int p1), .val (.int p2), .val (.int p3), .val (.int p4), .val (.int (0 : Int32)), .val (.int a32), .val (.int b33), .val (.int (0 : Int32)), .val (.int (0 : Int32)), .val (.ref a34), .val (.ref a36), .unset, .unset, .unset]) X36 hx (hb hby at_158) rfl rfl rfl ?_
    refine own_iconst (pc' := 161) (z := (0 : Int32)) X36 hx (hb hby at_160) rfl rfl ?_
    refine own_istore (pc' := 163) (l' := #[.val (.int p0), .val (.int p1), .val (.int p2), .val (.int p3), .val (.int p4), .val (.int (0 : Int32)), .val (.int a32), .val (.int b33), .val (.int (0 : Int32)), .val (.int (0 : Int32)), .val (.ref a34), .val (.ref a36), .val (.int (0 : Int32)), .unset, .unset]) X36 hx (hb hby at_161) rfl rfl ?_
    refine own_iload (pc' := 165) X36 hx (hb hby at_163) rfl rfl ?_
    refine own_ifNo (pc' := 168) X36 hx (hb hby at_165) rfl (teq (by decide)).2 ?_
    refine own_aload (pc' := 170) X36 hx (hb hby at_168) rfl rfl rfl ?_
    refine own_iconst (pc' := 171) (z := (0 : Int32)) X36 hx (hb hby at_170) rfl rfl ?_
    refine own_iconst (pc' := 172) (z := (0 : Int32)) X36 hx (hb hby at_171) rfl rfl ?_
    refine own_iastore (pc' := 173) X36 hx hZ e36 V36 (hb hby at_172) rfl (by decide) 0 rfl (by simp) N0 ge38 ?_
    intro T40 h40 L40 X40 e40 N40 W40 V40
    replace V40 : Arv Z h40 a36 k36 .int (6 : Int32) [(.int (0 : Int32)), (.int (0 : Int32)), (.int (0 : Int32)), (.int (0 : Int32)), (.int (0 : Int32)), (.int (0 : Int32))] (.int (0 : Int32)) := V40
    show own_Ends p e below s _ _ _ T40 (mkF m 173 #[.val (.int p0), .val (.int p1), .val (.int p2), .val (.int p3), .val (.int p4), .val (.int (0 : Int32)), .val (.int a32), .val (.int b33), .val (.int (0 : Int32)), .val (.int (0 : Int32)), .val (.ref a34), .val (.ref a36), .val (.int (0 : Int32)), .unset, .unset] [])
    refine own_aload (pc' := 175) X40 hx (hb hby at_173) rfl rfl rfl ?_
    refine own_iconst (pc' := 176) (z := (1 : Int32)) X40 hx (hb hby at_175) rfl rfl ?_
    refine own_ldcI (pc' := 178) X40 hx hZ hown (own_w3 hw) (hb hby at_176) rfl ?_
    refine own_iastore (pc' := 179) X40 hx hZ e40 V40 (hb hby at_178) rfl (by decide) 1 rfl (by simp) N40 ge38 ?_
    intro T41 h41 L41 X41 e41 N41 W41 V41
    replace V41 : Arv Z h41 a36 k36 .int (6 : Int32) [(.int (0 : Int32)), (.int (1114111 : Int32)), (.int (0 : Int32)), (.int (0 : Int32)), (.int (0 : Int32)), (.int (0 : Int32))] (.int (0 : Int32)) := V41
    show own_Ends p e below s _ _ _ T41 (mkF m 179 #[.val (.int p0), .val (.int p1), .val (.int p2), .val (.int p3), .val (.int p4), .val (.int (0 : Int32)), .val (.int a32), .val (.int b33), .val (.int (0 : Int32)), .val (.int (0 : Int32)), .val (.ref a34), .val (.ref a36), .val (.int (0 : Int32)), .unset, .unset] [])
    refine own_iconst (pc' := 180) (z := (2 : Int32)) X41 hx (hb hby at_179) rfl rfl ?_
    refine own_istore (pc' := 182) (l' := #[.val (.int p0), .val (.int p1), .val (.int p2), .val (.int p3), .val (.int p4), .val (.int (0 : Int32)), .val (.int a32), .val (.int b33), .val (.int (0 : Int32)), .val (.int (0 : Int32)), .val (.ref a34), .val (.ref a36), .val (.int (2 : Int32)), .unset, .unset]) X41 hx (hb hby at_180) rfl rfl ?_
    refine own_goto (pc' := 282) X41 hx (hb hby at_182) (by decide) (by decide) ?_
    refine own_aload (pc' := 284) X41 hx (hb hby at_282) rfl rfl rfl ?_
    have f42 := (((V34.ext E36).other W40 ne39).other W41 ne39)
    have f43 := (Nat.le_trans (Nat.le_trans (Nat.le_trans f37 E36.1) (Keep.of_wr W40).1) (Keep.of_wr W41).1)
    refine own_callS (pc' := 287) (y := (⟨"com/example/exacting_validator/exactingvalidator/pattern/CodePointSets", "complement", "([I)[I"⟩ : MethodName)) (W := 0) (rm := own_room1_000) (argsL := [(.ref a34)]) (rest := []) X41 hx hZ e41 hown (by rw [hml]; rfl) (own_w4 hw) (own_w5 hw) (own_w6 hw) (own_w7 hw) (by decide) (own_rm1_000 l Z a0 hw [] a34 k34  h41 n0 f43 f42) (by decide) (by decide) (by decide) (by decide) (lenOf own_pd2 rfl) rfl (by exact Nat.le_of_eq rfl) (hb hby at_284) rfl ?_
    intro T44 Lc44 v44 X44 hQ44
    obtain ⟨ra44, rk44, rfl, Nq44, Kq44, G44_0, G44_1⟩ := hQ44
    have N44 := Fr.app N41 Nq44
    have ge45 : n0 ≤ ra44 := Nat.le_trans f43 G44_0
    have ne46 : a34 ≠ ra44 := Nat.ne_of_lt (Nat.lt_of_lt_of_le f42.lt G44_0)
    have ne47 : a36 ≠ ra44 := Nat.ne_of_lt (Nat.lt_of_lt_of_le V41.lt G44_0)
    show own_Ends p e below s _ _ _ T44 (mkF m 287 #[.val (.int p0), .val (.int p1), .val (.int p2), .val (.int p3), .val (.int p4), .val (.int (0 : Int32)), .val (.int a32), .val (.int b33), .val (.int (0 : Int32)), .val (.int (0 : Int32)), .val (.ref a34), .val (.ref a36), .val (.int (2 : Int32)), .unset, .unset] [(.ref ra44)])
    refine own_astore (pc' := 289) (l' := #[.val (.int p0), .val (.int p1), .val (.int p2), .val (.int p3), .val (.int p4), .val (.int (0 : Int32)), .val (.int a32), .val (.int b33), .val (.int (0 : Int32)), .val (.int (0 : Int32)), .val (.ref a34), .val (.ref a36), .val (.int (2 : Int32)), .val (.ref ra44), .unset]) X44 hx (hb hby at_287) rfl rfl rfl ?_
    refine own_iload (pc' := 291) X44 hx (hb hby at_289) rfl rfl ?_
    refine own_ifNo (pc' := 294) X44 hx (hb hby at_291) rfl (teq (by decide)).2 ?_
    refine own_aload (pc' := 296) X44 hx (hb hby at_294) rfl rfl rfl ?_
    have f48 := (f42.keep Kq44 nin0)
    refine own_alen (pc' := 297) X44 hx hZ rfl f48 (hb hby at_296) rfl ?_
    refine own_ifNo (pc' := 300) X44 hx (hb hby at_297) rfl (teq (by decide)).2 ?_
    refine own_iconst (pc' := 301) (z := (1 : Int32)) X44 hx (hb hby at_300) rfl rfl ?_
    refine own_goto (pc' := 305) X44 hx (hb hby at_301) (by decide) (by decide) ?_
    refine own_istore (pc' := 307) (l' := #[.val (.int p0), .val (.int p1), .val (.int p2), .val (.int p3), .val (.int p4), .val (.int (0 : Int32)), .val (.int a32), .val (.int b33), .val (.int (0 : Int32)), .val (.int (0 : Int32)), .val (.ref a34), .val (.ref a36), .val (.int (2 : Int32)), .val (.ref ra44), .val (.int (1 : Int32))]) X44 hx (hb hby at_305) rfl rfl ?_
    refine own_goto (pc' := 401) X44 hx (hb hby at_307) (by decide) (by decide) ?_
    refine own_iload (pc' := 403) X44 hx (hb hby at_401) rfl rfl ?_
    refine own_ifNo (pc' := 406) X44 hx (hb hby at_403) rfl (feq (by decide)).1 ?_
    refine own_aload (pc' := 408) X44 hx (hb hby at_406) rfl rfl rfl ?_
    refine own_aload (pc' := 410) X44 hx (hb hby at_408) rfl rfl rfl ?_
    refine own_iload (pc' := 412) X44 hx (hb hby at_410) rfl rfl ?_
    have f49 := (V41.keep Kq44 nin0)
    refine own_callS (pc' := 415) (y := (⟨"com/example/exacting_validator/exactingvalidator/pattern/CodePointSetsComplementPinLaw", "same", "([I[II)Z"⟩ : MethodName)) (W := 0) (rm := own_room3_2) (argsL := [(.ref ra44), (.ref a36), (.int (2 : Int32))]) (rest := []) X44 hx hZ rfl hown (by rw [hml]; rfl) (own_w22 hw) (own_w23 hw) (own_w24 hw) (own_w25 hw) (by decide) (own_rm3_2 l Z a0 hw [] ra44 a36 rk44 k36 (0 : Int32) (1114111 : Int32) (0 : Int32) (0 : Int32) (0 : Int32) (0 : Int32) T44.heap n0 G44_1 f49) (by decide) (by decide) (by decide) (by decide) (lenOf own_pd3 rfl) rfl (by exact Nat.le_of_eq rfl) (hb hby at_412) rfl ?_
    intro T50 Lc50 v50 X50 hQ50
    obtain ⟨rfl, Nq50, Kq50⟩ := hQ50
    have N50 := Fr.app N44 Nq50
    show own_Ends p e below s _ _ _ T50 (mkF m 415 #[.val (.int p0), .val (.int p1), .val (.int p2), .val (.int p3), .val (.int p4), .val (.int (0 : Int32)), .val (.int a32), .val (.int b33), .val (.int (0 : Int32)), .val (.int (0 : Int32)), .val (.ref a34), .val (.ref a36), .val (.int (2 : Int32)), .val (.ref ra44), .val (.int (1 : Int32))] [(.int (1 : Int32))])
    refine own_ifNo (pc' := 418) X50 hx (hb hby at_415) rfl (feq (by decide)).1 ?_
    refine own_iconst (pc' := 419) (z := (1 : Int32)) X50 hx (hb hby at_418) rfl rfl ?_
    refine own_goto (pc' := 423) X50 hx (hb hby at_419) (by decide) (by decide) ?_
    refine own_retN X50 hx hlk hret (by simp) (hb hby at_423) (by decide) (by decide) ?_
    exact ⟨rfl, N50⟩
  · refine own_iload (pc' := 41) X0 hx (hb hby at_39) rfl rfl ?_
    refine own_iconst (pc' := 42) (z := (2 : Int32)) X0 hx (hb hby at_41) rfl rfl ?_
    refine own_icmpYes (pc' := 92) X0 hx (hb hby at_42) (feq (by decide)).2 (by decide) (by decide) ?_
    refine own_iload (pc' := 94) X0 hx (hb hby at_92) rfl rfl ?_
    refine own_ifYes (pc' := 105) X0 hx (hb hby at_94) (feq (by decide)).2 (by decide) (by decide) ?_
    refine own_iload (pc' := 107) X0 hx (hb hby at_105) rfl rfl ?_
    refine own_iconst (pc' := 108) (z := (1 : Int32)) X0 hx (hb hby at_107) rfl rfl ?_
    refine own_icmpNo (pc' := 111) X0 hx (hb hby at_108) rfl (teq (by decide)).2 ?_
    refine own_iconst (pc' := 112) (z := (2 : Int32)) X0 hx (hb hby at_111) rfl rfl ?_
    refine own_newarr (pc' := 114) (aty := .int) X0 hx hZ (own_w2 hw) e0 (hb hby at_112) rfl (by decide) 2 2 (by decide) (by decide) (by decide) (by decide) ?_
    intro T51 h51 a51 k51 X51 e51 E51 g51 V51
    replace V51 : Arv Z h51 a51 k51 .int (2 : Int32) [(.int (0 : Int32)), (.int (0 : Int32))] (.int (0 : Int32)) := V51
    have ge52 : n0 ≤ a51 := by rw [g51]; exact Z0
    show own_Ends p e below s _ _ _ T51 (mkF m 114 #[.val (.int p0), .val (.int p1), .val (.int p2), .val (.int p3), .val (.int p4), .val (.int (1 : Int32)), .val (.int a32), .val (.int b33), .val (.int (0 : Int32)), .val (.int (0 : Int32)), .unset, .unset, .unset, .unset, .unset] [(.ref a51)])
    refine own_dup (pc' := 115) X51 hx (hb hby at_114) rfl rfl ?_
    refine own_iconst (pc' := 116) (z := (0 : Int32)) X51 hx (hb hby at_115) rfl rfl ?_
    refine own_iload (pc' := 118) X51 hx (hb hby at_116) rfl rfl ?_
    refine own_iastore (pc' := 119) X51 hx hZ e51 V51 (hb hby at_118) rfl (by decide) 0 rfl (by simp) N0 ge52 ?_
    intro T53 h53 L53 X53 e53 N53 W53 V53
    replace V53 : Arv Z h53 a51 k51 .int (2 : Int32) [(.int a32), (.int (0 : Int32))] (.int (0 : Int32)) := V53
    show own_Ends p e below s _ _ _ T53 (mkF m 119 #[.val (.int p0), .val (.int p1), .val (.int p2), .val (.int p3), .val (.int p4), .val (.int (1 : Int32)), .val (.int a32), .val (.int b33), .val (.int (0 : Int32)), .val (.int (0 : Int32)), .unset, .unset, .unset, .unset, .unset] [(.ref a51)])
    refine own_dup (pc' := 120) X53 hx (hb hby at_119) rfl rfl ?_
    refine own_iconst (pc' := 121) (z := (1 : Int32)) X53 hx (hb hby at_120) rfl rfl ?_
    refine own_iload (pc' := 123) X53 hx (hb hby at_121) rfl rfl ?_
    refine own_iastore (pc' := 124) X53 hx hZ e53 V53 (hb hby at_123) rfl (by decide) 1 rfl (by simp) N53 ge52 ?_
    intro T54 h54 L54 X54 e54 N54 W54 V54
    replace V54 : Arv Z h54 a51 k51 .int (2 : Int32) [(.int a32), (.int b33)] (.int (0 : Int32)) := V54
    show own_Ends p e below s _ _ _ T54 (mkF m 124 #[.val (.int p0), .val (.int p1), .val (.int p2), .val (.int p3), .val (.int p4), .val (.int (1 : Int32)), .val (.int a32), .val (.int b33), .val (.int (0 : Int32)), .val (.int (0 : Int32)), .unset, .unset, .unset, .unset, .unset] [(.ref a51)])
    refine own_astore (pc' := 126) (l' := #[.val (.int p0), .val (.int p1), .val (.int p2), .val (.int p3), .val (.int p4), .val (.int (1 : Int32)), .val (.int a32), .val (.int b33), .val (.int (0 : Int32)), .val (.int (0 : Int32)), .val (.ref a51), .unset, .unset, .unset, .unset]) X54 hx (hb hby at_124) rfl rfl rfl ?_
    refine own_goto (pc' := 154) X54 hx (hb hby at_126) (by decide) (by decide) ?_
    refine own_bipush (pc' := 156) (z := (6 : Int32)) X54 hx (hb hby at_154) rfl rfl ?_
    refine own_newarr (pc' := 158) (aty := .int) X54 hx hZ (own_w2 hw) e54 (hb hby at_156) rfl (by decide) 6 6 (by decide) (by decide) (by decide) (by decide) ?_
    intro T55 h55 a55 k55 X55 e55 E55 g55 V55
    replace V55 : Arv Z h55 a55 k55 .int (6 : Int32) [(.int (0 : Int32)), (.int (0 : Int32)), (.int (0 : Int32)), (.int (0 : Int32)), (.int (0 : Int32)), (.int (0 : Int32))] (.int (0 : Int32)) := V55
    have f56 := (Nat.le_trans (Nat.le_trans (Nat.le_trans Z0 E51.1) (Keep.of_wr W53).1) (Keep.of_wr W54).1)
    have ge57 : n0 ≤ a55 := by rw [g55]; exact f56
    have ne58 : a51 ≠ a55 := Nat.ne_of_lt (by rw [g55]; exact V54.lt)
    show own_Ends p e below s _ _ _ T55 (mkF m 158 #[.val (.int p0), .val (.int p1), .val (.int p2), .val (.int p3), .val (.int p4), .val (.int (1 : Int32)), .val (.int a32), .val (.int b33), .val (.int (0 : Int32)), .val (.int (0 : Int32)), .val (.ref a51), .unset, .unset, .unset, .unset] [(.ref a55)])
    refine own_astore (pc' := 160) (l' := #[.val (.int p0), .val (.int p1), .val (.int p2), .val (.int p3), .val (.int p4), .val (.int (1 : Int32)), .val (.int a32), .val (.int b33), .val (.int (0 : Int32)), .val (.int (0 : Int32)), .val (.ref a51), .val (.ref a55), .unset, .unset, .unset]) X55 hx (hb hby at_158) rfl rfl rfl ?_
    refine own_iconst (pc' := 161) (z := (0 : Int32)) X55 hx (hb hby at_160) rfl rfl ?_
    refine own_istore (pc' := 163) (l' := #[.val (.int p0), .val (.int p1), .val (.int p2), .val (.int p3), .val (.int p4), .val (.int (1 : Int32)), .val (.int a32), .val (.int b33), .val (.int (0 : Int32)), .val (.int (0 : Int32)), .val (.ref a51), .val (.ref a55), .val (.int (0 : Int32)), .unset, .unset]) X55 hx (hb hby at_161) rfl rfl ?_
    refine own_iload (pc' := 165) X55 hx (hb hby at_163) rfl rfl ?_
    refine own_ifYes (pc' := 185) X55 hx (hb hby at_165) (feq (by decide)).2 (by decide) (by decide) ?_
    refine own_iload (pc' := 187) X55 hx (hb hby at_185) rfl rfl ?_
    by_cases hc187_59 : (0 : Int32) < a32
    · refine own_ifNo (pc' := 190) X55 hx (hb hby at_187) rfl (tlt hc187_59).2.2.2 ?_
      refine own_aload (pc' := 192) X55 hx (hb hby at_190) rfl rfl rfl ?_
      refine own_iload (pc' := 194) X55 hx (hb hby at_192) rfl rfl ?_
      refine own_iconst (pc' := 195) (z := (0 : Int32)) X55 hx (hb hby at_194) rfl rfl ?_
      refine own_iastore (pc' := 196) X55 hx hZ e55 V55 (hb hby at_195) rfl (by decide) 0 rfl (by simp) N54 ge57 ?_
      intro T60 h60 L60 X60 e60 N60 W60 V60
      replace V60 : Arv Z h60 a55 k55 .int (6 : Int32) [(.int (0 : Int32)), (.int (0 : Int32)), (.int (0 : Int32)), (.int (0 : Int32)), (.int (0 : Int32)), (.int (0 : Int32))] (.int (0 : Int32)) := V60
      show own_Ends p e below s _ _ _ T60 (mkF m 196 #[.val (.int p0), .val (.int p1), .val (.int p2), .val (.int p3), .val (.int p4), .val (.int (1 : Int32)), .val (.int a32), .val (.int b33), .val (.int (0 : Int32)), .val (.int (0 : Int32)), .val (.ref a51), .val (.ref a55), .val (.int (0 : Int32)), .unset, .unset] [])
      refine own_aload (pc' := 198) X60 hx (hb hby at_196) rfl rfl rfl ?_
      refine own_iload (pc' := 200) X60 hx (hb hby at_198) rfl rfl ?_
      refine own_iconst (pc' := 201) (z := (1 : Int32)) X60 hx (hb hby at_200) rfl rfl ?_
      refine own_iadd (pc' := 202) (z := (1 : Int32)) X60 hx (hb hby at_201) rfl (by decide) ?_
      refine own_iload (pc' := 204) X60 hx (hb hby at_202) rfl rfl ?_
      refine own_iconst (pc' := 205) (z := (1 : Int32)) X60 hx (hb hby at_204) rfl rfl ?_
      refine own_isub (pc' := 206) (z := (a32 - (1 : Int32))) X60 hx (hb hby at_205) rfl rfl ?_
      refine own_iastore (pc' := 207) X60 hx hZ e60 V60 (hb hby at_206) rfl (by decide) 1 rfl (by simp) N60 ge57 ?_
      intro T61 h61 L61 X61 e61 N61 W61 V61
      replace V61 : Arv Z h61 a55 k55 .int (6 : Int32) [(.int (0 : Int32)), (.int (a32 - (1 : Int32))), (.int (0 : Int32)), (.int (0 : Int32)), (.int (0 : Int32)), (.int (0 : Int32))] (.int (0 : Int32)) := V61
      show own_Ends p e below s _ _ _ T61 (mkF m 207 #[.val (.int p0), .val (.int p1), .val (.int p2), .val (.int p3), .val (.int p4), .val (.int (1 : Int32)), .val (.int a32), .val (.int b33), .val (.int (0 : Int32)), .val (.int (0 : Int32)), .val (.ref a51), .val (.ref a55), .val (.int (0 : Int32)), .unset, .unset] [])
      refine own_iinc (pc' := 210) (z := (2 : Int32)) (l' := #[.val (.int p0), .val (.int p1), .val (.int p2), .val (.int p3), .val (.int p4), .val (.int (1 : Int32)), .val (.int a32), .val (.int b33), .val (.int (0 : Int32)), .val (.int (0 : Int32)), .val (.ref a51), .val (.ref a55), .val (.int (2 : Int32)), .unset, .unset]) X61 hx (hb hby at_207) rfl rfl (by decide) rfl ?_
      refine own_iload (pc' := 212) X61 hx (hb hby at_210) rfl rfl ?_
      refine own_iconst (pc' := 213) (z := (2 : Int32)) X61 hx (hb hby at_212) rfl rfl ?_
      refine own_icmpYes (pc' := 239) X61 hx (hb hby at_213) (feq (by decide)).2 (by decide) (by decide) ?_
      refine own_iload (pc' := 241) X61 hx (hb hby at_239) rfl rfl ?_
      refine own_iconst (pc' := 242) (z := (2 : Int32)) X61 hx (hb hby at_241) rfl rfl ?_
      refine own_icmpYes (pc' := 250) X61 hx (hb hby at_242) (feq (by decide)).2 (by decide) (by decide) ?_
      refine own_iload (pc' := 252) X61 hx (hb hby at_250) rfl rfl ?_
      refine own_istore (pc' := 254) (l' := #[.val (.int p0), .val (.int p1), .val (.int p2), .val (.int p3), .val (.int p4), .val (.int (1 : Int32)), .val (.int a32), .val (.int b33), .val (.int (0 : Int32)), .val (.int (0 : Int32)), .val (.ref a51), .val (.ref a55), .val (.int (2 : Int32)), .val (.int b33), .unset]) X61 hx (hb hby at_252) rfl rfl ?_
      refine own_iload (pc' := 256) X61 hx (hb hby at_254) rfl rfl ?_
      refine own_ldcI (pc' := 258) X61 hx hZ hown (own_w3 hw) (hb hby at_256) rfl ?_
      by_cases hc258_62 : b33 < (1114111 : Int32)
      · refine own_icmpNo (pc' := 261) X61 hx (hb hby at_258) rfl (tlt hc258_62).2.1 ?_
        refine own_aload (pc' := 263) X61 hx (hb hby at_261) rfl rfl rfl ?_
        refine own_iload (pc' := 265) X61 hx (hb hby at_263) rfl rfl ?_
        refine own_iload (pc' := 267) X61 hx (hb hby at_265) rfl rfl ?_
        refine own_iconst (pc' := 268) (z := (1 : Int32)) X61 hx (hb hby at_267) rfl rfl ?_
        refine own_iadd (pc' := 269) (z := (b33 + (1 : Int32))) X61 hx (hb hby at_268) rfl rfl ?_
        refine own_iastore (pc' := 270) X61 hx hZ e61 V61 (hb hby at_269) rfl (by decide) 2 rfl (by simp) N61 ge57 ?_
        intro T63 h63 L63 X63 e63 N63 W63 V63
        replace V63 : Arv Z h63 a55 k55 .int (6 : Int32) [(.int (0 : Int32)), (.int (a32 - (1 : Int32))), (.int (b33 + (1 : Int32))), (.int (0 : Int32)), (.int (0 : Int32)), (.int (0 : Int32))] (.int (0 : Int32)) := V63
        show own_Ends p e below s _ _ _ T63 (mkF m 270 #[.val (.int p0), .val (.int p1), .val (.int p2), .val (.int p3), .val (.int p4), .val (.int (1 : Int32)), .val (.int a32), .val (.int b33), .val (.int (0 : Int32)), .val (.int (0 : Int32)), .val (.ref a51), .val (.ref a55), .val (.int (2 : Int32)), .val (.int b33), .unset] [])
        refine own_aload (pc' := 272) X63 hx (hb hby at_270) rfl rfl rfl ?_
        refine own_iload (pc' := 274) X63 hx (hb hby at_272) rfl rfl ?_
        refine own_iconst (pc' := 275) (z := (1 : Int32)) X63 hx (hb hby at_274) rfl rfl ?_
        refine own_iadd (pc' := 276) (z := (3 : Int32)) X63 hx (hb hby at_275) rfl (by decide) ?_
        refine own_ldcI (pc' := 278) X63 hx hZ hown (own_w3 hw) (hb hby at_276) rfl ?_
        refine own_iastore (pc' := 279) X63 hx hZ e63 V63 (hb hby at_278) rfl (by decide) 3 rfl (by simp) N63 ge57 ?_
        intro T64 h64 L64 X64 e64 N64 W64 V64
        replace V64 : Arv Z h64 a55 k55 .int (6 : Int32) [(.int (0 : Int32)), (.int (a32 - (1 : Int32))), (.int (b33 + (1 : Int32))), (.int (1114111 : Int32)), (.int (0 : Int32)), (.int (0 : Int32))] (.int (0 : Int32)) := V64
        show own_Ends p e below s _ _ _ T64 (mkF m 279 #[.val (.int p0), .val (.int p1), .val (.int p2), .val (.int p3), .val (.int p4), .val (.int (1 : Int32)), .val (.int a32), .val (.int b33), .val (.int (0 : Int32)), .val (.int (0 : Int32)), .val (.ref a51), .val (.ref a55), .val (.int (2 : Int32)), .val (.int b33), .unset] [])
        refine own_iinc (pc' := 282) (z := (4 : Int32)) (l' := #[.val (.int p0), .val (.int p1), .val (.int p2), .val (.int p3), .val (.int p4), .val (.int (1 : Int32)), .val (.int a32), .val (.int b33), .val (.int (0 : Int32)), .val (.int (0 : Int32)), .val (.ref a51), .val (.ref a55), .val (.int (4 : Int32)), .val (.int b33), .unset]) X64 hx (hb hby at_279) rfl rfl (by decide) rfl ?_
        refine own_aload (pc' := 284) X64 hx (hb hby at_282) rfl rfl rfl ?_
        have i_hc258_62 : b33.toInt < 1114111 := own_i1 hc258_62
        have hl0 : ¬ (1114111 : Int32) < b33 + (1 : Int32) := own_nlt (by rw [own_p1 ⟨by omega, by omega⟩]; show b33.toInt + 1 ≤ 1114111; omega)
        have f65 := (((((V54.ext E55).other W60 ne58).other W61 ne58).other W63 ne58).other W64 ne58)
        have f66 := (Nat.le_trans (Nat.le_trans (Nat.le_trans (Nat.le_trans (Nat.le_trans f56 E55.1) (Keep.of_wr W60).1) (Keep.of_wr W61).1) (Keep.of_wr W63).1) (Keep.of_wr W64).1)
        refine own_callS (pc' := 287) (y := (⟨"com/example/exacting_validator/exactingvalidator/pattern/CodePointSets", "complement", "([I)[I"⟩ : MethodName)) (W := 0) (rm := own_room1_111) (argsL := [(.ref a51)]) (rest := []) X64 hx hZ e64 hown (by rw [hml]; rfl) (own_w4 hw) (own_w5 hw) (own_w6 hw) (own_w7 hw) (by decide) (own_rm1_111 l Z a0 hw [] a51 k51 a32 b33 h64 n0 f66 f65 hc187_59 hl0) (by decide) (by decide) (by decide) (by decide) (lenOf own_pd2 rfl) rfl (by exact Nat.le_of_eq rfl) (hb hby at_284) rfl ?_
        intro T67 Lc67 v67 X67 hQ67
        obtain ⟨ra67, rk67, rfl, Nq67, Kq67, G67_0, G67_1⟩ := hQ67
        have N67 := Fr.app N64 Nq67
        have ge68 : n0 ≤ ra67 := Nat.le_trans f66 G67_0
        have ne69 : a51 ≠ ra67 := Nat.ne_of_lt (Nat.lt_of_lt_of_le f65.lt G67_0)
        have ne70 : a55 ≠ ra67 := Nat.ne_of_lt (Nat.lt_of_lt_of_le V64.lt G67_0)
        show own_Ends p e below s _ _ _ T67 (mkF m 287 #[.val (.int p0), .val (.int p1), .val (.int p2), .val (.int p3), .val (.int p4), .val (.int (1 : Int32)), .val (.int a32), .val (.int b33), .val (.int (0 : Int32)), .val (.int (0 : Int32)), .val (.ref a51), .val (.ref a55), .val (.int (4 : Int32)), .val (.int b33), .unset] [(.ref ra67)])
        refine own_astore (pc' := 289) (l' := #[.val (.int p0), .val (.int p1), .val (.int p2), .val (.int p3), .val (.int p4), .val (.int (1 : Int32)), .val (.int a32), .val (.int b33), .val (.int (0 : Int32)), .val (.int (0 : Int32)), .val (.ref a51), .val (.ref a55), .val (.int (4 : Int32)), .val (.ref ra67), .unset]) X67 hx (hb hby at_287) rfl rfl rfl ?_
        refine own_iload (pc' := 291) X67 hx (hb hby at_289) rfl rfl ?_
        refine own_ifYes (pc' := 310) X67 hx (hb hby at_291) (feq (by decide)).2 (by decide) (by decide) ?_
        refine own_iload (pc' := 312) X67 hx (hb hby at_310) rfl rfl ?_
        refine own_iconst (pc' := 313) (z := (1 : Int32)) X67 hx (hb hby at_312) rfl rfl ?_
        refine own_icmpNo (pc' := 316) X67 hx (hb hby at_313) rfl (teq (by decide)).2 ?_
        refine own_aload (pc' := 318) X67 hx (hb hby at_316) rfl rfl rfl ?_
        have f71 := (f65.keep Kq67 nin0)
        refine own_alen (pc' := 319) X67 hx hZ rfl f71 (hb hby at_318) rfl ?_
        refine own_iconst (pc' := 320) (z := (2 : Int32)) X67 hx (hb hby at_319) rfl rfl ?_
        refine own_icmpNo (pc' := 323) X67 hx (hb hby at_320) rfl (teq (by decide)).2 ?_
        refine own_aload (pc' := 325) X67 hx (hb hby at_323) rfl rfl rfl ?_
        refine own_iconst (pc' := 326) (z := (0 : Int32)) X67 hx (hb hby at_325) rfl rfl ?_
        refine own_iaload (pc' := 327) X67 hx hZ rfl f71 (hb hby at_326) rfl (by decide) rfl ?_
        refine own_iload (pc' := 329) X67 hx (hb hby at_327) rfl rfl ?_
        refine own_icmpNo (pc' := 332) X67 hx (hb hby at_329) rfl (teq rfl).2 ?_
        refine own_aload (pc' := 334) X67 hx (hb hby at_332) rfl rfl rfl ?_
        refine own_iconst (pc' := 335) (z := (1 : Int32)) X67 hx (hb hby at_334) rfl rfl ?_
        refine own_iaload (pc' := 336) X67 hx hZ rfl f71 (hb hby at_335) rfl (by decide) rfl ?_
        refine own_iload (pc' := 338) X67 hx (hb hby at_336) rfl rfl ?_
        refine own_icmpNo (pc' := 341) X67 hx (hb hby at_338) rfl (teq rfl).2 ?_
        refine own_iconst (pc' := 342) (z := (1 : Int32)) X67 hx (hb hby at_341) rfl rfl ?_
        refine own_goto (pc' := 346) X67 hx (hb hby at_342) (by decide) (by decide) ?_
        refine own_istore (pc' := 348) (l' := #[.val (.int p0), .val (.int p1), .val (.int p2), .val (.int p3), .val (.int p4), .val (.int (1 : Int32)), .val (.int a32), .val (.int b33), .val (.int (0 : Int32)), .val (.int (0 : Int32)), .val (.ref a51), .val (.ref a55), .val (.int (4 : Int32)), .val (.ref ra67), .val (.int (1 : Int32))]) X67 hx (hb hby at_346) rfl rfl ?_
        refine own_goto (pc' := 401) X67 hx (hb hby at_348) (by decide) (by decide) ?_
        refine own_iload (pc' := 403) X67 hx (hb hby at_401) rfl rfl ?_
        refine own_ifNo (pc' := 406) X67 hx (hb hby at_403) rfl (feq (by decide)).1 ?_
        refine own_aload (pc' := 408) X67 hx (hb hby at_406) rfl rfl rfl ?_
        refine own_aload (pc' := 410) X67 hx (hb hby at_408) rfl rfl rfl ?_
        refine own_iload (pc' := 412) X67 hx (hb hby at_410) rfl rfl ?_
        have f72 := (V64.keep Kq67 nin0)
        refine own_callS (pc' := 415) (y := (⟨"com/example/exacting_validator/exactingvalidator/pattern/CodePointSetsComplementPinLaw", "same", "([I[II)Z"⟩ : MethodName)) (W := 0) (rm := own_room3_4) (argsL := [(.ref ra67), (.ref a55), (.int (4 : Int32))]) (rest := []) X67 hx hZ rfl hown (by rw [hml]; rfl) (own_w22 hw) (own_w23 hw) (own_w24 hw) (own_w25 hw) (by decide) (own_rm3_4 l Z a0 hw [] ra67 a55 rk67 k55 (0 : Int32) (a32 - (1 : Int32)) (b33 + (1 : Int32)) (1114111 : Int32) (0 : Int32) (0 : Int32) T67.heap n0 G67_1 f72) (by decide) (by decide) (by decide) (by decide) (lenOf own_pd3 rfl) rfl (by exact Nat.le_of_eq rfl) (hb hby at_412) rfl ?_
        intro T73 Lc73 v73 X73 hQ73
        obtain ⟨rfl, Nq73, Kq73⟩ := hQ73
        have N73 := Fr.app N67 Nq73
        show own_Ends p e below s _ _ _ T73 (mkF m 415 #[.val (.int p0), .val (.int p1), .val (.int p2), .val (.int p3), .val (.int p4), .val (.int (1 : Int32)), .val (.int a32), .val (.int b33), .val (.int (0 : Int32)), .val (.int (0 : Int32)), .val (.ref a51), .val (.ref a55), .val (.int (4 : Int32)), .val (.ref ra67), .val (.int (1 : Int32))] [(.int (1 : Int32))])
        refine own_ifNo (pc' := 418) X73 hx (hb hby at_415) rfl (feq (by decide)).1 ?_
        refine own_iconst (pc' := 419) (z := (1 : Int32)) X73 hx (hb hby at_418) rfl rfl ?_
        refine own_goto (pc' := 423) X73 hx (hb hby at_419) (by decide) (by decide) ?_
        refine own_retN X73 hx hlk hret (by simp) (hb hby at_423) (by decide) (by decide) ?_
        exact ⟨rfl, N73⟩
      · refine own_icmpYes (pc' := 282) X61 hx (hb hby at_258) (flt hc258_62).2.1 (by decide) (by decide) ?_
        refine own_aload (pc' := 284) X61 hx (hb hby at_282) rfl rfl rfl ?_
        have i_hc258_62 : 1114111 ≤ b33.toInt := own_i2 hc258_62
        have hl0 : (1114111 : Int32) < b33 + (1 : Int32) := own_lt (by rw [own_p1 ⟨by omega, by omega⟩]; show 1114111 < b33.toInt + 1; omega)
        have f74 := (((V54.ext E55).other W60 ne58).other W61 ne58)
        have f75 := (Nat.le_trans (Nat.le_trans (Nat.le_trans f56 E55.1) (Keep.of_wr W60).1) (Keep.of_wr W61).1)
        refine own_callS (pc' := 287) (y := (⟨"com/example/exacting_validator/exactingvalidator/pattern/CodePointSets", "complement", "([I)[I"⟩ : MethodName)) (W := 0) (rm := own_room1_110) (argsL := [(.ref a51)]) (rest := []) X61 hx hZ e61 hown (by rw [hml]; rfl) (own_w4 hw) (own_w5 hw) (own_w6 hw) (own_w7 hw) (by decide) (own_rm1_110 l Z a0 hw [] a51 k51 a32 b33 h61 n0 f75 f74 hc187_59 hl0) (by decide) (by decide) (by decide) (by decide) (lenOf own_pd2 rfl) rfl (by exact Nat.le_of_eq rfl) (hb hby at_284) rfl ?_
        intro T76 Lc76 v76 X76 hQ76
        obtain ⟨ra76, rk76, rfl, Nq76, Kq76, G76_0, G76_1⟩ := hQ76
        have N76 := Fr.app N61 Nq76
        have ge77 : n0 ≤ ra76 := Nat.le_trans f75 G76_0
        have ne78 : a51 ≠ ra76 := Nat.ne_of_lt (Nat.lt_of_lt_of_le f74.lt G76_0)
        have ne79 : a55 ≠ ra76 := Nat.ne_of_lt (Nat.lt_of_lt_of_le V61.lt G76_0)
        show own_Ends p e below s _ _ _ T76 (mkF m 287 #[.val (.int p0), .val (.int p1), .val (.int p2), .val (.int p3), .val (.int p4), .val (.int (1 : Int32)), .val (.int a32), .val (.int b33), .val (.int (0 : Int32)), .val (.int (0 : Int32)), .val (.ref a51), .val (.ref a55), .val (.int (2 : Int32)), .val (.int b33), .unset] [(.ref ra76)])
        refine own_astore (pc' := 289) (l' := #[.val (.int p0), .val (.int p1), .val (.int p2), .val (.int p3), .val (.int p4), .val (.int (1 : Int32)), .val (.int a32), .val (.int b33), .val (.int (0 : Int32)), .val (.int (0 : Int32)), .val (.ref a51), .val (.ref a55), .val (.int (2 : Int32)), .val (.ref ra76), .unset]) X76 hx (hb hby at_287) rfl rfl rfl ?_
        refine own_iload (pc' := 291) X76 hx (hb hby at_289) rfl rfl ?_
        refine own_ifYes (pc' := 310) X76 hx (hb hby at_291) (feq (by decide)).2 (by decide) (by decide) ?_
        refine own_iload (pc' := 312) X76 hx (hb hby at_310) rfl rfl ?_
        refine own_iconst (pc' := 313) (z := (1 : Int32)) X76 hx (hb hby at_312) rfl rfl ?_
        refine own_icmpNo (pc' := 316) X76 hx (hb hby at_313) rfl (teq (by decide)).2 ?_
        refine own_aload (pc' := 318) X76 hx (hb hby at_316) rfl rfl rfl ?_
        have f80 := (f74.keep Kq76 nin0)
        refine own_alen (pc' := 319) X76 hx hZ rfl f80 (hb hby at_318) rfl ?_
        refine own_iconst (pc' := 320) (z := (2 : Int32)) X76 hx (hb hby at_319) rfl rfl ?_
        refine own_icmpNo (pc' := 323) X76 hx (hb hby at_320) rfl (teq (by decide)).2 ?_
        refine own_aload (pc' := 325) X76 hx (hb hby at_323) rfl rfl rfl ?_
        refine own_iconst (pc' := 326) (z := (0 : Int32)) X76 hx (hb hby at_325) rfl rfl ?_
        refine own_iaload (pc' := 327) X76 hx hZ rfl f80 (hb hby at_326) rfl (by decide) rfl ?_
        refine own_iload (pc' := 329) X76 hx (hb hby at_327) rfl rfl ?_
        refine own_icmpNo (pc' := 332) X76 hx (hb hby at_329) rfl (teq rfl).2 ?_
        refine own_aload (pc' := 334) X76 hx (hb hby at_332) rfl rfl rfl ?_
        refine own_iconst (pc' := 335) (z := (1 : Int32)) X76 hx (hb hby at_334) rfl rfl ?_
        refine own_iaload (pc' := 336) X76 hx hZ rfl f80 (hb hby at_335) rfl (by decide) rfl ?_
        refine own_iload (pc' := 338) X76 hx (hb hby at_336) rfl rfl ?_
        refine own_icmpNo (pc' := 341) X76 hx (hb hby at_338) rfl (teq rfl).2 ?_
        refine own_iconst (pc' := 342) (z := (1 : Int32)) X76 hx (hb hby at_341) rfl rfl ?_
        refine own_goto (pc' := 346) X76 hx (hb hby at_342) (by decide) (by decide) ?_
        refine own_istore (pc' := 348) (l' := #[.val (.int p0), .val (.int p1), .val (.int p2), .val (.int p3), .val (.int p4), .val (.int (1 : Int32)), .val (.int a32), .val (.int b33), .val (.int (0 : Int32)), .val (.int (0 : Int32)), .val (.ref a51), .val (.ref a55), .val (.int (2 : Int32)), .val (.ref ra76), .val (.int (1 : Int32))]) X76 hx (hb hby at_346) rfl rfl ?_
        refine own_goto (pc' := 401) X76 hx (hb hby at_348) (by decide) (by decide) ?_
        refine own_iload (pc' := 403) X76 hx (hb hby at_401) rfl rfl ?_
        refine own_ifNo (pc' := 406) X76 hx (hb hby at_403) rfl (feq (by decide)).1 ?_
        refine own_aload (pc' := 408) X76 hx (hb hby at_406) rfl rfl rfl ?_
        refine own_aload (pc' := 410) X76 hx (hb hby at_408) rfl rfl rfl ?_
        refine own_iload (pc' := 412) X76 hx (hb hby at_410) rfl rfl ?_
        have f81 := (V61.keep Kq76 nin0)
        refine own_callS (pc' := 415) (y := (⟨"com/example/exacting_validator/exactingvalidator/pattern/CodePointSetsComplementPinLaw", "same", "([I[II)Z"⟩ : MethodName)) (W := 0) (rm := own_room3_2) (argsL := [(.ref ra76), (.ref a55), (.int (2 : Int32))]) (rest := []) X76 hx hZ rfl hown (by rw [hml]; rfl) (own_w22 hw) (own_w23 hw) (own_w24 hw) (own_w25 hw) (by decide) (own_rm3_2 l Z a0 hw [] ra76 a55 rk76 k55 (0 : Int32) (a32 - (1 : Int32)) (0 : Int32) (0 : Int32) (0 : Int32) (0 : Int32) T76.heap n0 G76_1 f81) (by decide) (by decide) (by decide) (by decide) (lenOf own_pd3 rfl) rfl (by exact Nat.le_of_eq rfl) (hb hby at_412) rfl ?_
        intro T82 Lc82 v82 X82 hQ82
        obtain ⟨rfl, Nq82, Kq82⟩ := hQ82
        have N82 := Fr.app N76 Nq82
        show own_Ends p e below s _ _ _ T82 (mkF m 415 #[.val (.int p0), .val (.int p1), .val (.int p2), .val (.int p3), .val (.int p4), .val (.int (1 : Int32)), .val (.int a32), .val (.int b33), .val (.int (0 : Int32)), .val (.int (0 : Int32)), .val (.ref a51), .val (.ref a55), .val (.int (2 : Int32)), .val (.ref ra76), .val (.int (1 : Int32))] [(.int (1 : Int32))])
        refine own_ifNo (pc' := 418) X82 hx (hb hby at_415) rfl (feq (by decide)).1 ?_
        refine own_iconst (pc' := 419) (z := (1 : Int32)) X82 hx (hb hby at_418) rfl rfl ?_
        refine own_goto (pc' := 423) X82 hx (hb hby at_419) (by decide) (by decide) ?_
        refine own_retN X82 hx hlk hret (by simp) (hb hby at_423) (by decide) (by decide) ?_
        exact ⟨rfl, N82⟩
    · refine own_ifYes (pc' := 210) X55 hx (hb hby at_187) (flt hc187_59).2.2.2 (by decide) (by decide) ?_
      refine own_iload (pc' := 212) X55 hx (hb hby at_210) rfl rfl ?_
      refine own_iconst (pc' := 213) (z := (2 : Int32)) X55 hx (hb hby at_212) rfl rfl ?_
      refine own_icmpYes (pc' := 239) X55 hx (hb hby at_213) (feq (by decide)).2 (by decide) (by decide) ?_
      refine own_iload (pc' := 241) X55 hx (hb hby at_239) rfl rfl ?_
      refine own_iconst (pc' := 242) (z := (2 : Int32)) X55 hx (hb hby at_241) rfl rfl ?_
      refine own_icmpYes (pc' := 250) X55 hx (hb hby at_242) (feq (by decide)).2 (by decide) (by decide) ?_
      refine own_iload (pc' := 252) X55 hx (hb hby at_250) rfl rfl ?_
      refine own_istore (pc' := 254) (l' := #[.val (.int p0), .val (.int p1), .val (.int p2), .val (.int p3), .val (.int p4), .val (.int (1 : Int32)), .val (.int a32), .val (.int b33), .val (.int (0 : Int32)), .val (.int (0 : Int32)), .val (.ref a51), .val (.ref a55), .val (.int (0 : Int32)), .val (.int b33), .unset]) X55 hx (hb hby at_252) rfl rfl ?_
      refine own_iload (pc' := 256) X55 hx (hb hby at_254) rfl rfl ?_
      refine own_ldcI (pc' := 258) X55 hx hZ hown (own_w3 hw) (hb hby at_256) rfl ?_
      by_cases hc258_83 : b33 < (1114111 : Int32)
      · refine own_icmpNo (pc' := 261) X55 hx (hb hby at_258) rfl (tlt hc258_83).2.1 ?_
        refine own_aload (pc' := 263) X55 hx (hb hby at_261) rfl rfl rfl ?_
        refine own_iload (pc' := 265) X55 hx (hb hby at_263) rfl rfl ?_
        refine own_iload (pc' := 267) X55 hx (hb hby at_265) rfl rfl ?_
        refine own_iconst (pc' := 268) (z := (1 : Int32)) X55 hx (hb hby at_267) rfl rfl ?_
        refine own_iadd (pc' := 269) (z := (b33 + (1 : Int32))) X55 hx (hb hby at_268) rfl rfl ?_
        refine own_iastore (pc' := 270) X55 hx hZ e55 V55 (hb hby at_269) rfl (by decide) 0 rfl (by simp) N54 ge57 ?_
        intro T84 h84 L84 X84 e84 N84 W84 V84
        replace V84 : Arv Z h84 a55 k55 .int (6 : Int32) [(.int (b33 + (1 : Int32))), (.int (0 : Int32)), (.int (0 : Int32)), (.int (0 : Int32)), (.int (0 : Int32)), (.int (0 : Int32))] (.int (0 : Int32)) := V84
        show own_Ends p e below s _ _ _ T84 (mkF m 270 #[.val (.int p0), .val (.int p1), .val (.int p2), .val (.int p3), .val (.int p4), .val (.int (1 : Int32)), .val (.int a32), .val (.int b33), .val (.int (0 : Int32)), .val (.int (0 : Int32)), .val (.ref a51), .val (.ref a55), .val (.int (0 : Int32)), .val (.int b33), .unset] [])
        refine own_aload (pc' := 272) X84 hx (hb hby at_270) rfl rfl rfl ?_
        refine own_iload (pc' := 274) X84 hx (hb hby at_272) rfl rfl ?_
        refine own_iconst (pc' := 275) (z := (1 : Int32)) X84 hx (hb hby at_274) rfl rfl ?_
        refine own_iadd (pc' := 276) (z := (1 : Int32)) X84 hx (hb hby at_275) rfl (by decide) ?_
        refine own_ldcI (pc' := 278) X84 hx hZ hown (own_w3 hw) (hb hby at_276) rfl ?_
        refine own_iastore (pc' := 279) X84 hx hZ e84 V84 (hb hby at_278) rfl (by decide) 1 rfl (by simp) N84 ge57 ?_
        intro T85 h85 L85 X85 e85 N85 W85 V85
        replace V85 : Arv Z h85 a55 k55 .int (6 : Int32) [(.int (b33 + (1 : Int32))), (.int (1114111 : Int32)), (.int (0 : Int32)), (.int (0 : Int32)), (.int (0 : Int32)), (.int (0 : Int32))] (.int (0 : Int32)) := V85
        show own_Ends p e below s _ _ _ T85 (mkF m 279 #[.val (.int p0), .val (.int p1), .val (.int p2), .val (.int p3), .val (.int p4), .val (.int (1 : Int32)), .val (.int a32), .val (.int b33), .val (.int (0 : Int32)), .val (.int (0 : Int32)), .val (.ref a51), .val (.ref a55), .val (.int (0 : Int32)), .val (.int b33), .unset] [])
        refine own_iinc (pc' := 282) (z := (2 : Int32)) (l' := #[.val (.int p0), .val (.int p1), .val (.int p2), .val (.int p3), .val (.int p4), .val (.int (1 : Int32)), .val (.int a32), .val (.int b33), .val (.int (0 : Int32)), .val (.int (0 : Int32)), .val (.ref a51), .val (.ref a55), .val (.int (2 : Int32)), .val (.int b33), .unset]) X85 hx (hb hby at_279) rfl rfl (by decide) rfl ?_
        refine own_aload (pc' := 284) X85 hx (hb hby at_282) rfl rfl rfl ?_
        have i_hc258_83 : b33.toInt < 1114111 := own_i1 hc258_83
        have hl0 : ¬ (1114111 : Int32) < b33 + (1 : Int32) := own_nlt (by rw [own_p1 ⟨by omega, by omega⟩]; show b33.toInt + 1 ≤ 1114111; omega)
        have f86 := (((V54.ext E55).other W84 ne58).other W85 ne58)
        have f87 := (Nat.le_trans (Nat.le_trans (Nat.le_trans f56 E55.1) (Keep.of_wr W84).1) (Keep.of_wr W85).1)
        refine own_callS (pc' := 287) (y := (⟨"com/example/exacting_validator/exactingvalidator/pattern/CodePointSets", "complement", "([I)[I"⟩ : MethodName)) (W := 0) (rm := own_room1_101) (argsL := [(.ref a51)]) (rest := []) X85 hx hZ e85 hown (by rw [hml]; rfl) (own_w4 hw) (own_w5 hw) (own_w6 hw) (own_w7 hw) (by decide) (own_rm1_101 l Z a0 hw [] a51 k51 a32 b33 h85 n0 f87 f86 hc187_59 hl0) (by decide) (by decide) (by decide) (by decide) (lenOf own_pd2 rfl) rfl (by exact Nat.le_of_eq rfl) (hb hby at_284) rfl ?_
        intro T88 Lc88 v88 X88 hQ88
        obtain ⟨ra88, rk88, rfl, Nq88, Kq88, G88_0, G88_1⟩ := hQ88
        have N88 := Fr.app N85 Nq88
        have ge89 : n0 ≤ ra88 := Nat.le_trans f87 G88_0
        have ne90 : a51 ≠ ra88 := Nat.ne_of_lt (Nat.lt_of_lt_of_le f86.lt G88_0)
        have ne91 : a55 ≠ ra88 := Nat.ne_of_lt (Nat.lt_of_lt_of_le V85.lt G88_0)
        show own_Ends p e below s _ _ _ T88 (mkF m 287 #[.val (.int p0), .val (.int p1), .val (.int p2), .val (.int p3), .val (.int p4), .val (.int (1 : Int32)), .val (.int a32), .val (.int b33), .val (.int (0 : Int32)), .val (.int (0 : Int32)), .val (.ref a51), .val (.ref a55), .val (.int (2 : Int32)), .val (.int b33), .unset] [(.ref ra88)])
        refine own_astore (pc' := 289) (l' := #[.val (.int p0), .val (.int p1), .val (.int p2), .val (.int p3), .val (.int p4), .val (.int (1 : Int32)), .val (.int a32), .val (.int b33), .val (.int (0 : Int32)), .val (.int (0 : Int32)), .val (.ref a51), .val (.ref a55), .val (.int (2 : Int32)), .val (.ref ra88), .unset]) X88 hx (hb hby at_287) rfl rfl rfl ?_
        refine own_iload (pc' := 291) X88 hx (hb hby at_289) rfl rfl ?_
        refine own_ifYes (pc' := 310) X88 hx (hb hby at_291) (feq (by decide)).2 (by decide) (by decide) ?_
        refine own_iload (pc' := 312) X88 hx (hb hby at_310) rfl rfl ?_
        refine own_iconst (pc' := 313) (z := (1 : Int32)) X88 hx (hb hby at_312) rfl rfl ?_
        refine own_icmpNo (pc' := 316) X88 hx (hb hby at_313) rfl (teq (by decide)).2 ?_
        refine own_aload (pc' := 318) X88 hx (hb hby at_316) rfl rfl rfl ?_
        have f92 := (f86.keep Kq88 nin0)
        refine own_alen (pc' := 319) X88 hx hZ rfl f92 (hb hby at_318) rfl ?_
        refine own_iconst (pc' := 320) (z := (2 : Int32)) X88 hx (hb hby at_319) rfl rfl ?_
        refine own_icmpNo (pc' := 323) X88 hx (hb hby at_320) rfl (teq (by decide)).2 ?_
        refine own_aload (pc' := 325) X88 hx (hb hby at_323) rfl rfl rfl ?_
        refine own_iconst (pc' := 326) (z := (0 : Int32)) X88 hx (hb hby at_325) rfl rfl ?_
        refine own_iaload (pc' := 327) X88 hx hZ rfl f92 (hb hby at_326) rfl (by decide) rfl ?_
        refine own_iload (pc' := 329) X88 hx (hb hby at_327) rfl rfl ?_
        refine own_icmpNo (pc' := 332) X88 hx (hb hby at_329) rfl (teq rfl).2 ?_
        refine own_aload (pc' := 334) X88 hx (hb hby at_332) rfl rfl rfl ?_
        refine own_iconst (pc' := 335) (z := (1 : Int32)) X88 hx (hb hby at_334) rfl rfl ?_
        refine own_iaload (pc' := 336) X88 hx hZ rfl f92 (hb hby at_335) rfl (by decide) rfl ?_
        refine own_iload (pc' := 338) X88 hx (hb hby at_336) rfl rfl ?_
        refine own_icmpNo (pc' := 341) X88 hx (hb hby at_338) rfl (teq rfl).2 ?_
        refine own_iconst (pc' := 342) (z := (1 : Int32)) X88 hx (hb hby at_341) rfl rfl ?_
        refine own_goto (pc' := 346) X88 hx (hb hby at_342) (by decide) (by decide) ?_
        refine own_istore (pc' := 348) (l' := #[.val (.int p0), .val (.int p1), .val (.int p2), .val (.int p3), .val (.int p4), .val (.int (1 : Int32)), .val (.int a32), .val (.int b33), .val (.int (0 : Int32)), .val (.int (0 : Int32)), .val (.ref a51), .val (.ref a55), .val (.int (2 : Int32)), .val (.ref ra88), .val (.int (1 : Int32))]) X88 hx (hb hby at_346) rfl rfl ?_
        refine own_goto (pc' := 401) X88 hx (hb hby at_348) (by decide) (by decide) ?_
        refine own_iload (pc' := 403) X88 hx (hb hby at_401) rfl rfl ?_
        refine own_ifNo (pc' := 406) X88 hx (hb hby at_403) rfl (feq (by decide)).1 ?_
        refine own_aload (pc' := 408) X88 hx (hb hby at_406) rfl rfl rfl ?_
        refine own_aload (pc' := 410) X88 hx (hb hby at_408) rfl rfl rfl ?_
        refine own_iload (pc' := 412) X88 hx (hb hby at_410) rfl rfl ?_
        have f93 := (V85.keep Kq88 nin0)
        refine own_callS (pc' := 415) (y := (⟨"com/example/exacting_validator/exactingvalidator/pattern/CodePointSetsComplementPinLaw", "same", "([I[II)Z"⟩ : MethodName)) (W := 0) (rm := own_room3_2) (argsL := [(.ref ra88), (.ref a55), (.int (2 : Int32))]) (rest := []) X88 hx hZ rfl hown (by rw [hml]; rfl) (own_w22 hw) (own_w23 hw) (own_w24 hw) (own_w25 hw) (by decide) (own_rm3_2 l Z a0 hw [] ra88 a55 rk88 k55 (b33 + (1 : Int32)) (1114111 : Int32) (0 : Int32) (0 : Int32) (0 : Int32) (0 : Int32) T88.heap n0 G88_1 f93) (by decide) (by decide) (by decide) (by decide) (lenOf own_pd3 rfl) rfl (by exact Nat.le_of_eq rfl) (hb hby at_412) rfl ?_
        intro T94 Lc94 v94 X94 hQ94
        obtain ⟨rfl, Nq94, Kq94⟩ := hQ94
        have N94 := Fr.app N88 Nq94
        show own_Ends p e below s _ _ _ T94 (mkF m 415 #[.val (.int p0), .val (.int p1), .val (.int p2), .val (.int p3), .val (.int p4), .val (.int (1 : Int32)), .val (.int a32), .val (.int b33), .val (.int (0 : Int32)), .val (.int (0 : Int32)), .val (.ref a51), .val (.ref a55), .val (.int (2 : Int32)), .val (.ref ra88), .val (.int (1 : Int32))] [(.int (1 : Int32))])
        refine own_ifNo (pc' := 418) X94 hx (hb hby at_415) rfl (feq (by decide)).1 ?_
        refine own_iconst (pc' := 419) (z := (1 : Int32)) X94 hx (hb hby at_418) rfl rfl ?_
        refine own_goto (pc' := 423) X94 hx (hb hby at_419) (by decide) (by decide) ?_
        refine own_retN X94 hx hlk hret (by simp) (hb hby at_423) (by decide) (by decide) ?_
        exact ⟨rfl, N94⟩
      · refine own_icmpYes (pc' := 282) X55 hx (hb hby at_258) (flt hc258_83).2.1 (by decide) (by decide) ?_
        refine own_aload (pc' := 284) X55 hx (hb hby at_282) rfl rfl rfl ?_
        have i_hc258_83 : 1114111 ≤ b33.toInt := own_i2 hc258_83
        have hl0 : (1114111 : Int32) < b33 + (1 : Int32) := own_lt (by rw [own_p1 ⟨by omega, by omega⟩]; show 1114111 < b33.toInt + 1; omega)
        have f95 := (V54.ext E55)
        have f96 := (Nat.le_trans f56 E55.1)
        refine own_callS (pc' := 287) (y := (⟨"com/example/exacting_validator/exactingvalidator/pattern/CodePointSets", "complement", "([I)[I"⟩ : MethodName)) (W := 0) (rm := own_room1_100) (argsL := [(.ref a51)]) (rest := []) X55 hx hZ e55 hown (by rw [hml]; rfl) (own_w4 hw) (own_w5 hw) (own_w6 hw) (own_w7 hw) (by decide) (own_rm1_100 l Z a0 hw [] a51 k51 a32 b33 h55 n0 f96 f95 hc187_59 hl0) (by decide) (by decide) (by decide) (by decide) (lenOf own_pd2 rfl) rfl (by exact Nat.le_of_eq rfl) (hb hby at_284) rfl ?_
        intro T97 Lc97 v97 X97 hQ97
        obtain ⟨ra97, rk97, rfl, Nq97, Kq97, G97_0, G97_1⟩ := hQ97
        have N97 := Fr.app N54 Nq97
        have ge98 : n0 ≤ ra97 := Nat.le_trans f96 G97_0
        have ne99 : a51 ≠ ra97 := Nat.ne_of_lt (Nat.lt_of_lt_of_le f95.lt G97_0)
        have ne100 : a55 ≠ ra97 := Nat.ne_of_lt (Nat.lt_of_lt_of_le V55.lt G97_0)
        show own_Ends p e below s _ _ _ T97 (mkF m 287 #[.val (.int p0), .val (.int p1), .val (.int p2), .val (.int p3), .val (.int p4), .val (.int (1 : Int32)), .val (.int a32), .val (.int b33), .val (.int (0 : Int32)), .val (.int (0 : Int32)), .val (.ref a51), .val (.ref a55), .val (.int (0 : Int32)), .val (.int b33), .unset] [(.ref ra97)])
        refine own_astore (pc' := 289) (l' := #[.val (.int p0), .val (.int p1), .val (.int p2), .val (.int p3), .val (.int p4), .val (.int (1 : Int32)), .val (.int a32), .val (.int b33), .val (.int (0 : Int32)), .val (.int (0 : Int32)), .val (.ref a51), .val (.ref a55), .val (.int (0 : Int32)), .val (.ref ra97), .unset]) X97 hx (hb hby at_287) rfl rfl rfl ?_
        refine own_iload (pc' := 291) X97 hx (hb hby at_289) rfl rfl ?_
        refine own_ifYes (pc' := 310) X97 hx (hb hby at_291) (feq (by decide)).2 (by decide) (by decide) ?_
        refine own_iload (pc' := 312) X97 hx (hb hby at_310) rfl rfl ?_
        refine own_iconst (pc' := 313) (z := (1 : Int32)) X97 hx (hb hby at_312) rfl rfl ?_
        refine own_icmpNo (pc' := 316) X97 hx (hb hby at_313) rfl (teq (by decide)).2 ?_
        refine own_aload (pc' := 318) X97 hx (hb hby at_316) rfl rfl rfl ?_
        have f101 := (f95.keep Kq97 nin0)
        refine own_alen (pc' := 319) X97 hx hZ rfl f101 (hb hby at_318) rfl ?_
        refine own_iconst (pc' := 320) (z := (2 : Int32)) X97 hx (hb hby at_319) rfl rfl ?_
        refine own_icmpNo (pc' := 323) X97 hx (hb hby at_320) rfl (teq (by decide)).2 ?_
        refine own_aload (pc' := 325) X97 hx (hb hby at_323) rfl rfl rfl ?_
        refine own_iconst (pc' := 326) (z := (0 : Int32)) X97 hx (hb hby at_325) rfl rfl ?_
        refine own_iaload (pc' := 327) X97 hx hZ rfl f101 (hb hby at_326) rfl (by decide) rfl ?_
        refine own_iload (pc' := 329) X97 hx (hb hby at_327) rfl rfl ?_
        refine own_icmpNo (pc' := 332) X97 hx (hb hby at_329) rfl (teq rfl).2 ?_
        refine own_aload (pc' := 334) X97 hx (hb hby at_332) rfl rfl rfl ?_
        refine own_iconst (pc' := 335) (z := (1 : Int32)) X97 hx (hb hby at_334) rfl rfl ?_
        refine own_iaload (pc' := 336) X97 hx hZ rfl f101 (hb hby at_335) rfl (by decide) rfl ?_
        refine own_iload (pc' := 338) X97 hx (hb hby at_336) rfl rfl ?_
        refine own_icmpNo (pc' := 341) X97 hx (hb hby at_338) rfl (teq rfl).2 ?_
        refine own_iconst (pc' := 342) (z := (1 : Int32)) X97 hx (hb hby at_341) rfl rfl ?_
        refine own_goto (pc' := 346) X97 hx (hb hby at_342) (by decide) (by decide) ?_
        refine own_istore (pc' := 348) (l' := #[.val (.int p0), .val (.int p1), .val (.int p2), .val (.int p3), .val (.int p4), .val (.int (1 : Int32)), .val (.int a32), .val (.int b33), .val (.int (0 : Int32)), .val (.int (0 : Int32)), .val (.ref a51), .val (.ref a55), .val (.int (0 : Int32)), .val (.ref ra97), .val (.int (1 : Int32))]) X97 hx (hb hby at_346) rfl rfl ?_
        refine own_goto (pc' := 401) X97 hx (hb hby at_348) (by decide) (by decide) ?_
        refine own_iload (pc' := 403) X97 hx (hb hby at_401) rfl rfl ?_
        refine own_ifNo (pc' := 406) X97 hx (hb hby at_403) rfl (feq (by decide)).1 ?_
        refine own_aload (pc' := 408) X97 hx (hb hby at_406) rfl rfl rfl ?_
        refine own_aload (pc' := 410) X97 hx (hb hby at_408) rfl rfl rfl ?_
        refine own_iload (pc' := 412) X97 hx (hb hby at_410) rfl rfl ?_
        have f102 := (V55.keep Kq97 nin0)
        refine own_callS (pc' := 415) (y := (⟨"com/example/exacting_validator/exactingvalidator/pattern/CodePointSetsComplementPinLaw", "same", "([I[II)Z"⟩ : MethodName)) (W := 0) (rm := own_room3_0) (argsL := [(.ref ra97), (.ref a55), (.int (0 : Int32))]) (rest := []) X97 hx hZ rfl hown (by rw [hml]; rfl) (own_w22 hw) (own_w23 hw) (own_w24 hw) (own_w25 hw) (by decide) (own_rm3_0 l Z a0 hw [] ra97 a55 rk97 k55 (0 : Int32) (0 : Int32) (0 : Int32) (0 : Int32) (0 : Int32) (0 : Int32) T97.heap n0 G97_1 f102) (by decide) (by decide) (by decide) (by decide) (lenOf own_pd3 rfl) rfl (by exact Nat.le_of_eq rfl) (hb hby at_412) rfl ?_
        intro T103 Lc103 v103 X103 hQ103
        obtain ⟨rfl, Nq103, Kq103⟩ := hQ103
        have N103 := Fr.app N97 Nq103
        show own_Ends p e below s _ _ _ T103 (mkF m 415 #[.val (.int p0), .val (.int p1), .val (.int p2), .val (.int p3), .val (.int p4), .val (.int (1 : Int32)), .val (.int a32), .val (.int b33), .val (.int (0 : Int32)), .val (.int (0 : Int32)), .val (.ref a51), .val (.ref a55), .val (.int (0 : Int32)), .val (.ref ra97), .val (.int (1 : Int32))] [(.int (1 : Int32))])
        refine own_ifNo (pc' := 418) X103 hx (hb hby at_415) rfl (feq (by decide)).1 ?_
        refine own_iconst (pc' := 419) (z := (1 : Int32)) X103 hx (hb hby at_418) rfl rfl ?_
        refine own_goto (pc' := 423) X103 hx (hb hby at_419) (by decide) (by decide) ?_
        refine own_retN X103 hx hlk hret (by simp) (hb hby at_423) (by decide) (by decide) ?_
        exact ⟨rfl, N103⟩
  · refine own_iload (pc' := 41) X0 hx (hb hby at_39) rfl rfl ?_
    refine own_iconst (pc' := 42) (z := (2 : Int32)) X0 hx (hb hby at_41) rfl rfl ?_
    refine own_icmpNo (pc' := 45) X0 hx (hb hby at_42) rfl (teq (by decide)).2 ?_
    refine own_iload (pc' := 47) X0 hx (hb hby at_45) rfl rfl ?_
    refine own_ldcI (pc' := 49) X0 hx hZ hown (own_w26 hw) (hb hby at_47) rfl ?_
    by_cases hc49_104 : (1114109 : Int32) < b33
    · refine own_icmpYes (pc' := 89) X0 hx (hb hby at_49) (tlt hc49_104).2.2.1 (by decide) (by decide) ?_
      refine own_iconst (pc' := 90) (z := (1 : Int32)) X0 hx (hb hby at_89) rfl rfl ?_
      refine own_istore (pc' := 92) (l' := #[.val (.int p0), .val (.int p1), .val (.int p2), .val (.int p3), .val (.int p4), .val (.int (1 : Int32)), .val (.int a32), .val (.int b33), .val (.int (0 : Int32)), .val (.int (0 : Int32)), .unset, .unset, .unset, .unset, .unset]) X0 hx (hb hby at_90) rfl rfl ?_
      refine own_iload (pc' := 94) X0 hx (hb hby at_92) rfl rfl ?_
      refine own_ifYes (pc' := 105) X0 hx (hb hby at_94) (feq (by decide)).2 (by decide) (by decide) ?_
      refine own_iload (pc' := 107) X0 hx (hb hby at_105) rfl rfl ?_
      refine own_iconst (pc' := 108) (z := (1 : Int32)) X0 hx (hb hby at_107) rfl rfl ?_
      refine own_icmpNo (pc' := 111) X0 hx (hb hby at_108) rfl (teq (by decide)).2 ?_
      refine own_iconst (pc' := 112) (z := (2 : Int32)) X0 hx (hb hby at_111) rfl rfl ?_
      refine own_newarr (pc' := 114) (aty := .int) X0 hx hZ (own_w2 hw) e0 (hb hby at_112) rfl (by decide) 2 2 (by decide) (by decide) (by decide) (by decide) ?_
      intro T105 h105 a105 k105 X105 e105 E105 g105 V105
      replace V105 : Arv Z h105 a105 k105 .int (2 : Int32) [(.int (0 : Int32)), (.int (0 : Int32))] (.int (0 : Int32)) := V105
      have ge106 : n0 ≤ a105 := by rw [g105]; exact Z0
      show own_Ends p e below s _ _ _ T105 (mkF m 114 #[.val (.int p0), .val (.int p1), .val (.int p2), .val (.int p3), .val (.int p4), .val (.int (1 : Int32)), .val (.int a32), .val (.int b33), .val (.int (0 : Int32)), .val (.int (0 : Int32)), .unset, .unset, .unset, .unset, .unset] [(.ref a105)])
      refine own_dup (pc' := 115) X105 hx (hb hby at_114) rfl rfl ?_
      refine own_iconst (pc' := 116) (z := (0 : Int32)) X105 hx (hb hby at_115) rfl rfl ?_
      refine own_iload (pc' := 118) X105 hx (hb hby at_116) rfl rfl ?_
      refine own_iastore (pc' := 119) X105 hx hZ e105 V105 (hb hby at_118) rfl (by decide) 0 rfl (by simp) N0 ge106 ?_
      intro T107 h107 L107 X107 e107 N107 W107 V107
      replace V107 : Arv Z h107 a105 k105 .int (2 : Int32) [(.int a32), (.int (0 : Int32))] (.int (0 : Int32)) := V107
      show own_Ends p e below s _ _ _ T107 (mkF m 119 #[.val (.int p0), .val (.int p1), .val (.int p2), .val (.int p3), .val (.int p4), .val (.int (1 : Int32)), .val (.int a32), .val (.int b33), .val (.int (0 : Int32)), .val (.int (0 : Int32)), .unset, .unset, .unset, .unset, .unset] [(.ref a105)])
      refine own_dup (pc' := 120) X107 hx (hb hby at_119) rfl rfl ?_
      refine own_iconst (pc' := 121) (z := (1 : Int32)) X107 hx (hb hby at_120) rfl rfl ?_
      refine own_iload (pc' := 123) X107 hx (hb hby at_121) rfl rfl ?_
      refine own_iastore (pc' := 124) X107 hx hZ e107 V107 (hb hby at_123) rfl (by decide) 1 rfl (by simp) N107 ge106 ?_
      intro T108 h108 L108 X108 e108 N108 W108 V108
      replace V108 : Arv Z h108 a105 k105 .int (2 : Int32) [(.int a32), (.int b33)] (.int (0 : Int32)) := V108
      show own_Ends p e below s _ _ _ T108 (mkF m 124 #[.val (.int p0), .val (.int p1), .val (.int p2), .val (.int p3), .val (.int p4), .val (.int (1 : Int32)), .val (.int a32), .val (.int b33), .val (.int (0 : Int32)), .val (.int (0 : Int32)), .unset, .unset, .unset, .unset, .unset] [(.ref a105)])
      refine own_astore (pc' := 126) (l' := #[.val (.int p0), .val (.int p1), .val (.int p2), .val (.int p3), .val (.int p4), .val (.int (1 : Int32)), .val (.int a32), .val (.int b33), .val (.int (0 : Int32)), .val (.int (0 : Int32)), .val (.ref a105), .unset, .unset, .unset, .unset]) X108 hx (hb hby at_124) rfl rfl rfl ?_
      refine own_goto (pc' := 154) X108 hx (hb hby at_126) (by decide) (by decide) ?_
      refine own_bipush (pc' := 156) (z := (6 : Int32)) X108 hx (hb hby at_154) rfl rfl ?_
      refine own_newarr (pc' := 158) (aty := .int) X108 hx hZ (own_w2 hw) e108 (hb hby at_156) rfl (by decide) 6 6 (by decide) (by decide) (by decide) (by decide) ?_
      intro T109 h109 a109 k109 X109 e109 E109 g109 V109
      replace V109 : Arv Z h109 a109 k109 .int (6 : Int32) [(.int (0 : Int32)), (.int (0 : Int32)), (.int (0 : Int32)), (.int (0 : Int32)), (.int (0 : Int32)), (.int (0 : Int32))] (.int (0 : Int32)) := V109
      have f110 := (Nat.le_trans (Nat.le_trans (Nat.le_trans Z0 E105.1) (Keep.of_wr W107).1) (Keep.of_wr W108).1)
      have ge111 : n0 ≤ a109 := by rw [g109]; exact f110
      have ne112 : a105 ≠ a109 := Nat.ne_of_lt (by rw [g109]; exact V108.lt)
      show own_Ends p e below s _ _ _ T109 (mkF m 158 #[.val (.int p0), .val (.int p1), .val (.int p2), .val (.int p3), .val (.int p4), .val (.int (1 : Int32)), .val (.int a32), .val (.int b33), .val (.int (0 : Int32)), .val (.int (0 : Int32)), .val (.ref a105), .unset, .unset, .unset, .unset] [(.ref a109)])
      refine own_astore (pc' := 160) (l' := #[.val (.int p0), .val (.int p1), .val (.int p2), .val (.int p3), .val (.int p4), .val (.int (1 : Int32)), .val (.int a32), .val (.int b33), .val (.int (0 : Int32)), .val (.int (0 : Int32)), .val (.ref a105), .val (.ref a109), .unset, .unset, .unset]) X109 hx (hb hby at_158) rfl rfl rfl ?_
      refine own_iconst (pc' := 161) (z := (0 : Int32)) X109 hx (hb hby at_160) rfl rfl ?_
      refine own_istore (pc' := 163) (l' := #[.val (.int p0), .val (.int p1), .val (.int p2), .val (.int p3), .val (.int p4), .val (.int (1 : Int32)), .val (.int a32), .val (.int b33), .val (.int (0 : Int32)), .val (.int (0 : Int32)), .val (.ref a105), .val (.ref a109), .val (.int (0 : Int32)), .unset, .unset]) X109 hx (hb hby at_161) rfl rfl ?_
      refine own_iload (pc' := 165) X109 hx (hb hby at_163) rfl rfl ?_
      refine own_ifYes (pc' := 185) X109 hx (hb hby at_165) (feq (by decide)).2 (by decide) (by decide) ?_
      refine own_iload (pc' := 187) X109 hx (hb hby at_185) rfl rfl ?_
      by_cases hc187_113 : (0 : Int32) < a32
      · refine own_ifNo (pc' := 190) X109 hx (hb hby at_187) rfl (tlt hc187_113).2.2.2 ?_
        refine own_aload (pc' := 192) X109 hx (hb hby at_190) rfl rfl rfl ?_
        refine own_iload (pc' := 194) X109 hx (hb hby at_192) rfl rfl ?_
        refine own_iconst (pc' := 195) (z := (0 : Int32)) X109 hx (hb hby at_194) rfl rfl ?_
        refine own_iastore (pc' := 196) X109 hx hZ e109 V109 (hb hby at_195) rfl (by decide) 0 rfl (by simp) N108 ge111 ?_
        intro T114 h114 L114 X114 e114 N114 W114 V114
        replace V114 : Arv Z h114 a109 k109 .int (6 : Int32) [(.int (0 : Int32)), (.int (0 : Int32)), (.int (0 : Int32)), (.int (0 : Int32)), (.int (0 : Int32)), (.int (0 : Int32))] (.int (0 : Int32)) := V114
        show own_Ends p e below s _ _ _ T114 (mkF m 196 #[.val (.int p0), .val (.int p1), .val (.int p2), .val (.int p3), .val (.int p4), .val (.int (1 : Int32)), .val (.int a32), .val (.int b33), .val (.int (0 : Int32)), .val (.int (0 : Int32)), .val (.ref a105), .val (.ref a109), .val (.int (0 : Int32)), .unset, .unset] [])
        refine own_aload (pc' := 198) X114 hx (hb hby at_196) rfl rfl rfl ?_
        refine own_iload (pc' := 200) X114 hx (hb hby at_198) rfl rfl ?_
        refine own_iconst (pc' := 201) (z := (1 : Int32)) X114 hx (hb hby at_200) rfl rfl ?_
        refine own_iadd (pc' := 202) (z := (1 : Int32)) X114 hx (hb hby at_201) rfl (by decide) ?_
        refine own_iload (pc' := 204) X114 hx (hb hby at_202) rfl rfl ?_
        refine own_iconst (pc' := 205) (z := (1 : Int32)) X114 hx (hb hby at_204) rfl rfl ?_
        refine own_isub (pc' := 206) (z := (a32 - (1 : Int32))) X114 hx (hb hby at_205) rfl rfl ?_
        refine own_iastore (pc' := 207) X114 hx hZ e114 V114 (hb hby at_206) rfl (by decide) 1 rfl (by simp) N114 ge111 ?_
        intro T115 h115 L115 X115 e115 N115 W115 V115
        replace V115 : Arv Z h115 a109 k109 .int (6 : Int32) [(.int (0 : Int32)), (.int (a32 - (1 : Int32))), (.int (0 : Int32)), (.int (0 : Int32)), (.int (0 : Int32)), (.int (0 : Int32))] (.int (0 : Int32)) := V115
        show own_Ends p e below s _ _ _ T115 (mkF m 207 #[.val (.int p0), .val (.int p1), .val (.int p2), .val (.int p3), .val (.int p4), .val (.int (1 : Int32)), .val (.int a32), .val (.int b33), .val (.int (0 : Int32)), .val (.int (0 : Int32)), .val (.ref a105), .val (.ref a109), .val (.int (0 : Int32)), .unset, .unset] [])
        refine own_iinc (pc' := 210) (z := (2 : Int32)) (l' := #[.val (.int p0), .val (.int p1), .val (.int p2), .val (.int p3), .val (.int p4), .val (.int (1 : Int32)), .val (.int a32), .val (.int b33), .val (.int (0 : Int32)), .val (.int (0 : Int32)), .val (.ref a105), .val (.ref a109), .val (.int (2 : Int32)), .unset, .unset]) X115 hx (hb hby at_207) rfl rfl (by decide) rfl ?_
        refine own_iload (pc' := 212) X115 hx (hb hby at_210) rfl rfl ?_
        refine own_iconst (pc' := 213) (z := (2 : Int32)) X115 hx (hb hby at_212) rfl rfl ?_
        refine own_icmpYes (pc' := 239) X115 hx (hb hby at_213) (feq (by decide)).2 (by decide) (by decide) ?_
        refine own_iload (pc' := 241) X115 hx (hb hby at_239) rfl rfl ?_
        refine own_iconst (pc' := 242) (z := (2 : Int32)) X115 hx (hb hby at_241) rfl rfl ?_
        refine own_icmpYes (pc' := 250) X115 hx (hb hby at_242) (feq (by decide)).2 (by decide) (by decide) ?_
        refine own_iload (pc' := 252) X115 hx (hb hby at_250) rfl rfl ?_
        refine own_istore (pc' := 254) (l' := #[.val (.int p0), .val (.int p1), .val (.int p2), .val (.int p3), .val (.int p4), .val (.int (1 : Int32)), .val (.int a32), .val (.int b33), .val (.int (0 : Int32)), .val (.int (0 : Int32)), .val (.ref a105), .val (.ref a109), .val (.int (2 : Int32)), .val (.int b33), .unset]) X115 hx (hb hby at_252) rfl rfl ?_
        refine own_iload (pc' := 256) X115 hx (hb hby at_254) rfl rfl ?_
        refine own_ldcI (pc' := 258) X115 hx hZ hown (own_w3 hw) (hb hby at_256) rfl ?_
        by_cases hc258_116 : b33 < (1114111 : Int32)
        · refine own_icmpNo (pc' := 261) X115 hx (hb hby at_258) rfl (tlt hc258_116).2.1 ?_
          refine own_aload (pc' := 263) X115 hx (hb hby at_261) rfl rfl rfl ?_
          refine own_iload (pc' := 265) X115 hx (hb hby at_263) rfl rfl ?_
          refine own_iload (pc' := 267) X115 hx (hb hby at_265) rfl rfl ?_
          refine own_iconst (pc' := 268) (z := (1 : Int32)) X115 hx (hb hby at_267) rfl rfl ?_
          refine own_iadd (pc' := 269) (z := (b33 + (1 : Int32))) X115 hx (hb hby at_268) rfl rfl ?_
          refine own_iastore (pc' := 270) X115 hx hZ e115 V115 (hb hby at_269) rfl (by decide) 2 rfl (by simp) N115 ge111 ?_
          intro T117 h117 L117 X117 e117 N117 W117 V117
          replace V117 : Arv Z h117 a109 k109 .int (6 : Int32) [(.int (0 : Int32)), (.int (a32 - (1 : Int32))), (.int (b33 + (1 : Int32))), (.int (0 : Int32)), (.int (0 : Int32)), (.int (0 : Int32))] (.int (0 : Int32)) := V117
          show own_Ends p e below s _ _ _ T117 (mkF m 270 #[.val (.int p0), .val (.int p1), .val (.int p2), .val (.int p3), .val (.int p4), .val (.int (1 : Int32)), .val (.int a32), .val (.int b33), .val (.int (0 : Int32)), .val (.int (0 : Int32)), .val (.ref a105), .val (.ref a109), .val (.int (2 : Int32)), .val (.int b33), .unset] [])
          refine own_aload (pc' := 272) X117 hx (hb hby at_270) rfl rfl rfl ?_
          refine own_iload (pc' := 274) X117 hx (hb hby at_272) rfl rfl ?_
          refine own_iconst (pc' := 275) (z := (1 : Int32)) X117 hx (hb hby at_274) rfl rfl ?_
          refine own_iadd (pc' := 276) (z := (3 : Int32)) X117 hx (hb hby at_275) rfl (by decide) ?_
          refine own_ldcI (pc' := 278) X117 hx hZ hown (own_w3 hw) (hb hby at_276) rfl ?_
          refine own_iastore (pc' := 279) X117 hx hZ e117 V117 (hb hby at_278) rfl (by decide) 3 rfl (by simp) N117 ge111 ?_
          intro T118 h118 L118 X118 e118 N118 W118 V118
          replace V118 : Arv Z h118 a109 k109 .int (6 : Int32) [(.int (0 : Int32)), (.int (a32 - (1 : Int32))), (.int (b33 + (1 : Int32))), (.int (1114111 : Int32)), (.int (0 : Int32)), (.int (0 : Int32))] (.int (0 : Int32)) := V118
          show own_Ends p e below s _ _ _ T118 (mkF m 279 #[.val (.int p0), .val (.int p1), .val (.int p2), .val (.int p3), .val (.int p4), .val (.int (1 : Int32)), .val (.int a32), .val (.int b33), .val (.int (0 : Int32)), .val (.int (0 : Int32)), .val (.ref a105), .val (.ref a109), .val (.int (2 : Int32)), .val (.int b33), .unset] [])
          refine own_iinc (pc' := 282) (z := (4 : Int32)) (l' := #[.val (.int p0), .val (.int p1), .val (.int p2), .val (.int p3), .val (.int p4), .val (.int (1 : Int32)), .val (.int a32), .val (.int b33), .val (.int (0 : Int32)), .val (.int (0 : Int32)), .val (.ref a105), .val (.ref a109), .val (.int (4 : Int32)), .val (.int b33), .unset]) X118 hx (hb hby at_279) rfl rfl (by decide) rfl ?_
          refine own_aload (pc' := 284) X118 hx (hb hby at_282) rfl rfl rfl ?_
          have i_hc258_116 : b33.toInt < 1114111 := own_i1 hc258_116
          have hl0 : ¬ (1114111 : Int32) < b33 + (1 : Int32) := own_nlt (by rw [own_p1 ⟨by omega, by omega⟩]; show b33.toInt + 1 ≤ 1114111; omega)
          have f119 := (((((V108.ext E109).other W114 ne112).other W115 ne112).other W117 ne112).other W118 ne112)
          have f120 := (Nat.le_trans (Nat.le_trans (Nat.le_trans (Nat.le_trans (Nat.le_trans f110 E109.1) (Keep.of_wr W114).1) (Keep.of_wr W115).1) (Keep.of_wr W117).1) (Keep.of_wr W118).1)
          refine own_callS (pc' := 287) (y := (⟨"com/example/exacting_validator/exactingvalidator/pattern/CodePointSets", "complement", "([I)[I"⟩ : MethodName)) (W := 0) (rm := own_room1_111) (argsL := [(.ref a105)]) (rest := []) X118 hx hZ e118 hown (by rw [hml]; rfl) (own_w4 hw) (own_w5 hw) (own_w6 hw) (own_w7 hw) (by decide) (own_rm1_111 l Z a0 hw [] a105 k105 a32 b33 h118 n0 f120 f119 hc187_113 hl0) (by decide) (by decide) (by decide) (by decide) (lenOf own_pd2 rfl) rfl (by exact Nat.le_of_eq rfl) (hb hby at_284) rfl ?_
          intro T121 Lc121 v121 X121 hQ121
          obtain ⟨ra121, rk121, rfl, Nq121, Kq121, G121_0, G121_1⟩ := hQ121
          have N121 := Fr.app N118 Nq121
          have ge122 : n0 ≤ ra121 := Nat.le_trans f120 G121_0
          have ne123 : a105 ≠ ra121 := Nat.ne_of_lt (Nat.lt_of_lt_of_le f119.lt G121_0)
          have ne124 : a109 ≠ ra121 := Nat.ne_of_lt (Nat.lt_of_lt_of_le V118.lt G121_0)
          show own_Ends p e below s _ _ _ T121 (mkF m 287 #[.val (.int p0), .val (.int p1), .val (.int p2), .val (.int p3), .val (.int p4), .val (.int (1 : Int32)), .val (.int a32), .val (.int b33), .val (.int (0 : Int32)), .val (.int (0 : Int32)), .val (.ref a105), .val (.ref a109), .val (.int (4 : Int32)), .val (.int b33), .unset] [(.ref ra121)])
          refine own_astore (pc' := 289) (l' := #[.val (.int p0), .val (.int p1), .val (.int p2), .val (.int p3), .val (.int p4), .val (.int (1 : Int32)), .val (.int a32), .val (.int b33), .val (.int (0 : Int32)), .val (.int (0 : Int32)), .val (.ref a105), .val (.ref a109), .val (.int (4 : Int32)), .val (.ref ra121), .unset]) X121 hx (hb hby at_287) rfl rfl rfl ?_
          refine own_iload (pc' := 291) X121 hx (hb hby at_289) rfl rfl ?_
          refine own_ifYes (pc' := 310) X121 hx (hb hby at_291) (feq (by decide)).2 (by decide) (by decide) ?_
          refine own_iload (pc' := 312) X121 hx (hb hby at_310) rfl rfl ?_
          refine own_iconst (pc' := 313) (z := (1 : Int32)) X121 hx (hb hby at_312) rfl rfl ?_
          refine own_icmpNo (pc' := 316) X121 hx (hb hby at_313) rfl (teq (by decide)).2 ?_
          refine own_aload (pc' := 318) X121 hx (hb hby at_316) rfl rfl rfl ?_
          have f125 := (f119.keep Kq121 nin0)
          refine own_alen (pc' := 319) X121 hx hZ rfl f125 (hb hby at_318) rfl ?_
          refine own_iconst (pc' := 320) (z := (2 : Int32)) X121 hx (hb hby at_319) rfl rfl ?_
          refine own_icmpNo (pc' := 323) X121 hx (hb hby at_320) rfl (teq (by decide)).2 ?_
          refine own_aload (pc' := 325) X121 hx (hb hby at_323) rfl rfl rfl ?_
          refine own_iconst (pc' := 326) (z := (0 : Int32)) X121 hx (hb hby at_325) rfl rfl ?_
          refine own_iaload (pc' := 327) X121 hx hZ rfl f125 (hb hby at_326) rfl (by decide) rfl ?_
          refine own_iload (pc' := 329) X121 hx (hb hby at_327) rfl rfl ?_
          refine own_icmpNo (pc' := 332) X121 hx (hb hby at_329) rfl (teq rfl).2 ?_
          refine own_aload (pc' := 334) X121 hx (hb hby at_332) rfl rfl rfl ?_
          refine own_iconst (pc' := 335) (z := (1 : Int32)) X121 hx (hb hby at_334) rfl rfl ?_
          refine own_iaload (pc' := 336) X121 hx hZ rfl f125 (hb hby at_335) rfl (by decide) rfl ?_
          refine own_iload (pc' := 338) X121 hx (hb hby at_336) rfl rfl ?_
          refine own_icmpNo (pc' := 341) X121 hx (hb hby at_338) rfl (teq rfl).2 ?_
          refine own_iconst (pc' := 342) (z := (1 : Int32)) X121 hx (hb hby at_341) rfl rfl ?_
          refine own_goto (pc' := 346) X121 hx (hb hby at_342) (by decide) (by decide) ?_
          refine own_istore (pc' := 348) (l' := #[.val (.int p0), .val (.int p1), .val (.int p2), .val (.int p3), .val (.int p4), .val (.int (1 : Int32)), .val (.int a32), .val (.int b33), .val (.int (0 : Int32)), .val (.int (0 : Int32)), .val (.ref a105), .val (.ref a109), .val (.int (4 : Int32)), .val (.ref ra121), .val (.int (1 : Int32))]) X121 hx (hb hby at_346) rfl rfl ?_
          refine own_goto (pc' := 401) X121 hx (hb hby at_348) (by decide) (by decide) ?_
          refine own_iload (pc' := 403) X121 hx (hb hby at_401) rfl rfl ?_
          refine own_ifNo (pc' := 406) X121 hx (hb hby at_403) rfl (feq (by decide)).1 ?_
          refine own_aload (pc' := 408) X121 hx (hb hby at_406) rfl rfl rfl ?_
          refine own_aload (pc' := 410) X121 hx (hb hby at_408) rfl rfl rfl ?_
          refine own_iload (pc' := 412) X121 hx (hb hby at_410) rfl rfl ?_
          have f126 := (V118.keep Kq121 nin0)
          refine own_callS (pc' := 415) (y := (⟨"com/example/exacting_validator/exactingvalidator/pattern/CodePointSetsComplementPinLaw", "same", "([I[II)Z"⟩ : MethodName)) (W := 0) (rm := own_room3_4) (argsL := [(.ref ra121), (.ref a109), (.int (4 : Int32))]) (rest := []) X121 hx hZ rfl hown (by rw [hml]; rfl) (own_w22 hw) (own_w23 hw) (own_w24 hw) (own_w25 hw) (by decide) (own_rm3_4 l Z a0 hw [] ra121 a109 rk121 k109 (0 : Int32) (a32 - (1 : Int32)) (b33 + (1 : Int32)) (1114111 : Int32) (0 : Int32) (0 : Int32) T121.heap n0 G121_1 f126) (by decide) (by decide) (by decide) (by decide) (lenOf own_pd3 rfl) rfl (by exact Nat.le_of_eq rfl) (hb hby at_412) rfl ?_
          intro T127 Lc127 v127 X127 hQ127
          obtain ⟨rfl, Nq127, Kq127⟩ := hQ127
          have N127 := Fr.app N121 Nq127
          show own_Ends p e below s _ _ _ T127 (mkF m 415 #[.val (.int p0), .val (.int p1), .val (.int p2), .val (.int p3), .val (.int p4), .val (.int (1 : Int32)), .val (.int a32), .val (.int b33), .val (.int (0 : Int32)), .val (.int (0 : Int32)), .val (.ref a105), .val (.ref a109), .val (.int (4 : Int32)), .val (.ref ra121), .val (.int (1 : Int32))] [(.int (1 : Int32))])
          refine own_ifNo (pc' := 418) X127 hx (hb hby at_415) rfl (feq (by decide)).1 ?_
          refine own_iconst (pc' := 419) (z := (1 : Int32)) X127 hx (hb hby at_418) rfl rfl ?_
          refine own_goto (pc' := 423) X127 hx (hb hby at_419) (by decide) (by decide) ?_
          refine own_retN X127 hx hlk hret (by simp) (hb hby at_423) (by decide) (by decide) ?_
          exact ⟨rfl, N127⟩
        · refine own_icmpYes (pc' := 282) X115 hx (hb hby at_258) (flt hc258_116).2.1 (by decide) (by decide) ?_
          refine own_aload (pc' := 284) X115 hx (hb hby at_282) rfl rfl rfl ?_
          have i_hc258_116 : 1114111 ≤ b33.toInt := own_i2 hc258_116
          have hl0 : (1114111 : Int32) < b33 + (1 : Int32) := own_lt (by rw [own_p1 ⟨by omega, by omega⟩]; show 1114111 < b33.toInt + 1; omega)
          have f128 := (((V108.ext E109).other W114 ne112).other W115 ne112)
          have f129 := (Nat.le_trans (Nat.le_trans (Nat.le_trans f110 E109.1) (Keep.of_wr W114).1) (Keep.of_wr W115).1)
          refine own_callS (pc' := 287) (y := (⟨"com/example/exacting_validator/exactingvalidator/pattern/CodePointSets", "complement", "([I)[I"⟩ : MethodName)) (W := 0) (rm := own_room1_110) (argsL := [(.ref a105)]) (rest := []) X115 hx hZ e115 hown (by rw [hml]; rfl) (own_w4 hw) (own_w5 hw) (own_w6 hw) (own_w7 hw) (by decide) (own_rm1_110 l Z a0 hw [] a105 k105 a32 b33 h115 n0 f129 f128 hc187_113 hl0) (by decide) (by decide) (by decide) (by decide) (lenOf own_pd2 rfl) rfl (by exact Nat.le_of_eq rfl) (hb hby at_284) rfl ?_
          intro T130 Lc130 v130 X130 hQ130
          obtain ⟨ra130, rk130, rfl, Nq130, Kq130, G130_0, G130_1⟩ := hQ130
          have N130 := Fr.app N115 Nq130
          have ge131 : n0 ≤ ra130 := Nat.le_trans f129 G130_0
          have ne132 : a105 ≠ ra130 := Nat.ne_of_lt (Nat.lt_of_lt_of_le f128.lt G130_0)
          have ne133 : a109 ≠ ra130 := Nat.ne_of_lt (Nat.lt_of_lt_of_le V115.lt G130_0)
          show own_Ends p e below s _ _ _ T130 (mkF m 287 #[.val (.int p0), .val (.int p1), .val (.int p2), .val (.int p3), .val (.int p4), .val (.int (1 : Int32)), .val (.int a32), .val (.int b33), .val (.int (0 : Int32)), .val (.int (0 : Int32)), .val (.ref a105), .val (.ref a109), .val (.int (2 : Int32)), .val (.int b33), .unset] [(.ref ra130)])
          refine own_astore (pc' := 289) (l' := #[.val (.int p0), .val (.int p1), .val (.int p2), .val (.int p3), .val (.int p4), .val (.int (1 : Int32)), .val (.int a32), .val (.int b33), .val (.int (0 : Int32)), .val (.int (0 : Int32)), .val (.ref a105), .val (.ref a109), .val (.int (2 : Int32)), .val (.ref ra130), .unset]) X130 hx (hb hby at_287) rfl rfl rfl ?_
          refine own_iload (pc' := 291) X130 hx (hb hby at_289) rfl rfl ?_
          refine own_ifYes (pc' := 310) X130 hx (hb hby at_291) (feq (by decide)).2 (by decide) (by decide) ?_
          refine own_iload (pc' := 312) X130 hx (hb hby at_310) rfl rfl ?_
          refine own_iconst (pc' := 313) (z := (1 : Int32)) X130 hx (hb hby at_312) rfl rfl ?_
          refine own_icmpNo (pc' := 316) X130 hx (hb hby at_313) rfl (teq (by decide)).2 ?_
          refine own_aload (pc' := 318) X130 hx (hb hby at_316) rfl rfl rfl ?_
          have f134 := (f128.keep Kq130 nin0)
          refine own_alen (pc' := 319) X130 hx hZ rfl f134 (hb hby at_318) rfl ?_
          refine own_iconst (pc' := 320) (z := (2 : Int32)) X130 hx (hb hby at_319) rfl rfl ?_
          refine own_icmpNo (pc' := 323) X130 hx (hb hby at_320) rfl (teq (by decide)).2 ?_
          refine own_aload (pc' := 325) X130 hx (hb hby at_323) rfl rfl rfl ?_
          refine own_iconst (pc' := 326) (z := (0 : Int32)) X130 hx (hb hby at_325) rfl rfl ?_
          refine own_iaload (pc' := 327) X130 hx hZ rfl f134 (hb hby at_326) rfl (by decide) rfl ?_
          refine own_iload (pc' := 329) X130 hx (hb hby at_327) rfl rfl ?_
          refine own_icmpNo (pc' := 332) X130 hx (hb hby at_329) rfl (teq rfl).2 ?_
          refine own_aload (pc' := 334) X130 hx (hb hby at_332) rfl rfl rfl ?_
          refine own_iconst (pc' := 335) (z := (1 : Int32)) X130 hx (hb hby at_334) rfl rfl ?_
          refine own_iaload (pc' := 336) X130 hx hZ rfl f134 (hb hby at_335) rfl (by decide) rfl ?_
          refine own_iload (pc' := 338) X130 hx (hb hby at_336) rfl rfl ?_
          refine own_icmpNo (pc' := 341) X130 hx (hb hby at_338) rfl (teq rfl).2 ?_
          refine own_iconst (pc' := 342) (z := (1 : Int32)) X130 hx (hb hby at_341) rfl rfl ?_
          refine own_goto (pc' := 346) X130 hx (hb hby at_342) (by decide) (by decide) ?_
          refine own_istore (pc' := 348) (l' := #[.val (.int p0), .val (.int p1), .val (.int p2), .val (.int p3), .val (.int p4), .val (.int (1 : Int32)), .val (.int a32), .val (.int b33), .val (.int (0 : Int32)), .val (.int (0 : Int32)), .val (.ref a105), .val (.ref a109), .val (.int (2 : Int32)), .val (.ref ra130), .val (.int (1 : Int32))]) X130 hx (hb hby at_346) rfl rfl ?_
          refine own_goto (pc' := 401) X130 hx (hb hby at_348) (by decide) (by decide) ?_
          refine own_iload (pc' := 403) X130 hx (hb hby at_401) rfl rfl ?_
          refine own_ifNo (pc' := 406) X130 hx (hb hby at_403) rfl (feq (by decide)).1 ?_
          refine own_aload (pc' := 408) X130 hx (hb hby at_406) rfl rfl rfl ?_
          refine own_aload (pc' := 410) X130 hx (hb hby at_408) rfl rfl rfl ?_
          refine own_iload (pc' := 412) X130 hx (hb hby at_410) rfl rfl ?_
          have f135 := (V115.keep Kq130 nin0)
          refine own_callS (pc' := 415) (y := (⟨"com/example/exacting_validator/exactingvalidator/pattern/CodePointSetsComplementPinLaw", "same", "([I[II)Z"⟩ : MethodName)) (W := 0) (rm := own_room3_2) (argsL := [(.ref ra130), (.ref a109), (.int (2 : Int32))]) (rest := []) X130 hx hZ rfl hown (by rw [hml]; rfl) (own_w22 hw) (own_w23 hw) (own_w24 hw) (own_w25 hw) (by decide) (own_rm3_2 l Z a0 hw [] ra130 a109 rk130 k109 (0 : Int32) (a32 - (1 : Int32)) (0 : Int32) (0 : Int32) (0 : Int32) (0 : Int32) T130.heap n0 G130_1 f135) (by decide) (by decide) (by decide) (by decide) (lenOf own_pd3 rfl) rfl (by exact Nat.le_of_eq rfl) (hb hby at_412) rfl ?_
          intro T136 Lc136 v136 X136 hQ136
          obtain ⟨rfl, Nq136, Kq136⟩ := hQ136
          have N136 := Fr.app N130 Nq136
          show own_Ends p e below s _ _ _ T136 (mkF m 415 #[.val (.int p0), .val (.int p1), .val (.int p2), .val (.int p3), .val (.int p4), .val (.int (1 : Int32)), .val (.int a32), .val (.int b33), .val (.int (0 : Int32)), .val (.int (0 : Int32)), .val (.ref a105), .val (.ref a109), .val (.int (2 : Int32)), .val (.ref ra130), .val (.int (1 : Int32))] [(.int (1 : Int32))])
          refine own_ifNo (pc' := 418) X136 hx (hb hby at_415) rfl (feq (by decide)).1 ?_
          refine own_iconst (pc' := 419) (z := (1 : Int32)) X136 hx (hb hby at_418) rfl rfl ?_
          refine own_goto (pc' := 423) X136 hx (hb hby at_419) (by decide) (by decide) ?_
          refine own_retN X136 hx hlk hret (by simp) (hb hby at_423) (by decide) (by decide) ?_
          exact ⟨rfl, N136⟩
      · refine own_ifYes (pc' := 210) X109 hx (hb hby at_187) (flt hc187_113).2.2.2 (by decide) (by decide) ?_
        refine own_iload (pc' := 212) X109 hx (hb hby at_210) rfl rfl ?_
        refine own_iconst (pc' := 213) (z := (2 : Int32)) X109 hx (hb hby at_212) rfl rfl ?_
        refine own_icmpYes (pc' := 239) X109 hx (hb hby at_213) (feq (by decide)).2 (by decide) (by decide) ?_
        refine own_iload (pc' := 241) X109 hx (hb hby at_239) rfl rfl ?_
        refine own_iconst (pc' := 242) (z := (2 : Int32)) X109 hx (hb hby at_241) rfl rfl ?_
        refine own_icmpYes (pc' := 250) X109 hx (hb hby at_242) (feq (by decide)).2 (by decide) (by decide) ?_
        refine own_iload (pc' := 252) X109 hx (hb hby at_250) rfl rfl ?_
        refine own_istore (pc' := 254) (l' := #[.val (.int p0), .val (.int p1), .val (.int p2), .val (.int p3), .val (.int p4), .val (.int (1 : Int32)), .val (.int a32), .val (.int b33), .val (.int (0 : Int32)), .val (.int (0 : Int32)), .val (.ref a105), .val (.ref a109), .val (.int (0 : Int32)), .val (.int b33), .unset]) X109 hx (hb hby at_252) rfl rfl ?_
        refine own_iload (pc' := 256) X109 hx (hb hby at_254) rfl rfl ?_
        refine own_ldcI (pc' := 258) X109 hx hZ hown (own_w3 hw) (hb hby at_256) rfl ?_
        by_cases hc258_137 : b33 < (1114111 : Int32)
        · refine own_icmpNo (pc' := 261) X109 hx (hb hby at_258) rfl (tlt hc258_137).2.1 ?_
          refine own_aload (pc' := 263) X109 hx (hb hby at_261) rfl rfl rfl ?_
          refine own_iload (pc' := 265) X109 hx (hb hby at_263) rfl rfl ?_
          refine own_iload (pc' := 267) X109 hx (hb hby at_265) rfl rfl ?_
          refine own_iconst (pc' := 268) (z := (1 : Int32)) X109 hx (hb hby at_267) rfl rfl ?_
          refine own_iadd (pc' := 269) (z := (b33 + (1 : Int32))) X109 hx (hb hby at_268) rfl rfl ?_
          refine own_iastore (pc' := 270) X109 hx hZ e109 V109 (hb hby at_269) rfl (by decide) 0 rfl (by simp) N108 ge111 ?_
          intro T138 h138 L138 X138 e138 N138 W138 V138
          replace V138 : Arv Z h138 a109 k109 .int (6 : Int32) [(.int (b33 + (1 : Int32))), (.int (0 : Int32)), (.int (0 : Int32)), (.int (0 : Int32)), (.int (0 : Int32)), (.int (0 : Int32))] (.int (0 : Int32)) := V138
          show own_Ends p e below s _ _ _ T138 (mkF m 270 #[.val (.int p0), .val (.int p1), .val (.int p2), .val (.int p3), .val (.int p4), .val (.int (1 : Int32)), .val (.int a32), .val (.int b33), .val (.int (0 : Int32)), .val (.int (0 : Int32)), .val (.ref a105), .val (.ref a109), .val (.int (0 : Int32)), .val (.int b33), .unset] [])
          refine own_aload (pc' := 272) X138 hx (hb hby at_270) rfl rfl rfl ?_
          refine own_iload (pc' := 274) X138 hx (hb hby at_272) rfl rfl ?_
          refine own_iconst (pc' := 275) (z := (1 : Int32)) X138 hx (hb hby at_274) rfl rfl ?_
          refine own_iadd (pc' := 276) (z := (1 : Int32)) X138 hx (hb hby at_275) rfl (by decide) ?_
          refine own_ldcI (pc' := 278) X138 hx hZ hown (own_w3 hw) (hb hby at_276) rfl ?_
          refine own_iastore (pc' := 279) X138 hx hZ e138 V138 (hb hby at_278) rfl (by decide) 1 rfl (by simp) N138 ge111 ?_
          intro T139 h139 L139 X139 e139 N139 W139 V139
          replace V139 : Arv Z h139 a109 k109 .int (6 : Int32) [(.int (b33 + (1 : Int32))), (.int (1114111 : Int32)), (.int (0 : Int32)), (.int (0 : Int32)), (.int (0 : Int32)), (.int (0 : Int32))] (.int (0 : Int32)) := V139
          show own_Ends p e below s _ _ _ T139 (mkF m 279 #[.val (.int p0), .val (.int p1), .val (.int p2), .val (.int p3), .val (.int p4), .val (.int (1 : Int32)), .val (.int a32), .val (.int b33), .val (.int (0 : Int32)), .val (.int (0 : Int32)), .val (.ref a105), .val (.ref a109), .val (.int (0 : Int32)), .val (.int b33), .unset] [])
          refine own_iinc (pc' := 282) (z := (2 : Int32)) (l' := #[.val (.int p0), .val (.int p1), .val (.int p2), .val (.int p3), .val (.int p4), .val (.int (1 : Int32)), .val (.int a32), .val (.int b33), .val (.int (0 : Int32)), .val (.int (0 : Int32)), .val (.ref a105), .val (.ref a109), .val (.int (2 : Int32)), .val (.int b33), .unset]) X139 hx (hb hby at_279) rfl rfl (by decide) rfl ?_
          refine own_aload (pc' := 284) X139 hx (hb hby at_282) rfl rfl rfl ?_
          have i_hc258_137 : b33.toInt < 1114111 := own_i1 hc258_137
          have hl0 : ¬ (1114111 : Int32) < b33 + (1 : Int32) := own_nlt (by rw [own_p1 ⟨by omega, by omega⟩]; show b33.toInt + 1 ≤ 1114111; omega)
          have f140 := (((V108.ext E109).other W138 ne112).other W139 ne112)
          have f141 := (Nat.le_trans (Nat.le_trans (Nat.le_trans f110 E109.1) (Keep.of_wr W138).1) (Keep.of_wr W139).1)
          refine own_callS (pc' := 287) (y := (⟨"com/example/exacting_validator/exactingvalidator/pattern/CodePointSets", "complement", "([I)[I"⟩ : MethodName)) (W := 0) (rm := own_room1_101) (argsL := [(.ref a105)]) (rest := []) X139 hx hZ e139 hown (by rw [hml]; rfl) (own_w4 hw) (own_w5 hw) (own_w6 hw) (own_w7 hw) (by decide) (own_rm1_101 l Z a0 hw [] a105 k105 a32 b33 h139 n0 f141 f140 hc187_113 hl0) (by decide) (by decide) (by decide) (by decide) (lenOf own_pd2 rfl) rfl (by exact Nat.le_of_eq rfl) (hb hby at_284) rfl ?_
          intro T142 Lc142 v142 X142 hQ142
          obtain ⟨ra142, rk142, rfl, Nq142, Kq142, G142_0, G142_1⟩ := hQ142
          have N142 := Fr.app N139 Nq142
          have ge143 : n0 ≤ ra142 := Nat.le_trans f141 G142_0
          have ne144 : a105 ≠ ra142 := Nat.ne_of_lt (Nat.lt_of_lt_of_le f140.lt G142_0)
          have ne145 : a109 ≠ ra142 := Nat.ne_of_lt (Nat.lt_of_lt_of_le V139.lt G142_0)
          show own_Ends p e below s _ _ _ T142 (mkF m 287 #[.val (.int p0), .val (.int p1), .val (.int p2), .val (.int p3), .val (.int p4), .val (.int (1 : Int32)), .val (.int a32), .val (.int b33), .val (.int (0 : Int32)), .val (.int (0 : Int32)), .val (.ref a105), .val (.ref a109), .val (.int (2 : Int32)), .val (.int b33), .unset] [(.ref ra142)])
          refine own_astore (pc' := 289) (l' := #[.val (.int p0), .val (.int p1), .val (.int p2), .val (.int p3), .val (.int p4), .val (.int (1 : Int32)), .val (.int a32), .val (.int b33), .val (.int (0 : Int32)), .val (.int (0 : Int32)), .val (.ref a105), .val (.ref a109), .val (.int (2 : Int32)), .val (.ref ra142), .unset]) X142 hx (hb hby at_287) rfl rfl rfl ?_
          refine own_iload (pc' := 291) X142 hx (hb hby at_289) rfl rfl ?_
          refine own_ifYes (pc' := 310) X142 hx (hb hby at_291) (feq (by decide)).2 (by decide) (by decide) ?_
          refine own_iload (pc' := 312) X142 hx (hb hby at_310) rfl rfl ?_
          refine own_iconst (pc' := 313) (z := (1 : Int32)) X142 hx (hb hby at_312) rfl rfl ?_
          refine own_icmpNo (pc' := 316) X142 hx (hb hby at_313) rfl (teq (by decide)).2 ?_
          refine own_aload (pc' := 318) X142 hx (hb hby at_316) rfl rfl rfl ?_
          have f146 := (f140.keep Kq142 nin0)
          refine own_alen (pc' := 319) X142 hx hZ rfl f146 (hb hby at_318) rfl ?_
          refine own_iconst (pc' := 320) (z := (2 : Int32)) X142 hx (hb hby at_319) rfl rfl ?_
          refine own_icmpNo (pc' := 323) X142 hx (hb hby at_320) rfl (teq (by decide)).2 ?_
          refine own_aload (pc' := 325) X142 hx (hb hby at_323) rfl rfl rfl ?_
          refine own_iconst (pc' := 326) (z := (0 : Int32)) X142 hx (hb hby at_325) rfl rfl ?_
          refine own_iaload (pc' := 327) X142 hx hZ rfl f146 (hb hby at_326) rfl (by decide) rfl ?_
          refine own_iload (pc' := 329) X142 hx (hb hby at_327) rfl rfl ?_
          refine own_icmpNo (pc' := 332) X142 hx (hb hby at_329) rfl (teq rfl).2 ?_
          refine own_aload (pc' := 334) X142 hx (hb hby at_332) rfl rfl rfl ?_
          refine own_iconst (pc' := 335) (z := (1 : Int32)) X142 hx (hb hby at_334) rfl rfl ?_
          refine own_iaload (pc' := 336) X142 hx hZ rfl f146 (hb hby at_335) rfl (by decide) rfl ?_
          refine own_iload (pc' := 338) X142 hx (hb hby at_336) rfl rfl ?_
          refine own_icmpNo (pc' := 341) X142 hx (hb hby at_338) rfl (teq rfl).2 ?_
          refine own_iconst (pc' := 342) (z := (1 : Int32)) X142 hx (hb hby at_341) rfl rfl ?_
          refine own_goto (pc' := 346) X142 hx (hb hby at_342) (by decide) (by decide) ?_
          refine own_istore (pc' := 348) (l' := #[.val (.int p0), .val (.int p1), .val (.int p2), .val (.int p3), .val (.int p4), .val (.int (1 : Int32)), .val (.int a32), .val (.int b33), .val (.int (0 : Int32)), .val (.int (0 : Int32)), .val (.ref a105), .val (.ref a109), .val (.int (2 : Int32)), .val (.ref ra142), .val (.int (1 : Int32))]) X142 hx (hb hby at_346) rfl rfl ?_
          refine own_goto (pc' := 401) X142 hx (hb hby at_348) (by decide) (by decide) ?_
          refine own_iload (pc' := 403) X142 hx (hb hby at_401) rfl rfl ?_
          refine own_ifNo (pc' := 406) X142 hx (hb hby at_403) rfl (feq (by decide)).1 ?_
          refine own_aload (pc' := 408) X142 hx (hb hby at_406) rfl rfl rfl ?_
          refine own_aload (pc' := 410) X142 hx (hb hby at_408) rfl rfl rfl ?_
          refine own_iload (pc' := 412) X142 hx (hb hby at_410) rfl rfl ?_
          have f147 := (V139.keep Kq142 nin0)
          refine own_callS (pc' := 415) (y := (⟨"com/example/exacting_validator/exactingvalidator/pattern/CodePointSetsComplementPinLaw", "same", "([I[II)Z"⟩ : MethodName)) (W := 0) (rm := own_room3_2) (argsL := [(.ref ra142), (.ref a109), (.int (2 : Int32))]) (rest := []) X142 hx hZ rfl hown (by rw [hml]; rfl) (own_w22 hw) (own_w23 hw) (own_w24 hw) (own_w25 hw) (by decide) (own_rm3_2 l Z a0 hw [] ra142 a109 rk142 k109 (b33 + (1 : Int32)) (1114111 : Int32) (0 : Int32) (0 : Int32) (0 : Int32) (0 : Int32) T142.heap n0 G142_1 f147) (by decide) (by decide) (by decide) (by decide) (lenOf own_pd3 rfl) rfl (by exact Nat.le_of_eq rfl) (hb hby at_412) rfl ?_
          intro T148 Lc148 v148 X148 hQ148
          obtain ⟨rfl, Nq148, Kq148⟩ := hQ148
          have N148 := Fr.app N142 Nq148
          show own_Ends p e below s _ _ _ T148 (mkF m 415 #[.val (.int p0), .val (.int p1), .val (.int p2), .val (.int p3), .val (.int p4), .val (.int (1 : Int32)), .val (.int a32), .val (.int b33), .val (.int (0 : Int32)), .val (.int (0 : Int32)), .val (.ref a105), .val (.ref a109), .val (.int (2 : Int32)), .val (.ref ra142), .val (.int (1 : Int32))] [(.int (1 : Int32))])
          refine own_ifNo (pc' := 418) X148 hx (hb hby at_415) rfl (feq (by decide)).1 ?_
          refine own_iconst (pc' := 419) (z := (1 : Int32)) X148 hx (hb hby at_418) rfl rfl ?_
          refine own_goto (pc' := 423) X148 hx (hb hby at_419) (by decide) (by decide) ?_
          refine own_retN X148 hx hlk hret (by simp) (hb hby at_423) (by decide) (by decide) ?_
          exact ⟨rfl, N148⟩
        · refine own_icmpYes (pc' := 282) X109 hx (hb hby at_258) (flt hc258_137).2.1 (by decide) (by decide) ?_
          refine own_aload (pc' := 284) X109 hx (hb hby at_282) rfl rfl rfl ?_
          have i_hc258_137 : 1114111 ≤ b33.toInt := own_i2 hc258_137
          have hl0 : (1114111 : Int32) < b33 + (1 : Int32) := own_lt (by rw [own_p1 ⟨by omega, by omega⟩]; show 1114111 < b33.toInt + 1; omega)
          have f149 := (V108.ext E109)
          have f150 := (Nat.le_trans f110 E109.1)
          refine own_callS (pc' := 287) (y := (⟨"com/example/exacting_validator/exactingvalidator/pattern/CodePointSets", "complement", "([I)[I"⟩ : MethodName)) (W := 0) (rm := own_room1_100) (argsL := [(.ref a105)]) (rest := []) X109 hx hZ e109 hown (by rw [hml]; rfl) (own_w4 hw) (own_w5 hw) (own_w6 hw) (own_w7 hw) (by decide) (own_rm1_100 l Z a0 hw [] a105 k105 a32 b33 h109 n0 f150 f149 hc187_113 hl0) (by decide) (by decide) (by decide) (by decide) (lenOf own_pd2 rfl) rfl (by exact Nat.le_of_eq rfl) (hb hby at_284) rfl ?_
          intro T151 Lc151 v151 X151 hQ151
          obtain ⟨ra151, rk151, rfl, Nq151, Kq151, G151_0, G151_1⟩ := hQ151
          have N151 := Fr.app N108 Nq151
          have ge152 : n0 ≤ ra151 := Nat.le_trans f150 G151_0
          have ne153 : a105 ≠ ra151 := Nat.ne_of_lt (Nat.lt_of_lt_of_le f149.lt G151_0)
          have ne154 : a109 ≠ ra151 := Nat.ne_of_lt (Nat.lt_of_lt_of_le V109.lt G151_0)
          show own_Ends p e below s _ _ _ T151 (mkF m 287 #[.val (.int p0), .val (.int p1), .val (.int p2), .val (.int p3), .val (.int p4), .val (.int (1 : Int32)), .val (.int a32), .val (.int b33), .val (.int (0 : Int32)), .val (.int (0 : Int32)), .val (.ref a105), .val (.ref a109), .val (.int (0 : Int32)), .val (.int b33), .unset] [(.ref ra151)])
          refine own_astore (pc' := 289) (l' := #[.val (.int p0), .val (.int p1), .val (.int p2), .val (.int p3), .val (.int p4), .val (.int (1 : Int32)), .val (.int a32), .val (.int b33), .val (.int (0 : Int32)), .val (.int (0 : Int32)), .val (.ref a105), .val (.ref a109), .val (.int (0 : Int32)), .val (.ref ra151), .unset]) X151 hx (hb hby at_287) rfl rfl rfl ?_
          refine own_iload (pc' := 291) X151 hx (hb hby at_289) rfl rfl ?_
          refine own_ifYes (pc' := 310) X151 hx (hb hby at_291) (feq (by decide)).2 (by decide) (by decide) ?_
          refine own_iload (pc' := 312) X151 hx (hb hby at_310) rfl rfl ?_
          refine own_iconst (pc' := 313) (z := (1 : Int32)) X151 hx (hb hby at_312) rfl rfl ?_
          refine own_icmpNo (pc' := 316) X151 hx (hb hby at_313) rfl (teq (by decide)).2 ?_
          refine own_aload (pc' := 318) X151 hx (hb hby at_316) rfl rfl rfl ?_
          have f155 := (f149.keep Kq151 nin0)
          refine own_alen (pc' := 319) X151 hx hZ rfl f155 (hb hby at_318) rfl ?_
          refine own_iconst (pc' := 320) (z := (2 : Int32)) X151 hx (hb hby at_319) rfl rfl ?_
          refine own_icmpNo (pc' := 323) X151 hx (hb hby at_320) rfl (teq (by decide)).2 ?_
          refine own_aload (pc' := 325) X151 hx (hb hby at_323) rfl rfl rfl ?_
          refine own_iconst (pc' := 326) (z := (0 : Int32)) X151 hx (hb hby at_325) rfl rfl ?_
          refine own_iaload (pc' := 327) X151 hx hZ rfl f155 (hb hby at_326) rfl (by decide) rfl ?_
          refine own_iload (pc' := 329) X151 hx (hb hby at_327) rfl rfl ?_
          refine own_icmpNo (pc' := 332) X151 hx (hb hby at_329) rfl (teq rfl).2 ?_
          refine own_aload (pc' := 334) X151 hx (hb hby at_332) rfl rfl rfl ?_
          refine own_iconst (pc' := 335) (z := (1 : Int32)) X151 hx (hb hby at_334) rfl rfl ?_
          refine own_iaload (pc' := 336) X151 hx hZ rfl f155 (hb hby at_335) rfl (by decide) rfl ?_
          refine own_iload (pc' := 338) X151 hx (hb hby at_336) rfl rfl ?_
          refine own_icmpNo (pc' := 341) X151 hx (hb hby at_338) rfl (teq rfl).2 ?_
          refine own_iconst (pc' := 342) (z := (1 : Int32)) X151 hx (hb hby at_341) rfl rfl ?_
          refine own_goto (pc' := 346) X151 hx (hb hby at_342) (by decide) (by decide) ?_
          refine own_istore (pc' := 348) (l' := #[.val (.int p0), .val (.int p1), .val (.int p2), .val (.int p3), .val (.int p4), .val (.int (1 : Int32)), .val (.int a32), .val (.int b33), .val (.int (0 : Int32)), .val (.int (0 : Int32)), .val (.ref a105), .val (.ref a109), .val (.int (0 : Int32)), .val (.ref ra151), .val (.int (1 : Int32))]) X151 hx (hb hby at_346) rfl rfl ?_
          refine own_goto (pc' := 401) X151 hx (hb hby at_348) (by decide) (by decide) ?_
          refine own_iload (pc' := 403) X151 hx (hb hby at_401) rfl rfl ?_
          refine own_ifNo (pc' := 406) X151 hx (hb hby at_403) rfl (feq (by decide)).1 ?_
          refine own_aload (pc' := 408) X151 hx (hb hby at_406) rfl rfl rfl ?_
          refine own_aload (pc' := 410) X151 hx (hb hby at_408) rfl rfl rfl ?_
          refine own_iload (pc' := 412) X151 hx (hb hby at_410) rfl rfl ?_
          have f156 := (V109.keep Kq151 nin0)
          refine own_callS (pc' := 415) (y := (⟨"com/example/exacting_validator/exactingvalidator/pattern/CodePointSetsComplementPinLaw", "same", "([I[II)Z"⟩ : MethodName)) (W := 0) (rm := own_room3_0) (argsL := [(.ref ra151), (.ref a109), (.int (0 : Int32))]) (rest := []) X151 hx hZ rfl hown (by rw [hml]; rfl) (own_w22 hw) (own_w23 hw) (own_w24 hw) (own_w25 hw) (by decide) (own_rm3_0 l Z a0 hw [] ra151 a109 rk151 k109 (0 : Int32) (0 : Int32) (0 : Int32) (0 : Int32) (0 : Int32) (0 : Int32) T151.heap n0 G151_1 f156) (by decide) (by decide) (by decide) (by decide) (lenOf own_pd3 rfl) rfl (by exact Nat.le_of_eq rfl) (hb hby at_412) rfl ?_
          intro T157 Lc157 v157 X157 hQ157
          obtain ⟨rfl, Nq157, Kq157⟩ := hQ157
          have N157 := Fr.app N151 Nq157
          show own_Ends p e below s _ _ _ T157 (mkF m 415 #[.val (.int p0), .val (.int p1), .val (.int p2), .val (.int p3), .val (.int p4), .val (.int (1 : Int32)), .val (.int a32), .val (.int b33), .val (.int (0 : Int32)), .val (.int (0 : Int32)), .val (.ref a105), .val (.ref a109), .val (.int (0 : Int32)), .val (.ref ra151), .val (.int (1 : Int32))] [(.int (1 : Int32))])
          refine own_ifNo (pc' := 418) X157 hx (hb hby at_415) rfl (feq (by decide)).1 ?_
          refine own_iconst (pc' := 419) (z := (1 : Int32)) X157 hx (hb hby at_418) rfl rfl ?_
          refine own_goto (pc' := 423) X157 hx (hb hby at_419) (by decide) (by decide) ?_
          refine own_retN X157 hx hlk hret (by simp) (hb hby at_423) (by decide) (by decide) ?_
          exact ⟨rfl, N157⟩
    · refine own_icmpNo (pc' := 52) X0 hx (hb hby at_49) rfl (flt hc49_104).2.2.1 ?_
      have rb2 : b33.toInt ≤ 1114109 := own_i2 hc49_104
      refine own_iload (pc' := 54) X0 hx (hb hby at_52) rfl rfl ?_
      refine own_iconst (pc' := 55) (z := (2 : Int32)) X0 hx (hb hby at_54) rfl rfl ?_
      refine own_iadd (pc' := 56) (z := (b33 + (2 : Int32))) X0 hx (hb hby at_55) rfl rfl ?_
      refine own_iloadN (pc' := 57) X0 hx (hb hby at_56) rfl rfl ?_
      refine own_ldcI (pc' := 59) X0 hx hZ hown (own_w0 hw) (hb hby at_57) rfl ?_
      refine own_iand (pc' := 60) (z := (p2 &&& (2147483647 : Int32))) X0 hx (hb hby at_59) rfl rfl ?_
      refine own_ldcI (pc' := 62) X0 hx hZ hown (own_w1 hw) (hb hby at_60) rfl ?_
      refine own_iload (pc' := 64) X0 hx (hb hby at_62) rfl rfl ?_
      refine own_isub (pc' := 65) (z := ((1114112 : Int32) - b33)) X0 hx (hb hby at_64) rfl rfl ?_
      refine own_iconst (pc' := 66) (z := (2 : Int32)) X0 hx (hb hby at_65) rfl rfl ?_
      refine own_isub (pc' := 67) (z := (((1114112 : Int32) - b33) - (2 : Int32))) X0 hx (hb hby at_66) rfl rfl ?_
      refine own_irem (pc' := 68) (z := ((p2 &&& (2147483647 : Int32)) % (((1114112 : Int32) - b33) - (2 : Int32)))) X0 hx (hb hby at_67) rfl (own_nz (by rw [own_R2 ⟨by omega, rb2⟩]; omega)) rfl ?_
      obtain ⟨c158, hc158⟩ : ∃ z, ((b33 + (2 : Int32)) + ((p2 &&& (2147483647 : Int32)) % (((1114112 : Int32) - b33) - (2 : Int32)))) = z := ⟨_, rfl⟩
      refine own_iadd (pc' := 69) (z := c158) X0 hx (hb hby at_68) rfl hc158 ?_
      have rc := own_add (by rw [own_R2 ⟨by omega, rb2⟩]; omega) ⟨by rw [own_p2 ⟨by omega, by omega⟩]; omega, by rw [own_p2 ⟨by omega, by omega⟩, own_R2 ⟨by omega, rb2⟩]; omega⟩ hc158
      rw [own_p2 ⟨by omega, by omega⟩, own_R2 ⟨by omega, rb2⟩] at rc
      refine own_istore (pc' := 71) (l' := #[.val (.int p0), .val (.int p1), .val (.int p2), .val (.int p3), .val (.int p4), .val (.int (2 : Int32)), .val (.int a32), .val (.int b33), .val (.int c158), .val (.int (0 : Int32)), .unset, .unset, .unset, .unset, .unset]) X0 hx (hb hby at_69) rfl rfl ?_
      refine own_iload (pc' := 73) X0 hx (hb hby at_71) rfl rfl ?_
      refine own_iloadN (pc' := 74) X0 hx (hb hby at_73) rfl rfl ?_
      refine own_ldcI (pc' := 76) X0 hx hZ hown (own_w0 hw) (hb hby at_74) rfl ?_
      refine own_iand (pc' := 77) (z := (p3 &&& (2147483647 : Int32))) X0 hx (hb hby at_76) rfl rfl ?_
      refine own_ldcI (pc' := 79) X0 hx hZ hown (own_w1 hw) (hb hby at_77) rfl ?_
      refine own_iload (pc' := 81) X0 hx (hb hby at_79) rfl rfl ?_
      refine own_isub (pc' := 82) (z := ((1114112 : Int32) - c158)) X0 hx (hb hby at_81) rfl rfl ?_
      refine own_irem (pc' := 83) (z := ((p3 &&& (2147483647 : Int32)) % ((1114112 : Int32) - c158))) X0 hx (hb hby at_82) rfl (own_nz (by rw [own_R ⟨by omega, by omega⟩]; omega)) rfl ?_
      obtain ⟨d159, hd159⟩ : ∃ z, (c158 + ((p3 &&& (2147483647 : Int32)) % ((1114112 : Int32) - c158))) = z := ⟨_, rfl⟩
      refine own_iadd (pc' := 84) (z := d159) X0 hx (hb hby at_83) rfl hd159 ?_
      have rd := own_add (by rw [own_R ⟨by omega, by omega⟩]; omega) ⟨by omega, by rw [own_R ⟨by omega, by omega⟩]; omega⟩ hd159
      rw [own_R ⟨by omega, by omega⟩] at rd
      refine own_istore (pc' := 86) (l' := #[.val (.int p0), .val (.int p1), .val (.int p2), .val (.int p3), .val (.int p4), .val (.int (2 : Int32)), .val (.int a32), .val (.int b33), .val (.int c158), .val (.int d159), .unset, .unset, .unset, .unset, .unset]) X0 hx (hb hby at_84) rfl rfl ?_
      refine own_goto (pc' := 92) X0 hx (hb hby at_86) (by decide) (by decide) ?_
      refine own_iload (pc' := 94) X0 hx (hb hby at_92) rfl rfl ?_
      refine own_ifYes (pc' := 105) X0 hx (hb hby at_94) (feq (by decide)).2 (by decide) (by decide) ?_
      refine own_iload (pc' := 107) X0 hx (hb hby at_105) rfl rfl ?_
      refine own_iconst (pc' := 108) (z := (1 : Int32)) X0 hx (hb hby at_107) rfl rfl ?_
      refine own_icmpYes (pc' := 129) X0 hx (hb hby at_108) (feq (by decide)).2 (by decide) (by decide) ?_
      refine own_iconst (pc' := 130) (z := (4 : Int32)) X0 hx (hb hby at_129) rfl rfl ?_
      refine own_newarr (pc' := 132) (aty := .int) X0 hx hZ (own_w2 hw) e0 (hb hby at_130) rfl (by decide) 4 4 (by decide) (by decide) (by decide) (by decide) ?_
      intro T160 h160 a160 k160 X160 e160 E160 g160 V160
      replace V160 : Arv Z h160 a160 k160 .int (4 : Int32) [(.int (0 : Int32)), (.int (0 : Int32)), (.int (0 : Int32)), (.int (0 : Int32))] (.int (0 : Int32)) := V160
      have ge161 : n0 ≤ a160 := by rw [g160]; exact Z0
      show own_Ends p e below s _ _ _ T160 (mkF m 132 #[.val (.int p0), .val (.int p1), .val (.int p2), .val (.int p3), .val (.int p4), .val (.int (2 : Int32)), .val (.int a32), .val (.int b33), .val (.int c158), .val (.int d159), .unset, .unset, .unset, .unset, .unset] [(.ref a160)])
      refine own_dup (pc' := 133) X160 hx (hb hby at_132) rfl rfl ?_
      refine own_iconst (pc' := 134) (z := (0 : Int32)) X160 hx (hb hby at_133) rfl rfl ?_
      refine own_iload (pc' := 136) X160 hx (hb hby at_134) rfl rfl ?_
      refine own_iastore (pc' := 137) X160 hx hZ e160 V160 (hb hby at_136) rfl (by decide) 0 rfl (by simp) N0 ge161 ?_
      intro T162 h162 L162 X162 e162 N162 W162 V162
      replace V162 : Arv Z h162 a160 k160 .int (4 : Int32) [(.int a32), (.int (0 : Int32)), (.int (0 : Int32)), (.int (0 : Int32))] (.int (0 : Int32)) := V162
      show own_Ends p e below s _ _ _ T162 (mkF m 137 #[.val (.int p0), .val (.int p1), .val (.int p2), .val (.int p3), .val (.int p4), .val (.int (2 : Int32)), .val (.int a32), .val (.int b33), .val (.int c158), .val (.int d159), .unset, .unset, .unset, .unset, .unset] [(.ref a160)])
      refine own_dup (pc' := 138) X162 hx (hb hby at_137) rfl rfl ?_
      refine own_iconst (pc' := 139) (z := (1 : Int32)) X162 hx (hb hby at_138) rfl rfl ?_
      refine own_iload (pc' := 141) X162 hx (hb hby at_139) rfl rfl ?_
      refine own_iastore (pc' := 142) X162 hx hZ e162 V162 (hb hby at_141) rfl (by decide) 1 rfl (by simp) N162 ge161 ?_
      intro T163 h163 L163 X163 e163 N163 W163 V163
      replace V163 : Arv Z h163 a160 k160 .int (4 : Int32) [(.int a32), (.int b33), (.int (0 : Int32)), (.int (0 : Int32))] (.int (0 : Int32)) := V163
      show own_Ends p e below s _ _ _ T163 (mkF m 142 #[.val (.int p0), .val (.int p1), .val (.int p2), .val (.int p3), .val (.int p4), .val (.int (2 : Int32)), .val (.int a32), .val (.int b33), .val (.int c158), .val (.int d159), .unset, .unset, .unset, .unset, .unset] [(.ref a160)])
      refine own_dup (pc' := 143) X163 hx (hb hby at_142) rfl rfl ?_
      refine own_iconst (pc' := 144) (z := (2 : Int32)) X163 hx (hb hby at_143) rfl rfl ?_
      refine own_iload (pc' := 146) X163 hx (hb hby at_144) rfl rfl ?_
      refine own_iastore (pc' := 147) X163 hx hZ e163 V163 (hb hby at_146) rfl (by decide) 2 rfl (by simp) N163 ge161 ?_
      intro T164 h164 L164 X164 e164 N164 W164 V164
      replace V164 : Arv Z h164 a160 k160 .int (4 : Int32) [(.int a32), (.int b33), (.int c158), (.int (0 : Int32))] (.int (0 : Int32)) := V164
      show own_Ends p e below s _ _ _ T164 (mkF m 147 #[.val (.int p0), .val (.int p1), .val (.int p2), .val (.int p3), .val (.int p4), .val (.int (2 : Int32)), .val (.int a32), .val (.int b33), .val (.int c158), .val (.int d159), .unset, .unset, .unset, .unset, .unset] [(.ref a160)])
      refine own_dup (pc' := 148) X164 hx (hb hby at_147) rfl rfl ?_
      refine own_iconst (pc' := 149) (z := (3 : Int32)) X164 hx (hb hby at_148) rfl rfl ?_
      refine own_iload (pc' := 151) X164 hx (hb hby at_149) rfl rfl ?_
      refine own_iastore (pc' := 152) X164 hx hZ e164 V164 (hb hby at_151) rfl (by decide) 3 rfl (by simp) N164 ge161 ?_
      intro T165 h165 L165 X165 e165 N165 W165 V165
      replace V165 : Arv Z h165 a160 k160 .int (4 : Int32) [(.int a32), (.int b33), (.int c158), (.int d159)] (.int (0 : Int32)) := V165
      show own_Ends p e below s _ _ _ T165 (mkF m 152 #[.val (.int p0), .val (.int p1), .val (.int p2), .val (.int p3), .val (.int p4), .val (.int (2 : Int32)), .val (.int a32), .val (.int b33), .val (.int c158), .val (.int d159), .unset, .unset, .unset, .unset, .unset] [(.ref a160)])
      refine own_astore (pc' := 154) (l' := #[.val (.int p0), .val (.int p1), .val (.int p2), .val (.int p3), .val (.int p4), .val (.int (2 : Int32)), .val (.int a32), .val (.int b33), .val (.int c158), .val (.int d159), .val (.ref a160), .unset, .unset, .unset, .unset]) X165 hx (hb hby at_152) rfl rfl rfl ?_
      refine own_bipush (pc' := 156) (z := (6 : Int32)) X165 hx (hb hby at_154) rfl rfl ?_
      refine own_newarr (pc' := 158) (aty := .int) X165 hx hZ (own_w2 hw) e165 (hb hby at_156) rfl (by decide) 6 6 (by decide) (by decide) (by decide) (by decide) ?_
      intro T166 h166 a166 k166 X166 e166 E166 g166 V166
      replace V166 : Arv Z h166 a166 k166 .int (6 : Int32) [(.int (0 : Int32)), (.int (0 : Int32)), (.int (0 : Int32)), (.int (0 : Int32)), (.int (0 : Int32)), (.int (0 : Int32))] (.int (0 : Int32)) := V166
      have f167 := (Nat.le_trans (Nat.le_trans (Nat.le_trans (Nat.le_trans (Nat.le_trans Z0 E160.1) (Keep.of_wr W162).1) (Keep.of_wr W163).1) (Keep.of_wr W164).1) (Keep.of_wr W165).1)
      have ge168 : n0 ≤ a166 := by rw [g166]; exact f167
      have ne169 : a160 ≠ a166 := Nat.ne_of_lt (by rw [g166]; exact V165.lt)
      show own_Ends p e below s _ _ _ T166 (mkF m 158 #[.val (.int p0), .val (.int p1), .val (.int p2), .val (.int p3), .val (.int p4), .val (.int (2 : Int32)), .val (.int a32), .val (.int b33), .val (.int c158), .val (.int d159), .val (.ref a160), .unset, .unset, .unset, .unset] [(.ref a166)])
      refine own_astore (pc' := 160) (l' := #[.val (.int p0), .val (.int p1), .val (.int p2), .val (.int p3), .val (.int p4), .val (.int (2 : Int32)), .val (.int a32), .val (.int b33), .val (.int c158), .val (.int d159), .val (.ref a160), .val (.ref a166), .unset, .unset, .unset]) X166 hx (hb hby at_158) rfl rfl rfl ?_
      refine own_iconst (pc' := 161) (z := (0 : Int32)) X166 hx (hb hby at_160) rfl rfl ?_
      refine own_istore (pc' := 163) (l' := #[.val (.int p0), .val (.int p1), .val (.int p2), .val (.int p3), .val (.int p4), .val (.int (2 : Int32)), .val (.int a32), .val (.int b33), .val (.int c158), .val (.int d159), .val (.ref a160), .val (.ref a166), .val (.int (0 : Int32)), .unset, .unset]) X166 hx (hb hby at_161) rfl rfl ?_
      refine own_iload (pc' := 165) X166 hx (hb hby at_163) rfl rfl ?_
      refine own_ifYes (pc' := 185) X166 hx (hb hby at_165) (feq (by decide)).2 (by decide) (by decide) ?_
      refine own_iload (pc' := 187) X166 hx (hb hby at_185) rfl rfl ?_
      by_cases hc187_170 : (0 : Int32) < a32
      · refine own_ifNo (pc' := 190) X166 hx (hb hby at_187) rfl (tlt hc187_170).2.2.2 ?_
        refine own_aload (pc' := 192) X166 hx (hb hby at_190) rfl rfl rfl ?_
        refine own_iload (pc' := 194) X166 hx (hb hby at_192) rfl rfl ?_
        refine own_iconst (pc' := 195) (z := (0 : Int32)) X166 hx (hb hby at_194) rfl rfl ?_
        refine own_iastore (pc' := 196) X166 hx hZ e166 V166 (hb hby at_195) rfl (by decide) 0 rfl (by simp) N165 ge168 ?_
        intro T171 h171 L171 X171 e171 N171 W171 V171
        replace V171 : Arv Z h171 a166 k166 .int (6 : Int32) [(.int (0 : Int32)), (.int (0 : Int32)), (.int (0 : Int32)), (.int (0 : Int32)), (.int (0 : Int32)), (.int (0 : Int32))] (.int (0 : Int32)) := V171
        show own_Ends p e below s _ _ _ T171 (mkF m 196 #[.val (.int p0), .val (.int p1), .val (.int p2), .val (.int p3), .val (.int p4), .val (.int (2 : Int32)), .val (.int a32), .val (.int b33), .val (.int c158), .val (.int d159), .val (.ref a160), .val (.ref a166), .val (.int (0 : Int32)), .unset, .unset] [])
        refine own_aload (pc' := 198) X171 hx (hb hby at_196) rfl rfl rfl ?_
        refine own_iload (pc' := 200) X171 hx (hb hby at_198) rfl rfl ?_
        refine own_iconst (pc' := 201) (z := (1 : Int32)) X171 hx (hb hby at_200) rfl rfl ?_
        refine own_iadd (pc' := 202) (z := (1 : Int32)) X171 hx (hb hby at_201) rfl (by decide) ?_
        refine own_iload (pc' := 204) X171 hx (hb hby at_202) rfl rfl ?_
        refine own_iconst (pc' := 205) (z := (1 : Int32)) X171 hx (hb hby at_204) rfl rfl ?_
        refine own_isub (pc' := 206) (z := (a32 - (1 : Int32))) X171 hx (hb hby at_205) rfl rfl ?_
        refine own_iastore (pc' := 207) X171 hx hZ e171 V171 (hb hby at_206) rfl (by decide) 1 rfl (by simp) N171 ge168 ?_
        intro T172 h172 L172 X172 e172 N172 W172 V172
        replace V172 : Arv Z h172 a166 k166 .int (6 : Int32) [(.int (0 : Int32)), (.int (a32 - (1 : Int32))), (.int (0 : Int32)), (.int (0 : Int32)), (.int (0 : Int32)), (.int (0 : Int32))] (.int (0 : Int32)) := V172
        show own_Ends p e below s _ _ _ T172 (mkF m 207 #[.val (.int p0), .val (.int p1), .val (.int p2), .val (.int p3), .val (.int p4), .val (.int (2 : Int32)), .val (.int a32), .val (.int b33), .val (.int c158), .val (.int d159), .val (.ref a160), .val (.ref a166), .val (.int (0 : Int32)), .unset, .unset] [])
        refine own_iinc (pc' := 210) (z := (2 : Int32)) (l' := #[.val (.int p0), .val (.int p1), .val (.int p2), .val (.int p3), .val (.int p4), .val (.int (2 : Int32)), .val (.int a32), .val (.int b33), .val (.int c158), .val (.int d159), .val (.ref a160), .val (.ref a166), .val (.int (2 : Int32)), .unset, .unset]) X172 hx (hb hby at_207) rfl rfl (by decide) rfl ?_
        refine own_iload (pc' := 212) X172 hx (hb hby at_210) rfl rfl ?_
        refine own_iconst (pc' := 213) (z := (2 : Int32)) X172 hx (hb hby at_212) rfl rfl ?_
        refine own_icmpNo (pc' := 216) X172 hx (hb hby at_213) rfl (teq (by decide)).2 ?_
        refine own_aload (pc' := 218) X172 hx (hb hby at_216) rfl rfl rfl ?_
        refine own_iload (pc' := 220) X172 hx (hb hby at_218) rfl rfl ?_
        refine own_iload (pc' := 222) X172 hx (hb hby at_220) rfl rfl ?_
        refine own_iconst (pc' := 223) (z := (1 : Int32)) X172 hx (hb hby at_222) rfl rfl ?_
        refine own_iadd (pc' := 224) (z := (b33 + (1 : Int32))) X172 hx (hb hby at_223) rfl rfl ?_
        refine own_iastore (pc' := 225) X172 hx hZ e172 V172 (hb hby at_224) rfl (by decide) 2 rfl (by simp) N172 ge168 ?_
        intro T173 h173 L173 X173 e173 N173 W173 V173
        replace V173 : Arv Z h173 a166 k166 .int (6 : Int32) [(.int (0 : Int32)), (.int (a32 - (1 : Int32))), (.int (b33 + (1 : Int32))), (.int (0 : Int32)), (.int (0 : Int32)), (.int (0 : Int32))] (.int (0 : Int32)) := V173
        show own_Ends p e below s _ _ _ T173 (mkF m 225 #[.val (.int p0), .val (.int p1), .val (.int p2), .val (.int p3), .val (.int p4), .val (.int (2 : Int32)), .val (.int a32), .val (.int b33), .val (.int c158), .val (.int d159), .val (.ref a160), .val (.ref a166), .val (.int (2 : Int32)), .unset, .unset] [])
        refine own_aload (pc' := 227) X173 hx (hb hby at_225) rfl rfl rfl ?_
        refine own_iload (pc' := 229) X173 hx (hb hby at_227) rfl rfl ?_
        refine own_iconst (pc' := 230) (z := (1 : Int32)) X173 hx (hb hby at_229) rfl rfl ?_
        refine own_iadd (pc' := 231) (z := (3 : Int32)) X173 hx (hb hby at_230) rfl (by decide) ?_
        refine own_iload (pc' := 233) X173 hx (hb hby at_231) rfl rfl ?_
        refine own_iconst (pc' := 234) (z := (1 : Int32)) X173 hx (hb hby at_233) rfl rfl ?_
        refine own_isub (pc' := 235) (z := (c158 - (1 : Int32))) X173 hx (hb hby at_234) rfl rfl ?_
        refine own_iastore (pc' := 236) X173 hx hZ e173 V173 (hb hby at_235) rfl (by decide) 3 rfl (by simp) N173 ge168 ?_
        intro T174 h174 L174 X174 e174 N174 W174 V174
        replace V174 : Arv Z h174 a166 k166 .int (6 : Int32) [(.int (0 : Int32)), (.int (a32 - (1 : Int32))), (.int (b33 + (1 : Int32))), (.int (c158 - (1 : Int32))), (.int (0 : Int32)), (.int (0 : Int32))] (.int (0 : Int32)) := V174
        show own_Ends p e below s _ _ _ T174 (mkF m 236 #[.val (.int p0), .val (.int p1), .val (.int p2), .val (.int p3), .val (.int p4), .val (.int (2 : Int32)), .val (.int a32), .val (.int b33), .val (.int c158), .val (.int d159), .val (.ref a160), .val (.ref a166), .val (.int (2 : Int32)), .unset, .unset] [])
        refine own_iinc (pc' := 239) (z := (4 : Int32)) (l' := #[.val (.int p0), .val (.int p1), .val (.int p2), .val (.int p3), .val (.int p4), .val (.int (2 : Int32)), .val (.int a32), .val (.int b33), .val (.int c158), .val (.int d159), .val (.ref a160), .val (.ref a166), .val (.int (4 : Int32)), .unset, .unset]) X174 hx (hb hby at_236) rfl rfl (by decide) rfl ?_
        refine own_iload (pc' := 241) X174 hx (hb hby at_239) rfl rfl ?_
        refine own_iconst (pc' := 242) (z := (2 : Int32)) X174 hx (hb hby at_241) rfl rfl ?_
        refine own_icmpNo (pc' := 245) X174 hx (hb hby at_242) rfl (teq (by decide)).2 ?_
        refine own_iload (pc' := 247) X174 hx (hb hby at_245) rfl rfl ?_
        refine own_goto (pc' := 252) X174 hx (hb hby at_247) (by decide) (by decide) ?_
        refine own_istore (pc' := 254) (l' := #[.val (.int p0), .val (.int p1), .val (.int p2), .val (.int p3), .val (.int p4), .val (.int (2 : Int32)), .val (.int a32), .val (.int b33), .val (.int c158), .val (.int d159), .val (.ref a160), .val (.ref a166), .val (.int (4 : Int32)), .val (.int d159), .unset]) X174 hx (hb hby at_252) rfl rfl ?_
        refine own_iload (pc' := 256) X174 hx (hb hby at_254) rfl rfl ?_
        refine own_ldcI (pc' := 258) X174 hx hZ hown (own_w3 hw) (hb hby at_256) rfl ?_
        by_cases hc258_175 : d159 < (1114111 : Int32)
        · refine own_icmpNo (pc' := 261) X174 hx (hb hby at_258) rfl (tlt hc258_175).2.1 ?_
          refine own_aload (pc' := 263) X174 hx (hb hby at_261) rfl rfl rfl ?_
          refine own_iload (pc' := 265) X174 hx (hb hby at_263) rfl rfl ?_
          refine own_iload (pc' := 267) X174 hx (hb hby at_265) rfl rfl ?_
          refine own_iconst (pc' := 268) (z := (1 : Int32)) X174 hx (hb hby at_267) rfl rfl ?_
          refine own_iadd (pc' := 269) (z := (d159 + (1 : Int32))) X174 hx (hb hby at_268) rfl rfl ?_
          refine own_iastore (pc' := 270) X174 hx hZ e174 V174 (hb hby at_269) rfl (by decide) 4 rfl (by simp) N174 ge168 ?_
          intro T176 h176 L176 X176 e176 N176 W176 V176
          replace V176 : Arv Z h176 a166 k166 .int (6 : Int32) [(.int (0 : Int32)), (.int (a32 - (1 : Int32))), (.int (b33 + (1 : Int32))), (.int (c158 - (1 : Int32))), (.int (d159 + (1 : Int32))), (.int (0 : Int32))] (.int (0 : Int32)) := V176
          show own_Ends p e below s _ _ _ T176 (mkF m 270 #[.val (.int p0), .val (.int p1), .val (.int p2), .val (.int p3), .val (.int p4), .val (.int (2 : Int32)), .val (.int a32), .val (.int b33), .val (.int c158), .val (.int d159), .val (.ref a160), .val (.ref a166), .val (.int (4 : Int32)), .val (.int d159), .unset] [])
          refine own_aload (pc' := 272) X176 hx (hb hby at_270) rfl rfl rfl ?_
          refine own_iload (pc' := 274) X176 hx (hb hby at_272) rfl rfl ?_
          refine own_iconst (pc' := 275) (z := (1 : Int32)) X176 hx (hb hby at_274) rfl rfl ?_
          refine own_iadd (pc' := 276) (z := (5 : Int32)) X176 hx (hb hby at_275) rfl (by decide) ?_
          refine own_ldcI (pc' := 278) X176 hx hZ hown (own_w3 hw) (hb hby at_276) rfl ?_
          refine own_iastore (pc' := 279) X176 hx hZ e176 V176 (hb hby at_278) rfl (by decide) 5 rfl (by simp) N176 ge168 ?_
          intro T177 h177 L177 X177 e177 N177 W177 V177
          replace V177 : Arv Z h177 a166 k166 .int (6 : Int32) [(.int (0 : Int32)), (.int (a32 - (1 : Int32))), (.int (b33 + (1 : Int32))), (.int (c158 - (1 : Int32))), (.int (d159 + (1 : Int32))), (.int (1114111 : Int32))] (.int (0 : Int32)) := V177
          show own_Ends p e below s _ _ _ T177 (mkF m 279 #[.val (.int p0), .val (.int p1), .val (.int p2), .val (.int p3), .val (.int p4), .val (.int (2 : Int32)), .val (.int a32), .val (.int b33), .val (.int c158), .val (.int d159), .val (.ref a160), .val (.ref a166), .val (.int (4 : Int32)), .val (.int d159), .unset] [])
          refine own_iinc (pc' := 282) (z := (6 : Int32)) (l' := #[.val (.int p0), .val (.int p1), .val (.int p2), .val (.int p3), .val (.int p4), .val (.int (2 : Int32)), .val (.int a32), .val (.int b33), .val (.int c158), .val (.int d159), .val (.ref a160), .val (.ref a166), .val (.int (6 : Int32)), .val (.int d159), .unset]) X177 hx (hb hby at_279) rfl rfl (by decide) rfl ?_
          refine own_aload (pc' := 284) X177 hx (hb hby at_282) rfl rfl rfl ?_
          have i_hc258_175 : d159.toInt < 1114111 := own_i1 hc258_175
          have hl0 : ¬ (1114111 : Int32) < d159 + (1 : Int32) := own_nlt (by rw [own_p1 ⟨by omega, by omega⟩]; show d159.toInt + 1 ≤ 1114111; omega)
          have hm0 : b33 + (1 : Int32) < c158 := own_lt (by rw [own_p1 ⟨by omega, by omega⟩]; omega)
          have f178 := (((((((V165.ext E166).other W171 ne169).other W172 ne169).other W173 ne169).other W174 ne169).other W176 ne169).other W177 ne169)
          have f179 := (Nat.le_trans (Nat.le_trans (Nat.le_trans (Nat.le_trans (Nat.le_trans (Nat.le_trans (Nat.le_trans f167 E166.1) (Keep.of_wr W171).1) (Keep.of_wr W172).1) (Keep.of_wr W173).1) (Keep.of_wr W174).1) (Keep.of_wr W176).1) (Keep.of_wr W177).1)
          refine own_callS (pc' := 287) (y := (⟨"com/example/exacting_validator/exactingvalidator/pattern/CodePointSets", "complement", "([I)[I"⟩ : MethodName)) (W := 0) (rm := own_room1_211) (argsL := [(.ref a160)]) (rest := []) X177 hx hZ e177 hown (by rw [hml]; rfl) (own_w4 hw) (own_w5 hw) (own_w6 hw) (own_w7 hw) (by decide) (own_rm1_211 l Z a0 hw [] a160 k160 a32 b33 c158 d159 h177 n0 f179 f178 hc187_170 hl0 hm0) (by decide) (by decide) (by decide) (by decide) (lenOf own_pd2 rfl) rfl (by exact Nat.le_of_eq rfl) (hb hby at_284) rfl ?_
          intro T180 Lc180 v180 X180 hQ180
          obtain ⟨ra180, rk180, rfl, Nq180, Kq180, G180_0, G180_1⟩ := hQ180
          have N180 := Fr.app N177 Nq180
          have ge181 : n0 ≤ ra180 := Nat.le_trans f179 G180_0
          have ne182 : a160 ≠ ra180 := Nat.ne_of_lt (Nat.lt_of_lt_of_le f178.lt G180_0)
          have ne183 : a166 ≠ ra180 := Nat.ne_of_lt (Nat.lt_of_lt_of_le V177.lt G180_0)
          show own_Ends p e below s _ _ _ T180 (mkF m 287 #[.val (.int p0), .val (.int p1), .val (.int p2), .val (.int p3), .val (.int p4), .val (.int (2 : Int32)), .val (.int a32), .val (.int b33), .val (.int c158), .val (.int d159), .val (.ref a160), .val (.ref a166), .val (.int (6 : Int32)), .val (.int d159), .unset] [(.ref ra180)])
          refine own_astore (pc' := 289) (l' := #[.val (.int p0), .val (.int p1), .val (.int p2), .val (.int p3), .val (.int p4), .val (.int (2 : Int32)), .val (.int a32), .val (.int b33), .val (.int c158), .val (.int d159), .val (.ref a160), .val (.ref a166), .val (.int (6 : Int32)), .val (.ref ra180), .unset]) X180 hx (hb hby at_287) rfl rfl rfl ?_
          refine own_iload (pc' := 291) X180 hx (hb hby at_289) rfl rfl ?_
          refine own_ifYes (pc' := 310) X180 hx (hb hby at_291) (feq (by decide)).2 (by decide) (by decide) ?_
          refine own_iload (pc' := 312) X180 hx (hb hby at_310) rfl rfl ?_
          refine own_iconst (pc' := 313) (z := (1 : Int32)) X180 hx (hb hby at_312) rfl rfl ?_
          refine own_icmpYes (pc' := 351) X180 hx (hb hby at_313) (feq (by decide)).2 (by decide) (by decide) ?_
          refine own_aload (pc' := 353) X180 hx (hb hby at_351) rfl rfl rfl ?_
          have f184 := (f178.keep Kq180 nin0)
          refine own_alen (pc' := 354) X180 hx hZ rfl f184 (hb hby at_353) rfl ?_
          refine own_iconst (pc' := 355) (z := (4 : Int32)) X180 hx (hb hby at_354) rfl rfl ?_
          refine own_icmpNo (pc' := 358) X180 hx (hb hby at_355) rfl (teq (by decide)).2 ?_
          refine own_aload (pc' := 360) X180 hx (hb hby at_358) rfl rfl rfl ?_
          refine own_iconst (pc' := 361) (z := (0 : Int32)) X180 hx (hb hby at_360) rfl rfl ?_
          refine own_iaload (pc' := 362) X180 hx hZ rfl f184 (hb hby at_361) rfl (by decide) rfl ?_
          refine own_iload (pc' := 364) X180 hx (hb hby at_362) rfl rfl ?_
          refine own_icmpNo (pc' := 367) X180 hx (hb hby at_364) rfl (teq rfl).2 ?_
          refine own_aload (pc' := 369) X180 hx (hb hby at_367) rfl rfl rfl ?_
          refine own_iconst (pc' := 370) (z := (1 : Int32)) X180 hx (hb hby at_369) rfl rfl ?_
          refine own_iaload (pc' := 371) X180 hx hZ rfl f184 (hb hby at_370) rfl (by decide) rfl ?_
          refine own_iload (pc' := 373) X180 hx (hb hby at_371) rfl rfl ?_
          refine own_icmpNo (pc' := 376) X180 hx (hb hby at_373) rfl (teq rfl).2 ?_
          refine own_aload (pc' := 378) X180 hx (hb hby at_376) rfl rfl rfl ?_
          refine own_iconst (pc' := 379) (z := (2 : Int32)) X180 hx (hb hby at_378) rfl rfl ?_
          refine own_iaload (pc' := 380) X180 hx hZ rfl f184 (hb hby at_379) rfl (by decide) rfl ?_
          refine own_iload (pc' := 382) X180 hx (hb hby at_380) rfl rfl ?_
          refine own_icmpNo (pc' := 385) X180 hx (hb hby at_382) rfl (teq rfl).2 ?_
          refine own_aload (pc' := 387) X180 hx (hb hby at_385) rfl rfl rfl ?_
          refine own_iconst (pc' := 388) (z := (3 : Int32)) X180 hx (hb hby at_387) rfl rfl ?_
          refine own_iaload (pc' := 389) X180 hx hZ rfl f184 (hb hby at_388) rfl (by decide) rfl ?_
          refine own_iload (pc' := 391) X180 hx (hb hby at_389) rfl rfl ?_
          refine own_icmpNo (pc' := 394) X180 hx (hb hby at_391) rfl (teq rfl).2 ?_
          refine own_iconst (pc' := 395) (z := (1 : Int32)) X180 hx (hb hby at_394) rfl rfl ?_
          refine own_goto (pc' := 399) X180 hx (hb hby at_395) (by decide) (by decide) ?_
          refine own_istore (pc' := 401) (l' := #[.val (.int p0), .val (.int p1), .val (.int p2), .val (.int p3), .val (.int p4), .val (.int (2 : Int32)), .val (.int a32), .val (.int b33), .val (.int c158), .val (.int d159), .val (.ref a160), .val (.ref a166), .val (.int (6 : Int32)), .val (.ref ra180), .val (.int (1 : Int32))]) X180 hx (hb hby at_399) rfl rfl ?_
          refine own_iload (pc' := 403) X180 hx (hb hby at_401) rfl rfl ?_
          refine own_ifNo (pc' := 406) X180 hx (hb hby at_403) rfl (feq (by decide)).1 ?_
          refine own_aload (pc' := 408) X180 hx (hb hby at_406) rfl rfl rfl ?_
          refine own_aload (pc' := 410) X180 hx (hb hby at_408) rfl rfl rfl ?_
          refine own_iload (pc' := 412) X180 hx (hb hby at_410) rfl rfl ?_
          have f185 := (V177.keep Kq180 nin0)
          refine own_callS (pc' := 415) (y := (⟨"com/example/exacting_validator/exactingvalidator/pattern/CodePointSetsComplementPinLaw", "same", "([I[II)Z"⟩ : MethodName)) (W := 0) (rm := own_room3_6) (argsL := [(.ref ra180), (.ref a166), (.int (6 : Int32))]) (rest := []) X180 hx hZ rfl hown (by rw [hml]; rfl) (own_w22 hw) (own_w23 hw) (own_w24 hw) (own_w25 hw) (by decide) (own_rm3_6 l Z a0 hw [] ra180 a166 rk180 k166 (0 : Int32) (a32 - (1 : Int32)) (b33 + (1 : Int32)) (c158 - (1 : Int32)) (d159 + (1 : Int32)) (1114111 : Int32) T180.heap n0 G180_1 f185) (by decide) (by decide) (by decide) (by decide) (lenOf own_pd3 rfl) rfl (by exact Nat.le_of_eq rfl) (hb hby at_412) rfl ?_
          intro T186 Lc186 v186 X186 hQ186
          obtain ⟨rfl, Nq186, Kq186⟩ := hQ186
          have N186 := Fr.app N180 Nq186
          show own_Ends p e below s _ _ _ T186 (mkF m 415 #[.val (.int p0), .val (.int p1), .val (.int p2), .val (.int p3), .val (.int p4), .val (.int (2 : Int32)), .val (.int a32), .val (.int b33), .val (.int c158), .val (.int d159), .val (.ref a160), .val (.ref a166), .val (.int (6 : Int32)), .val (.ref ra180), .val (.int (1 : Int32))] [(.int (1 : Int32))])
          refine own_ifNo (pc' := 418) X186 hx (hb hby at_415) rfl (feq (by decide)).1 ?_
          refine own_iconst (pc' := 419) (z := (1 : Int32)) X186 hx (hb hby at_418) rfl rfl ?_
          refine own_goto (pc' := 423) X186 hx (hb hby at_419) (by decide) (by decide) ?_
          refine own_retN X186 hx hlk hret (by simp) (hb hby at_423) (by decide) (by decide) ?_
          exact ⟨rfl, N186⟩
        · refine own_icmpYes (pc' := 282) X174 hx (hb hby at_258) (flt hc258_175).2.1 (by decide) (by decide) ?_
          refine own_aload (pc' := 284) X174 hx (hb hby at_282) rfl rfl rfl ?_
          have i_hc258_175 : 1114111 ≤ d159.toInt := own_i2 hc258_175
          have hl0 : (1114111 : Int32) < d159 + (1 : Int32) := own_lt (by rw [own_p1 ⟨by omega, by omega⟩]; show 1114111 < d159.toInt + 1; omega)
          have hm0 : b33 + (1 : Int32) < c158 := own_lt (by rw [own_p1 ⟨by omega, by omega⟩]; omega)
          have f187 := (((((V165.ext E166).other W171 ne169).other W172 ne169).other W173 ne169).other W174 ne169)
          have f188 := (Nat.le_trans (Nat.le_trans (Nat.le_trans (Nat.le_trans (Nat.le_trans f167 E166.1) (Keep.of_wr W171).1) (Keep.of_wr W172).1) (Keep.of_wr W173).1) (Keep.of_wr W174).1)
          refine own_callS (pc' := 287) (y := (⟨"com/example/exacting_validator/exactingvalidator/pattern/CodePointSets", "complement", "([I)[I"⟩ : MethodName)) (W := 0) (rm := own_room1_210) (argsL := [(.ref a160)]) (rest := []) X174 hx hZ e174 hown (by rw [hml]; rfl) (own_w4 hw) (own_w5 hw) (own_w6 hw) (own_w7 hw) (by decide) (own_rm1_210 l Z a0 hw [] a160 k160 a32 b33 c158 d159 h174 n0 f188 f187 hc187_170 hl0 hm0) (by decide) (by decide) (by decide) (by decide) (lenOf own_pd2 rfl) rfl (by exact Nat.le_of_eq rfl) (hb hby at_284) rfl ?_
          intro T189 Lc189 v189 X189 hQ189
          obtain ⟨ra189, rk189, rfl, Nq189, Kq189, G189_0, G189_1⟩ := hQ189
          have N189 := Fr.app N174 Nq189
          have ge190 : n0 ≤ ra189 := Nat.le_trans f188 G189_0
          have ne191 : a160 ≠ ra189 := Nat.ne_of_lt (Nat.lt_of_lt_of_le f187.lt G189_0)
          have ne192 : a166 ≠ ra189 := Nat.ne_of_lt (Nat.lt_of_lt_of_le V174.lt G189_0)
          show own_Ends p e below s _ _ _ T189 (mkF m 287 #[.val (.int p0), .val (.int p1), .val (.int p2), .val (.int p3), .val (.int p4), .val (.int (2 : Int32)), .val (.int a32), .val (.int b33), .val (.int c158), .val (.int d159), .val (.ref a160), .val (.ref a166), .val (.int (4 : Int32)), .val (.int d159), .unset] [(.ref ra189)])
          refine own_astore (pc' := 289) (l' := #[.val (.int p0), .val (.int p1), .val (.int p2), .val (.int p3), .val (.int p4), .val (.int (2 : Int32)), .val (.int a32), .val (.int b33), .val (.int c158), .val (.int d159), .val (.ref a160), .val (.ref a166), .val (.int (4 : Int32)), .val (.ref ra189), .unset]) X189 hx (hb hby at_287) rfl rfl rfl ?_
          refine own_iload (pc' := 291) X189 hx (hb hby at_289) rfl rfl ?_
          refine own_ifYes (pc' := 310) X189 hx (hb hby at_291) (feq (by decide)).2 (by decide) (by decide) ?_
          refine own_iload (pc' := 312) X189 hx (hb hby at_310) rfl rfl ?_
          refine own_iconst (pc' := 313) (z := (1 : Int32)) X189 hx (hb hby at_312) rfl rfl ?_
          refine own_icmpYes (pc' := 351) X189 hx (hb hby at_313) (feq (by decide)).2 (by decide) (by decide) ?_
          refine own_aload (pc' := 353) X189 hx (hb hby at_351) rfl rfl rfl ?_
          have f193 := (f187.keep Kq189 nin0)
          refine own_alen (pc' := 354) X189 hx hZ rfl f193 (hb hby at_353) rfl ?_
          refine own_iconst (pc' := 355) (z := (4 : Int32)) X189 hx (hb hby at_354) rfl rfl ?_
          refine own_icmpNo (pc' := 358) X189 hx (hb hby at_355) rfl (teq (by decide)).2 ?_
          refine own_aload (pc' := 360) X189 hx (hb hby at_358) rfl rfl rfl ?_
          refine own_iconst (pc' := 361) (z := (0 : Int32)) X189 hx (hb hby at_360) rfl rfl ?_
          refine own_iaload (pc' := 362) X189 hx hZ rfl f193 (hb hby at_361) rfl (by decide) rfl ?_
          refine own_iload (pc' := 364) X189 hx (hb hby at_362) rfl rfl ?_
          refine own_icmpNo (pc' := 367) X189 hx (hb hby at_364) rfl (teq rfl).2 ?_
          refine own_aload (pc' := 369) X189 hx (hb hby at_367) rfl rfl rfl ?_
          refine own_iconst (pc' := 370) (z := (1 : Int32)) X189 hx (hb hby at_369) rfl rfl ?_
          refine own_iaload (pc' := 371) X189 hx hZ rfl f193 (hb hby at_370) rfl (by decide) rfl ?_
          refine own_iload (pc' := 373) X189 hx (hb hby at_371) rfl rfl ?_
          refine own_icmpNo (pc' := 376) X189 hx (hb hby at_373) rfl (teq rfl).2 ?_
          refine own_aload (pc' := 378) X189 hx (hb hby at_376) rfl rfl rfl ?_
          refine own_iconst (pc' := 379) (z := (2 : Int32)) X189 hx (hb hby at_378) rfl rfl ?_
          refine own_iaload (pc' := 380) X189 hx hZ rfl f193 (hb hby at_379) rfl (by decide) rfl ?_
          refine own_iload (pc' := 382) X189 hx (hb hby at_380) rfl rfl ?_
          refine own_icmpNo (pc' := 385) X189 hx (hb hby at_382) rfl (teq rfl).2 ?_
          refine own_aload (pc' := 387) X189 hx (hb hby at_385) rfl rfl rfl ?_
          refine own_iconst (pc' := 388) (z := (3 : Int32)) X189 hx (hb hby at_387) rfl rfl ?_
          refine own_iaload (pc' := 389) X189 hx hZ rfl f193 (hb hby at_388) rfl (by decide) rfl ?_
          refine own_iload (pc' := 391) X189 hx (hb hby at_389) rfl rfl ?_
          refine own_icmpNo (pc' := 394) X189 hx (hb hby at_391) rfl (teq rfl).2 ?_
          refine own_iconst (pc' := 395) (z := (1 : Int32)) X189 hx (hb hby at_394) rfl rfl ?_
          refine own_goto (pc' := 399) X189 hx (hb hby at_395) (by decide) (by decide) ?_
          refine own_istore (pc' := 401) (l' := #[.val (.int p0), .val (.int p1), .val (.int p2), .val (.int p3), .val (.int p4), .val (.int (2 : Int32)), .val (.int a32), .val (.int b33), .val (.int c158), .val (.int d159), .val (.ref a160), .val (.ref a166), .val (.int (4 : Int32)), .val (.ref ra189), .val (.int (1 : Int32))]) X189 hx (hb hby at_399) rfl rfl ?_
          refine own_iload (pc' := 403) X189 hx (hb hby at_401) rfl rfl ?_
          refine own_ifNo (pc' := 406) X189 hx (hb hby at_403) rfl (feq (by decide)).1 ?_
          refine own_aload (pc' := 408) X189 hx (hb hby at_406) rfl rfl rfl ?_
          refine own_aload (pc' := 410) X189 hx (hb hby at_408) rfl rfl rfl ?_
          refine own_iload (pc' := 412) X189 hx (hb hby at_410) rfl rfl ?_
          have f194 := (V174.keep Kq189 nin0)
          refine own_callS (pc' := 415) (y := (⟨"com/example/exacting_validator/exactingvalidator/pattern/CodePointSetsComplementPinLaw", "same", "([I[II)Z"⟩ : MethodName)) (W := 0) (rm := own_room3_4) (argsL := [(.ref ra189), (.ref a166), (.int (4 : Int32))]) (rest := []) X189 hx hZ rfl hown (by rw [hml]; rfl) (own_w22 hw) (own_w23 hw) (own_w24 hw) (own_w25 hw) (by decide) (own_rm3_4 l Z a0 hw [] ra189 a166 rk189 k166 (0 : Int32) (a32 - (1 : Int32)) (b33 + (1 : Int32)) (c158 - (1 : Int32)) (0 : Int32) (0 : Int32) T189.heap n0 G189_1 f194) (by decide) (by decide) (by decide) (by decide) (lenOf own_pd3 rfl) rfl (by exact Nat.le_of_eq rfl) (hb hby at_412) rfl ?_
          intro T195 Lc195 v195 X195 hQ195
          obtain ⟨rfl, Nq195, Kq195⟩ := hQ195
          have N195 := Fr.app N189 Nq195
          show own_Ends p e below s _ _ _ T195 (mkF m 415 #[.val (.int p0), .val (.int p1), .val (.int p2), .val (.int p3), .val (.int p4), .val (.int (2 : Int32)), .val (.int a32), .val (.int b33), .val (.int c158), .val (.int d159), .val (.ref a160), .val (.ref a166), .val (.int (4 : Int32)), .val (.ref ra189), .val (.int (1 : Int32))] [(.int (1 : Int32))])
          refine own_ifNo (pc' := 418) X195 hx (hb hby at_415) rfl (feq (by decide)).1 ?_
          refine own_iconst (pc' := 419) (z := (1 : Int32)) X195 hx (hb hby at_418) rfl rfl ?_
          refine own_goto (pc' := 423) X195 hx (hb hby at_419) (by decide) (by decide) ?_
          refine own_retN X195 hx hlk hret (by simp) (hb hby at_423) (by decide) (by decide) ?_
          exact ⟨rfl, N195⟩
      · refine own_ifYes (pc' := 210) X166 hx (hb hby at_187) (flt hc187_170).2.2.2 (by decide) (by decide) ?_
        refine own_iload (pc' := 212) X166 hx (hb hby at_210) rfl rfl ?_
        refine own_iconst (pc' := 213) (z := (2 : Int32)) X166 hx (hb hby at_212) rfl rfl ?_
        refine own_icmpNo (pc' := 216) X166 hx (hb hby at_213) rfl (teq (by decide)).2 ?_
        refine own_aload (pc' := 218) X166 hx (hb hby at_216) rfl rfl rfl ?_
        refine own_iload (pc' := 220) X166 hx (hb hby at_218) rfl rfl ?_
        refine own_iload (pc' := 222) X166 hx (hb hby at_220) rfl rfl ?_
        refine own_iconst (pc' := 223) (z := (1 : Int32)) X166 hx (hb hby at_222) rfl rfl ?_
        refine own_iadd (pc' := 224) (z := (b33 + (1 : Int32))) X166 hx (hb hby at_223) rfl rfl ?_
        refine own_iastore (pc' := 225) X166 hx hZ e166 V166 (hb hby at_224) rfl (by decide) 0 rfl (by simp) N165 ge168 ?_
        intro T196 h196 L196 X196 e196 N196 W196 V196
        replace V196 : Arv Z h196 a166 k166 .int (6 : Int32) [(.int (b33 + (1 : Int32))), (.int (0 : Int32)), (.int (0 : Int32)), (.int (0 : Int32)), (.int (0 : Int32)), (.int (0 : Int32))] (.int (0 : Int32)) := V196
        show own_Ends p e below s _ _ _ T196 (mkF m 225 #[.val (.int p0), .val (.int p1), .val (.int p2), .val (.int p3), .val (.int p4), .val (.int (2 : Int32)), .val (.int a32), .val (.int b33), .val (.int c158), .val (.int d159), .val (.ref a160), .val (.ref a166), .val (.int (0 : Int32)), .unset, .unset] [])
        refine own_aload (pc' := 227) X196 hx (hb hby at_225) rfl rfl rfl ?_
        refine own_iload (pc' := 229) X196 hx (hb hby at_227) rfl rfl ?_
        refine own_iconst (pc' := 230) (z := (1 : Int32)) X196 hx (hb hby at_229) rfl rfl ?_
        refine own_iadd (pc' := 231) (z := (1 : Int32)) X196 hx (hb hby at_230) rfl (by decide) ?_
        refine own_iload (pc' := 233) X196 hx (hb hby at_231) rfl rfl ?_
        refine own_iconst (pc' := 234) (z := (1 : Int32)) X196 hx (hb hby at_233) rfl rfl ?_
        refine own_isub (pc' := 235) (z := (c158 - (1 : Int32))) X196 hx (hb hby at_234) rfl rfl ?_
        refine own_iastore (pc' := 236) X196 hx hZ e196 V196 (hb hby at_235) rfl (by decide) 1 rfl (by simp) N196 ge168 ?_
        intro T197 h197 L197 X197 e197 N197 W197 V197
        replace V197 : Arv Z h197 a166 k166 .int (6 : Int32) [(.int (b33 + (1 : Int32))), (.int (c158 - (1 : Int32))), (.int (0 : Int32)), (.int (0 : Int32)), (.int (0 : Int32)), (.int (0 : Int32))] (.int (0 : Int32)) := V197
        show own_Ends p e below s _ _ _ T197 (mkF m 236 #[.val (.int p0), .val (.int p1), .val (.int p2), .val (.int p3), .val (.int p4), .val (.int (2 : Int32)), .val (.int a32), .val (.int b33), .val (.int c158), .val (.int d159), .val (.ref a160), .val (.ref a166), .val (.int (0 : Int32)), .unset, .unset] [])
        refine own_iinc (pc' := 239) (z := (2 : Int32)) (l' := #[.val (.int p0), .val (.int p1), .val (.int p2), .val (.int p3), .val (.int p4), .val (.int (2 : Int32)), .val (.int a32), .val (.int b33), .val (.int c158), .val (.int d159), .val (.ref a160), .val (.ref a166), .val (.int (2 : Int32)), .unset, .unset]) X197 hx (hb hby at_236) rfl rfl (by decide) rfl ?_
        refine own_iload (pc' := 241) X197 hx (hb hby at_239) rfl rfl ?_
        refine own_iconst (pc' := 242) (z := (2 : Int32)) X197 hx (hb hby at_241) rfl rfl ?_
        refine own_icmpNo (pc' := 245) X197 hx (hb hby at_242) rfl (teq (by decide)).2 ?_
        refine own_iload (pc' := 247) X197 hx (hb hby at_245) rfl rfl ?_
        refine own_goto (pc' := 252) X197 hx (hb hby at_247) (by decide) (by decide) ?_
        refine own_istore (pc' := 254) (l' := #[.val (.int p0), .val (.int p1), .val (.int p2), .val (.int p3), .val (.int p4), .val (.int (2 : Int32)), .val (.int a32), .val (.int b33), .val (.int c158), .val (.int d159), .val (.ref a160), .val (.ref a166), .val (.int (2 : Int32)), .val (.int d159), .unset]) X197 hx (hb hby at_252) rfl rfl ?_
        refine own_iload (pc' := 256) X197 hx (hb hby at_254) rfl rfl ?_
        refine own_ldcI (pc' := 258) X197 hx hZ hown (own_w3 hw) (hb hby at_256) rfl ?_
        by_cases hc258_198 : d159 < (1114111 : Int32)
        · refine own_icmpNo (pc' := 261) X197 hx (hb hby at_258) rfl (tlt hc258_198).2.1 ?_
          refine own_aload (pc' := 263) X197 hx (hb hby at_261) rfl rfl rfl ?_
          refine own_iload (pc' := 265) X197 hx (hb hby at_263) rfl rfl ?_
          refine own_iload (pc' := 267) X197 hx (hb hby at_265) rfl rfl ?_
          refine own_iconst (pc' := 268) (z := (1 : Int32)) X197 hx (hb hby at_267) rfl rfl ?_
          refine own_iadd (pc' := 269) (z := (d159 + (1 : Int32))) X197 hx (hb hby at_268) rfl rfl ?_
          refine own_iastore (pc' := 270) X197 hx hZ e197 V197 (hb hby at_269) rfl (by decide) 2 rfl (by simp) N197 ge168 ?_
          intro T199 h199 L199 X199 e199 N199 W199 V199
          replace V199 : Arv Z h199 a166 k166 .int (6 : Int32) [(.int (b33 + (1 : Int32))), (.int (c158 - (1 : Int32))), (.int (d159 + (1 : Int32))), (.int (0 : Int32)), (.int (0 : Int32)), (.int (0 : Int32))] (.int (0 : Int32)) := V199
          show own_Ends p e below s _ _ _ T199 (mkF m 270 #[.val (.int p0), .val (.int p1), .val (.int p2), .val (.int p3), .val (.int p4), .val (.int (2 : Int32)), .val (.int a32), .val (.int b33), .val (.int c158), .val (.int d159), .val (.ref a160), .val (.ref a166), .val (.int (2 : Int32)), .val (.int d159), .unset] [])
          refine own_aload (pc' := 272) X199 hx (hb hby at_270) rfl rfl rfl ?_
          refine own_iload (pc' := 274) X199 hx (hb hby at_272) rfl rfl ?_
          refine own_iconst (pc' := 275) (z := (1 : Int32)) X199 hx (hb hby at_274) rfl rfl ?_
          refine own_iadd (pc' := 276) (z := (3 : Int32)) X199 hx (hb hby at_275) rfl (by decide) ?_
          refine own_ldcI (pc' := 278) X199 hx hZ hown (own_w3 hw) (hb hby at_276) rfl ?_
          refine own_iastore (pc' := 279) X199 hx hZ e199 V199 (hb hby at_278) rfl (by decide) 3 rfl (by simp) N199 ge168 ?_
          intro T200 h200 L200 X200 e200 N200 W200 V200
          replace V200 : Arv Z h200 a166 k166 .int (6 : Int32) [(.int (b33 + (1 : Int32))), (.int (c158 - (1 : Int32))), (.int (d159 + (1 : Int32))), (.int (1114111 : Int32)), (.int (0 : Int32)), (.int (0 : Int32))] (.int (0 : Int32)) := V200
          show own_Ends p e below s _ _ _ T200 (mkF m 279 #[.val (.int p0), .val (.int p1), .val (.int p2), .val (.int p3), .val (.int p4), .val (.int (2 : Int32)), .val (.int a32), .val (.int b33), .val (.int c158), .val (.int d159), .val (.ref a160), .val (.ref a166), .val (.int (2 : Int32)), .val (.int d159), .unset] [])
          refine own_iinc (pc' := 282) (z := (4 : Int32)) (l' := #[.val (.int p0), .val (.int p1), .val (.int p2), .val (.int p3), .val (.int p4), .val (.int (2 : Int32)), .val (.int a32), .val (.int b33), .val (.int c158), .val (.int d159), .val (.ref a160), .val (.ref a166), .val (.int (4 : Int32)), .val (.int d159), .unset]) X200 hx (hb hby at_279) rfl rfl (by decide) rfl ?_
          refine own_aload (pc' := 284) X200 hx (hb hby at_282) rfl rfl rfl ?_
          have i_hc258_198 : d159.toInt < 1114111 := own_i1 hc258_198
          have hl0 : ¬ (1114111 : Int32) < d159 + (1 : Int32) := own_nlt (by rw [own_p1 ⟨by omega, by omega⟩]; show d159.toInt + 1 ≤ 1114111; omega)
          have hm0 : b33 + (1 : Int32) < c158 := own_lt (by rw [own_p1 ⟨by omega, by omega⟩]; omega)
          have f201 := (((((V165.ext E166).other W196 ne169).other W197 ne169).other W199 ne169).other W200 ne169)
          have f202 := (Nat.le_trans (Nat.le_trans (Nat.le_trans (Nat.le_trans (Nat.le_trans f167 E166.1) (Keep.of_wr W196).1) (Keep.of_wr W197).1) (Keep.of_wr W199).1) (Keep.of_wr W200).1)
          refine own_callS (pc' := 287) (y := (⟨"com/example/exacting_validator/exactingvalidator/pattern/CodePointSets", "complement", "([I)[I"⟩ : MethodName)) (W := 0) (rm := own_room1_201) (argsL := [(.ref a160)]) (rest := []) X200 hx hZ e200 hown (by rw [hml]; rfl) (own_w4 hw) (own_w5 hw) (own_w6 hw) (own_w7 hw) (by decide) (own_rm1_201 l Z a0 hw [] a160 k160 a32 b33 c158 d159 h200 n0 f202 f201 hc187_170 hl0 hm0) (by decide) (by decide) (by decide) (by decide) (lenOf own_pd2 rfl) rfl (by exact Nat.le_of_eq rfl) (hb hby at_284) rfl ?_
          intro T203 Lc203 v203 X203 hQ203
          obtain ⟨ra203, rk203, rfl, Nq203, Kq203, G203_0, G203_1⟩ := hQ203
          have N203 := Fr.app N200 Nq203
          have ge204 : n0 ≤ ra203 := Nat.le_trans f202 G203_0
          have ne205 : a160 ≠ ra203 := Nat.ne_of_lt (Nat.lt_of_lt_of_le f201.lt G203_0)
          have ne206 : a166 ≠ ra203 := Nat.ne_of_lt (Nat.lt_of_lt_of_le V200.lt G203_0)
          show own_Ends p e below s _ _ _ T203 (mkF m 287 #[.val (.int p0), .val (.int p1), .val (.int p2), .val (.int p3), .val (.int p4), .val (.int (2 : Int32)), .val (.int a32), .val (.int b33), .val (.int c158), .val (.int d159), .val (.ref a160), .val (.ref a166), .val (.int (4 : Int32)), .val (.int d159), .unset] [(.ref ra203)])
          refine own_astore (pc' := 289) (l' := #[.val (.int p0), .val (.int p1), .val (.int p2), .val (.int p3), .val (.int p4), .val (.int (2 : Int32)), .val (.int a32), .val (.int b33), .val (.int c158), .val (.int d159), .val (.ref a160), .val (.ref a166), .val (.int (4 : Int32)), .val (.ref ra203), .unset]) X203 hx (hb hby at_287) rfl rfl rfl ?_
          refine own_iload (pc' := 291) X203 hx (hb hby at_289) rfl rfl ?_
          refine own_ifYes (pc' := 310) X203 hx (hb hby at_291) (feq (by decide)).2 (by decide) (by decide) ?_
          refine own_iload (pc' := 312) X203 hx (hb hby at_310) rfl rfl ?_
          refine own_iconst (pc' := 313) (z := (1 : Int32)) X203 hx (hb hby at_312) rfl rfl ?_
          refine own_icmpYes (pc' := 351) X203 hx (hb hby at_313) (feq (by decide)).2 (by decide) (by decide) ?_
          refine own_aload (pc' := 353) X203 hx (hb hby at_351) rfl rfl rfl ?_
          have f207 := (f201.keep Kq203 nin0)
          refine own_alen (pc' := 354) X203 hx hZ rfl f207 (hb hby at_353) rfl ?_
          refine own_iconst (pc' := 355) (z := (4 : Int32)) X203 hx (hb hby at_354) rfl rfl ?_
          refine own_icmpNo (pc' := 358) X203 hx (hb hby at_355) rfl (teq (by decide)).2 ?_
          refine own_aload (pc' := 360) X203 hx (hb hby at_358) rfl rfl rfl ?_
          refine own_iconst (pc' := 361) (z := (0 : Int32)) X203 hx (hb hby at_360) rfl rfl ?_
          refine own_iaload (pc' := 362) X203 hx hZ rfl f207 (hb hby at_361) rfl (by decide) rfl ?_
          refine own_iload (pc' := 364) X203 hx (hb hby at_362) rfl rfl ?_
          refine own_icmpNo (pc' := 367) X203 hx (hb hby at_364) rfl (teq rfl).2 ?_
          refine own_aload (pc' := 369) X203 hx (hb hby at_367) rfl rfl rfl ?_
          refine own_iconst (pc' := 370) (z := (1 : Int32)) X203 hx (hb hby at_369) rfl rfl ?_
          refine own_iaload (pc' := 371) X203 hx hZ rfl f207 (hb hby at_370) rfl (by decide) rfl ?_
          refine own_iload (pc' := 373) X203 hx (hb hby at_371) rfl rfl ?_
          refine own_icmpNo (pc' := 376) X203 hx (hb hby at_373) rfl (teq rfl).2 ?_
          refine own_aload (pc' := 378) X203 hx (hb hby at_376) rfl rfl rfl ?_
          refine own_iconst (pc' := 379) (z := (2 : Int32)) X203 hx (hb hby at_378) rfl rfl ?_
          refine own_iaload (pc' := 380) X203 hx hZ rfl f207 (hb hby at_379) rfl (by decide) rfl ?_
          refine own_iload (pc' := 382) X203 hx (hb hby at_380) rfl rfl ?_
          refine own_icmpNo (pc' := 385) X203 hx (hb hby at_382) rfl (teq rfl).2 ?_
          refine own_aload (pc' := 387) X203 hx (hb hby at_385) rfl rfl rfl ?_
          refine own_iconst (pc' := 388) (z := (3 : Int32)) X203 hx (hb hby at_387) rfl rfl ?_
          refine own_iaload (pc' := 389) X203 hx hZ rfl f207 (hb hby at_388) rfl (by decide) rfl ?_
          refine own_iload (pc' := 391) X203 hx (hb hby at_389) rfl rfl ?_
          refine own_icmpNo (pc' := 394) X203 hx (hb hby at_391) rfl (teq rfl).2 ?_
          refine own_iconst (pc' := 395) (z := (1 : Int32)) X203 hx (hb hby at_394) rfl rfl ?_
          refine own_goto (pc' := 399) X203 hx (hb hby at_395) (by decide) (by decide) ?_
          refine own_istore (pc' := 401) (l' := #[.val (.int p0), .val (.int p1), .val (.int p2), .val (.int p3), .val (.int p4), .val (.int (2 : Int32)), .val (.int a32), .val (.int b33), .val (.int c158), .val (.int d159), .val (.ref a160), .val (.ref a166), .val (.int (4 : Int32)), .val (.ref ra203), .val (.int (1 : Int32))]) X203 hx (hb hby at_399) rfl rfl ?_
          refine own_iload (pc' := 403) X203 hx (hb hby at_401) rfl rfl ?_
          refine own_ifNo (pc' := 406) X203 hx (hb hby at_403) rfl (feq (by decide)).1 ?_
          refine own_aload (pc' := 408) X203 hx (hb hby at_406) rfl rfl rfl ?_
          refine own_aload (pc' := 410) X203 hx (hb hby at_408) rfl rfl rfl ?_
          refine own_iload (pc' := 412) X203 hx (hb hby at_410) rfl rfl ?_
          have f208 := (V200.keep Kq203 nin0)
          refine own_callS (pc' := 415) (y := (⟨"com/example/exacting_validator/exactingvalidator/pattern/CodePointSetsComplementPinLaw", "same", "([I[II)Z"⟩ : MethodName)) (W := 0) (rm := own_room3_4) (argsL := [(.ref ra203), (.ref a166), (.int (4 : Int32))]) (rest := []) X203 hx hZ rfl hown (by rw [hml]; rfl) (own_w22 hw) (own_w23 hw) (own_w24 hw) (own_w25 hw) (by decide) (own_rm3_4 l Z a0 hw [] ra203 a166 rk203 k166 (b33 + (1 : Int32)) (c158 - (1 : Int32)) (d159 + (1 : Int32)) (1114111 : Int32) (0 : Int32) (0 : Int32) T203.heap n0 G203_1 f208) (by decide) (by decide) (by decide) (by decide) (lenOf own_pd3 rfl) rfl (by exact Nat.le_of_eq rfl) (hb hby at_412) rfl ?_
          intro T209 Lc209 v209 X209 hQ209
          obtain ⟨rfl, Nq209, Kq209⟩ := hQ209
          have N209 := Fr.app N203 Nq209
          show own_Ends p e below s _ _ _ T209 (mkF m 415 #[.val (.int p0), .val (.int p1), .val (.int p2), .val (.int p3), .val (.int p4), .val (.int (2 : Int32)), .val (.int a32), .val (.int b33), .val (.int c158), .val (.int d159), .val (.ref a160), .val (.ref a166), .val (.int (4 : Int32)), .val (.ref ra203), .val (.int (1 : Int32))] [(.int (1 : Int32))])
          refine own_ifNo (pc' := 418) X209 hx (hb hby at_415) rfl (feq (by decide)).1 ?_
          refine own_iconst (pc' := 419) (z := (1 : Int32)) X209 hx (hb hby at_418) rfl rfl ?_
          refine own_goto (pc' := 423) X209 hx (hb hby at_419) (by decide) (by decide) ?_
          refine own_retN X209 hx hlk hret (by simp) (hb hby at_423) (by decide) (by decide) ?_
          exact ⟨rfl, N209⟩
        · refine own_icmpYes (pc' := 282) X197 hx (hb hby at_258) (flt hc258_198).2.1 (by decide) (by decide) ?_
          refine own_aload (pc' := 284) X197 hx (hb hby at_282) rfl rfl rfl ?_
          have i_hc258_198 : 1114111 ≤ d159.toInt := own_i2 hc258_198
          have hl0 : (1114111 : Int32) < d159 + (1 : Int32) := own_lt (by rw [own_p1 ⟨by omega, by omega⟩]; show 1114111 < d159.toInt + 1; omega)
          have hm0 : b33 + (1 : Int32) < c158 := own_lt (by rw [own_p1 ⟨by omega, by omega⟩]; omega)
          have f210 := (((V165.ext E166).other W196 ne169).other W197 ne169)
          have f211 := (Nat.le_trans (Nat.le_trans (Nat.le_trans f167 E166.1) (Keep.of_wr W196).1) (Keep.of_wr W197).1)
          refine own_callS (pc' := 287) (y := (⟨"com/example/exacting_validator/exactingvalidator/pattern/CodePointSets", "complement", "([I)[I"⟩ : MethodName)) (W := 0) (rm := own_room1_200) (argsL := [(.ref a160)]) (rest := []) X197 hx hZ e197 hown (by rw [hml]; rfl) (own_w4 hw) (own_w5 hw) (own_w6 hw) (own_w7 hw) (by decide) (own_rm1_200 l Z a0 hw [] a160 k160 a32 b33 c158 d159 h197 n0 f211 f210 hc187_170 hl0 hm0) (by decide) (by decide) (by decide) (by decide) (lenOf own_pd2 rfl) rfl (by exact Nat.le_of_eq rfl) (hb hby at_284) rfl ?_
          intro T212 Lc212 v212 X212 hQ212
          obtain ⟨ra212, rk212, rfl, Nq212, Kq212, G212_0, G212_1⟩ := hQ212
          have N212 := Fr.app N197 Nq212
          have ge213 : n0 ≤ ra212 := Nat.le_trans f211 G212_0
          have ne214 : a160 ≠ ra212 := Nat.ne_of_lt (Nat.lt_of_lt_of_le f210.lt G212_0)
          have ne215 : a166 ≠ ra212 := Nat.ne_of_lt (Nat.lt_of_lt_of_le V197.lt G212_0)
          show own_Ends p e below s _ _ _ T212 (mkF m 287 #[.val (.int p0), .val (.int p1), .val (.int p2), .val (.int p3), .val (.int p4), .val (.int (2 : Int32)), .val (.int a32), .val (.int b33), .val (.int c158), .val (.int d159), .val (.ref a160), .val (.ref a166), .val (.int (2 : Int32)), .val (.int d159), .unset] [(.ref ra212)])
          refine own_astore (pc' := 289) (l' := #[.val (.int p0), .val (.int p1), .val (.int p2), .val (.int p3), .val (.int p4), .val (.int (2 : Int32)), .val (.int a32), .val (.int b33), .val (.int c158), .val (.int d159), .val (.ref a160), .val (.ref a166), .val (.int (2 : Int32)), .val (.ref ra212), .unset]) X212 hx (hb hby at_287) rfl rfl rfl ?_
          refine own_iload (pc' := 291) X212 hx (hb hby at_289) rfl rfl ?_
          refine own_ifYes (pc' := 310) X212 hx (hb hby at_291) (feq (by decide)).2 (by decide) (by decide) ?_
          refine own_iload (pc' := 312) X212 hx (hb hby at_310) rfl rfl ?_
          refine own_iconst (pc' := 313) (z := (1 : Int32)) X212 hx (hb hby at_312) rfl rfl ?_
          refine own_icmpYes (pc' := 351) X212 hx (hb hby at_313) (feq (by decide)).2 (by decide) (by decide) ?_
          refine own_aload (pc' := 353) X212 hx (hb hby at_351) rfl rfl rfl ?_
          have f216 := (f210.keep Kq212 nin0)
          refine own_alen (pc' := 354) X212 hx hZ rfl f216 (hb hby at_353) rfl ?_
          refine own_iconst (pc' := 355) (z := (4 : Int32)) X212 hx (hb hby at_354) rfl rfl ?_
          refine own_icmpNo (pc' := 358) X212 hx (hb hby at_355) rfl (teq (by decide)).2 ?_
          refine own_aload (pc' := 360) X212 hx (hb hby at_358) rfl rfl rfl ?_
          refine own_iconst (pc' := 361) (z := (0 : Int32)) X212 hx (hb hby at_360) rfl rfl ?_
          refine own_iaload (pc' := 362) X212 hx hZ rfl f216 (hb hby at_361) rfl (by decide) rfl ?_
          refine own_iload (pc' := 364) X212 hx (hb hby at_362) rfl rfl ?_
          refine own_icmpNo (pc' := 367) X212 hx (hb hby at_364) rfl (teq rfl).2 ?_
          refine own_aload (pc' := 369) X212 hx (hb hby at_367) rfl rfl rfl ?_
          refine own_iconst (pc' := 370) (z := (1 : Int32)) X212 hx (hb hby at_369) rfl rfl ?_
          refine own_iaload (pc' := 371) X212 hx hZ rfl f216 (hb hby at_370) rfl (by decide) rfl ?_
          refine own_iload (pc' := 373) X212 hx (hb hby at_371) rfl rfl ?_
          refine own_icmpNo (pc' := 376) X212 hx (hb hby at_373) rfl (teq rfl).2 ?_
          refine own_aload (pc' := 378) X212 hx (hb hby at_376) rfl rfl rfl ?_
          refine own_iconst (pc' := 379) (z := (2 : Int32)) X212 hx (hb hby at_378) rfl rfl ?_
          refine own_iaload (pc' := 380) X212 hx hZ rfl f216 (hb hby at_379) rfl (by decide) rfl ?_
          refine own_iload (pc' := 382) X212 hx (hb hby at_380) rfl rfl ?_
          refine own_icmpNo (pc' := 385) X212 hx (hb hby at_382) rfl (teq rfl).2 ?_
          refine own_aload (pc' := 387) X212 hx (hb hby at_385) rfl rfl rfl ?_
          refine own_iconst (pc' := 388) (z := (3 : Int32)) X212 hx (hb hby at_387) rfl rfl ?_
          refine own_iaload (pc' := 389) X212 hx hZ rfl f216 (hb hby at_388) rfl (by decide) rfl ?_
          refine own_iload (pc' := 391) X212 hx (hb hby at_389) rfl rfl ?_
          refine own_icmpNo (pc' := 394) X212 hx (hb hby at_391) rfl (teq rfl).2 ?_
          refine own_iconst (pc' := 395) (z := (1 : Int32)) X212 hx (hb hby at_394) rfl rfl ?_
          refine own_goto (pc' := 399) X212 hx (hb hby at_395) (by decide) (by decide) ?_
          refine own_istore (pc' := 401) (l' := #[.val (.int p0), .val (.int p1), .val (.int p2), .val (.int p3), .val (.int p4), .val (.int (2 : Int32)), .val (.int a32), .val (.int b33), .val (.int c158), .val (.int d159), .val (.ref a160), .val (.ref a166), .val (.int (2 : Int32)), .val (.ref ra212), .val (.int (1 : Int32))]) X212 hx (hb hby at_399) rfl rfl ?_
          refine own_iload (pc' := 403) X212 hx (hb hby at_401) rfl rfl ?_
          refine own_ifNo (pc' := 406) X212 hx (hb hby at_403) rfl (feq (by decide)).1 ?_
          refine own_aload (pc' := 408) X212 hx (hb hby at_406) rfl rfl rfl ?_
          refine own_aload (pc' := 410) X212 hx (hb hby at_408) rfl rfl rfl ?_
          refine own_iload (pc' := 412) X212 hx (hb hby at_410) rfl rfl ?_
          have f217 := (V197.keep Kq212 nin0)
          refine own_callS (pc' := 415) (y := (⟨"com/example/exacting_validator/exactingvalidator/pattern/CodePointSetsComplementPinLaw", "same", "([I[II)Z"⟩ : MethodName)) (W := 0) (rm := own_room3_2) (argsL := [(.ref ra212), (.ref a166), (.int (2 : Int32))]) (rest := []) X212 hx hZ rfl hown (by rw [hml]; rfl) (own_w22 hw) (own_w23 hw) (own_w24 hw) (own_w25 hw) (by decide) (own_rm3_2 l Z a0 hw [] ra212 a166 rk212 k166 (b33 + (1 : Int32)) (c158 - (1 : Int32)) (0 : Int32) (0 : Int32) (0 : Int32) (0 : Int32) T212.heap n0 G212_1 f217) (by decide) (by decide) (by decide) (by decide) (lenOf own_pd3 rfl) rfl (by exact Nat.le_of_eq rfl) (hb hby at_412) rfl ?_
          intro T218 Lc218 v218 X218 hQ218
          obtain ⟨rfl, Nq218, Kq218⟩ := hQ218
          have N218 := Fr.app N212 Nq218
          show own_Ends p e below s _ _ _ T218 (mkF m 415 #[.val (.int p0), .val (.int p1), .val (.int p2), .val (.int p3), .val (.int p4), .val (.int (2 : Int32)), .val (.int a32), .val (.int b33), .val (.int c158), .val (.int d159), .val (.ref a160), .val (.ref a166), .val (.int (2 : Int32)), .val (.ref ra212), .val (.int (1 : Int32))] [(.int (1 : Int32))])
          refine own_ifNo (pc' := 418) X218 hx (hb hby at_415) rfl (feq (by decide)).1 ?_
          refine own_iconst (pc' := 419) (z := (1 : Int32)) X218 hx (hb hby at_418) rfl rfl ?_
          refine own_goto (pc' := 423) X218 hx (hb hby at_419) (by decide) (by decide) ?_
          refine own_retN X218 hx hlk hret (by simp) (hb hby at_423) (by decide) (by decide) ?_
          exact ⟨rfl, N218⟩
set_option maxRecDepth 65536 in
set_option maxHeartbeats 40000000 in
theorem own_comes {Post : Tables → Env → Array Value → State → Outcome → State → Prop} (hpost : ∀ tb e args s v u, (limb_1_1.after args s (.returned v) u = true ∧ limb_1_2.after args s (.returned v) u = true ∧ True) → FrameEnd s (.returned v) u (Jvm.fieldLocs frame_1_writes args s ++ Jvm.arrayLocs frame_1_arrays args s ++ Jvm.staticLocs frame_1_statics s) 16 128 → Post tb e args s (.returned v) u) :
    ArmFor flags0 classFile x code maxLocals ret World_1 tables_1 room_1 Calls_1 rest_1 Pre_1 Post := by
  intro l hfl _ _ p e ha hc hk s m args below hf hA hF happ hP
  obtain ⟨hcalls, hrest, hpre⟩ := hP
  obtain ⟨-, -, -, hnamed, -, -, -, hat⟩ := (Spec.applies_iff hf).mp happ
  obtain ⟨hg, hn⟩ := and_e (Cond.before_iff.mp (show (Jvm.Cond.and given_1 narrow_1).before args s = true from hpre))
  obtain ⟨g1, g2⟩ := and_e hg
  obtain ⟨g3, g4⟩ := and_e g2
  obtain ⟨g5, g6⟩ := and_e g4
  obtain ⟨g7, g8⟩ := and_e g6
  obtain ⟨g9, g10⟩ := and_e g8
  obtain ⟨w0, w1, w2, w3, w4, rfl⟩ : ∃ w0 w1 w2 w3 w4 : Value, args = #[w0, w1, w2, w3, w4] := by
    have hs : args.size = 5 := by simpa [Cond.value, given_1] using g1
    obtain ⟨L⟩ := args
    match L, hs with
    | [w0, w1, w2, w3, w4], _ => exact ⟨w0, w1, w2, w3, w4, rfl⟩
  have hw := fun d (hd : d ∈ tables_1) => atoms_spec (ws := Jvm.Cond.code x code maxLocals ret :: tables_1) hat d (List.mem_cons_of_mem _ hd)
  have hfit : Fit s := fun {y c} hc i hi => by
    obtain ⟨ha, rfl⟩ := Array.getElem?_eq_some_iff.mp hc
    have q := List.all_eq_true.mp ((Array.all_eq_true_iff_forall_mem.mp hF) _ (Array.getElem_mem ha)) i (List.mem_range.mpr hi)
    simpa [Array.getElem?_eq_getElem hi] using q
  obtain ⟨i0, ei0⟩ := is_v g3
  obtain rfl : w0 = (.int i0) := Option.some.inj ei0
  obtain ⟨i1, ei1⟩ := is_v g5
  obtain rfl : w1 = (.int i1) := Option.some.inj ei1
  obtain ⟨i2, ei2⟩ := is_v g7
  obtain rfl : w2 = (.int i2) := Option.some.inj ei2
  obtain ⟨i3, ei3⟩ := is_v g9
  obtain rfl : w3 = (.int i3) := Option.some.inj ei3
  obtain ⟨i4, ei4⟩ := is_v g10
  obtain rfl : w4 = (.int i4) := Option.some.inj ei4
  obtain ⟨n, o, h1, h2, h3, _, L, rfl, ⟨rfl, N⟩, hq⟩ := own_rm0 l s _ hw tables_1 i0 i1 i2 i3 i4 s.heap s.heap.size (Nat.le_refl _) p e ha hc hk s m _ below hf ((Spec.applies_iff_loose hf).mp happ).1 ⟨rfl, State.Warmed39.refl s, rfl⟩ trivial
  refine ⟨n, _, h1, h2, h3, hpost _ _ _ _ _ _ ⟨Cond.after_iff.mpr rfl, Cond.after_iff.mpr (eq_i res_at (Term.int_eval (1)) rfl), trivial⟩ ⟨hq.1, hq.2.1, (hq.2.2.sift fun y hy => Or.inr (N y hy)).mono (by decide) (by decide)⟩⟩
theorem main_1_1 : Claimed_1_1 := own_comes fun _ _ _ _ _ _ h hF => ⟨h.1, hF⟩
theorem main_1_2 : Claimed_1_2 := own_comes fun _ _ _ _ _ _ h hF => ⟨h.2.1, hF⟩
end Jvm.Pilot.@@N@@
namespace Jvm.Pilot.@@N@@
open Jvm Jvm.ClassFile Sem Op Lib Jvm.Free Jvm.Stand Jvm.Pilot.@@N@@.Jvm.D
/-! MADE BY PROGRAM (witnessworld.py) out of the Statement's table words and the real class files: 12 classes; the members and pool entries that the words name. The judged class is class 1, her method 1. -/
namespace start1
open Jvm.ClassFile
def u (s : String) : CpInfo := .utf8 (stringToUtf16 s)
/-- a pool by its gaps: so many unusable entries, then the entry; so many at the end -/
def gap : Nat → List CpInfo → List CpInfo
  | 0, r => r
  | n + 1, r => .unusable :: gap n r
def poolList (es : List (Nat × CpInfo)) (last : Nat) : List CpInfo := es.foldr (fun e r => gap e.1 (e.2 :: r)) (gap last [])
def pool (es : List (Nat × CpInfo)) (last : Nat) : Array CpInfo := ⟨poolList es last⟩
def fileOf (pool : Array CpInfo) (this : Nat) (attrs : Array Attribute := #[]) (ms : Array MethodInfo := #[]) (fl : Nat := 33) (sup : Nat := 0) (ifs : Array Nat := #[]) (fds : Array FieldInfo := #[]) : ClassFile where
  minorVersion := 0
  majorVersion := 65
  constantPool := pool
  accessFlags := fl
  thisClass := this
  superClass := sup
  interfaces := ifs
  fields := fds
  methods := ms
  attributes := attrs
def plain (name : String) (sup : Option ClassId) : Class where
  name := name
  kind := .ordinary
  loader := none
  accessFlags := 33
  super := sup
  interfaces := #[]
  cf := none
  fields := #[]
  methods := #[]
  instanceTypes := #[]
  staticTypes := #[]
  resolved := #[]
  callSites := []
  init := .initialized
  statics := none
  mirror := none

def pool0 : Array CpInfo := pool [(5, u "<init>"), (0, u "()V"), (1, .class_ 10), (1, u "java/lang/Object"), (85, u "clone"), (0, u "()Ljava/lang/Object;")] 26

def k0m0 : Method := { name := "<init>", desc := "()V", sig := { parameters := [], returnType := none }, accessFlags := 1, code := none }
def k0m1 : Method := { name := "clone", desc := "()Ljava/lang/Object;", sig := { parameters := [], returnType := some (.object "java/lang/Object") }, accessFlags := 260, code := none }
/-- java/lang/Object -/
def k0 : Class := { plain "java/lang/Object" none with
  accessFlags := 33
  interfaces := #[]
  cf := some (fileOf pool0 8 #[] #[{ accessFlags := 1, nameIndex := 5, descriptorIndex := 6, attributes := #[] }, { accessFlags := 260, nameIndex := 96, descriptorIndex := 97, attributes := #[] }] 33 0 #[] #[])
  fields := #[]
  methods := #[k0m0, k0m1]
  instanceTypes := #[]
  staticTypes := #[]
  resolved := Array.replicate 124 none
  statics := none }

def pool1 : Array CpInfo := pool [(2, .class_ 4), (1, u "java/lang/Object"), (0, u "<init>"), (0, u "()V"), (0, .integer 2147483647), (0, .integer 1114112), (0, .integer 1114109), (0, .integer 1114111), (0, .methodref 12 13), (0, .class_ 14), (0, .nameAndType 15 16), (0, u "com/example/exacting_validator/exactingvalidator/pattern/CodePointSets"), (0, u "complement"), (0, u "([I)[I"), (0, .methodref 18 19), (0, .class_ 20), (0, .nameAndType 21 22), (0, u "com/example/exacting_validator/exactingvalidator/pattern/CodePointSetsComplementPinLaw"), (0, u "same"), (0, u "([I[II)Z"), (2, u "law"), (0, u "(IIIII)Z")] 5

def k1m0 : Method := { name := "<init>", desc := "()V", sig := { parameters := [], returnType := none }, accessFlags := 1, code := none }
def k1c1 : Code := { maxStack := 4, maxLocals := 15, code := code, exceptionTable := #[], attributes := #[] }
def k1m1 : Method := { name := "law", desc := "(IIIII)Z", sig := { parameters := [.int, .int, .int, .int, .int], returnType := some .boolean }, accessFlags := 9, code := some k1c1 }
def k1c2 : Code := { maxStack := 3, maxLocals := 3, code := method_3_code, exceptionTable := #[], attributes := #[] }
def k1m2 : Method := { name := "same", desc := "([I[II)Z", sig := { parameters := [(.array .int), (.array .int), .int], returnType := some .boolean }, accessFlags := 10, code := some k1c2 }
/-- com/example/exacting_validator/exactingvalidator/pattern/CodePointSetsComplementPinLaw -/
def k1 : Class := { plain "com/example/exacting_validator/exactingvalidator/pattern/CodePointSetsComplementPinLaw" (some 0) with
  accessFlags := 49
  interfaces := #[]
  cf := some (fileOf pool1 18 #[] #[{ accessFlags := 1, nameIndex := 5, descriptorIndex := 6, attributes := #[] }, { accessFlags := 9, nameIndex := 25, descriptorIndex := 26, attributes := #[] }, { accessFlags := 10, nameIndex := 21, descriptorIndex := 22, attributes := #[] }] 49 2 #[] #[])
  fields := #[]
  methods := #[k1m0, k1m1, k1m2]
  instanceTypes := #[]
  staticTypes := #[]
  resolved := Array.replicate 32 none
  statics := none }

def pool2 : Array CpInfo := pool [(2, .class_ 4), (1, u "java/lang/Object"), (0, u "<init>"), (0, u "()V"), (27, .class_ 36), (1, u "java/util/Arrays"), (8, .methodref 34 46), (0, .nameAndType 47 48), (0, u "copyOf"), (0, u "([II)[I"), (2, .integer 1114111), (0, .class_ 53), (0, u "com/example/exacting_validator/exactingvalidator/pattern/CodePointSets"), (9, u "complement"), (0, u "([I)[I")] 4

def k2m0 : Method := { name := "<init>", desc := "()V", sig := { parameters := [], returnType := none }, accessFlags := 2, code := none }
def k2c1 : Code := { maxStack := 4, maxLocals := 5, code := prog_3_method_3_code, exceptionTable := #[], attributes := #[] }
def k2m1 : Method := { name := "complement", desc := "([I)[I", sig := { parameters := [(.array .int)], returnType := some (.array .int) }, accessFlags := 8, code := some k2c1 }
/-- com/example/exacting_validator/exactingvalidator/pattern/CodePointSets -/
def k2 : Class := { plain "com/example/exacting_validator/exactingvalidator/pattern/CodePointSets" (some 0) with
  accessFlags := 48
  interfaces := #[]
  cf := some (fileOf pool2 52 #[] #[{ accessFlags := 2, nameIndex := 5, descriptorIndex := 6, attributes := #[] }, { accessFlags := 8, nameIndex := 63, descriptorIndex := 64, attributes := #[] }] 48 2 #[] #[])
  fields := #[]
  methods := #[k2m0, k2m1]
  instanceTypes := #[]
  staticTypes := #[]
  resolved := Array.replicate 69 none
  statics := none }

def pool3 : Array CpInfo := pool [(2, .class_ 4), (1, u "java/lang/Object"), (0, u "<init>"), (0, u "()V"), (7, .class_ 16), (1, u "java/util/Arrays"), (57, .class_ 76), (1, u "java/util/Arrays$NaturalOrder"), (32, u "()Ljava/lang/Object;"), (3, .class_ 115), (1, u "java/util/Arrays$LegacyMergeSort"), (1, u "Z"), (10, .nameAndType 129 109), (0, u "clone"), (20, .methodref 151 152), (0, .class_ 153), (0, .nameAndType 154 155), (0, u "java/lang/System"), (0, u "arraycopy"), (0, u "(Ljava/lang/Object;ILjava/lang/Object;II)V"), (146, u "copyOf"), (1, .methodref 305 306), (0, .class_ 307), (0, .nameAndType 308 309), (0, u "java/lang/Math"), (0, u "min"), (0, u "(II)I"), (6, .methodref 317 128), (0, .class_ 318), (0, u "[I"), (56, .class_ 376), (0, u "java/util/Arrays$ArrayList"), (68, u "$assertionsDisabled"), (269, u "MIN_ARRAY_SORT_GRAN"), (0, u "I"), (2, u "INSERTIONSORT_THRESHOLD"), (151, u "([II)[I"), (103, .class_ 976), (0, u "java/util/Arrays$ArrayItr")] 52

def k3m0 : Method := { name := "<init>", desc := "()V", sig := { parameters := [], returnType := none }, accessFlags := 2, code := none }
def k3c1 : Code := { maxStack := 6, maxLocals := 3, code := jdk_65_method_123_code, exceptionTable := #[], attributes := #[] }
def k3m1 : Method := { name := "copyOf", desc := "([II)[I", sig := { parameters := [(.array .int), .int], returnType := some (.array .int) }, accessFlags := 9, code := some k3c1 }
/-- java/util/Arrays -/
def k3 : Class := { plain "java/util/Arrays" (some 0) with
  accessFlags := 49
  interfaces := #[]
  cf := some (fileOf pool3 14 #[.nestMembers #[975, 375, 113, 74]] #[{ accessFlags := 2, nameIndex := 5, descriptorIndex := 6, attributes := #[] }, { accessFlags := 9, nameIndex := 302, descriptorIndex := 871, attributes := #[] }] 49 2 #[] #[{ accessFlags := 26, nameIndex := 715, descriptorIndex := 716, attributes := #[] }, { accessFlags := 26, nameIndex := 719, descriptorIndex := 716, attributes := #[] }, { accessFlags := 4120, nameIndex := 445, descriptorIndex := 117, attributes := #[] }])
  fields := #[{ name := "MIN_ARRAY_SORT_GRAN", type := .int, accessFlags := 26, slot := 0, constantValue := 0 }, { name := "INSERTIONSORT_THRESHOLD", type := .int, accessFlags := 26, slot := 1, constantValue := 0 }, { name := "$assertionsDisabled", type := .boolean, accessFlags := 4120, slot := 2, constantValue := 0 }]
  methods := #[k3m0, k3m1]
  instanceTypes := #[]
  staticTypes := #[.int, .int, .boolean]
  resolved := Array.replicate 1029 none
  statics := none }

def pool4 : Array CpInfo := pool [(1, .class_ 2), (0, u "java/lang/Cloneable"), (0, .class_ 4), (0, u "java/lang/Object")] 2

/-- java/lang/Cloneable -/
def k4 : Class := { plain "java/lang/Cloneable" (some 0) with
  accessFlags := 1537
  interfaces := #[]
  cf := some (fileOf pool4 1 #[] #[] 1537 3 #[] #[])
  fields := #[]
  methods := #[]
  instanceTypes := #[]
  staticTypes := #[]
  resolved := Array.replicate 7 none
  statics := none }

def pool5 : Array CpInfo := pool [(1, .class_ 2), (0, u "java/lang/Math"), (1, .class_ 6), (1, u "java/lang/Object"), (0, u "<init>"), (0, u "()V"), (89, .class_ 100), (1, u "java/lang/Math$RandomNumberGeneratorHolder"), (71, u "negativeZeroFloatBits"), (0, u "J"), (2, u "negativeZeroDoubleBits"), (24, u "min"), (43, u "$assertionsDisabled"), (0, u "Z"), (88, u "(II)I"), (2, u "twoToTheDoubleScaleDown"), (0, u "D"), (4, u "twoToTheDoubleScaleUp"), (9, u "E"), (3, u "PI"), (2, u "TAU"), (2, u "DEGREES_TO_RADIANS"), (0, u "RADIANS_TO_DEGREES")] 94

def k5m0 : Method := { name := "<init>", desc := "()V", sig := { parameters := [], returnType := none }, accessFlags := 2, code := none }
def k5c1 : Code := { maxStack := 2, maxLocals := 2, code := jdk_29_method_69_code, exceptionTable := #[], attributes := #[] }
def k5m1 : Method := { name := "min", desc := "(II)I", sig := { parameters := [.int, .int], returnType := some .int }, accessFlags := 9, code := some k5c1 }
/-- java/lang/Math -/
def k5 : Class := { plain "java/lang/Math" (some 0) with
  accessFlags := 49
  interfaces := #[]
  cf := some (fileOf pool5 1 #[.nestMembers #[98]] #[{ accessFlags := 2, nameIndex := 7, descriptorIndex := 8, attributes := #[] }, { accessFlags := 9, nameIndex := 201, descriptorIndex := 335, attributes := #[] }] 49 4 #[] #[{ accessFlags := 25, nameIndex := 354, descriptorIndex := 339, attributes := #[] }, { accessFlags := 25, nameIndex := 358, descriptorIndex := 339, attributes := #[] }, { accessFlags := 25, nameIndex := 361, descriptorIndex := 339, attributes := #[] }, { accessFlags := 26, nameIndex := 364, descriptorIndex := 339, attributes := #[] }, { accessFlags := 26, nameIndex := 365, descriptorIndex := 339, attributes := #[] }, { accessFlags := 26, nameIndex := 172, descriptorIndex := 173, attributes := #[] }, { accessFlags := 26, nameIndex := 176, descriptorIndex := 173, attributes := #[] }, { accessFlags := 8, nameIndex := 344, descriptorIndex := 339, attributes := #[] }, { accessFlags := 8, nameIndex := 338, descriptorIndex := 339, attributes := #[] }, { accessFlags := 4120, nameIndex := 245, descriptorIndex := 246, attributes := #[] }])
  fields := #[{ name := "E", type := .double, accessFlags := 25, slot := 0, constantValue := 0 }, { name := "PI", type := .double, accessFlags := 25, slot := 1, constantValue := 0 }, { name := "TAU", type := .double, accessFlags := 25, slot := 2, constantValue := 0 }, { name := "DEGREES_TO_RADIANS", type := .double, accessFlags := 26, slot := 3, constantValue := 0 }, { name := "RADIANS_TO_DEGREES", type := .double, accessFlags := 26, slot := 4, constantValue := 0 }, { name := "negativeZeroFloatBits", type := .long, accessFlags := 26, slot := 5, constantValue := 0 }, { name := "negativeZeroDoubleBits", type := .long, accessFlags := 26, slot := 6, constantValue := 0 }, { name := "twoToTheDoubleScaleUp", type := .double, accessFlags := 8, slot := 7, constantValue := 0 }, { name := "twoToTheDoubleScaleDown", type := .double, accessFlags := 8, slot := 8, constantValue := 0 }, { name := "$assertionsDisabled", type := .boolean, accessFlags := 4120, slot := 9, constantValue := 0 }]
  methods := #[k5m0, k5m1]
  instanceTypes := #[]
  staticTypes := #[.double, .double, .double, .double, .double, .long, .long, .double, .double, .boolean]
  resolved := Array.replicate 460 none
  statics := none }

def pool6 : Array CpInfo := pool [(2, .class_ 4), (1, u "java/lang/Object"), (0, u "<init>"), (0, u "()V"), (1, .class_ 10), (1, u "java/lang/System"), (0, u "allowSecurityManager"), (0, u "I"), (16, u "cons"), (0, u "Ljava/io/Console;"), (77, .class_ 110), (1, u "java/lang/System$CallersHolder"), (43, u "initialErrStream"), (0, u "Ljava/io/PrintStream;"), (19, u "security"), (0, u "Ljava/lang/SecurityManager;"), (31, .class_ 209), (0, u "java/lang/System$1"), (7, u "props"), (0, u "Ljava/util/Properties;"), (2, u "lineSeparator"), (0, u "Ljava/lang/String;"), (96, .class_ 321), (1, u "java/lang/System$LoggerFinder"), (5, .class_ 328), (0, u "java/lang/System$Logger"), (67, u "err"), (2, u "out"), (91, u "notSupportedJnuEncoding"), (15, u "in"), (17, u "initialIn"), (0, u "Ljava/io/InputStream;"), (35, u "bootLayer"), (0, u "Ljava/lang/ModuleLayer;"), (99, .class_ 664), (0, u "java/lang/System$2"), (9, u "NEVER"), (2, u "MAYBE"), (49, u "arraycopy"), (0, u "(Ljava/lang/Object;ILjava/lang/Object;II)V"), (72, .class_ 802), (0, u "java/lang/System$Logger$Level")] 31

def k6m0 : Method := { name := "<init>", desc := "()V", sig := { parameters := [], returnType := none }, accessFlags := 2, code := none }
def k6m1 : Method := { name := "arraycopy", desc := "(Ljava/lang/Object;ILjava/lang/Object;II)V", sig := { parameters := [(.object "java/lang/Object"), .int, (.object "java/lang/Object"), .int, .int], returnType := none }, accessFlags := 265, code := none }
/-- java/lang/System -/
def k6 : Class := { plain "java/lang/System" (some 0) with
  accessFlags := 49
  interfaces := #[]
  cf := some (fileOf pool6 8 #[.nestMembers #[319, 327, 801, 108, 663, 208]] #[{ accessFlags := 2, nameIndex := 5, descriptorIndex := 6, attributes := #[] }, { accessFlags := 265, nameIndex := 727, descriptorIndex := 728, attributes := #[] }] 49 2 #[] #[{ accessFlags := 25, nameIndex := 507, descriptorIndex := 526, attributes := #[] }, { accessFlags := 25, nameIndex := 399, descriptorIndex := 155, attributes := #[] }, { accessFlags := 25, nameIndex := 396, descriptorIndex := 155, attributes := #[] }, { accessFlags := 10, nameIndex := 525, descriptorIndex := 526, attributes := #[] }, { accessFlags := 26, nameIndex := 674, descriptorIndex := 12, attributes := #[] }, { accessFlags := 26, nameIndex := 677, descriptorIndex := 12, attributes := #[] }, { accessFlags := 10, nameIndex := 11, descriptorIndex := 12, attributes := #[] }, { accessFlags := 74, nameIndex := 175, descriptorIndex := 176, attributes := #[] }, { accessFlags := 10, nameIndex := 491, descriptorIndex := 222, attributes := #[] }, { accessFlags := 74, nameIndex := 29, descriptorIndex := 30, attributes := #[] }, { accessFlags := 74, nameIndex := 154, descriptorIndex := 155, attributes := #[] }, { accessFlags := 10, nameIndex := 217, descriptorIndex := 218, attributes := #[] }, { accessFlags := 10, nameIndex := 221, descriptorIndex := 222, attributes := #[] }, { accessFlags := 8, nameIndex := 562, descriptorIndex := 563, attributes := #[] }])
  fields := #[{ name := "in", type := (.object "java/io/InputStream"), accessFlags := 25, slot := 0, constantValue := 0 }, { name := "out", type := (.object "java/io/PrintStream"), accessFlags := 25, slot := 1, constantValue := 0 }, { name := "err", type := (.object "java/io/PrintStream"), accessFlags := 25, slot := 2, constantValue := 0 }, { name := "initialIn", type := (.object "java/io/InputStream"), accessFlags := 10, slot := 3, constantValue := 0 }, { name := "NEVER", type := .int, accessFlags := 26, slot := 4, constantValue := 0 }, { name := "MAYBE", type := .int, accessFlags := 26, slot := 5, constantValue := 0 }, { name := "allowSecurityManager", type := .int, accessFlags := 10, slot := 6, constantValue := 0 }, { name := "security", type := (.object "java/lang/SecurityManager"), accessFlags := 74, slot := 7, constantValue := 0 }, { name := "notSupportedJnuEncoding", type := (.object "java/lang/String"), accessFlags := 10, slot := 8, constantValue := 0 }, { name := "cons", type := (.object "java/io/Console"), accessFlags := 74, slot := 9, constantValue := 0 }, { name := "initialErrStream", type := (.object "java/io/PrintStream"), accessFlags := 74, slot := 10, constantValue := 0 }, { name := "props", type := (.object "java/util/Properties"), accessFlags := 10, slot := 11, constantValue := 0 }, { name := "lineSeparator", type := (.object "java/lang/String"), accessFlags := 10, slot := 12, constantValue := 0 }, { name := "bootLayer", type := (.object "java/lang/ModuleLayer"), accessFlags := 8, slot := 13, constantValue := 0 }]
  methods := #[k6m0, k6m1]
  instanceTypes := #[]
  staticTypes := #[(.object "java/io/InputStream"), (.object "java/io/PrintStream"), (.object "java/io/PrintStream"), (.object "java/io/InputStream"), .int, .int, .int, (.object "java/lang/SecurityManager"), (.object "java/lang/String"), (.object "java/io/Console"), (.object "java/io/PrintStream"), (.object "java/util/Properties"), (.object "java/lang/String"), (.object "java/lang/ModuleLayer")]
  resolved := Array.replicate 834 none
  statics := none }

def pool7 : Array CpInfo := pool [(1, u "java/io/Serializable"), (0, .class_ 1), (0, u "java/lang/Object"), (0, .class_ 3)] 3

/-- java/io/Serializable -/
def k7 : Class := { plain "java/io/Serializable" (some 0) with
  accessFlags := 1537
  interfaces := #[]
  cf := some (fileOf pool7 2 #[] #[] 1537 4 #[] #[])
  fields := #[]
  methods := #[]
  instanceTypes := #[]
  staticTypes := #[]
  resolved := Array.replicate 8 none
  statics := none }

/-- the primitive byte -/
def k8 : Class := { plain "byte" none with kind := .primitive 'B', accessFlags := 0x411 }
/-- [B -/
def k9 : Class := { plain "[B" (some 0) with kind := .array 8 .byte, interfaces := #[4, 7], accessFlags := 1041 }

/-- the primitive int -/
def k10 : Class := { plain "int" none with kind := .primitive 'I', accessFlags := 0x411 }
/-- [I -/
def k11 : Class := { plain "[I" (some 0) with kind := .array 10 .int, interfaces := #[4, 7], accessFlags := 1041 }

def heap : Heap := #[]
def classes : Array Class := #[k0, k1, k2, k3, k4, k5, k6, k7, k8, k9, k10, k11]
def interned : List (Array UInt16 × Addr) := []
def slotsUsed : Nat := 0
def theMethod : MethodId := ⟨1, 1⟩
def args0 : Array Value := #[.int 5, .int 5, .int 5, .int 5, .int 5]
def aboutOver (below : List Frame) : State where
  vm := { classes := classes, interned := interned.toArray }
  heap := heap
  slotsUsed := slotsUsed
  threads := #[{ frames := .invoking theMethod args0 :: below }]
def below0 : List Frame := [.native { method := ⟨0, 0⟩, args := #[] }]
def about1 : State := aboutOver below0
def p0 : Program := .bare "" "" ""
def e0 : Env := launch0.env 0 0 0
theorem w_frames : about1.frames = Frame.invoking theMethod args0 :: below0 := rfl
set_option maxRecDepth 65536 in
theorem w_args : argsFit about1.vm theMethod args0 = true := by decide +kernel
set_option maxRecDepth 65536 in
theorem w_heap : heapFits about1 = true := by decide +kernel
set_option maxRecDepth 65536 in
theorem w_runnable : about1.curStatus? = some .runnable := by decide +kernel
set_option maxRecDepth 65536 in
theorem w_alone : about1.alone = true := by decide +kernel
set_option maxRecDepth 65536 in
theorem w_named : about1.methodNamed? x = some theMethod := by decide +kernel
set_option maxRecDepth 65536 in
theorem w_hears : about1.hears theMethod below0 = true := by decide +kernel
set_option maxRecDepth 65536 in
theorem w_ripe : about1.ripe theMethod args0 below0 = true := by decide +kernel
theorem w_running : about1.status = .running := rfl
set_option maxRecDepth 65536 in
theorem w_room : about1.hasRoom e0.platform room_1 = true :=
  launch0.hasRoom_least _ room_1 (by decide +kernel) (by decide +kernel) (by decide +kernel) (by decide +kernel) (by decide +kernel) (by decide +kernel)
theorem allAtoms_all (ts : List Jvm.Cond) (a : Array Jvm.Value) (st : Jvm.State) : (allAtoms ts).before a st = ts.all (fun c => c.before a st) := by
  induction ts with
  | nil => rfl
  | cons c t ih =>
    show (Jvm.Cond.and c (allAtoms t)).before a st = _
    rw [Jvm.Cond.before_and, ih, List.all_cons]
def words1 : List Jvm.Cond := Jvm.Cond.code x code maxLocals ret :: tables_1
/-- a 'code' word, met by the world's own term for the bytes: nothing is compared byte by byte -/
theorem code_word {y : MethodName} {bytes : ByteArray} {mx : Nat} {rt : Option FieldType} {a : Array Value} {s : State} {m : MethodId} {meth : Method} {c : Code} (h1 : s.methodNamed? y = some m) (h2 : s.vm.method? m = some meth) (h3 : meth.code = some c) (h4 : c.code = bytes)
    (h5 : (c.maxLocals == mx && c.exceptionTable.isEmpty && decide (c.maxStack ≤ mostOperands) && decide (meth.sig.returnType = rt) && !meth.locks && decide (parseMethodDescriptor y.desc = some meth.sig)) = true) : (Jvm.Cond.code y bytes mx rt).before a s = true := by
  simp only [Bool.and_eq_true, beq_iff_eq, Bool.not_eq_true', decide_eq_true_eq] at h5
  obtain ⟨⟨⟨⟨⟨g1, g2⟩, g3⟩, g4⟩, g5⟩, g6⟩ := h5
  simp [Cond.before, Cond.holds, Cond.value, h1, h2, h3, h4, g1, g2, g3, g4, g5, g6]
def isCode : Jvm.Cond → Bool
  | .code _ _ _ _ => true
  | _ => false
theorem all_split {L : List Jvm.Cond} {P : Jvm.Cond → Bool} (h1 : L.all (fun c => isCode c || P c) = true) (h2 : ∀ c ∈ L.filter isCode, P c = true) : L.all P = true := by
  refine List.all_eq_true.mpr fun c hc => ?_
  have h := List.all_eq_true.mp h1 c hc
  rcases Bool.eq_false_or_eq_true (isCode c) with hi | hi
  · exact h2 c (List.mem_filter.mpr ⟨hc, hi⟩)
  · simpa [hi] using h
set_option maxRecDepth 65536 in
theorem w_c0 : (Jvm.Cond.code x code maxLocals ret).before args0 about1 = true := code_word (m := ⟨1, 1⟩) (meth := k1m1) (c := k1c1) (by decide +kernel) rfl rfl rfl (by decide +kernel)
set_option maxRecDepth 65536 in
theorem w_c1 : (Jvm.Cond.code ({ cls := "com/example/exacting_validator/exactingvalidator/pattern/CodePointSets", name := "complement", desc := "([I)[I" } : Jvm.MethodName) prog_3_method_3_code (5 : Nat) (Option.some (Jvm.ClassFile.FieldType.array Jvm.ClassFile.FieldType.int))).before args0 about1 = true := code_word (m := ⟨2, 1⟩) (meth := k2m1) (c := k2c1) (by decide +kernel) rfl rfl rfl (by decide +kernel)
set_option maxRecDepth 65536 in
theorem w_c2 : (Jvm.Cond.code ({ cls := "java/util/Arrays", name := "copyOf", desc := "([II)[I" } : Jvm.MethodName) jdk_65_method_123_code (3 : Nat) (Option.some (Jvm.ClassFile.FieldType.array Jvm.ClassFile.FieldType.int))).before args0 about1 = true := code_word (m := ⟨3, 1⟩) (meth := k3m1) (c := k3c1) (by decide +kernel) rfl rfl rfl (by decide +kernel)
set_option maxRecDepth 65536 in
theorem w_c3 : (Jvm.Cond.code ({ cls := "com/example/exacting_validator/exactingvalidator/pattern/CodePointSetsComplementPinLaw", name := "same", desc := "([I[II)Z" } : Jvm.MethodName) method_3_code (3 : Nat) (Option.some Jvm.ClassFile.FieldType.boolean)).before args0 about1 = true := code_word (m := ⟨1, 2⟩) (meth := k1m2) (c := k1c2) (by decide +kernel) rfl rfl rfl (by decide +kernel)
set_option maxRecDepth 65536 in
theorem w_c4 : (Jvm.Cond.code ({ cls := "java/lang/Math", name := "min", desc := "(II)I" } : Jvm.MethodName) jdk_29_method_69_code (2 : Nat) (Option.some Jvm.ClassFile.FieldType.int)).before args0 about1 = true := code_word (m := ⟨5, 1⟩) (meth := k5m1) (c := k5c1) (by decide +kernel) rfl rfl rfl (by decide +kernel)
def codes1 : List Jvm.Cond := [Jvm.Cond.code x code maxLocals ret, Jvm.Cond.code ({ cls := "com/example/exacting_validator/exactingvalidator/pattern/CodePointSets", name := "complement", desc := "([I)[I" } : Jvm.MethodName) prog_3_method_3_code (5 : Nat) (Option.some (Jvm.ClassFile.FieldType.array Jvm.ClassFile.FieldType.int)), Jvm.Cond.code ({ cls := "java/util/Arrays", name := "copyOf", desc := "([II)[I" } : Jvm.MethodName) jdk_65_method_123_code (3 : Nat) (Option.some (Jvm.ClassFile.FieldType.array Jvm.ClassFile.FieldType.int)), Jvm.Cond.code ({ cls := "com/example/exacting_validator/exactingvalidator/pattern/CodePointSetsComplementPinLaw", name := "same", desc := "([I[II)Z" } : Jvm.MethodName) method_3_code (3 : Nat) (Option.some Jvm.ClassFile.FieldType.boolean), Jvm.Cond.code ({ cls := "java/lang/Math", name := "min", desc := "(II)I" } : Jvm.MethodName) jdk_29_method_69_code (2 : Nat) (Option.some Jvm.ClassFile.FieldType.int)]
set_option maxRecDepth 65536 in
theorem codes_eq : words1.filter isCode = codes1 := rfl
theorem w_codes : ∀ c ∈ words1.filter isCode, c.before args0 about1 = true := by
  rw [codes_eq]
  intro c hc
  simp only [codes1, List.mem_cons, List.not_mem_nil, or_false] at hc
  rcases hc with rfl | rfl | rfl | rfl | rfl
  · exact w_c0
  · exact w_c1
  · exact w_c2
  · exact w_c3
  · exact w_c4
set_option maxRecDepth 65536 in
theorem w_t1 : (words1.take 24).all (fun c => isCode c || c.before args0 about1) = true := by decide +kernel
set_option maxRecDepth 65536 in
theorem w_t2 : (words1.drop 24).all (fun c => isCode c || c.before args0 about1) = true := by decide +kernel
theorem w_tables : (allAtoms (Jvm.Cond.code x code maxLocals ret :: tables_1)).before args0 about1 = true := by
  rw [allAtoms_all]
  show words1.all (fun c => c.before args0 about1) = true
  refine all_split ?_ w_codes
  rw [← List.take_append_drop 24 words1, List.all_append, w_t1, w_t2]
  rfl
set_option maxRecDepth 65536 in
theorem w_case : (Jvm.Cond.and given_1 narrow_1).before args0 about1 = true := by decide +kernel
theorem w_applies : (headSpec (Jvm.Cond.code x code maxLocals ret :: tables_1) room_1).applies x e0.platform about1 = true :=
  (Spec.applies_iff w_frames).mpr ⟨w_running, w_runnable, w_alone, w_named, w_hears, w_ripe, w_room, w_tables⟩
theorem atStart : AtStart classFile x code maxLocals ret World_1 tables_1 room_1 Calls_1 rest_1 Pre_1 launch0 p0 e0 about1 theMethod args0 below0 :=
  ⟨lists_1, trivial, launch0.admits_env _ _ _, launch0.least_env, fairChoices_fair.cas, fairChoices_fair.clock, w_frames, w_args, w_heap, w_applies, trivial, trivial, w_case⟩
end start1
theorem witness_1 : WitnessClaimed_1 := ⟨start1.p0, start1.e0, start1.about1, start1.theMethod, start1.args0, start1.below0, start1.atStart⟩
end Jvm.Pilot.@@N@@
