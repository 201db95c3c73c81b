import JvmDerived
import JvmDerived.Pilot.@@N@@Statement
import JvmDerived.Pilot.@@N@@Code
set_option linter.unusedVariables false
set_option linter.unusedSimpArgs false
namespace Jvm.RoadKit
open Sem ClassFile Op Lib Jvm.Stand Jvm.Free Jvm.LawKit
section New
variable {p : Program} {l : Launch} {e : Env} {R : Room} {s : State} {m : MethodId} {args : Array Value} {below : List Frame} {meth : Method} {c : Code} {T : State} {locs : List Loc} {cells slots : Nat}
theorem retI (X : Stand p l e R s m args below meth c T locs cells slots) (hx : p.tables.exec = Jvm.exec) {pc : Nat} {Ls : Array Slot} {z : Int32} {rest : List Value} (hret : meth.sig.returnType = some .int) (hd : decode c.code pc = .ok (.ireturn, 1)) {fs : List Frame}
    (hl : ∀ (f : JFrame) (acts : List Action), f.method = m → f.locked = none → f.entered = [] → (doReturn e (T.setTop f) acts (some (.int z))).1 = T.setFrames fs) : Steps p.tables e below (T.setTop (mkF m pc Ls (.int z :: rest))) (T.setFrames fs) := by
  have hm' : T.vm.method? m = some meth := X.method'
  have hn : narrow .int (.int z) = .int z := rfl
  show Steps p.tables e below (T.setTop { method := m, pc := pc, locals := Ls, stack := _ :: rest, locked := none }) _
  jvm_step X.here [X.here.top, hx, hd, hm', hret, hn]
  first | (intro acts; rw [hl _ acts rfl rfl rfl]) | rw [hl _ _ rfl rfl rfl]
  exact Steps.refl _
end New
end Jvm.RoadKit
namespace Jvm.Pilot.@@N@@
open Jvm Jvm.ClassFile Sem Op Lib Jvm.Free Jvm.Stand Jvm.LawKit Jvm.RoadKit Bundle Jvm.Pilot.@@N@@.Jvm.D
section Own
variable {p : Program} {l : Launch} {e : Env} {R : Room} {s : State} {m : MethodId} {args : Array Value} {below : List Frame} {meth : Method} {c : Code} {T T' : State} {locs : List Loc} {cells slots : Nat} {Q : Option Value → Heap → List Loc → Prop} {kc ks : Nat} {pc pc' : Nat} {ls : Array Slot} {st : List Value}
/-- from T with the frame g on top the run comes to its end, as Q asks -/
def own_Ends (p : Program) (e : Env) (below : List Frame) (s : State) (Q : Option Value → Heap → List Loc → Prop) (kc ks : Nat) (T : State) (g : JFrame) : Prop :=
  ∃ s₂ o, Steps p.tables e below (T.setTop g) s₂ ∧ s₂.status = .running ∧ Ended s₂ below o ∧ ∃ v L, o = .returned v ∧ Q v s₂.heap L ∧ FrameEnd s o s₂ L kc ks
theorem own_go {g g' : JFrame} (h : ∀ t, Steps p.tables e below (T'.setTop g') t → Steps p.tables e below (T.setTop g) t) (K : own_Ends p e below s Q kc ks T' g') : own_Ends p e below s Q kc ks T g := by
  obtain ⟨s2, o, h1, r⟩ := K
  exact ⟨s2, o, h _ h1, r⟩
theorem own_cast {g g' : JFrame} (q : g = g') (K : own_Ends p e below s Q kc ks T g') : own_Ends p e below s Q kc ks T g := q ▸ K
theorem own_leave {v : Option Value} {g : JFrame} (X : Stand p l e R s m args below meth c T locs cells slots) (hlk : meth.locks = false) (hv : meth.sig.returnType = none → v = none)
    (hs : ∀ fs, (∀ (f : JFrame) (acts : List Action), f.method = m → f.locked = none → f.entered = [] → (doReturn e (T.setTop f) acts v).1 = T.setFrames fs) → Steps p.tables e below (T.setTop g) (T.setFrames fs)) (hc : cells ≤ kc) (hn : slots ≤ ks) (hQ : Q v T.heap locs) : own_Ends p e below s Q kc ks T g := by
  obtain ⟨fs, hr, hrun, hended, hW, hsame⟩ := X.leave (v := v) hv hlk
  exact ⟨_, _, hs fs hr, hrun, hended, _, _, rfl, hQ, ⟨_, rfl⟩, hW, hsame.mono hc hn⟩
theorem own_retI (X : Stand p l e R s m args below meth c T locs cells slots) (hx : p.tables.exec = Jvm.exec) (hlk : meth.locks = false) {z : Int32} (hret : meth.sig.returnType = some .int) (hd : decode c.code pc = .ok (.ireturn, 1)) (hc : cells ≤ kc) (hn : slots ≤ ks) (hQ : Q (some (.int z)) T.heap locs) : own_Ends p e below s Q kc ks T (mkF m pc ls (.int z :: st)) :=
  own_leave X hlk (fun h => by rw [hret] at h; cases h) (fun fs hr => retI X hx hret hd hr) hc hn hQ
theorem own_retN (X : Stand p l e R s m args below meth c T locs cells slots) (hx : p.tables.exec = Jvm.exec) (hlk : meth.locks = false) {z : Int32} {ty : FieldType} (hret : meth.sig.returnType = some ty) (ht : ty = .boolean ∨ ty = .byte ∨ ty = .char ∨ ty = .short) (hd : decode c.code pc = .ok (.ireturn, 1)) (hc : cells ≤ kc) (hn : slots ≤ ks) (hQ : Q (some (.int (nar ty z))) T.heap locs) : own_Ends p e below s Q kc ks T (mkF m pc ls (.int z :: st)) :=
  own_leave X hlk (fun h => by rw [hret] at h; cases h) (fun fs hr => retN X hx (t := ty) hret ht hd hr) hc hn hQ
theorem own_retL (X : Stand p l e R s m args below meth c T locs cells slots) (hx : p.tables.exec = Jvm.exec) (hlk : meth.locks = false) {z : Int64} (hret : meth.sig.returnType = some .long) (hd : decode c.code pc = .ok (.lreturn, 1)) (hc : cells ≤ kc) (hn : slots ≤ ks) (hQ : Q (some (.long z)) T.heap locs) : own_Ends p e below s Q kc ks T (mkF m pc ls [.long z]) :=
  own_leave X hlk (fun h => by rw [hret] at h; cases h) (fun fs hr => retOut X hx (t := .long) hret rfl (Or.inr (Or.inl ⟨rfl, rfl, _, rfl⟩)) hd hr) hc hn hQ
theorem own_retD (X : Stand p l e R s m args below meth c T locs cells slots) (hx : p.tables.exec = Jvm.exec) (hlk : meth.locks = false) {z : UInt64} (hret : meth.sig.returnType = some .double) (hd : decode c.code pc = .ok (.dreturn, 1)) (hc : cells ≤ kc) (hn : slots ≤ ks) (hQ : Q (some (.double z)) T.heap locs) : own_Ends p e below s Q kc ks T (mkF m pc ls [.double z]) :=
  own_leave X hlk (fun h => by rw [hret] at h; cases h) (fun fs hr => retOut X hx (t := .double) hret rfl (Or.inr (Or.inr (Or.inl ⟨rfl, rfl, _, rfl⟩))) hd hr) hc hn hQ
theorem own_retA (X : Stand p l e R s m args below meth c T locs cells slots) (hx : p.tables.exec = Jvm.exec) (hlk : meth.locks = false) {w : Value} {ty : FieldType} (hret : meth.sig.returnType = some ty) (ht : ty.isReference = true) (hw : w.isRef = true) (hn1 : narrow ty w = w) (hd : decode c.code pc = .ok (.areturn, 1)) (hc : cells ≤ kc) (hn : slots ≤ ks) (hQ : Q (some w) T.heap locs) : own_Ends p e below s Q kc ks T (mkF m pc ls (w :: st)) :=
  own_leave X hlk (fun h => by rw [hret] at h; cases h) (fun fs hr => retOut X hx (t := ty) hret hn1 (Or.inr (Or.inr (Or.inr (Or.inr ⟨rfl, ht, hw⟩)))) hd hr) hc hn hQ
theorem own_retV (X : Stand p l e R s m args below meth c T locs cells slots) (hx : p.tables.exec = Jvm.exec) (hlk : meth.locks = false) (hret : meth.sig.returnType = none) (hd : decode c.code pc = .ok (.return_, 1)) (hc : cells ≤ kc) (hn : slots ≤ ks) (hQ : Q none T.heap locs) : own_Ends p e below s Q kc ks T (mkF m pc ls []) :=
  own_leave X hlk (fun _ => rfl) (fun fs hr => X.returnOut hx hret hd hr) hc hn hQ
theorem own_iloadN (X : Stand p l e R s m args below meth c T locs cells slots) (hx : p.tables.exec = Jvm.exec) {k : Fin 4} {v : Int32} (hd : decode c.code pc = .ok (.iload_n k, 1)) (hp : pc + 1 = pc') (hl : ls[k.val]? = some (.val (.int v))) (K : own_Ends p e below s Q kc ks T (mkF m pc' ls (.int v :: st))) : own_Ends p e below s Q kc ks T (mkF m pc ls st) := by
  subst hp
  exact own_go (fun t k => XS.iloadN X.here hx rfl hd hl k) K
theorem own_iload (X : Stand p l e R s m args below meth c T locs cells slots) (hx : p.tables.exec = Jvm.exec) {k : Nat} {v : Int32} (hd : decode c.code pc = .ok (.iload k, 2)) (hp : pc + 2 = pc') (hl : ls[k]? = some (.val (.int v))) (K : own_Ends p e below s Q kc ks T (mkF m pc' ls (.int v :: st))) : own_Ends p e below s Q kc ks T (mkF m pc ls st) := by
  subst hp
  exact own_go (fun t k => XS.iload X.here hx rfl hd hl k) K
theorem own_istoreN (X : Stand p l e R s m args below meth c T locs cells slots) (hx : p.tables.exec = Jvm.exec) {k : Fin 4} {v : Int32} {l' : Array Slot} (hd : decode c.code pc = .ok (.istore_n k, 1)) (hp : pc + 1 = pc') (hl : storeLocals ls k.val (.int v) = some l') (K : own_Ends p e below s Q kc ks T (mkF m pc' l' st)) : own_Ends p e below s Q kc ks T (mkF m pc ls (.int v :: st)) := by
  subst hp
  exact own_go (fun t k => XS.istoreN X.here hx rfl hd rfl hl k) K
theorem own_istore (X : Stand p l e R s m args below meth c T locs cells slots) (hx : p.tables.exec = Jvm.exec) {k : Nat} {v : Int32} {l' : Array Slot} (hd : decode c.code pc = .ok (.istore k, 2)) (hp : pc + 2 = pc') (hl : storeLocals ls k (.int v) = some l') (K : own_Ends p e below s Q kc ks T (mkF m pc' l' st)) : own_Ends p e below s Q kc ks T (mkF m pc ls (.int v :: st)) := by
  subst hp
  exact own_go (fun t k => XS.istore X.here hx rfl hd rfl hl k) K
theorem own_lloadN (X : Stand p l e R s m args below meth c T locs cells slots) (hx : p.tables.exec = Jvm.exec) {k : Fin 4} {v : Int64} (hd : decode c.code pc = .ok (.lload_n k, 1)) (hp : pc + 1 = pc') (hl : ls[k.val]? = some (.val (.long v))) (K : own_Ends p e below s Q kc ks T (mkF m pc' ls (.long v :: st))) : own_Ends p e below s Q kc ks T (mkF m pc ls st) := by
  subst hp
  exact own_go (fun t k => XS.lloadN X.here hx rfl hd hl k) K
theorem own_lload (X : Stand p l e R s m args below meth c T locs cells slots) (hx : p.tables.exec = Jvm.exec) {k : Nat} {v : Int64} (hd : decode c.code pc = .ok (.lload k, 2)) (hp : pc + 2 = pc') (hl : ls[k]? = some (.val (.long v))) (K : own_Ends p e below s Q kc ks T (mkF m pc' ls (.long v :: st))) : own_Ends p e below s Q kc ks T (mkF m pc ls st) := by
  subst hp
  exact own_go (fun t k => XS.lload X.here hx rfl hd hl k) K
theorem own_lstoreN (X : Stand p l e R s m args below meth c T locs cells slots) (hx : p.tables.exec = Jvm.exec) {k : Fin 4} {v : Int64} {l' : Array Slot} (hd : decode c.code pc = .ok (.lstore_n k, 1)) (hp : pc + 1 = pc') (hl : storeLocals ls k.val (.long v) = some l') (K : own_Ends p e below s Q kc ks T (mkF m pc' l' st)) : own_Ends p e below s Q kc ks T (mkF m pc ls (.long v :: st)) := by
  subst hp
  exact own_go (fun t k => XS.lstoreN X.here hx rfl hd rfl hl k) K
theorem own_lstore (X : Stand p l e R s m args below meth c T locs cells slots) (hx : p.tables.exec = Jvm.exec) {k : Nat} {v : Int64} {l' : Array Slot} (hd : decode c.code pc = .ok (.lstore k, 2)) (hp : pc + 2 = pc') (hl : storeLocals ls k (.long v) = some l') (K : own_Ends p e below s Q kc ks T (mkF m pc' l' st)) : own_Ends p e below s Q kc ks T (mkF m pc ls (.long v :: st)) := by
  subst hp
  exact own_go (fun t k => XS.lstore X.here hx rfl hd rfl hl k) K
theorem own_dloadN (X : Stand p l e R s m args below meth c T locs cells slots) (hx : p.tables.exec = Jvm.exec) {k : Fin 4} {v : UInt64} (hd : decode c.code pc = .ok (.dload_n k, 1)) (hp : pc + 1 = pc') (hl : ls[k.val]? = some (.val (.double v))) (K : own_Ends p e below s Q kc ks T (mkF m pc' ls (.double v :: st))) : own_Ends p e below s Q kc ks T (mkF m pc ls st) := by
  subst hp
  exact own_go (fun t k => XS.dloadN X.here hx rfl hd hl k) K
theorem own_dload (X : Stand p l e R s m args below meth c T locs cells slots) (hx : p.tables.exec = Jvm.exec) {k : Nat} {v : UInt64} (hd : decode c.code pc = .ok (.dload k, 2)) (hp : pc + 2 = pc') (hl : ls[k]? = some (.val (.double v))) (K : own_Ends p e below s Q kc ks T (mkF m pc' ls (.double v :: st))) : own_Ends p e below s Q kc ks T (mkF m pc ls st) := by
  subst hp
  exact own_go (fun t k => XS.dload X.here hx rfl hd hl k) K
theorem own_dstoreN (X : Stand p l e R s m args below meth c T locs cells slots) (hx : p.tables.exec = Jvm.exec) {k : Fin 4} {v : UInt64} {l' : Array Slot} (hd : decode c.code pc = .ok (.dstore_n k, 1)) (hp : pc + 1 = pc') (hl : storeLocals ls k.val (.double v) = some l') (K : own_Ends p e below s Q kc ks T (mkF m pc' l' st)) : own_Ends p e below s Q kc ks T (mkF m pc ls (.double v :: st)) := by
  subst hp
  exact own_go (fun t k => XS.dstoreN X.here hx rfl hd rfl hl k) K
theorem own_dstore (X : Stand p l e R s m args below meth c T locs cells slots) (hx : p.tables.exec = Jvm.exec) {k : Nat} {v : UInt64} {l' : Array Slot} (hd : decode c.code pc = .ok (.dstore k, 2)) (hp : pc + 2 = pc') (hl : storeLocals ls k (.double v) = some l') (K : own_Ends p e below s Q kc ks T (mkF m pc' l' st)) : own_Ends p e below s Q kc ks T (mkF m pc ls (.double v :: st)) := by
  subst hp
  exact own_go (fun t k => XS.dstore X.here hx rfl hd rfl hl k) K
theorem own_aloadN (X : Stand p l e R s m args below meth c T locs cells slots) (hx : p.tables.exec = Jvm.exec) {k : Fin 4} {v : Value} (hd : decode c.code pc = .ok (.aload_n k, 1)) (hp : pc + 1 = pc') (hl : ls[k.val]? = some (.val v)) (hv : v.isRef = true) (K : own_Ends p e below s Q kc ks T (mkF m pc' ls (v :: st))) : own_Ends p e below s Q kc ks T (mkF m pc ls st) := by
  subst hp
  exact own_go (fun t k => XS.aloadN X.here hx rfl hd hl hv k) K
theorem own_aload (X : Stand p l e R s m args below meth c T locs cells slots) (hx : p.tables.exec = Jvm.exec) {k : Nat} {v : Value} (hd : decode c.code pc = .ok (.aload k, 2)) (hp : pc + 2 = pc') (hl : ls[k]? = some (.val v)) (hv : v.isRef = true) (K : own_Ends p e below s Q kc ks T (mkF m pc' ls (v :: st))) : own_Ends p e below s Q kc ks T (mkF m pc ls st) := by
  subst hp
  exact own_go (fun t k => XS.aload X.here hx rfl hd hl hv k) K
theorem own_astoreN (X : Stand p l e R s m args below meth c T locs cells slots) (hx : p.tables.exec = Jvm.exec) {k : Fin 4} {v : Value} {l' : Array Slot} (hd : decode c.code pc = .ok (.astore_n k, 1)) (hp : pc + 1 = pc') (hv : v.isRef = true) (hl : storeLocals ls k.val v = some l') (K : own_Ends p e below s Q kc ks T (mkF m pc' l' st)) : own_Ends p e below s Q kc ks T (mkF m pc ls (v :: st)) := by
  subst hp
  exact own_go (fun t k => XS.astoreN X.here hx rfl hd rfl hv hl k) K
theorem own_astore (X : Stand p l e R s m args below meth c T locs cells slots) (hx : p.tables.exec = Jvm.exec) {k : Nat} {v : Value} {l' : Array Slot} (hd : decode c.code pc = .ok (.astore k, 2)) (hp : pc + 2 = pc') (hv : v.isRef = true) (hl : storeLocals ls k v = some l') (K : own_Ends p e below s Q kc ks T (mkF m pc' l' st)) : own_Ends p e below s Q kc ks T (mkF m pc ls (v :: st)) := by
  subst hp
  exact own_go (fun t k => XS.astore X.here hx rfl hd rfl hv hl k) K
theorem own_iconst (X : Stand p l e R s m args below meth c T locs cells slots) (hx : p.tables.exec = Jvm.exec) {i : Int} {z : Int32} (hd : decode c.code pc = .ok (.iconst i, 1)) (hp : pc + 1 = pc') (hz : Int32.ofInt i = z) (K : own_Ends p e below s Q kc ks T (mkF m pc' ls (.int z :: st))) : own_Ends p e below s Q kc ks T (mkF m pc ls st) := by
  subst hp hz
  exact own_go (fun t k => XS.iconst X.here hx rfl hd k) K
theorem own_bipush (X : Stand p l e R s m args below meth c T locs cells slots) (hx : p.tables.exec = Jvm.exec) {i : Int} {z : Int32} (hd : decode c.code pc = .ok (.bipush i, 2)) (hp : pc + 2 = pc') (hz : (Int8.ofInt i).toInt32 = z) (K : own_Ends p e below s Q kc ks T (mkF m pc' ls (.int z :: st))) : own_Ends p e below s Q kc ks T (mkF m pc ls st) := by
  subst hp hz
  exact own_go (fun t k => XS.bipush X.here hx rfl hd k) K
theorem own_sipush (X : Stand p l e R s m args below meth c T locs cells slots) (hx : p.tables.exec = Jvm.exec) {i : Int} {z : Int32} (hd : decode c.code pc = .ok (.sipush i, 3)) (hp : pc + 3 = pc') (hz : (Int16.ofInt i).toInt32 = z) (K : own_Ends p e below s Q kc ks T (mkF m pc' ls (.int z :: st))) : own_Ends p e below s Q kc ks T (mkF m pc ls st) := by
  subst hp hz
  exact own_go (fun t k => XS.sipush X.here hx rfl hd k) K
theorem own_lconst (X : Stand p l e R s m args below meth c T locs cells slots) (hx : p.tables.exec = Jvm.exec) {k : Fin 2} {z : Int64} (hd : decode c.code pc = .ok (.lconst k, 1)) (hp : pc + 1 = pc') (hz : Int64.ofNat k = z) (K : own_Ends p e below s Q kc ks T (mkF m pc' ls (.long z :: st))) : own_Ends p e below s Q kc ks T (mkF m pc ls st) := by
  subst hp hz
  exact own_go (fun t k => XS.lconst X.here hx rfl hd k) K
theorem own_anull (X : Stand p l e R s m args below meth c T locs cells slots) (hx : p.tables.exec = Jvm.exec) (hd : decode c.code pc = .ok (.aconst_null, 1)) (hp : pc + 1 = pc')  (K : own_Ends p e below s Q kc ks T (mkF m pc' ls (.null :: st))) : own_Ends p e below s Q kc ks T (mkF m pc ls st) := by
  subst hp
  exact own_go (fun t k => XS.aconstNull X.here hx rfl hd k) K
theorem own_iadd (X : Stand p l e R s m args below meth c T locs cells slots) (hx : p.tables.exec = Jvm.exec) {x y z : Int32} (hd : decode c.code pc = .ok (.iadd, 1)) (hp : pc + 1 = pc') (hz : x + y = z) (K : own_Ends p e below s Q kc ks T (mkF m pc' ls (.int z :: st))) : own_Ends p e below s Q kc ks T (mkF m pc ls (.int y :: .int x :: st)) := by
  subst hp hz
  exact own_go (fun t k => XS.iadd X.here hx rfl hd rfl k) K
theorem own_ladd (X : Stand p l e R s m args below meth c T locs cells slots) (hx : p.tables.exec = Jvm.exec) {x y z : Int64} (hd : decode c.code pc = .ok (.ladd, 1)) (hp : pc + 1 = pc') (hz : x + y = z) (K : own_Ends p e below s Q kc ks T (mkF m pc' ls (.long z :: st))) : own_Ends p e below s Q kc ks T (mkF m pc ls (.long y :: .long x :: st)) := by
  subst hp hz
  exact own_go (fun t k => XS.ladd X.here hx rfl hd rfl k) K
theorem own_isub (X : Stand p l e R s m args below meth c T locs cells slots) (hx : p.tables.exec = Jvm.exec) {x y z : Int32} (hd : decode c.code pc = .ok (.isub, 1)) (hp : pc + 1 = pc') (hz : x - y = z) (K : own_Ends p e below s Q kc ks T (mkF m pc' ls (.int z :: st))) : own_Ends p e below s Q kc ks T (mkF m pc ls (.int y :: .int x :: st)) := by
  subst hp hz
  exact own_go (fun t k => XS.isub X.here hx rfl hd rfl k) K
theorem own_lsub (X : Stand p l e R s m args below meth c T locs cells slots) (hx : p.tables.exec = Jvm.exec) {x y z : Int64} (hd : decode c.code pc = .ok (.lsub, 1)) (hp : pc + 1 = pc') (hz : x - y = z) (K : own_Ends p e below s Q kc ks T (mkF m pc' ls (.long z :: st))) : own_Ends p e below s Q kc ks T (mkF m pc ls (.long y :: .long x :: st)) := by
  subst hp hz
  exact own_go (fun t k => XS.lsub X.here hx rfl hd rfl k) K
theorem own_imul (X : Stand p l e R s m args below meth c T locs cells slots) (hx : p.tables.exec = Jvm.exec) {x y z : Int32} (hd : decode c.code pc = .ok (.imul, 1)) (hp : pc + 1 = pc') (hz : x * y = z) (K : own_Ends p e below s Q kc ks T (mkF m pc' ls (.int z :: st))) : own_Ends p e below s Q kc ks T (mkF m pc ls (.int y :: .int x :: st)) := by
  subst hp hz
  exact own_go (fun t k => XS.imul X.here hx rfl hd rfl k) K
theorem own_lmul (X : Stand p l e R s m args below meth c T locs cells slots) (hx : p.tables.exec = Jvm.exec) {x y z : Int64} (hd : decode c.code pc = .ok (.lmul, 1)) (hp : pc + 1 = pc') (hz : x * y = z) (K : own_Ends p e below s Q kc ks T (mkF m pc' ls (.long z :: st))) : own_Ends p e below s Q kc ks T (mkF m pc ls (.long y :: .long x :: st)) := by
  subst hp hz
  exact own_go (fun t k => XS.lmul X.here hx rfl hd rfl k) K
theorem own_iand (X : Stand p l e R s m args below meth c T locs cells slots) (hx : p.tables.exec = Jvm.exec) {x y z : Int32} (hd : decode c.code pc = .ok (.iand, 1)) (hp : pc + 1 = pc') (hz : x &&& y = z) (K : own_Ends p e below s Q kc ks T (mkF m pc' ls (.int z :: st))) : own_Ends p e below s Q kc ks T (mkF m pc ls (.int y :: .int x :: st)) := by
  subst hp hz
  exact own_go (fun t k => XS.iand X.here hx rfl hd rfl k) K
theorem own_land (X : Stand p l e R s m args below meth c T locs cells slots) (hx : p.tables.exec = Jvm.exec) {x y z : Int64} (hd : decode c.code pc = .ok (.land, 1)) (hp : pc + 1 = pc') (hz : x &&& y = z) (K : own_Ends p e below s Q kc ks T (mkF m pc' ls (.long z :: st))) : own_Ends p e below s Q kc ks T (mkF m pc ls (.long y :: .long x :: st)) := by
  subst hp hz
  exact own_go (fun t k => XS.land X.here hx rfl hd rfl k) K
theorem own_ior (X : Stand p l e R s m args below meth c T locs cells slots) (hx : p.tables.exec = Jvm.exec) {x y z : Int32} (hd : decode c.code pc = .ok (.ior, 1)) (hp : pc + 1 = pc') (hz : x ||| y = z) (K : own_Ends p e below s Q kc ks T (mkF m pc' ls (.int z :: st))) : own_Ends p e below s Q kc ks T (mkF m pc ls (.int y :: .int x :: st)) := by
  subst hp hz
  exact own_go (fun t k => XS.ior X.here hx rfl hd rfl k) K
theorem own_lor (X : Stand p l e R s m args below meth c T locs cells slots) (hx : p.tables.exec = Jvm.exec) {x y z : Int64} (hd : decode c.code pc = .ok (.lor, 1)) (hp : pc + 1 = pc') (hz : x ||| y = z) (K : own_Ends p e below s Q kc ks T (mkF m pc' ls (.long z :: st))) : own_Ends p e below s Q kc ks T (mkF m pc ls (.long y :: .long x :: st)) := by
  subst hp hz
  exact own_go (fun t k => XS.lor X.here hx rfl hd rfl k) K
theorem own_ixor (X : Stand p l e R s m args below meth c T locs cells slots) (hx : p.tables.exec = Jvm.exec) {x y z : Int32} (hd : decode c.code pc = .ok (.ixor, 1)) (hp : pc + 1 = pc') (hz : x ^^^ y = z) (K : own_Ends p e below s Q kc ks T (mkF m pc' ls (.int z :: st))) : own_Ends p e below s Q kc ks T (mkF m pc ls (.int y :: .int x :: st)) := by
  subst hp hz
  exact own_go (fun t k => XS.ixor X.here hx rfl hd rfl k) K
theorem own_lxor (X : Stand p l e R s m args below meth c T locs cells slots) (hx : p.tables.exec = Jvm.exec) {x y z : Int64} (hd : decode c.code pc = .ok (.lxor, 1)) (hp : pc + 1 = pc') (hz : x ^^^ y = z) (K : own_Ends p e below s Q kc ks T (mkF m pc' ls (.long z :: st))) : own_Ends p e below s Q kc ks T (mkF m pc ls (.long y :: .long x :: st)) := by
  subst hp hz
  exact own_go (fun t k => XS.lxor X.here hx rfl hd rfl k) K
theorem own_ishl (X : Stand p l e R s m args below meth c T locs cells slots) (hx : p.tables.exec = Jvm.exec) {x y z : Int32} (hd : decode c.code pc = .ok (.ishl, 1)) (hp : pc + 1 = pc') (hz : x <<< (y &&& 31) = z) (K : own_Ends p e below s Q kc ks T (mkF m pc' ls (.int z :: st))) : own_Ends p e below s Q kc ks T (mkF m pc ls (.int y :: .int x :: st)) := by
  subst hp hz
  exact own_go (fun t k => XS.ishl X.here hx rfl hd rfl k) K
theorem own_ishr (X : Stand p l e R s m args below meth c T locs cells slots) (hx : p.tables.exec = Jvm.exec) {x y z : Int32} (hd : decode c.code pc = .ok (.ishr, 1)) (hp : pc + 1 = pc') (hz : x >>> (y &&& 31) = z) (K : own_Ends p e below s Q kc ks T (mkF m pc' ls (.int z :: st))) : own_Ends p e below s Q kc ks T (mkF m pc ls (.int y :: .int x :: st)) := by
  subst hp hz
  exact own_go (fun t k => XS.ishr X.here hx rfl hd rfl k) K
theorem own_iushr (X : Stand p l e R s m args below meth c T locs cells slots) (hx : p.tables.exec = Jvm.exec) {x y z : Int32} (hd : decode c.code pc = .ok (.iushr, 1)) (hp : pc + 1 = pc') (hz : (x.toUInt32 >>> (y &&& 31).toUInt32).toInt32 = z) (K : own_Ends p e below s Q kc ks T (mkF m pc' ls (.int z :: st))) : own_Ends p e below s Q kc ks T (mkF m pc ls (.int y :: .int x :: st)) := by
  subst hp hz
  exact own_go (fun t k => XS.iushr X.here hx rfl hd rfl k) K
theorem own_lshl (X : Stand p l e R s m args below meth c T locs cells slots) (hx : p.tables.exec = Jvm.exec) {x z : Int64} {y : Int32} (hd : decode c.code pc = .ok (.lshl, 1)) (hp : pc + 1 = pc') (hz : x <<< (y &&& 0x3f).toInt64 = z) (K : own_Ends p e below s Q kc ks T (mkF m pc' ls (.long z :: st))) : own_Ends p e below s Q kc ks T (mkF m pc ls (.int y :: .long x :: st)) := by
  subst hp hz
  exact own_go (fun t k => XS.lshl X.here hx rfl hd rfl k) K
theorem own_lshr (X : Stand p l e R s m args below meth c T locs cells slots) (hx : p.tables.exec = Jvm.exec) {x z : Int64} {y : Int32} (hd : decode c.code pc = .ok (.lshr, 1)) (hp : pc + 1 = pc') (hz : x >>> (y &&& 0x3f).toInt64 = z) (K : own_Ends p e below s Q kc ks T (mkF m pc' ls (.long z :: st))) : own_Ends p e below s Q kc ks T (mkF m pc ls (.int y :: .long x :: st)) := by
  subst hp hz
  exact own_go (fun t k => XS.lshr X.here hx rfl hd rfl k) K
theorem own_lushr (X : Stand p l e R s m args below meth c T locs cells slots) (hx : p.tables.exec = Jvm.exec) {x z : Int64} {y : Int32} (hd : decode c.code pc = .ok (.lushr, 1)) (hp : pc + 1 = pc') (hz : (x.toUInt64 >>> (y &&& 0x3f).toInt64.toUInt64).toInt64 = z) (K : own_Ends p e below s Q kc ks T (mkF m pc' ls (.long z :: st))) : own_Ends p e below s Q kc ks T (mkF m pc ls (.int y :: .long x :: st)) := by
  subst hp hz
  exact own_go (fun t k => XS.lushr X.here hx rfl hd rfl k) K
theorem own_idiv (X : Stand p l e R s m args below meth c T locs cells slots) (hx : p.tables.exec = Jvm.exec) {x y z : Int32} (hd : decode c.code pc = .ok (.idiv, 1)) (hp : pc + 1 = pc') (hy : y ≠ 0) (hz : x / y = z) (K : own_Ends p e below s Q kc ks T (mkF m pc' ls (.int z :: st))) : own_Ends p e below s Q kc ks T (mkF m pc ls (.int y :: .int x :: st)) := by
  subst hp hz
  exact own_go (fun t k => XS.idiv X.here hx rfl hd rfl hy k) K
theorem own_irem (X : Stand p l e R s m args below meth c T locs cells slots) (hx : p.tables.exec = Jvm.exec) {x y z : Int32} (hd : decode c.code pc = .ok (.irem, 1)) (hp : pc + 1 = pc') (hy : y ≠ 0) (hz : x % y = z) (K : own_Ends p e below s Q kc ks T (mkF m pc' ls (.int z :: st))) : own_Ends p e below s Q kc ks T (mkF m pc ls (.int y :: .int x :: st)) := by
  subst hp hz
  exact own_go (fun t k => iremM (g := mkF m pc ls (.int y :: .int x :: st)) X hx rfl hd rfl hy k) K
theorem own_ldiv (X : Stand p l e R s m args below meth c T locs cells slots) (hx : p.tables.exec = Jvm.exec) {x y z : Int64} (hd : decode c.code pc = .ok (.ldiv, 1)) (hp : pc + 1 = pc') (hy : y ≠ 0) (hz : x / y = z) (K : own_Ends p e below s Q kc ks T (mkF m pc' ls (.long z :: st))) : own_Ends p e below s Q kc ks T (mkF m pc ls (.long y :: .long x :: st)) := by
  subst hp hz
  exact own_go (fun t k => XS.ldiv X.here hx rfl hd rfl hy k) K
theorem own_lrem (X : Stand p l e R s m args below meth c T locs cells slots) (hx : p.tables.exec = Jvm.exec) {x y z : Int64} (hd : decode c.code pc = .ok (.lrem, 1)) (hp : pc + 1 = pc') (hy : y ≠ 0) (hz : x - (x / y) * y = z) (K : own_Ends p e below s Q kc ks T (mkF m pc' ls (.long z :: st))) : own_Ends p e below s Q kc ks T (mkF m pc ls (.long y :: .long x :: st)) := by
  subst hp hz
  exact own_go (fun t k => XS.lrem X.here hx rfl hd rfl hy k) K
theorem own_ineg (X : Stand p l e R s m args below meth c T locs cells slots) (hx : p.tables.exec = Jvm.exec) {x : Int32} {z : Int32} (hd : decode c.code pc = .ok (.ineg, 1)) (hp : pc + 1 = pc') (hz : -x = z) (K : own_Ends p e below s Q kc ks T (mkF m pc' ls (.int z :: st))) : own_Ends p e below s Q kc ks T (mkF m pc ls (.int x :: st)) := by
  subst hp hz
  exact own_go (fun t k => XS.ineg X.here hx rfl hd rfl k) K
theorem own_lneg (X : Stand p l e R s m args below meth c T locs cells slots) (hx : p.tables.exec = Jvm.exec) {x : Int64} {z : Int64} (hd : decode c.code pc = .ok (.lneg, 1)) (hp : pc + 1 = pc') (hz : -x = z) (K : own_Ends p e below s Q kc ks T (mkF m pc' ls (.long z :: st))) : own_Ends p e below s Q kc ks T (mkF m pc ls (.long x :: st)) := by
  subst hp hz
  exact own_go (fun t k => XS.lneg X.here hx rfl hd rfl k) K
theorem own_i2l (X : Stand p l e R s m args below meth c T locs cells slots) (hx : p.tables.exec = Jvm.exec) {x : Int32} {z : Int64} (hd : decode c.code pc = .ok (.i2l, 1)) (hp : pc + 1 = pc') (hz : x.toInt64 = z) (K : own_Ends p e below s Q kc ks T (mkF m pc' ls (.long z :: st))) : own_Ends p e below s Q kc ks T (mkF m pc ls (.int x :: st)) := by
  subst hp hz
  exact own_go (fun t k => XS.i2l X.here hx rfl hd rfl k) K
theorem own_l2i (X : Stand p l e R s m args below meth c T locs cells slots) (hx : p.tables.exec = Jvm.exec) {x : Int64} {z : Int32} (hd : decode c.code pc = .ok (.l2i, 1)) (hp : pc + 1 = pc') (hz : x.toInt32 = z) (K : own_Ends p e below s Q kc ks T (mkF m pc' ls (.int z :: st))) : own_Ends p e below s Q kc ks T (mkF m pc ls (.long x :: st)) := by
  subst hp hz
  exact own_go (fun t k => XS.l2i X.here hx rfl hd rfl k) K
theorem own_i2b (X : Stand p l e R s m args below meth c T locs cells slots) (hx : p.tables.exec = Jvm.exec) {x : Int32} {z : Int32} (hd : decode c.code pc = .ok (.i2b, 1)) (hp : pc + 1 = pc') (hz : x.toInt8.toInt32 = z) (K : own_Ends p e below s Q kc ks T (mkF m pc' ls (.int z :: st))) : own_Ends p e below s Q kc ks T (mkF m pc ls (.int x :: st)) := by
  subst hp hz
  exact own_go (fun t k => XS.i2b X.here hx rfl hd rfl k) K
theorem own_i2s (X : Stand p l e R s m args below meth c T locs cells slots) (hx : p.tables.exec = Jvm.exec) {x : Int32} {z : Int32} (hd : decode c.code pc = .ok (.i2s, 1)) (hp : pc + 1 = pc') (hz : x.toInt16.toInt32 = z) (K : own_Ends p e below s Q kc ks T (mkF m pc' ls (.int z :: st))) : own_Ends p e below s Q kc ks T (mkF m pc ls (.int x :: st)) := by
  subst hp hz
  exact own_go (fun t k => XS.i2s X.here hx rfl hd rfl k) K
theorem own_i2c (X : Stand p l e R s m args below meth c T locs cells slots) (hx : p.tables.exec = Jvm.exec) {x : Int32} {z : Int32} (hd : decode c.code pc = .ok (.i2c, 1)) (hp : pc + 1 = pc') (hz : x.toUInt32.toUInt16.toUInt32.toInt32 = z) (K : own_Ends p e below s Q kc ks T (mkF m pc' ls (.int z :: st))) : own_Ends p e below s Q kc ks T (mkF m pc ls (.int x :: st)) := by
  subst hp hz
  exact own_go (fun t k => XS.i2c X.here hx rfl hd rfl k) K
theorem own_i2d (X : Stand p l e R s m args below meth c T locs cells slots) (hx : p.tables.exec = Jvm.exec) {x : Int32} {z : UInt64} (hd : decode c.code pc = .ok (.i2d, 1)) (hp : pc + 1 = pc') (hz : FP.i2d x = z) (K : own_Ends p e below s Q kc ks T (mkF m pc' ls (.double z :: st))) : own_Ends p e below s Q kc ks T (mkF m pc ls (.int x :: st)) := by
  subst hp hz
  exact own_go (fun t k => XS.i2dS (g := mkF m pc ls (.int x :: st)) X.here hx rfl hd rfl rfl k) K
theorem own_dadd (X : Stand p l e R s m args below meth c T locs cells slots) (hx : p.tables.exec = Jvm.exec) {x y z : UInt64} (hd : decode c.code pc = .ok (.dadd, 1)) (hp : pc + 1 = pc') (hn : Jvm.Free.Fl.NoNaN64 (FP.dadd x y)) (hz : FP.dadd x y = z) (K : own_Ends p e below s Q kc ks T (mkF m pc' ls (.double z :: st))) : own_Ends p e below s Q kc ks T (mkF m pc ls (.double y :: .double x :: st)) := by
  subst hp hz
  exact own_go (fun t k => XS.daddS (g := mkF m pc ls (.double y :: .double x :: st)) X.here hx rfl hd rfl hn rfl k) K
theorem own_dmul (X : Stand p l e R s m args below meth c T locs cells slots) (hx : p.tables.exec = Jvm.exec) {x y z : UInt64} (hd : decode c.code pc = .ok (.dmul, 1)) (hp : pc + 1 = pc') (hn : Jvm.Free.Fl.NoNaN64 (FP.dmul x y)) (hz : FP.dmul x y = z) (K : own_Ends p e below s Q kc ks T (mkF m pc' ls (.double z :: st))) : own_Ends p e below s Q kc ks T (mkF m pc ls (.double y :: .double x :: st)) := by
  subst hp hz
  exact own_go (fun t k => XS.dmulS (g := mkF m pc ls (.double y :: .double x :: st)) X.here hx rfl hd rfl hn rfl k) K
theorem own_dcmp (X : Stand p l e R s m args below meth c T locs cells slots) (hx : p.tables.exec = Jvm.exec) {o : CmpOp} {x y : UInt64} {z : Int32} (hd : decode c.code pc = .ok (.dcmp o, 1)) (hp : pc + 1 = pc') (hz : cmpValue (FP.dcmp x y) o = z) (K : own_Ends p e below s Q kc ks T (mkF m pc' ls (.int z :: st))) : own_Ends p e below s Q kc ks T (mkF m pc ls (.double y :: .double x :: st)) := by
  subst hp hz
  exact own_go (fun t k => XS.dcmpS (g := mkF m pc ls (.double y :: .double x :: st)) X.here hx rfl hd rfl rfl k) K
theorem own_lcmp (X : Stand p l e R s m args below meth c T locs cells slots) (hx : p.tables.exec = Jvm.exec) {x y : Int64} {z : Int32} (hd : decode c.code pc = .ok (.lcmp, 1)) (hp : pc + 1 = pc') (hz : lcmpW x y = z) (K : own_Ends p e below s Q kc ks T (mkF m pc' ls (.int z :: st))) : own_Ends p e below s Q kc ks T (mkF m pc ls (.long y :: .long x :: st)) := by
  subst hp hz
  exact own_go (fun t k => XS.lcmp X.here hx rfl hd rfl k) K
theorem own_pop (X : Stand p l e R s m args below meth c T locs cells slots) (hx : p.tables.exec = Jvm.exec) {v : Value} (hd : decode c.code pc = .ok (.pop, 1)) (hp : pc + 1 = pc') (hc : v.category = 1) (K : own_Ends p e below s Q kc ks T (mkF m pc' ls st)) : own_Ends p e below s Q kc ks T (mkF m pc ls (v :: st)) := by
  subst hp
  exact own_go (fun t k => XS.pop X.here hx rfl hd rfl hc k) K
theorem own_dup (X : Stand p l e R s m args below meth c T locs cells slots) (hx : p.tables.exec = Jvm.exec) {v : Value} (hd : decode c.code pc = .ok (.dup, 1)) (hp : pc + 1 = pc') (hc : v.category = 1) (K : own_Ends p e below s Q kc ks T (mkF m pc' ls (v :: v :: st))) : own_Ends p e below s Q kc ks T (mkF m pc ls (v :: st)) := by
  subst hp
  exact own_go (fun t k => XS.dup X.here hx rfl hd rfl hc k) K
theorem own_dupX1 (X : Stand p l e R s m args below meth c T locs cells slots) (hx : p.tables.exec = Jvm.exec) {v w : Value} (hd : decode c.code pc = .ok (.dup_x1, 1)) (hp : pc + 1 = pc') (hc : v.category = 1) (hc' : w.category = 1) (K : own_Ends p e below s Q kc ks T (mkF m pc' ls (v :: w :: v :: st))) : own_Ends p e below s Q kc ks T (mkF m pc ls (v :: w :: st)) := by
  subst hp
  exact own_go (fun t k => XS.dupX1 X.here hx rfl hd rfl hc hc' k) K
theorem own_dup2 (X : Stand p l e R s m args below meth c T locs cells slots) (hx : p.tables.exec = Jvm.exec) {v w : Value} (hd : decode c.code pc = .ok (.dup2, 1)) (hp : pc + 1 = pc') (hc : v.category = 1) (hc' : w.category = 1) (K : own_Ends p e below s Q kc ks T (mkF m pc' ls (v :: w :: v :: w :: st))) : own_Ends p e below s Q kc ks T (mkF m pc ls (v :: w :: st)) := by
  subst hp
  exact own_go (fun t k => XT.dup2 X.here hx rfl hd rfl hc hc' k) K
theorem own_dup2L (X : Stand p l e R s m args below meth c T locs cells slots) (hx : p.tables.exec = Jvm.exec) {x : Int64} (hd : decode c.code pc = .ok (.dup2, 1)) (hp : pc + 1 = pc')  (K : own_Ends p e below s Q kc ks T (mkF m pc' ls (.long x :: .long x :: st))) : own_Ends p e below s Q kc ks T (mkF m pc ls (.long x :: st)) := by
  subst hp
  exact own_go (fun t k => XT.dup2L X.here hx rfl hd rfl k) K
theorem own_iinc (X : Stand p l e R s m args below meth c T locs cells slots) (hx : p.tables.exec = Jvm.exec) {k : Nat} {i : Int} {x z : Int32} {l' : Array Slot} (hd : decode c.code pc = .ok (.iinc k i, 3)) (hp : pc + 3 = pc') (hl : ls[k]? = some (.val (.int x))) (hz : x + Int32.ofInt i = z) (hl' : storeLocals ls k (.int z) = some l') (K : own_Ends p e below s Q kc ks T (mkF m pc' l' st)) : own_Ends p e below s Q kc ks T (mkF m pc ls st) := by
  subst hp hz
  exact own_go (fun t k => XS.iinc X.here hx rfl hd hl hl' k) K
theorem own_goto (X : Stand p l e R s m args below meth c T locs cells slots) (hx : p.tables.exec = Jvm.exec) {o : Int} (hd : decode c.code pc = .ok (.goto o, 3)) (ho : 0 ≤ (pc : Int) + o) (hp : ((pc : Int) + o).toNat = pc') (K : own_Ends p e below s Q kc ks T (mkF m pc' ls st)) : own_Ends p e below s Q kc ks T (mkF m pc ls st) :=
  own_go (fun t k => XS.goto X.here hx rfl rfl hd ho hp k) K
theorem own_ifYes (X : Stand p l e R s m args below meth c T locs cells slots) (hx : p.tables.exec = Jvm.exec) {o : Int} {cd : ClassFile.Cond} {x : Int32} (hd : decode c.code pc = .ok (.ifCond cd o, 3)) (hc : if_icmp.holds cd x 0 = true) (ho : 0 ≤ (pc : Int) + o) (hp : ((pc : Int) + o).toNat = pc') (K : own_Ends p e below s Q kc ks T (mkF m pc' ls st)) : own_Ends p e below s Q kc ks T (mkF m pc ls (.int x :: st)) :=
  own_go (fun t k => XS.ifYes X.here hx rfl rfl hd rfl ((if0 _ _).trans hc) ho hp k) K
theorem own_ifNo (X : Stand p l e R s m args below meth c T locs cells slots) (hx : p.tables.exec = Jvm.exec) {o : Int} {cd : ClassFile.Cond} {x : Int32} (hd : decode c.code pc = .ok (.ifCond cd o, 3)) (hp : pc + 3 = pc') (hc : if_icmp.holds cd x 0 = false) (K : own_Ends p e below s Q kc ks T (mkF m pc' ls st)) : own_Ends p e below s Q kc ks T (mkF m pc ls (.int x :: st)) := by
  subst hp
  exact own_go (fun t k => XS.ifNo X.here hx rfl hd rfl ((if0 _ _).trans hc) k) K
theorem own_icmpYes (X : Stand p l e R s m args below meth c T locs cells slots) (hx : p.tables.exec = Jvm.exec) {o : Int} {cd : ClassFile.Cond} {x y : Int32} (hd : decode c.code pc = .ok (.if_icmp cd o, 3)) (hc : if_icmp.holds cd x y = true) (ho : 0 ≤ (pc : Int) + o) (hp : ((pc : Int) + o).toNat = pc') (K : own_Ends p e below s Q kc ks T (mkF m pc' ls st)) : own_Ends p e below s Q kc ks T (mkF m pc ls (.int y :: .int x :: st)) :=
  own_go (fun t k => XS.icmpYes X.here hx rfl rfl hd rfl hc ho hp k) K
theorem own_icmpNo (X : Stand p l e R s m args below meth c T locs cells slots) (hx : p.tables.exec = Jvm.exec) {o : Int} {cd : ClassFile.Cond} {x y : Int32} (hd : decode c.code pc = .ok (.if_icmp cd o, 3)) (hp : pc + 3 = pc') (hc : if_icmp.holds cd x y = false) (K : own_Ends p e below s Q kc ks T (mkF m pc' ls st)) : own_Ends p e below s Q kc ks T (mkF m pc ls (.int y :: .int x :: st)) := by
  subst hp
  exact own_go (fun t k => XS.icmpNo X.here hx rfl hd rfl hc k) K
theorem own_ifnullYes (X : Stand p l e R s m args below meth c T locs cells slots) (hx : p.tables.exec = Jvm.exec) {o : Int} (hd : decode c.code pc = .ok (.ifnull o, 3)) (ho : 0 ≤ (pc : Int) + o) (hp : ((pc : Int) + o).toNat = pc') (K : own_Ends p e below s Q kc ks T (mkF m pc' ls st)) : own_Ends p e below s Q kc ks T (mkF m pc ls (.null :: st)) :=
  own_go (fun t k => XS.ifnullYes X.here hx rfl rfl hd rfl ho hp k) K
theorem own_ifnullNo (X : Stand p l e R s m args below meth c T locs cells slots) (hx : p.tables.exec = Jvm.exec) {o : Int} {b : Addr} (hd : decode c.code pc = .ok (.ifnull o, 3)) (hp : pc + 3 = pc')  (K : own_Ends p e below s Q kc ks T (mkF m pc' ls st)) : own_Ends p e below s Q kc ks T (mkF m pc ls (.ref b :: st)) := by
  subst hp
  exact own_go (fun t k => XS.ifnullNo X.here hx rfl hd rfl k) K
theorem own_ifnonnullYes (X : Stand p l e R s m args below meth c T locs cells slots) (hx : p.tables.exec = Jvm.exec) {o : Int} {b : Addr} (hd : decode c.code pc = .ok (.ifnonnull o, 3)) (ho : 0 ≤ (pc : Int) + o) (hp : ((pc : Int) + o).toNat = pc') (K : own_Ends p e below s Q kc ks T (mkF m pc' ls st)) : own_Ends p e below s Q kc ks T (mkF m pc ls (.ref b :: st)) :=
  own_go (fun t k => XS.ifnonnullYes X.here hx rfl rfl hd rfl ho hp k) K
theorem own_ifnonnullNo (X : Stand p l e R s m args below meth c T locs cells slots) (hx : p.tables.exec = Jvm.exec) {o : Int} (hd : decode c.code pc = .ok (.ifnonnull o, 3)) (hp : pc + 3 = pc')  (K : own_Ends p e below s Q kc ks T (mkF m pc' ls st)) : own_Ends p e below s Q kc ks T (mkF m pc ls (.null :: st)) := by
  subst hp
  exact own_go (fun t k => XS.ifnonnullNo X.here hx rfl hd rfl k) K
theorem own_acmpYes (X : Stand p l e R s m args below meth c T locs cells slots) (hx : p.tables.exec = Jvm.exec) {o : Int} {cd : ACond} {v w : Value} (hd : decode c.code pc = .ok (.if_acmp cd o, 3)) (h1 : v.isRef = true) (h2 : w.isRef = true) (hc : XT.acmp cd v w = true) (ho : 0 ≤ (pc : Int) + o) (hp : ((pc : Int) + o).toNat = pc') (K : own_Ends p e below s Q kc ks T (mkF m pc' ls st)) : own_Ends p e below s Q kc ks T (mkF m pc ls (w :: v :: st)) :=
  own_go (fun t k => XT.acmpYes X.here hx rfl rfl hd rfl h1 h2 hc ho hp k) K
theorem own_acmpNo (X : Stand p l e R s m args below meth c T locs cells slots) (hx : p.tables.exec = Jvm.exec) {o : Int} {cd : ACond} {v w : Value} (hd : decode c.code pc = .ok (.if_acmp cd o, 3)) (hp : pc + 3 = pc') (h1 : v.isRef = true) (h2 : w.isRef = true) (hc : XT.acmp cd v w = false) (K : own_Ends p e below s Q kc ks T (mkF m pc' ls st)) : own_Ends p e below s Q kc ks T (mkF m pc ls (w :: v :: st)) := by
  subst hp
  exact own_go (fun t k => XT.acmpNo X.here hx rfl hd rfl h1 h2 hc k) K
theorem own_ldcI (X : Stand p l e R s m args below meth c T locs cells slots) (hx : p.tables.exec = Jvm.exec) {own : String} {ix : Nat} {v : Int32} {Z : State} {a0 : Array Value} (hZ : Z.Warmed39 s.vm) (hown : s.vm.findClass own = some m.cls) (w : (Jvm.Cond.constant own ix v).before a0 Z = true) (hd : decode c.code pc = .ok (.ldc ix, 2)) (hp : pc + 2 = pc')  (K : own_Ends p e below s Q kc ks T (mkF m pc' ls (.int v :: st))) : own_Ends p e below s Q kc ks T (mkF m pc ls st) := by
  subst hp
  exact own_go (fun t k => X.ldcInt hx hown (mvT hZ w) (g := mkF m pc ls st) rfl hd t k) K
theorem own_ldcwI (X : Stand p l e R s m args below meth c T locs cells slots) (hx : p.tables.exec = Jvm.exec) {own : String} {ix : Nat} {v : Int32} {Z : State} {a0 : Array Value} (hZ : Z.Warmed39 s.vm) (hown : s.vm.findClass own = some m.cls) (w : (Jvm.Cond.constant own ix v).before a0 Z = true) (hd : decode c.code pc = .ok (.ldc_w ix, 3)) (hp : pc + 3 = pc')  (K : own_Ends p e below s Q kc ks T (mkF m pc' ls (.int v :: st))) : own_Ends p e below s Q kc ks T (mkF m pc ls st) := by
  subst hp
  exact own_go (fun t k => X.ldcwInt hx hown (mvT hZ w) (g := mkF m pc ls st) rfl hd t k) K
theorem own_ldc2J (X : Stand p l e R s m args below meth c T locs cells slots) (hx : p.tables.exec = Jvm.exec) {own : String} {ix : Nat} {v : Int64} {Z : State} {a0 : Array Value} (hZ : Z.Warmed39 s.vm) (hown : s.vm.findClass own = some m.cls) (w : (Jvm.Cond.constantLong own ix v).before a0 Z = true) (hd : decode c.code pc = .ok (.ldc2_w ix, 3)) (hp : pc + 3 = pc')  (K : own_Ends p e below s Q kc ks T (mkF m pc' ls (.long v :: st))) : own_Ends p e below s Q kc ks T (mkF m pc ls st) := by
  subst hp
  exact own_go (fun t k => X.ldc2Long hx hown (mvT hZ w) (g := mkF m pc ls st) rfl hd t k) K
theorem own_iaload (X : Stand p l e R s m args below meth c T locs cells slots) (hx : p.tables.exec = Jvm.exec) {Z : State} {h : Heap} {a : Addr} {k : ClassId} {n j : Int32} {vs : List Value} {d v : Value} (hZ : Z.Warmed39 s.vm) (eT : T.heap = h) (V : Arv Z h a k .int n vs d) (hd : decode c.code pc = .ok (.iaload, 1)) (hp : pc + 1 = pc') (hj : ¬ j < 0 ∧ j < n) (hv : vs.getD j.toNatClampNeg d = v) (K : own_Ends p e below s Q kc ks T (mkF m pc' ls (v :: st))) : own_Ends p e below s Q kc ks T (mkF m pc ls (.int j :: .ref a :: st)) := by
  subst hp
  obtain ⟨cl, A, q1, S, q2, H, G⟩ := V
  have hin := inb_of S hj
  exact own_go (fun t k => X.iaload hx (by rw [eT]; exact A.1) (State.isArrayOf_alike hZ.alike A.2.1) A.2.2 hin (H.at hin hv) (g := mkF m pc ls (.int j :: .ref a :: st)) rfl rfl hd t k) K
theorem own_laload (X : Stand p l e R s m args below meth c T locs cells slots) (hx : p.tables.exec = Jvm.exec) {Z : State} {h : Heap} {a : Addr} {k : ClassId} {n j : Int32} {vs : List Value} {d v : Value} (hZ : Z.Warmed39 s.vm) (eT : T.heap = h) (V : Arv Z h a k .long n vs d) (hd : decode c.code pc = .ok (.laload, 1)) (hp : pc + 1 = pc') (hj : ¬ j < 0 ∧ j < n) (hv : vs.getD j.toNatClampNeg d = v) (K : own_Ends p e below s Q kc ks T (mkF m pc' ls (v :: st))) : own_Ends p e below s Q kc ks T (mkF m pc ls (.int j :: .ref a :: st)) := by
  subst hp
  obtain ⟨cl, A, q1, S, q2, H, G⟩ := V
  have hin := inb_of S hj
  exact own_go (fun t k => X.laload hx (by rw [eT]; exact A.1) (State.isArrayOf_alike hZ.alike A.2.1) A.2.2 hin (H.at hin hv) (g := mkF m pc ls (.int j :: .ref a :: st)) rfl rfl hd t k) K
theorem own_caload (X : Stand p l e R s m args below meth c T locs cells slots) (hx : p.tables.exec = Jvm.exec) {Z : State} {h : Heap} {a : Addr} {k : ClassId} {n j : Int32} {vs : List Value} {d v : Value} (hZ : Z.Warmed39 s.vm) (eT : T.heap = h) (V : Arv Z h a k .char n vs d) (hd : decode c.code pc = .ok (.caload, 1)) (hp : pc + 1 = pc') (hj : ¬ j < 0 ∧ j < n) (hv : vs.getD j.toNatClampNeg d = v) (K : own_Ends p e below s Q kc ks T (mkF m pc' ls (v :: st))) : own_Ends p e below s Q kc ks T (mkF m pc ls (.int j :: .ref a :: st)) := by
  subst hp
  obtain ⟨cl, A, q1, S, q2, H, G⟩ := V
  have hin := inb_of S hj
  exact own_go (fun t k => X.caload hx (by rw [eT]; exact A.1) (State.isArrayOf_alike hZ.alike A.2.1) A.2.2 hin (H.at hin hv) (g := mkF m pc ls (.int j :: .ref a :: st)) rfl rfl hd t k) K
theorem own_baload (X : Stand p l e R s m args below meth c T locs cells slots) (hx : p.tables.exec = Jvm.exec) {Z : State} {h : Heap} {a : Addr} {k : ClassId} {n j : Int32} {vs : List Value} {d v : Value} (hZ : Z.Warmed39 s.vm) (eT : T.heap = h) (V : Arv Z h a k .byte n vs d) (hd : decode c.code pc = .ok (.baload, 1)) (hp : pc + 1 = pc') (hj : ¬ j < 0 ∧ j < n) (hv : vs.getD j.toNatClampNeg d = v) (K : own_Ends p e below s Q kc ks T (mkF m pc' ls (v :: st))) : own_Ends p e below s Q kc ks T (mkF m pc ls (.int j :: .ref a :: st)) := by
  subst hp
  obtain ⟨cl, A, q1, S, q2, H, G⟩ := V
  have hin := inb_of S hj
  exact own_go (fun t k => X.baloadBytes hx (by rw [eT]; exact A.1) (State.isArrayOf_alike hZ.alike A.2.1) A.2.2 hin (H.at hin hv) (g := mkF m pc ls (.int j :: .ref a :: st)) rfl rfl hd t k) K
theorem own_zaload (X : Stand p l e R s m args below meth c T locs cells slots) (hx : p.tables.exec = Jvm.exec) {Z : State} {h : Heap} {a : Addr} {k : ClassId} {n j : Int32} {vs : List Value} {d v : Value} (hZ : Z.Warmed39 s.vm) (eT : T.heap = h) (V : Arv Z h a k .boolean n vs d) (hd : decode c.code pc = .ok (.baload, 1)) (hp : pc + 1 = pc') (hj : ¬ j < 0 ∧ j < n) (hv : vs.getD j.toNatClampNeg d = v) (K : own_Ends p e below s Q kc ks T (mkF m pc' ls (v :: st))) : own_Ends p e below s Q kc ks T (mkF m pc ls (.int j :: .ref a :: st)) := by
  subst hp
  obtain ⟨cl, A, q1, S, q2, H, G⟩ := V
  have hin := inb_of S hj
  exact own_go (fun t k => X.baloadBooleans hx (by rw [eT]; exact A.1) (State.isArrayOf_alike hZ.alike A.2.1) A.2.2 hin (H.at hin hv) (g := mkF m pc ls (.int j :: .ref a :: st)) rfl rfl hd t k) K
theorem own_daload (X : Stand p l e R s m args below meth c T locs cells slots) (hx : p.tables.exec = Jvm.exec) {Z : State} {h : Heap} {a : Addr} {k : ClassId} {n j : Int32} {vs : List Value} {d v : Value} (hZ : Z.Warmed39 s.vm) (eT : T.heap = h) (V : Arv Z h a k .double n vs d) (hd : decode c.code pc = .ok (.daload, 1)) (hp : pc + 1 = pc') (hj : ¬ j < 0 ∧ j < n) (hv : vs.getD j.toNatClampNeg d = v) (K : own_Ends p e below s Q kc ks T (mkF m pc' ls (v :: st))) : own_Ends p e below s Q kc ks T (mkF m pc ls (.int j :: .ref a :: st)) := by
  subst hp
  obtain ⟨cl, A, q1, S, q2, H, G⟩ := V
  have hin := inb_of S hj
  exact own_go (fun t k => X.daload hx (by rw [eT]; exact A.1) (State.isArrayOf_alike hZ.alike A.2.1) A.2.2 hin (H.at hin hv) (g := mkF m pc ls (.int j :: .ref a :: st)) rfl rfl hd t k) K
theorem own_alen (X : Stand p l e R s m args below meth c T locs cells slots) (hx : p.tables.exec = Jvm.exec) {Z : State} {h : Heap} {a : Addr} {k : ClassId} {ty : FieldType} {n : Int32} {vs : List Value} {d : Value} (hZ : Z.Warmed39 s.vm) (eT : T.heap = h) (V : Arv Z h a k ty n vs d) (hd : decode c.code pc = .ok (.arraylength, 1)) (hp : pc + 1 = pc')  (K : own_Ends p e below s Q kc ks T (mkF m pc' ls (.int n :: st))) : own_Ends p e below s Q kc ks T (mkF m pc ls (.ref a :: st)) := by
  subst hp
  obtain ⟨cl, A, q1, S, q2, H, G⟩ := V
  rw [← len_of S q2] at K
  exact own_go (fun t k => X.arraylength hx (by rw [eT]; exact A.1) (State.isArrayOf_alike hZ.alike A.2.1) (g := mkF m pc ls (.ref a :: st)) rfl rfl hd t k) K
theorem own_iastore (X : Stand p l e R s m args below meth c T locs cells slots) (hx : p.tables.exec = Jvm.exec) {Z : State} {h : Heap} {a : Addr} {k : ClassId} {n j : Int32} {vs : List Value} {d : Value} {x : Int32} (hZ : Z.Warmed39 s.vm) (eT : T.heap = h) (V : Arv Z h a k .int n vs d) (hd : decode c.code pc = .ok (.iastore, 1)) (hp : pc + 1 = pc') (hj : ¬ j < 0 ∧ j < n) (i : Nat) (hi : j.toNatClampNeg = i) (hl : i < vs.length) {n0 : Nat} (N : Fr n0 locs) (ge : n0 ≤ a)
    (K : ∀ T' h' L, Stand p l e R s m args below meth c T' L cells slots → T'.heap = h' → Fr n0 L → Wr h h' a j.toNatClampNeg (.int x) → Arv Z h' a k .int n (vs.set i (.int x)) d → own_Ends p e below s Q kc ks T' (mkF m pc' ls st)) : own_Ends p e below s Q kc ks T (mkF m pc ls (.int x :: .int j :: .ref a :: st)) := by
  subst hp
  obtain ⟨cl, A, q1, S, q2, H, G⟩ := V
  have hin := inb_of S hj
  obtain ⟨T1, h1, X1, e1, W1, st1⟩ := stI X hx hZ eT A (j := j) hin (g := mkF m pc ls (.int x :: .int j :: .ref a :: st)) rfl rfl hd
  exact own_go st1 (K T1 h1 _ X1 e1 (Fr.snoc X1 N ge) W1 (Arv.set A q1 S q2 H G rfl W1 i hi hl))
theorem own_lastore (X : Stand p l e R s m args below meth c T locs cells slots) (hx : p.tables.exec = Jvm.exec) {Z : State} {h : Heap} {a : Addr} {k : ClassId} {n j : Int32} {vs : List Value} {d : Value} {x : Int64} (hZ : Z.Warmed39 s.vm) (eT : T.heap = h) (V : Arv Z h a k .long n vs d) (hd : decode c.code pc = .ok (.lastore, 1)) (hp : pc + 1 = pc') (hj : ¬ j < 0 ∧ j < n) (i : Nat) (hi : j.toNatClampNeg = i) (hl : i < vs.length) {n0 : Nat} (N : Fr n0 locs) (ge : n0 ≤ a)
    (K : ∀ T' h' L, Stand p l e R s m args below meth c T' L cells slots → T'.heap = h' → Fr n0 L → Wr h h' a j.toNatClampNeg (.long x) → Arv Z h' a k .long n (vs.set i (.long x)) d → own_Ends p e below s Q kc ks T' (mkF m pc' ls st)) : own_Ends p e below s Q kc ks T (mkF m pc ls (.long x :: .int j :: .ref a :: st)) := by
  subst hp
  obtain ⟨cl, A, q1, S, q2, H, G⟩ := V
  have hin := inb_of S hj
  obtain ⟨T1, h1, X1, e1, W1, st1⟩ := stJ X hx hZ eT A (j := j) hin (g := mkF m pc ls (.long x :: .int j :: .ref a :: st)) rfl rfl hd
  exact own_go st1 (K T1 h1 _ X1 e1 (Fr.snoc X1 N ge) W1 (Arv.set A q1 S q2 H G rfl W1 i hi hl))
theorem own_dastore (X : Stand p l e R s m args below meth c T locs cells slots) (hx : p.tables.exec = Jvm.exec) {Z : State} {h : Heap} {a : Addr} {k : ClassId} {n j : Int32} {vs : List Value} {d : Value} {x : UInt64} (hZ : Z.Warmed39 s.vm) (eT : T.heap = h) (V : Arv Z h a k .double n vs d) (hd : decode c.code pc = .ok (.dastore, 1)) (hp : pc + 1 = pc') (hj : ¬ j < 0 ∧ j < n) (i : Nat) (hi : j.toNatClampNeg = i) (hl : i < vs.length) {n0 : Nat} (N : Fr n0 locs) (ge : n0 ≤ a)
    (K : ∀ T' h' L, Stand p l e R s m args below meth c T' L cells slots → T'.heap = h' → Fr n0 L → Wr h h' a j.toNatClampNeg (.double x) → Arv Z h' a k .double n (vs.set i (.double x)) d → own_Ends p e below s Q kc ks T' (mkF m pc' ls st)) : own_Ends p e below s Q kc ks T (mkF m pc ls (.double x :: .int j :: .ref a :: st)) := by
  subst hp
  obtain ⟨cl, A, q1, S, q2, H, G⟩ := V
  have hin := inb_of S hj
  obtain ⟨T1, h1, X1, e1, W1, st1⟩ := stD X hx hZ eT A (j := j) hin (g := mkF m pc ls (.double x :: .int j :: .ref a :: st)) rfl rfl hd
  exact own_go st1 (K T1 h1 _ X1 e1 (Fr.snoc X1 N ge) W1 (Arv.set A q1 S q2 H G rfl W1 i hi hl))
theorem own_castore (X : Stand p l e R s m args below meth c T locs cells slots) (hx : p.tables.exec = Jvm.exec) {Z : State} {h : Heap} {a : Addr} {k : ClassId} {n j : Int32} {vs : List Value} {d : Value} {x : Int32} (hZ : Z.Warmed39 s.vm) (eT : T.heap = h) (V : Arv Z h a k .char n vs d) (hd : decode c.code pc = .ok (.castore, 1)) (hp : pc + 1 = pc') (hj : ¬ j < 0 ∧ j < n) (i : Nat) (hi : j.toNatClampNeg = i) (hl : i < vs.length) {n0 : Nat} (N : Fr n0 locs) (ge : n0 ≤ a)
    (K : ∀ T' h' L, Stand p l e R s m args below meth c T' L cells slots → T'.heap = h' → Fr n0 L → Wr h h' a j.toNatClampNeg (.int (nar .char x)) → Arv Z h' a k .char n (vs.set i (.int (nar .char x))) d → own_Ends p e below s Q kc ks T' (mkF m pc' ls st)) : own_Ends p e below s Q kc ks T (mkF m pc ls (.int x :: .int j :: .ref a :: st)) := by
  subst hp
  obtain ⟨cl, A, q1, S, q2, H, G⟩ := V
  have hin := inb_of S hj
  obtain ⟨T1, h1, X1, e1, W1, st1⟩ := stC X hx hZ eT A (j := j) hin (g := mkF m pc ls (.int x :: .int j :: .ref a :: st)) rfl rfl hd
  exact own_go st1 (K T1 h1 _ X1 e1 (Fr.snoc X1 N ge) W1 (Arv.set A q1 S q2 H G (fits_nar_char _) W1 i hi hl))
theorem own_bastore (X : Stand p l e R s m args below meth c T locs cells slots) (hx : p.tables.exec = Jvm.exec) {Z : State} {h : Heap} {a : Addr} {k : ClassId} {n j : Int32} {vs : List Value} {d : Value} {x : Int32} (hZ : Z.Warmed39 s.vm) (eT : T.heap = h) (V : Arv Z h a k .byte n vs d) (hd : decode c.code pc = .ok (.bastore, 1)) (hp : pc + 1 = pc') (hj : ¬ j < 0 ∧ j < n) (i : Nat) (hi : j.toNatClampNeg = i) (hl : i < vs.length) {n0 : Nat} (N : Fr n0 locs) (ge : n0 ≤ a)
    (K : ∀ T' h' L, Stand p l e R s m args below meth c T' L cells slots → T'.heap = h' → Fr n0 L → Wr h h' a j.toNatClampNeg (.int (nar .byte x)) → Arv Z h' a k .byte n (vs.set i (.int (nar .byte x))) d → own_Ends p e below s Q kc ks T' (mkF m pc' ls st)) : own_Ends p e below s Q kc ks T (mkF m pc ls (.int x :: .int j :: .ref a :: st)) := by
  subst hp
  obtain ⟨cl, A, q1, S, q2, H, G⟩ := V
  have hin := inb_of S hj
  obtain ⟨T1, h1, X1, e1, W1, st1⟩ := stB X hx hZ eT A (j := j) hin (g := mkF m pc ls (.int x :: .int j :: .ref a :: st)) rfl rfl hd
  exact own_go st1 (K T1 h1 _ X1 e1 (Fr.snoc X1 N ge) W1 (Arv.set A q1 S q2 H G (fits_nar_byte _) W1 i hi hl))
theorem own_zastore (X : Stand p l e R s m args below meth c T locs cells slots) (hx : p.tables.exec = Jvm.exec) {Z : State} {h : Heap} {a : Addr} {k : ClassId} {n j : Int32} {vs : List Value} {d : Value} {x : Int32} (hZ : Z.Warmed39 s.vm) (eT : T.heap = h) (V : Arv Z h a k .boolean n vs d) (hd : decode c.code pc = .ok (.bastore, 1)) (hp : pc + 1 = pc') (hj : ¬ j < 0 ∧ j < n) (i : Nat) (hi : j.toNatClampNeg = i) (hl : i < vs.length) {n0 : Nat} (N : Fr n0 locs) (ge : n0 ≤ a)
    (K : ∀ T' h' L, Stand p l e R s m args below meth c T' L cells slots → T'.heap = h' → Fr n0 L → Wr h h' a j.toNatClampNeg (.int (nar .boolean x)) → Arv Z h' a k .boolean n (vs.set i (.int (nar .boolean x))) d → own_Ends p e below s Q kc ks T' (mkF m pc' ls st)) : own_Ends p e below s Q kc ks T (mkF m pc ls (.int x :: .int j :: .ref a :: st)) := by
  subst hp
  obtain ⟨cl, A, q1, S, q2, H, G⟩ := V
  have hin := inb_of S hj
  obtain ⟨T1, h1, X1, e1, W1, st1⟩ := stZ X hx hZ eT A (j := j) hin (g := mkF m pc ls (.int x :: .int j :: .ref a :: st)) rfl rfl hd
  exact own_go st1 (K T1 h1 _ X1 e1 (Fr.snoc X1 N ge) W1 (Arv.set A q1 S q2 H G (fits_nar_bool _) W1 i hi hl))
theorem own_newarr (X : Stand p l e R s m args below meth c T locs cells slots) (hx : p.tables.exec = Jvm.exec) {Z : State} {a0 : Array Value} {h : Heap} {aty : ArrayType} (hZ : Z.Warmed39 s.vm) (w : (Jvm.Cond.arrayClass (newarray.typeOf aty)).before a0 Z = true) (eT : T.heap = h) (hd : decode c.code pc = .ok (.newarray aty, 2)) (hp : pc + 2 = pc') {n : Int32} (hn : ¬ n < 0) (cap q : Nat) (hcap : n.toNatClampNeg ≤ cap) (hb : cap * 8 ≤ 536870912) (hc : cells + 1 ≤ R.cells) (hl : slots + cap ≤ R.slots)
    (K : ∀ T' h' a k, Stand p l e R s m args below meth c T' locs (cells + 1) (slots + cap) → T'.heap = h' → Ext h h' → a = h.size → Arv Z h' a k (newarray.typeOf aty) n (List.replicate q (defaultValue (newarray.typeOf aty))) (defaultValue (newarray.typeOf aty)) → own_Ends p e below s Q kc ks T' (mkF m pc' ls (.ref a :: st))) : own_Ends p e below s Q kc ks T (mkF m pc ls (.int n :: st)) := by
  subst hp
  obtain ⟨T1, h1, k1, X1, e1, E1, A1, st1⟩ := newP X hx hZ w eT (g := mkF m pc ls (.int n :: st)) rfl hd rfl hn (cap := cap) hcap hb hc hl
  exact own_go st1 (K T1 h1 _ k1 X1 e1 E1 rfl ((Arv.new A1 hn).pad (pad_rep [] _ q)))
theorem own_newarrE (X : Stand p l e R s m args below meth c T locs cells slots) (hx : p.tables.exec = Jvm.exec) {Z : State} {a0 : Array Value} {h : Heap} {aty : ArrayType} (hZ : Z.Warmed39 s.vm) (w : (Jvm.Cond.arrayClass (newarray.typeOf aty)).before a0 Z = true) (eT : T.heap = h) (hd : decode c.code pc = .ok (.newarray aty, 2)) (hp : pc + 2 = pc') {n : Int32} (hn : ¬ n < 0) (cap q : Nat) (hcap : n.toNatClampNeg ≤ cap) (hb : cap * 8 ≤ 536870912) (hc : cells + 1 ≤ R.cells) (hl : slots + cap ≤ R.slots) {ad : String} (had : "[" ++ (newarray.typeOf aty).toString = ad)
    (K : ∀ T' h' a k, Stand p l e R s m args below meth c T' locs (cells + 1) (slots + cap) → T'.heap = h' → Ext h h' → a = h.size → Arv Z h' a k (newarray.typeOf aty) n (List.replicate q (defaultValue (newarray.typeOf aty))) (defaultValue (newarray.typeOf aty)) → Exa Z h' a ad → own_Ends p e below s Q kc ks T' (mkF m pc' ls (.ref a :: st))) : own_Ends p e below s Q kc ks T (mkF m pc ls (.int n :: st)) := by
  subst hp
  obtain ⟨T1, h1, k1, X1, e1, E1, A1, Z1, st1⟩ := newPE X hx hZ w eT (g := mkF m pc ls (.int n :: st)) rfl hd rfl hn (cap := cap) hcap hb hc hl had
  exact own_go st1 (K T1 h1 _ k1 X1 e1 E1 rfl ((Arv.new A1 hn).pad (pad_rep [] _ q)) Z1)
theorem own_callS (X : Stand p l e R s m args below meth c T locs cells slots) (hx : p.tables.exec = Jvm.exec) {Z : State} {a0 : Array Value} {h : Heap} {own : String} {ix : Nat} {y : MethodName} {bytes : ByteArray} {maxL W : Nat} {ret : Option FieldType} {rm : Room} {Qc : Option Value → Heap → List Loc → Prop} {argsL rest : List Value} (hZ : Z.Warmed39 s.vm) (eT : T.heap = h) (hown : s.vm.findClass own = some m.cls) (hsz : ls.size = c.maxLocals) (wl : (Jvm.Cond.methodLink own ix y).before a0 Z = true) (ws : (Jvm.Cond.static y).before a0 Z = true) (wi : (Jvm.Cond.initialized y.cls).before a0 Z = true) (wc : (Jvm.Cond.code y bytes maxL ret).before a0 Z = true) (hy : y.cls ≠ "java/lang/invoke/MethodHandle" ∧ y.cls ≠ "java/lang/invoke/VarHandle") (hM : MetFree l y (head1 [Jvm.Cond.code y bytes maxL ret] rm) (fun a U => a = argsL.toArray ∧ Z.Warmed39 U.vm ∧ U.heap = h) (fun _ _ _ _ _ => True) (fun _ U o U' => ∃ v L, o = .returned v ∧ Qc v U'.heap L ∧ FrameEnd U o U' L rm.cells rm.slots)) (hf : rm.frames + 1 ≤ R.frames) (hlo : W + (maxL + 11) + rm.locals ≤ R.locals) (hcl : cells + rm.cells ≤ R.cells) (hsl : slots + rm.slots ≤ R.slots)
    (hlen : ∀ sig, parseMethodDescriptor y.desc = some sig → argsL.length = sig.parameters.length) (hst : st = argsL.reverse ++ rest) (hW : 2 * 0 + (rest.map fun v => v.category).sum ≤ W) (hd : decode c.code pc = .ok (.invokestatic ix, 3)) (hp : pc + 3 = pc') (K : ∀ T' L v, Stand p l e R s m args below meth c T' (locs ++ L) (cells + rm.cells) (slots + rm.slots) → Qc v T'.heap L → own_Ends p e below s Q kc ks T' (mkF m pc' ls (v.toList ++ rest))) : own_Ends p e below s Q kc ks T (mkF m pc ls st) := by
  subst hp
  obtain ⟨v, _, ⟨T1, L1, k1, n1⟩, -, X1, ⟨Lc, hQ, r1, r2, r3⟩, st1⟩ := Jvm.LawKit.callS X hx (y := y) hown (mvT hZ wl) (mvT hZ ws) (mvT hZ wi) (mvT hZ wc) hy (backOf (W := W) hM hZ wc wi hf hlo) (g := mkF m pc ls st) rfl hsz (argsL := argsL) (rest := rest) hlen hst hW hd (fun _ _ => ⟨rfl, eT, hcl, hsl⟩)
  dsimp only [Pt.U, Pt.locs, Pt.cells, Pt.slots] at X1 r1 r2 r3 st1 hQ
  subst r1 r2 r3
  exact own_go (st1) (K T1 Lc v X1 hQ)
theorem own_callC (X : Stand p l e R s m args below meth c T locs cells slots) (hx : p.tables.exec = Jvm.exec) {b : Addr} {Z : State} {a0 : Array Value} {h : Heap} {own : String} {ix : Nat} {y : MethodName} {bytes : ByteArray} {maxL W : Nat} {ret : Option FieldType} {rm : Room} {Qc : Option Value → Heap → List Loc → Prop} {argsL rest : List Value} (hZ : Z.Warmed39 s.vm) (eT : T.heap = h) (hown : s.vm.findClass own = some m.cls) (hsz : ls.size = c.maxLocals) (hret : ret = none) (hinit : y.name = "<init>") (wl : (Jvm.Cond.methodLink own ix y).before a0 Z = true) (wm : (Jvm.Cond.instanceMethod y).before a0 Z = true) (wi : (Jvm.Cond.initialized y.cls).before a0 Z = true) (wc : (Jvm.Cond.code y bytes maxL ret).before a0 Z = true) (hy : y.cls ≠ "java/lang/invoke/MethodHandle" ∧ y.cls ≠ "java/lang/invoke/VarHandle") (hM : MetFree l y (head1 [Jvm.Cond.code y bytes maxL ret] rm) (fun a U => a = (Value.ref b :: argsL).toArray ∧ Z.Warmed39 U.vm ∧ U.heap = h) (fun _ _ _ _ _ => True) (fun _ U o U' => ∃ v L, o = .returned v ∧ Qc v U'.heap L ∧ FrameEnd U o U' L rm.cells rm.slots)) (hf : rm.frames + 1 ≤ R.frames) (hlo : W + (maxL + 11) + rm.locals ≤ R.locals) (hcl : cells + rm.cells ≤ R.cells) (hsl : slots + rm.slots ≤ R.slots)
    (hlen : ∀ sig, parseMethodDescriptor y.desc = some sig → argsL.length = sig.parameters.length) (hst : st = argsL.reverse ++ .ref b :: rest) (hW : 2 * 0 + (rest.map fun v => v.category).sum ≤ W) (hd : decode c.code pc = .ok (.invokespecial ix, 3)) (hp : pc + 3 = pc') (K : ∀ T' L v, Stand p l e R s m args below meth c T' (locs ++ L) (cells + rm.cells) (slots + rm.slots) → Qc v T'.heap L → own_Ends p e below s Q kc ks T' (mkF m pc' ls (v.toList ++ rest))) : own_Ends p e below s Q kc ks T (mkF m pc ls st) := by
  subst hp hret
  obtain ⟨v, _, ⟨T1, L1, k1, n1⟩, -, X1, ⟨Lc, hQ, r1, r2, r3⟩, st1⟩ := X.specialBack hx (y := y) hinit hown (mvT hZ wl) (mvT hZ wm) (mvT hZ wc) hy (backOf (W := W) hM hZ wc wi hf hlo) (g := mkF m pc ls st) rfl hsz (Steps.refl _) (a := b) (argsL := argsL) (rest := rest) hlen hst hW hd (fun _ _ => ⟨rfl, eT, hcl, hsl⟩)
  dsimp only [Pt.U, Pt.locs, Pt.cells, Pt.slots] at X1 r1 r2 r3 st1 hQ
  subst r1 r2 r3
  exact own_go (fun t k => st1.trans k) (K T1 Lc v X1 hQ)
theorem own_callV (X : Stand p l e R s m args below meth c T locs cells slots) (hx : p.tables.exec = Jvm.exec) {b : Addr} {C : String} {Z : State} {a0 : Array Value} {h : Heap} {own : String} {ix : Nat} {y : MethodName} {bytes : ByteArray} {maxL W : Nat} {ret : Option FieldType} {rm : Room} {Qc : Option Value → Heap → List Loc → Prop} {argsL rest : List Value} (hZ : Z.Warmed39 s.vm) (eT : T.heap = h) (hown : s.vm.findClass own = some m.cls) (hsz : ls.size = c.maxLocals) (E : Exa Z h b C) (wl : (Jvm.Cond.methodLink own ix y).before a0 Z = true) (wd : (Jvm.Cond.declares y).before a0 Z = true) (wsel : (Jvm.Cond.selects C y y).before a0 Z = true) (wm : (Jvm.Cond.instanceMethod y).before a0 Z = true) (wi : (Jvm.Cond.initialized y.cls).before a0 Z = true) (wc : (Jvm.Cond.code y bytes maxL ret).before a0 Z = true) (hy : y.cls ≠ "java/lang/invoke/MethodHandle" ∧ y.cls ≠ "java/lang/invoke/VarHandle") (hM : MetFree l y (head1 [Jvm.Cond.code y bytes maxL ret] rm) (fun a U => a = (Value.ref b :: argsL).toArray ∧ Z.Warmed39 U.vm ∧ U.heap = h) (fun _ _ _ _ _ => True) (fun _ U o U' => ∃ v L, o = .returned v ∧ Qc v U'.heap L ∧ FrameEnd U o U' L rm.cells rm.slots)) (hf : rm.frames + 1 ≤ R.frames) (hlo : W + (maxL + 11) + rm.locals ≤ R.locals) (hcl : cells + rm.cells ≤ R.cells) (hsl : slots + rm.slots ≤ R.slots)
    (hlen : ∀ sig, parseMethodDescriptor y.desc = some sig → argsL.length = sig.parameters.length) (hst : st = argsL.reverse ++ .ref b :: rest) (hW : 2 * 0 + (rest.map fun v => v.category).sum ≤ W) (hd : decode c.code pc = .ok (.invokevirtual ix, 3)) (hp : pc + 3 = pc') (K : ∀ T' L v, Stand p l e R s m args below meth c T' (locs ++ L) (cells + rm.cells) (slots + rm.slots) → Qc v T'.heap L → own_Ends p e below s Q kc ks T' (mkF m pc' ls (v.toList ++ rest))) : own_Ends p e below s Q kc ks T (mkF m pc ls st) := by
  subst hp
  obtain ⟨cq, kq, qa, qb, qc⟩ := isOf hZ eT E
  obtain ⟨v, _, ⟨T1, L1, k1, n1⟩, -, X1, ⟨Lc, hQ, r1, r2, r3⟩, st1⟩ := X.virtualBack hx (y := y) (z := y) hown (mvT hZ wl) (mvT hZ wd) (notFace_of_selects (args := #[]) (mvT hZ wsel)) (mvT hZ wsel) (mvT hZ wm) hy (backOf (W := W) hM hZ wc wi hf hlo) qa qc (g := mkF m pc ls st) rfl hsz (Steps.refl _) (argsL := argsL) (rest := rest) hlen hst hW hd (fun _ _ => ⟨rfl, eT, hcl, hsl⟩)
  dsimp only [Pt.U, Pt.locs, Pt.cells, Pt.slots] at X1 r1 r2 r3 st1 hQ
  subst r1 r2 r3
  exact own_go (fun t k => st1.trans k) (K T1 Lc v X1 hQ)
theorem own_callP (X : Stand p l e R s m args below meth c T locs cells slots) (hx : p.tables.exec = Jvm.exec) {b : Addr} {C : String} {Z : State} {a0 : Array Value} {h : Heap} {own : String} {ix : Nat} {y : MethodName} {bytes : ByteArray} {maxL W : Nat} {ret : Option FieldType} {rm : Room} {Qc : Option Value → Heap → List Loc → Prop} {argsL rest : List Value} (hZ : Z.Warmed39 s.vm) (eT : T.heap = h) (hown : s.vm.findClass own = some m.cls) (hsz : ls.size = c.maxLocals) (E : Exa Z h b C) (wl : (Jvm.Cond.methodLink own ix y).before a0 Z = true) (wsel : (Jvm.Cond.selects y.cls y y).before a0 Z = true) (wp : (Jvm.Cond.privateMethod y).before a0 Z = true) (wm : (Jvm.Cond.instanceMethod y).before a0 Z = true) (wi : (Jvm.Cond.initialized y.cls).before a0 Z = true) (wc : (Jvm.Cond.code y bytes maxL ret).before a0 Z = true) (hy : y.cls ≠ "java/lang/invoke/MethodHandle" ∧ y.cls ≠ "java/lang/invoke/VarHandle") (hM : MetFree l y (head1 [Jvm.Cond.code y bytes maxL ret] rm) (fun a U => a = (Value.ref b :: argsL).toArray ∧ Z.Warmed39 U.vm ∧ U.heap = h) (fun _ _ _ _ _ => True) (fun _ U o U' => ∃ v L, o = .returned v ∧ Qc v U'.heap L ∧ FrameEnd U o U' L rm.cells rm.slots)) (hf : rm.frames + 1 ≤ R.frames) (hlo : W + (maxL + 11) + rm.locals ≤ R.locals) (hcl : cells + rm.cells ≤ R.cells) (hsl : slots + rm.slots ≤ R.slots)
    (hlen : ∀ sig, parseMethodDescriptor y.desc = some sig → argsL.length = sig.parameters.length) (hst : st = argsL.reverse ++ .ref b :: rest) (hW : 2 * 0 + (rest.map fun v => v.category).sum ≤ W) (hd : decode c.code pc = .ok (.invokevirtual ix, 3)) (hp : pc + 3 = pc') (K : ∀ T' L v, Stand p l e R s m args below meth c T' (locs ++ L) (cells + rm.cells) (slots + rm.slots) → Qc v T'.heap L → own_Ends p e below s Q kc ks T' (mkF m pc' ls (v.toList ++ rest))) : own_Ends p e below s Q kc ks T (mkF m pc ls st) := by
  subst hp
  obtain ⟨cq, qa, qb⟩ := E.cell
  obtain ⟨v, _, ⟨T1, L1, k1, n1⟩, -, X1, ⟨Lc, hQ, r1, r2, r3⟩, st1⟩ := X.privateBack hx (y := y) hown (mvT hZ wl) (mvT hZ wm) (mvT hZ wsel) (Jvm.Cond.privateMethod_at (mvP hZ wp (args := #[]))) (mvT hZ wc) hy (backOf (W := W) hM hZ wc wi hf hlo) (g := mkF m pc ls st) rfl hsz (Steps.refl _) (a := b) (by rw [eT]; exact qa) qb (argsL := argsL) (rest := rest) hlen hst hW hd (fun _ _ => ⟨rfl, eT, hcl, hsl⟩)
  dsimp only [Pt.U, Pt.locs, Pt.cells, Pt.slots] at X1 r1 r2 r3 st1 hQ
  subst r1 r2 r3
  exact own_go (fun t k => st1.trans k) (K T1 Lc v X1 hQ)
theorem own_mvM {Z : State} {a0 args : Array Value} {own host : String} {ix : Nat} {y : MethodName} (hZ : Z.Warmed39 s.vm) (w : (Jvm.Cond.methodLinkNest own ix y host).before a0 Z = true) : (Jvm.Cond.methodLinkNest own ix y host).before args s = true := (Jvm.Cond.methodLinkNest_wide hZ w :)
theorem own_callN (X : Stand p l e R s m args below meth c T locs cells slots) (hx : p.tables.exec = Jvm.exec) {b : Addr} {host : String} {Z : State} {a0 : Array Value} {h : Heap} {own : String} {ix : Nat} {y : MethodName} {bytes : ByteArray} {maxL W : Nat} {ret : Option FieldType} {rm : Room} {Qc : Option Value → Heap → List Loc → Prop} {argsL rest : List Value} (hZ : Z.Warmed39 s.vm) (eT : T.heap = h) (hown : s.vm.findClass own = some m.cls) (hsz : ls.size = c.maxLocals) (hret : ret = none) (hinit : y.name = "<init>") (wl : (Jvm.Cond.methodLinkNest own ix y host).before a0 Z = true) (wm : (Jvm.Cond.instanceMethod y).before a0 Z = true) (wi : (Jvm.Cond.initialized y.cls).before a0 Z = true) (wc : (Jvm.Cond.code y bytes maxL ret).before a0 Z = true) (hy : y.cls ≠ "java/lang/invoke/MethodHandle" ∧ y.cls ≠ "java/lang/invoke/VarHandle") (hM : MetFree l y (head1 [Jvm.Cond.code y bytes maxL ret] rm) (fun a U => a = (Value.ref b :: argsL).toArray ∧ Z.Warmed39 U.vm ∧ U.heap = h) (fun _ _ _ _ _ => True) (fun _ U o U' => ∃ v L, o = .returned v ∧ Qc v U'.heap L ∧ FrameEnd U o U' L rm.cells rm.slots)) (hf : rm.frames + 1 ≤ R.frames) (hlo : W + (maxL + 11) + rm.locals ≤ R.locals) (hcl : cells + rm.cells ≤ R.cells) (hsl : slots + rm.slots ≤ R.slots)
    (hlen : ∀ sig, parseMethodDescriptor y.desc = some sig → argsL.length = sig.parameters.length) (hst : st = argsL.reverse ++ .ref b :: rest) (hW : 2 * 0 + (rest.map fun v => v.category).sum ≤ W) (hd : decode c.code pc = .ok (.invokespecial ix, 3)) (hp : pc + 3 = pc') (K : ∀ T' L v, Stand p l e R s m args below meth c T' (locs ++ L) (cells + rm.cells) (slots + rm.slots) → Qc v T'.heap L → own_Ends p e below s Q kc ks T' (mkF m pc' ls (v.toList ++ rest))) : own_Ends p e below s Q kc ks T (mkF m pc ls st) := by
  subst hp hret
  obtain ⟨v, _, ⟨T1, L1, k1, n1⟩, -, X1, ⟨Lc, hQ, r1, r2, r3⟩, st1⟩ := X.specialBackNest hx (y := y) hinit hown (own_mvM hZ wl) (mvT hZ wm) (mvT hZ wc) hy (backOf (W := W) hM hZ wc wi hf hlo) (g := mkF m pc ls st) rfl hsz (Steps.refl _) (a := b) (argsL := argsL) (rest := rest) hlen hst hW hd (fun _ _ => ⟨rfl, eT, hcl, hsl⟩)
  dsimp only [Pt.U, Pt.locs, Pt.cells, Pt.slots] at X1 r1 r2 r3 st1 hQ
  subst r1 r2 r3
  exact own_go (fun t k => st1.trans k) (K T1 Lc v X1 hQ)
theorem own_anewarr (X : Stand p l e R s m args below meth c T locs cells slots) (hx : p.tables.exec = Jvm.exec) {Z : State} {a0 : Array Value} {h : Heap} {own C : String} {ix : Nat} (hZ : Z.Warmed39 s.vm) (hown : s.vm.findClass own = some m.cls) (w1 : (Jvm.Cond.classLink own ix C).before a0 Z = true) (w2 : (Jvm.Cond.arrayOver (.object C)).before a0 Z = true) (eT : T.heap = h) (hd : decode c.code pc = .ok (.anewarray ix, 3)) (hp : pc + 3 = pc') {n : Int32} (hn : ¬ n < 0) (cap q : Nat) (hcap : n.toNatClampNeg ≤ cap) (hb : cap * 8 ≤ 536870912) (hc : cells + 1 ≤ R.cells) (hl : slots + cap ≤ R.slots) {ad : String} (had : "[" ++ (FieldType.object C).toString = ad)
    (K : ∀ T' h' a k, Stand p l e R s m args below meth c T' locs (cells + 1) (slots + cap) → T'.heap = h' → Ext h h' → a = h.size → Arv Z h' a k (.object C) n (List.replicate q .null) .null → Exa Z h' a ad → Ovr Z k C → own_Ends p e below s Q kc ks T' (mkF m pc' ls (.ref a :: st))) : own_Ends p e below s Q kc ks T (mkF m pc ls (.int n :: st)) := by
  subst hp
  obtain ⟨T1, h1, k1, X1, e1, E1, A1, Z1, O1, st1⟩ := newRE X hx hZ hown w1 w2 eT (g := mkF m pc ls (.int n :: st)) rfl hd rfl hn (cap := cap) hcap hb hc hl had
  exact own_go st1 (K T1 h1 _ k1 X1 e1 E1 rfl ((Arv.new A1 hn).pad (pad_rep [] _ q)) Z1 O1)
theorem own_aastore (X : Stand p l e R s m args below meth c T locs cells slots) (hx : p.tables.exec = Jvm.exec) {Z : State} {h : Heap} {a b : Addr} {k : ClassId} {C D : String} {n j : Int32} {vs : List Value} {d : Value} (hZ : Z.Warmed39 s.vm) (eT : T.heap = h) (V : Arv Z h a k (.object D) n vs d) (O : Ovr Z k C) (I : Ins Z h b C true) (hd : decode c.code pc = .ok (.aastore, 1)) (hp : pc + 1 = pc') (hj : ¬ j < 0 ∧ j < n) (i : Nat) (hi : j.toNatClampNeg = i) (hl : i < vs.length) {n0 : Nat} (N : Fr n0 locs) (ge : n0 ≤ a)
    (K : ∀ T' h' L, Stand p l e R s m args below meth c T' L cells slots → T'.heap = h' → Fr n0 L → Wr h h' a j.toNatClampNeg (.ref b) → Arv Z h' a k (.object D) n (vs.set i (.ref b)) d → own_Ends p e below s Q kc ks T' (mkF m pc' ls st)) : own_Ends p e below s Q kc ks T (mkF m pc ls (.ref b :: .int j :: .ref a :: st)) := by
  subst hp
  obtain ⟨cl, A, q1, S, q2, H, G⟩ := V
  have hin := inb_of S hj
  obtain ⟨T1, h1, X1, e1, W1, st1⟩ := stR X hx hZ eT A (j := j) hin rfl (Sto.ofV A q1 O I) (g := mkF m pc ls (.ref b :: .int j :: .ref a :: st)) rfl rfl hd
  exact own_go st1 (K T1 h1 _ X1 e1 (Fr.snoc X1 N ge) W1 (Arv.set A q1 S q2 H G rfl W1 i hi hl))
theorem own_tswIn (X : Stand p l e R s m args below meth c T locs cells slots) (hx : p.tables.exec = Jvm.exec) {d lo hi o : Int} {offs : Array Int} {len : Nat} {i : Int32} (hd : decode c.code pc = .ok (.tableswitch d lo hi offs, len)) (hin : ¬ (i.toInt < lo ∨ i.toInt > hi)) (hoff : offs[(i.toInt - lo).toNat]? = some o) (ho : 0 ≤ (pc : Int) + o) (hp : ((pc : Int) + o).toNat = pc') (K : own_Ends p e below s Q kc ks T (mkF m pc' ls st)) : own_Ends p e below s Q kc ks T (mkF m pc ls (.int i :: st)) :=
  own_go (fun t k => XS.tswIn X.here hx rfl rfl hd rfl hin hoff ho hp k) K
theorem own_tswOut (X : Stand p l e R s m args below meth c T locs cells slots) (hx : p.tables.exec = Jvm.exec) {d lo hi : Int} {offs : Array Int} {len : Nat} {i : Int32} (hd : decode c.code pc = .ok (.tableswitch d lo hi offs, len)) (hout : i.toInt < lo ∨ i.toInt > hi) (ho : 0 ≤ (pc : Int) + d) (hp : ((pc : Int) + d).toNat = pc') (K : own_Ends p e below s Q kc ks T (mkF m pc' ls st)) : own_Ends p e below s Q kc ks T (mkF m pc ls (.int i :: st)) :=
  own_go (fun t k => XS.tswOut X.here hx rfl rfl hd rfl hout ho hp k) K
theorem own_ext {h h' : Heap} (K : Keep h h' []) : Ext h h' := ⟨K.1, fun a c q => K.2.1 a c q nin0⟩
theorem own_stak {Z : State} {h h' : Heap} {ws : List Addr} {C n d : String} {v : Value} (F : Sta Z h C n d v) (K : Keep h h' ws) (q : ∀ x ∈ ws, ∃ c : Cell, h[x]? = some c ∧ c.vm.isStatics = false) : Sta Z h' C n d v := by
  obtain ⟨cf, i, k, f, st, cell, h1, h2, h3, h4, h5, h6, h7⟩ := F
  refine ⟨cf, i, k, f, st, cell, h1, h2, h3, h4, K.2.1 st cell h5 (fun z => ?_), h6, h7⟩
  obtain ⟨c, q1, q2⟩ := q st z
  cases h5.symm.trans q1
  rw [h6] at q2; cases q2
theorem own_exac {Z : State} {h : Heap} {a : Addr} {C : String} (F : Exa Z h a C) : ∃ c : Cell, h[a]? = some c ∧ c.vm.isStatics = false := by
  obtain ⟨c, _, h1, -, -, h4, -⟩ := F; exact ⟨c, h1, h4⟩
theorem own_arvc {Z : State} {h : Heap} {a : Addr} {k : ClassId} {ty : FieldType} {n : Int32} {vs : List Value} {d : Value} (F : Arv Z h a k ty n vs d) : ∃ c : Cell, h[a]? = some c ∧ c.vm.isStatics = false := by
  obtain ⟨c, A, -⟩ := F; exact ⟨c, A.1, A.plain⟩
end Own
theorem own_w0 {Z : State} {a0 : Array Value} (hw : ∀ d ∈ tables_1, d.before a0 Z = true) : (Jvm.Cond.constant "com/example/exacting_validator/exactingvalidator/validator/Rfc3339IsFullDatePinLaw" (7 : Nat) (2147483647 : Int32)).before a0 Z = true := hw _ (List.mem_of_getElem? (i := 0) rfl)
theorem own_w1 {Z : State} {a0 : Array Value} (hw : ∀ d ∈ tables_1, d.before a0 Z = true) : (Jvm.Cond.arrayClass Jvm.ClassFile.FieldType.char).before a0 Z = true := hw _ (List.mem_of_getElem? (i := 1) rfl)
theorem own_w2 {Z : State} {a0 : Array Value} (hw : ∀ d ∈ tables_1, d.before a0 Z = true) : (Jvm.Cond.classLink "com/example/exacting_validator/exactingvalidator/validator/Rfc3339IsFullDatePinLaw" (14 : Nat) "java/lang/String").before a0 Z = true := hw _ (List.mem_of_getElem? (i := 2) rfl)
theorem own_w3 {Z : State} {a0 : Array Value} (hw : ∀ d ∈ tables_1, d.before a0 Z = true) : (Jvm.Cond.instantiable "java/lang/String" (4 : Nat)).before a0 Z = true := hw _ (List.mem_of_getElem? (i := 3) rfl)
theorem own_w4 {Z : State} {a0 : Array Value} (hw : ∀ d ∈ tables_1, d.before a0 Z = true) : (Jvm.Cond.initialized "java/lang/String").before a0 Z = true := hw _ (List.mem_of_getElem? (i := 4) rfl)
theorem own_w5 {Z : State} {a0 : Array Value} (hw : ∀ d ∈ tables_1, d.before a0 Z = true) : (Jvm.Cond.methodLink "com/example/exacting_validator/exactingvalidator/validator/Rfc3339IsFullDatePinLaw" (16 : Nat) ({ cls := "java/lang/String", name := "<init>", desc := "([C)V" } : Jvm.MethodName)).before a0 Z = true := hw _ (List.mem_of_getElem? (i := 5) rfl)
theorem own_w6 {Z : State} {a0 : Array Value} (hw : ∀ d ∈ tables_1, d.before a0 Z = true) : (Jvm.Cond.instanceMethod ({ cls := "java/lang/String", name := "<init>", desc := "([C)V" } : Jvm.MethodName)).before a0 Z = true := hw _ (List.mem_of_getElem? (i := 6) rfl)
theorem own_w7 {Z : State} {a0 : Array Value} (hw : ∀ d ∈ tables_1, d.before a0 Z = true) : (Jvm.Cond.code ({ cls := "java/lang/String", name := "<init>", desc := "([C)V" } : Jvm.MethodName) jdk_42_method_3_code (2 : Nat) (Option.none : Option Jvm.ClassFile.FieldType)).before a0 Z = true := hw _ (List.mem_of_getElem? (i := 7) rfl)
theorem own_w8 {Z : State} {a0 : Array Value} (hw : ∀ d ∈ tables_1, d.before a0 Z = true) : (Jvm.Cond.methodLink "java/lang/String" (27 : Nat) ({ cls := "java/lang/String", name := "<init>", desc := "([CIILjava/lang/Void;)V" } : Jvm.MethodName)).before a0 Z = true := hw _ (List.mem_of_getElem? (i := 8) rfl)
theorem own_w9 {Z : State} {a0 : Array Value} (hw : ∀ d ∈ tables_1, d.before a0 Z = true) : (Jvm.Cond.instanceMethod ({ cls := "java/lang/String", name := "<init>", desc := "([CIILjava/lang/Void;)V" } : Jvm.MethodName)).before a0 Z = true := hw _ (List.mem_of_getElem? (i := 9) rfl)
theorem own_w11 {Z : State} {a0 : Array Value} (hw : ∀ d ∈ tables_1, d.before a0 Z = true) : (Jvm.Cond.code ({ cls := "java/lang/String", name := "<init>", desc := "([CIILjava/lang/Void;)V" } : Jvm.MethodName) jdk_42_method_149_code (6 : Nat) (Option.none : Option Jvm.ClassFile.FieldType)).before a0 Z = true := hw _ (List.mem_of_getElem? (i := 11) rfl)
theorem own_w12 {Z : State} {a0 : Array Value} (hw : ∀ d ∈ tables_1, d.before a0 Z = true) : (Jvm.Cond.methodLink "java/lang/String" (1 : Nat) ({ cls := "java/lang/Object", name := "<init>", desc := "()V" } : Jvm.MethodName)).before a0 Z = true := hw _ (List.mem_of_getElem? (i := 12) rfl)
theorem own_w13 {Z : State} {a0 : Array Value} (hw : ∀ d ∈ tables_1, d.before a0 Z = true) : (Jvm.Cond.instanceMethod ({ cls := "java/lang/Object", name := "<init>", desc := "()V" } : Jvm.MethodName)).before a0 Z = true := hw _ (List.mem_of_getElem? (i := 13) rfl)
theorem own_w14 {Z : State} {a0 : Array Value} (hw : ∀ d ∈ tables_1, d.before a0 Z = true) : (Jvm.Cond.code ({ cls := "java/lang/Object", name := "<init>", desc := "()V" } : Jvm.MethodName) object_method_1_code (1 : Nat) (Option.none : Option Jvm.ClassFile.FieldType)).before a0 Z = true := hw _ (List.mem_of_getElem? (i := 14) rfl)
theorem own_w15 {Z : State} {a0 : Array Value} (hw : ∀ d ∈ tables_1, d.before a0 Z = true) : (Jvm.Cond.fieldLink "java/lang/String" (38 : Nat) "java/lang/String" "COMPACT_STRINGS" "Z").before a0 Z = true := hw _ (List.mem_of_getElem? (i := 15) rfl)
theorem own_w16 {Z : State} {a0 : Array Value} (hw : ∀ d ∈ tables_1, d.before a0 Z = true) : (Jvm.Cond.methodLink "java/lang/String" (177 : Nat) ({ cls := "java/lang/StringUTF16", name := "compress", desc := "([CII)[B" } : Jvm.MethodName)).before a0 Z = true := hw _ (List.mem_of_getElem? (i := 16) rfl)
theorem own_w17 {Z : State} {a0 : Array Value} (hw : ∀ d ∈ tables_1, d.before a0 Z = true) : (Jvm.Cond.static ({ cls := "java/lang/StringUTF16", name := "compress", desc := "([CII)[B" } : Jvm.MethodName)).before a0 Z = true := hw _ (List.mem_of_getElem? (i := 17) rfl)
theorem own_w18 {Z : State} {a0 : Array Value} (hw : ∀ d ∈ tables_1, d.before a0 Z = true) : (Jvm.Cond.initialized "java/lang/StringUTF16").before a0 Z = true := hw _ (List.mem_of_getElem? (i := 18) rfl)
theorem own_w19 {Z : State} {a0 : Array Value} (hw : ∀ d ∈ tables_1, d.before a0 Z = true) : (Jvm.Cond.code ({ cls := "java/lang/StringUTF16", name := "compress", desc := "([CII)[B" } : Jvm.MethodName) jdk_52_method_16_code (6 : Nat) (Option.some (Jvm.ClassFile.FieldType.array Jvm.ClassFile.FieldType.byte))).before a0 Z = true := hw _ (List.mem_of_getElem? (i := 19) rfl)
theorem own_w20 {Z : State} {a0 : Array Value} (hw : ∀ d ∈ tables_1, d.before a0 Z = true) : (Jvm.Cond.arrayClass Jvm.ClassFile.FieldType.byte).before a0 Z = true := hw _ (List.mem_of_getElem? (i := 20) rfl)
theorem own_w21 {Z : State} {a0 : Array Value} (hw : ∀ d ∈ tables_1, d.before a0 Z = true) : (Jvm.Cond.methodLink "java/lang/StringUTF16" (115 : Nat) ({ cls := "java/lang/StringUTF16", name := "compress", desc := "([CI[BII)I" } : Jvm.MethodName)).before a0 Z = true := hw _ (List.mem_of_getElem? (i := 21) rfl)
theorem own_w22 {Z : State} {a0 : Array Value} (hw : ∀ d ∈ tables_1, d.before a0 Z = true) : (Jvm.Cond.static ({ cls := "java/lang/StringUTF16", name := "compress", desc := "([CI[BII)I" } : Jvm.MethodName)).before a0 Z = true := hw _ (List.mem_of_getElem? (i := 22) rfl)
theorem own_w23 {Z : State} {a0 : Array Value} (hw : ∀ d ∈ tables_1, d.before a0 Z = true) : (Jvm.Cond.code ({ cls := "java/lang/StringUTF16", name := "compress", desc := "([CI[BII)I" } : Jvm.MethodName) jdk_52_method_21_code (7 : Nat) (Option.some Jvm.ClassFile.FieldType.int)).before a0 Z = true := hw _ (List.mem_of_getElem? (i := 23) rfl)
theorem own_w24 {Z : State} {a0 : Array Value} (hw : ∀ d ∈ tables_1, d.before a0 Z = true) : (Jvm.Cond.methodLink "java/lang/String" (47 : Nat) ({ cls := "java/lang/StringUTF16", name := "coderFromArrayLen", desc := "([BI)B" } : Jvm.MethodName)).before a0 Z = true := hw _ (List.mem_of_getElem? (i := 24) rfl)
theorem own_w25 {Z : State} {a0 : Array Value} (hw : ∀ d ∈ tables_1, d.before a0 Z = true) : (Jvm.Cond.static ({ cls := "java/lang/StringUTF16", name := "coderFromArrayLen", desc := "([BI)B" } : Jvm.MethodName)).before a0 Z = true := hw _ (List.mem_of_getElem? (i := 25) rfl)
theorem own_w26 {Z : State} {a0 : Array Value} (hw : ∀ d ∈ tables_1, d.before a0 Z = true) : (Jvm.Cond.code ({ cls := "java/lang/StringUTF16", name := "coderFromArrayLen", desc := "([BI)B" } : Jvm.MethodName) jdk_52_method_15_code (2 : Nat) (Option.some Jvm.ClassFile.FieldType.byte)).before a0 Z = true := hw _ (List.mem_of_getElem? (i := 26) rfl)
theorem own_w27 {Z : State} {a0 : Array Value} (hw : ∀ d ∈ tables_1, d.before a0 Z = true) : (Jvm.Cond.fieldLink "java/lang/String" (15 : Nat) "java/lang/String" "coder" "B").before a0 Z = true := hw _ (List.mem_of_getElem? (i := 27) rfl)
theorem own_w28 {Z : State} {a0 : Array Value} (hw : ∀ d ∈ tables_1, d.before a0 Z = true) : (Jvm.Cond.laysFinal "java/lang/String" "java/lang/String" "coder" "B").before a0 Z = true := hw _ (List.mem_of_getElem? (i := 28) rfl)
theorem own_w29 {Z : State} {a0 : Array Value} (hw : ∀ d ∈ tables_1, d.before a0 Z = true) : (Jvm.Cond.fieldLink "java/lang/String" (9 : Nat) "java/lang/String" "value" "[B").before a0 Z = true := hw _ (List.mem_of_getElem? (i := 29) rfl)
theorem own_w30 {Z : State} {a0 : Array Value} (hw : ∀ d ∈ tables_1, d.before a0 Z = true) : (Jvm.Cond.laysFinal "java/lang/String" "java/lang/String" "value" "[B").before a0 Z = true := hw _ (List.mem_of_getElem? (i := 30) rfl)
theorem own_w31 {Z : State} {a0 : Array Value} (hw : ∀ d ∈ tables_1, d.before a0 Z = true) : (Jvm.Cond.methodLink "com/example/exacting_validator/exactingvalidator/validator/Rfc3339IsFullDatePinLaw" (19 : Nat) ({ cls := "com/example/exacting_validator/exactingvalidator/validator/Rfc3339IsFullDatePinLaw", name := "wellFormed", desc := "([C)Z" } : Jvm.MethodName)).before a0 Z = true := hw _ (List.mem_of_getElem? (i := 31) rfl)
theorem own_w32 {Z : State} {a0 : Array Value} (hw : ∀ d ∈ tables_1, d.before a0 Z = true) : (Jvm.Cond.static ({ cls := "com/example/exacting_validator/exactingvalidator/validator/Rfc3339IsFullDatePinLaw", name := "wellFormed", desc := "([C)Z" } : Jvm.MethodName)).before a0 Z = true := hw _ (List.mem_of_getElem? (i := 32) rfl)
theorem own_w33 {Z : State} {a0 : Array Value} (hw : ∀ d ∈ tables_1, d.before a0 Z = true) : (Jvm.Cond.initialized "com/example/exacting_validator/exactingvalidator/validator/Rfc3339IsFullDatePinLaw").before a0 Z = true := hw _ (List.mem_of_getElem? (i := 33) rfl)
theorem own_w34 {Z : State} {a0 : Array Value} (hw : ∀ d ∈ tables_1, d.before a0 Z = true) : (Jvm.Cond.code ({ cls := "com/example/exacting_validator/exactingvalidator/validator/Rfc3339IsFullDatePinLaw", name := "wellFormed", desc := "([C)Z" } : Jvm.MethodName) method_6_code (4 : Nat) (Option.some Jvm.ClassFile.FieldType.boolean)).before a0 Z = true := hw _ (List.mem_of_getElem? (i := 34) rfl)
theorem own_w35 {Z : State} {a0 : Array Value} (hw : ∀ d ∈ tables_1, d.before a0 Z = true) : (Jvm.Cond.methodLink "com/example/exacting_validator/exactingvalidator/validator/Rfc3339IsFullDatePinLaw" (29 : Nat) ({ cls := "com/example/exacting_validator/exactingvalidator/validator/Rfc3339IsFullDatePinLaw", name := "dig", desc := "(C)Z" } : Jvm.MethodName)).before a0 Z = true := hw _ (List.mem_of_getElem? (i := 35) rfl)
theorem own_w36 {Z : State} {a0 : Array Value} (hw : ∀ d ∈ tables_1, d.before a0 Z = true) : (Jvm.Cond.static ({ cls := "com/example/exacting_validator/exactingvalidator/validator/Rfc3339IsFullDatePinLaw", name := "dig", desc := "(C)Z" } : Jvm.MethodName)).before a0 Z = true := hw _ (List.mem_of_getElem? (i := 36) rfl)
theorem own_w37 {Z : State} {a0 : Array Value} (hw : ∀ d ∈ tables_1, d.before a0 Z = true) : (Jvm.Cond.code ({ cls := "com/example/exacting_validator/exactingvalidator/validator/Rfc3339IsFullDatePinLaw", name := "dig", desc := "(C)Z" } : Jvm.MethodName) method_4_code (1 : Nat) (Option.some Jvm.ClassFile.FieldType.boolean)).before a0 Z = true := hw _ (List.mem_of_getElem? (i := 37) rfl)
theorem own_w38 {Z : State} {a0 : Array Value} (hw : ∀ d ∈ tables_1, d.before a0 Z = true) : (Jvm.Cond.methodLink "com/example/exacting_validator/exactingvalidator/validator/Rfc3339IsFullDatePinLaw" (33 : Nat) ({ cls := "com/example/exacting_validator/exactingvalidator/validator/Rfc3339IsFullDatePinLaw", name := "val", desc := "(C)I" } : Jvm.MethodName)).before a0 Z = true := hw _ (List.mem_of_getElem? (i := 38) rfl)
theorem own_w39 {Z : State} {a0 : Array Value} (hw : ∀ d ∈ tables_1, d.before a0 Z = true) : (Jvm.Cond.static ({ cls := "com/example/exacting_validator/exactingvalidator/validator/Rfc3339IsFullDatePinLaw", name := "val", desc := "(C)I" } : Jvm.MethodName)).before a0 Z = true := hw _ (List.mem_of_getElem? (i := 39) rfl)
theorem own_w40 {Z : State} {a0 : Array Value} (hw : ∀ d ∈ tables_1, d.before a0 Z = true) : (Jvm.Cond.code ({ cls := "com/example/exacting_validator/exactingvalidator/validator/Rfc3339IsFullDatePinLaw", name := "val", desc := "(C)I" } : Jvm.MethodName) method_5_code (1 : Nat) (Option.some Jvm.ClassFile.FieldType.int)).before a0 Z = true := hw _ (List.mem_of_getElem? (i := 40) rfl)
theorem own_w41 {Z : State} {a0 : Array Value} (hw : ∀ d ∈ tables_1, d.before a0 Z = true) : (Jvm.Cond.methodLink "com/example/exacting_validator/exactingvalidator/validator/Rfc3339IsFullDatePinLaw" (37 : Nat) ({ cls := "com/example/exacting_validator/exactingvalidator/validator/Rfc3339IsFullDatePinLaw", name := "monthLength", desc := "(II)I" } : Jvm.MethodName)).before a0 Z = true := hw _ (List.mem_of_getElem? (i := 41) rfl)
theorem own_w42 {Z : State} {a0 : Array Value} (hw : ∀ d ∈ tables_1, d.before a0 Z = true) : (Jvm.Cond.static ({ cls := "com/example/exacting_validator/exactingvalidator/validator/Rfc3339IsFullDatePinLaw", name := "monthLength", desc := "(II)I" } : Jvm.MethodName)).before a0 Z = true := hw _ (List.mem_of_getElem? (i := 42) rfl)
theorem own_w43 {Z : State} {a0 : Array Value} (hw : ∀ d ∈ tables_1, d.before a0 Z = true) : (Jvm.Cond.code ({ cls := "com/example/exacting_validator/exactingvalidator/validator/Rfc3339IsFullDatePinLaw", name := "monthLength", desc := "(II)I" } : Jvm.MethodName) method_7_code (3 : Nat) (Option.some Jvm.ClassFile.FieldType.int)).before a0 Z = true := hw _ (List.mem_of_getElem? (i := 43) rfl)
theorem own_w44 {Z : State} {a0 : Array Value} (hw : ∀ d ∈ tables_1, d.before a0 Z = true) : (Jvm.Cond.methodLink "com/example/exacting_validator/exactingvalidator/validator/Rfc3339IsFullDatePinLaw" (23 : Nat) ({ cls := "com/example/exacting_validator/exactingvalidator/validator/Rfc3339", name := "isFullDate", desc := "(Ljava/lang/String;)Z" } : Jvm.MethodName)).before a0 Z = true := hw _ (List.mem_of_getElem? (i := 44) rfl)
theorem own_w45 {Z : State} {a0 : Array Value} (hw : ∀ d ∈ tables_1, d.before a0 Z = true) : (Jvm.Cond.static ({ cls := "com/example/exacting_validator/exactingvalidator/validator/Rfc3339", name := "isFullDate", desc := "(Ljava/lang/String;)Z" } : Jvm.MethodName)).before a0 Z = true := hw _ (List.mem_of_getElem? (i := 45) rfl)
theorem own_w46 {Z : State} {a0 : Array Value} (hw : ∀ d ∈ tables_1, d.before a0 Z = true) : (Jvm.Cond.initialized "com/example/exacting_validator/exactingvalidator/validator/Rfc3339").before a0 Z = true := hw _ (List.mem_of_getElem? (i := 46) rfl)
theorem own_w47 {Z : State} {a0 : Array Value} (hw : ∀ d ∈ tables_1, d.before a0 Z = true) : (Jvm.Cond.code ({ cls := "com/example/exacting_validator/exactingvalidator/validator/Rfc3339", name := "isFullDate", desc := "(Ljava/lang/String;)Z" } : Jvm.MethodName) prog_7_method_3_code (1 : Nat) (Option.some Jvm.ClassFile.FieldType.boolean)).before a0 Z = true := hw _ (List.mem_of_getElem? (i := 47) rfl)
theorem own_w48 {Z : State} {a0 : Array Value} (hw : ∀ d ∈ tables_1, d.before a0 Z = true) : (Jvm.Cond.methodLink "com/example/exacting_validator/exactingvalidator/validator/Rfc3339" (7 : Nat) ({ cls := "java/lang/String", name := "length", desc := "()I" } : Jvm.MethodName)).before a0 Z = true := hw _ (List.mem_of_getElem? (i := 48) rfl)
theorem own_w49 {Z : State} {a0 : Array Value} (hw : ∀ d ∈ tables_1, d.before a0 Z = true) : (Jvm.Cond.declares ({ cls := "java/lang/String", name := "length", desc := "()I" } : Jvm.MethodName)).before a0 Z = true := hw _ (List.mem_of_getElem? (i := 49) rfl)
theorem own_w50 {Z : State} {a0 : Array Value} (hw : ∀ d ∈ tables_1, d.before a0 Z = true) : (Jvm.Cond.instanceMethod ({ cls := "java/lang/String", name := "length", desc := "()I" } : Jvm.MethodName)).before a0 Z = true := hw _ (List.mem_of_getElem? (i := 50) rfl)
theorem own_w51 {Z : State} {a0 : Array Value} (hw : ∀ d ∈ tables_1, d.before a0 Z = true) : (Jvm.Cond.selects "java/lang/String" ({ cls := "java/lang/String", name := "length", desc := "()I" } : Jvm.MethodName) ({ cls := "java/lang/String", name := "length", desc := "()I" } : Jvm.MethodName)).before a0 Z = true := hw _ (List.mem_of_getElem? (i := 51) rfl)
theorem own_w52 {Z : State} {a0 : Array Value} (hw : ∀ d ∈ tables_1, d.before a0 Z = true) : (Jvm.Cond.code ({ cls := "java/lang/String", name := "length", desc := "()I" } : Jvm.MethodName) jdk_42_method_54_code (1 : Nat) (Option.some Jvm.ClassFile.FieldType.int)).before a0 Z = true := hw _ (List.mem_of_getElem? (i := 52) rfl)
theorem own_w53 {Z : State} {a0 : Array Value} (hw : ∀ d ∈ tables_1, d.before a0 Z = true) : (Jvm.Cond.methodLink "java/lang/String" (335 : Nat) ({ cls := "java/lang/String", name := "coder", desc := "()B" } : Jvm.MethodName)).before a0 Z = true := hw _ (List.mem_of_getElem? (i := 53) rfl)
theorem own_w54 {Z : State} {a0 : Array Value} (hw : ∀ d ∈ tables_1, d.before a0 Z = true) : (Jvm.Cond.declares ({ cls := "java/lang/String", name := "coder", desc := "()B" } : Jvm.MethodName)).before a0 Z = true := hw _ (List.mem_of_getElem? (i := 54) rfl)
theorem own_w55 {Z : State} {a0 : Array Value} (hw : ∀ d ∈ tables_1, d.before a0 Z = true) : (Jvm.Cond.instanceMethod ({ cls := "java/lang/String", name := "coder", desc := "()B" } : Jvm.MethodName)).before a0 Z = true := hw _ (List.mem_of_getElem? (i := 55) rfl)
theorem own_w56 {Z : State} {a0 : Array Value} (hw : ∀ d ∈ tables_1, d.before a0 Z = true) : (Jvm.Cond.selects "java/lang/String" ({ cls := "java/lang/String", name := "coder", desc := "()B" } : Jvm.MethodName) ({ cls := "java/lang/String", name := "coder", desc := "()B" } : Jvm.MethodName)).before a0 Z = true := hw _ (List.mem_of_getElem? (i := 56) rfl)
theorem own_w57 {Z : State} {a0 : Array Value} (hw : ∀ d ∈ tables_1, d.before a0 Z = true) : (Jvm.Cond.code ({ cls := "java/lang/String", name := "coder", desc := "()B" } : Jvm.MethodName) jdk_42_method_152_code (1 : Nat) (Option.some Jvm.ClassFile.FieldType.byte)).before a0 Z = true := hw _ (List.mem_of_getElem? (i := 57) rfl)
theorem own_w58 {Z : State} {a0 : Array Value} (hw : ∀ d ∈ tables_1, d.before a0 Z = true) : (Jvm.Cond.methodLink "com/example/exacting_validator/exactingvalidator/validator/Rfc3339" (15 : Nat) ({ cls := "com/example/exacting_validator/exactingvalidator/validator/Rfc3339", name := "isFullDateAt", desc := "(Ljava/lang/String;I)Z" } : Jvm.MethodName)).before a0 Z = true := hw _ (List.mem_of_getElem? (i := 58) rfl)
theorem own_w59 {Z : State} {a0 : Array Value} (hw : ∀ d ∈ tables_1, d.before a0 Z = true) : (Jvm.Cond.static ({ cls := "com/example/exacting_validator/exactingvalidator/validator/Rfc3339", name := "isFullDateAt", desc := "(Ljava/lang/String;I)Z" } : Jvm.MethodName)).before a0 Z = true := hw _ (List.mem_of_getElem? (i := 59) rfl)
theorem own_w60 {Z : State} {a0 : Array Value} (hw : ∀ d ∈ tables_1, d.before a0 Z = true) : (Jvm.Cond.code ({ cls := "com/example/exacting_validator/exactingvalidator/validator/Rfc3339", name := "isFullDateAt", desc := "(Ljava/lang/String;I)Z" } : Jvm.MethodName) prog_7_method_6_code (5 : Nat) (Option.some Jvm.ClassFile.FieldType.boolean)).before a0 Z = true := hw _ (List.mem_of_getElem? (i := 60) rfl)
theorem own_w61 {Z : State} {a0 : Array Value} (hw : ∀ d ∈ tables_1, d.before a0 Z = true) : (Jvm.Cond.methodLink "com/example/exacting_validator/exactingvalidator/validator/Rfc3339" (40 : Nat) ({ cls := "com/example/exacting_validator/exactingvalidator/validator/Rfc3339", name := "digits", desc := "(Ljava/lang/String;II)I" } : Jvm.MethodName)).before a0 Z = true := hw _ (List.mem_of_getElem? (i := 61) rfl)
theorem own_w62 {Z : State} {a0 : Array Value} (hw : ∀ d ∈ tables_1, d.before a0 Z = true) : (Jvm.Cond.static ({ cls := "com/example/exacting_validator/exactingvalidator/validator/Rfc3339", name := "digits", desc := "(Ljava/lang/String;II)I" } : Jvm.MethodName)).before a0 Z = true := hw _ (List.mem_of_getElem? (i := 62) rfl)
theorem own_w63 {Z : State} {a0 : Array Value} (hw : ∀ d ∈ tables_1, d.before a0 Z = true) : (Jvm.Cond.code ({ cls := "com/example/exacting_validator/exactingvalidator/validator/Rfc3339", name := "digits", desc := "(Ljava/lang/String;II)I" } : Jvm.MethodName) prog_7_method_11_code (6 : Nat) (Option.some Jvm.ClassFile.FieldType.int)).before a0 Z = true := hw _ (List.mem_of_getElem? (i := 63) rfl)
theorem own_w64 {Z : State} {a0 : Array Value} (hw : ∀ d ∈ tables_1, d.before a0 Z = true) : (Jvm.Cond.methodLink "com/example/exacting_validator/exactingvalidator/validator/Rfc3339" (44 : Nat) ({ cls := "java/lang/String", name := "charAt", desc := "(I)C" } : Jvm.MethodName)).before a0 Z = true := hw _ (List.mem_of_getElem? (i := 64) rfl)
theorem own_w65 {Z : State} {a0 : Array Value} (hw : ∀ d ∈ tables_1, d.before a0 Z = true) : (Jvm.Cond.declares ({ cls := "java/lang/String", name := "charAt", desc := "(I)C" } : Jvm.MethodName)).before a0 Z = true := hw _ (List.mem_of_getElem? (i := 65) rfl)
theorem own_w66 {Z : State} {a0 : Array Value} (hw : ∀ d ∈ tables_1, d.before a0 Z = true) : (Jvm.Cond.instanceMethod ({ cls := "java/lang/String", name := "charAt", desc := "(I)C" } : Jvm.MethodName)).before a0 Z = true := hw _ (List.mem_of_getElem? (i := 66) rfl)
theorem own_w67 {Z : State} {a0 : Array Value} (hw : ∀ d ∈ tables_1, d.before a0 Z = true) : (Jvm.Cond.selects "java/lang/String" ({ cls := "java/lang/String", name := "charAt", desc := "(I)C" } : Jvm.MethodName) ({ cls := "java/lang/String", name := "charAt", desc := "(I)C" } : Jvm.MethodName)).before a0 Z = true := hw _ (List.mem_of_getElem? (i := 67) rfl)
theorem own_w68 {Z : State} {a0 : Array Value} (hw : ∀ d ∈ tables_1, d.before a0 Z = true) : (Jvm.Cond.code ({ cls := "java/lang/String", name := "charAt", desc := "(I)C" } : Jvm.MethodName) jdk_42_method_56_code (2 : Nat) (Option.some Jvm.ClassFile.FieldType.char)).before a0 Z = true := hw _ (List.mem_of_getElem? (i := 68) rfl)
theorem own_w69 {Z : State} {a0 : Array Value} (hw : ∀ d ∈ tables_1, d.before a0 Z = true) : (Jvm.Cond.methodLink "java/lang/String" (492 : Nat) ({ cls := "java/lang/String", name := "isLatin1", desc := "()Z" } : Jvm.MethodName)).before a0 Z = true := hw _ (List.mem_of_getElem? (i := 69) rfl)
theorem own_w70 {Z : State} {a0 : Array Value} (hw : ∀ d ∈ tables_1, d.before a0 Z = true) : (Jvm.Cond.declares ({ cls := "java/lang/String", name := "isLatin1", desc := "()Z" } : Jvm.MethodName)).before a0 Z = true := hw _ (List.mem_of_getElem? (i := 70) rfl)
theorem own_w71 {Z : State} {a0 : Array Value} (hw : ∀ d ∈ tables_1, d.before a0 Z = true) : (Jvm.Cond.instanceMethod ({ cls := "java/lang/String", name := "isLatin1", desc := "()Z" } : Jvm.MethodName)).before a0 Z = true := hw _ (List.mem_of_getElem? (i := 71) rfl)
theorem own_w72 {Z : State} {a0 : Array Value} (hw : ∀ d ∈ tables_1, d.before a0 Z = true) : (Jvm.Cond.selects "java/lang/String" ({ cls := "java/lang/String", name := "isLatin1", desc := "()Z" } : Jvm.MethodName) ({ cls := "java/lang/String", name := "isLatin1", desc := "()Z" } : Jvm.MethodName)).before a0 Z = true := hw _ (List.mem_of_getElem? (i := 72) rfl)
theorem own_w73 {Z : State} {a0 : Array Value} (hw : ∀ d ∈ tables_1, d.before a0 Z = true) : (Jvm.Cond.code ({ cls := "java/lang/String", name := "isLatin1", desc := "()Z" } : Jvm.MethodName) jdk_42_method_154_code (1 : Nat) (Option.some Jvm.ClassFile.FieldType.boolean)).before a0 Z = true := hw _ (List.mem_of_getElem? (i := 73) rfl)
theorem own_w74 {Z : State} {a0 : Array Value} (hw : ∀ d ∈ tables_1, d.before a0 Z = true) : (Jvm.Cond.methodLink "java/lang/String" (495 : Nat) ({ cls := "java/lang/StringLatin1", name := "charAt", desc := "([BI)C" } : Jvm.MethodName)).before a0 Z = true := hw _ (List.mem_of_getElem? (i := 74) rfl)
theorem own_w75 {Z : State} {a0 : Array Value} (hw : ∀ d ∈ tables_1, d.before a0 Z = true) : (Jvm.Cond.static ({ cls := "java/lang/StringLatin1", name := "charAt", desc := "([BI)C" } : Jvm.MethodName)).before a0 Z = true := hw _ (List.mem_of_getElem? (i := 75) rfl)
theorem own_w76 {Z : State} {a0 : Array Value} (hw : ∀ d ∈ tables_1, d.before a0 Z = true) : (Jvm.Cond.initialized "java/lang/StringLatin1").before a0 Z = true := hw _ (List.mem_of_getElem? (i := 76) rfl)
theorem own_w77 {Z : State} {a0 : Array Value} (hw : ∀ d ∈ tables_1, d.before a0 Z = true) : (Jvm.Cond.code ({ cls := "java/lang/StringLatin1", name := "charAt", desc := "([BI)C" } : Jvm.MethodName) jdk_43_method_2_code (2 : Nat) (Option.some Jvm.ClassFile.FieldType.char)).before a0 Z = true := hw _ (List.mem_of_getElem? (i := 77) rfl)
theorem own_w78 {Z : State} {a0 : Array Value} (hw : ∀ d ∈ tables_1, d.before a0 Z = true) : (Jvm.Cond.methodLink "java/lang/StringLatin1" (9 : Nat) ({ cls := "java/lang/String", name := "checkIndex", desc := "(II)V" } : Jvm.MethodName)).before a0 Z = true := hw _ (List.mem_of_getElem? (i := 78) rfl)
theorem own_w79 {Z : State} {a0 : Array Value} (hw : ∀ d ∈ tables_1, d.before a0 Z = true) : (Jvm.Cond.static ({ cls := "java/lang/String", name := "checkIndex", desc := "(II)V" } : Jvm.MethodName)).before a0 Z = true := hw _ (List.mem_of_getElem? (i := 79) rfl)
theorem own_w80 {Z : State} {a0 : Array Value} (hw : ∀ d ∈ tables_1, d.before a0 Z = true) : (Jvm.Cond.code ({ cls := "java/lang/String", name := "checkIndex", desc := "(II)V" } : Jvm.MethodName) jdk_42_method_155_code (2 : Nat) (Option.none : Option Jvm.ClassFile.FieldType)).before a0 Z = true := hw _ (List.mem_of_getElem? (i := 80) rfl)
theorem own_w81 {Z : State} {a0 : Array Value} (hw : ∀ d ∈ tables_1, d.before a0 Z = true) : (Jvm.Cond.fieldLink "java/lang/String" (1053 : Nat) "jdk/internal/util/Preconditions" "SIOOBE_FORMATTER" "Ljava/util/function/BiFunction;").before a0 Z = true := hw _ (List.mem_of_getElem? (i := 81) rfl)
theorem own_w82 {Z : State} {a0 : Array Value} (hw : ∀ d ∈ tables_1, d.before a0 Z = true) : (Jvm.Cond.initialized "jdk/internal/util/Preconditions").before a0 Z = true := hw _ (List.mem_of_getElem? (i := 82) rfl)
theorem own_w83 {Z : State} {a0 : Array Value} (hw : ∀ d ∈ tables_1, d.before a0 Z = true) : (Jvm.Cond.methodLink "java/lang/String" (1059 : Nat) ({ cls := "jdk/internal/util/Preconditions", name := "checkIndex", desc := "(IILjava/util/function/BiFunction;)I" } : Jvm.MethodName)).before a0 Z = true := hw _ (List.mem_of_getElem? (i := 83) rfl)
theorem own_w84 {Z : State} {a0 : Array Value} (hw : ∀ d ∈ tables_1, d.before a0 Z = true) : (Jvm.Cond.static ({ cls := "jdk/internal/util/Preconditions", name := "checkIndex", desc := "(IILjava/util/function/BiFunction;)I" } : Jvm.MethodName)).before a0 Z = true := hw _ (List.mem_of_getElem? (i := 84) rfl)
theorem own_w85 {Z : State} {a0 : Array Value} (hw : ∀ d ∈ tables_1, d.before a0 Z = true) : (Jvm.Cond.code ({ cls := "jdk/internal/util/Preconditions", name := "checkIndex", desc := "(IILjava/util/function/BiFunction;)I" } : Jvm.MethodName) jdk_41_method_11_code (3 : Nat) (Option.some Jvm.ClassFile.FieldType.int)).before a0 Z = true := hw _ (List.mem_of_getElem? (i := 85) rfl)
theorem own_w86 {Z : State} {a0 : Array Value} (hw : ∀ d ∈ tables_1, d.before a0 Z = true) : (Jvm.Cond.methodLink "com/example/exacting_validator/exactingvalidator/validator/Rfc3339" (48 : Nat) ({ cls := "com/example/exacting_validator/exactingvalidator/validator/Rfc3339", name := "daysIn", desc := "(II)I" } : Jvm.MethodName)).before a0 Z = true := hw _ (List.mem_of_getElem? (i := 86) rfl)
theorem own_w87 {Z : State} {a0 : Array Value} (hw : ∀ d ∈ tables_1, d.before a0 Z = true) : (Jvm.Cond.static ({ cls := "com/example/exacting_validator/exactingvalidator/validator/Rfc3339", name := "daysIn", desc := "(II)I" } : Jvm.MethodName)).before a0 Z = true := hw _ (List.mem_of_getElem? (i := 87) rfl)
theorem own_w88 {Z : State} {a0 : Array Value} (hw : ∀ d ∈ tables_1, d.before a0 Z = true) : (Jvm.Cond.code ({ cls := "com/example/exacting_validator/exactingvalidator/validator/Rfc3339", name := "daysIn", desc := "(II)I" } : Jvm.MethodName) prog_7_method_7_code (4 : Nat) (Option.some Jvm.ClassFile.FieldType.int)).before a0 Z = true := hw _ (List.mem_of_getElem? (i := 88) rfl)
theorem own_w89 {Z : State} {a0 : Array Value} (hw : ∀ d ∈ tables_1, d.before a0 Z = true) : (Jvm.Cond.methodLink "com/example/exacting_validator/exactingvalidator/validator/Rfc3339IsFullDatePinLaw" (8 : Nat) ({ cls := "com/example/exacting_validator/exactingvalidator/validator/Rfc3339IsFullDatePinLaw", name := "drawn", desc := "(I)C" } : Jvm.MethodName)).before a0 Z = true := hw _ (List.mem_of_getElem? (i := 89) rfl)
theorem own_w90 {Z : State} {a0 : Array Value} (hw : ∀ d ∈ tables_1, d.before a0 Z = true) : (Jvm.Cond.static ({ cls := "com/example/exacting_validator/exactingvalidator/validator/Rfc3339IsFullDatePinLaw", name := "drawn", desc := "(I)C" } : Jvm.MethodName)).before a0 Z = true := hw _ (List.mem_of_getElem? (i := 90) rfl)
theorem own_w91 {Z : State} {a0 : Array Value} (hw : ∀ d ∈ tables_1, d.before a0 Z = true) : (Jvm.Cond.code ({ cls := "com/example/exacting_validator/exactingvalidator/validator/Rfc3339IsFullDatePinLaw", name := "drawn", desc := "(I)C" } : Jvm.MethodName) method_3_code (3 : Nat) (Option.some Jvm.ClassFile.FieldType.char)).before a0 Z = true := hw _ (List.mem_of_getElem? (i := 91) rfl)
theorem own_pd0 : parseMethodDescriptor "([CI[BII)I" = some ⟨[(.array .char), .int, (.array .byte), .int, .int], some .int⟩ := by decide +kernel
theorem own_pd1 : parseMethodDescriptor "([CII)[B" = some ⟨[(.array .char), .int, .int], some (.array .byte)⟩ := by decide +kernel
theorem own_pd2 : parseMethodDescriptor "([BI)B" = some ⟨[(.array .byte), .int], some .byte⟩ := by decide +kernel
theorem own_pd3 : parseMethodDescriptor "([CIILjava/lang/Void;)V" = some ⟨[(.array .char), .int, .int, (.object "java/lang/Void")], none⟩ := by decide +kernel
theorem own_pd4 : parseMethodDescriptor "()B" = some ⟨[], some .byte⟩ := by decide +kernel
theorem own_pd5 : parseMethodDescriptor "(IILjava/util/function/BiFunction;)I" = some ⟨[.int, .int, (.object "java/util/function/BiFunction")], some .int⟩ := by decide +kernel
theorem own_pd6 : parseMethodDescriptor "(II)V" = some ⟨[.int, .int], none⟩ := by decide +kernel
theorem own_pd7 : parseMethodDescriptor "()Z" = some ⟨[], some .boolean⟩ := by decide +kernel
theorem own_pd8 : parseMethodDescriptor "([BI)C" = some ⟨[(.array .byte), .int], some .char⟩ := by decide +kernel
theorem own_pd9 : parseMethodDescriptor "()I" = some ⟨[], some .int⟩ := by decide +kernel
theorem own_pd10 : parseMethodDescriptor "(I)C" = some ⟨[.int], some .char⟩ := by decide +kernel
theorem own_pd11 : parseMethodDescriptor "(Ljava/lang/String;II)I" = some ⟨[(.object "java/lang/String"), .int, .int], some .int⟩ := by decide +kernel
theorem own_pd12 : parseMethodDescriptor "(II)I" = some ⟨[.int, .int], some .int⟩ := by decide +kernel
theorem own_pd13 : parseMethodDescriptor "(Ljava/lang/String;I)Z" = some ⟨[(.object "java/lang/String"), .int], some .boolean⟩ := by decide +kernel
theorem own_pd14 : parseMethodDescriptor "(C)Z" = some ⟨[.char], some .boolean⟩ := by decide +kernel
theorem own_pd15 : parseMethodDescriptor "(C)I" = some ⟨[.char], some .int⟩ := by decide +kernel
theorem own_pd16 : parseMethodDescriptor "([C)V" = some ⟨[(.array .char)], none⟩ := by decide +kernel
theorem own_pd17 : parseMethodDescriptor "(Ljava/lang/String;)Z" = some ⟨[(.object "java/lang/String")], some .boolean⟩ := by decide +kernel
theorem own_pd18 : parseMethodDescriptor "([C)Z" = some ⟨[(.array .char)], some .boolean⟩ := by decide +kernel
theorem own_pn0 : plainName "com/example/exacting_validator/exactingvalidator/validator/Rfc3339IsFullDatePinLaw" = true := by first | (simp [plainName, overriddenIn]; done) | decide +kernel
theorem own_pn1 : plainName "java/lang/StringUTF16" = true := by first | (simp [plainName, overriddenIn]; done) | decide +kernel
theorem own_pn2 : plainName "java/lang/String" = true := by first | (simp [plainName, overriddenIn]; done) | decide +kernel
theorem own_pn3 : plainName "jdk/internal/util/Preconditions" = true := by first | (simp [plainName, overriddenIn]; done) | decide +kernel
theorem own_pn4 : plainName "java/lang/StringLatin1" = true := by first | (simp [plainName, overriddenIn]; done) | decide +kernel
theorem own_pn5 : plainName "com/example/exacting_validator/exactingvalidator/validator/Rfc3339" = true := by first | (simp [plainName, overriddenIn]; done) | decide +kernel
theorem own_arrat {s : State} {a : Addr} {c : Cell} (h : s.arrayAt? a = some c) : s.heap[a]? = some c := by
  unfold State.arrayAt? at h
  cases q : s.heap[a]? with
  | none => simp [q] at h
  | some d =>
    simp [q] at h
    obtain ⟨k, -, h2⟩ := Option.bind_eq_some_iff.mp h
    split at h2
    · cases h2
    · split at h2
      · exact h2
      · cases h2
theorem own_b1 {x a b : Int32} (h : x < a) (q : ¬ b < a) : x < b := by rw [Int32.lt_iff_toInt_lt] at *; omega
theorem own_b2 {x a b : Int32} (h : ¬ x < a) (q : ¬ a < b) : ¬ x < b := by rw [Int32.lt_iff_toInt_lt] at *; omega
theorem own_b3 {x a b : Int32} (h : a < x) (q : ¬ a < b) : b < x := by rw [Int32.lt_iff_toInt_lt] at *; omega
theorem own_b4 {x a b : Int32} (h : ¬ a < x) (q : ¬ b < a) : ¬ b < x := by rw [Int32.lt_iff_toInt_lt] at *; omega
theorem own_b5 {x a b : Int32} (h : x < a) (q : ¬ b < a - 1 ∧ a - 1 < a) : ¬ b < x := by
  obtain ⟨q1, q2⟩ := q
  have := c_isub a 1; have := rng32 a; have := rng32 (a - 1); have e1 : (1 : Int32).toInt = 1 := rfl
  rw [Int32.lt_iff_toInt_lt] at *; omega
theorem own_b6 {x a b : Int32} (h : ¬ x < a) (q : b < a) : b < x := by rw [Int32.lt_iff_toInt_lt] at *; omega
theorem own_b7 {x a b : Int32} (h : a < x) (q : ¬ a + 1 < b ∧ a < a + 1) : ¬ x < b := by
  obtain ⟨q1, q2⟩ := q
  have := c_iadd a 1; have := rng32 a; have := rng32 (a + 1); have e1 : (1 : Int32).toInt = 1 := rfl
  rw [Int32.lt_iff_toInt_lt] at *; omega
theorem own_b8 {x a b : Int32} (h : ¬ a < x) (q : a < b) : x < b := by rw [Int32.lt_iff_toInt_lt] at *; omega
theorem own_n1 {x b : Int32} (h : x < b) : ¬ x = b := fun q => by subst q; rw [Int32.lt_iff_toInt_lt] at h; omega
theorem own_n2 {x b : Int32} (h : b < x) : ¬ x = b := fun q => by subst q; rw [Int32.lt_iff_toInt_lt] at h; omega
theorem own_i1 {x y : Int32} (h : x < y) : x.toInt < y.toInt := Int32.lt_iff_toInt_lt.mp h
theorem own_i2 {x y : Int32} (h : ¬ x < y) : y.toInt ≤ x.toInt := Int.not_lt.mp fun q => h (Int32.lt_iff_toInt_lt.mpr q)
theorem own_i3 {x y : Int32} (h : x = y) : x.toInt = y.toInt := congrArg Int32.toInt h
theorem own_i4 {x y : Int32} (h : ¬ x = y) : ¬ x.toInt = y.toInt := fun q => h (Int32.toInt_inj.mp q)
theorem own_some {x y : Int32} (h : x = y) : some (Value.int x) = some (Value.int y) := congrArg (fun z => some (Value.int z)) h
theorem own_ae1 {a b : Addr} (h : a = b) : XT.acmp .eq (.ref a) (.ref b) = true ∧ XT.acmp .ne (.ref a) (.ref b) = false := ⟨decide_eq_true (congrArg Value.ref h), decide_eq_false fun q => q (congrArg Value.ref h)⟩
theorem own_ae0 {a b : Addr} (h : ¬ a = b) : XT.acmp .eq (.ref a) (.ref b) = false ∧ XT.acmp .ne (.ref a) (.ref b) = true := ⟨decide_eq_false fun q => h (Value.ref.inj q), decide_eq_true fun q => h (Value.ref.inj q)⟩
theorem own_ann : XT.acmp .eq .null .null = true ∧ XT.acmp .ne .null .null = false := ⟨rfl, rfl⟩
theorem own_anr (b : Addr) : XT.acmp .eq .null (.ref b) = false ∧ XT.acmp .ne .null (.ref b) = true := by constructor <;> first | rfl | (simp [XT.acmp]; done) | decide
theorem own_arn (b : Addr) : XT.acmp .eq (.ref b) .null = false ∧ XT.acmp .ne (.ref b) .null = true := by constructor <;> first | rfl | (simp [XT.acmp]; done) | decide
theorem own_eqi {args : Array Value} {s : State} {t : Term} {k : Int32} (h : (Jvm.Cond.eq t (Term.int k)).value args s none s [] = some true) : t.eval args s none [] s = some (.int k) := by
  obtain ⟨x, y, e1, e2, k1, k2⟩ := cmp_v (Or.inl h)
  obtain rfl : Value.int k = y := Option.some.inj ((Term.int_eval k).symm.trans e2)
  obtain ⟨z, rfl⟩ : ∃ z, x = .int z := k2
  have q : z = k := gotT (Cond.eq_ints e1 (Term.int_eval k)) h
  rw [e1, q]
theorem own_eql {args : Array Value} {s : State} {t : Term} {k : Int64} (h : (Jvm.Cond.eq t (Term.long k)).value args s none s [] = some true) : t.eval args s none [] s = some (.long k) := by
  obtain ⟨x, y, e1, e2, k1, k2⟩ := cmp_v (Or.inl h)
  obtain rfl : Value.long k = y := Option.some.inj ((show (Term.long k).eval args s none [] s = some (.long k) from rfl).symm.trans e2)
  obtain ⟨z, rfl⟩ : ∃ z, x = .long z := k2
  have q : z = k := gotT (eq_L e1 (show (Term.long k).eval args s none [] s = some (.long k) from rfl)) h
  rw [e1, q]
theorem own_len {args : Array Value} {s : State} {t : Term} {k : Int32} {a : Addr} {c : Cell} (h : (Term.length t).eval args s none [] s = some (.int k)) (ht : t.eval args s none [] s = some (.ref a)) (hc : s.heap[a]? = some c) : c.slots.size.toInt32 = k ∧ c.slots.size < 2 ^ 31 := by
  obtain ⟨a', cell, e1, e2, e3⟩ := Term.length_spec h
  cases ht.symm.trans e1
  have e4 : s.heap[a]? = some cell := own_arrat e2
  cases hc.symm.trans e4
  refine ⟨(Value.int.inj e3).symm, ?_⟩
  by_cases q : c.slots.size < 2 ^ 31
  · exact q
  · simp [Term.eval, ht, e2, q] at h
theorem own_nb0 : nar .boolean 0 = 0 := by decide
theorem own_nb1 : nar .boolean 1 = 1 := by decide
def own_ushr (x y : Int32) : Int32 := (x.toUInt32 >>> (y &&& 31).toUInt32).toInt32
def own_ushrL (x : Int64) (y : Int32) : Int64 := (x.toUInt64 >>> (y &&& 0x3f).toInt64.toUInt64).toInt64
theorem own_d1_0 : decode jdk_42_method_3_code 0 = .ok (.aload_n 0, 1) := by decide +kernel
theorem own_d1_1 : decode jdk_42_method_3_code 1 = .ok (.aload_n 1, 1) := by decide +kernel
theorem own_d1_2 : decode jdk_42_method_3_code 2 = .ok (.iconst 0, 1) := by decide +kernel
theorem own_d1_3 : decode jdk_42_method_3_code 3 = .ok (.aload_n 1, 1) := by decide +kernel
theorem own_d1_4 : decode jdk_42_method_3_code 4 = .ok (.arraylength, 1) := by decide +kernel
theorem own_d1_5 : decode jdk_42_method_3_code 5 = .ok (.aconst_null, 1) := by decide +kernel
theorem own_d1_6 : decode jdk_42_method_3_code 6 = .ok (.invokespecial 27, 3) := by decide +kernel
theorem own_d1_9 : decode jdk_42_method_3_code 9 = .ok (.return_, 1) := by decide +kernel
theorem own_d2_0 : decode jdk_42_method_149_code 0 = .ok (.aload_n 0, 1) := by decide +kernel
theorem own_d2_1 : decode jdk_42_method_149_code 1 = .ok (.invokespecial 1, 3) := by decide +kernel
theorem own_d2_4 : decode jdk_42_method_149_code 4 = .ok (.iload_n 3, 1) := by decide +kernel
theorem own_d2_5 : decode jdk_42_method_149_code 5 = .ok (.ifCond .ne 22, 3) := by decide +kernel
theorem own_d2_8 : decode jdk_42_method_149_code 8 = .ok (.aload_n 0, 1) := by decide +kernel
theorem own_d2_9 : decode jdk_42_method_149_code 9 = .ok (.ldc 7, 2) := by decide +kernel
theorem own_d2_11 : decode jdk_42_method_149_code 11 = .ok (.getfield 9, 3) := by decide +kernel
theorem own_d2_14 : decode jdk_42_method_149_code 14 = .ok (.putfield 9, 3) := by decide +kernel
theorem own_d2_17 : decode jdk_42_method_149_code 17 = .ok (.aload_n 0, 1) := by decide +kernel
theorem own_d2_18 : decode jdk_42_method_149_code 18 = .ok (.ldc 7, 2) := by decide +kernel
theorem own_d2_20 : decode jdk_42_method_149_code 20 = .ok (.getfield 15, 3) := by decide +kernel
theorem own_d2_23 : decode jdk_42_method_149_code 23 = .ok (.putfield 15, 3) := by decide +kernel
theorem own_d2_26 : decode jdk_42_method_149_code 26 = .ok (.return_, 1) := by decide +kernel
theorem own_d2_27 : decode jdk_42_method_149_code 27 = .ok (.getstatic 38, 3) := by decide +kernel
theorem own_d2_30 : decode jdk_42_method_149_code 30 = .ok (.ifCond .eq 28, 3) := by decide +kernel
theorem own_d2_33 : decode jdk_42_method_149_code 33 = .ok (.aload_n 1, 1) := by decide +kernel
theorem own_d2_34 : decode jdk_42_method_149_code 34 = .ok (.iload_n 2, 1) := by decide +kernel
theorem own_d2_35 : decode jdk_42_method_149_code 35 = .ok (.iload_n 3, 1) := by decide +kernel
theorem own_d2_36 : decode jdk_42_method_149_code 36 = .ok (.invokestatic 177, 3) := by decide +kernel
theorem own_d2_39 : decode jdk_42_method_149_code 39 = .ok (.astore 5, 2) := by decide +kernel
theorem own_d2_41 : decode jdk_42_method_149_code 41 = .ok (.aload_n 0, 1) := by decide +kernel
theorem own_d2_42 : decode jdk_42_method_149_code 42 = .ok (.aload 5, 2) := by decide +kernel
theorem own_d2_44 : decode jdk_42_method_149_code 44 = .ok (.iload_n 3, 1) := by decide +kernel
theorem own_d2_45 : decode jdk_42_method_149_code 45 = .ok (.invokestatic 47, 3) := by decide +kernel
theorem own_d2_48 : decode jdk_42_method_149_code 48 = .ok (.putfield 15, 3) := by decide +kernel
theorem own_d2_51 : decode jdk_42_method_149_code 51 = .ok (.aload_n 0, 1) := by decide +kernel
theorem own_d2_52 : decode jdk_42_method_149_code 52 = .ok (.aload 5, 2) := by decide +kernel
theorem own_d2_54 : decode jdk_42_method_149_code 54 = .ok (.putfield 9, 3) := by decide +kernel
theorem own_d2_57 : decode jdk_42_method_149_code 57 = .ok (.return_, 1) := by decide +kernel
theorem own_d2_58 : decode jdk_42_method_149_code 58 = .ok (.aload_n 0, 1) := by decide +kernel
theorem own_d2_59 : decode jdk_42_method_149_code 59 = .ok (.iconst 1, 1) := by decide +kernel
theorem own_d2_60 : decode jdk_42_method_149_code 60 = .ok (.putfield 15, 3) := by decide +kernel
theorem own_d2_63 : decode jdk_42_method_149_code 63 = .ok (.aload_n 0, 1) := by decide +kernel
theorem own_d2_64 : decode jdk_42_method_149_code 64 = .ok (.aload_n 1, 1) := by decide +kernel
theorem own_d2_65 : decode jdk_42_method_149_code 65 = .ok (.iload_n 2, 1) := by decide +kernel
theorem own_d2_66 : decode jdk_42_method_149_code 66 = .ok (.iload_n 3, 1) := by decide +kernel
theorem own_d2_67 : decode jdk_42_method_149_code 67 = .ok (.invokestatic 180, 3) := by decide +kernel
theorem own_d2_70 : decode jdk_42_method_149_code 70 = .ok (.putfield 9, 3) := by decide +kernel
theorem own_d2_73 : decode jdk_42_method_149_code 73 = .ok (.return_, 1) := by decide +kernel
theorem own_d4_0 : decode jdk_52_method_16_code 0 = .ok (.iload_n 2, 1) := by decide +kernel
theorem own_d4_1 : decode jdk_52_method_16_code 1 = .ok (.newarray .byte, 2) := by decide +kernel
theorem own_d4_3 : decode jdk_52_method_16_code 3 = .ok (.astore_n 3, 1) := by decide +kernel
theorem own_d4_4 : decode jdk_52_method_16_code 4 = .ok (.aload_n 0, 1) := by decide +kernel
theorem own_d4_5 : decode jdk_52_method_16_code 5 = .ok (.iload_n 1, 1) := by decide +kernel
theorem own_d4_6 : decode jdk_52_method_16_code 6 = .ok (.aload_n 3, 1) := by decide +kernel
theorem own_d4_7 : decode jdk_52_method_16_code 7 = .ok (.iconst 0, 1) := by decide +kernel
theorem own_d4_8 : decode jdk_52_method_16_code 8 = .ok (.iload_n 2, 1) := by decide +kernel
theorem own_d4_9 : decode jdk_52_method_16_code 9 = .ok (.invokestatic 115, 3) := by decide +kernel
theorem own_d4_12 : decode jdk_52_method_16_code 12 = .ok (.istore 4, 2) := by decide +kernel
theorem own_d4_14 : decode jdk_52_method_16_code 14 = .ok (.iload 4, 2) := by decide +kernel
theorem own_d4_16 : decode jdk_52_method_16_code 16 = .ok (.iload_n 2, 1) := by decide +kernel
theorem own_d4_17 : decode jdk_52_method_16_code 17 = .ok (.if_icmp .eq 40, 3) := by decide +kernel
theorem own_d4_20 : decode jdk_52_method_16_code 20 = .ok (.aload_n 0, 1) := by decide +kernel
theorem own_d4_21 : decode jdk_52_method_16_code 21 = .ok (.iload_n 1, 1) := by decide +kernel
theorem own_d4_22 : decode jdk_52_method_16_code 22 = .ok (.iload_n 2, 1) := by decide +kernel
theorem own_d4_23 : decode jdk_52_method_16_code 23 = .ok (.invokestatic 119, 3) := by decide +kernel
theorem own_d4_26 : decode jdk_52_method_16_code 26 = .ok (.astore 5, 2) := by decide +kernel
theorem own_d4_28 : decode jdk_52_method_16_code 28 = .ok (.aload 5, 2) := by decide +kernel
theorem own_d4_30 : decode jdk_52_method_16_code 30 = .ok (.iload 4, 2) := by decide +kernel
theorem own_d4_32 : decode jdk_52_method_16_code 32 = .ok (.invokestatic 71, 3) := by decide +kernel
theorem own_d4_35 : decode jdk_52_method_16_code 35 = .ok (.sipush 255, 3) := by decide +kernel
theorem own_d4_38 : decode jdk_52_method_16_code 38 = .ok (.if_icmp .gt 16, 3) := by decide +kernel
theorem own_d4_41 : decode jdk_52_method_16_code 41 = .ok (.aload 5, 2) := by decide +kernel
theorem own_d4_43 : decode jdk_52_method_16_code 43 = .ok (.iconst 0, 1) := by decide +kernel
theorem own_d4_44 : decode jdk_52_method_16_code 44 = .ok (.aload_n 3, 1) := by decide +kernel
theorem own_d4_45 : decode jdk_52_method_16_code 45 = .ok (.iconst 0, 1) := by decide +kernel
theorem own_d4_46 : decode jdk_52_method_16_code 46 = .ok (.iload_n 2, 1) := by decide +kernel
theorem own_d4_47 : decode jdk_52_method_16_code 47 = .ok (.invokestatic 123, 3) := by decide +kernel
theorem own_d4_50 : decode jdk_52_method_16_code 50 = .ok (.iload_n 2, 1) := by decide +kernel
theorem own_d4_51 : decode jdk_52_method_16_code 51 = .ok (.if_icmp .eq 6, 3) := by decide +kernel
theorem own_d4_54 : decode jdk_52_method_16_code 54 = .ok (.aload 5, 2) := by decide +kernel
theorem own_d4_56 : decode jdk_52_method_16_code 56 = .ok (.areturn, 1) := by decide +kernel
theorem own_d4_57 : decode jdk_52_method_16_code 57 = .ok (.aload_n 3, 1) := by decide +kernel
theorem own_d4_58 : decode jdk_52_method_16_code 58 = .ok (.areturn, 1) := by decide +kernel
theorem own_d5_0 : decode jdk_52_method_21_code 0 = .ok (.iconst 0, 1) := by decide +kernel
theorem own_d5_1 : decode jdk_52_method_21_code 1 = .ok (.istore 5, 2) := by decide +kernel
theorem own_d5_3 : decode jdk_52_method_21_code 3 = .ok (.iload 5, 2) := by decide +kernel
theorem own_d5_5 : decode jdk_52_method_21_code 5 = .ok (.iload 4, 2) := by decide +kernel
theorem own_d5_7 : decode jdk_52_method_21_code 7 = .ok (.if_icmp .ge 37, 3) := by decide +kernel
theorem own_d5_10 : decode jdk_52_method_21_code 10 = .ok (.aload_n 0, 1) := by decide +kernel
theorem own_d5_11 : decode jdk_52_method_21_code 11 = .ok (.iload_n 1, 1) := by decide +kernel
theorem own_d5_12 : decode jdk_52_method_21_code 12 = .ok (.caload, 1) := by decide +kernel
theorem own_d5_13 : decode jdk_52_method_21_code 13 = .ok (.istore 6, 2) := by decide +kernel
theorem own_d5_15 : decode jdk_52_method_21_code 15 = .ok (.iload 6, 2) := by decide +kernel
theorem own_d5_17 : decode jdk_52_method_21_code 17 = .ok (.sipush 255, 3) := by decide +kernel
theorem own_d5_20 : decode jdk_52_method_21_code 20 = .ok (.if_icmp .le 6, 3) := by decide +kernel
theorem own_d5_23 : decode jdk_52_method_21_code 23 = .ok (.iload 5, 2) := by decide +kernel
theorem own_d5_25 : decode jdk_52_method_21_code 25 = .ok (.ireturn, 1) := by decide +kernel
theorem own_d5_26 : decode jdk_52_method_21_code 26 = .ok (.aload_n 2, 1) := by decide +kernel
theorem own_d5_27 : decode jdk_52_method_21_code 27 = .ok (.iload_n 3, 1) := by decide +kernel
theorem own_d5_28 : decode jdk_52_method_21_code 28 = .ok (.iload 6, 2) := by decide +kernel
theorem own_d5_30 : decode jdk_52_method_21_code 30 = .ok (.i2b, 1) := by decide +kernel
theorem own_d5_31 : decode jdk_52_method_21_code 31 = .ok (.bastore, 1) := by decide +kernel
theorem own_d5_32 : decode jdk_52_method_21_code 32 = .ok (.iinc 1 1, 3) := by decide +kernel
theorem own_d5_35 : decode jdk_52_method_21_code 35 = .ok (.iinc 3 1, 3) := by decide +kernel
theorem own_d5_38 : decode jdk_52_method_21_code 38 = .ok (.iinc 5 1, 3) := by decide +kernel
theorem own_d5_41 : decode jdk_52_method_21_code 41 = .ok (.goto (-38), 3) := by decide +kernel
theorem own_d5_44 : decode jdk_52_method_21_code 44 = .ok (.iload 4, 2) := by decide +kernel
theorem own_d5_46 : decode jdk_52_method_21_code 46 = .ok (.ireturn, 1) := by decide +kernel
theorem own_d6_0 : decode jdk_52_method_15_code 0 = .ok (.iload_n 1, 1) := by decide +kernel
theorem own_d6_1 : decode jdk_52_method_15_code 1 = .ok (.aload_n 0, 1) := by decide +kernel
theorem own_d6_2 : decode jdk_52_method_15_code 2 = .ok (.arraylength, 1) := by decide +kernel
theorem own_d6_3 : decode jdk_52_method_15_code 3 = .ok (.isub, 1) := by decide +kernel
theorem own_d6_4 : decode jdk_52_method_15_code 4 = .ok (.bipush 31, 2) := by decide +kernel
theorem own_d6_6 : decode jdk_52_method_15_code 6 = .ok (.iushr, 1) := by decide +kernel
theorem own_d6_7 : decode jdk_52_method_15_code 7 = .ok (.i2b, 1) := by decide +kernel
theorem own_d6_8 : decode jdk_52_method_15_code 8 = .ok (.ireturn, 1) := by decide +kernel
theorem own_d7_0 : decode method_6_code 0 = .ok (.aload_n 0, 1) := by decide +kernel
theorem own_d7_1 : decode method_6_code 1 = .ok (.iconst 0, 1) := by decide +kernel
theorem own_d7_2 : decode method_6_code 2 = .ok (.caload, 1) := by decide +kernel
theorem own_d7_3 : decode method_6_code 3 = .ok (.invokestatic 29, 3) := by decide +kernel
theorem own_d7_6 : decode method_6_code 6 = .ok (.ifCond .eq 86, 3) := by decide +kernel
theorem own_d7_9 : decode method_6_code 9 = .ok (.aload_n 0, 1) := by decide +kernel
theorem own_d7_10 : decode method_6_code 10 = .ok (.iconst 1, 1) := by decide +kernel
theorem own_d7_11 : decode method_6_code 11 = .ok (.caload, 1) := by decide +kernel
theorem own_d7_12 : decode method_6_code 12 = .ok (.invokestatic 29, 3) := by decide +kernel
theorem own_d7_15 : decode method_6_code 15 = .ok (.ifCond .eq 77, 3) := by decide +kernel
theorem own_d7_18 : decode method_6_code 18 = .ok (.aload_n 0, 1) := by decide +kernel
theorem own_d7_19 : decode method_6_code 19 = .ok (.iconst 2, 1) := by decide +kernel
theorem own_d7_20 : decode method_6_code 20 = .ok (.caload, 1) := by decide +kernel
theorem own_d7_21 : decode method_6_code 21 = .ok (.invokestatic 29, 3) := by decide +kernel
theorem own_d7_24 : decode method_6_code 24 = .ok (.ifCond .eq 68, 3) := by decide +kernel
theorem own_d7_27 : decode method_6_code 27 = .ok (.aload_n 0, 1) := by decide +kernel
theorem own_d7_28 : decode method_6_code 28 = .ok (.iconst 3, 1) := by decide +kernel
theorem own_d7_29 : decode method_6_code 29 = .ok (.caload, 1) := by decide +kernel
theorem own_d7_30 : decode method_6_code 30 = .ok (.invokestatic 29, 3) := by decide +kernel
theorem own_d7_33 : decode method_6_code 33 = .ok (.ifCond .eq 59, 3) := by decide +kernel
theorem own_d7_36 : decode method_6_code 36 = .ok (.aload_n 0, 1) := by decide +kernel
theorem own_d7_37 : decode method_6_code 37 = .ok (.iconst 4, 1) := by decide +kernel
theorem own_d7_38 : decode method_6_code 38 = .ok (.caload, 1) := by decide +kernel
theorem own_d7_39 : decode method_6_code 39 = .ok (.bipush 45, 2) := by decide +kernel
theorem own_d7_41 : decode method_6_code 41 = .ok (.if_icmp .ne 51, 3) := by decide +kernel
theorem own_d7_44 : decode method_6_code 44 = .ok (.aload_n 0, 1) := by decide +kernel
theorem own_d7_45 : decode method_6_code 45 = .ok (.iconst 5, 1) := by decide +kernel
theorem own_d7_46 : decode method_6_code 46 = .ok (.caload, 1) := by decide +kernel
theorem own_d7_47 : decode method_6_code 47 = .ok (.invokestatic 29, 3) := by decide +kernel
theorem own_d7_50 : decode method_6_code 50 = .ok (.ifCond .eq 42, 3) := by decide +kernel
theorem own_d7_53 : decode method_6_code 53 = .ok (.aload_n 0, 1) := by decide +kernel
theorem own_d7_54 : decode method_6_code 54 = .ok (.bipush 6, 2) := by decide +kernel
theorem own_d7_56 : decode method_6_code 56 = .ok (.caload, 1) := by decide +kernel
theorem own_d7_57 : decode method_6_code 57 = .ok (.invokestatic 29, 3) := by decide +kernel
theorem own_d7_60 : decode method_6_code 60 = .ok (.ifCond .eq 32, 3) := by decide +kernel
theorem own_d7_63 : decode method_6_code 63 = .ok (.aload_n 0, 1) := by decide +kernel
theorem own_d7_64 : decode method_6_code 64 = .ok (.bipush 7, 2) := by decide +kernel
theorem own_d7_66 : decode method_6_code 66 = .ok (.caload, 1) := by decide +kernel
theorem own_d7_67 : decode method_6_code 67 = .ok (.bipush 45, 2) := by decide +kernel
theorem own_d7_69 : decode method_6_code 69 = .ok (.if_icmp .ne 23, 3) := by decide +kernel
theorem own_d7_72 : decode method_6_code 72 = .ok (.aload_n 0, 1) := by decide +kernel
theorem own_d7_73 : decode method_6_code 73 = .ok (.bipush 8, 2) := by decide +kernel
theorem own_d7_75 : decode method_6_code 75 = .ok (.caload, 1) := by decide +kernel
theorem own_d7_76 : decode method_6_code 76 = .ok (.invokestatic 29, 3) := by decide +kernel
theorem own_d7_79 : decode method_6_code 79 = .ok (.ifCond .eq 13, 3) := by decide +kernel
theorem own_d7_82 : decode method_6_code 82 = .ok (.aload_n 0, 1) := by decide +kernel
theorem own_d7_83 : decode method_6_code 83 = .ok (.bipush 9, 2) := by decide +kernel
theorem own_d7_85 : decode method_6_code 85 = .ok (.caload, 1) := by decide +kernel
theorem own_d7_86 : decode method_6_code 86 = .ok (.invokestatic 29, 3) := by decide +kernel
theorem own_d7_89 : decode method_6_code 89 = .ok (.ifCond .ne 5, 3) := by decide +kernel
theorem own_d7_92 : decode method_6_code 92 = .ok (.iconst 0, 1) := by decide +kernel
theorem own_d7_93 : decode method_6_code 93 = .ok (.ireturn, 1) := by decide +kernel
theorem own_d7_94 : decode method_6_code 94 = .ok (.aload_n 0, 1) := by decide +kernel
theorem own_d7_95 : decode method_6_code 95 = .ok (.iconst 0, 1) := by decide +kernel
theorem own_d7_96 : decode method_6_code 96 = .ok (.caload, 1) := by decide +kernel
theorem own_d7_97 : decode method_6_code 97 = .ok (.invokestatic 33, 3) := by decide +kernel
theorem own_d7_100 : decode method_6_code 100 = .ok (.sipush 1000, 3) := by decide +kernel
theorem own_d7_103 : decode method_6_code 103 = .ok (.imul, 1) := by decide +kernel
theorem own_d7_104 : decode method_6_code 104 = .ok (.aload_n 0, 1) := by decide +kernel
theorem own_d7_105 : decode method_6_code 105 = .ok (.iconst 1, 1) := by decide +kernel
theorem own_d7_106 : decode method_6_code 106 = .ok (.caload, 1) := by decide +kernel
theorem own_d7_107 : decode method_6_code 107 = .ok (.invokestatic 33, 3) := by decide +kernel
theorem own_d7_110 : decode method_6_code 110 = .ok (.bipush 100, 2) := by decide +kernel
theorem own_d7_112 : decode method_6_code 112 = .ok (.imul, 1) := by decide +kernel
theorem own_d7_113 : decode method_6_code 113 = .ok (.iadd, 1) := by decide +kernel
theorem own_d7_114 : decode method_6_code 114 = .ok (.aload_n 0, 1) := by decide +kernel
theorem own_d7_115 : decode method_6_code 115 = .ok (.iconst 2, 1) := by decide +kernel
theorem own_d7_116 : decode method_6_code 116 = .ok (.caload, 1) := by decide +kernel
theorem own_d7_117 : decode method_6_code 117 = .ok (.invokestatic 33, 3) := by decide +kernel
theorem own_d7_120 : decode method_6_code 120 = .ok (.bipush 10, 2) := by decide +kernel
theorem own_d7_122 : decode method_6_code 122 = .ok (.imul, 1) := by decide +kernel
theorem own_d7_123 : decode method_6_code 123 = .ok (.iadd, 1) := by decide +kernel
theorem own_d7_124 : decode method_6_code 124 = .ok (.aload_n 0, 1) := by decide +kernel
theorem own_d7_125 : decode method_6_code 125 = .ok (.iconst 3, 1) := by decide +kernel
theorem own_d7_126 : decode method_6_code 126 = .ok (.caload, 1) := by decide +kernel
theorem own_d7_127 : decode method_6_code 127 = .ok (.invokestatic 33, 3) := by decide +kernel
theorem own_d7_130 : decode method_6_code 130 = .ok (.iadd, 1) := by decide +kernel
theorem own_d7_131 : decode method_6_code 131 = .ok (.istore_n 1, 1) := by decide +kernel
theorem own_d7_132 : decode method_6_code 132 = .ok (.aload_n 0, 1) := by decide +kernel
theorem own_d7_133 : decode method_6_code 133 = .ok (.iconst 5, 1) := by decide +kernel
theorem own_d7_134 : decode method_6_code 134 = .ok (.caload, 1) := by decide +kernel
theorem own_d7_135 : decode method_6_code 135 = .ok (.invokestatic 33, 3) := by decide +kernel
theorem own_d7_138 : decode method_6_code 138 = .ok (.bipush 10, 2) := by decide +kernel
theorem own_d7_140 : decode method_6_code 140 = .ok (.imul, 1) := by decide +kernel
theorem own_d7_141 : decode method_6_code 141 = .ok (.aload_n 0, 1) := by decide +kernel
theorem own_d7_142 : decode method_6_code 142 = .ok (.bipush 6, 2) := by decide +kernel
theorem own_d7_144 : decode method_6_code 144 = .ok (.caload, 1) := by decide +kernel
theorem own_d7_145 : decode method_6_code 145 = .ok (.invokestatic 33, 3) := by decide +kernel
theorem own_d7_148 : decode method_6_code 148 = .ok (.iadd, 1) := by decide +kernel
theorem own_d7_149 : decode method_6_code 149 = .ok (.istore_n 2, 1) := by decide +kernel
theorem own_d7_150 : decode method_6_code 150 = .ok (.aload_n 0, 1) := by decide +kernel
theorem own_d7_151 : decode method_6_code 151 = .ok (.bipush 8, 2) := by decide +kernel
theorem own_d7_153 : decode method_6_code 153 = .ok (.caload, 1) := by decide +kernel
theorem own_d7_154 : decode method_6_code 154 = .ok (.invokestatic 33, 3) := by decide +kernel
theorem own_d7_157 : decode method_6_code 157 = .ok (.bipush 10, 2) := by decide +kernel
theorem own_d7_159 : decode method_6_code 159 = .ok (.imul, 1) := by decide +kernel
theorem own_d7_160 : decode method_6_code 160 = .ok (.aload_n 0, 1) := by decide +kernel
theorem own_d7_161 : decode method_6_code 161 = .ok (.bipush 9, 2) := by decide +kernel
theorem own_d7_163 : decode method_6_code 163 = .ok (.caload, 1) := by decide +kernel
theorem own_d7_164 : decode method_6_code 164 = .ok (.invokestatic 33, 3) := by decide +kernel
theorem own_d7_167 : decode method_6_code 167 = .ok (.iadd, 1) := by decide +kernel
theorem own_d7_168 : decode method_6_code 168 = .ok (.istore_n 3, 1) := by decide +kernel
theorem own_d7_169 : decode method_6_code 169 = .ok (.iload_n 2, 1) := by decide +kernel
theorem own_d7_170 : decode method_6_code 170 = .ok (.iconst 1, 1) := by decide +kernel
theorem own_d7_171 : decode method_6_code 171 = .ok (.if_icmp .lt 9, 3) := by decide +kernel
theorem own_d7_174 : decode method_6_code 174 = .ok (.iload_n 2, 1) := by decide +kernel
theorem own_d7_175 : decode method_6_code 175 = .ok (.bipush 12, 2) := by decide +kernel
theorem own_d7_177 : decode method_6_code 177 = .ok (.if_icmp .le 5, 3) := by decide +kernel
theorem own_d7_180 : decode method_6_code 180 = .ok (.iconst 0, 1) := by decide +kernel
theorem own_d7_181 : decode method_6_code 181 = .ok (.ireturn, 1) := by decide +kernel
theorem own_d7_182 : decode method_6_code 182 = .ok (.iload_n 3, 1) := by decide +kernel
theorem own_d7_183 : decode method_6_code 183 = .ok (.iconst 1, 1) := by decide +kernel
theorem own_d7_184 : decode method_6_code 184 = .ok (.if_icmp .lt 16, 3) := by decide +kernel
theorem own_d7_187 : decode method_6_code 187 = .ok (.iload_n 3, 1) := by decide +kernel
theorem own_d7_188 : decode method_6_code 188 = .ok (.iload_n 2, 1) := by decide +kernel
theorem own_d7_189 : decode method_6_code 189 = .ok (.iload_n 1, 1) := by decide +kernel
theorem own_d7_190 : decode method_6_code 190 = .ok (.invokestatic 37, 3) := by decide +kernel
theorem own_d7_193 : decode method_6_code 193 = .ok (.if_icmp .gt 7, 3) := by decide +kernel
theorem own_d7_196 : decode method_6_code 196 = .ok (.iconst 1, 1) := by decide +kernel
theorem own_d7_197 : decode method_6_code 197 = .ok (.goto 4, 3) := by decide +kernel
theorem own_d7_200 : decode method_6_code 200 = .ok (.iconst 0, 1) := by decide +kernel
theorem own_d7_201 : decode method_6_code 201 = .ok (.ireturn, 1) := by decide +kernel
theorem own_d8_0 : decode method_4_code 0 = .ok (.iload_n 0, 1) := by decide +kernel
theorem own_d8_1 : decode method_4_code 1 = .ok (.bipush 48, 2) := by decide +kernel
theorem own_d8_3 : decode method_4_code 3 = .ok (.if_icmp .lt 13, 3) := by decide +kernel
theorem own_d8_6 : decode method_4_code 6 = .ok (.iload_n 0, 1) := by decide +kernel
theorem own_d8_7 : decode method_4_code 7 = .ok (.bipush 57, 2) := by decide +kernel
theorem own_d8_9 : decode method_4_code 9 = .ok (.if_icmp .gt 7, 3) := by decide +kernel
theorem own_d8_12 : decode method_4_code 12 = .ok (.iconst 1, 1) := by decide +kernel
theorem own_d8_13 : decode method_4_code 13 = .ok (.goto 4, 3) := by decide +kernel
theorem own_d8_16 : decode method_4_code 16 = .ok (.iconst 0, 1) := by decide +kernel
theorem own_d8_17 : decode method_4_code 17 = .ok (.ireturn, 1) := by decide +kernel
theorem own_d9_0 : decode method_5_code 0 = .ok (.iload_n 0, 1) := by decide +kernel
theorem own_d9_1 : decode method_5_code 1 = .ok (.bipush 48, 2) := by decide +kernel
theorem own_d9_3 : decode method_5_code 3 = .ok (.isub, 1) := by decide +kernel
theorem own_d9_4 : decode method_5_code 4 = .ok (.ireturn, 1) := by decide +kernel
theorem own_d10_0 : decode method_7_code 0 = .ok (.iload_n 0, 1) := by decide +kernel
theorem own_d10_1 : decode method_7_code 1 = .ok (.iconst 2, 1) := by decide +kernel
theorem own_d10_2 : decode method_7_code 2 = .ok (.if_icmp .ne 42, 3) := by decide +kernel
theorem own_d10_5 : decode method_7_code 5 = .ok (.iload_n 1, 1) := by decide +kernel
theorem own_d10_6 : decode method_7_code 6 = .ok (.sipush 400, 3) := by decide +kernel
theorem own_d10_9 : decode method_7_code 9 = .ok (.irem, 1) := by decide +kernel
theorem own_d10_10 : decode method_7_code 10 = .ok (.ifCond .eq 16, 3) := by decide +kernel
theorem own_d10_13 : decode method_7_code 13 = .ok (.iload_n 1, 1) := by decide +kernel
theorem own_d10_14 : decode method_7_code 14 = .ok (.iconst 4, 1) := by decide +kernel
theorem own_d10_15 : decode method_7_code 15 = .ok (.irem, 1) := by decide +kernel
theorem own_d10_16 : decode method_7_code 16 = .ok (.ifCond .ne 14, 3) := by decide +kernel
theorem own_d10_19 : decode method_7_code 19 = .ok (.iload_n 1, 1) := by decide +kernel
theorem own_d10_20 : decode method_7_code 20 = .ok (.bipush 100, 2) := by decide +kernel
theorem own_d10_22 : decode method_7_code 22 = .ok (.irem, 1) := by decide +kernel
theorem own_d10_23 : decode method_7_code 23 = .ok (.ifCond .eq 7, 3) := by decide +kernel
theorem own_d10_26 : decode method_7_code 26 = .ok (.iconst 1, 1) := by decide +kernel
theorem own_d10_27 : decode method_7_code 27 = .ok (.goto 4, 3) := by decide +kernel
theorem own_d10_30 : decode method_7_code 30 = .ok (.iconst 0, 1) := by decide +kernel
theorem own_d10_31 : decode method_7_code 31 = .ok (.istore_n 2, 1) := by decide +kernel
theorem own_d10_32 : decode method_7_code 32 = .ok (.iload_n 2, 1) := by decide +kernel
theorem own_d10_33 : decode method_7_code 33 = .ok (.ifCond .eq 8, 3) := by decide +kernel
theorem own_d10_36 : decode method_7_code 36 = .ok (.bipush 29, 2) := by decide +kernel
theorem own_d10_38 : decode method_7_code 38 = .ok (.goto 5, 3) := by decide +kernel
theorem own_d10_41 : decode method_7_code 41 = .ok (.bipush 28, 2) := by decide +kernel
theorem own_d10_43 : decode method_7_code 43 = .ok (.ireturn, 1) := by decide +kernel
theorem own_d10_44 : decode method_7_code 44 = .ok (.bipush 30, 2) := by decide +kernel
theorem own_d10_46 : decode method_7_code 46 = .ok (.iload_n 0, 1) := by decide +kernel
theorem own_d10_47 : decode method_7_code 47 = .ok (.iload_n 0, 1) := by decide +kernel
theorem own_d10_48 : decode method_7_code 48 = .ok (.bipush 8, 2) := by decide +kernel
theorem own_d10_50 : decode method_7_code 50 = .ok (.idiv, 1) := by decide +kernel
theorem own_d10_51 : decode method_7_code 51 = .ok (.iadd, 1) := by decide +kernel
theorem own_d10_52 : decode method_7_code 52 = .ok (.iconst 1, 1) := by decide +kernel
theorem own_d10_53 : decode method_7_code 53 = .ok (.iand, 1) := by decide +kernel
theorem own_d10_54 : decode method_7_code 54 = .ok (.iadd, 1) := by decide +kernel
theorem own_d10_55 : decode method_7_code 55 = .ok (.ireturn, 1) := by decide +kernel
theorem own_d11_0 : decode prog_7_method_3_code 0 = .ok (.aload_n 0, 1) := by decide +kernel
theorem own_d11_1 : decode prog_7_method_3_code 1 = .ok (.invokevirtual 7, 3) := by decide +kernel
theorem own_d11_4 : decode prog_7_method_3_code 4 = .ok (.bipush 10, 2) := by decide +kernel
theorem own_d11_6 : decode prog_7_method_3_code 6 = .ok (.if_icmp .ne 15, 3) := by decide +kernel
theorem own_d11_9 : decode prog_7_method_3_code 9 = .ok (.aload_n 0, 1) := by decide +kernel
theorem own_d11_10 : decode prog_7_method_3_code 10 = .ok (.iconst 0, 1) := by decide +kernel
theorem own_d11_11 : decode prog_7_method_3_code 11 = .ok (.invokestatic 15, 3) := by decide +kernel
theorem own_d11_14 : decode prog_7_method_3_code 14 = .ok (.ifCond .eq 7, 3) := by decide +kernel
theorem own_d11_17 : decode prog_7_method_3_code 17 = .ok (.iconst 1, 1) := by decide +kernel
theorem own_d11_18 : decode prog_7_method_3_code 18 = .ok (.goto 4, 3) := by decide +kernel
theorem own_d11_21 : decode prog_7_method_3_code 21 = .ok (.iconst 0, 1) := by decide +kernel
theorem own_d11_22 : decode prog_7_method_3_code 22 = .ok (.ireturn, 1) := by decide +kernel
theorem own_d12_0 : decode jdk_42_method_54_code 0 = .ok (.aload_n 0, 1) := by decide +kernel
theorem own_d12_1 : decode jdk_42_method_54_code 1 = .ok (.getfield 9, 3) := by decide +kernel
theorem own_d12_4 : decode jdk_42_method_54_code 4 = .ok (.arraylength, 1) := by decide +kernel
theorem own_d12_5 : decode jdk_42_method_54_code 5 = .ok (.aload_n 0, 1) := by decide +kernel
theorem own_d12_6 : decode jdk_42_method_54_code 6 = .ok (.invokevirtual 335, 3) := by decide +kernel
theorem own_d12_9 : decode jdk_42_method_54_code 9 = .ok (.ishr, 1) := by decide +kernel
theorem own_d12_10 : decode jdk_42_method_54_code 10 = .ok (.ireturn, 1) := by decide +kernel
theorem own_d13_0 : decode jdk_42_method_152_code 0 = .ok (.getstatic 38, 3) := by decide +kernel
theorem own_d13_3 : decode jdk_42_method_152_code 3 = .ok (.ifCond .eq 10, 3) := by decide +kernel
theorem own_d13_6 : decode jdk_42_method_152_code 6 = .ok (.aload_n 0, 1) := by decide +kernel
theorem own_d13_7 : decode jdk_42_method_152_code 7 = .ok (.getfield 15, 3) := by decide +kernel
theorem own_d13_10 : decode jdk_42_method_152_code 10 = .ok (.goto 4, 3) := by decide +kernel
theorem own_d13_13 : decode jdk_42_method_152_code 13 = .ok (.iconst 1, 1) := by decide +kernel
theorem own_d13_14 : decode jdk_42_method_152_code 14 = .ok (.ireturn, 1) := by decide +kernel
theorem own_d14_0 : decode prog_7_method_6_code 0 = .ok (.aload_n 0, 1) := by decide +kernel
theorem own_d14_1 : decode prog_7_method_6_code 1 = .ok (.iload_n 1, 1) := by decide +kernel
theorem own_d14_2 : decode prog_7_method_6_code 2 = .ok (.iconst 4, 1) := by decide +kernel
theorem own_d14_3 : decode prog_7_method_6_code 3 = .ok (.invokestatic 40, 3) := by decide +kernel
theorem own_d14_6 : decode prog_7_method_6_code 6 = .ok (.istore_n 2, 1) := by decide +kernel
theorem own_d14_7 : decode prog_7_method_6_code 7 = .ok (.aload_n 0, 1) := by decide +kernel
theorem own_d14_8 : decode prog_7_method_6_code 8 = .ok (.iload_n 1, 1) := by decide +kernel
theorem own_d14_9 : decode prog_7_method_6_code 9 = .ok (.iconst 5, 1) := by decide +kernel
theorem own_d14_10 : decode prog_7_method_6_code 10 = .ok (.iadd, 1) := by decide +kernel
theorem own_d14_11 : decode prog_7_method_6_code 11 = .ok (.iconst 2, 1) := by decide +kernel
theorem own_d14_12 : decode prog_7_method_6_code 12 = .ok (.invokestatic 40, 3) := by decide +kernel
theorem own_d14_15 : decode prog_7_method_6_code 15 = .ok (.istore_n 3, 1) := by decide +kernel
theorem own_d14_16 : decode prog_7_method_6_code 16 = .ok (.aload_n 0, 1) := by decide +kernel
theorem own_d14_17 : decode prog_7_method_6_code 17 = .ok (.iload_n 1, 1) := by decide +kernel
theorem own_d14_18 : decode prog_7_method_6_code 18 = .ok (.bipush 8, 2) := by decide +kernel
theorem own_d14_20 : decode prog_7_method_6_code 20 = .ok (.iadd, 1) := by decide +kernel
theorem own_d14_21 : decode prog_7_method_6_code 21 = .ok (.iconst 2, 1) := by decide +kernel
theorem own_d14_22 : decode prog_7_method_6_code 22 = .ok (.invokestatic 40, 3) := by decide +kernel
theorem own_d14_25 : decode prog_7_method_6_code 25 = .ok (.istore 4, 2) := by decide +kernel
theorem own_d14_27 : decode prog_7_method_6_code 27 = .ok (.iload_n 2, 1) := by decide +kernel
theorem own_d14_28 : decode prog_7_method_6_code 28 = .ok (.ifCond .lt 59, 3) := by decide +kernel
theorem own_d14_31 : decode prog_7_method_6_code 31 = .ok (.aload_n 0, 1) := by decide +kernel
theorem own_d14_32 : decode prog_7_method_6_code 32 = .ok (.iload_n 1, 1) := by decide +kernel
theorem own_d14_33 : decode prog_7_method_6_code 33 = .ok (.iconst 4, 1) := by decide +kernel
theorem own_d14_34 : decode prog_7_method_6_code 34 = .ok (.iadd, 1) := by decide +kernel
theorem own_d14_35 : decode prog_7_method_6_code 35 = .ok (.invokevirtual 44, 3) := by decide +kernel
theorem own_d14_38 : decode prog_7_method_6_code 38 = .ok (.bipush 45, 2) := by decide +kernel
theorem own_d14_40 : decode prog_7_method_6_code 40 = .ok (.if_icmp .ne 47, 3) := by decide +kernel
theorem own_d14_43 : decode prog_7_method_6_code 43 = .ok (.iload_n 3, 1) := by decide +kernel
theorem own_d14_44 : decode prog_7_method_6_code 44 = .ok (.iconst 1, 1) := by decide +kernel
theorem own_d14_45 : decode prog_7_method_6_code 45 = .ok (.if_icmp .lt 42, 3) := by decide +kernel
theorem own_d14_48 : decode prog_7_method_6_code 48 = .ok (.iload_n 3, 1) := by decide +kernel
theorem own_d14_49 : decode prog_7_method_6_code 49 = .ok (.bipush 12, 2) := by decide +kernel
theorem own_d14_51 : decode prog_7_method_6_code 51 = .ok (.if_icmp .gt 36, 3) := by decide +kernel
theorem own_d14_54 : decode prog_7_method_6_code 54 = .ok (.aload_n 0, 1) := by decide +kernel
theorem own_d14_55 : decode prog_7_method_6_code 55 = .ok (.iload_n 1, 1) := by decide +kernel
theorem own_d14_56 : decode prog_7_method_6_code 56 = .ok (.bipush 7, 2) := by decide +kernel
theorem own_d14_58 : decode prog_7_method_6_code 58 = .ok (.iadd, 1) := by decide +kernel
theorem own_d14_59 : decode prog_7_method_6_code 59 = .ok (.invokevirtual 44, 3) := by decide +kernel
theorem own_d14_62 : decode prog_7_method_6_code 62 = .ok (.bipush 45, 2) := by decide +kernel
theorem own_d14_64 : decode prog_7_method_6_code 64 = .ok (.if_icmp .ne 23, 3) := by decide +kernel
theorem own_d14_67 : decode prog_7_method_6_code 67 = .ok (.iload 4, 2) := by decide +kernel
theorem own_d14_69 : decode prog_7_method_6_code 69 = .ok (.iconst 1, 1) := by decide +kernel
theorem own_d14_70 : decode prog_7_method_6_code 70 = .ok (.if_icmp .lt 17, 3) := by decide +kernel
theorem own_d14_73 : decode prog_7_method_6_code 73 = .ok (.iload 4, 2) := by decide +kernel
theorem own_d14_75 : decode prog_7_method_6_code 75 = .ok (.iload_n 3, 1) := by decide +kernel
theorem own_d14_76 : decode prog_7_method_6_code 76 = .ok (.iload_n 2, 1) := by decide +kernel
theorem own_d14_77 : decode prog_7_method_6_code 77 = .ok (.invokestatic 48, 3) := by decide +kernel
theorem own_d14_80 : decode prog_7_method_6_code 80 = .ok (.if_icmp .gt 7, 3) := by decide +kernel
theorem own_d14_83 : decode prog_7_method_6_code 83 = .ok (.iconst 1, 1) := by decide +kernel
theorem own_d14_84 : decode prog_7_method_6_code 84 = .ok (.goto 4, 3) := by decide +kernel
theorem own_d14_87 : decode prog_7_method_6_code 87 = .ok (.iconst 0, 1) := by decide +kernel
theorem own_d14_88 : decode prog_7_method_6_code 88 = .ok (.ireturn, 1) := by decide +kernel
theorem own_d15_0 : decode prog_7_method_11_code 0 = .ok (.aload_n 0, 1) := by decide +kernel
theorem own_d15_1 : decode prog_7_method_11_code 1 = .ok (.invokevirtual 7, 3) := by decide +kernel
theorem own_d15_4 : decode prog_7_method_11_code 4 = .ok (.iload_n 1, 1) := by decide +kernel
theorem own_d15_5 : decode prog_7_method_11_code 5 = .ok (.iload_n 2, 1) := by decide +kernel
theorem own_d15_6 : decode prog_7_method_11_code 6 = .ok (.iadd, 1) := by decide +kernel
theorem own_d15_7 : decode prog_7_method_11_code 7 = .ok (.if_icmp .ge 5, 3) := by decide +kernel
theorem own_d15_10 : decode prog_7_method_11_code 10 = .ok (.iconst (-1), 1) := by decide +kernel
theorem own_d15_11 : decode prog_7_method_11_code 11 = .ok (.ireturn, 1) := by decide +kernel
theorem own_d15_12 : decode prog_7_method_11_code 12 = .ok (.iconst 0, 1) := by decide +kernel
theorem own_d15_13 : decode prog_7_method_11_code 13 = .ok (.istore_n 3, 1) := by decide +kernel
theorem own_d15_14 : decode prog_7_method_11_code 14 = .ok (.iload_n 1, 1) := by decide +kernel
theorem own_d15_15 : decode prog_7_method_11_code 15 = .ok (.istore 4, 2) := by decide +kernel
theorem own_d15_17 : decode prog_7_method_11_code 17 = .ok (.iload 4, 2) := by decide +kernel
theorem own_d15_19 : decode prog_7_method_11_code 19 = .ok (.iload_n 1, 1) := by decide +kernel
theorem own_d15_20 : decode prog_7_method_11_code 20 = .ok (.iload_n 2, 1) := by decide +kernel
theorem own_d15_21 : decode prog_7_method_11_code 21 = .ok (.iadd, 1) := by decide +kernel
theorem own_d15_22 : decode prog_7_method_11_code 22 = .ok (.if_icmp .ge 44, 3) := by decide +kernel
theorem own_d15_25 : decode prog_7_method_11_code 25 = .ok (.aload_n 0, 1) := by decide +kernel
theorem own_d15_26 : decode prog_7_method_11_code 26 = .ok (.iload 4, 2) := by decide +kernel
theorem own_d15_28 : decode prog_7_method_11_code 28 = .ok (.invokevirtual 44, 3) := by decide +kernel
theorem own_d15_31 : decode prog_7_method_11_code 31 = .ok (.istore 5, 2) := by decide +kernel
theorem own_d15_33 : decode prog_7_method_11_code 33 = .ok (.iload 5, 2) := by decide +kernel
theorem own_d15_35 : decode prog_7_method_11_code 35 = .ok (.bipush 48, 2) := by decide +kernel
theorem own_d15_37 : decode prog_7_method_11_code 37 = .ok (.if_icmp .lt 10, 3) := by decide +kernel
theorem own_d15_40 : decode prog_7_method_11_code 40 = .ok (.iload 5, 2) := by decide +kernel
theorem own_d15_42 : decode prog_7_method_11_code 42 = .ok (.bipush 57, 2) := by decide +kernel
theorem own_d15_44 : decode prog_7_method_11_code 44 = .ok (.if_icmp .le 5, 3) := by decide +kernel
theorem own_d15_47 : decode prog_7_method_11_code 47 = .ok (.iconst (-1), 1) := by decide +kernel
theorem own_d15_48 : decode prog_7_method_11_code 48 = .ok (.ireturn, 1) := by decide +kernel
theorem own_d15_49 : decode prog_7_method_11_code 49 = .ok (.bipush 10, 2) := by decide +kernel
theorem own_d15_51 : decode prog_7_method_11_code 51 = .ok (.iload_n 3, 1) := by decide +kernel
theorem own_d15_52 : decode prog_7_method_11_code 52 = .ok (.imul, 1) := by decide +kernel
theorem own_d15_53 : decode prog_7_method_11_code 53 = .ok (.iload 5, 2) := by decide +kernel
theorem own_d15_55 : decode prog_7_method_11_code 55 = .ok (.iadd, 1) := by decide +kernel
theorem own_d15_56 : decode prog_7_method_11_code 56 = .ok (.bipush 48, 2) := by decide +kernel
theorem own_d15_58 : decode prog_7_method_11_code 58 = .ok (.isub, 1) := by decide +kernel
theorem own_d15_59 : decode prog_7_method_11_code 59 = .ok (.istore_n 3, 1) := by decide +kernel
theorem own_d15_60 : decode prog_7_method_11_code 60 = .ok (.iinc 4 1, 3) := by decide +kernel
theorem own_d15_63 : decode prog_7_method_11_code 63 = .ok (.goto (-46), 3) := by decide +kernel
theorem own_d15_66 : decode prog_7_method_11_code 66 = .ok (.iload_n 3, 1) := by decide +kernel
theorem own_d15_67 : decode prog_7_method_11_code 67 = .ok (.ireturn, 1) := by decide +kernel
theorem own_d16_0 : decode jdk_42_method_56_code 0 = .ok (.aload_n 0, 1) := by decide +kernel
theorem own_d16_1 : decode jdk_42_method_56_code 1 = .ok (.invokevirtual 492, 3) := by decide +kernel
theorem own_d16_4 : decode jdk_42_method_56_code 4 = .ok (.ifCond .eq 12, 3) := by decide +kernel
theorem own_d16_7 : decode jdk_42_method_56_code 7 = .ok (.aload_n 0, 1) := by decide +kernel
theorem own_d16_8 : decode jdk_42_method_56_code 8 = .ok (.getfield 9, 3) := by decide +kernel
theorem own_d16_11 : decode jdk_42_method_56_code 11 = .ok (.iload_n 1, 1) := by decide +kernel
theorem own_d16_12 : decode jdk_42_method_56_code 12 = .ok (.invokestatic 495, 3) := by decide +kernel
theorem own_d16_15 : decode jdk_42_method_56_code 15 = .ok (.ireturn, 1) := by decide +kernel
theorem own_d16_16 : decode jdk_42_method_56_code 16 = .ok (.aload_n 0, 1) := by decide +kernel
theorem own_d16_17 : decode jdk_42_method_56_code 17 = .ok (.getfield 9, 3) := by decide +kernel
theorem own_d16_20 : decode jdk_42_method_56_code 20 = .ok (.iload_n 1, 1) := by decide +kernel
theorem own_d16_21 : decode jdk_42_method_56_code 21 = .ok (.invokestatic 498, 3) := by decide +kernel
theorem own_d16_24 : decode jdk_42_method_56_code 24 = .ok (.ireturn, 1) := by decide +kernel
theorem own_d17_0 : decode jdk_42_method_154_code 0 = .ok (.getstatic 38, 3) := by decide +kernel
theorem own_d17_3 : decode jdk_42_method_154_code 3 = .ok (.ifCond .eq 14, 3) := by decide +kernel
theorem own_d17_6 : decode jdk_42_method_154_code 6 = .ok (.aload_n 0, 1) := by decide +kernel
theorem own_d17_7 : decode jdk_42_method_154_code 7 = .ok (.getfield 15, 3) := by decide +kernel
theorem own_d17_10 : decode jdk_42_method_154_code 10 = .ok (.ifCond .ne 7, 3) := by decide +kernel
theorem own_d17_13 : decode jdk_42_method_154_code 13 = .ok (.iconst 1, 1) := by decide +kernel
theorem own_d17_14 : decode jdk_42_method_154_code 14 = .ok (.goto 4, 3) := by decide +kernel
theorem own_d17_17 : decode jdk_42_method_154_code 17 = .ok (.iconst 0, 1) := by decide +kernel
theorem own_d17_18 : decode jdk_42_method_154_code 18 = .ok (.ireturn, 1) := by decide +kernel
theorem own_d18_0 : decode jdk_43_method_2_code 0 = .ok (.iload_n 1, 1) := by decide +kernel
theorem own_d18_1 : decode jdk_43_method_2_code 1 = .ok (.aload_n 0, 1) := by decide +kernel
theorem own_d18_2 : decode jdk_43_method_2_code 2 = .ok (.arraylength, 1) := by decide +kernel
theorem own_d18_3 : decode jdk_43_method_2_code 3 = .ok (.invokestatic 9, 3) := by decide +kernel
theorem own_d18_6 : decode jdk_43_method_2_code 6 = .ok (.aload_n 0, 1) := by decide +kernel
theorem own_d18_7 : decode jdk_43_method_2_code 7 = .ok (.iload_n 1, 1) := by decide +kernel
theorem own_d18_8 : decode jdk_43_method_2_code 8 = .ok (.baload, 1) := by decide +kernel
theorem own_d18_9 : decode jdk_43_method_2_code 9 = .ok (.sipush 255, 3) := by decide +kernel
theorem own_d18_12 : decode jdk_43_method_2_code 12 = .ok (.iand, 1) := by decide +kernel
theorem own_d18_13 : decode jdk_43_method_2_code 13 = .ok (.i2c, 1) := by decide +kernel
theorem own_d18_14 : decode jdk_43_method_2_code 14 = .ok (.ireturn, 1) := by decide +kernel
theorem own_d19_0 : decode jdk_42_method_155_code 0 = .ok (.iload_n 0, 1) := by decide +kernel
theorem own_d19_1 : decode jdk_42_method_155_code 1 = .ok (.iload_n 1, 1) := by decide +kernel
theorem own_d19_2 : decode jdk_42_method_155_code 2 = .ok (.getstatic 1053, 3) := by decide +kernel
theorem own_d19_5 : decode jdk_42_method_155_code 5 = .ok (.invokestatic 1059, 3) := by decide +kernel
theorem own_d19_8 : decode jdk_42_method_155_code 8 = .ok (.pop, 1) := by decide +kernel
theorem own_d19_9 : decode jdk_42_method_155_code 9 = .ok (.return_, 1) := by decide +kernel
theorem own_d20_0 : decode jdk_41_method_11_code 0 = .ok (.iload_n 0, 1) := by decide +kernel
theorem own_d20_1 : decode jdk_41_method_11_code 1 = .ok (.ifCond .lt 8, 3) := by decide +kernel
theorem own_d20_4 : decode jdk_41_method_11_code 4 = .ok (.iload_n 0, 1) := by decide +kernel
theorem own_d20_5 : decode jdk_41_method_11_code 5 = .ok (.iload_n 1, 1) := by decide +kernel
theorem own_d20_6 : decode jdk_41_method_11_code 6 = .ok (.if_icmp .lt 10, 3) := by decide +kernel
theorem own_d20_9 : decode jdk_41_method_11_code 9 = .ok (.aload_n 2, 1) := by decide +kernel
theorem own_d20_10 : decode jdk_41_method_11_code 10 = .ok (.iload_n 0, 1) := by decide +kernel
theorem own_d20_11 : decode jdk_41_method_11_code 11 = .ok (.iload_n 1, 1) := by decide +kernel
theorem own_d20_12 : decode jdk_41_method_11_code 12 = .ok (.invokestatic 95, 3) := by decide +kernel
theorem own_d20_15 : decode jdk_41_method_11_code 15 = .ok (.athrow, 1) := by decide +kernel
theorem own_d20_16 : decode jdk_41_method_11_code 16 = .ok (.iload_n 0, 1) := by decide +kernel
theorem own_d20_17 : decode jdk_41_method_11_code 17 = .ok (.ireturn, 1) := by decide +kernel
theorem own_d21_0 : decode prog_7_method_7_code 0 = .ok (.iload_n 0, 1) := by decide +kernel
theorem own_d21_1 : decode prog_7_method_7_code 1 = .ok (.iconst 2, 1) := by decide +kernel
theorem own_d21_2 : decode prog_7_method_7_code 2 = .ok (.if_icmp .ne 45, 3) := by decide +kernel
theorem own_d21_5 : decode prog_7_method_7_code 5 = .ok (.iload_n 1, 1) := by decide +kernel
theorem own_d21_6 : decode prog_7_method_7_code 6 = .ok (.iconst 4, 1) := by decide +kernel
theorem own_d21_7 : decode prog_7_method_7_code 7 = .ok (.irem, 1) := by decide +kernel
theorem own_d21_8 : decode prog_7_method_7_code 8 = .ok (.ifCond .ne 22, 3) := by decide +kernel
theorem own_d21_11 : decode prog_7_method_7_code 11 = .ok (.iload_n 1, 1) := by decide +kernel
theorem own_d21_12 : decode prog_7_method_7_code 12 = .ok (.bipush 100, 2) := by decide +kernel
theorem own_d21_14 : decode prog_7_method_7_code 14 = .ok (.irem, 1) := by decide +kernel
theorem own_d21_15 : decode prog_7_method_7_code 15 = .ok (.ifCond .ne 11, 3) := by decide +kernel
theorem own_d21_18 : decode prog_7_method_7_code 18 = .ok (.iload_n 1, 1) := by decide +kernel
theorem own_d21_19 : decode prog_7_method_7_code 19 = .ok (.sipush 400, 3) := by decide +kernel
theorem own_d21_22 : decode prog_7_method_7_code 22 = .ok (.irem, 1) := by decide +kernel
theorem own_d21_23 : decode prog_7_method_7_code 23 = .ok (.ifCond .ne 7, 3) := by decide +kernel
theorem own_d21_26 : decode prog_7_method_7_code 26 = .ok (.iconst 1, 1) := by decide +kernel
theorem own_d21_27 : decode prog_7_method_7_code 27 = .ok (.goto 4, 3) := by decide +kernel
theorem own_d21_30 : decode prog_7_method_7_code 30 = .ok (.iconst 0, 1) := by decide +kernel
theorem own_d21_31 : decode prog_7_method_7_code 31 = .ok (.istore_n 3, 1) := by decide +kernel
theorem own_d21_32 : decode prog_7_method_7_code 32 = .ok (.iload_n 3, 1) := by decide +kernel
theorem own_d21_33 : decode prog_7_method_7_code 33 = .ok (.ifCond .eq 8, 3) := by decide +kernel
theorem own_d21_36 : decode prog_7_method_7_code 36 = .ok (.bipush 29, 2) := by decide +kernel
theorem own_d21_38 : decode prog_7_method_7_code 38 = .ok (.goto 5, 3) := by decide +kernel
theorem own_d21_41 : decode prog_7_method_7_code 41 = .ok (.bipush 28, 2) := by decide +kernel
theorem own_d21_43 : decode prog_7_method_7_code 43 = .ok (.istore_n 2, 1) := by decide +kernel
theorem own_d21_44 : decode prog_7_method_7_code 44 = .ok (.goto 35, 3) := by decide +kernel
theorem own_d21_47 : decode prog_7_method_7_code 47 = .ok (.iload_n 0, 1) := by decide +kernel
theorem own_d21_48 : decode prog_7_method_7_code 48 = .ok (.iconst 4, 1) := by decide +kernel
theorem own_d21_49 : decode prog_7_method_7_code 49 = .ok (.if_icmp .eq 21, 3) := by decide +kernel
theorem own_d21_52 : decode prog_7_method_7_code 52 = .ok (.iload_n 0, 1) := by decide +kernel
theorem own_d21_53 : decode prog_7_method_7_code 53 = .ok (.bipush 6, 2) := by decide +kernel
theorem own_d21_55 : decode prog_7_method_7_code 55 = .ok (.if_icmp .eq 15, 3) := by decide +kernel
theorem own_d21_58 : decode prog_7_method_7_code 58 = .ok (.iload_n 0, 1) := by decide +kernel
theorem own_d21_59 : decode prog_7_method_7_code 59 = .ok (.bipush 9, 2) := by decide +kernel
theorem own_d21_61 : decode prog_7_method_7_code 61 = .ok (.if_icmp .eq 9, 3) := by decide +kernel
theorem own_d21_64 : decode prog_7_method_7_code 64 = .ok (.iload_n 0, 1) := by decide +kernel
theorem own_d21_65 : decode prog_7_method_7_code 65 = .ok (.bipush 11, 2) := by decide +kernel
theorem own_d21_67 : decode prog_7_method_7_code 67 = .ok (.if_icmp .ne 9, 3) := by decide +kernel
theorem own_d21_70 : decode prog_7_method_7_code 70 = .ok (.bipush 30, 2) := by decide +kernel
theorem own_d21_72 : decode prog_7_method_7_code 72 = .ok (.istore_n 2, 1) := by decide +kernel
theorem own_d21_73 : decode prog_7_method_7_code 73 = .ok (.goto 6, 3) := by decide +kernel
theorem own_d21_76 : decode prog_7_method_7_code 76 = .ok (.bipush 31, 2) := by decide +kernel
theorem own_d21_78 : decode prog_7_method_7_code 78 = .ok (.istore_n 2, 1) := by decide +kernel
theorem own_d21_79 : decode prog_7_method_7_code 79 = .ok (.iload_n 2, 1) := by decide +kernel
theorem own_d21_80 : decode prog_7_method_7_code 80 = .ok (.ireturn, 1) := by decide +kernel
theorem own_d22_0 : decode method_3_code 0 = .ok (.iload_n 0, 1) := by decide +kernel
theorem own_d22_1 : decode method_3_code 1 = .ok (.bipush 8, 2) := by decide +kernel
theorem own_d22_3 : decode method_3_code 3 = .ok (.iushr, 1) := by decide +kernel
theorem own_d22_4 : decode method_3_code 4 = .ok (.iconst 3, 1) := by decide +kernel
theorem own_d22_5 : decode method_3_code 5 = .ok (.iand, 1) := by decide +kernel
theorem own_d22_6 : decode method_3_code 6 = .ok (.istore_n 1, 1) := by decide +kernel
theorem own_d22_7 : decode method_3_code 7 = .ok (.iload_n 0, 1) := by decide +kernel
theorem own_d22_8 : decode method_3_code 8 = .ok (.sipush 255, 3) := by decide +kernel
theorem own_d22_11 : decode method_3_code 11 = .ok (.iand, 1) := by decide +kernel
theorem own_d22_12 : decode method_3_code 12 = .ok (.istore_n 2, 1) := by decide +kernel
theorem own_d22_13 : decode method_3_code 13 = .ok (.iload_n 1, 1) := by decide +kernel
theorem own_d22_14 : decode method_3_code 14 = .ok (.ifCond .ne 6, 3) := by decide +kernel
theorem own_d22_17 : decode method_3_code 17 = .ok (.iload_n 2, 1) := by decide +kernel
theorem own_d22_18 : decode method_3_code 18 = .ok (.i2c, 1) := by decide +kernel
theorem own_d22_19 : decode method_3_code 19 = .ok (.ireturn, 1) := by decide +kernel
theorem own_d22_20 : decode method_3_code 20 = .ok (.iload_n 1, 1) := by decide +kernel
theorem own_d22_21 : decode method_3_code 21 = .ok (.iconst 1, 1) := by decide +kernel
theorem own_d22_22 : decode method_3_code 22 = .ok (.if_icmp .ne 12, 3) := by decide +kernel
theorem own_d22_25 : decode method_3_code 25 = .ok (.bipush 48, 2) := by decide +kernel
theorem own_d22_27 : decode method_3_code 27 = .ok (.iload_n 2, 1) := by decide +kernel
theorem own_d22_28 : decode method_3_code 28 = .ok (.bipush 10, 2) := by decide +kernel
theorem own_d22_30 : decode method_3_code 30 = .ok (.irem, 1) := by decide +kernel
theorem own_d22_31 : decode method_3_code 31 = .ok (.iadd, 1) := by decide +kernel
theorem own_d22_32 : decode method_3_code 32 = .ok (.i2c, 1) := by decide +kernel
theorem own_d22_33 : decode method_3_code 33 = .ok (.ireturn, 1) := by decide +kernel
theorem own_d22_34 : decode method_3_code 34 = .ok (.iload_n 1, 1) := by decide +kernel
theorem own_d22_35 : decode method_3_code 35 = .ok (.iconst 2, 1) := by decide +kernel
theorem own_d22_36 : decode method_3_code 36 = .ok (.if_icmp .ne 6, 3) := by decide +kernel
theorem own_d22_39 : decode method_3_code 39 = .ok (.bipush 45, 2) := by decide +kernel
theorem own_d22_41 : decode method_3_code 41 = .ok (.ireturn, 1) := by decide +kernel
theorem own_d22_42 : decode method_3_code 42 = .ok (.iload_n 2, 1) := by decide +kernel
theorem own_d22_43 : decode method_3_code 43 = .ok (.iconst 1, 1) := by decide +kernel
theorem own_d22_44 : decode method_3_code 44 = .ok (.iand, 1) := by decide +kernel
theorem own_d22_45 : decode method_3_code 45 = .ok (.ifCond .ne 8, 3) := by decide +kernel
theorem own_d22_48 : decode method_3_code 48 = .ok (.bipush 47, 2) := by decide +kernel
theorem own_d22_50 : decode method_3_code 50 = .ok (.goto 5, 3) := by decide +kernel
theorem own_d22_53 : decode method_3_code 53 = .ok (.bipush 58, 2) := by decide +kernel
theorem own_d22_55 : decode method_3_code 55 = .ok (.ireturn, 1) := by decide +kernel
def own_R (c : Int32) : Prop := 0 ≤ c.toInt ∧ c.toInt ≤ 255
theorem own_narcs {x : Int32} (h : own_R x) : nar .char x = x := by
  have h1 := c_i2c x
  have e : nar .char x = x.toUInt32.toUInt16.toUInt32.toInt32 := rfl
  rw [e]
  apply Int32.toInt_inj.mp
  unfold own_R at h
  omega
def own_byt (c : Int32) : Int32 := c.toInt8.toInt32
theorem own_nbyt (c : Int32) : nar .byte c.toInt8.toInt32 = own_byt c := by
  have h3 := c_i2b c
  have h4 := c_i2b c.toInt8.toInt32
  have e : nar .byte c.toInt8.toInt32 = c.toInt8.toInt32.toInt8.toInt32 := rfl
  rw [e]
  apply Int32.toInt_inj.mp
  unfold own_byt
  omega
theorem own_chr {c : Int32} (h : own_R c) : nar .char ((own_byt c) &&& (255 : Int32)).toUInt32.toUInt16.toUInt32.toInt32 = c := by
  have h1 := c_i2b c
  have h2 := c_mask (own_byt c) 255 8 (by decide) (by decide)
  have h3 := c_i2c (own_byt c &&& 255)
  have h4 : ((own_byt c) &&& (255 : Int32)).toUInt32.toUInt16.toUInt32.toInt32 = c := by
    apply Int32.toInt_inj.mp
    unfold own_R at h
    unfold own_byt at *
    omega
  rw [h4]
  exact own_narcs h
theorem own_dr0 (q : Int32) : own_R (nar .char (q &&& (255 : Int32)).toUInt32.toUInt16.toUInt32.toInt32) := by
  have h2 := c_mask q 255 8 (by decide) (by decide)
  have h3 := c_i2c (q &&& 255)
  have h4 : own_R (q &&& (255 : Int32)).toUInt32.toUInt16.toUInt32.toInt32 := by unfold own_R; omega
  rw [own_narcs h4]; exact h4
theorem own_c48 {q : Int32} (h : 0 ≤ q.toInt ∧ q.toInt ≤ 200) : own_R ((48 : Int32) + q).toUInt32.toUInt16.toUInt32.toInt32 := by
  have h1 := c_iadd 48 q
  have h3 := c_i2c (48 + q)
  have e : (48 : Int32).toInt = 48 := rfl
  have := rng32 (48 + q)
  unfold own_R; omega
theorem own_dr1 (q : Int32) : own_R (nar .char ((48 : Int32) + ((q &&& (255 : Int32)) % (10 : Int32))).toUInt32.toUInt16.toUInt32.toInt32) := by
  have h2 := c_mask q 255 8 (by decide) (by decide)
  have h3 := (c_irem (q &&& 255) 10 10 rfl).1 (by rw [h2]; omega)
  have h4 : own_R ((48 : Int32) + ((q &&& (255 : Int32)) % (10 : Int32))).toUInt32.toUInt16.toUInt32.toInt32 := own_c48 (by omega)
  rw [own_narcs h4]; exact h4
theorem own_dr2 {q : Int32} (h : own_R q) : own_R (nar .char q) := by rw [own_narcs h]; exact h
theorem own_r {p z : Int32} (k : Int32) (K : Int) (hk : k.toInt = K) (h0 : 0 < K) (h : (p &&& 2147483647) % k = z) : 0 ≤ z.toInt ∧ z.toInt < K := by
  have h1 := c_mask p 2147483647 31 (by decide) (by decide)
  have h2 := (c_irem (p &&& 2147483647) k K hk).1 (by rw [h1]; omega)
  rw [h] at h2
  have h3 := Int.emod_lt_of_pos (p &&& 2147483647).toInt h0
  have h4 := Int.emod_nonneg (p &&& 2147483647).toInt (show K ≠ 0 by omega)
  omega
theorem own_r2 {x : Int32} (k : Int32) (K : Int) (hk : k.toInt = K) (h0 : 0 < K) (hK : K ≤ 100) (h : 0 ≤ x.toInt) : 0 ≤ (x % k).toInt ∧ (x % k).toInt < 100 := by
  have h2 := (c_irem x k K hk).1 h
  have h3 := Int.emod_lt_of_pos x.toInt h0
  have h4 := Int.emod_nonneg x.toInt (show K ≠ 0 by omega)
  omega
theorem own_q1 {x : Int32} (k : Int32) (K : Int) (hk : k.toInt = K) (hn : k ≠ -1) (h : 0 ≤ x.toInt ∧ x.toInt < 10000) (h1 : 100 ≤ K ∨ (x.toInt < 100 ∧ 10 ≤ K)) : 0 ≤ (x / k).toInt ∧ (x / k).toInt ≤ 200 := by
  have h2 := (c_idiv x k K hk hn).1 h.1
  rw [h2]
  refine ⟨Int.ediv_nonneg h.1 (by omega), ?_⟩
  rcases h1 with h1 | h1
  · have : x.toInt / K ≤ x.toInt / 100 := by
      have hK : 0 < K := by omega
      have := Int.ediv_mul_le x.toInt (show K ≠ 0 by omega)
      have h5 : 0 ≤ x.toInt / K := Int.ediv_nonneg h.1 (by omega)
      have h6 : x.toInt / K * 100 ≤ x.toInt / K * K := Int.mul_le_mul_of_nonneg_left h1 h5
      omega
    omega
  · have : x.toInt / K ≤ x.toInt := Int.ediv_le_self _ h.1
    omega
theorem own_q2 {x : Int32} (h : 0 ≤ x.toInt) : 0 ≤ (x % (10 : Int32)).toInt ∧ (x % (10 : Int32)).toInt ≤ 200 := by
  have h2 := (c_irem x 10 10 rfl).1 h
  omega
theorem own_qnn {x : Int32} (k : Int32) (K : Int) (hk : k.toInt = K) (h0 : 0 < K) (h : 0 ≤ x.toInt) : 0 ≤ (x / k).toInt := (c_idivV x k h (by omega)).1
theorem own_m7 {x : Int32} : 0 ≤ (x &&& (7 : Int32)).toInt ∧ (x &&& (7 : Int32)).toInt ≤ 200 := by
  have h2 := c_mask x 7 3 (by decide) (by decide)
  omega
theorem own_i10 {p z : Int32} (h : (p &&& 2147483647) % 10 = z) : z = 0 ∨ z = 1 ∨ z = 2 ∨ z = 3 ∨ z = 4 ∨ z = 5 ∨ z = 6 ∨ z = 7 ∨ z = 8 ∨ z = 9 := by
  have h1 := own_r 10 10 rfl (by decide) h
  have : z.toInt = 0 ∨ z.toInt = 1 ∨ z.toInt = 2 ∨ z.toInt = 3 ∨ z.toInt = 4 ∨ z.toInt = 5 ∨ z.toInt = 6 ∨ z.toInt = 7 ∨ z.toInt = 8 ∨ z.toInt = 9 := by omega
  rcases this with q | q | q | q | q | q | q | q | q | q
  · exact Or.inl (Int32.toInt_inj.mp q)
  · exact Or.inr (Or.inl (Int32.toInt_inj.mp q))
  · exact Or.inr (Or.inr (Or.inl (Int32.toInt_inj.mp q)))
  · exact Or.inr (Or.inr (Or.inr (Or.inl (Int32.toInt_inj.mp q))))
  · exact Or.inr (Or.inr (Or.inr (Or.inr (Or.inl (Int32.toInt_inj.mp q)))))
  · exact Or.inr (Or.inr (Or.inr (Or.inr (Or.inr (Or.inl (Int32.toInt_inj.mp q))))))
  · exact Or.inr (Or.inr (Or.inr (Or.inr (Or.inr (Or.inr (Or.inl (Int32.toInt_inj.mp q)))))))
  · exact Or.inr (Or.inr (Or.inr (Or.inr (Or.inr (Or.inr (Or.inr (Or.inl (Int32.toInt_inj.mp q))))))))
  · exact Or.inr (Or.inr (Or.inr (Or.inr (Or.inr (Or.inr (Or.inr (Or.inr (Or.inl (Int32.toInt_inj.mp q)))))))))
  · exact Or.inr (Or.inr (Or.inr (Or.inr (Or.inr (Or.inr (Or.inr (Or.inr (Or.inr (Int32.toInt_inj.mp q)))))))))
def own_ml (M Y : Int) : Int := if M = 2 then (if Y % 4 = 0 ∧ (¬ Y % 100 = 0 ∨ Y % 400 = 0) then 29 else 28) else if M = 4 ∨ M = 6 ∨ M = 9 ∨ M = 11 then 30 else 31
def own_dig (c : Int32) : Int32 := if 48 ≤ c.toInt ∧ c.toInt ≤ 57 then 1 else 0
theorem own_dgT {c : Int32} (h : own_dig c = 0) : ¬ (48 ≤ c.toInt ∧ c.toInt ≤ 57) := fun q => by unfold own_dig at h; rw [if_pos q] at h; exact absurd h (by decide)
theorem own_dgF {c : Int32} (h : ¬ own_dig c = 0) : 48 ≤ c.toInt ∧ c.toInt ≤ 57 := by
  by_cases q : 48 ≤ c.toInt ∧ c.toInt ≤ 57
  · exact q
  · exact absurd (by unfold own_dig; rw [if_neg q]) h
theorem own_v1 {a : Int32} (ha : 48 ≤ a.toInt ∧ a.toInt ≤ 57) : (a - (48 : Int32)).toInt = a.toInt - 48 := by
  have h := c_isub a 48
  have e : (48 : Int32).toInt = 48 := rfl
  have := rng32 (a - 48)
  omega
theorem own_mlt {x : Int32} (k : Int32) (K : Int) (hk : k.toInt = K) (hK : 0 ≤ K ∧ K ≤ 1000) (h : 0 ≤ x.toInt ∧ x.toInt ≤ 9) : (x * k).toInt = x.toInt * K := by
  have h1 := c_imul x k
  rw [hk] at h1
  have := rng32 (x * k)
  have h2 : 0 ≤ x.toInt * K := Int.mul_nonneg h.1 hK.1
  have h3 : x.toInt * K ≤ 9 * 1000 := Int.mul_le_mul h.2 hK.2 hK.1 (by decide)
  omega
theorem own_addt {x y : Int32} (hx : 0 ≤ x.toInt ∧ x.toInt ≤ 20000) (hy : 0 ≤ y.toInt ∧ y.toInt ≤ 20000) : (x + y).toInt = x.toInt + y.toInt := by
  have h1 := c_iadd x y
  have := rng32 (x + y)
  omega
theorem own_y4 {a b c d z : Int32} (ha : 48 ≤ a.toInt ∧ a.toInt ≤ 57) (hb : 48 ≤ b.toInt ∧ b.toInt ≤ 57) (hc : 48 ≤ c.toInt ∧ c.toInt ≤ 57) (hd : 48 ≤ d.toInt ∧ d.toInt ≤ 57) (h : ((((a - (48 : Int32)) * (1000 : Int32)) + ((b - (48 : Int32)) * (100 : Int32))) + ((c - (48 : Int32)) * (10 : Int32))) + (d - (48 : Int32)) = z) : z.toInt = 1000 * (a.toInt - 48) + 100 * (b.toInt - 48) + 10 * (c.toInt - 48) + (d.toInt - 48) := by
  have v1 := own_v1 ha; have v2 := own_v1 hb; have v3 := own_v1 hc; have v4 := own_v1 hd
  have m1 := own_mlt (x := a - 48) 1000 1000 rfl (by decide) (by omega)
  have m2 := own_mlt (x := b - 48) 100 100 rfl (by decide) (by omega)
  have m3 := own_mlt (x := c - 48) 10 10 rfl (by decide) (by omega)
  have s1 := own_addt (x := (a - 48) * 1000) (y := (b - 48) * 100) (by omega) (by omega)
  have s2 := own_addt (x := (a - 48) * 1000 + (b - 48) * 100) (y := (c - 48) * 10) (by omega) (by omega)
  have s3 := own_addt (x := (a - 48) * 1000 + (b - 48) * 100 + (c - 48) * 10) (y := d - 48) (by omega) (by omega)
  rw [← h]; omega
theorem own_y2 {a b z : Int32} (ha : 48 ≤ a.toInt ∧ a.toInt ≤ 57) (hb : 48 ≤ b.toInt ∧ b.toInt ≤ 57) (h : ((a - (48 : Int32)) * (10 : Int32)) + (b - (48 : Int32)) = z) : z.toInt = 10 * (a.toInt - 48) + (b.toInt - 48) := by
  have v1 := own_v1 ha; have v2 := own_v1 hb
  have m1 := own_mlt (x := a - 48) 10 10 rfl (by decide) (by omega)
  have s1 := own_addt (x := (a - 48) * 10) (y := b - 48) (by omega) (by omega)
  rw [← h]; omega
theorem own_st {v c : Int32} (hv : 0 ≤ v.toInt ∧ v.toInt ≤ 999) (hc : 48 ≤ c.toInt ∧ c.toInt ≤ 57) : ((((10 : Int32) * v) + c) - (48 : Int32)).toInt = 10 * v.toInt + c.toInt - 48 := by
  have h1 := c_imul 10 v
  rw [show (10 : Int32).toInt = 10 from rfl] at h1
  have r1 := rng32 (10 * v)
  have h2 := c_iadd (10 * v) c
  have r2 := rng32 (10 * v + c)
  have h3 := c_isub (10 * v + c) 48
  have r3 := rng32 (10 * v + c - 48)
  have e : (48 : Int32).toInt = 48 := rfl
  omega
theorem own_st0 {c : Int32} (hc : 48 ≤ c.toInt ∧ c.toInt ≤ 57) : (((0 : Int32) + c) - (48 : Int32)).toInt = c.toInt - 48 := by
  have h2 := c_iadd 0 c
  have r2 := rng32 (0 + c)
  have h3 := c_isub (0 + c) 48
  have r3 := rng32 (0 + c - 48)
  have e : (48 : Int32).toInt = 48 := rfl
  have e0 : (0 : Int32).toInt = 0 := rfl
  omega
theorem own_m30 {m : Int32} {Y : Int} (hm : 1 ≤ m.toInt ∧ m.toInt ≤ 12) (h2 : ¬ m = 2) : ((30 : Int32) + ((m + (m / (8 : Int32))) &&& (1 : Int32))).toInt = own_ml m.toInt Y := by
  have : m.toInt = 1 ∨ m.toInt = 2 ∨ m.toInt = 3 ∨ m.toInt = 4 ∨ m.toInt = 5 ∨ m.toInt = 6 ∨ m.toInt = 7 ∨ m.toInt = 8 ∨ m.toInt = 9 ∨ m.toInt = 10 ∨ m.toInt = 11 ∨ m.toInt = 12 := by omega
  rcases this with q | q | q | q | q | q | q | q | q | q | q | q
  · obtain rfl : m = 1 := Int32.toInt_inj.mp q
    unfold own_ml; rw [if_neg (by decide), if_neg (by decide)]; decide
  · exact absurd (Int32.toInt_inj.mp q) h2
  · obtain rfl : m = 3 := Int32.toInt_inj.mp q
    unfold own_ml; rw [if_neg (by decide), if_neg (by decide)]; decide
  · obtain rfl : m = 4 := Int32.toInt_inj.mp q
    unfold own_ml; rw [if_neg (by decide), if_pos (by decide)]; decide
  · obtain rfl : m = 5 := Int32.toInt_inj.mp q
    unfold own_ml; rw [if_neg (by decide), if_neg (by decide)]; decide
  · obtain rfl : m = 6 := Int32.toInt_inj.mp q
    unfold own_ml; rw [if_neg (by decide), if_pos (by decide)]; decide
  · obtain rfl : m = 7 := Int32.toInt_inj.mp q
    unfold own_ml; rw [if_neg (by decide), if_neg (by decide)]; decide
  · obtain rfl : m = 8 := Int32.toInt_inj.mp q
    unfold own_ml; rw [if_neg (by decide), if_neg (by decide)]; decide
  · obtain rfl : m = 9 := Int32.toInt_inj.mp q
    unfold own_ml; rw [if_neg (by decide), if_pos (by decide)]; decide
  · obtain rfl : m = 10 := Int32.toInt_inj.mp q
    unfold own_ml; rw [if_neg (by decide), if_neg (by decide)]; decide
  · obtain rfl : m = 11 := Int32.toInt_inj.mp q
    unfold own_ml; rw [if_neg (by decide), if_pos (by decide)]; decide
  · obtain rfl : m = 12 := Int32.toInt_inj.mp q
    unfold own_ml; rw [if_neg (by decide), if_neg (by decide)]; decide
def own_WF (c0 c1 c2 c3 c4 c5 c6 c7 c8 c9 : Int32) : Prop := (48 ≤ c0.toInt ∧ c0.toInt ≤ 57) ∧ (48 ≤ c1.toInt ∧ c1.toInt ≤ 57) ∧ (48 ≤ c2.toInt ∧ c2.toInt ≤ 57) ∧ (48 ≤ c3.toInt ∧ c3.toInt ≤ 57) ∧ c4.toInt = 45 ∧ (48 ≤ c5.toInt ∧ c5.toInt ≤ 57) ∧ (48 ≤ c6.toInt ∧ c6.toInt ≤ 57) ∧ c7.toInt = 45 ∧ (48 ≤ c8.toInt ∧ c8.toInt ≤ 57) ∧ (48 ≤ c9.toInt ∧ c9.toInt ≤ 57) ∧ 1 ≤ 10 * (c5.toInt - 48) + (c6.toInt - 48) ∧ 10 * (c5.toInt - 48) + (c6.toInt - 48) ≤ 12 ∧ 1 ≤ 10 * (c8.toInt - 48) + (c9.toInt - 48) ∧ 10 * (c8.toInt - 48) + (c9.toInt - 48) ≤ own_ml (10 * (c5.toInt - 48) + (c6.toInt - 48)) (1000 * (c0.toInt - 48) + 100 * (c1.toInt - 48) + 10 * (c2.toInt - 48) + (c3.toInt - 48))
def own_room22 : Room := { frames := 0, cells := 0, slots := 0, locals := 0 }
def own_Q22 (Z : State) (p0 : Int32) (h0 : Heap) (n0 : Nat) (v : Option Value) (h : Heap) (L : List Loc) : Prop := ∃ (z : Int32), v = some (.int z) ∧ Fr n0 L ∧ h = h0 ∧ own_R z
theorem own_ef_rm22 (m : MethodId) (x0 : Int32) : entryFrame m #[(.int x0)] 3 = mkF m 0 #[.val (.int x0), .unset, .unset] [] := by first | (simp [entryFrame, mkF, argsToLocals, Value.category]; done) | rfl
set_option maxRecDepth 65536 in
set_option maxHeartbeats 40000000 in
theorem own_rm22 (lch : Launch) (Z : State) (a0 : Array Value) (hw : ∀ d ∈ tables_1, d.before a0 Z = true) (ws : List Jvm.Cond) (p0 : Int32) (h0 : Heap) (n0 : Nat) :
    MetFree lch (⟨"com/example/exacting_validator/exactingvalidator/validator/Rfc3339IsFullDatePinLaw", "drawn", "(I)C"⟩ : MethodName) (head1 (Jvm.Cond.code (⟨"com/example/exacting_validator/exactingvalidator/validator/Rfc3339IsFullDatePinLaw", "drawn", "(I)C"⟩ : MethodName) method_3_code 3 (some .char) :: ws) own_room22) (fun zz U => zz = #[(.int p0)] ∧ Z.Warmed39 U.vm ∧ U.heap = h0) (fun _ _ _ _ _ => True) (fun _ U o U' => ∃ v L, o = .returned v ∧ own_Q22 Z p0 h0 n0 v U'.heap L ∧ FrameEnd U o U' L own_room22.cells own_room22.slots) := by
  refine MetFree.of_bodySF (plainFor_of_name own_pn0) hisR ?_
  intro prg e s m args below meth c s₁ Bd hml0 hP hK
  obtain ⟨rfl, hZ, hh⟩ := hP
  have hx := Bd.exec
  have hby := Bd.bytes
  have hml : c.maxLocals = 3 := hml0
  have hown : s.vm.findClass "com/example/exacting_validator/exactingvalidator/validator/Rfc3339IsFullDatePinLaw" = some m.cls := findClass_of_methodNamed Bd.named
  have hnm := (name_of_methodNamed Bd.named Bd.method).1
  have hlk : meth.locks = false := BodyLoose.notSynchronized Bd
  have hret := Bd.returns
  have X0 : Stand prg lch e own_room22 s m #[(.int p0)] below meth c s₁ [] 0 0 := Stand.of_body Bd
  have e0 : s₁.heap = h0 := by rw [← hh, Bd.state]; rfl
  have N0 := Fr.nil n0
  show own_Ends prg e below s (own_Q22 Z p0 h0 n0) own_room22.cells own_room22.slots s₁ (entryFrame m #[(.int p0)] 3)
  refine own_cast (own_ef_rm22 m p0) ?_
  refine own_iloadN (pc' := 1) X0 hx (hb hby own_d22_0) rfl rfl ?_
  refine own_bipush (pc' := 3) (z := (8 : Int32)) X0 hx (hb hby own_d22_1) rfl rfl ?_
  refine own_iushr (pc' := 4) (z := (own_ushr p0 (8 : Int32))) X0 hx (hb hby own_d22_3) rfl rfl ?_
  refine own_iconst (pc' := 5) (z := (3 : Int32)) X0 hx (hb hby own_d22_4) rfl rfl ?_
  refine own_iand (pc' := 6) (z := ((own_ushr p0 (8 : Int32)) &&& (3 : Int32))) X0 hx (hb hby own_d22_5) rfl rfl ?_
  refine own_istoreN (pc' := 7) (l' := #[.val (.int p0), .val (.int ((own_ushr p0 (8 : Int32)) &&& (3 : Int32))), .unset]) X0 hx (hb hby own_d22_6) rfl rfl ?_
  refine own_iloadN (pc' := 8) X0 hx (hb hby own_d22_7) rfl rfl ?_
  refine own_sipush (pc' := 11) (z := (255 : Int32)) X0 hx (hb hby own_d22_8) rfl rfl ?_
  refine own_iand (pc' := 12) (z := (p0 &&& (255 : Int32))) X0 hx (hb hby own_d22_11) rfl rfl ?_
  refine own_istoreN (pc' := 13) (l' := #[.val (.int p0), .val (.int ((own_ushr p0 (8 : Int32)) &&& (3 : Int32))), .val (.int (p0 &&& (255 : Int32)))]) X0 hx (hb hby own_d22_12) rfl rfl ?_
  refine own_iloadN (pc' := 14) X0 hx (hb hby own_d22_13) rfl rfl ?_
  by_cases hc14_31 : ((own_ushr p0 (8 : Int32)) &&& (3 : Int32)) = (0 : Int32)
  · refine own_ifNo (pc' := 17) X0 hx (hb hby own_d22_14) rfl (teq hc14_31).2 ?_
    refine own_iloadN (pc' := 18) X0 hx (hb hby own_d22_17) rfl rfl ?_
    refine own_i2c (pc' := 19) (z := (p0 &&& (255 : Int32)).toUInt32.toUInt16.toUInt32.toInt32) X0 hx (hb hby own_d22_18) rfl rfl ?_
    refine own_retN X0 hx hlk hret (by simp) (hb hby own_d22_19) (by decide) (by decide) ?_
    exact ⟨_, rfl, N0, e0, (own_dr0 _)⟩
  · refine own_ifYes (pc' := 20) X0 hx (hb hby own_d22_14) (feq hc14_31).2 (by decide) (by decide) ?_
    refine own_iloadN (pc' := 21) X0 hx (hb hby own_d22_20) rfl rfl ?_
    refine own_iconst (pc' := 22) (z := (1 : Int32)) X0 hx (hb hby own_d22_21) rfl rfl ?_
    by_cases hc22_32 : ((own_ushr p0 (8 : Int32)) &&& (3 : Int32)) = (1 : Int32)
    · refine own_icmpNo (pc' := 25) X0 hx (hb hby own_d22_22) rfl (teq hc22_32).2 ?_
      refine own_bipush (pc' := 27) (z := (48 : Int32)) X0 hx (hb hby own_d22_25) rfl rfl ?_
      refine own_iloadN (pc' := 28) X0 hx (hb hby own_d22_27) rfl rfl ?_
      refine own_bipush (pc' := 30) (z := (10 : Int32)) X0 hx (hb hby own_d22_28) rfl rfl ?_
      refine own_irem (pc' := 31) (z := ((p0 &&& (255 : Int32)) % (10 : Int32))) X0 hx (hb hby own_d22_30) rfl (by decide) rfl ?_
      refine own_iadd (pc' := 32) (z := ((48 : Int32) + ((p0 &&& (255 : Int32)) % (10 : Int32)))) X0 hx (hb hby own_d22_31) rfl rfl ?_
      refine own_i2c (pc' := 33) (z := ((48 : Int32) + ((p0 &&& (255 : Int32)) % (10 : Int32))).toUInt32.toUInt16.toUInt32.toInt32) X0 hx (hb hby own_d22_32) rfl rfl ?_
      refine own_retN X0 hx hlk hret (by simp) (hb hby own_d22_33) (by decide) (by decide) ?_
      exact ⟨_, rfl, N0, e0, (own_dr1 _)⟩
    · refine own_icmpYes (pc' := 34) X0 hx (hb hby own_d22_22) (feq hc22_32).2 (by decide) (by decide) ?_
      refine own_iloadN (pc' := 35) X0 hx (hb hby own_d22_34) rfl rfl ?_
      refine own_iconst (pc' := 36) (z := (2 : Int32)) X0 hx (hb hby own_d22_35) rfl rfl ?_
      by_cases hc36_33 : ((own_ushr p0 (8 : Int32)) &&& (3 : Int32)) = (2 : Int32)
      · refine own_icmpNo (pc' := 39) X0 hx (hb hby own_d22_36) rfl (teq hc36_33).2 ?_
        refine own_bipush (pc' := 41) (z := (45 : Int32)) X0 hx (hb hby own_d22_39) rfl rfl ?_
        refine own_retN X0 hx hlk hret (by simp) (hb hby own_d22_41) (by decide) (by decide) ?_
        exact ⟨_, rfl, N0, e0, (own_dr2 (by unfold own_R; decide))⟩
      · refine own_icmpYes (pc' := 42) X0 hx (hb hby own_d22_36) (feq hc36_33).2 (by decide) (by decide) ?_
        refine own_iloadN (pc' := 43) X0 hx (hb hby own_d22_42) rfl rfl ?_
        refine own_iconst (pc' := 44) (z := (1 : Int32)) X0 hx (hb hby own_d22_43) rfl rfl ?_
        refine own_iand (pc' := 45) (z := ((p0 &&& (255 : Int32)) &&& (1 : Int32))) X0 hx (hb hby own_d22_44) rfl rfl ?_
        by_cases hc45_34 : ((p0 &&& (255 : Int32)) &&& (1 : Int32)) = (0 : Int32)
        · refine own_ifNo (pc' := 48) X0 hx (hb hby own_d22_45) rfl (teq hc45_34).2 ?_
          refine own_bipush (pc' := 50) (z := (47 : Int32)) X0 hx (hb hby own_d22_48) rfl rfl ?_
          refine own_goto (pc' := 55) X0 hx (hb hby own_d22_50) (by decide) (by decide) ?_
          refine own_retN X0 hx hlk hret (by simp) (hb hby own_d22_55) (by decide) (by decide) ?_
          exact ⟨_, rfl, N0, e0, (own_dr2 (by unfold own_R; decide))⟩
        · refine own_ifYes (pc' := 53) X0 hx (hb hby own_d22_45) (feq hc45_34).2 (by decide) (by decide) ?_
          refine own_bipush (pc' := 55) (z := (58 : Int32)) X0 hx (hb hby own_d22_53) rfl rfl ?_
          refine own_retN X0 hx hlk hret (by simp) (hb hby own_d22_55) (by decide) (by decide) ?_
          exact ⟨_, rfl, N0, e0, (own_dr2 (by unfold own_R; decide))⟩
theorem own_255 {c : Int32} (h : own_R c) : ¬ (255 : Int32) < c := by
  have e : (255 : Int32).toInt = 255 := rfl
  unfold own_R at h
  rw [Int32.lt_iff_toInt_lt, e]; omega
def own_room5_9 : Room := { frames := 0, cells := 0, slots := 0, locals := 0 }
def own_Q5_9 (Z : State) (a : Addr) (b : Addr) (ak : ClassId) (bk : ClassId) (x0 : Int32) (x1 : Int32) (x2 : Int32) (x3 : Int32) (x4 : Int32) (x5 : Int32) (x6 : Int32) (x7 : Int32) (x8 : Int32) (h0 : Heap) (n0 : Nat) (v : Option Value) (h : Heap) (L : List Loc) : Prop := v = some (.int (9 : Int32)) ∧ Fr n0 L ∧ Keep h0 h [b] ∧ Arv Z h b bk .byte (9 : Int32) [(.int (own_byt x0)), (.int (own_byt x1)), (.int (own_byt x2)), (.int (own_byt x3)), (.int (own_byt x4)), (.int (own_byt x5)), (.int (own_byt x6)), (.int (own_byt x7)), (.int (own_byt x8))] (.int (0 : Int32))
theorem own_ef_rm5_9 (m : MethodId) (x0 : Addr) (x1 : Int32) (x2 : Addr) (x3 : Int32) (x4 : Int32) : entryFrame m #[(.ref x0), (.int x1), (.ref x2), (.int x3), (.int x4)] 7 = mkF m 0 #[.val (.ref x0), .val (.int x1), .val (.ref x2), .val (.int x3), .val (.int x4), .unset, .unset] [] := by first | (simp [entryFrame, mkF, argsToLocals, Value.category]; done) | rfl
set_option maxRecDepth 65536 in
set_option maxHeartbeats 40000000 in
theorem own_rm5_9 (lch : Launch) (Z : State) (a0 : Array Value) (hw : ∀ d ∈ tables_1, d.before a0 Z = true) (ws : List Jvm.Cond) (a : Addr) (b : Addr) (ak : ClassId) (bk : ClassId) (x0 : Int32) (x1 : Int32) (x2 : Int32) (x3 : Int32) (x4 : Int32) (x5 : Int32) (x6 : Int32) (x7 : Int32) (x8 : Int32) (h0 : Heap) (n0 : Nat) (V0 : Arv Z h0 a ak .char (9 : Int32) [(.int x0), (.int x1), (.int x2), (.int x3), (.int x4), (.int x5), (.int x6), (.int x7), (.int x8)] (.int (0 : Int32))) (V1 : Arv Z h0 b bk .byte (9 : Int32) [(.int (0 : Int32)), (.int (0 : Int32)), (.int (0 : Int32)), (.int (0 : Int32)), (.int (0 : Int32)), (.int (0 : Int32)), (.int (0 : Int32)), (.int (0 : Int32)), (.int (0 : Int32))] (.int (0 : Int32))) (ge0 : n0 ≤ b) (nab : a ≠ b) (rx0 : own_R x0) (rx1 : own_R x1) (rx2 : own_R x2) (rx3 : own_R x3) (rx4 : own_R x4) (rx5 : own_R x5) (rx6 : own_R x6) (rx7 : own_R x7) (rx8 : own_R x8) :
    MetFree lch (⟨"java/lang/StringUTF16", "compress", "([CI[BII)I"⟩ : MethodName) (head1 (Jvm.Cond.code (⟨"java/lang/StringUTF16", "compress", "([CI[BII)I"⟩ : MethodName) jdk_52_method_21_code 7 (some .int) :: ws) own_room5_9) (fun zz U => zz = #[(.ref a), (.int (0 : Int32)), (.ref b), (.int (0 : Int32)), (.int (9 : Int32))] ∧ Z.Warmed39 U.vm ∧ U.heap = h0) (fun _ _ _ _ _ => True) (fun _ U o U' => ∃ v L, o = .returned v ∧ own_Q5_9 Z a b ak bk x0 x1 x2 x3 x4 x5 x6 x7 x8 h0 n0 v U'.heap L ∧ FrameEnd U o U' L own_room5_9.cells own_room5_9.slots) := by
  refine MetFree.of_bodySF (plainFor_of_name own_pn1) hisR ?_
  intro prg e s m args below meth c s₁ Bd hml0 hP hK
  obtain ⟨rfl, hZ, hh⟩ := hP
  have hx := Bd.exec
  have hby := Bd.bytes
  have hml : c.maxLocals = 7 := hml0
  have hown : s.vm.findClass "java/lang/StringUTF16" = some m.cls := findClass_of_methodNamed Bd.named
  have hnm := (name_of_methodNamed Bd.named Bd.method).1
  have hlk : meth.locks = false := BodyLoose.notSynchronized Bd
  have hret := Bd.returns
  have X0 : Stand prg lch e own_room5_9 s m #[(.ref a), (.int (0 : Int32)), (.ref b), (.int (0 : Int32)), (.int (9 : Int32))] below meth c s₁ [] 0 0 := Stand.of_body Bd
  have e0 : s₁.heap = h0 := by rw [← hh, Bd.state]; rfl
  have N0 := Fr.nil n0
  show own_Ends prg e below s (own_Q5_9 Z a b ak bk x0 x1 x2 x3 x4 x5 x6 x7 x8 h0 n0) own_room5_9.cells own_room5_9.slots s₁ (entryFrame m #[(.ref a), (.int (0 : Int32)), (.ref b), (.int (0 : Int32)), (.int (9 : Int32))] 7)
  refine own_cast (own_ef_rm5_9 m a (0 : Int32) b (0 : Int32) (9 : Int32)) ?_
  have K0 := Keep.refl h0 ([b] : List Addr)
  refine own_iconst (pc' := 1) (z := (0 : Int32)) X0 hx (hb hby own_d5_0) rfl rfl ?_
  refine own_istore (pc' := 3) (l' := #[.val (.ref a), .val (.int (0 : Int32)), .val (.ref b), .val (.int (0 : Int32)), .val (.int (9 : Int32)), .val (.int (0 : Int32)), .unset]) X0 hx (hb hby own_d5_1) rfl rfl ?_
  refine own_iload (pc' := 5) X0 hx (hb hby own_d5_3) rfl rfl ?_
  refine own_iload (pc' := 7) X0 hx (hb hby own_d5_5) rfl rfl ?_
  refine own_icmpNo (pc' := 10) X0 hx (hb hby own_d5_7) rfl (tlt (by decide)).2.1 ?_
  refine own_aloadN (pc' := 11) X0 hx (hb hby own_d5_10) rfl rfl rfl ?_
  refine own_iloadN (pc' := 12) X0 hx (hb hby own_d5_11) rfl rfl ?_
  refine own_caload (pc' := 13) (v := (.int x0)) X0 hx hZ e0 V0 (hb hby own_d5_12) rfl (by decide) rfl ?_
  refine own_istore (pc' := 15) (l' := #[.val (.ref a), .val (.int (0 : Int32)), .val (.ref b), .val (.int (0 : Int32)), .val (.int (9 : Int32)), .val (.int (0 : Int32)), .val (.int x0)]) X0 hx (hb hby own_d5_13) rfl rfl ?_
  refine own_iload (pc' := 17) X0 hx (hb hby own_d5_15) rfl rfl ?_
  refine own_sipush (pc' := 20) (z := (255 : Int32)) X0 hx (hb hby own_d5_17) rfl rfl ?_
  refine own_icmpYes (pc' := 26) X0 hx (hb hby own_d5_20) (flt (own_255 rx0)).2.2.2 (by decide) (by decide) ?_
  refine own_aloadN (pc' := 27) X0 hx (hb hby own_d5_26) rfl rfl rfl ?_
  refine own_iloadN (pc' := 28) X0 hx (hb hby own_d5_27) rfl rfl ?_
  refine own_iload (pc' := 30) X0 hx (hb hby own_d5_28) rfl rfl ?_
  refine own_i2b (pc' := 31) (z := x0.toInt8.toInt32) X0 hx (hb hby own_d5_30) rfl rfl ?_
  refine own_bastore (pc' := 32) X0 hx hZ e0 V1 (hb hby own_d5_31) rfl (by decide) 0 rfl (by simp) N0 ge0 ?_
  intro T31 h31 L31 X31 e31 N31 W31 V31
  rw [show nar .byte x0.toInt8.toInt32 = (own_byt x0) from own_nbyt x0] at V31
  replace V31 : Arv Z h31 b bk .byte (9 : Int32) [(.int (own_byt x0)), (.int (0 : Int32)), (.int (0 : Int32)), (.int (0 : Int32)), (.int (0 : Int32)), (.int (0 : Int32)), (.int (0 : Int32)), (.int (0 : Int32)), (.int (0 : Int32))] (.int (0 : Int32)) := V31
  show own_Ends prg e below s _ _ _ T31 (mkF m 32 #[.val (.ref a), .val (.int (0 : Int32)), .val (.ref b), .val (.int (0 : Int32)), .val (.int (9 : Int32)), .val (.int (0 : Int32)), .val (.int x0)] [])
  refine own_iinc (pc' := 35) (z := (1 : Int32)) (l' := #[.val (.ref a), .val (.int (1 : Int32)), .val (.ref b), .val (.int (0 : Int32)), .val (.int (9 : Int32)), .val (.int (0 : Int32)), .val (.int x0)]) X31 hx (hb hby own_d5_32) rfl rfl (by decide) rfl ?_
  refine own_iinc (pc' := 38) (z := (1 : Int32)) (l' := #[.val (.ref a), .val (.int (1 : Int32)), .val (.ref b), .val (.int (1 : Int32)), .val (.int (9 : Int32)), .val (.int (0 : Int32)), .val (.int x0)]) X31 hx (hb hby own_d5_35) rfl rfl (by decide) rfl ?_
  refine own_iinc (pc' := 41) (z := (1 : Int32)) (l' := #[.val (.ref a), .val (.int (1 : Int32)), .val (.ref b), .val (.int (1 : Int32)), .val (.int (9 : Int32)), .val (.int (1 : Int32)), .val (.int x0)]) X31 hx (hb hby own_d5_38) rfl rfl (by decide) rfl ?_
  refine own_goto (pc' := 3) X31 hx (hb hby own_d5_41) (by decide) (by decide) ?_
  refine own_iload (pc' := 5) X31 hx (hb hby own_d5_3) rfl rfl ?_
  refine own_iload (pc' := 7) X31 hx (hb hby own_d5_5) rfl rfl ?_
  refine own_icmpNo (pc' := 10) X31 hx (hb hby own_d5_7) rfl (tlt (by decide)).2.1 ?_
  refine own_aloadN (pc' := 11) X31 hx (hb hby own_d5_10) rfl rfl rfl ?_
  refine own_iloadN (pc' := 12) X31 hx (hb hby own_d5_11) rfl rfl ?_
  have f32 := (V0.other W31 nab)
  refine own_caload (pc' := 13) (v := (.int x1)) X31 hx hZ e31 f32 (hb hby own_d5_12) rfl (by decide) rfl ?_
  refine own_istore (pc' := 15) (l' := #[.val (.ref a), .val (.int (1 : Int32)), .val (.ref b), .val (.int (1 : Int32)), .val (.int (9 : Int32)), .val (.int (1 : Int32)), .val (.int x1)]) X31 hx (hb hby own_d5_13) rfl rfl ?_
  refine own_iload (pc' := 17) X31 hx (hb hby own_d5_15) rfl rfl ?_
  refine own_sipush (pc' := 20) (z := (255 : Int32)) X31 hx (hb hby own_d5_17) rfl rfl ?_
  refine own_icmpYes (pc' := 26) X31 hx (hb hby own_d5_20) (flt (own_255 rx1)).2.2.2 (by decide) (by decide) ?_
  refine own_aloadN (pc' := 27) X31 hx (hb hby own_d5_26) rfl rfl rfl ?_
  refine own_iloadN (pc' := 28) X31 hx (hb hby own_d5_27) rfl rfl ?_
  refine own_iload (pc' := 30) X31 hx (hb hby own_d5_28) rfl rfl ?_
  refine own_i2b (pc' := 31) (z := x1.toInt8.toInt32) X31 hx (hb hby own_d5_30) rfl rfl ?_
  refine own_bastore (pc' := 32) X31 hx hZ e31 V31 (hb hby own_d5_31) rfl (by decide) 1 rfl (by simp) N31 ge0 ?_
  intro T33 h33 L33 X33 e33 N33 W33 V33
  rw [show nar .byte x1.toInt8.toInt32 = (own_byt x1) from own_nbyt x1] at V33
  replace V33 : Arv Z h33 b bk .byte (9 : Int32) [(.int (own_byt x0)), (.int (own_byt x1)), (.int (0 : Int32)), (.int (0 : Int32)), (.int (0 : Int32)), (.int (0 : Int32)), (.int (0 : Int32)), (.int (0 : Int32)), (.int (0 : Int32))] (.int (0 : Int32)) := V33
  show own_Ends prg e below s _ _ _ T33 (mkF m 32 #[.val (.ref a), .val (.int (1 : Int32)), .val (.ref b), .val (.int (1 : Int32)), .val (.int (9 : Int32)), .val (.int (1 : Int32)), .val (.int x1)] [])
  refine own_iinc (pc' := 35) (z := (2 : Int32)) (l' := #[.val (.ref a), .val (.int (2 : Int32)), .val (.ref b), .val (.int (1 : Int32)), .val (.int (9 : Int32)), .val (.int (1 : Int32)), .val (.int x1)]) X33 hx (hb hby own_d5_32) rfl rfl (by decide) rfl ?_
  refine own_iinc (pc' := 38) (z := (2 : Int32)) (l' := #[.val (.ref a), .val (.int (2 : Int32)), .val (.ref b), .val (.int (2 : Int32)), .val (.int (9 : Int32)), .val (.int (1 : Int32)), .val (.int x1)]) X33 hx (hb hby own_d5_35) rfl rfl (by decide) rfl ?_
  refine own_iinc (pc' := 41) (z := (2 : Int32)) (l' := #[.val (.ref a), .val (.int (2 : Int32)), .val (.ref b), .val (.int (2 : Int32)), .val (.int (9 : Int32)), .val (.int (2 : Int32)), .val (.int x1)]) X33 hx (hb hby own_d5_38) rfl rfl (by decide) rfl ?_
  refine own_goto (pc' := 3) X33 hx (hb hby own_d5_41) (by decide) (by decide) ?_
  refine own_iload (pc' := 5) X33 hx (hb hby own_d5_3) rfl rfl ?_
  refine own_iload (pc' := 7) X33 hx (hb hby own_d5_5) rfl rfl ?_
  refine own_icmpNo (pc' := 10) X33 hx (hb hby own_d5_7) rfl (tlt (by decide)).2.1 ?_
  refine own_aloadN (pc' := 11) X33 hx (hb hby own_d5_10) rfl rfl rfl ?_
  refine own_iloadN (pc' := 12) X33 hx (hb hby own_d5_11) rfl rfl ?_
  have f34 := (f32.other W33 nab)
  refine own_caload (pc' := 13) (v := (.int x2)) X33 hx hZ e33 f34 (hb hby own_d5_12) rfl (by decide) rfl ?_
  refine own_istore (pc' := 15) (l' := #[.val (.ref a), .val (.int (2 : Int32)), .val (.ref b), .val (.int (2 : Int32)), .val (.int (9 : Int32)), .val (.int (2 : Int32)), .val (.int x2)]) X33 hx (hb hby own_d5_13) rfl rfl ?_
  refine own_iload (pc' := 17) X33 hx (hb hby own_d5_15) rfl rfl ?_
  refine own_sipush (pc' := 20) (z := (255 : Int32)) X33 hx (hb hby own_d5_17) rfl rfl ?_
  refine own_icmpYes (pc' := 26) X33 hx (hb hby own_d5_20) (flt (own_255 rx2)).2.2.2 (by decide) (by decide) ?_
  refine own_aloadN (pc' := 27) X33 hx (hb hby own_d5_26) rfl rfl rfl ?_
  refine own_iloadN (pc' := 28) X33 hx (hb hby own_d5_27) rfl rfl ?_
  refine own_iload (pc' := 30) X33 hx (hb hby own_d5_28) rfl rfl ?_
  refine own_i2b (pc' := 31) (z := x2.toInt8.toInt32) X33 hx (hb hby own_d5_30) rfl rfl ?_
  refine own_bastore (pc' := 32) X33 hx hZ e33 V33 (hb hby own_d5_31) rfl (by decide) 2 rfl (by simp) N33 ge0 ?_
  intro T35 h35 L35 X35 e35 N35 W35 V35
  rw [show nar .byte x2.toInt8.toInt32 = (own_byt x2) from own_nbyt x2] at V35
  replace V35 : Arv Z h35 b bk .byte (9 : Int32) [(.int (own_byt x0)), (.int (own_byt x1)), (.int (own_byt x2)), (.int (0 : Int32)), (.int (0 : Int32)), (.int (0 : Int32)), (.int (0 : Int32)), (.int (0 : Int32)), (.int (0 : Int32))] (.int (0 : Int32)) := V35
  show own_Ends prg e below s _ _ _ T35 (mkF m 32 #[.val (.ref a), .val (.int (2 : Int32)), .val (.ref b), .val (.int (2 : Int32)), .val (.int (9 : Int32)), .val (.int (2 : Int32)), .val (.int x2)] [])
  refine own_iinc (pc' := 35) (z := (3 : Int32)) (l' := #[.val (.ref a), .val (.int (3 : Int32)), .val (.ref b), .val (.int (2 : Int32)), .val (.int (9 : Int32)), .val (.int (2 : Int32)), .val (.int x2)]) X35 hx (hb hby own_d5_32) rfl rfl (by decide) rfl ?_
  refine own_iinc (pc' := 38) (z := (3 : Int32)) (l' := #[.val (.ref a), .val (.int (3 : Int32)), .val (.ref b), .val (.int (3 : Int32)), .val (.int (9 : Int32)), .val (.int (2 : Int32)), .val (.int x2)]) X35 hx (hb hby own_d5_35) rfl rfl (by decide) rfl ?_
  refine own_iinc (pc' := 41) (z := (3 : Int32)) (l' := #[.val (.ref a), .val (.int (3 : Int32)), .val (.ref b), .val (.int (3 : Int32)), .val (.int (9 : Int32)), .val (.int (3 : Int32)), .val (.int x2)]) X35 hx (hb hby own_d5_38) rfl rfl (by decide) rfl ?_
  refine own_goto (pc' := 3) X35 hx (hb hby own_d5_41) (by decide) (by decide) ?_
  refine own_iload (pc' := 5) X35 hx (hb hby own_d5_3) rfl rfl ?_
  refine own_iload (pc' := 7) X35 hx (hb hby own_d5_5) rfl rfl ?_
  refine own_icmpNo (pc' := 10) X35 hx (hb hby own_d5_7) rfl (tlt (by decide)).2.1 ?_
  refine own_aloadN (pc' := 11) X35 hx (hb hby own_d5_10) rfl rfl rfl ?_
  refine own_iloadN (pc' := 12) X35 hx (hb hby own_d5_11) rfl rfl ?_
  have f36 := (f34.other W35 nab)
  refine own_caload (pc' := 13) (v := (.int x3)) X35 hx hZ e35 f36 (hb hby own_d5_12) rfl (by decide) rfl ?_
  refine own_istore (pc' := 15) (l' := #[.val (.ref a), .val (.int (3 : Int32)), .val (.ref b), .val (.int (3 : Int32)), .val (.int (9 : Int32)), .val (.int (3 : Int32)), .val (.int x3)]) X35 hx (hb hby own_d5_13) rfl rfl ?_
  refine own_iload (pc' := 17) X35 hx (hb hby own_d5_15) rfl rfl ?_
  refine own_sipush (pc' := 20) (z := (255 : Int32)) X35 hx (hb hby own_d5_17) rfl rfl ?_
  refine own_icmpYes (pc' := 26) X35 hx (hb hby own_d5_20) (flt (own_255 rx3)).2.2.2 (by decide) (by decide) ?_
  refine own_aloadN (pc' := 27) X35 hx (hb hby own_d5_26) rfl rfl rfl ?_
  refine own_iloadN (pc' := 28) X35 hx (hb hby own_d5_27) rfl rfl ?_
  refine own_iload (pc' := 30) X35 hx (hb hby own_d5_28) rfl rfl ?_
  refine own_i2b (pc' := 31) (z := x3.toInt8.toInt32) X35 hx (hb hby own_d5_30) rfl rfl ?_
  refine own_bastore (pc' := 32) X35 hx hZ e35 V35 (hb hby own_d5_31) rfl (by decide) 3 rfl (by simp) N35 ge0 ?_
  intro T37 h37 L37 X37 e37 N37 W37 V37
  rw [show nar .byte x3.toInt8.toInt32 = (own_byt x3) from own_nbyt x3] at V37
  replace V37 : Arv Z h37 b bk .byte (9 : Int32) [(.int (own_byt x0)), (.int (own_byt x1)), (.int (own_byt x2)), (.int (own_byt x3)), (.int (0 : Int32)), (.int (0 : Int32)), (.int (0 : Int32)), (.int (0 : Int32)), (.int (0 : Int32))] (.int (0 : Int32)) := V37
  show own_Ends prg e below s _ _ _ T37 (mkF m 32 #[.val (.ref a), .val (.int (3 : Int32)), .val (.ref b), .val (.int (3 : Int32)), .val (.int (9 : Int32)), .val (.int (3 : Int32)), .val (.int x3)] [])
  refine own_iinc (pc' := 35) (z := (4 : Int32)) (l' := #[.val (.ref a), .val (.int (4 : Int32)), .val (.ref b), .val (.int (3 : Int32)), .val (.int (9 : Int32)), .val (.int (3 : Int32)), .val (.int x3)]) X37 hx (hb hby own_d5_32) rfl rfl (by decide) rfl ?_
  refine own_iinc (pc' := 38) (z := (4 : Int32)) (l' := #[.val (.ref a), .val (.int (4 : Int32)), .val (.ref b), .val (.int (4 : Int32)), .val (.int (9 : Int32)), .val (.int (3 : Int32)), .val (.int x3)]) X37 hx (hb hby own_d5_35) rfl rfl (by decide) rfl ?_
  refine own_iinc (pc' := 41) (z := (4 : Int32)) (l' := #[.val (.ref a), .val (.int (4 : Int32)), .val (.ref b), .val (.int (4 : Int32)), .val (.int (9 : Int32)), .val (.int (4 : Int32)), .val (.int x3)]) X37 hx (hb hby own_d5_38) rfl rfl (by decide) rfl ?_
  refine own_goto (pc' := 3) X37 hx (hb hby own_d5_41) (by decide) (by decide) ?_
  refine own_iload (pc' := 5) X37 hx (hb hby own_d5_3) rfl rfl ?_
  refine own_iload (pc' := 7) X37 hx (hb hby own_d5_5) rfl rfl ?_
  refine own_icmpNo (pc' := 10) X37 hx (hb hby own_d5_7) rfl (tlt (by decide)).2.1 ?_
  refine own_aloadN (pc' := 11) X37 hx (hb hby own_d5_10) rfl rfl rfl ?_
  refine own_iloadN (pc' := 12) X37 hx (hb hby own_d5_11) rfl rfl ?_
  have f38 := (f36.other W37 nab)
  refine own_caload (pc' := 13) (v := (.int x4)) X37 hx hZ e37 f38 (hb hby own_d5_12) rfl (by decide) rfl ?_
  refine own_istore (pc' := 15) (l' := #[.val (.ref a), .val (.int (4 : Int32)), .val (.ref b), .val (.int (4 : Int32)), .val (.int (9 : Int32)), .val (.int (4 : Int32)), .val (.int x4)]) X37 hx (hb hby own_d5_13) rfl rfl ?_
  refine own_iload (pc' := 17) X37 hx (hb hby own_d5_15) rfl rfl ?_
  refine own_sipush (pc' := 20) (z := (255 : Int32)) X37 hx (hb hby own_d5_17) rfl rfl ?_
  refine own_icmpYes (pc' := 26) X37 hx (hb hby own_d5_20) (flt (own_255 rx4)).2.2.2 (by decide) (by decide) ?_
  refine own_aloadN (pc' := 27) X37 hx (hb hby own_d5_26) rfl rfl rfl ?_
  refine own_iloadN (pc' := 28) X37 hx (hb hby own_d5_27) rfl rfl ?_
  refine own_iload (pc' := 30) X37 hx (hb hby own_d5_28) rfl rfl ?_
  refine own_i2b (pc' := 31) (z := x4.toInt8.toInt32) X37 hx (hb hby own_d5_30) rfl rfl ?_
  refine own_bastore (pc' := 32) X37 hx hZ e37 V37 (hb hby own_d5_31) rfl (by decide) 4 rfl (by simp) N37 ge0 ?_
  intro T39 h39 L39 X39 e39 N39 W39 V39
  rw [show nar .byte x4.toInt8.toInt32 = (own_byt x4) from own_nbyt x4] at V39
  replace V39 : Arv Z h39 b bk .byte (9 : Int32) [(.int (own_byt x0)), (.int (own_byt x1)), (.int (own_byt x2)), (.int (own_byt x3)), (.int (own_byt x4)), (.int (0 : Int32)), (.int (0 : Int32)), (.int (0 : Int32)), (.int (0 : Int32))] (.int (0 : Int32)) := V39
  show own_Ends prg e below s _ _ _ T39 (mkF m 32 #[.val (.ref a), .val (.int (4 : Int32)), .val (.ref b), .val (.int (4 : Int32)), .val (.int (9 : Int32)), .val (.int (4 : Int32)), .val (.int x4)] [])
  refine own_iinc (pc' := 35) (z := (5 : Int32)) (l' := #[.val (.ref a), .val (.int (5 : Int32)), .val (.ref b), .val (.int (4 : Int32)), .val (.int (9 : Int32)), .val (.int (4 : Int32)), .val (.int x4)]) X39 hx (hb hby own_d5_32) rfl rfl (by decide) rfl ?_
  refine own_iinc (pc' := 38) (z := (5 : Int32)) (l' := #[.val (.ref a), .val (.int (5 : Int32)), .val (.ref b), .val (.int (5 : Int32)), .val (.int (9 : Int32)), .val (.int (4 : Int32)), .val (.int x4)]) X39 hx (hb hby own_d5_35) rfl rfl (by decide) rfl ?_
  refine own_iinc (pc' := 41) (z := (5 : Int32)) (l' := #[.val (.ref a), .val (.int (5 : Int32)), .val (.ref b), .val (.int (5 : Int32)), .val (.int (9 : Int32)), .val (.int (5 : Int32)), .val (.int x4)]) X39 hx (hb hby own_d5_38) rfl rfl (by decide) rfl ?_
  refine own_goto (pc' := 3) X39 hx (hb hby own_d5_41) (by decide) (by decide) ?_
  refine own_iload (pc' := 5) X39 hx (hb hby own_d5_3) rfl rfl ?_
  refine own_iload (pc' := 7) X39 hx (hb hby own_d5_5) rfl rfl ?_
  refine own_icmpNo (pc' := 10) X39 hx (hb hby own_d5_7) rfl (tlt (by decide)).2.1 ?_
  refine own_aloadN (pc' := 11) X39 hx (hb hby own_d5_10) rfl rfl rfl ?_
  refine own_iloadN (pc' := 12) X39 hx (hb hby own_d5_11) rfl rfl ?_
  have f40 := (f38.other W39 nab)
  refine own_caload (pc' := 13) (v := (.int x5)) X39 hx hZ e39 f40 (hb hby own_d5_12) rfl (by decide) rfl ?_
  refine own_istore (pc' := 15) (l' := #[.val (.ref a), .val (.int (5 : Int32)), .val (.ref b), .val (.int (5 : Int32)), .val (.int (9 : Int32)), .val (.int (5 : Int32)), .val (.int x5)]) X39 hx (hb hby own_d5_13) rfl rfl ?_
  refine own_iload (pc' := 17) X39 hx (hb hby own_d5_15) rfl rfl ?_
  refine own_sipush (pc' := 20) (z := (255 : Int32)) X39 hx (hb hby own_d5_17) rfl rfl ?_
  refine own_icmpYes (pc' := 26) X39 hx (hb hby own_d5_20) (flt (own_255 rx5)).2.2.2 (by decide) (by decide) ?_
  refine own_aloadN (pc' := 27) X39 hx (hb hby own_d5_26) rfl rfl rfl ?_
  refine own_iloadN (pc' := 28) X39 hx (hb hby own_d5_27) rfl rfl ?_
  refine own_iload (pc' := 30) X39 hx (hb hby own_d5_28) rfl rfl ?_
  refine own_i2b (pc' := 31) (z := x5.toInt8.toInt32) X39 hx (hb hby own_d5_30) rfl rfl ?_
  refine own_bastore (pc' := 32) X39 hx hZ e39 V39 (hb hby own_d5_31) rfl (by decide) 5 rfl (by simp) N39 ge0 ?_
  intro T41 h41 L41 X41 e41 N41 W41 V41
  rw [show nar .byte x5.toInt8.toInt32 = (own_byt x5) from own_nbyt x5] at V41
  replace V41 : Arv Z h41 b bk .byte (9 : Int32) [(.int (own_byt x0)), (.int (own_byt x1)), (.int (own_byt x2)), (.int (own_byt x3)), (.int (own_byt x4)), (.int (own_byt x5)), (.int (0 : Int32)), (.int (0 : Int32)), (.int (0 : Int32))] (.int (0 : Int32)) := V41
  show own_Ends prg e below s _ _ _ T41 (mkF m 32 #[.val (.ref a), .val (.int (5 : Int32)), .val (.ref b), .val (.int (5 : Int32)), .val (.int (9 : Int32)), .val (.int (5 : Int32)), .val (.int x5)] [])
  refine own_iinc (pc' := 35) (z := (6 : Int32)) (l' := #[.val (.ref a), .val (.int (6 : Int32)), .val (.ref b), .val (.int (5 : Int32)), .val (.int (9 : Int32)), .val (.int (5 : Int32)), .val (.int x5)]) X41 hx (hb hby own_d5_32) rfl rfl (by decide) rfl ?_
  refine own_iinc (pc' := 38) (z := (6 : Int32)) (l' := #[.val (.ref a), .val (.int (6 : Int32)), .val (.ref b), .val (.int (6 : Int32)), .val (.int (9 : Int32)), .val (.int (5 : Int32)), .val (.int x5)]) X41 hx (hb hby own_d5_35) rfl rfl (by decide) rfl ?_
  refine own_iinc (pc' := 41) (z := (6 : Int32)) (l' := #[.val (.ref a), .val (.int (6 : Int32)), .val (.ref b), .val (.int (6 : Int32)), .val (.int (9 : Int32)), .val (.int (6 : Int32)), .val (.int x5)]) X41 hx (hb hby own_d5_38) rfl rfl (by decide) rfl ?_
  refine own_goto (pc' := 3) X41 hx (hb hby own_d5_41) (by decide) (by decide) ?_
  refine own_iload (pc' := 5) X41 hx (hb hby own_d5_3) rfl rfl ?_
  refine own_iload (pc' := 7) X41 hx (hb hby own_d5_5) rfl rfl ?_
  refine own_icmpNo (pc' := 10) X41 hx (hb hby own_d5_7) rfl (tlt (by decide)).2.1 ?_
  refine own_aloadN (pc' := 11) X41 hx (hb hby own_d5_10) rfl rfl rfl ?_
  refine own_iloadN (pc' := 12) X41 hx (hb hby own_d5_11) rfl rfl ?_
  have f42 := (f40.other W41 nab)
  refine own_caload (pc' := 13) (v := (.int x6)) X41 hx hZ e41 f42 (hb hby own_d5_12) rfl (by decide) rfl ?_
  refine own_istore (pc' := 15) (l' := #[.val (.ref a), .val (.int (6 : Int32)), .val (.ref b), .val (.int (6 : Int32)), .val (.int (9 : Int32)), .val (.int (6 : Int32)), .val (.int x6)]) X41 hx (hb hby own_d5_13) rfl rfl ?_
  refine own_iload (pc' := 17) X41 hx (hb hby own_d5_15) rfl rfl ?_
  refine own_sipush (pc' := 20) (z := (255 : Int32)) X41 hx (hb hby own_d5_17) rfl rfl ?_
  refine own_icmpYes (pc' := 26) X41 hx (hb hby own_d5_20) (flt (own_255 rx6)).2.2.2 (by decide) (by decide) ?_
  refine own_aloadN (pc' := 27) X41 hx (hb hby own_d5_26) rfl rfl rfl ?_
  refine own_iloadN (pc' := 28) X41 hx (hb hby own_d5_27) rfl rfl ?_
  refine own_iload (pc' := 30) X41 hx (hb hby own_d5_28) rfl rfl ?_
  refine own_i2b (pc' := 31) (z := x6.toInt8.toInt32) X41 hx (hb hby own_d5_30) rfl rfl ?_
  refine own_bastore (pc' := 32) X41 hx hZ e41 V41 (hb hby own_d5_31) rfl (by decide) 6 rfl (by simp) N41 ge0 ?_
  intro T43 h43 L43 X43 e43 N43 W43 V43
  rw [show nar .byte x6.toInt8.toInt32 = (own_byt x6) from own_nbyt x6] at V43
  replace V43 : Arv Z h43 b bk .byte (9 : Int32) [(.int (own_byt x0)), (.int (own_byt x1)), (.int (own_byt x2)), (.int (own_byt x3)), (.int (own_byt x4)), (.int (own_byt x5)), (.int (own_byt x6)), (.int (0 : Int32)), (.int (0 : Int32))] (.int (0 : Int32)) := V43
  show own_Ends prg e below s _ _ _ T43 (mkF m 32 #[.val (.ref a), .val (.int (6 : Int32)), .val (.ref b), .val (.int (6 : Int32)), .val (.int (9 : Int32)), .val (.int (6 : Int32)), .val (.int x6)] [])
  refine own_iinc (pc' := 35) (z := (7 : Int32)) (l' := #[.val (.ref a), .val (.int (7 : Int32)), .val (.ref b), .val (.int (6 : Int32)), .val (.int (9 : Int32)), .val (.int (6 : Int32)), .val (.int x6)]) X43 hx (hb hby own_d5_32) rfl rfl (by decide) rfl ?_
  refine own_iinc (pc' := 38) (z := (7 : Int32)) (l' := #[.val (.ref a), .val (.int (7 : Int32)), .val (.ref b), .val (.int (7 : Int32)), .val (.int (9 : Int32)), .val (.int (6 : Int32)), .val (.int x6)]) X43 hx (hb hby own_d5_35) rfl rfl (by decide) rfl ?_
  refine own_iinc (pc' := 41) (z := (7 : Int32)) (l' := #[.val (.ref a), .val (.int (7 : Int32)), .val (.ref b), .val (.int (7 : Int32)), .val (.int (9 : Int32)), .val (.int (7 : Int32)), .val (.int x6)]) X43 hx (hb hby own_d5_38) rfl rfl (by decide) rfl ?_
  refine own_goto (pc' := 3) X43 hx (hb hby own_d5_41) (by decide) (by decide) ?_
  refine own_iload (pc' := 5) X43 hx (hb hby own_d5_3) rfl rfl ?_
  refine own_iload (pc' := 7) X43 hx (hb hby own_d5_5) rfl rfl ?_
  refine own_icmpNo (pc' := 10) X43 hx (hb hby own_d5_7) rfl (tlt (by decide)).2.1 ?_
  refine own_aloadN (pc' := 11) X43 hx (hb hby own_d5_10) rfl rfl rfl ?_
  refine own_iloadN (pc' := 12) X43 hx (hb hby own_d5_11) rfl rfl ?_
  have f44 := (f42.other W43 nab)
  refine own_caload (pc' := 13) (v := (.int x7)) X43 hx hZ e43 f44 (hb hby own_d5_12) rfl (by decide) rfl ?_
  refine own_istore (pc' := 15) (l' := #[.val (.ref a), .val (.int (7 : Int32)), .val (.ref b), .val (.int (7 : Int32)), .val (.int (9 : Int32)), .val (.int (7 : Int32)), .val (.int x7)]) X43 hx (hb hby own_d5_13) rfl rfl ?_
  refine own_iload (pc' := 17) X43 hx (hb hby own_d5_15) rfl rfl ?_
  refine own_sipush (pc' := 20) (z := (255 : Int32)) X43 hx (hb hby own_d5_17) rfl rfl ?_
  refine own_icmpYes (pc' := 26) X43 hx (hb hby own_d5_20) (flt (own_255 rx7)).2.2.2 (by decide) (by decide) ?_
  refine own_aloadN (pc' := 27) X43 hx (hb hby own_d5_26) rfl rfl rfl ?_
  refine own_iloadN (pc' := 28) X43 hx (hb hby own_d5_27) rfl rfl ?_
  refine own_iload (pc' := 30) X43 hx (hb hby own_d5_28) rfl rfl ?_
  refine own_i2b (pc' := 31) (z := x7.toInt8.toInt32) X43 hx (hb hby own_d5_30) rfl rfl ?_
  refine own_bastore (pc' := 32) X43 hx hZ e43 V43 (hb hby own_d5_31) rfl (by decide) 7 rfl (by simp) N43 ge0 ?_
  intro T45 h45 L45 X45 e45 N45 W45 V45
  rw [show nar .byte x7.toInt8.toInt32 = (own_byt x7) from own_nbyt x7] at V45
  replace V45 : Arv Z h45 b bk .byte (9 : Int32) [(.int (own_byt x0)), (.int (own_byt x1)), (.int (own_byt x2)), (.int (own_byt x3)), (.int (own_byt x4)), (.int (own_byt x5)), (.int (own_byt x6)), (.int (own_byt x7)), (.int (0 : Int32))] (.int (0 : Int32)) := V45
  show own_Ends prg e below s _ _ _ T45 (mkF m 32 #[.val (.ref a), .val (.int (7 : Int32)), .val (.ref b), .val (.int (7 : Int32)), .val (.int (9 : Int32)), .val (.int (7 : Int32)), .val (.int x7)] [])
  refine own_iinc (pc' := 35) (z := (8 : Int32)) (l' := #[.val (.ref a), .val (.int (8 : Int32)), .val (.ref b), .val (.int (7 : Int32)), .val (.int (9 : Int32)), .val (.int (7 : Int32)), .val (.int x7)]) X45 hx (hb hby own_d5_32) rfl rfl (by decide) rfl ?_
  refine own_iinc (pc' := 38) (z := (8 : Int32)) (l' := #[.val (.ref a), .val (.int (8 : Int32)), .val (.ref b), .val (.int (8 : Int32)), .val (.int (9 : Int32)), .val (.int (7 : Int32)), .val (.int x7)]) X45 hx (hb hby own_d5_35) rfl rfl (by decide) rfl ?_
  refine own_iinc (pc' := 41) (z := (8 : Int32)) (l' := #[.val (.ref a), .val (.int (8 : Int32)), .val (.ref b), .val (.int (8 : Int32)), .val (.int (9 : Int32)), .val (.int (8 : Int32)), .val (.int x7)]) X45 hx (hb hby own_d5_38) rfl rfl (by decide) rfl ?_
  refine own_goto (pc' := 3) X45 hx (hb hby own_d5_41) (by decide) (by decide) ?_
  refine own_iload (pc' := 5) X45 hx (hb hby own_d5_3) rfl rfl ?_
  refine own_iload (pc' := 7) X45 hx (hb hby own_d5_5) rfl rfl ?_
  refine own_icmpNo (pc' := 10) X45 hx (hb hby own_d5_7) rfl (tlt (by decide)).2.1 ?_
  refine own_aloadN (pc' := 11) X45 hx (hb hby own_d5_10) rfl rfl rfl ?_
  refine own_iloadN (pc' := 12) X45 hx (hb hby own_d5_11) rfl rfl ?_
  have f46 := (f44.other W45 nab)
  refine own_caload (pc' := 13) (v := (.int x8)) X45 hx hZ e45 f46 (hb hby own_d5_12) rfl (by decide) rfl ?_
  refine own_istore (pc' := 15) (l' := #[.val (.ref a), .val (.int (8 : Int32)), .val (.ref b), .val (.int (8 : Int32)), .val (.int (9 : Int32)), .val (.int (8 : Int32)), .val (.int x8)]) X45 hx (hb hby own_d5_13) rfl rfl ?_
  refine own_iload (pc' := 17) X45 hx (hb hby own_d5_15) rfl rfl ?_
  refine own_sipush (pc' := 20) (z := (255 : Int32)) X45 hx (hb hby own_d5_17) rfl rfl ?_
  refine own_icmpYes (pc' := 26) X45 hx (hb hby own_d5_20) (flt (own_255 rx8)).2.2.2 (by decide) (by decide) ?_
  refine own_aloadN (pc' := 27) X45 hx (hb hby own_d5_26) rfl rfl rfl ?_
  refine own_iloadN (pc' := 28) X45 hx (hb hby own_d5_27) rfl rfl ?_
  refine own_iload (pc' := 30) X45 hx (hb hby own_d5_28) rfl rfl ?_
  refine own_i2b (pc' := 31) (z := x8.toInt8.toInt32) X45 hx (hb hby own_d5_30) rfl rfl ?_
  refine own_bastore (pc' := 32) X45 hx hZ e45 V45 (hb hby own_d5_31) rfl (by decide) 8 rfl (by simp) N45 ge0 ?_
  intro T47 h47 L47 X47 e47 N47 W47 V47
  rw [show nar .byte x8.toInt8.toInt32 = (own_byt x8) from own_nbyt x8] at V47
  replace V47 : Arv Z h47 b bk .byte (9 : Int32) [(.int (own_byt x0)), (.int (own_byt x1)), (.int (own_byt x2)), (.int (own_byt x3)), (.int (own_byt x4)), (.int (own_byt x5)), (.int (own_byt x6)), (.int (own_byt x7)), (.int (own_byt x8))] (.int (0 : Int32)) := V47
  show own_Ends prg e below s _ _ _ T47 (mkF m 32 #[.val (.ref a), .val (.int (8 : Int32)), .val (.ref b), .val (.int (8 : Int32)), .val (.int (9 : Int32)), .val (.int (8 : Int32)), .val (.int x8)] [])
  refine own_iinc (pc' := 35) (z := (9 : Int32)) (l' := #[.val (.ref a), .val (.int (9 : Int32)), .val (.ref b), .val (.int (8 : Int32)), .val (.int (9 : Int32)), .val (.int (8 : Int32)), .val (.int x8)]) X47 hx (hb hby own_d5_32) rfl rfl (by decide) rfl ?_
  refine own_iinc (pc' := 38) (z := (9 : Int32)) (l' := #[.val (.ref a), .val (.int (9 : Int32)), .val (.ref b), .val (.int (9 : Int32)), .val (.int (9 : Int32)), .val (.int (8 : Int32)), .val (.int x8)]) X47 hx (hb hby own_d5_35) rfl rfl (by decide) rfl ?_
  refine own_iinc (pc' := 41) (z := (9 : Int32)) (l' := #[.val (.ref a), .val (.int (9 : Int32)), .val (.ref b), .val (.int (9 : Int32)), .val (.int (9 : Int32)), .val (.int (9 : Int32)), .val (.int x8)]) X47 hx (hb hby own_d5_38) rfl rfl (by decide) rfl ?_
  refine own_goto (pc' := 3) X47 hx (hb hby own_d5_41) (by decide) (by decide) ?_
  refine own_iload (pc' := 5) X47 hx (hb hby own_d5_3) rfl rfl ?_
  refine own_iload (pc' := 7) X47 hx (hb hby own_d5_5) rfl rfl ?_
  refine own_icmpYes (pc' := 44) X47 hx (hb hby own_d5_7) (flt (by decide)).2.1 (by decide) (by decide) ?_
  refine own_iload (pc' := 46) X47 hx (hb hby own_d5_44) rfl rfl ?_
  refine own_retI X47 hx hlk hret (hb hby own_d5_46) (by decide) (by decide) ?_
  have f48 := (((((((((K0.wr W31 (Or.inl (List.mem_of_getElem? (i := 0) rfl))).wr W33 (Or.inl (List.mem_of_getElem? (i := 0) rfl))).wr W35 (Or.inl (List.mem_of_getElem? (i := 0) rfl))).wr W37 (Or.inl (List.mem_of_getElem? (i := 0) rfl))).wr W39 (Or.inl (List.mem_of_getElem? (i := 0) rfl))).wr W41 (Or.inl (List.mem_of_getElem? (i := 0) rfl))).wr W43 (Or.inl (List.mem_of_getElem? (i := 0) rfl))).wr W45 (Or.inl (List.mem_of_getElem? (i := 0) rfl))).wr W47 (Or.inl (List.mem_of_getElem? (i := 0) rfl)))
  rw [e47]; exact ⟨rfl, N47, f48, V47⟩
def own_room5_10 : Room := { frames := 0, cells := 0, slots := 0, locals := 0 }
def own_Q5_10 (Z : State) (a : Addr) (b : Addr) (ak : ClassId) (bk : ClassId) (x0 : Int32) (x1 : Int32) (x2 : Int32) (x3 : Int32) (x4 : Int32) (x5 : Int32) (x6 : Int32) (x7 : Int32) (x8 : Int32) (x9 : Int32) (h0 : Heap) (n0 : Nat) (v : Option Value) (h : Heap) (L : List Loc) : Prop := v = some (.int (10 : Int32)) ∧ Fr n0 L ∧ Keep h0 h [b] ∧ Arv Z h b bk .byte (10 : Int32) [(.int (own_byt x0)), (.int (own_byt x1)), (.int (own_byt x2)), (.int (own_byt x3)), (.int (own_byt x4)), (.int (own_byt x5)), (.int (own_byt x6)), (.int (own_byt x7)), (.int (own_byt x8)), (.int (own_byt x9))] (.int (0 : Int32))
theorem own_ef_rm5_10 (m : MethodId) (x0 : Addr) (x1 : Int32) (x2 : Addr) (x3 : Int32) (x4 : Int32) : entryFrame m #[(.ref x0), (.int x1), (.ref x2), (.int x3), (.int x4)] 7 = mkF m 0 #[.val (.ref x0), .val (.int x1), .val (.ref x2), .val (.int x3), .val (.int x4), .unset, .unset] [] := by first | (simp [entryFrame, mkF, argsToLocals, Value.category]; done) | rfl
set_option maxRecDepth 65536 in
set_option maxHeartbeats 40000000 in
theorem own_rm5_10 (lch : Launch) (Z : State) (a0 : Array Value) (hw : ∀ d ∈ tables_1, d.before a0 Z = true) (ws : List Jvm.Cond) (a : Addr) (b : Addr) (ak : ClassId) (bk : ClassId) (x0 : Int32) (x1 : Int32) (x2 : Int32) (x3 : Int32) (x4 : Int32) (x5 : Int32) (x6 : Int32) (x7 : Int32) (x8 : Int32) (x9 : Int32) (h0 : Heap) (n0 : Nat) (V0 : Arv Z h0 a ak .char (10 : Int32) [(.int x0), (.int x1), (.int x2), (.int x3), (.int x4), (.int x5), (.int x6), (.int x7), (.int x8), (.int x9)] (.int (0 : Int32))) (V1 : Arv Z h0 b bk .byte (10 : Int32) [(.int (0 : Int32)), (.int (0 : Int32)), (.int (0 : Int32)), (.int (0 : Int32)), (.int (0 : Int32)), (.int (0 : Int32)), (.int (0 : Int32)), (.int (0 : Int32)), (.int (0 : Int32)), (.int (0 : Int32))] (.int (0 : Int32))) (ge0 : n0 ≤ b) (nab : a ≠ b) (rx0 : own_R x0) (rx1 : own_R x1) (rx2 : own_R x2) (rx3 : own_R x3) (rx4 : own_R x4) (rx5 : own_R x5) (rx6 : own_R x6) (rx7 : own_R x7) (rx8 : own_R x8) (rx9 : own_R x9) :
    MetFree lch (⟨"java/lang/StringUTF16", "compress", "([CI[BII)I"⟩ : MethodName) (head1 (Jvm.Cond.code (⟨"java/lang/StringUTF16", "compress", "([CI[BII)I"⟩ : MethodName) jdk_52_method_21_code 7 (some .int) :: ws) own_room5_10) (fun zz U => zz = #[(.ref a), (.int (0 : Int32)), (.ref b), (.int (0 : Int32)), (.int (10 : Int32))] ∧ Z.Warmed39 U.vm ∧ U.heap = h0) (fun _ _ _ _ _ => True) (fun _ U o U' => ∃ v L, o = .returned v ∧ own_Q5_10 Z a b ak bk x0 x1 x2 x3 x4 x5 x6 x7 x8 x9 h0 n0 v U'.heap L ∧ FrameEnd U o U' L own_room5_10.cells own_room5_10.slots) := by
  refine MetFree.of_bodySF (plainFor_of_name own_pn1) hisR ?_
  intro prg e s m args below meth c s₁ Bd hml0 hP hK
  obtain ⟨rfl, hZ, hh⟩ := hP
  have hx := Bd.exec
  have hby := Bd.bytes
  have hml : c.maxLocals = 7 := hml0
  have hown : s.vm.findClass "java/lang/StringUTF16" = some m.cls := findClass_of_methodNamed Bd.named
  have hnm := (name_of_methodNamed Bd.named Bd.method).1
  have hlk : meth.locks = false := BodyLoose.notSynchronized Bd
  have hret := Bd.returns
  have X0 : Stand prg lch e own_room5_10 s m #[(.ref a), (.int (0 : Int32)), (.ref b), (.int (0 : Int32)), (.int (10 : Int32))] below meth c s₁ [] 0 0 := Stand.of_body Bd
  have e0 : s₁.heap = h0 := by rw [← hh, Bd.state]; rfl
  have N0 := Fr.nil n0
  show own_Ends prg e below s (own_Q5_10 Z a b ak bk x0 x1 x2 x3 x4 x5 x6 x7 x8 x9 h0 n0) own_room5_10.cells own_room5_10.slots s₁ (entryFrame m #[(.ref a), (.int (0 : Int32)), (.ref b), (.int (0 : Int32)), (.int (10 : Int32))] 7)
  refine own_cast (own_ef_rm5_10 m a (0 : Int32) b (0 : Int32) (10 : Int32)) ?_
  have K0 := Keep.refl h0 ([b] : List Addr)
  refine own_iconst (pc' := 1) (z := (0 : Int32)) X0 hx (hb hby own_d5_0) rfl rfl ?_
  refine own_istore (pc' := 3) (l' := #[.val (.ref a), .val (.int (0 : Int32)), .val (.ref b), .val (.int (0 : Int32)), .val (.int (10 : Int32)), .val (.int (0 : Int32)), .unset]) X0 hx (hb hby own_d5_1) rfl rfl ?_
  refine own_iload (pc' := 5) X0 hx (hb hby own_d5_3) rfl rfl ?_
  refine own_iload (pc' := 7) X0 hx (hb hby own_d5_5) rfl rfl ?_
  refine own_icmpNo (pc' := 10) X0 hx (hb hby own_d5_7) rfl (tlt (by decide)).2.1 ?_
  refine own_aloadN (pc' := 11) X0 hx (hb hby own_d5_10) rfl rfl rfl ?_
  refine own_iloadN (pc' := 12) X0 hx (hb hby own_d5_11) rfl rfl ?_
  refine own_caload (pc' := 13) (v := (.int x0)) X0 hx hZ e0 V0 (hb hby own_d5_12) rfl (by decide) rfl ?_
  refine own_istore (pc' := 15) (l' := #[.val (.ref a), .val (.int (0 : Int32)), .val (.ref b), .val (.int (0 : Int32)), .val (.int (10 : Int32)), .val (.int (0 : Int32)), .val (.int x0)]) X0 hx (hb hby own_d5_13) rfl rfl ?_
  refine own_iload (pc' := 17) X0 hx (hb hby own_d5_15) rfl rfl ?_
  refine own_sipush (pc' := 20) (z := (255 : Int32)) X0 hx (hb hby own_d5_17) rfl rfl ?_
  refine own_icmpYes (pc' := 26) X0 hx (hb hby own_d5_20) (flt (own_255 rx0)).2.2.2 (by decide) (by decide) ?_
  refine own_aloadN (pc' := 27) X0 hx (hb hby own_d5_26) rfl rfl rfl ?_
  refine own_iloadN (pc' := 28) X0 hx (hb hby own_d5_27) rfl rfl ?_
  refine own_iload (pc' := 30) X0 hx (hb hby own_d5_28) rfl rfl ?_
  refine own_i2b (pc' := 31) (z := x0.toInt8.toInt32) X0 hx (hb hby own_d5_30) rfl rfl ?_
  refine own_bastore (pc' := 32) X0 hx hZ e0 V1 (hb hby own_d5_31) rfl (by decide) 0 rfl (by simp) N0 ge0 ?_
  intro T31 h31 L31 X31 e31 N31 W31 V31
  rw [show nar .byte x0.toInt8.toInt32 = (own_byt x0) from own_nbyt x0] at V31
  replace V31 : Arv Z h31 b bk .byte (10 : Int32) [(.int (own_byt x0)), (.int (0 : Int32)), (.int (0 : Int32)), (.int (0 : Int32)), (.int (0 : Int32)), (.int (0 : Int32)), (.int (0 : Int32)), (.int (0 : Int32)), (.int (0 : Int32)), (.int (0 : Int32))] (.int (0 : Int32)) := V31
  show own_Ends prg e below s _ _ _ T31 (mkF m 32 #[.val (.ref a), .val (.int (0 : Int32)), .val (.ref b), .val (.int (0 : Int32)), .val (.int (10 : Int32)), .val (.int (0 : Int32)), .val (.int x0)] [])
  refine own_iinc (pc' := 35) (z := (1 : Int32)) (l' := #[.val (.ref a), .val (.int (1 : Int32)), .val (.ref b), .val (.int (0 : Int32)), .val (.int (10 : Int32)), .val (.int (0 : Int32)), .val (.int x0)]) X31 hx (hb hby own_d5_32) rfl rfl (by decide) rfl ?_
  refine own_iinc (pc' := 38) (z := (1 : Int32)) (l' := #[.val (.ref a), .val (.int (1 : Int32)), .val (.ref b), .val (.int (1 : Int32)), .val (.int (10 : Int32)), .val (.int (0 : Int32)), .val (.int x0)]) X31 hx (hb hby own_d5_35) rfl rfl (by decide) rfl ?_
  refine own_iinc (pc' := 41) (z := (1 : Int32)) (l' := #[.val (.ref a), .val (.int (1 : Int32)), .val (.ref b), .val (.int (1 : Int32)), .val (.int (10 : Int32)), .val (.int (1 : Int32)), .val (.int x0)]) X31 hx (hb hby own_d5_38) rfl rfl (by decide) rfl ?_
  refine own_goto (pc' := 3) X31 hx (hb hby own_d5_41) (by decide) (by decide) ?_
  refine own_iload (pc' := 5) X31 hx (hb hby own_d5_3) rfl rfl ?_
  refine own_iload (pc' := 7) X31 hx (hb hby own_d5_5) rfl rfl ?_
  refine own_icmpNo (pc' := 10) X31 hx (hb hby own_d5_7) rfl (tlt (by decide)).2.1 ?_
  refine own_aloadN (pc' := 11) X31 hx (hb hby own_d5_10) rfl rfl rfl ?_
  refine own_iloadN (pc' := 12) X31 hx (hb hby own_d5_11) rfl rfl ?_
  have f32 := (V0.other W31 nab)
  refine own_caload (pc' := 13) (v := (.int x1)) X31 hx hZ e31 f32 (hb hby own_d5_12) rfl (by decide) rfl ?_
  refine own_istore (pc' := 15) (l' := #[.val (.ref a), .val (.int (1 : Int32)), .val (.ref b), .val (.int (1 : Int32)), .val (.int (10 : Int32)), .val (.int (1 : Int32)), .val (.int x1)]) X31 hx (hb hby own_d5_13) rfl rfl ?_
  refine own_iload (pc' := 17) X31 hx (hb hby own_d5_15) rfl rfl ?_
  refine own_sipush (pc' := 20) (z := (255 : Int32)) X31 hx (hb hby own_d5_17) rfl rfl ?_
  refine own_icmpYes (pc' := 26) X31 hx (hb hby own_d5_20) (flt (own_255 rx1)).2.2.2 (by decide) (by decide) ?_
  refine own_aloadN (pc' := 27) X31 hx (hb hby own_d5_26) rfl rfl rfl ?_
  refine own_iloadN (pc' := 28) X31 hx (hb hby own_d5_27) rfl rfl ?_
  refine own_iload (pc' := 30) X31 hx (hb hby own_d5_28) rfl rfl ?_
  refine own_i2b (pc' := 31) (z := x1.toInt8.toInt32) X31 hx (hb hby own_d5_30) rfl rfl ?_
  refine own_bastore (pc' := 32) X31 hx hZ e31 V31 (hb hby own_d5_31) rfl (by decide) 1 rfl (by simp) N31 ge0 ?_
  intro T33 h33 L33 X33 e33 N33 W33 V33
  rw [show nar .byte x1.toInt8.toInt32 = (own_byt x1) from own_nbyt x1] at V33
  replace V33 : Arv Z h33 b bk .byte (10 : Int32) [(.int (own_byt x0)), (.int (own_byt x1)), (.int (0 : Int32)), (.int (0 : Int32)), (.int (0 : Int32)), (.int (0 : Int32)), (.int (0 : Int32)), (.int (0 : Int32)), (.int (0 : Int32)), (.int (0 : Int32))] (.int (0 : Int32)) := V33
  show own_Ends prg e below s _ _ _ T33 (mkF m 32 #[.val (.ref a), .val (.int (1 : Int32)), .val (.ref b), .val (.int (1 : Int32)), .val (.int (10 : Int32)), .val (.int (1 : Int32)), .val (.int x1)] [])
  refine own_iinc (pc' := 35) (z := (2 : Int32)) (l' := #[.val (.ref a), .val (.int (2 : Int32)), .val (.ref b), .val (.int (1 : Int32)), .val (.int (10 : Int32)), .val (.int (1 : Int32)), .val (.int x1)]) X33 hx (hb hby own_d5_32) rfl rfl (by decide) rfl ?_
  refine own_iinc (pc' := 38) (z := (2 : Int32)) (l' := #[.val (.ref a), .val (.int (2 : Int32)), .val (.ref b), .val (.int (2 : Int32)), .val (.int (10 : Int32)), .val (.int (1 : Int32)), .val (.int x1)]) X33 hx (hb hby own_d5_35) rfl rfl (by decide) rfl ?_
  refine own_iinc (pc' := 41) (z := (2 : Int32)) (l' := #[.val (.ref a), .val (.int (2 : Int32)), .val (.ref b), .val (.int (2 : Int32)), .val (.int (10 : Int32)), .val (.int (2 : Int32)), .val (.int x1)]) X33 hx (hb hby own_d5_38) rfl rfl (by decide) rfl ?_
  refine own_goto (pc' := 3) X33 hx (hb hby own_d5_41) (by decide) (by decide) ?_
  refine own_iload (pc' := 5) X33 hx (hb hby own_d5_3) rfl rfl ?_
  refine own_iload (pc' := 7) X33 hx (hb hby own_d5_5) rfl rfl ?_
  refine own_icmpNo (pc' := 10) X33 hx (hb hby own_d5_7) rfl (tlt (by decide)).2.1 ?_
  refine own_aloadN (pc' := 11) X33 hx (hb hby own_d5_10) rfl rfl rfl ?_
  refine own_iloadN (pc' := 12) X33 hx (hb hby own_d5_11) rfl rfl ?_
  have f34 := (f32.other W33 nab)
  refine own_caload (pc' := 13) (v := (.int x2)) X33 hx hZ e33 f34 (hb hby own_d5_12) rfl (by decide) rfl ?_
  refine own_istore (pc' := 15) (l' := #[.val (.ref a), .val (.int (2 : Int32)), .val (.ref b), .val (.int (2 : Int32)), .val (.int (10 : Int32)), .val (.int (2 : Int32)), .val (.int x2)]) X33 hx (hb hby own_d5_13) rfl rfl ?_
  refine own_iload (pc' := 17) X33 hx (hb hby own_d5_15) rfl rfl ?_
  refine own_sipush (pc' := 20) (z := (255 : Int32)) X33 hx (hb hby own_d5_17) rfl rfl ?_
  refine own_icmpYes (pc' := 26) X33 hx (hb hby own_d5_20) (flt (own_255 rx2)).2.2.2 (by decide) (by decide) ?_
  refine own_aloadN (pc' := 27) X33 hx (hb hby own_d5_26) rfl rfl rfl ?_
  refine own_iloadN (pc' := 28) X33 hx (hb hby own_d5_27) rfl rfl ?_
  refine own_iload (pc' := 30) X33 hx (hb hby own_d5_28) rfl rfl ?_
  refine own_i2b (pc' := 31) (z := x2.toInt8.toInt32) X33 hx (hb hby own_d5_30) rfl rfl ?_
  refine own_bastore (pc' := 32) X33 hx hZ e33 V33 (hb hby own_d5_31) rfl (by decide) 2 rfl (by simp) N33 ge0 ?_
  intro T35 h35 L35 X35 e35 N35 W35 V35
  rw [show nar .byte x2.toInt8.toInt32 = (own_byt x2) from own_nbyt x2] at V35
  replace V35 : Arv Z h35 b bk .byte (10 : Int32) [(.int (own_byt x0)), (.int (own_byt x1)), (.int (own_byt x2)), (.int (0 : Int32)), (.int (0 : Int32)), (.int (0 : Int32)), (.int (0 : Int32)), (.int (0 : Int32)), (.int (0 : Int32)), (.int (0 : Int32))] (.int (0 : Int32)) := V35
  show own_Ends prg e below s _ _ _ T35 (mkF m 32 #[.val (.ref a), .val (.int (2 : Int32)), .val (.ref b), .val (.int (2 : Int32)), .val (.int (10 : Int32)), .val (.int (2 : Int32)), .val (.int x2)] [])
  refine own_iinc (pc' := 35) (z := (3 : Int32)) (l' := #[.val (.ref a), .val (.int (3 : Int32)), .val (.ref b), .val (.int (2 : Int32)), .val (.int (10 : Int32)), .val (.int (2 : Int32)), .val (.int x2)]) X35 hx (hb hby own_d5_32) rfl rfl (by decide) rfl ?_
  refine own_iinc (pc' := 38) (z := (3 : Int32)) (l' := #[.val (.ref a), .val (.int (3 : Int32)), .val (.ref b), .val (.int (3 : Int32)), .val (.int (10 : Int32)), .val (.int (2 : Int32)), .val (.int x2)]) X35 hx (hb hby own_d5_35) rfl rfl (by decide) rfl ?_
  refine own_iinc (pc' := 41) (z := (3 : Int32)) (l' := #[.val (.ref a), .val (.int (3 : Int32)), .val (.ref b), .val (.int (3 : Int32)), .val (.int (10 : Int32)), .val (.int (3 : Int32)), .val (.int x2)]) X35 hx (hb hby own_d5_38) rfl rfl (by decide) rfl ?_
  refine own_goto (pc' := 3) X35 hx (hb hby own_d5_41) (by decide) (by decide) ?_
  refine own_iload (pc' := 5) X35 hx (hb hby own_d5_3) rfl rfl ?_
  refine own_iload (pc' := 7) X35 hx (hb hby own_d5_5) rfl rfl ?_
  refine own_icmpNo (pc' := 10) X35 hx (hb hby own_d5_7) rfl (tlt (by decide)).2.1 ?_
  refine own_aloadN (pc' := 11) X35 hx (hb hby own_d5_10) rfl rfl rfl ?_
  refine own_iloadN (pc' := 12) X35 hx (hb hby own_d5_11) rfl rfl ?_
  have f36 := (f34.other W35 nab)
  refine own_caload (pc' := 13) (v := (.int x3)) X35 hx hZ e35 f36 (hb hby own_d5_12) rfl (by decide) rfl ?_
  refine own_istore (pc' := 15) (l' := #[.val (.ref a), .val (.int (3 : Int32)), .val (.ref b), .val (.int (3 : Int32)), .val (.int (10 : Int32)), .val (.int (3 : Int32)), .val (.int x3)]) X35 hx (hb hby own_d5_13) rfl rfl ?_
  refine own_iload (pc' := 17) X35 hx (hb hby own_d5_15) rfl rfl ?_
  refine own_sipush (pc' := 20) (z := (255 : Int32)) X35 hx (hb hby own_d5_17) rfl rfl ?_
  refine own_icmpYes (pc' := 26) X35 hx (hb hby own_d5_20) (flt (own_255 rx3)).2.2.2 (by decide) (by decide) ?_
  refine own_aloadN (pc' := 27) X35 hx (hb hby own_d5_26) rfl rfl rfl ?_
  refine own_iloadN (pc' := 28) X35 hx (hb hby own_d5_27) rfl rfl ?_
  refine own_iload (pc' := 30) X35 hx (hb hby own_d5_28) rfl rfl ?_
  refine own_i2b (pc' := 31) (z := x3.toInt8.toInt32) X35 hx (hb hby own_d5_30) rfl rfl ?_
  refine own_bastore (pc' := 32) X35 hx hZ e35 V35 (hb hby own_d5_31) rfl (by decide) 3 rfl (by simp) N35 ge0 ?_
  intro T37 h37 L37 X37 e37 N37 W37 V37
  rw [show nar .byte x3.toInt8.toInt32 = (own_byt x3) from own_nbyt x3] at V37
  replace V37 : Arv Z h37 b bk .byte (10 : Int32) [(.int (own_byt x0)), (.int (own_byt x1)), (.int (own_byt x2)), (.int (own_byt x3)), (.int (0 : Int32)), (.int (0 : Int32)), (.int (0 : Int32)), (.int (0 : Int32)), (.int (0 : Int32)), (.int (0 : Int32))] (.int (0 : Int32)) := V37
  show own_Ends prg e below s _ _ _ T37 (mkF m 32 #[.val (.ref a), .val (.int (3 : Int32)), .val (.ref b), .val (.int (3 : Int32)), .val (.int (10 : Int32)), .val (.int (3 : Int32)), .val (.int x3)] [])
  refine own_iinc (pc' := 35) (z := (4 : Int32)) (l' := #[.val (.ref a), .val (.int (4 : Int32)), .val (.ref b), .val (.int (3 : Int32)), .val (.int (10 : Int32)), .val (.int (3 : Int32)), .val (.int x3)]) X37 hx (hb hby own_d5_32) rfl rfl (by decide) rfl ?_
  refine own_iinc (pc' := 38) (z := (4 : Int32)) (l' := #[.val (.ref a), .val (.int (4 : Int32)), .val (.ref b), .val (.int (4 : Int32)), .val (.int (10 : Int32)), .val (.int (3 : Int32)), .val (.int x3)]) X37 hx (hb hby own_d5_35) rfl rfl (by decide) rfl ?_
  refine own_iinc (pc' := 41) (z := (4 : Int32)) (l' := #[.val (.ref a), .val (.int (4 : Int32)), .val (.ref b), .val (.int (4 : Int32)), .val (.int (10 : Int32)), .val (.int (4 : Int32)), .val (.int x3)]) X37 hx (hb hby own_d5_38) rfl rfl (by decide) rfl ?_
  refine own_goto (pc' := 3) X37 hx (hb hby own_d5_41) (by decide) (by decide) ?_
  refine own_iload (pc' := 5) X37 hx (hb hby own_d5_3) rfl rfl ?_
  refine own_iload (pc' := 7) X37 hx (hb hby own_d5_5) rfl rfl ?_
  refine own_icmpNo (pc' := 10) X37 hx (hb hby own_d5_7) rfl (tlt (by decide)).2.1 ?_
  refine own_aloadN (pc' := 11) X37 hx (hb hby own_d5_10) rfl rfl rfl ?_
  refine own_iloadN (pc' := 12) X37 hx (hb hby own_d5_11) rfl rfl ?_
  have f38 := (f36.other W37 nab)
  refine own_caload (pc' := 13) (v := (.int x4)) X37 hx hZ e37 f38 (hb hby own_d5_12) rfl (by decide) rfl ?_
  refine own_istore (pc' := 15) (l' := #[.val (.ref a), .val (.int (4 : Int32)), .val (.ref b), .val (.int (4 : Int32)), .val (.int (10 : Int32)), .val (.int (4 : Int32)), .val (.int x4)]) X37 hx (hb hby own_d5_13) rfl rfl ?_
  refine own_iload (pc' := 17) X37 hx (hb hby own_d5_15) rfl rfl ?_
  refine own_sipush (pc' := 20) (z := (255 : Int32)) X37 hx (hb hby own_d5_17) rfl rfl ?_
  refine own_icmpYes (pc' := 26) X37 hx (hb hby own_d5_20) (flt (own_255 rx4)).2.2.2 (by decide) (by decide) ?_
  refine own_aloadN (pc' := 27) X37 hx (hb hby own_d5_26) rfl rfl rfl ?_
  refine own_iloadN (pc' := 28) X37 hx (hb hby own_d5_27) rfl rfl ?_
  refine own_iload (pc' := 30) X37 hx (hb hby own_d5_28) rfl rfl ?_
  refine own_i2b (pc' := 31) (z := x4.toInt8.toInt32) X37 hx (hb hby own_d5_30) rfl rfl ?_
  refine own_bastore (pc' := 32) X37 hx hZ e37 V37 (hb hby own_d5_31) rfl (by decide) 4 rfl (by simp) N37 ge0 ?_
  intro T39 h39 L39 X39 e39 N39 W39 V39
  rw [show nar .byte x4.toInt8.toInt32 = (own_byt x4) from own_nbyt x4] at V39
  replace V39 : Arv Z h39 b bk .byte (10 : Int32) [(.int (own_byt x0)), (.int (own_byt x1)), (.int (own_byt x2)), (.int (own_byt x3)), (.int (own_byt x4)), (.int (0 : Int32)), (.int (0 : Int32)), (.int (0 : Int32)), (.int (0 : Int32)), (.int (0 : Int32))] (.int (0 : Int32)) := V39
  show own_Ends prg e below s _ _ _ T39 (mkF m 32 #[.val (.ref a), .val (.int (4 : Int32)), .val (.ref b), .val (.int (4 : Int32)), .val (.int (10 : Int32)), .val (.int (4 : Int32)), .val (.int x4)] [])
  refine own_iinc (pc' := 35) (z := (5 : Int32)) (l' := #[.val (.ref a), .val (.int (5 : Int32)), .val (.ref b), .val (.int (4 : Int32)), .val (.int (10 : Int32)), .val (.int (4 : Int32)), .val (.int x4)]) X39 hx (hb hby own_d5_32) rfl rfl (by decide) rfl ?_
  refine own_iinc (pc' := 38) (z := (5 : Int32)) (l' := #[.val (.ref a), .val (.int (5 : Int32)), .val (.ref b), .val (.int (5 : Int32)), .val (.int (10 : Int32)), .val (.int (4 : Int32)), .val (.int x4)]) X39 hx (hb hby own_d5_35) rfl rfl (by decide) rfl ?_
  refine own_iinc (pc' := 41) (z := (5 : Int32)) (l' := #[.val (.ref a), .val (.int (5 : Int32)), .val (.ref b), .val (.int (5 : Int32)), .val (.int (10 : Int32)), .val (.int (5 : Int32)), .val (.int x4)]) X39 hx (hb hby own_d5_38) rfl rfl (by decide) rfl ?_
  refine own_goto (pc' := 3) X39 hx (hb hby own_d5_41) (by decide) (by decide) ?_
  refine own_iload (pc' := 5) X39 hx (hb hby own_d5_3) rfl rfl ?_
  refine own_iload (pc' := 7) X39 hx (hb hby own_d5_5) rfl rfl ?_
  refine own_icmpNo (pc' := 10) X39 hx (hb hby own_d5_7) rfl (tlt (by decide)).2.1 ?_
  refine own_aloadN (pc' := 11) X39 hx (hb hby own_d5_10) rfl rfl rfl ?_
  refine own_iloadN (pc' := 12) X39 hx (hb hby own_d5_11) rfl rfl ?_
  have f40 := (f38.other W39 nab)
  refine own_caload (pc' := 13) (v := (.int x5)) X39 hx hZ e39 f40 (hb hby own_d5_12) rfl (by decide) rfl ?_
  refine own_istore (pc' := 15) (l' := #[.val (.ref a), .val (.int (5 : Int32)), .val (.ref b), .val (.int (5 : Int32)), .val (.int (10 : Int32)), .val (.int (5 : Int32)), .val (.int x5)]) X39 hx (hb hby own_d5_13) rfl rfl ?_
  refine own_iload (pc' := 17) X39 hx (hb hby own_d5_15) rfl rfl ?_
  refine own_sipush (pc' := 20) (z := (255 : Int32)) X39 hx (hb hby own_d5_17) rfl rfl ?_
  refine own_icmpYes (pc' := 26) X39 hx (hb hby own_d5_20) (flt (own_255 rx5)).2.2.2 (by decide) (by decide) ?_
  refine own_aloadN (pc' := 27) X39 hx (hb hby own_d5_26) rfl rfl rfl ?_
  refine own_iloadN (pc' := 28) X39 hx (hb hby own_d5_27) rfl rfl ?_
  refine own_iload (pc' := 30) X39 hx (hb hby own_d5_28) rfl rfl ?_
  refine own_i2b (pc' := 31) (z := x5.toInt8.toInt32) X39 hx (hb hby own_d5_30) rfl rfl ?_
  refine own_bastore (pc' := 32) X39 hx hZ e39 V39 (hb hby own_d5_31) rfl (by decide) 5 rfl (by simp) N39 ge0 ?_
  intro T41 h41 L41 X41 e41 N41 W41 V41
  rw [show nar .byte x5.toInt8.toInt32 = (own_byt x5) from own_nbyt x5] at V41
  replace V41 : Arv Z h41 b bk .byte (10 : Int32) [(.int (own_byt x0)), (.int (own_byt x1)), (.int (own_byt x2)), (.int (own_byt x3)), (.int (own_byt x4)), (.int (own_byt x5)), (.int (0 : Int32)), (.int (0 : Int32)), (.int (0 : Int32)), (.int (0 : Int32))] (.int (0 : Int32)) := V41
  show own_Ends prg e below s _ _ _ T41 (mkF m 32 #[.val (.ref a), .val (.int (5 : Int32)), .val (.ref b), .val (.int (5 : Int32)), .val (.int (10 : Int32)), .val (.int (5 : Int32)), .val (.int x5)] [])
  refine own_iinc (pc' := 35) (z := (6 : Int32)) (l' := #[.val (.ref a), .val (.int (6 : Int32)), .val (.ref b), .val (.int (5 : Int32)), .val (.int (10 : Int32)), .val (.int (5 : Int32)), .val (.int x5)]) X41 hx (hb hby own_d5_32) rfl rfl (by decide) rfl ?_
  refine own_iinc (pc' := 38) (z := (6 : Int32)) (l' := #[.val (.ref a), .val (.int (6 : Int32)), .val (.ref b), .val (.int (6 : Int32)), .val (.int (10 : Int32)), .val (.int (5 : Int32)), .val (.int x5)]) X41 hx (hb hby own_d5_35) rfl rfl (by decide) rfl ?_
  refine own_iinc (pc' := 41) (z := (6 : Int32)) (l' := #[.val (.ref a), .val (.int (6 : Int32)), .val (.ref b), .val (.int (6 : Int32)), .val (.int (10 : Int32)), .val (.int (6 : Int32)), .val (.int x5)]) X41 hx (hb hby own_d5_38) rfl rfl (by decide) rfl ?_
  refine own_goto (pc' := 3) X41 hx (hb hby own_d5_41) (by decide) (by decide) ?_
  refine own_iload (pc' := 5) X41 hx (hb hby own_d5_3) rfl rfl ?_
  refine own_iload (pc' := 7) X41 hx (hb hby own_d5_5) rfl rfl ?_
  refine own_icmpNo (pc' := 10) X41 hx (hb hby own_d5_7) rfl (tlt (by decide)).2.1 ?_
  refine own_aloadN (pc' := 11) X41 hx (hb hby own_d5_10) rfl rfl rfl ?_
  refine own_iloadN (pc' := 12) X41 hx (hb hby own_d5_11) rfl rfl ?_
  have f42 := (f40.other W41 nab)
  refine own_caload (pc' := 13) (v := (.int x6)) X41 hx hZ e41 f42 (hb hby own_d5_12) rfl (by decide) rfl ?_
  refine own_istore (pc' := 15) (l' := #[.val (.ref a), .val (.int (6 : Int32)), .val (.ref b), .val (.int (6 : Int32)), .val (.int (10 : Int32)), .val (.int (6 : Int32)), .val (.int x6)]) X41 hx (hb hby own_d5_13) rfl rfl ?_
  refine own_iload (pc' := 17) X41 hx (hb hby own_d5_15) rfl rfl ?_
  refine own_sipush (pc' := 20) (z := (255 : Int32)) X41 hx (hb hby own_d5_17) rfl rfl ?_
  refine own_icmpYes (pc' := 26) X41 hx (hb hby own_d5_20) (flt (own_255 rx6)).2.2.2 (by decide) (by decide) ?_
  refine own_aloadN (pc' := 27) X41 hx (hb hby own_d5_26) rfl rfl rfl ?_
  refine own_iloadN (pc' := 28) X41 hx (hb hby own_d5_27) rfl rfl ?_
  refine own_iload (pc' := 30) X41 hx (hb hby own_d5_28) rfl rfl ?_
  refine own_i2b (pc' := 31) (z := x6.toInt8.toInt32) X41 hx (hb hby own_d5_30) rfl rfl ?_
  refine own_bastore (pc' := 32) X41 hx hZ e41 V41 (hb hby own_d5_31) rfl (by decide) 6 rfl (by simp) N41 ge0 ?_
  intro T43 h43 L43 X43 e43 N43 W43 V43
  rw [show nar .byte x6.toInt8.toInt32 = (own_byt x6) from own_nbyt x6] at V43
  replace V43 : Arv Z h43 b bk .byte (10 : Int32) [(.int (own_byt x0)), (.int (own_byt x1)), (.int (own_byt x2)), (.int (own_byt x3)), (.int (own_byt x4)), (.int (own_byt x5)), (.int (own_byt x6)), (.int (0 : Int32)), (.int (0 : Int32)), (.int (0 : Int32))] (.int (0 : Int32)) := V43
  show own_Ends prg e below s _ _ _ T43 (mkF m 32 #[.val (.ref a), .val (.int (6 : Int32)), .val (.ref b), .val (.int (6 : Int32)), .val (.int (10 : Int32)), .val (.int (6 : Int32)), .val (.int x6)] [])
  refine own_iinc (pc' := 35) (z := (7 : Int32)) (l' := #[.val (.ref a), .val (.int (7 : Int32)), .val (.ref b), .val (.int (6 : Int32)), .val (.int (10 : Int32)), .val (.int (6 : Int32)), .val (.int x6)]) X43 hx (hb hby own_d5_32) rfl rfl (by decide) rfl ?_
  refine own_iinc (pc' := 38) (z := (7 : Int32)) (l' := #[.val (.ref a), .val (.int (7 : Int32)), .val (.ref b), .val (.int (7 : Int32)), .val (.int (10 : Int32)), .val (.int (6 : Int32)), .val (.int x6)]) X43 hx (hb hby own_d5_35) rfl rfl (by decide) rfl ?_
  refine own_iinc (pc' := 41) (z := (7 : Int32)) (l' := #[.val (.ref a), .val (.int (7 : Int32)), .val (.ref b), .val (.int (7 : Int32)), .val (.int (10 : Int32)), .val (.int (7 : Int32)), .val (.int x6)]) X43 hx (hb hby own_d5_38) rfl rfl (by decide) rfl ?_
  refine own_goto (pc' := 3) X43 hx (hb hby own_d5_41) (by decide) (by decide) ?_
  refine own_iload (pc' := 5) X43 hx (hb hby own_d5_3) rfl rfl ?_
  refine own_iload (pc' := 7) X43 hx (hb hby own_d5_5) rfl rfl ?_
  refine own_icmpNo (pc' := 10) X43 hx (hb hby own_d5_7) rfl (tlt (by decide)).2.1 ?_
  refine own_aloadN (pc' := 11) X43 hx (hb hby own_d5_10) rfl rfl rfl ?_
  refine own_iloadN (pc' := 12) X43 hx (hb hby own_d5_11) rfl rfl ?_
  have f44 := (f42.other W43 nab)
  refine own_caload (pc' := 13) (v := (.int x7)) X43 hx hZ e43 f44 (hb hby own_d5_12) rfl (by decide) rfl ?_
  refine own_istore (pc' := 15) (l' := #[.val (.ref a), .val (.int (7 : Int32)), .val (.ref b), .val (.int (7 : Int32)), .val (.int (10 : Int32)), .val (.int (7 : Int32)), .val (.int x7)]) X43 hx (hb hby own_d5_13) rfl rfl ?_
  refine own_iload (pc' := 17) X43 hx (hb hby own_d5_15) rfl rfl ?_
  refine own_sipush (pc' := 20) (z := (255 : Int32)) X43 hx (hb hby own_d5_17) rfl rfl ?_
  refine own_icmpYes (pc' := 26) X43 hx (hb hby own_d5_20) (flt (own_255 rx7)).2.2.2 (by decide) (by decide) ?_
  refine own_aloadN (pc' := 27) X43 hx (hb hby own_d5_26) rfl rfl rfl ?_
  refine own_iloadN (pc' := 28) X43 hx (hb hby own_d5_27) rfl rfl ?_
  refine own_iload (pc' := 30) X43 hx (hb hby own_d5_28) rfl rfl ?_
  refine own_i2b (pc' := 31) (z := x7.toInt8.toInt32) X43 hx (hb hby own_d5_30) rfl rfl ?_
  refine own_bastore (pc' := 32) X43 hx hZ e43 V43 (hb hby own_d5_31) rfl (by decide) 7 rfl (by simp) N43 ge0 ?_
  intro T45 h45 L45 X45 e45 N45 W45 V45
  rw [show nar .byte x7.toInt8.toInt32 = (own_byt x7) from own_nbyt x7] at V45
  replace V45 : Arv Z h45 b bk .byte (10 : Int32) [(.int (own_byt x0)), (.int (own_byt x1)), (.int (own_byt x2)), (.int (own_byt x3)), (.int (own_byt x4)), (.int (own_byt x5)), (.int (own_byt x6)), (.int (own_byt x7)), (.int (0 : Int32)), (.int (0 : Int32))] (.int (0 : Int32)) := V45
  show own_Ends prg e below s _ _ _ T45 (mkF m 32 #[.val (.ref a), .val (.int (7 : Int32)), .val (.ref b), .val (.int (7 : Int32)), .val (.int (10 : Int32)), .val (.int (7 : Int32)), .val (.int x7)] [])
  refine own_iinc (pc' := 35) (z := (8 : Int32)) (l' := #[.val (.ref a), .val (.int (8 : Int32)), .val (.ref b), .val (.int (7 : Int32)), .val (.int (10 : Int32)), .val (.int (7 : Int32)), .val (.int x7)]) X45 hx (hb hby own_d5_32) rfl rfl (by decide) rfl ?_
  refine own_iinc (pc' := 38) (z := (8 : Int32)) (l' := #[.val (.ref a), .val (.int (8 : Int32)), .val (.ref b), .val (.int (8 : Int32)), .val (.int (10 : Int32)), .val (.int (7 : Int32)), .val (.int x7)]) X45 hx (hb hby own_d5_35) rfl rfl (by decide) rfl ?_
  refine own_iinc (pc' := 41) (z := (8 : Int32)) (l' := #[.val (.ref a), .val (.int (8 : Int32)), .val (.ref b), .val (.int (8 : Int32)), .val (.int (10 : Int32)), .val (.int (8 : Int32)), .val (.int x7)]) X45 hx (hb hby own_d5_38) rfl rfl (by decide) rfl ?_
  refine own_goto (pc' := 3) X45 hx (hb hby own_d5_41) (by decide) (by decide) ?_
  refine own_iload (pc' := 5) X45 hx (hb hby own_d5_3) rfl rfl ?_
  refine own_iload (pc' := 7) X45 hx (hb hby own_d5_5) rfl rfl ?_
  refine own_icmpNo (pc' := 10) X45 hx (hb hby own_d5_7) rfl (tlt (by decide)).2.1 ?_
  refine own_aloadN (pc' := 11) X45 hx (hb hby own_d5_10) rfl rfl rfl ?_
  refine own_iloadN (pc' := 12) X45 hx (hb hby own_d5_11) rfl rfl ?_
  have f46 := (f44.other W45 nab)
  refine own_caload (pc' := 13) (v := (.int x8)) X45 hx hZ e45 f46 (hb hby own_d5_12) rfl (by decide) rfl ?_
  refine own_istore (pc' := 15) (l' := #[.val (.ref a), .val (.int (8 : Int32)), .val (.ref b), .val (.int (8 : Int32)), .val (.int (10 : Int32)), .val (.int (8 : Int32)), .val (.int x8)]) X45 hx (hb hby own_d5_13) rfl rfl ?_
  refine own_iload (pc' := 17) X45 hx (hb hby own_d5_15) rfl rfl ?_
  refine own_sipush (pc' := 20) (z := (255 : Int32)) X45 hx (hb hby own_d5_17) rfl rfl ?_
  refine own_icmpYes (pc' := 26) X45 hx (hb hby own_d5_20) (flt (own_255 rx8)).2.2.2 (by decide) (by decide) ?_
  refine own_aloadN (pc' := 27) X45 hx (hb hby own_d5_26) rfl rfl rfl ?_
  refine own_iloadN (pc' := 28) X45 hx (hb hby own_d5_27) rfl rfl ?_
  refine own_iload (pc' := 30) X45 hx (hb hby own_d5_28) rfl rfl ?_
  refine own_i2b (pc' := 31) (z := x8.toInt8.toInt32) X45 hx (hb hby own_d5_30) rfl rfl ?_
  refine own_bastore (pc' := 32) X45 hx hZ e45 V45 (hb hby own_d5_31) rfl (by decide) 8 rfl (by simp) N45 ge0 ?_
  intro T47 h47 L47 X47 e47 N47 W47 V47
  rw [show nar .byte x8.toInt8.toInt32 = (own_byt x8) from own_nbyt x8] at V47
  replace V47 : Arv Z h47 b bk .byte (10 : Int32) [(.int (own_byt x0)), (.int (own_byt x1)), (.int (own_byt x2)), (.int (own_byt x3)), (.int (own_byt x4)), (.int (own_byt x5)), (.int (own_byt x6)), (.int (own_byt x7)), (.int (own_byt x8)), (.int (0 : Int32))] (.int (0 : Int32)) := V47
  show own_Ends prg e below s _ _ _ T47 (mkF m 32 #[.val (.ref a), .val (.int (8 : Int32)), .val (.ref b), .val (.int (8 : Int32)), .val (.int (10 : Int32)), .val (.int (8 : Int32)), .val (.int x8)] [])
  refine own_iinc (pc' := 35) (z := (9 : Int32)) (l' := #[.val (.ref a), .val (.int (9 : Int32)), .val (.ref b), .val (.int (8 : Int32)), .val (.int (10 : Int32)), .val (.int (8 : Int32)), .val (.int x8)]) X47 hx (hb hby own_d5_32) rfl rfl (by decide) rfl ?_
  refine own_iinc (pc' := 38) (z := (9 : Int32)) (l' := #[.val (.ref a), .val (.int (9 : Int32)), .val (.ref b), .val (.int (9 : Int32)), .val (.int (10 : Int32)), .val (.int (8 : Int32)), .val (.int x8)]) X47 hx (hb hby own_d5_35) rfl rfl (by decide) rfl ?_
  refine own_iinc (pc' := 41) (z := (9 : Int32)) (l' := #[.val (.ref a), .val (.int (9 : Int32)), .val (.ref b), .val (.int (9 : Int32)), .val (.int (10 : Int32)), .val (.int (9 : Int32)), .val (.int x8)]) X47 hx (hb hby own_d5_38) rfl rfl (by decide) rfl ?_
  refine own_goto (pc' := 3) X47 hx (hb hby own_d5_41) (by decide) (by decide) ?_
  refine own_iload (pc' := 5) X47 hx (hb hby own_d5_3) rfl rfl ?_
  refine own_iload (pc' := 7) X47 hx (hb hby own_d5_5) rfl rfl ?_
  refine own_icmpNo (pc' := 10) X47 hx (hb hby own_d5_7) rfl (tlt (by decide)).2.1 ?_
  refine own_aloadN (pc' := 11) X47 hx (hb hby own_d5_10) rfl rfl rfl ?_
  refine own_iloadN (pc' := 12) X47 hx (hb hby own_d5_11) rfl rfl ?_
  have f48 := (f46.other W47 nab)
  refine own_caload (pc' := 13) (v := (.int x9)) X47 hx hZ e47 f48 (hb hby own_d5_12) rfl (by decide) rfl ?_
  refine own_istore (pc' := 15) (l' := #[.val (.ref a), .val (.int (9 : Int32)), .val (.ref b), .val (.int (9 : Int32)), .val (.int (10 : Int32)), .val (.int (9 : Int32)), .val (.int x9)]) X47 hx (hb hby own_d5_13) rfl rfl ?_
  refine own_iload (pc' := 17) X47 hx (hb hby own_d5_15) rfl rfl ?_
  refine own_sipush (pc' := 20) (z := (255 : Int32)) X47 hx (hb hby own_d5_17) rfl rfl ?_
  refine own_icmpYes (pc' := 26) X47 hx (hb hby own_d5_20) (flt (own_255 rx9)).2.2.2 (by decide) (by decide) ?_
  refine own_aloadN (pc' := 27) X47 hx (hb hby own_d5_26) rfl rfl rfl ?_
  refine own_iloadN (pc' := 28) X47 hx (hb hby own_d5_27) rfl rfl ?_
  refine own_iload (pc' := 30) X47 hx (hb hby own_d5_28) rfl rfl ?_
  refine own_i2b (pc' := 31) (z := x9.toInt8.toInt32) X47 hx (hb hby own_d5_30) rfl rfl ?_
  refine own_bastore (pc' := 32) X47 hx hZ e47 V47 (hb hby own_d5_31) rfl (by decide) 9 rfl (by simp) N47 ge0 ?_
  intro T49 h49 L49 X49 e49 N49 W49 V49
  rw [show nar .byte x9.toInt8.toInt32 = (own_byt x9) from own_nbyt x9] at V49
  replace V49 : Arv Z h49 b bk .byte (10 : Int32) [(.int (own_byt x0)), (.int (own_byt x1)), (.int (own_byt x2)), (.int (own_byt x3)), (.int (own_byt x4)), (.int (own_byt x5)), (.int (own_byt x6)), (.int (own_byt x7)), (.int (own_byt x8)), (.int (own_byt x9))] (.int (0 : Int32)) := V49
  show own_Ends prg e below s _ _ _ T49 (mkF m 32 #[.val (.ref a), .val (.int (9 : Int32)), .val (.ref b), .val (.int (9 : Int32)), .val (.int (10 : Int32)), .val (.int (9 : Int32)), .val (.int x9)] [])
  refine own_iinc (pc' := 35) (z := (10 : Int32)) (l' := #[.val (.ref a), .val (.int (10 : Int32)), .val (.ref b), .val (.int (9 : Int32)), .val (.int (10 : Int32)), .val (.int (9 : Int32)), .val (.int x9)]) X49 hx (hb hby own_d5_32) rfl rfl (by decide) rfl ?_
  refine own_iinc (pc' := 38) (z := (10 : Int32)) (l' := #[.val (.ref a), .val (.int (10 : Int32)), .val (.ref b), .val (.int (10 : Int32)), .val (.int (10 : Int32)), .val (.int (9 : Int32)), .val (.int x9)]) X49 hx (hb hby own_d5_35) rfl rfl (by decide) rfl ?_
  refine own_iinc (pc' := 41) (z := (10 : Int32)) (l' := #[.val (.ref a), .val (.int (10 : Int32)), .val (.ref b), .val (.int (10 : Int32)), .val (.int (10 : Int32)), .val (.int (10 : Int32)), .val (.int x9)]) X49 hx (hb hby own_d5_38) rfl rfl (by decide) rfl ?_
  refine own_goto (pc' := 3) X49 hx (hb hby own_d5_41) (by decide) (by decide) ?_
  refine own_iload (pc' := 5) X49 hx (hb hby own_d5_3) rfl rfl ?_
  refine own_iload (pc' := 7) X49 hx (hb hby own_d5_5) rfl rfl ?_
  refine own_icmpYes (pc' := 44) X49 hx (hb hby own_d5_7) (flt (by decide)).2.1 (by decide) (by decide) ?_
  refine own_iload (pc' := 46) X49 hx (hb hby own_d5_44) rfl rfl ?_
  refine own_retI X49 hx hlk hret (hb hby own_d5_46) (by decide) (by decide) ?_
  have f50 := ((((((((((K0.wr W31 (Or.inl (List.mem_of_getElem? (i := 0) rfl))).wr W33 (Or.inl (List.mem_of_getElem? (i := 0) rfl))).wr W35 (Or.inl (List.mem_of_getElem? (i := 0) rfl))).wr W37 (Or.inl (List.mem_of_getElem? (i := 0) rfl))).wr W39 (Or.inl (List.mem_of_getElem? (i := 0) rfl))).wr W41 (Or.inl (List.mem_of_getElem? (i := 0) rfl))).wr W43 (Or.inl (List.mem_of_getElem? (i := 0) rfl))).wr W45 (Or.inl (List.mem_of_getElem? (i := 0) rfl))).wr W47 (Or.inl (List.mem_of_getElem? (i := 0) rfl))).wr W49 (Or.inl (List.mem_of_getElem? (i := 0) rfl)))
  rw [e49]; exact ⟨rfl, N49, f50, V49⟩
def own_room5_11 : Room := { frames := 0, cells := 0, slots := 0, locals := 0 }
def own_Q5_11 (Z : State) (a : Addr) (b : Addr) (ak : ClassId) (bk : ClassId) (x0 : Int32) (x1 : Int32) (x2 : Int32) (x3 : Int32) (x4 : Int32) (x5 : Int32) (x6 : Int32) (x7 : Int32) (x8 : Int32) (x9 : Int32) (x10 : Int32) (h0 : Heap) (n0 : Nat) (v : Option Value) (h : Heap) (L : List Loc) : Prop := v = some (.int (11 : Int32)) ∧ Fr n0 L ∧ Keep h0 h [b] ∧ Arv Z h b bk .byte (11 : Int32) [(.int (own_byt x0)), (.int (own_byt x1)), (.int (own_byt x2)), (.int (own_byt x3)), (.int (own_byt x4)), (.int (own_byt x5)), (.int (own_byt x6)), (.int (own_byt x7)), (.int (own_byt x8)), (.int (own_byt x9)), (.int (own_byt x10))] (.int (0 : Int32))
theorem own_ef_rm5_11 (m : MethodId) (x0 : Addr) (x1 : Int32) (x2 : Addr) (x3 : Int32) (x4 : Int32) : entryFrame m #[(.ref x0), (.int x1), (.ref x2), (.int x3), (.int x4)] 7 = mkF m 0 #[.val (.ref x0), .val (.int x1), .val (.ref x2), .val (.int x3), .val (.int x4), .unset, .unset] [] := by first | (simp [entryFrame, mkF, argsToLocals, Value.category]; done) | rfl
set_option maxRecDepth 65536 in
set_option maxHeartbeats 40000000 in
theorem own_rm5_11 (lch : Launch) (Z : State) (a0 : Array Value) (hw : ∀ d ∈ tables_1, d.before a0 Z = true) (ws : List Jvm.Cond) (a : Addr) (b : Addr) (ak : ClassId) (bk : ClassId) (x0 : Int32) (x1 : Int32) (x2 : Int32) (x3 : Int32) (x4 : Int32) (x5 : Int32) (x6 : Int32) (x7 : Int32) (x8 : Int32) (x9 : Int32) (x10 : Int32) (h0 : Heap) (n0 : Nat) (V0 : Arv Z h0 a ak .char (11 : Int32) [(.int x0), (.int x1), (.int x2), (.int x3), (.int x4), (.int x5), (.int x6), (.int x7), (.int x8), (.int x9), (.int x10)] (.int (0 : Int32))) (V1 : Arv Z h0 b bk .byte (11 : Int32) [(.int (0 : Int32)), (.int (0 : Int32)), (.int (0 : Int32)), (.int (0 : Int32)), (.int (0 : Int32)), (.int (0 : Int32)), (.int (0 : Int32)), (.int (0 : Int32)), (.int (0 : Int32)), (.int (0 : Int32)), (.int (0 : Int32))] (.int (0 : Int32))) (ge0 : n0 ≤ b) (nab : a ≠ b) (rx0 : own_R x0) (rx1 : own_R x1) (rx2 : own_R x2) (rx3 : own_R x3) (rx4 : own_R x4) (rx5 : own_R x5) (rx6 : own_R x6) (rx7 : own_R x7) (rx8 : own_R x8) (rx9 : own_R x9) (rx10 : own_R x10) :
    MetFree lch (⟨"java/lang/StringUTF16", "compress", "([CI[BII)I"⟩ : MethodName) (head1 (Jvm.Cond.code (⟨"java/lang/StringUTF16", "compress", "([CI[BII)I"⟩ : MethodName) jdk_52_method_21_code 7 (some .int) :: ws) own_room5_11) (fun zz U => zz = #[(.ref a), (.int (0 : Int32)), (.ref b), (.int (0 : Int32)), (.int (11 : Int32))] ∧ Z.Warmed39 U.vm ∧ U.heap = h0) (fun _ _ _ _ _ => True) (fun _ U o U' => ∃ v L, o = .returned v ∧ own_Q5_11 Z a b ak bk x0 x1 x2 x3 x4 x5 x6 x7 x8 x9 x10 h0 n0 v U'.heap L ∧ FrameEnd U o U' L own_room5_11.cells own_room5_11.slots) := by
  refine MetFree.of_bodySF (plainFor_of_name own_pn1) hisR ?_
  intro prg e s m args below meth c s₁ Bd hml0 hP hK
  obtain ⟨rfl, hZ, hh⟩ := hP
  have hx := Bd.exec
  have hby := Bd.bytes
  have hml : c.maxLocals = 7 := hml0
  have hown : s.vm.findClass "java/lang/StringUTF16" = some m.cls := findClass_of_methodNamed Bd.named
  have hnm := (name_of_methodNamed Bd.named Bd.method).1
  have hlk : meth.locks = false := BodyLoose.notSynchronized Bd
  have hret := Bd.returns
  have X0 : Stand prg lch e own_room5_11 s m #[(.ref a), (.int (0 : Int32)), (.ref b), (.int (0 : Int32)), (.int (11 : Int32))] below meth c s₁ [] 0 0 := Stand.of_body Bd
  have e0 : s₁.heap = h0 := by rw [← hh, Bd.state]; rfl
  have N0 := Fr.nil n0
  show own_Ends prg e below s (own_Q5_11 Z a b ak bk x0 x1 x2 x3 x4 x5 x6 x7 x8 x9 x10 h0 n0) own_room5_11.cells own_room5_11.slots s₁ (entryFrame m #[(.ref a), (.int (0 : Int32)), (.ref b), (.int (0 : Int32)), (.int (11 : Int32))] 7)
  refine own_cast (own_ef_rm5_11 m a (0 : Int32) b (0 : Int32) (11 : Int32)) ?_
  have K0 := Keep.refl h0 ([b] : List Addr)
  refine own_iconst (pc' := 1) (z := (0 : Int32)) X0 hx (hb hby own_d5_0) rfl rfl ?_
  refine own_istore (pc' := 3) (l' := #[.val (.ref a), .val (.int (0 : Int32)), .val (.ref b), .val (.int (0 : Int32)), .val (.int (11 : Int32)), .val (.int (0 : Int32)), .unset]) X0 hx (hb hby own_d5_1) rfl rfl ?_
  refine own_iload (pc' := 5) X0 hx (hb hby own_d5_3) rfl rfl ?_
  refine own_iload (pc' := 7) X0 hx (hb hby own_d5_5) rfl rfl ?_
  refine own_icmpNo (pc' := 10) X0 hx (hb hby own_d5_7) rfl (tlt (by decide)).2.1 ?_
  refine own_aloadN (pc' := 11) X0 hx (hb hby own_d5_10) rfl rfl rfl ?_
  refine own_iloadN (pc' := 12) X0 hx (hb hby own_d5_11) rfl rfl ?_
  refine own_caload (pc' := 13) (v := (.int x0)) X0 hx hZ e0 V0 (hb hby own_d5_12) rfl (by decide) rfl ?_
  refine own_istore (pc' := 15) (l' := #[.val (.ref a), .val (.int (0 : Int32)), .val (.ref b), .val (.int (0 : Int32)), .val (.int (11 : Int32)), .val (.int (0 : Int32)), .val (.int x0)]) X0 hx (hb hby own_d5_13) rfl rfl ?_
  refine own_iload (pc' := 17) X0 hx (hb hby own_d5_15) rfl rfl ?_
  refine own_sipush (pc' := 20) (z := (255 : Int32)) X0 hx (hb hby own_d5_17) rfl rfl ?_
  refine own_icmpYes (pc' := 26) X0 hx (hb hby own_d5_20) (flt (own_255 rx0)).2.2.2 (by decide) (by decide) ?_
  refine own_aloadN (pc' := 27) X0 hx (hb hby own_d5_26) rfl rfl rfl ?_
  refine own_iloadN (pc' := 28) X0 hx (hb hby own_d5_27) rfl rfl ?_
  refine own_iload (pc' := 30) X0 hx (hb hby own_d5_28) rfl rfl ?_
  refine own_i2b (pc' := 31) (z := x0.toInt8.toInt32) X0 hx (hb hby own_d5_30) rfl rfl ?_
  refine own_bastore (pc' := 32) X0 hx hZ e0 V1 (hb hby own_d5_31) rfl (by decide) 0 rfl (by simp) N0 ge0 ?_
  intro T31 h31 L31 X31 e31 N31 W31 V31
  rw [show nar .byte x0.toInt8.toInt32 = (own_byt x0) from own_nbyt x0] at V31
  replace V31 : Arv Z h31 b bk .byte (11 : Int32) [(.int (own_byt x0)), (.int (0 : Int32)), (.int (0 : Int32)), (.int (0 : Int32)), (.int (0 : Int32)), (.int (0 : Int32)), (.int (0 : Int32)), (.int (0 : Int32)), (.int (0 : Int32)), (.int (0 : Int32)), (.int (0 : Int32))] (.int (0 : Int32)) := V31
  show own_Ends prg e below s _ _ _ T31 (mkF m 32 #[.val (.ref a), .val (.int (0 : Int32)), .val (.ref b), .val (.int (0 : Int32)), .val (.int (11 : Int32)), .val (.int (0 : Int32)), .val (.int x0)] [])
  refine own_iinc (pc' := 35) (z := (1 : Int32)) (l' := #[.val (.ref a), .val (.int (1 : Int32)), .val (.ref b), .val (.int (0 : Int32)), .val (.int (11 : Int32)), .val (.int (0 : Int32)), .val (.int x0)]) X31 hx (hb hby own_d5_32) rfl rfl (by decide) rfl ?_
  refine own_iinc (pc' := 38) (z := (1 : Int32)) (l' := #[.val (.ref a), .val (.int (1 : Int32)), .val (.ref b), .val (.int (1 : Int32)), .val (.int (11 : Int32)), .val (.int (0 : Int32)), .val (.int x0)]) X31 hx (hb hby own_d5_35) rfl rfl (by decide) rfl ?_
  refine own_iinc (pc' := 41) (z := (1 : Int32)) (l' := #[.val (.ref a), .val (.int (1 : Int32)), .val (.ref b), .val (.int (1 : Int32)), .val (.int (11 : Int32)), .val (.int (1 : Int32)), .val (.int x0)]) X31 hx (hb hby own_d5_38) rfl rfl (by decide) rfl ?_
  refine own_goto (pc' := 3) X31 hx (hb hby own_d5_41) (by decide) (by decide) ?_
  refine own_iload (pc' := 5) X31 hx (hb hby own_d5_3) rfl rfl ?_
  refine own_iload (pc' := 7) X31 hx (hb hby own_d5_5) rfl rfl ?_
  refine own_icmpNo (pc' := 10) X31 hx (hb hby own_d5_7) rfl (tlt (by decide)).2.1 ?_
  refine own_aloadN (pc' := 11) X31 hx (hb hby own_d5_10) rfl rfl rfl ?_
  refine own_iloadN (pc' := 12) X31 hx (hb hby own_d5_11) rfl rfl ?_
  have f32 := (V0.other W31 nab)
  refine own_caload (pc' := 13) (v := (.int x1)) X31 hx hZ e31 f32 (hb hby own_d5_12) rfl (by decide) rfl ?_
  refine own_istore (pc' := 15) (l' := #[.val (.ref a), .val (.int (1 : Int32)), .val (.ref b), .val (.int (1 : Int32)), .val (.int (11 : Int32)), .val (.int (1 : Int32)), .val (.int x1)]) X31 hx (hb hby own_d5_13) rfl rfl ?_
  refine own_iload (pc' := 17) X31 hx (hb hby own_d5_15) rfl rfl ?_
  refine own_sipush (pc' := 20) (z := (255 : Int32)) X31 hx (hb hby own_d5_17) rfl rfl ?_
  refine own_icmpYes (pc' := 26) X31 hx (hb hby own_d5_20) (flt (own_255 rx1)).2.2.2 (by decide) (by decide) ?_
  refine own_aloadN (pc' := 27) X31 hx (hb hby own_d5_26) rfl rfl rfl ?_
  refine own_iloadN (pc' := 28) X31 hx (hb hby own_d5_27) rfl rfl ?_
  refine own_iload (pc' := 30) X31 hx (hb hby own_d5_28) rfl rfl ?_
  refine own_i2b (pc' := 31) (z := x1.toInt8.toInt32) X31 hx (hb hby own_d5_30) rfl rfl ?_
  refine own_bastore (pc' := 32) X31 hx hZ e31 V31 (hb hby own_d5_31) rfl (by decide) 1 rfl (by simp) N31 ge0 ?_
  intro T33 h33 L33 X33 e33 N33 W33 V33
  rw [show nar .byte x1.toInt8.toInt32 = (own_byt x1) from own_nbyt x1] at V33
  replace V33 : Arv Z h33 b bk .byte (11 : Int32) [(.int (own_byt x0)), (.int (own_byt x1)), (.int (0 : Int32)), (.int (0 : Int32)), (.int (0 : Int32)), (.int (0 : Int32)), (.int (0 : Int32)), (.int (0 : Int32)), (.int (0 : Int32)), (.int (0 : Int32)), (.int (0 : Int32))] (.int (0 : Int32)) := V33
  show own_Ends prg e below s _ _ _ T33 (mkF m 32 #[.val (.ref a), .val (.int (1 : Int32)), .val (.ref b), .val (.int (1 : Int32)), .val (.int (11 : Int32)), .val (.int (1 : Int32)), .val (.int x1)] [])
  refine own_iinc (pc' := 35) (z := (2 : Int32)) (l' := #[.val (.ref a), .val (.int (2 : Int32)), .val (.ref b), .val (.int (1 : Int32)), .val (.int (11 : Int32)), .val (.int (1 : Int32)), .val (.int x1)]) X33 hx (hb hby own_d5_32) rfl rfl (by decide) rfl ?_
  refine own_iinc (pc' := 38) (z := (2 : Int32)) (l' := #[.val (.ref a), .val (.int (2 : Int32)), .val (.ref b), .val (.int (2 : Int32)), .val (.int (11 : Int32)), .val (.int (1 : Int32)), .val (.int x1)]) X33 hx (hb hby own_d5_35) rfl rfl (by decide) rfl ?_
  refine own_iinc (pc' := 41) (z := (2 : Int32)) (l' := #[.val (.ref a), .val (.int (2 : Int32)), .val (.ref b), .val (.int (2 : Int32)), .val (.int (11 : Int32)), .val (.int (2 : Int32)), .val (.int x1)]) X33 hx (hb hby own_d5_38) rfl rfl (by decide) rfl ?_
  refine own_goto (pc' := 3) X33 hx (hb hby own_d5_41) (by decide) (by decide) ?_
  refine own_iload (pc' := 5) X33 hx (hb hby own_d5_3) rfl rfl ?_
  refine own_iload (pc' := 7) X33 hx (hb hby own_d5_5) rfl rfl ?_
  refine own_icmpNo (pc' := 10) X33 hx (hb hby own_d5_7) rfl (tlt (by decide)).2.1 ?_
  refine own_aloadN (pc' := 11) X33 hx (hb hby own_d5_10) rfl rfl rfl ?_
  refine own_iloadN (pc' := 12) X33 hx (hb hby own_d5_11) rfl rfl ?_
  have f34 := (f32.other W33 nab)
  refine own_caload (pc' := 13) (v := (.int x2)) X33 hx hZ e33 f34 (hb hby own_d5_12) rfl (by decide) rfl ?_
  refine own_istore (pc' := 15) (l' := #[.val (.ref a), .val (.int (2 : Int32)), .val (.ref b), .val (.int (2 : Int32)), .val (.int (11 : Int32)), .val (.int (2 : Int32)), .val (.int x2)]) X33 hx (hb hby own_d5_13) rfl rfl ?_
  refine own_iload (pc' := 17) X33 hx (hb hby own_d5_15) rfl rfl ?_
  refine own_sipush (pc' := 20) (z := (255 : Int32)) X33 hx (hb hby own_d5_17) rfl rfl ?_
  refine own_icmpYes (pc' := 26) X33 hx (hb hby own_d5_20) (flt (own_255 rx2)).2.2.2 (by decide) (by decide) ?_
  refine own_aloadN (pc' := 27) X33 hx (hb hby own_d5_26) rfl rfl rfl ?_
  refine own_iloadN (pc' := 28) X33 hx (hb hby own_d5_27) rfl rfl ?_
  refine own_iload (pc' := 30) X33 hx (hb hby own_d5_28) rfl rfl ?_
  refine own_i2b (pc' := 31) (z := x2.toInt8.toInt32) X33 hx (hb hby own_d5_30) rfl rfl ?_
  refine own_bastore (pc' := 32) X33 hx hZ e33 V33 (hb hby own_d5_31) rfl (by decide) 2 rfl (by simp) N33 ge0 ?_
  intro T35 h35 L35 X35 e35 N35 W35 V35
  rw [show nar .byte x2.toInt8.toInt32 = (own_byt x2) from own_nbyt x2] at V35
  replace V35 : Arv Z h35 b bk .byte (11 : Int32) [(.int (own_byt x0)), (.int (own_byt x1)), (.int (own_byt x2)), (.int (0 : Int32)), (.int (0 : Int32)), (.int (0 : Int32)), (.int (0 : Int32)), (.int (0 : Int32)), (.int (0 : Int32)), (.int (0 : Int32)), (.int (0 : Int32))] (.int (0 : Int32)) := V35
  show own_Ends prg e below s _ _ _ T35 (mkF m 32 #[.val (.ref a), .val (.int (2 : Int32)), .val (.ref b), .val (.int (2 : Int32)), .val (.int (11 : Int32)), .val (.int (2 : Int32)), .val (.int x2)] [])
  refine own_iinc (pc' := 35) (z := (3 : Int32)) (l' := #[.val (.ref a), .val (.int (3 : Int32)), .val (.ref b), .val (.int (2 : Int32)), .val (.int (11 : Int32)), .val (.int (2 : Int32)), .val (.int x2)]) X35 hx (hb hby own_d5_32) rfl rfl (by decide) rfl ?_
  refine own_iinc (pc' := 38) (z := (3 : Int32)) (l' := #[.val (.ref a), .val (.int (3 : Int32)), .val (.ref b), .val (.int (3 : Int32)), .val (.int (11 : Int32)), .val (.int (2 : Int32)), .val (.int x2)]) X35 hx (hb hby own_d5_35) rfl rfl (by decide) rfl ?_
  refine own_iinc (pc' := 41) (z := (3 : Int32)) (l' := #[.val (.ref a), .val (.int (3 : Int32)), .val (.ref b), .val (.int (3 : Int32)), .val (.int (11 : Int32)), .val (.int (3 : Int32)), .val (.int x2)]) X35 hx (hb hby own_d5_38) rfl rfl (by decide) rfl ?_
  refine own_goto (pc' := 3) X35 hx (hb hby own_d5_41) (by decide) (by decide) ?_
  refine own_iload (pc' := 5) X35 hx (hb hby own_d5_3) rfl rfl ?_
  refine own_iload (pc' := 7) X35 hx (hb hby own_d5_5) rfl rfl ?_
  refine own_icmpNo (pc' := 10) X35 hx (hb hby own_d5_7) rfl (tlt (by decide)).2.1 ?_
  refine own_aloadN (pc' := 11) X35 hx (hb hby own_d5_10) rfl rfl rfl ?_
  refine own_iloadN (pc' := 12) X35 hx (hb hby own_d5_11) rfl rfl ?_
  have f36 := (f34.other W35 nab)
  refine own_caload (pc' := 13) (v := (.int x3)) X35 hx hZ e35 f36 (hb hby own_d5_12) rfl (by decide) rfl ?_
  refine own_istore (pc' := 15) (l' := #[.val (.ref a), .val (.int (3 : Int32)), .val (.ref b), .val (.int (3 : Int32)), .val (.int (11 : Int32)), .val (.int (3 : Int32)), .val (.int x3)]) X35 hx (hb hby own_d5_13) rfl rfl ?_
  refine own_iload (pc' := 17) X35 hx (hb hby own_d5_15) rfl rfl ?_
  refine own_sipush (pc' := 20) (z := (255 : Int32)) X35 hx (hb hby own_d5_17) rfl rfl ?_
  refine own_icmpYes (pc' := 26) X35 hx (hb hby own_d5_20) (flt (own_255 rx3)).2.2.2 (by decide) (by decide) ?_
  refine own_aloadN (pc' := 27) X35 hx (hb hby own_d5_26) rfl rfl rfl ?_
  refine own_iloadN (pc' := 28) X35 hx (hb hby own_d5_27) rfl rfl ?_
  refine own_iload (pc' := 30) X35 hx (hb hby own_d5_28) rfl rfl ?_
  refine own_i2b (pc' := 31) (z := x3.toInt8.toInt32) X35 hx (hb hby own_d5_30) rfl rfl ?_
  refine own_bastore (pc' := 32) X35 hx hZ e35 V35 (hb hby own_d5_31) rfl (by decide) 3 rfl (by simp) N35 ge0 ?_
  intro T37 h37 L37 X37 e37 N37 W37 V37
  rw [show nar .byte x3.toInt8.toInt32 = (own_byt x3) from own_nbyt x3] at V37
  replace V37 : Arv Z h37 b bk .byte (11 : Int32) [(.int (own_byt x0)), (.int (own_byt x1)), (.int (own_byt x2)), (.int (own_byt x3)), (.int (0 : Int32)), (.int (0 : Int32)), (.int (0 : Int32)), (.int (0 : Int32)), (.int (0 : Int32)), (.int (0 : Int32)), (.int (0 : Int32))] (.int (0 : Int32)) := V37
  show own_Ends prg e below s _ _ _ T37 (mkF m 32 #[.val (.ref a), .val (.int (3 : Int32)), .val (.ref b), .val (.int (3 : Int32)), .val (.int (11 : Int32)), .val (.int (3 : Int32)), .val (.int x3)] [])
  refine own_iinc (pc' := 35) (z := (4 : Int32)) (l' := #[.val (.ref a), .val (.int (4 : Int32)), .val (.ref b), .val (.int (3 : Int32)), .val (.int (11 : Int32)), .val (.int (3 : Int32)), .val (.int x3)]) X37 hx (hb hby own_d5_32) rfl rfl (by decide) rfl ?_
  refine own_iinc (pc' := 38) (z := (4 : Int32)) (l' := #[.val (.ref a), .val (.int (4 : Int32)), .val (.ref b), .val (.int (4 : Int32)), .val (.int (11 : Int32)), .val (.int (3 : Int32)), .val (.int x3)]) X37 hx (hb hby own_d5_35) rfl rfl (by decide) rfl ?_
  refine own_iinc (pc' := 41) (z := (4 : Int32)) (l' := #[.val (.ref a), .val (.int (4 : Int32)), .val (.ref b), .val (.int (4 : Int32)), .val (.int (11 : Int32)), .val (.int (4 : Int32)), .val (.int x3)]) X37 hx (hb hby own_d5_38) rfl rfl (by decide) rfl ?_
  refine own_goto (pc' := 3) X37 hx (hb hby own_d5_41) (by decide) (by decide) ?_
  refine own_iload (pc' := 5) X37 hx (hb hby own_d5_3) rfl rfl ?_
  refine own_iload (pc' := 7) X37 hx (hb hby own_d5_5) rfl rfl ?_
  refine own_icmpNo (pc' := 10) X37 hx (hb hby own_d5_7) rfl (tlt (by decide)).2.1 ?_
  refine own_aloadN (pc' := 11) X37 hx (hb hby own_d5_10) rfl rfl rfl ?_
  refine own_iloadN (pc' := 12) X37 hx (hb hby own_d5_11) rfl rfl ?_
  have f38 := (f36.other W37 nab)
  refine own_caload (pc' := 13) (v := (.int x4)) X37 hx hZ e37 f38 (hb hby own_d5_12) rfl (by decide) rfl ?_
  refine own_istore (pc' := 15) (l' := #[.val (.ref a), .val (.int (4 : Int32)), .val (.ref b), .val (.int (4 : Int32)), .val (.int (11 : Int32)), .val (.int (4 : Int32)), .val (.int x4)]) X37 hx (hb hby own_d5_13) rfl rfl ?_
  refine own_iload (pc' := 17) X37 hx (hb hby own_d5_15) rfl rfl ?_
  refine own_sipush (pc' := 20) (z := (255 : Int32)) X37 hx (hb hby own_d5_17) rfl rfl ?_
  refine own_icmpYes (pc' := 26) X37 hx (hb hby own_d5_20) (flt (own_255 rx4)).2.2.2 (by decide) (by decide) ?_
  refine own_aloadN (pc' := 27) X37 hx (hb hby own_d5_26) rfl rfl rfl ?_
  refine own_iloadN (pc' := 28) X37 hx (hb hby own_d5_27) rfl rfl ?_
  refine own_iload (pc' := 30) X37 hx (hb hby own_d5_28) rfl rfl ?_
  refine own_i2b (pc' := 31) (z := x4.toInt8.toInt32) X37 hx (hb hby own_d5_30) rfl rfl ?_
  refine own_bastore (pc' := 32) X37 hx hZ e37 V37 (hb hby own_d5_31) rfl (by decide) 4 rfl (by simp) N37 ge0 ?_
  intro T39 h39 L39 X39 e39 N39 W39 V39
  rw [show nar .byte x4.toInt8.toInt32 = (own_byt x4) from own_nbyt x4] at V39
  replace V39 : Arv Z h39 b bk .byte (11 : Int32) [(.int (own_byt x0)), (.int (own_byt x1)), (.int (own_byt x2)), (.int (own_byt x3)), (.int (own_byt x4)), (.int (0 : Int32)), (.int (0 : Int32)), (.int (0 : Int32)), (.int (0 : Int32)), (.int (0 : Int32)), (.int (0 : Int32))] (.int (0 : Int32)) := V39
  show own_Ends prg e below s _ _ _ T39 (mkF m 32 #[.val (.ref a), .val (.int (4 : Int32)), .val (.ref b), .val (.int (4 : Int32)), .val (.int (11 : Int32)), .val (.int (4 : Int32)), .val (.int x4)] [])
  refine own_iinc (pc' := 35) (z := (5 : Int32)) (l' := #[.val (.ref a), .val (.int (5 : Int32)), .val (.ref b), .val (.int (4 : Int32)), .val (.int (11 : Int32)), .val (.int (4 : Int32)), .val (.int x4)]) X39 hx (hb hby own_d5_32) rfl rfl (by decide) rfl ?_
  refine own_iinc (pc' := 38) (z := (5 : Int32)) (l' := #[.val (.ref a), .val (.int (5 : Int32)), .val (.ref b), .val (.int (5 : Int32)), .val (.int (11 : Int32)), .val (.int (4 : Int32)), .val (.int x4)]) X39 hx (hb hby own_d5_35) rfl rfl (by decide) rfl ?_
  refine own_iinc (pc' := 41) (z := (5 : Int32)) (l' := #[.val (.ref a), .val (.int (5 : Int32)), .val (.ref b), .val (.int (5 : Int32)), .val (.int (11 : Int32)), .val (.int (5 : Int32)), .val (.int x4)]) X39 hx (hb hby own_d5_38) rfl rfl (by decide) rfl ?_
  refine own_goto (pc' := 3) X39 hx (hb hby own_d5_41) (by decide) (by decide) ?_
  refine own_iload (pc' := 5) X39 hx (hb hby own_d5_3) rfl rfl ?_
  refine own_iload (pc' := 7) X39 hx (hb hby own_d5_5) rfl rfl ?_
  refine own_icmpNo (pc' := 10) X39 hx (hb hby own_d5_7) rfl (tlt (by decide)).2.1 ?_
  refine own_aloadN (pc' := 11) X39 hx (hb hby own_d5_10) rfl rfl rfl ?_
  refine own_iloadN (pc' := 12) X39 hx (hb hby own_d5_11) rfl rfl ?_
  have f40 := (f38.other W39 nab)
  refine own_caload (pc' := 13) (v := (.int x5)) X39 hx hZ e39 f40 (hb hby own_d5_12) rfl (by decide) rfl ?_
  refine own_istore (pc' := 15) (l' := #[.val (.ref a), .val (.int (5 : Int32)), .val (.ref b), .val (.int (5 : Int32)), .val (.int (11 : Int32)), .val (.int (5 : Int32)), .val (.int x5)]) X39 hx (hb hby own_d5_13) rfl rfl ?_
  refine own_iload (pc' := 17) X39 hx (hb hby own_d5_15) rfl rfl ?_
  refine own_sipush (pc' := 20) (z := (255 : Int32)) X39 hx (hb hby own_d5_17) rfl rfl ?_
  refine own_icmpYes (pc' := 26) X39 hx (hb hby own_d5_20) (flt (own_255 rx5)).2.2.2 (by decide) (by decide) ?_
  refine own_aloadN (pc' := 27) X39 hx (hb hby own_d5_26) rfl rfl rfl ?_
  refine own_iloadN (pc' := 28) X39 hx (hb hby own_d5_27) rfl rfl ?_
  refine own_iload (pc' := 30) X39 hx (hb hby own_d5_28) rfl rfl ?_
  refine own_i2b (pc' := 31) (z := x5.toInt8.toInt32) X39 hx (hb hby own_d5_30) rfl rfl ?_
  refine own_bastore (pc' := 32) X39 hx hZ e39 V39 (hb hby own_d5_31) rfl (by decide) 5 rfl (by simp) N39 ge0 ?_
  intro T41 h41 L41 X41 e41 N41 W41 V41
  rw [show nar .byte x5.toInt8.toInt32 = (own_byt x5) from own_nbyt x5] at V41
  replace V41 : Arv Z h41 b bk .byte (11 : Int32) [(.int (own_byt x0)), (.int (own_byt x1)), (.int (own_byt x2)), (.int (own_byt x3)), (.int (own_byt x4)), (.int (own_byt x5)), (.int (0 : Int32)), (.int (0 : Int32)), (.int (0 : Int32)), (.int (0 : Int32)), (.int (0 : Int32))] (.int (0 : Int32)) := V41
  show own_Ends prg e below s _ _ _ T41 (mkF m 32 #[.val (.ref a), .val (.int (5 : Int32)), .val (.ref b), .val (.int (5 : Int32)), .val (.int (11 : Int32)), .val (.int (5 : Int32)), .val (.int x5)] [])
  refine own_iinc (pc' := 35) (z := (6 : Int32)) (l' := #[.val (.ref a), .val (.int (6 : Int32)), .val (.ref b), .val (.int (5 : Int32)), .val (.int (11 : Int32)), .val (.int (5 : Int32)), .val (.int x5)]) X41 hx (hb hby own_d5_32) rfl rfl (by decide) rfl ?_
  refine own_iinc (pc' := 38) (z := (6 : Int32)) (l' := #[.val (.ref a), .val (.int (6 : Int32)), .val (.ref b), .val (.int (6 : Int32)), .val (.int (11 : Int32)), .val (.int (5 : Int32)), .val (.int x5)]) X41 hx (hb hby own_d5_35) rfl rfl (by decide) rfl ?_
  refine own_iinc (pc' := 41) (z := (6 : Int32)) (l' := #[.val (.ref a), .val (.int (6 : Int32)), .val (.ref b), .val (.int (6 : Int32)), .val (.int (11 : Int32)), .val (.int (6 : Int32)), .val (.int x5)]) X41 hx (hb hby own_d5_38) rfl rfl (by decide) rfl ?_
  refine own_goto (pc' := 3) X41 hx (hb hby own_d5_41) (by decide) (by decide) ?_
  refine own_iload (pc' := 5) X41 hx (hb hby own_d5_3) rfl rfl ?_
  refine own_iload (pc' := 7) X41 hx (hb hby own_d5_5) rfl rfl ?_
  refine own_icmpNo (pc' := 10) X41 hx (hb hby own_d5_7) rfl (tlt (by decide)).2.1 ?_
  refine own_aloadN (pc' := 11) X41 hx (hb hby own_d5_10) rfl rfl rfl ?_
  refine own_iloadN (pc' := 12) X41 hx (hb hby own_d5_11) rfl rfl ?_
  have f42 := (f40.other W41 nab)
  refine own_caload (pc' := 13) (v := (.int x6)) X41 hx hZ e41 f42 (hb hby own_d5_12) rfl (by decide) rfl ?_
  refine own_istore (pc' := 15) (l' := #[.val (.ref a), .val (.int (6 : Int32)), .val (.ref b), .val (.int (6 : Int32)), .val (.int (11 : Int32)), .val (.int (6 : Int32)), .val (.int x6)]) X41 hx (hb hby own_d5_13) rfl rfl ?_
  refine own_iload (pc' := 17) X41 hx (hb hby own_d5_15) rfl rfl ?_
  refine own_sipush (pc' := 20) (z := (255 : Int32)) X41 hx (hb hby own_d5_17) rfl rfl ?_
  refine own_icmpYes (pc' := 26) X41 hx (hb hby own_d5_20) (flt (own_255 rx6)).2.2.2 (by decide) (by decide) ?_
  refine own_aloadN (pc' := 27) X41 hx (hb hby own_d5_26) rfl rfl rfl ?_
  refine own_iloadN (pc' := 28) X41 hx (hb hby own_d5_27) rfl rfl ?_
  refine own_iload (pc' := 30) X41 hx (hb hby own_d5_28) rfl rfl ?_
  refine own_i2b (pc' := 31) (z := x6.toInt8.toInt32) X41 hx (hb hby own_d5_30) rfl rfl ?_
  refine own_bastore (pc' := 32) X41 hx hZ e41 V41 (hb hby own_d5_31) rfl (by decide) 6 rfl (by simp) N41 ge0 ?_
  intro T43 h43 L43 X43 e43 N43 W43 V43
  rw [show nar .byte x6.toInt8.toInt32 = (own_byt x6) from own_nbyt x6] at V43
  replace V43 : Arv Z h43 b bk .byte (11 : Int32) [(.int (own_byt x0)), (.int (own_byt x1)), (.int (own_byt x2)), (.int (own_byt x3)), (.int (own_byt x4)), (.int (own_byt x5)), (.int (own_byt x6)), (.int (0 : Int32)), (.int (0 : Int32)), (.int (0 : Int32)), (.int (0 : Int32))] (.int (0 : Int32)) := V43
  show own_Ends prg e below s _ _ _ T43 (mkF m 32 #[.val (.ref a), .val (.int (6 : Int32)), .val (.ref b), .val (.int (6 : Int32)), .val (.int (11 : Int32)), .val (.int (6 : Int32)), .val (.int x6)] [])
  refine own_iinc (pc' := 35) (z := (7 : Int32)) (l' := #[.val (.ref a), .val (.int (7 : Int32)), .val (.ref b), .val (.int (6 : Int32)), .val (.int (11 : Int32)), .val (.int (6 : Int32)), .val (.int x6)]) X43 hx (hb hby own_d5_32) rfl rfl (by decide) rfl ?_
  refine own_iinc (pc' := 38) (z := (7 : Int32)) (l' := #[.val (.ref a), .val (.int (7 : Int32)), .val (.ref b), .val (.int (7 : Int32)), .val (.int (11 : Int32)), .val (.int (6 : Int32)), .val (.int x6)]) X43 hx (hb hby own_d5_35) rfl rfl (by decide) rfl ?_
  refine own_iinc (pc' := 41) (z := (7 : Int32)) (l' := #[.val (.ref a), .val (.int (7 : Int32)), .val (.ref b), .val (.int (7 : Int32)), .val (.int (11 : Int32)), .val (.int (7 : Int32)), .val (.int x6)]) X43 hx (hb hby own_d5_38) rfl rfl (by decide) rfl ?_
  refine own_goto (pc' := 3) X43 hx (hb hby own_d5_41) (by decide) (by decide) ?_
  refine own_iload (pc' := 5) X43 hx (hb hby own_d5_3) rfl rfl ?_
  refine own_iload (pc' := 7) X43 hx (hb hby own_d5_5) rfl rfl ?_
  refine own_icmpNo (pc' := 10) X43 hx (hb hby own_d5_7) rfl (tlt (by decide)).2.1 ?_
  refine own_aloadN (pc' := 11) X43 hx (hb hby own_d5_10) rfl rfl rfl ?_
  refine own_iloadN (pc' := 12) X43 hx (hb hby own_d5_11) rfl rfl ?_
  have f44 := (f42.other W43 nab)
  refine own_caload (pc' := 13) (v := (.int x7)) X43 hx hZ e43 f44 (hb hby own_d5_12) rfl (by decide) rfl ?_
  refine own_istore (pc' := 15) (l' := #[.val (.ref a), .val (.int (7 : Int32)), .val (.ref b), .val (.int (7 : Int32)), .val (.int (11 : Int32)), .val (.int (7 : Int32)), .val (.int x7)]) X43 hx (hb hby own_d5_13) rfl rfl ?_
  refine own_iload (pc' := 17) X43 hx (hb hby own_d5_15) rfl rfl ?_
  refine own_sipush (pc' := 20) (z := (255 : Int32)) X43 hx (hb hby own_d5_17) rfl rfl ?_
  refine own_icmpYes (pc' := 26) X43 hx (hb hby own_d5_20) (flt (own_255 rx7)).2.2.2 (by decide) (by decide) ?_
  refine own_aloadN (pc' := 27) X43 hx (hb hby own_d5_26) rfl rfl rfl ?_
  refine own_iloadN (pc' := 28) X43 hx (hb hby own_d5_27) rfl rfl ?_
  refine own_iload (pc' := 30) X43 hx (hb hby own_d5_28) rfl rfl ?_
  refine own_i2b (pc' := 31) (z := x7.toInt8.toInt32) X43 hx (hb hby own_d5_30) rfl rfl ?_
  refine own_bastore (pc' := 32) X43 hx hZ e43 V43 (hb hby own_d5_31) rfl (by decide) 7 rfl (by simp) N43 ge0 ?_
  intro T45 h45 L45 X45 e45 N45 W45 V45
  rw [show nar .byte x7.toInt8.toInt32 = (own_byt x7) from own_nbyt x7] at V45
  replace V45 : Arv Z h45 b bk .byte (11 : Int32) [(.int (own_byt x0)), (.int (own_byt x1)), (.int (own_byt x2)), (.int (own_byt x3)), (.int (own_byt x4)), (.int (own_byt x5)), (.int (own_byt x6)), (.int (own_byt x7)), (.int (0 : Int32)), (.int (0 : Int32)), (.int (0 : Int32))] (.int (0 : Int32)) := V45
  show own_Ends prg e below s _ _ _ T45 (mkF m 32 #[.val (.ref a), .val (.int (7 : Int32)), .val (.ref b), .val (.int (7 : Int32)), .val (.int (11 : Int32)), .val (.int (7 : Int32)), .val (.int x7)] [])
  refine own_iinc (pc' := 35) (z := (8 : Int32)) (l' := #[.val (.ref a), .val (.int (8 : Int32)), .val (.ref b), .val (.int (7 : Int32)), .val (.int (11 : Int32)), .val (.int (7 : Int32)), .val (.int x7)]) X45 hx (hb hby own_d5_32) rfl rfl (by decide) rfl ?_
  refine own_iinc (pc' := 38) (z := (8 : Int32)) (l' := #[.val (.ref a), .val (.int (8 : Int32)), .val (.ref b), .val (.int (8 : Int32)), .val (.int (11 : Int32)), .val (.int (7 : Int32)), .val (.int x7)]) X45 hx (hb hby own_d5_35) rfl rfl (by decide) rfl ?_
  refine own_iinc (pc' := 41) (z := (8 : Int32)) (l' := #[.val (.ref a), .val (.int (8 : Int32)), .val (.ref b), .val (.int (8 : Int32)), .val (.int (11 : Int32)), .val (.int (8 : Int32)), .val (.int x7)]) X45 hx (hb hby own_d5_38) rfl rfl (by decide) rfl ?_
  refine own_goto (pc' := 3) X45 hx (hb hby own_d5_41) (by decide) (by decide) ?_
  refine own_iload (pc' := 5) X45 hx (hb hby own_d5_3) rfl rfl ?_
  refine own_iload (pc' := 7) X45 hx (hb hby own_d5_5) rfl rfl ?_
  refine own_icmpNo (pc' := 10) X45 hx (hb hby own_d5_7) rfl (tlt (by decide)).2.1 ?_
  refine own_aloadN (pc' := 11) X45 hx (hb hby own_d5_10) rfl rfl rfl ?_
  refine own_iloadN (pc' := 12) X45 hx (hb hby own_d5_11) rfl rfl ?_
  have f46 := (f44.other W45 nab)
  refine own_caload (pc' := 13) (v := (.int x8)) X45 hx hZ e45 f46 (hb hby own_d5_12) rfl (by decide) rfl ?_
  refine own_istore (pc' := 15) (l' := #[.val (.ref a), .val (.int (8 : Int32)), .val (.ref b), .val (.int (8 : Int32)), .val (.int (11 : Int32)), .val (.int (8 : Int32)), .val (.int x8)]) X45 hx (hb hby own_d5_13) rfl rfl ?_
  refine own_iload (pc' := 17) X45 hx (hb hby own_d5_15) rfl rfl ?_
  refine own_sipush (pc' := 20) (z := (255 : Int32)) X45 hx (hb hby own_d5_17) rfl rfl ?_
  refine own_icmpYes (pc' := 26) X45 hx (hb hby own_d5_20) (flt (own_255 rx8)).2.2.2 (by decide) (by decide) ?_
  refine own_aloadN (pc' := 27) X45 hx (hb hby own_d5_26) rfl rfl rfl ?_
  refine own_iloadN (pc' := 28) X45 hx (hb hby own_d5_27) rfl rfl ?_
  refine own_iload (pc' := 30) X45 hx (hb hby own_d5_28) rfl rfl ?_
  refine own_i2b (pc' := 31) (z := x8.toInt8.toInt32) X45 hx (hb hby own_d5_30) rfl rfl ?_
  refine own_bastore (pc' := 32) X45 hx hZ e45 V45 (hb hby own_d5_31) rfl (by decide) 8 rfl (by simp) N45 ge0 ?_
  intro T47 h47 L47 X47 e47 N47 W47 V47
  rw [show nar .byte x8.toInt8.toInt32 = (own_byt x8) from own_nbyt x8] at V47
  replace V47 : Arv Z h47 b bk .byte (11 : Int32) [(.int (own_byt x0)), (.int (own_byt x1)), (.int (own_byt x2)), (.int (own_byt x3)), (.int (own_byt x4)), (.int (own_byt x5)), (.int (own_byt x6)), (.int (own_byt x7)), (.int (own_byt x8)), (.int (0 : Int32)), (.int (0 : Int32))] (.int (0 : Int32)) := V47
  show own_Ends prg e below s _ _ _ T47 (mkF m 32 #[.val (.ref a), .val (.int (8 : Int32)), .val (.ref b), .val (.int (8 : Int32)), .val (.int (11 : Int32)), .val (.int (8 : Int32)), .val (.int x8)] [])
  refine own_iinc (pc' := 35) (z := (9 : Int32)) (l' := #[.val (.ref a), .val (.int (9 : Int32)), .val (.ref b), .val (.int (8 : Int32)), .val (.int (11 : Int32)), .val (.int (8 : Int32)), .val (.int x8)]) X47 hx (hb hby own_d5_32) rfl rfl (by decide) rfl ?_
  refine own_iinc (pc' := 38) (z := (9 : Int32)) (l' := #[.val (.ref a), .val (.int (9 : Int32)), .val (.ref b), .val (.int (9 : Int32)), .val (.int (11 : Int32)), .val (.int (8 : Int32)), .val (.int x8)]) X47 hx (hb hby own_d5_35) rfl rfl (by decide) rfl ?_
  refine own_iinc (pc' := 41) (z := (9 : Int32)) (l' := #[.val (.ref a), .val (.int (9 : Int32)), .val (.ref b), .val (.int (9 : Int32)), .val (.int (11 : Int32)), .val (.int (9 : Int32)), .val (.int x8)]) X47 hx (hb hby own_d5_38) rfl rfl (by decide) rfl ?_
  refine own_goto (pc' := 3) X47 hx (hb hby own_d5_41) (by decide) (by decide) ?_
  refine own_iload (pc' := 5) X47 hx (hb hby own_d5_3) rfl rfl ?_
  refine own_iload (pc' := 7) X47 hx (hb hby own_d5_5) rfl rfl ?_
  refine own_icmpNo (pc' := 10) X47 hx (hb hby own_d5_7) rfl (tlt (by decide)).2.1 ?_
  refine own_aloadN (pc' := 11) X47 hx (hb hby own_d5_10) rfl rfl rfl ?_
  refine own_iloadN (pc' := 12) X47 hx (hb hby own_d5_11) rfl rfl ?_
  have f48 := (f46.other W47 nab)
  refine own_caload (pc' := 13) (v := (.int x9)) X47 hx hZ e47 f48 (hb hby own_d5_12) rfl (by decide) rfl ?_
  refine own_istore (pc' := 15) (l' := #[.val (.ref a), .val (.int (9 : Int32)), .val (.ref b), .val (.int (9 : Int32)), .val (.int (11 : Int32)), .val (.int (9 : Int32)), .val (.int x9)]) X47 hx (hb hby own_d5_13) rfl rfl ?_
  refine own_iload (pc' := 17) X47 hx (hb hby own_d5_15) rfl rfl ?_
  refine own_sipush (pc' := 20) (z := (255 : Int32)) X47 hx (hb hby own_d5_17) rfl rfl ?_
  refine own_icmpYes (pc' := 26) X47 hx (hb hby own_d5_20) (flt (own_255 rx9)).2.2.2 (by decide) (by decide) ?_
  refine own_aloadN (pc' := 27) X47 hx (hb hby own_d5_26) rfl rfl rfl ?_
  refine own_iloadN (pc' := 28) X47 hx (hb hby own_d5_27) rfl rfl ?_
  refine own_iload (pc' := 30) X47 hx (hb hby own_d5_28) rfl rfl ?_
  refine own_i2b (pc' := 31) (z := x9.toInt8.toInt32) X47 hx (hb hby own_d5_30) rfl rfl ?_
  refine own_bastore (pc' := 32) X47 hx hZ e47 V47 (hb hby own_d5_31) rfl (by decide) 9 rfl (by simp) N47 ge0 ?_
  intro T49 h49 L49 X49 e49 N49 W49 V49
  rw [show nar .byte x9.toInt8.toInt32 = (own_byt x9) from own_nbyt x9] at V49
  replace V49 : Arv Z h49 b bk .byte (11 : Int32) [(.int (own_byt x0)), (.int (own_byt x1)), (.int (own_byt x2)), (.int (own_byt x3)), (.int (own_byt x4)), (.int (own_byt x5)), (.int (own_byt x6)), (.int (own_byt x7)), (.int (own_byt x8)), (.int (own_byt x9)), (.int (0 : Int32))] (.int (0 : Int32)) := V49
  show own_Ends prg e below s _ _ _ T49 (mkF m 32 #[.val (.ref a), .val (.int (9 : Int32)), .val (.ref b), .val (.int (9 : Int32)), .val (.int (11 : Int32)), .val (.int (9 : Int32)), .val (.int x9)] [])
  refine own_iinc (pc' := 35) (z := (10 : Int32)) (l' := #[.val (.ref a), .val (.int (10 : Int32)), .val (.ref b), .val (.int (9 : Int32)), .val (.int (11 : Int32)), .val (.int (9 : Int32)), .val (.int x9)]) X49 hx (hb hby own_d5_32) rfl rfl (by decide) rfl ?_
  refine own_iinc (pc' := 38) (z := (10 : Int32)) (l' := #[.val (.ref a), .val (.int (10 : Int32)), .val (.ref b), .val (.int (10 : Int32)), .val (.int (11 : Int32)), .val (.int (9 : Int32)), .val (.int x9)]) X49 hx (hb hby own_d5_35) rfl rfl (by decide) rfl ?_
  refine own_iinc (pc' := 41) (z := (10 : Int32)) (l' := #[.val (.ref a), .val (.int (10 : Int32)), .val (.ref b), .val (.int (10 : Int32)), .val (.int (11 : Int32)), .val (.int (10 : Int32)), .val (.int x9)]) X49 hx (hb hby own_d5_38) rfl rfl (by decide) rfl ?_
  refine own_goto (pc' := 3) X49 hx (hb hby own_d5_41) (by decide) (by decide) ?_
  refine own_iload (pc' := 5) X49 hx (hb hby own_d5_3) rfl rfl ?_
  refine own_iload (pc' := 7) X49 hx (hb hby own_d5_5) rfl rfl ?_
  refine own_icmpNo (pc' := 10) X49 hx (hb hby own_d5_7) rfl (tlt (by decide)).2.1 ?_
  refine own_aloadN (pc' := 11) X49 hx (hb hby own_d5_10) rfl rfl rfl ?_
  refine own_iloadN (pc' := 12) X49 hx (hb hby own_d5_11) rfl rfl ?_
  have f50 := (f48.other W49 nab)
  refine own_caload (pc' := 13) (v := (.int x10)) X49 hx hZ e49 f50 (hb hby own_d5_12) rfl (by decide) rfl ?_
  refine own_istore (pc' := 15) (l' := #[.val (.ref a), .val (.int (10 : Int32)), .val (.ref b), .val (.int (10 : Int32)), .val (.int (11 : Int32)), .val (.int (10 : Int32)), .val (.int x10)]) X49 hx (hb hby own_d5_13) rfl rfl ?_
  refine own_iload (pc' := 17) X49 hx (hb hby own_d5_15) rfl rfl ?_
  refine own_sipush (pc' := 20) (z := (255 : Int32)) X49 hx (hb hby own_d5_17) rfl rfl ?_
  refine own_icmpYes (pc' := 26) X49 hx (hb hby own_d5_20) (flt (own_255 rx10)).2.2.2 (by decide) (by decide) ?_
  refine own_aloadN (pc' := 27) X49 hx (hb hby own_d5_26) rfl rfl rfl ?_
  refine own_iloadN (pc' := 28) X49 hx (hb hby own_d5_27) rfl rfl ?_
  refine own_iload (pc' := 30) X49 hx (hb hby own_d5_28) rfl rfl ?_
  refine own_i2b (pc' := 31) (z := x10.toInt8.toInt32) X49 hx (hb hby own_d5_30) rfl rfl ?_
  refine own_bastore (pc' := 32) X49 hx hZ e49 V49 (hb hby own_d5_31) rfl (by decide) 10 rfl (by simp) N49 ge0 ?_
  intro T51 h51 L51 X51 e51 N51 W51 V51
  rw [show nar .byte x10.toInt8.toInt32 = (own_byt x10) from own_nbyt x10] at V51
  replace V51 : Arv Z h51 b bk .byte (11 : Int32) [(.int (own_byt x0)), (.int (own_byt x1)), (.int (own_byt x2)), (.int (own_byt x3)), (.int (own_byt x4)), (.int (own_byt x5)), (.int (own_byt x6)), (.int (own_byt x7)), (.int (own_byt x8)), (.int (own_byt x9)), (.int (own_byt x10))] (.int (0 : Int32)) := V51
  show own_Ends prg e below s _ _ _ T51 (mkF m 32 #[.val (.ref a), .val (.int (10 : Int32)), .val (.ref b), .val (.int (10 : Int32)), .val (.int (11 : Int32)), .val (.int (10 : Int32)), .val (.int x10)] [])
  refine own_iinc (pc' := 35) (z := (11 : Int32)) (l' := #[.val (.ref a), .val (.int (11 : Int32)), .val (.ref b), .val (.int (10 : Int32)), .val (.int (11 : Int32)), .val (.int (10 : Int32)), .val (.int x10)]) X51 hx (hb hby own_d5_32) rfl rfl (by decide) rfl ?_
  refine own_iinc (pc' := 38) (z := (11 : Int32)) (l' := #[.val (.ref a), .val (.int (11 : Int32)), .val (.ref b), .val (.int (11 : Int32)), .val (.int (11 : Int32)), .val (.int (10 : Int32)), .val (.int x10)]) X51 hx (hb hby own_d5_35) rfl rfl (by decide) rfl ?_
  refine own_iinc (pc' := 41) (z := (11 : Int32)) (l' := #[.val (.ref a), .val (.int (11 : Int32)), .val (.ref b), .val (.int (11 : Int32)), .val (.int (11 : Int32)), .val (.int (11 : Int32)), .val (.int x10)]) X51 hx (hb hby own_d5_38) rfl rfl (by decide) rfl ?_
  refine own_goto (pc' := 3) X51 hx (hb hby own_d5_41) (by decide) (by decide) ?_
  refine own_iload (pc' := 5) X51 hx (hb hby own_d5_3) rfl rfl ?_
  refine own_iload (pc' := 7) X51 hx (hb hby own_d5_5) rfl rfl ?_
  refine own_icmpYes (pc' := 44) X51 hx (hb hby own_d5_7) (flt (by decide)).2.1 (by decide) (by decide) ?_
  refine own_iload (pc' := 46) X51 hx (hb hby own_d5_44) rfl rfl ?_
  refine own_retI X51 hx hlk hret (hb hby own_d5_46) (by decide) (by decide) ?_
  have f52 := (((((((((((K0.wr W31 (Or.inl (List.mem_of_getElem? (i := 0) rfl))).wr W33 (Or.inl (List.mem_of_getElem? (i := 0) rfl))).wr W35 (Or.inl (List.mem_of_getElem? (i := 0) rfl))).wr W37 (Or.inl (List.mem_of_getElem? (i := 0) rfl))).wr W39 (Or.inl (List.mem_of_getElem? (i := 0) rfl))).wr W41 (Or.inl (List.mem_of_getElem? (i := 0) rfl))).wr W43 (Or.inl (List.mem_of_getElem? (i := 0) rfl))).wr W45 (Or.inl (List.mem_of_getElem? (i := 0) rfl))).wr W47 (Or.inl (List.mem_of_getElem? (i := 0) rfl))).wr W49 (Or.inl (List.mem_of_getElem? (i := 0) rfl))).wr W51 (Or.inl (List.mem_of_getElem? (i := 0) rfl)))
  rw [e51]; exact ⟨rfl, N51, f52, V51⟩
def own_room4_9 : Room := { frames := 1, cells := 1, slots := 9, locals := 18 }
def own_Q4_9 (Z : State) (a : Addr) (ak : ClassId) (x0 : Int32) (x1 : Int32) (x2 : Int32) (x3 : Int32) (x4 : Int32) (x5 : Int32) (x6 : Int32) (x7 : Int32) (x8 : Int32) (h0 : Heap) (n0 : Nat) (v : Option Value) (h : Heap) (L : List Loc) : Prop := ∃ (ra : Addr) (rk : ClassId), v = some (.ref ra) ∧ Fr n0 L ∧ Keep h0 h [] ∧ h0.size ≤ ra ∧ Arv Z h ra rk .byte (9 : Int32) [(.int (own_byt x0)), (.int (own_byt x1)), (.int (own_byt x2)), (.int (own_byt x3)), (.int (own_byt x4)), (.int (own_byt x5)), (.int (own_byt x6)), (.int (own_byt x7)), (.int (own_byt x8))] (.int (0 : Int32))
theorem own_ef_rm4_9 (m : MethodId) (x0 : Addr) (x1 : Int32) (x2 : Int32) : entryFrame m #[(.ref x0), (.int x1), (.int x2)] 6 = mkF m 0 #[.val (.ref x0), .val (.int x1), .val (.int x2), .unset, .unset, .unset] [] := by first | (simp [entryFrame, mkF, argsToLocals, Value.category]; done) | rfl
set_option maxRecDepth 65536 in
set_option maxHeartbeats 40000000 in
theorem own_rm4_9 (lch : Launch) (Z : State) (a0 : Array Value) (hw : ∀ d ∈ tables_1, d.before a0 Z = true) (ws : List Jvm.Cond) (a : Addr) (ak : ClassId) (x0 : Int32) (x1 : Int32) (x2 : Int32) (x3 : Int32) (x4 : Int32) (x5 : Int32) (x6 : Int32) (x7 : Int32) (x8 : Int32) (h0 : Heap) (n0 : Nat) (Z0 : n0 ≤ h0.size) (V0 : Arv Z h0 a ak .char (9 : Int32) [(.int x0), (.int x1), (.int x2), (.int x3), (.int x4), (.int x5), (.int x6), (.int x7), (.int x8)] (.int (0 : Int32))) (rx0 : own_R x0) (rx1 : own_R x1) (rx2 : own_R x2) (rx3 : own_R x3) (rx4 : own_R x4) (rx5 : own_R x5) (rx6 : own_R x6) (rx7 : own_R x7) (rx8 : own_R x8) :
    MetFree lch (⟨"java/lang/StringUTF16", "compress", "([CII)[B"⟩ : MethodName) (head1 (Jvm.Cond.code (⟨"java/lang/StringUTF16", "compress", "([CII)[B"⟩ : MethodName) jdk_52_method_16_code 6 (some (.array .byte)) :: ws) own_room4_9) (fun zz U => zz = #[(.ref a), (.int (0 : Int32)), (.int (9 : Int32))] ∧ Z.Warmed39 U.vm ∧ U.heap = h0) (fun _ _ _ _ _ => True) (fun _ U o U' => ∃ v L, o = .returned v ∧ own_Q4_9 Z a ak x0 x1 x2 x3 x4 x5 x6 x7 x8 h0 n0 v U'.heap L ∧ FrameEnd U o U' L own_room4_9.cells own_room4_9.slots) := by
  refine MetFree.of_bodySF (plainFor_of_name own_pn1) hisR ?_
  intro prg e s m args below meth c s₁ Bd hml0 hP hK
  obtain ⟨rfl, hZ, hh⟩ := hP
  have hx := Bd.exec
  have hby := Bd.bytes
  have hml : c.maxLocals = 6 := hml0
  have hown : s.vm.findClass "java/lang/StringUTF16" = some m.cls := findClass_of_methodNamed Bd.named
  have hnm := (name_of_methodNamed Bd.named Bd.method).1
  have hlk : meth.locks = false := BodyLoose.notSynchronized Bd
  have hret := Bd.returns
  have X0 : Stand prg lch e own_room4_9 s m #[(.ref a), (.int (0 : Int32)), (.int (9 : Int32))] below meth c s₁ [] 0 0 := Stand.of_body Bd
  have e0 : s₁.heap = h0 := by rw [← hh, Bd.state]; rfl
  have N0 := Fr.nil n0
  show own_Ends prg e below s (own_Q4_9 Z a ak x0 x1 x2 x3 x4 x5 x6 x7 x8 h0 n0) own_room4_9.cells own_room4_9.slots s₁ (entryFrame m #[(.ref a), (.int (0 : Int32)), (.int (9 : Int32))] 6)
  refine own_cast (own_ef_rm4_9 m a (0 : Int32) (9 : Int32)) ?_
  have K0 := Keep.refl h0 ([] : List Addr)
  refine own_iloadN (pc' := 1) X0 hx (hb hby own_d4_0) rfl rfl ?_
  refine own_newarr (pc' := 3) (aty := .byte) X0 hx hZ (own_w20 hw) e0 (hb hby own_d4_1) rfl (by decide) 9 9 (by decide) (by decide) (by decide) (by decide) ?_
  intro T31 h31 a31 k31 X31 e31 E31 g31 V31
  replace V31 : Arv Z h31 a31 k31 .byte (9 : Int32) [(.int (0 : Int32)), (.int (0 : Int32)), (.int (0 : Int32)), (.int (0 : Int32)), (.int (0 : Int32)), (.int (0 : Int32)), (.int (0 : Int32)), (.int (0 : Int32)), (.int (0 : Int32))] (.int (0 : Int32)) := V31
  have ge32 : n0 ≤ a31 := by rw [g31]; exact Z0
  have sz33 : h0.size ≤ a31 := by rw [g31]; exact K0.1
  have ne34 : a ≠ a31 := Nat.ne_of_lt (by rw [g31]; exact V0.lt)
  show own_Ends prg e below s _ _ _ T31 (mkF m 3 #[.val (.ref a), .val (.int (0 : Int32)), .val (.int (9 : Int32)), .unset, .unset, .unset] [(.ref a31)])
  refine own_astoreN (pc' := 4) (l' := #[.val (.ref a), .val (.int (0 : Int32)), .val (.int (9 : Int32)), .val (.ref a31), .unset, .unset]) X31 hx (hb hby own_d4_3) rfl rfl rfl ?_
  refine own_aloadN (pc' := 5) X31 hx (hb hby own_d4_4) rfl rfl rfl ?_
  refine own_iloadN (pc' := 6) X31 hx (hb hby own_d4_5) rfl rfl ?_
  refine own_aloadN (pc' := 7) X31 hx (hb hby own_d4_6) rfl rfl rfl ?_
  refine own_iconst (pc' := 8) (z := (0 : Int32)) X31 hx (hb hby own_d4_7) rfl rfl ?_
  refine own_iloadN (pc' := 9) X31 hx (hb hby own_d4_8) rfl rfl ?_
  have f35 := (V0.ext E31)
  refine own_callS (pc' := 12) (y := (⟨"java/lang/StringUTF16", "compress", "([CI[BII)I"⟩ : MethodName)) (W := 0) (rm := own_room5_9) (argsL := [(.ref a), (.int (0 : Int32)), (.ref a31), (.int (0 : Int32)), (.int (9 : Int32))]) (rest := []) X31 hx hZ e31 hown (by rw [hml]; rfl) (own_w21 hw) (own_w22 hw) (own_w18 hw) (own_w23 hw) (by decide) (own_rm5_9 lch Z a0 hw [] a a31 ak k31 x0 x1 x2 x3 x4 x5 x6 x7 x8 h31 n0 f35 V31 ge32 ne34 rx0 rx1 rx2 rx3 rx4 rx5 rx6 rx7 rx8) (by decide) (by decide) (by decide) (by decide) (lenOf own_pd0 rfl) rfl (by exact Nat.le_of_eq rfl) (hb hby own_d4_9) rfl ?_
  intro T36 Lc36 v36 X36 hQ36
  obtain ⟨rfl, Nq36, Kq36, G36_0⟩ := hQ36
  have N36 := Fr.app N0 Nq36
  show own_Ends prg e below s _ _ _ T36 (mkF m 12 #[.val (.ref a), .val (.int (0 : Int32)), .val (.int (9 : Int32)), .val (.ref a31), .unset, .unset] [(.int (9 : Int32))])
  refine own_istore (pc' := 14) (l' := #[.val (.ref a), .val (.int (0 : Int32)), .val (.int (9 : Int32)), .val (.ref a31), .val (.int (9 : Int32)), .unset]) X36 hx (hb hby own_d4_12) rfl rfl ?_
  refine own_iload (pc' := 16) X36 hx (hb hby own_d4_14) rfl rfl ?_
  refine own_iloadN (pc' := 17) X36 hx (hb hby own_d4_16) rfl rfl ?_
  refine own_icmpYes (pc' := 57) X36 hx (hb hby own_d4_17) (teq (by decide)).1 (by decide) (by decide) ?_
  refine own_aloadN (pc' := 58) X36 hx (hb hby own_d4_57) rfl rfl rfl ?_
  refine own_retA X36 hx hlk hret rfl rfl rfl (hb hby own_d4_58) (by decide) (by decide) ?_
  have f37 := ((K0.ext E31).trans Kq36 (allS (Or.inr sz33) all0))
  exact ⟨_, _, rfl, N36, f37, sz33, G36_0⟩
def own_room6_9 : Room := { frames := 0, cells := 0, slots := 0, locals := 0 }
def own_Q6_9 (Z : State) (a : Addr) (ak : ClassId) (vs : List Value) (h0 : Heap) (n0 : Nat) (v : Option Value) (h : Heap) (L : List Loc) : Prop := v = some (.int (0 : Int32)) ∧ Fr n0 L ∧ h = h0
theorem own_ef_rm6_9 (m : MethodId) (x0 : Addr) (x1 : Int32) : entryFrame m #[(.ref x0), (.int x1)] 2 = mkF m 0 #[.val (.ref x0), .val (.int x1)] [] := by first | (simp [entryFrame, mkF, argsToLocals, Value.category]; done) | rfl
set_option maxRecDepth 65536 in
set_option maxHeartbeats 40000000 in
theorem own_rm6_9 (lch : Launch) (Z : State) (a0 : Array Value) (hw : ∀ d ∈ tables_1, d.before a0 Z = true) (ws : List Jvm.Cond) (a : Addr) (ak : ClassId) (vs : List Value) (h0 : Heap) (n0 : Nat) (V0 : Arv Z h0 a ak .byte (9 : Int32) vs (.int (0 : Int32))) :
    MetFree lch (⟨"java/lang/StringUTF16", "coderFromArrayLen", "([BI)B"⟩ : MethodName) (head1 (Jvm.Cond.code (⟨"java/lang/StringUTF16", "coderFromArrayLen", "([BI)B"⟩ : MethodName) jdk_52_method_15_code 2 (some .byte) :: ws) own_room6_9) (fun zz U => zz = #[(.ref a), (.int (9 : Int32))] ∧ Z.Warmed39 U.vm ∧ U.heap = h0) (fun _ _ _ _ _ => True) (fun _ U o U' => ∃ v L, o = .returned v ∧ own_Q6_9 Z a ak vs h0 n0 v U'.heap L ∧ FrameEnd U o U' L own_room6_9.cells own_room6_9.slots) := by
  refine MetFree.of_bodySF (plainFor_of_name own_pn1) hisR ?_
  intro prg e s m args below meth c s₁ Bd hml0 hP hK
  obtain ⟨rfl, hZ, hh⟩ := hP
  have hx := Bd.exec
  have hby := Bd.bytes
  have hml : c.maxLocals = 2 := hml0
  have hown : s.vm.findClass "java/lang/StringUTF16" = some m.cls := findClass_of_methodNamed Bd.named
  have hnm := (name_of_methodNamed Bd.named Bd.method).1
  have hlk : meth.locks = false := BodyLoose.notSynchronized Bd
  have hret := Bd.returns
  have X0 : Stand prg lch e own_room6_9 s m #[(.ref a), (.int (9 : Int32))] below meth c s₁ [] 0 0 := Stand.of_body Bd
  have e0 : s₁.heap = h0 := by rw [← hh, Bd.state]; rfl
  have N0 := Fr.nil n0
  show own_Ends prg e below s (own_Q6_9 Z a ak vs h0 n0) own_room6_9.cells own_room6_9.slots s₁ (entryFrame m #[(.ref a), (.int (9 : Int32))] 2)
  refine own_cast (own_ef_rm6_9 m a (9 : Int32)) ?_
  refine own_iloadN (pc' := 1) X0 hx (hb hby own_d6_0) rfl rfl ?_
  refine own_aloadN (pc' := 2) X0 hx (hb hby own_d6_1) rfl rfl rfl ?_
  refine own_alen (pc' := 3) X0 hx hZ e0 V0 (hb hby own_d6_2) rfl ?_
  refine own_isub (pc' := 4) (z := (0 : Int32)) X0 hx (hb hby own_d6_3) rfl (by decide) ?_
  refine own_bipush (pc' := 6) (z := (31 : Int32)) X0 hx (hb hby own_d6_4) rfl rfl ?_
  refine own_iushr (pc' := 7) (z := (0 : Int32)) X0 hx (hb hby own_d6_6) rfl (by decide) ?_
  refine own_i2b (pc' := 8) (z := (0 : Int32)) X0 hx (hb hby own_d6_7) rfl (by decide) ?_
  refine own_retN X0 hx hlk hret (by simp) (hb hby own_d6_8) (by decide) (by decide) ?_
  exact ⟨rfl, N0, e0⟩
def own_room4_10 : Room := { frames := 1, cells := 1, slots := 10, locals := 18 }
def own_Q4_10 (Z : State) (a : Addr) (ak : ClassId) (x0 : Int32) (x1 : Int32) (x2 : Int32) (x3 : Int32) (x4 : Int32) (x5 : Int32) (x6 : Int32) (x7 : Int32) (x8 : Int32) (x9 : Int32) (h0 : Heap) (n0 : Nat) (v : Option Value) (h : Heap) (L : List Loc) : Prop := ∃ (ra : Addr) (rk : ClassId), v = some (.ref ra) ∧ Fr n0 L ∧ Keep h0 h [] ∧ h0.size ≤ ra ∧ Arv Z h ra rk .byte (10 : Int32) [(.int (own_byt x0)), (.int (own_byt x1)), (.int (own_byt x2)), (.int (own_byt x3)), (.int (own_byt x4)), (.int (own_byt x5)), (.int (own_byt x6)), (.int (own_byt x7)), (.int (own_byt x8)), (.int (own_byt x9))] (.int (0 : Int32))
theorem own_ef_rm4_10 (m : MethodId) (x0 : Addr) (x1 : Int32) (x2 : Int32) : entryFrame m #[(.ref x0), (.int x1), (.int x2)] 6 = mkF m 0 #[.val (.ref x0), .val (.int x1), .val (.int x2), .unset, .unset, .unset] [] := by first | (simp [entryFrame, mkF, argsToLocals, Value.category]; done) | rfl
set_option maxRecDepth 65536 in
set_option maxHeartbeats 40000000 in
theorem own_rm4_10 (lch : Launch) (Z : State) (a0 : Array Value) (hw : ∀ d ∈ tables_1, d.before a0 Z = true) (ws : List Jvm.Cond) (a : Addr) (ak : ClassId) (x0 : Int32) (x1 : Int32) (x2 : Int32) (x3 : Int32) (x4 : Int32) (x5 : Int32) (x6 : Int32) (x7 : Int32) (x8 : Int32) (x9 : Int32) (h0 : Heap) (n0 : Nat) (Z0 : n0 ≤ h0.size) (V0 : Arv Z h0 a ak .char (10 : Int32) [(.int x0), (.int x1), (.int x2), (.int x3), (.int x4), (.int x5), (.int x6), (.int x7), (.int x8), (.int x9)] (.int (0 : Int32))) (rx0 : own_R x0) (rx1 : own_R x1) (rx2 : own_R x2) (rx3 : own_R x3) (rx4 : own_R x4) (rx5 : own_R x5) (rx6 : own_R x6) (rx7 : own_R x7) (rx8 : own_R x8) (rx9 : own_R x9) :
    MetFree lch (⟨"java/lang/StringUTF16", "compress", "([CII)[B"⟩ : MethodName) (head1 (Jvm.Cond.code (⟨"java/lang/StringUTF16", "compress", "([CII)[B"⟩ : MethodName) jdk_52_method_16_code 6 (some (.array .byte)) :: ws) own_room4_10) (fun zz U => zz = #[(.ref a), (.int (0 : Int32)), (.int (10 : Int32))] ∧ Z.Warmed39 U.vm ∧ U.heap = h0) (fun _ _ _ _ _ => True) (fun _ U o U' => ∃ v L, o = .returned v ∧ own_Q4_10 Z a ak x0 x1 x2 x3 x4 x5 x6 x7 x8 x9 h0 n0 v U'.heap L ∧ FrameEnd U o U' L own_room4_10.cells own_room4_10.slots) := by
  refine MetFree.of_bodySF (plainFor_of_name own_pn1) hisR ?_
  intro prg e s m args below meth c s₁ Bd hml0 hP hK
  obtain ⟨rfl, hZ, hh⟩ := hP
  have hx := Bd.exec
  have hby := Bd.bytes
  have hml : c.maxLocals = 6 := hml0
  have hown : s.vm.findClass "java/lang/StringUTF16" = some m.cls := findClass_of_methodNamed Bd.named
  have hnm := (name_of_methodNamed Bd.named Bd.method).1
  have hlk : meth.locks = false := BodyLoose.notSynchronized Bd
  have hret := Bd.returns
  have X0 : Stand prg lch e own_room4_10 s m #[(.ref a), (.int (0 : Int32)), (.int (10 : Int32))] below meth c s₁ [] 0 0 := Stand.of_body Bd
  have e0 : s₁.heap = h0 := by rw [← hh, Bd.state]; rfl
  have N0 := Fr.nil n0
  show own_Ends prg e below s (own_Q4_10 Z a ak x0 x1 x2 x3 x4 x5 x6 x7 x8 x9 h0 n0) own_room4_10.cells own_room4_10.slots s₁ (entryFrame m #[(.ref a), (.int (0 : Int32)), (.int (10 : Int32))] 6)
  refine own_cast (own_ef_rm4_10 m a (0 : Int32) (10 : Int32)) ?_
  have K0 := Keep.refl h0 ([] : List Addr)
  refine own_iloadN (pc' := 1) X0 hx (hb hby own_d4_0) rfl rfl ?_
  refine own_newarr (pc' := 3) (aty := .byte) X0 hx hZ (own_w20 hw) e0 (hb hby own_d4_1) rfl (by decide) 10 10 (by decide) (by decide) (by decide) (by decide) ?_
  intro T31 h31 a31 k31 X31 e31 E31 g31 V31
  replace V31 : Arv Z h31 a31 k31 .byte (10 : Int32) [(.int (0 : Int32)), (.int (0 : Int32)), (.int (0 : Int32)), (.int (0 : Int32)), (.int (0 : Int32)), (.int (0 : Int32)), (.int (0 : Int32)), (.int (0 : Int32)), (.int (0 : Int32)), (.int (0 : Int32))] (.int (0 : Int32)) := V31
  have ge32 : n0 ≤ a31 := by rw [g31]; exact Z0
  have sz33 : h0.size ≤ a31 := by rw [g31]; exact K0.1
  have ne34 : a ≠ a31 := Nat.ne_of_lt (by rw [g31]; exact V0.lt)
  show own_Ends prg e below s _ _ _ T31 (mkF m 3 #[.val (.ref a), .val (.int (0 : Int32)), .val (.int (10 : Int32)), .unset, .unset, .unset] [(.ref a31)])
  refine own_astoreN (pc' := 4) (l' := #[.val (.ref a), .val (.int (0 : Int32)), .val (.int (10 : Int32)), .val (.ref a31), .unset, .unset]) X31 hx (hb hby own_d4_3) rfl rfl rfl ?_
  refine own_aloadN (pc' := 5) X31 hx (hb hby own_d4_4) rfl rfl rfl ?_
  refine own_iloadN (pc' := 6) X31 hx (hb hby own_d4_5) rfl rfl ?_
  refine own_aloadN (pc' := 7) X31 hx (hb hby own_d4_6) rfl rfl rfl ?_
  refine own_iconst (pc' := 8) (z := (0 : Int32)) X31 hx (hb hby own_d4_7) rfl rfl ?_
  refine own_iloadN (pc' := 9) X31 hx (hb hby own_d4_8) rfl rfl ?_
  have f35 := (V0.ext E31)
  refine own_callS (pc' := 12) (y := (⟨"java/lang/StringUTF16", "compress", "([CI[BII)I"⟩ : MethodName)) (W := 0) (rm := own_room5_10) (argsL := [(.ref a), (.int (0 : Int32)), (.ref a31), (.int (0 : Int32)), (.int (10 : Int32))]) (rest := []) X31 hx hZ e31 hown (by rw [hml]; rfl) (own_w21 hw) (own_w22 hw) (own_w18 hw) (own_w23 hw) (by decide) (own_rm5_10 lch Z a0 hw [] a a31 ak k31 x0 x1 x2 x3 x4 x5 x6 x7 x8 x9 h31 n0 f35 V31 ge32 ne34 rx0 rx1 rx2 rx3 rx4 rx5 rx6 rx7 rx8 rx9) (by decide) (by decide) (by decide) (by decide) (lenOf own_pd0 rfl) rfl (by exact Nat.le_of_eq rfl) (hb hby own_d4_9) rfl ?_
  intro T36 Lc36 v36 X36 hQ36
  obtain ⟨rfl, Nq36, Kq36, G36_0⟩ := hQ36
  have N36 := Fr.app N0 Nq36
  show own_Ends prg e below s _ _ _ T36 (mkF m 12 #[.val (.ref a), .val (.int (0 : Int32)), .val (.int (10 : Int32)), .val (.ref a31), .unset, .unset] [(.int (10 : Int32))])
  refine own_istore (pc' := 14) (l' := #[.val (.ref a), .val (.int (0 : Int32)), .val (.int (10 : Int32)), .val (.ref a31), .val (.int (10 : Int32)), .unset]) X36 hx (hb hby own_d4_12) rfl rfl ?_
  refine own_iload (pc' := 16) X36 hx (hb hby own_d4_14) rfl rfl ?_
  refine own_iloadN (pc' := 17) X36 hx (hb hby own_d4_16) rfl rfl ?_
  refine own_icmpYes (pc' := 57) X36 hx (hb hby own_d4_17) (teq (by decide)).1 (by decide) (by decide) ?_
  refine own_aloadN (pc' := 58) X36 hx (hb hby own_d4_57) rfl rfl rfl ?_
  refine own_retA X36 hx hlk hret rfl rfl rfl (hb hby own_d4_58) (by decide) (by decide) ?_
  have f37 := ((K0.ext E31).trans Kq36 (allS (Or.inr sz33) all0))
  exact ⟨_, _, rfl, N36, f37, sz33, G36_0⟩
def own_room6_10 : Room := { frames := 0, cells := 0, slots := 0, locals := 0 }
def own_Q6_10 (Z : State) (a : Addr) (ak : ClassId) (vs : List Value) (h0 : Heap) (n0 : Nat) (v : Option Value) (h : Heap) (L : List Loc) : Prop := v = some (.int (0 : Int32)) ∧ Fr n0 L ∧ h = h0
theorem own_ef_rm6_10 (m : MethodId) (x0 : Addr) (x1 : Int32) : entryFrame m #[(.ref x0), (.int x1)] 2 = mkF m 0 #[.val (.ref x0), .val (.int x1)] [] := by first | (simp [entryFrame, mkF, argsToLocals, Value.category]; done) | rfl
set_option maxRecDepth 65536 in
set_option maxHeartbeats 40000000 in
theorem own_rm6_10 (lch : Launch) (Z : State) (a0 : Array Value) (hw : ∀ d ∈ tables_1, d.before a0 Z = true) (ws : List Jvm.Cond) (a : Addr) (ak : ClassId) (vs : List Value) (h0 : Heap) (n0 : Nat) (V0 : Arv Z h0 a ak .byte (10 : Int32) vs (.int (0 : Int32))) :
    MetFree lch (⟨"java/lang/StringUTF16", "coderFromArrayLen", "([BI)B"⟩ : MethodName) (head1 (Jvm.Cond.code (⟨"java/lang/StringUTF16", "coderFromArrayLen", "([BI)B"⟩ : MethodName) jdk_52_method_15_code 2 (some .byte) :: ws) own_room6_10) (fun zz U => zz = #[(.ref a), (.int (10 : Int32))] ∧ Z.Warmed39 U.vm ∧ U.heap = h0) (fun _ _ _ _ _ => True) (fun _ U o U' => ∃ v L, o = .returned v ∧ own_Q6_10 Z a ak vs h0 n0 v U'.heap L ∧ FrameEnd U o U' L own_room6_10.cells own_room6_10.slots) := by
  refine MetFree.of_bodySF (plainFor_of_name own_pn1) hisR ?_
  intro prg e s m args below meth c s₁ Bd hml0 hP hK
  obtain ⟨rfl, hZ, hh⟩ := hP
  have hx := Bd.exec
  have hby := Bd.bytes
  have hml : c.maxLocals = 2 := hml0
  have hown : s.vm.findClass "java/lang/StringUTF16" = some m.cls := findClass_of_methodNamed Bd.named
  have hnm := (name_of_methodNamed Bd.named Bd.method).1
  have hlk : meth.locks = false := BodyLoose.notSynchronized Bd
  have hret := Bd.returns
  have X0 : Stand prg lch e own_room6_10 s m #[(.ref a), (.int (10 : Int32))] below meth c s₁ [] 0 0 := Stand.of_body Bd
  have e0 : s₁.heap = h0 := by rw [← hh, Bd.state]; rfl
  have N0 := Fr.nil n0
  show own_Ends prg e below s (own_Q6_10 Z a ak vs h0 n0) own_room6_10.cells own_room6_10.slots s₁ (entryFrame m #[(.ref a), (.int (10 : Int32))] 2)
  refine own_cast (own_ef_rm6_10 m a (10 : Int32)) ?_
  refine own_iloadN (pc' := 1) X0 hx (hb hby own_d6_0) rfl rfl ?_
  refine own_aloadN (pc' := 2) X0 hx (hb hby own_d6_1) rfl rfl rfl ?_
  refine own_alen (pc' := 3) X0 hx hZ e0 V0 (hb hby own_d6_2) rfl ?_
  refine own_isub (pc' := 4) (z := (0 : Int32)) X0 hx (hb hby own_d6_3) rfl (by decide) ?_
  refine own_bipush (pc' := 6) (z := (31 : Int32)) X0 hx (hb hby own_d6_4) rfl rfl ?_
  refine own_iushr (pc' := 7) (z := (0 : Int32)) X0 hx (hb hby own_d6_6) rfl (by decide) ?_
  refine own_i2b (pc' := 8) (z := (0 : Int32)) X0 hx (hb hby own_d6_7) rfl (by decide) ?_
  refine own_retN X0 hx hlk hret (by simp) (hb hby own_d6_8) (by decide) (by decide) ?_
  exact ⟨rfl, N0, e0⟩
def own_room4_11 : Room := { frames := 1, cells := 1, slots := 11, locals := 18 }
def own_Q4_11 (Z : State) (a : Addr) (ak : ClassId) (x0 : Int32) (x1 : Int32) (x2 : Int32) (x3 : Int32) (x4 : Int32) (x5 : Int32) (x6 : Int32) (x7 : Int32) (x8 : Int32) (x9 : Int32) (x10 : Int32) (h0 : Heap) (n0 : Nat) (v : Option Value) (h : Heap) (L : List Loc) : Prop := ∃ (ra : Addr) (rk : ClassId), v = some (.ref ra) ∧ Fr n0 L ∧ Keep h0 h [] ∧ h0.size ≤ ra ∧ Arv Z h ra rk .byte (11 : Int32) [(.int (own_byt x0)), (.int (own_byt x1)), (.int (own_byt x2)), (.int (own_byt x3)), (.int (own_byt x4)), (.int (own_byt x5)), (.int (own_byt x6)), (.int (own_byt x7)), (.int (own_byt x8)), (.int (own_byt x9)), (.int (own_byt x10))] (.int (0 : Int32))
theorem own_ef_rm4_11 (m : MethodId) (x0 : Addr) (x1 : Int32) (x2 : Int32) : entryFrame m #[(.ref x0), (.int x1), (.int x2)] 6 = mkF m 0 #[.val (.ref x0), .val (.int x1), .val (.int x2), .unset, .unset, .unset] [] := by first | (simp [entryFrame, mkF, argsToLocals, Value.category]; done) | rfl
set_option maxRecDepth 65536 in
set_option maxHeartbeats 40000000 in
theorem own_rm4_11 (lch : Launch) (Z : State) (a0 : Array Value) (hw : ∀ d ∈ tables_1, d.before a0 Z = true) (ws : List Jvm.Cond) (a : Addr) (ak : ClassId) (x0 : Int32) (x1 : Int32) (x2 : Int32) (x3 : Int32) (x4 : Int32) (x5 : Int32) (x6 : Int32) (x7 : Int32) (x8 : Int32) (x9 : Int32) (x10 : Int32) (h0 : Heap) (n0 : Nat) (Z0 : n0 ≤ h0.size) (V0 : Arv Z h0 a ak .char (11 : Int32) [(.int x0), (.int x1), (.int x2), (.int x3), (.int x4), (.int x5), (.int x6), (.int x7), (.int x8), (.int x9), (.int x10)] (.int (0 : Int32))) (rx0 : own_R x0) (rx1 : own_R x1) (rx2 : own_R x2) (rx3 : own_R x3) (rx4 : own_R x4) (rx5 : own_R x5) (rx6 : own_R x6) (rx7 : own_R x7) (rx8 : own_R x8) (rx9 : own_R x9) (rx10 : own_R x10) :
    MetFree lch (⟨"java/lang/StringUTF16", "compress", "([CII)[B"⟩ : MethodName) (head1 (Jvm.Cond.code (⟨"java/lang/StringUTF16", "compress", "([CII)[B"⟩ : MethodName) jdk_52_method_16_code 6 (some (.array .byte)) :: ws) own_room4_11) (fun zz U => zz = #[(.ref a), (.int (0 : Int32)), (.int (11 : Int32))] ∧ Z.Warmed39 U.vm ∧ U.heap = h0) (fun _ _ _ _ _ => True) (fun _ U o U' => ∃ v L, o = .returned v ∧ own_Q4_11 Z a ak x0 x1 x2 x3 x4 x5 x6 x7 x8 x9 x10 h0 n0 v U'.heap L ∧ FrameEnd U o U' L own_room4_11.cells own_room4_11.slots) := by
  refine MetFree.of_bodySF (plainFor_of_name own_pn1) hisR ?_
  intro prg e s m args below meth c s₁ Bd hml0 hP hK
  obtain ⟨rfl, hZ, hh⟩ := hP
  have hx := Bd.exec
  have hby := Bd.bytes
  have hml : c.maxLocals = 6 := hml0
  have hown : s.vm.findClass "java/lang/StringUTF16" = some m.cls := findClass_of_methodNamed Bd.named
  have hnm := (name_of_methodNamed Bd.named Bd.method).1
  have hlk : meth.locks = false := BodyLoose.notSynchronized Bd
  have hret := Bd.returns
  have X0 : Stand prg lch e own_room4_11 s m #[(.ref a), (.int (0 : Int32)), (.int (11 : Int32))] below meth c s₁ [] 0 0 := Stand.of_body Bd
  have e0 : s₁.heap = h0 := by rw [← hh, Bd.state]; rfl
  have N0 := Fr.nil n0
  show own_Ends prg e below s (own_Q4_11 Z a ak x0 x1 x2 x3 x4 x5 x6 x7 x8 x9 x10 h0 n0) own_room4_11.cells own_room4_11.slots s₁ (entryFrame m #[(.ref a), (.int (0 : Int32)), (.int (11 : Int32))] 6)
  refine own_cast (own_ef_rm4_11 m a (0 : Int32) (11 : Int32)) ?_
  have K0 := Keep.refl h0 ([] : List Addr)
  refine own_iloadN (pc' := 1) X0 hx (hb hby own_d4_0) rfl rfl ?_
  refine own_newarr (pc' := 3) (aty := .byte) X0 hx hZ (own_w20 hw) e0 (hb hby own_d4_1) rfl (by decide) 11 11 (by decide) (by decide) (by decide) (by decide) ?_
  intro T31 h31 a31 k31 X31 e31 E31 g31 V31
  replace V31 : Arv Z h31 a31 k31 .byte (11 : Int32) [(.int (0 : Int32)), (.int (0 : Int32)), (.int (0 : Int32)), (.int (0 : Int32)), (.int (0 : Int32)), (.int (0 : Int32)), (.int (0 : Int32)), (.int (0 : Int32)), (.int (0 : Int32)), (.int (0 : Int32)), (.int (0 : Int32))] (.int (0 : Int32)) := V31
  have ge32 : n0 ≤ a31 := by rw [g31]; exact Z0
  have sz33 : h0.size ≤ a31 := by rw [g31]; exact K0.1
  have ne34 : a ≠ a31 := Nat.ne_of_lt (by rw [g31]; exact V0.lt)
  show own_Ends prg e below s _ _ _ T31 (mkF m 3 #[.val (.ref a), .val (.int (0 : Int32)), .val (.int (11 : Int32)), .unset, .unset, .unset] [(.ref a31)])
  refine own_astoreN (pc' := 4) (l' := #[.val (.ref a), .val (.int (0 : Int32)), .val (.int (11 : Int32)), .val (.ref a31), .unset, .unset]) X31 hx (hb hby own_d4_3) rfl rfl rfl ?_
  refine own_aloadN (pc' := 5) X31 hx (hb hby own_d4_4) rfl rfl rfl ?_
  refine own_iloadN (pc' := 6) X31 hx (hb hby own_d4_5) rfl rfl ?_
  refine own_aloadN (pc' := 7) X31 hx (hb hby own_d4_6) rfl rfl rfl ?_
  refine own_iconst (pc' := 8) (z := (0 : Int32)) X31 hx (hb hby own_d4_7) rfl rfl ?_
  refine own_iloadN (pc' := 9) X31 hx (hb hby own_d4_8) rfl rfl ?_
  have f35 := (V0.ext E31)
  refine own_callS (pc' := 12) (y := (⟨"java/lang/StringUTF16", "compress", "([CI[BII)I"⟩ : MethodName)) (W := 0) (rm := own_room5_11) (argsL := [(.ref a), (.int (0 : Int32)), (.ref a31), (.int (0 : Int32)), (.int (11 : Int32))]) (rest := []) X31 hx hZ e31 hown (by rw [hml]; rfl) (own_w21 hw) (own_w22 hw) (own_w18 hw) (own_w23 hw) (by decide) (own_rm5_11 lch Z a0 hw [] a a31 ak k31 x0 x1 x2 x3 x4 x5 x6 x7 x8 x9 x10 h31 n0 f35 V31 ge32 ne34 rx0 rx1 rx2 rx3 rx4 rx5 rx6 rx7 rx8 rx9 rx10) (by decide) (by decide) (by decide) (by decide) (lenOf own_pd0 rfl) rfl (by exact Nat.le_of_eq rfl) (hb hby own_d4_9) rfl ?_
  intro T36 Lc36 v36 X36 hQ36
  obtain ⟨rfl, Nq36, Kq36, G36_0⟩ := hQ36
  have N36 := Fr.app N0 Nq36
  show own_Ends prg e below s _ _ _ T36 (mkF m 12 #[.val (.ref a), .val (.int (0 : Int32)), .val (.int (11 : Int32)), .val (.ref a31), .unset, .unset] [(.int (11 : Int32))])
  refine own_istore (pc' := 14) (l' := #[.val (.ref a), .val (.int (0 : Int32)), .val (.int (11 : Int32)), .val (.ref a31), .val (.int (11 : Int32)), .unset]) X36 hx (hb hby own_d4_12) rfl rfl ?_
  refine own_iload (pc' := 16) X36 hx (hb hby own_d4_14) rfl rfl ?_
  refine own_iloadN (pc' := 17) X36 hx (hb hby own_d4_16) rfl rfl ?_
  refine own_icmpYes (pc' := 57) X36 hx (hb hby own_d4_17) (teq (by decide)).1 (by decide) (by decide) ?_
  refine own_aloadN (pc' := 58) X36 hx (hb hby own_d4_57) rfl rfl rfl ?_
  refine own_retA X36 hx hlk hret rfl rfl rfl (hb hby own_d4_58) (by decide) (by decide) ?_
  have f37 := ((K0.ext E31).trans Kq36 (allS (Or.inr sz33) all0))
  exact ⟨_, _, rfl, N36, f37, sz33, G36_0⟩
def own_room6_11 : Room := { frames := 0, cells := 0, slots := 0, locals := 0 }
def own_Q6_11 (Z : State) (a : Addr) (ak : ClassId) (vs : List Value) (h0 : Heap) (n0 : Nat) (v : Option Value) (h : Heap) (L : List Loc) : Prop := v = some (.int (0 : Int32)) ∧ Fr n0 L ∧ h = h0
theorem own_ef_rm6_11 (m : MethodId) (x0 : Addr) (x1 : Int32) : entryFrame m #[(.ref x0), (.int x1)] 2 = mkF m 0 #[.val (.ref x0), .val (.int x1)] [] := by first | (simp [entryFrame, mkF, argsToLocals, Value.category]; done) | rfl
set_option maxRecDepth 65536 in
set_option maxHeartbeats 40000000 in
theorem own_rm6_11 (lch : Launch) (Z : State) (a0 : Array Value) (hw : ∀ d ∈ tables_1, d.before a0 Z = true) (ws : List Jvm.Cond) (a : Addr) (ak : ClassId) (vs : List Value) (h0 : Heap) (n0 : Nat) (V0 : Arv Z h0 a ak .byte (11 : Int32) vs (.int (0 : Int32))) :
    MetFree lch (⟨"java/lang/StringUTF16", "coderFromArrayLen", "([BI)B"⟩ : MethodName) (head1 (Jvm.Cond.code (⟨"java/lang/StringUTF16", "coderFromArrayLen", "([BI)B"⟩ : MethodName) jdk_52_method_15_code 2 (some .byte) :: ws) own_room6_11) (fun zz U => zz = #[(.ref a), (.int (11 : Int32))] ∧ Z.Warmed39 U.vm ∧ U.heap = h0) (fun _ _ _ _ _ => True) (fun _ U o U' => ∃ v L, o = .returned v ∧ own_Q6_11 Z a ak vs h0 n0 v U'.heap L ∧ FrameEnd U o U' L own_room6_11.cells own_room6_11.slots) := by
  refine MetFree.of_bodySF (plainFor_of_name own_pn1) hisR ?_
  intro prg e s m args below meth c s₁ Bd hml0 hP hK
  obtain ⟨rfl, hZ, hh⟩ := hP
  have hx := Bd.exec
  have hby := Bd.bytes
  have hml : c.maxLocals = 2 := hml0
  have hown : s.vm.findClass "java/lang/StringUTF16" = some m.cls := findClass_of_methodNamed Bd.named
  have hnm := (name_of_methodNamed Bd.named Bd.method).1
  have hlk : meth.locks = false := BodyLoose.notSynchronized Bd
  have hret := Bd.returns
  have X0 : Stand prg lch e own_room6_11 s m #[(.ref a), (.int (11 : Int32))] below meth c s₁ [] 0 0 := Stand.of_body Bd
  have e0 : s₁.heap = h0 := by rw [← hh, Bd.state]; rfl
  have N0 := Fr.nil n0
  show own_Ends prg e below s (own_Q6_11 Z a ak vs h0 n0) own_room6_11.cells own_room6_11.slots s₁ (entryFrame m #[(.ref a), (.int (11 : Int32))] 2)
  refine own_cast (own_ef_rm6_11 m a (11 : Int32)) ?_
  refine own_iloadN (pc' := 1) X0 hx (hb hby own_d6_0) rfl rfl ?_
  refine own_aloadN (pc' := 2) X0 hx (hb hby own_d6_1) rfl rfl rfl ?_
  refine own_alen (pc' := 3) X0 hx hZ e0 V0 (hb hby own_d6_2) rfl ?_
  refine own_isub (pc' := 4) (z := (0 : Int32)) X0 hx (hb hby own_d6_3) rfl (by decide) ?_
  refine own_bipush (pc' := 6) (z := (31 : Int32)) X0 hx (hb hby own_d6_4) rfl rfl ?_
  refine own_iushr (pc' := 7) (z := (0 : Int32)) X0 hx (hb hby own_d6_6) rfl (by decide) ?_
  refine own_i2b (pc' := 8) (z := (0 : Int32)) X0 hx (hb hby own_d6_7) rfl (by decide) ?_
  refine own_retN X0 hx hlk hret (by simp) (hb hby own_d6_8) (by decide) (by decide) ?_
  exact ⟨rfl, N0, e0⟩
theorem own_nby0 : nar .byte 0 = 0 := by decide
def own_room2_9 : Room := { frames := 2, cells := 1, slots := 9, locals := 35 }
def own_Q2_9 (Z : State) (a : Addr) (b : Addr) (bk : ClassId) (x0 : Int32) (x1 : Int32) (x2 : Int32) (x3 : Int32) (x4 : Int32) (x5 : Int32) (x6 : Int32) (x7 : Int32) (x8 : Int32) (u0 : Value) (u1 : Value) (i : Int32) (h0 : Heap) (n0 : Nat) (v : Option Value) (h : Heap) (L : List Loc) : Prop := ∃ (vb : Addr) (vk : ClassId), v = none ∧ Fr n0 L ∧ Keep h0 h [a] ∧ h0.size ≤ vb ∧ Fld Z h a "java/lang/String" "value" "[B" (.ref vb) ∧ Fld Z h a "java/lang/String" "coder" "B" (.int (0 : Int32)) ∧ Arv Z h vb vk .byte (9 : Int32) [(.int (own_byt x0)), (.int (own_byt x1)), (.int (own_byt x2)), (.int (own_byt x3)), (.int (own_byt x4)), (.int (own_byt x5)), (.int (own_byt x6)), (.int (own_byt x7)), (.int (own_byt x8))] (.int (0 : Int32))
theorem own_ef_rm2_9 (m : MethodId) (x0 : Addr) (x1 : Addr) (x2 : Int32) (x3 : Int32) : entryFrame m #[(.ref x0), (.ref x1), (.int x2), (.int x3), .null] 6 = mkF m 0 #[.val (.ref x0), .val (.ref x1), .val (.int x2), .val (.int x3), .val .null, .unset] [] := by first | (simp [entryFrame, mkF, argsToLocals, Value.category]; done) | rfl
set_option maxRecDepth 65536 in
set_option maxHeartbeats 40000000 in
theorem own_rm2_9 (lch : Launch) (Z : State) (a0 : Array Value) (hw : ∀ d ∈ tables_1, d.before a0 Z = true) (ws : List Jvm.Cond) (a : Addr) (b : Addr) (bk : ClassId) (x0 : Int32) (x1 : Int32) (x2 : Int32) (x3 : Int32) (x4 : Int32) (x5 : Int32) (x6 : Int32) (x7 : Int32) (x8 : Int32) (u0 : Value) (u1 : Value) (i : Int32) (h0 : Heap) (n0 : Nat) (Z0 : n0 ≤ h0.size) (E0 : Exa Z h0 a "java/lang/String") (F0 : Fld Z h0 a "java/lang/String" "value" "[B" u0) (F1 : Fld Z h0 a "java/lang/String" "coder" "B" u1) (ge0 : n0 ≤ a) (V0 : Arv Z h0 b bk .char (9 : Int32) [(.int x0), (.int x1), (.int x2), (.int x3), (.int x4), (.int x5), (.int x6), (.int x7), (.int x8)] (.int (0 : Int32))) (nab : a ≠ b) (S0 : Sta Z h0 "java/lang/String" "COMPACT_STRINGS" "Z" (.int i)) (hi : ¬ i = (0 : Int32)) (rx0 : own_R x0) (rx1 : own_R x1) (rx2 : own_R x2) (rx3 : own_R x3) (rx4 : own_R x4) (rx5 : own_R x5) (rx6 : own_R x6) (rx7 : own_R x7) (rx8 : own_R x8) :
    MetFree lch (⟨"java/lang/String", "<init>", "([CIILjava/lang/Void;)V"⟩ : MethodName) (head1 (Jvm.Cond.code (⟨"java/lang/String", "<init>", "([CIILjava/lang/Void;)V"⟩ : MethodName) jdk_42_method_149_code 6 none :: ws) own_room2_9) (fun zz U => zz = #[(.ref a), (.ref b), (.int (0 : Int32)), (.int (9 : Int32)), .null] ∧ Z.Warmed39 U.vm ∧ U.heap = h0) (fun _ _ _ _ _ => True) (fun _ U o U' => ∃ v L, o = .returned v ∧ own_Q2_9 Z a b bk x0 x1 x2 x3 x4 x5 x6 x7 x8 u0 u1 i h0 n0 v U'.heap L ∧ FrameEnd U o U' L own_room2_9.cells own_room2_9.slots) := by
  refine MetFree.of_bodySF (plainFor_of_name own_pn2) hisR ?_
  intro prg e s m args below meth c s₁ Bd hml0 hP hK
  obtain ⟨rfl, hZ, hh⟩ := hP
  have hx := Bd.exec
  have hby := Bd.bytes
  have hml : c.maxLocals = 6 := hml0
  have hown : s.vm.findClass "java/lang/String" = some m.cls := findClass_of_methodNamed Bd.named
  have hnm := (name_of_methodNamed Bd.named Bd.method).1
  have hlk : meth.locks = false := BodyLoose.notSynchronized Bd
  have hret := Bd.returns
  have X0 : Stand prg lch e own_room2_9 s m #[(.ref a), (.ref b), (.int (0 : Int32)), (.int (9 : Int32)), .null] below meth c s₁ [] 0 0 := Stand.of_body Bd
  have e0 : s₁.heap = h0 := by rw [← hh, Bd.state]; rfl
  have N0 := Fr.nil n0
  show own_Ends prg e below s (own_Q2_9 Z a b bk x0 x1 x2 x3 x4 x5 x6 x7 x8 u0 u1 i h0 n0) own_room2_9.cells own_room2_9.slots s₁ (entryFrame m #[(.ref a), (.ref b), (.int (0 : Int32)), (.int (9 : Int32)), .null] 6)
  refine own_cast (own_ef_rm2_9 m a b (0 : Int32) (9 : Int32)) ?_
  have K0 := Keep.refl h0 ([a] : List Addr)
  refine own_aloadN (pc' := 1) X0 hx (hb hby own_d2_0) rfl rfl rfl ?_
  obtain ⟨T31, X31, e31, st31⟩ := initO X0 hx hZ hown (own_w12 hw) (own_w13 hw) (own_w14 hw) e0 (g := (mkF m 1 #[.val (.ref a), .val (.ref b), .val (.int (0 : Int32)), .val (.int (9 : Int32)), .val .null, .unset] [(.ref a)])) rfl (by rw [hml]; rfl) rfl (hb hby own_d2_1) (by decide) (W := 0) (by show 2 * 0 + _ ≤ _; exact Nat.le_of_eq rfl) (by decide)
  refine own_go st31 ?_
  show own_Ends prg e below s _ _ _ T31 (mkF m 4 #[.val (.ref a), .val (.ref b), .val (.int (0 : Int32)), .val (.int (9 : Int32)), .val .null, .unset] [])
  refine own_iloadN (pc' := 5) X31 hx (hb hby own_d2_4) rfl rfl ?_
  refine own_ifYes (pc' := 27) X31 hx (hb hby own_d2_5) (feq (by decide)).2 (by decide) (by decide) ?_
  obtain ⟨T32, X32, e32, st32⟩ := getS2 X31 hx hZ hown (host := "") (Or.inl (own_w15 hw)) Via.refl e31 S0 (g := (mkF m 27 #[.val (.ref a), .val (.ref b), .val (.int (0 : Int32)), .val (.int (9 : Int32)), .val .null, .unset] [])) rfl (hb hby own_d2_27)
  refine own_go st32 ?_
  show own_Ends prg e below s _ _ _ T32 (mkF m 30 #[.val (.ref a), .val (.ref b), .val (.int (0 : Int32)), .val (.int (9 : Int32)), .val .null, .unset] [(.int i)])
  refine own_ifNo (pc' := 33) X32 hx (hb hby own_d2_30) rfl (feq hi).1 ?_
  refine own_aloadN (pc' := 34) X32 hx (hb hby own_d2_33) rfl rfl rfl ?_
  refine own_iloadN (pc' := 35) X32 hx (hb hby own_d2_34) rfl rfl ?_
  refine own_iloadN (pc' := 36) X32 hx (hb hby own_d2_35) rfl rfl ?_
  refine own_callS (pc' := 39) (y := (⟨"java/lang/StringUTF16", "compress", "([CII)[B"⟩ : MethodName)) (W := 0) (rm := own_room4_9) (argsL := [(.ref b), (.int (0 : Int32)), (.int (9 : Int32))]) (rest := []) X32 hx hZ e32 hown (by rw [hml]; rfl) (own_w16 hw) (own_w17 hw) (own_w18 hw) (own_w19 hw) (by decide) (own_rm4_9 lch Z a0 hw [] b bk x0 x1 x2 x3 x4 x5 x6 x7 x8 h0 n0 Z0 V0 rx0 rx1 rx2 rx3 rx4 rx5 rx6 rx7 rx8) (by decide) (by decide) (by decide) (by decide) (lenOf own_pd1 rfl) rfl (by exact Nat.le_of_eq rfl) (hb hby own_d2_36) rfl ?_
  intro T33 Lc33 v33 X33 hQ33
  obtain ⟨ra33, rk33, rfl, Nq33, Kq33, G33_0, G33_1⟩ := hQ33
  have N33 := Fr.app N0 Nq33
  have ge34 : n0 ≤ ra33 := Nat.le_trans Z0 G33_0
  have sz35 : h0.size ≤ ra33 := Nat.le_trans K0.1 G33_0
  have ne36 : a ≠ ra33 := Nat.ne_of_lt (Nat.lt_of_lt_of_le E0.lt G33_0)
  have ne37 : b ≠ ra33 := Nat.ne_of_lt (Nat.lt_of_lt_of_le V0.lt G33_0)
  show own_Ends prg e below s _ _ _ T33 (mkF m 39 #[.val (.ref a), .val (.ref b), .val (.int (0 : Int32)), .val (.int (9 : Int32)), .val .null, .unset] [(.ref ra33)])
  refine own_astore (pc' := 41) (l' := #[.val (.ref a), .val (.ref b), .val (.int (0 : Int32)), .val (.int (9 : Int32)), .val .null, .val (.ref ra33)]) X33 hx (hb hby own_d2_39) rfl rfl rfl ?_
  refine own_aloadN (pc' := 42) X33 hx (hb hby own_d2_41) rfl rfl rfl ?_
  refine own_aload (pc' := 44) X33 hx (hb hby own_d2_42) rfl rfl rfl ?_
  refine own_iloadN (pc' := 45) X33 hx (hb hby own_d2_44) rfl rfl ?_
  refine own_callS (pc' := 48) (y := (⟨"java/lang/StringUTF16", "coderFromArrayLen", "([BI)B"⟩ : MethodName)) (W := 1) (rm := own_room6_9) (argsL := [(.ref ra33), (.int (9 : Int32))]) (rest := [(.ref a)]) X33 hx hZ rfl hown (by rw [hml]; rfl) (own_w24 hw) (own_w25 hw) (own_w18 hw) (own_w26 hw) (by decide) (own_rm6_9 lch Z a0 hw [] ra33 rk33 _ T33.heap n0 G33_1) (by decide) (by decide) (by decide) (by decide) (lenOf own_pd2 rfl) rfl (by exact Nat.le_of_eq rfl) (hb hby own_d2_45) rfl ?_
  intro T38 Lc38 v38 X38 hQ38
  obtain ⟨rfl, Nq38, Kq38⟩ := hQ38
  have N38 := Fr.app N33 Nq38
  show own_Ends prg e below s _ _ _ T38 (mkF m 48 #[.val (.ref a), .val (.ref b), .val (.int (0 : Int32)), .val (.int (9 : Int32)), .val .null, .val (.ref ra33)] [(.int (0 : Int32)), (.ref a)])
  have f39 := (F1.keep Kq33 nin0)
  have f40 := (E0.keep Kq33)
  obtain ⟨T41, h41, X41, e41, W41, st41⟩ := putFN X38 hx hZ hown (own_w27 hw) Via.refl Kq38 f39 f40 (Or.inr ⟨(own_w28 hw), rfl, hnm⟩) (own_w3 hw) (ty := .byte) (v' := (.int (nar .byte (0 : Int32)))) (by decide) rfl (fits_nar_byte _) (g := (mkF m 48 #[.val (.ref a), .val (.ref b), .val (.int (0 : Int32)), .val (.int (9 : Int32)), .val .null, .val (.ref ra33)] [(.int (0 : Int32)), (.ref a)])) rfl rfl (hb hby own_d2_48)
  refine own_go st41 ?_
  have Fw41 := f39.same W41
  have N41 := Fr.snoc X41 N38 ge0
  show own_Ends prg e below s _ _ _ T41 (mkF m 51 #[.val (.ref a), .val (.ref b), .val (.int (0 : Int32)), .val (.int (9 : Int32)), .val .null, .val (.ref ra33)] [])
  refine own_aloadN (pc' := 52) X41 hx (hb hby own_d2_51) rfl rfl rfl ?_
  refine own_aload (pc' := 54) X41 hx (hb hby own_d2_52) rfl rfl rfl ?_
  have f42 := ((F0.keep Kq33 nin0).other W41 (Or.inr (slot_ne (Or.inr (own_w30 hw)) (Or.inr (own_w28 hw)) (by decide) (t := (.array .byte)) (t' := .byte) (by decide) (by decide))))
  have f43 := (f40.wr W41)
  obtain ⟨T44, h44, X44, e44, W44, st44⟩ := putF X41 hx hZ hown (host := "") (Or.inl (own_w29 hw)) Via.refl e41 f42 f43 (Or.inr ⟨(own_w30 hw), rfl, hnm⟩) (own_w3 hw) (ty := (.array .byte)) (by decide) rfl rfl (g := (mkF m 54 #[.val (.ref a), .val (.ref b), .val (.int (0 : Int32)), .val (.int (9 : Int32)), .val .null, .val (.ref ra33)] [(.ref ra33), (.ref a)])) rfl rfl (hb hby own_d2_54)
  refine own_go st44 ?_
  have Fw44 := f42.same W44
  have N44 := Fr.snoc X44 N41 ge0
  show own_Ends prg e below s _ _ _ T44 (mkF m 57 #[.val (.ref a), .val (.ref b), .val (.int (0 : Int32)), .val (.int (9 : Int32)), .val .null, .val (.ref ra33)] [])
  refine own_retV X44 hx hlk hret (hb hby own_d2_57) (by decide) (by decide) ?_
  have f45 := (Fw41.other W44 (Or.inr (slot_ne (Or.inr (own_w28 hw)) (Or.inr (own_w30 hw)) (by decide) (t := .byte) (t' := (.array .byte)) (by decide) (by decide))))
  have f46 := ((G33_1.other W41 (Ne.symm ne36)).other W44 (Ne.symm ne36))
  have f47 := (((K0.trans Kq33 all0).wr W41 (Or.inl (List.mem_of_getElem? (i := 0) rfl))).wr W44 (Or.inl (List.mem_of_getElem? (i := 0) rfl)))
  rw [e44]; exact ⟨_, _, rfl, N44, f47, sz35, Fw44, f45, f46⟩
def own_room2_10 : Room := { frames := 2, cells := 1, slots := 10, locals := 35 }
def own_Q2_10 (Z : State) (a : Addr) (b : Addr) (bk : ClassId) (x0 : Int32) (x1 : Int32) (x2 : Int32) (x3 : Int32) (x4 : Int32) (x5 : Int32) (x6 : Int32) (x7 : Int32) (x8 : Int32) (x9 : Int32) (u0 : Value) (u1 : Value) (i : Int32) (h0 : Heap) (n0 : Nat) (v : Option Value) (h : Heap) (L : List Loc) : Prop := ∃ (vb : Addr) (vk : ClassId), v = none ∧ Fr n0 L ∧ Keep h0 h [a] ∧ h0.size ≤ vb ∧ Fld Z h a "java/lang/String" "value" "[B" (.ref vb) ∧ Fld Z h a "java/lang/String" "coder" "B" (.int (0 : Int32)) ∧ Arv Z h vb vk .byte (10 : Int32) [(.int (own_byt x0)), (.int (own_byt x1)), (.int (own_byt x2)), (.int (own_byt x3)), (.int (own_byt x4)), (.int (own_byt x5)), (.int (own_byt x6)), (.int (own_byt x7)), (.int (own_byt x8)), (.int (own_byt x9))] (.int (0 : Int32))
theorem own_ef_rm2_10 (m : MethodId) (x0 : Addr) (x1 : Addr) (x2 : Int32) (x3 : Int32) : entryFrame m #[(.ref x0), (.ref x1), (.int x2), (.int x3), .null] 6 = mkF m 0 #[.val (.ref x0), .val (.ref x1), .val (.int x2), .val (.int x3), .val .null, .unset] [] := by first | (simp [entryFrame, mkF, argsToLocals, Value.category]; done) | rfl
set_option maxRecDepth 65536 in
set_option maxHeartbeats 40000000 in
theorem own_rm2_10 (lch : Launch) (Z : State) (a0 : Array Value) (hw : ∀ d ∈ tables_1, d.before a0 Z = true) (ws : List Jvm.Cond) (a : Addr) (b : Addr) (bk : ClassId) (x0 : Int32) (x1 : Int32) (x2 : Int32) (x3 : Int32) (x4 : Int32) (x5 : Int32) (x6 : Int32) (x7 : Int32) (x8 : Int32) (x9 : Int32) (u0 : Value) (u1 : Value) (i : Int32) (h0 : Heap) (n0 : Nat) (Z0 : n0 ≤ h0.size) (E0 : Exa Z h0 a "java/lang/String") (F0 : Fld Z h0 a "java/lang/String" "value" "[B" u0) (F1 : Fld Z h0 a "java/lang/String" "coder" "B" u1) (ge0 : n0 ≤ a) (V0 : Arv Z h0 b bk .char (10 : Int32) [(.int x0), (.int x1), (.int x2), (.int x3), (.int x4), (.int x5), (.int x6), (.int x7), (.int x8), (.int x9)] (.int (0 : Int32))) (nab : a ≠ b) (S0 : Sta Z h0 "java/lang/String" "COMPACT_STRINGS" "Z" (.int i)) (hi : ¬ i = (0 : Int32)) (rx0 : own_R x0) (rx1 : own_R x1) (rx2 : own_R x2) (rx3 : own_R x3) (rx4 : own_R x4) (rx5 : own_R x5) (rx6 : own_R x6) (rx7 : own_R x7) (rx8 : own_R x8) (rx9 : own_R x9) :
    MetFree lch (⟨"java/lang/String", "<init>", "([CIILjava/lang/Void;)V"⟩ : MethodName) (head1 (Jvm.Cond.code (⟨"java/lang/String", "<init>", "([CIILjava/lang/Void;)V"⟩ : MethodName) jdk_42_method_149_code 6 none :: ws) own_room2_10) (fun zz U => zz = #[(.ref a), (.ref b), (.int (0 : Int32)), (.int (10 : Int32)), .null] ∧ Z.Warmed39 U.vm ∧ U.heap = h0) (fun _ _ _ _ _ => True) (fun _ U o U' => ∃ v L, o = .returned v ∧ own_Q2_10 Z a b bk x0 x1 x2 x3 x4 x5 x6 x7 x8 x9 u0 u1 i h0 n0 v U'.heap L ∧ FrameEnd U o U' L own_room2_10.cells own_room2_10.slots) := by
  refine MetFree.of_bodySF (plainFor_of_name own_pn2) hisR ?_
  intro prg e s m args below meth c s₁ Bd hml0 hP hK
  obtain ⟨rfl, hZ, hh⟩ := hP
  have hx := Bd.exec
  have hby := Bd.bytes
  have hml : c.maxLocals = 6 := hml0
  have hown : s.vm.findClass "java/lang/String" = some m.cls := findClass_of_methodNamed Bd.named
  have hnm := (name_of_methodNamed Bd.named Bd.method).1
  have hlk : meth.locks = false := BodyLoose.notSynchronized Bd
  have hret := Bd.returns
  have X0 : Stand prg lch e own_room2_10 s m #[(.ref a), (.ref b), (.int (0 : Int32)), (.int (10 : Int32)), .null] below meth c s₁ [] 0 0 := Stand.of_body Bd
  have e0 : s₁.heap = h0 := by rw [← hh, Bd.state]; rfl
  have N0 := Fr.nil n0
  show own_Ends prg e below s (own_Q2_10 Z a b bk x0 x1 x2 x3 x4 x5 x6 x7 x8 x9 u0 u1 i h0 n0) own_room2_10.cells own_room2_10.slots s₁ (entryFrame m #[(.ref a), (.ref b), (.int (0 : Int32)), (.int (10 : Int32)), .null] 6)
  refine own_cast (own_ef_rm2_10 m a b (0 : Int32) (10 : Int32)) ?_
  have K0 := Keep.refl h0 ([a] : List Addr)
  refine own_aloadN (pc' := 1) X0 hx (hb hby own_d2_0) rfl rfl rfl ?_
  obtain ⟨T31, X31, e31, st31⟩ := initO X0 hx hZ hown (own_w12 hw) (own_w13 hw) (own_w14 hw) e0 (g := (mkF m 1 #[.val (.ref a), .val (.ref b), .val (.int (0 : Int32)), .val (.int (10 : Int32)), .val .null, .unset] [(.ref a)])) rfl (by rw [hml]; rfl) rfl (hb hby own_d2_1) (by decide) (W := 0) (by show 2 * 0 + _ ≤ _; exact Nat.le_of_eq rfl) (by decide)
  refine own_go st31 ?_
  show own_Ends prg e below s _ _ _ T31 (mkF m 4 #[.val (.ref a), .val (.ref b), .val (.int (0 : Int32)), .val (.int (10 : Int32)), .val .null, .unset] [])
  refine own_iloadN (pc' := 5) X31 hx (hb hby own_d2_4) rfl rfl ?_
  refine own_ifYes (pc' := 27) X31 hx (hb hby own_d2_5) (feq (by decide)).2 (by decide) (by decide) ?_
  obtain ⟨T32, X32, e32, st32⟩ := getS2 X31 hx hZ hown (host := "") (Or.inl (own_w15 hw)) Via.refl e31 S0 (g := (mkF m 27 #[.val (.ref a), .val (.ref b), .val (.int (0 : Int32)), .val (.int (10 : Int32)), .val .null, .unset] [])) rfl (hb hby own_d2_27)
  refine own_go st32 ?_
  show own_Ends prg e below s _ _ _ T32 (mkF m 30 #[.val (.ref a), .val (.ref b), .val (.int (0 : Int32)), .val (.int (10 : Int32)), .val .null, .unset] [(.int i)])
  refine own_ifNo (pc' := 33) X32 hx (hb hby own_d2_30) rfl (feq hi).1 ?_
  refine own_aloadN (pc' := 34) X32 hx (hb hby own_d2_33) rfl rfl rfl ?_
  refine own_iloadN (pc' := 35) X32 hx (hb hby own_d2_34) rfl rfl ?_
  refine own_iloadN (pc' := 36) X32 hx (hb hby own_d2_35) rfl rfl ?_
  refine own_callS (pc' := 39) (y := (⟨"java/lang/StringUTF16", "compress", "([CII)[B"⟩ : MethodName)) (W := 0) (rm := own_room4_10) (argsL := [(.ref b), (.int (0 : Int32)), (.int (10 : Int32))]) (rest := []) X32 hx hZ e32 hown (by rw [hml]; rfl) (own_w16 hw) (own_w17 hw) (own_w18 hw) (own_w19 hw) (by decide) (own_rm4_10 lch Z a0 hw [] b bk x0 x1 x2 x3 x4 x5 x6 x7 x8 x9 h0 n0 Z0 V0 rx0 rx1 rx2 rx3 rx4 rx5 rx6 rx7 rx8 rx9) (by decide) (by decide) (by decide) (by decide) (lenOf own_pd1 rfl) rfl (by exact Nat.le_of_eq rfl) (hb hby own_d2_36) rfl ?_
  intro T33 Lc33 v33 X33 hQ33
  obtain ⟨ra33, rk33, rfl, Nq33, Kq33, G33_0, G33_1⟩ := hQ33
  have N33 := Fr.app N0 Nq33
  have ge34 : n0 ≤ ra33 := Nat.le_trans Z0 G33_0
  have sz35 : h0.size ≤ ra33 := Nat.le_trans K0.1 G33_0
  have ne36 : a ≠ ra33 := Nat.ne_of_lt (Nat.lt_of_lt_of_le E0.lt G33_0)
  have ne37 : b ≠ ra33 := Nat.ne_of_lt (Nat.lt_of_lt_of_le V0.lt G33_0)
  show own_Ends prg e below s _ _ _ T33 (mkF m 39 #[.val (.ref a), .val (.ref b), .val (.int (0 : Int32)), .val (.int (10 : Int32)), .val .null, .unset] [(.ref ra33)])
  refine own_astore (pc' := 41) (l' := #[.val (.ref a), .val (.ref b), .val (.int (0 : Int32)), .val (.int (10 : Int32)), .val .null, .val (.ref ra33)]) X33 hx (hb hby own_d2_39) rfl rfl rfl ?_
  refine own_aloadN (pc' := 42) X33 hx (hb hby own_d2_41) rfl rfl rfl ?_
  refine own_aload (pc' := 44) X33 hx (hb hby own_d2_42) rfl rfl rfl ?_
  refine own_iloadN (pc' := 45) X33 hx (hb hby own_d2_44) rfl rfl ?_
  refine own_callS (pc' := 48) (y := (⟨"java/lang/StringUTF16", "coderFromArrayLen", "([BI)B"⟩ : MethodName)) (W := 1) (rm := own_room6_10) (argsL := [(.ref ra33), (.int (10 : Int32))]) (rest := [(.ref a)]) X33 hx hZ rfl hown (by rw [hml]; rfl) (own_w24 hw) (own_w25 hw) (own_w18 hw) (own_w26 hw) (by decide) (own_rm6_10 lch Z a0 hw [] ra33 rk33 _ T33.heap n0 G33_1) (by decide) (by decide) (by decide) (by decide) (lenOf own_pd2 rfl) rfl (by exact Nat.le_of_eq rfl) (hb hby own_d2_45) rfl ?_
  intro T38 Lc38 v38 X38 hQ38
  obtain ⟨rfl, Nq38, Kq38⟩ := hQ38
  have N38 := Fr.app N33 Nq38
  show own_Ends prg e below s _ _ _ T38 (mkF m 48 #[.val (.ref a), .val (.ref b), .val (.int (0 : Int32)), .val (.int (10 : Int32)), .val .null, .val (.ref ra33)] [(.int (0 : Int32)), (.ref a)])
  have f39 := (F1.keep Kq33 nin0)
  have f40 := (E0.keep Kq33)
  obtain ⟨T41, h41, X41, e41, W41, st41⟩ := putFN X38 hx hZ hown (own_w27 hw) Via.refl Kq38 f39 f40 (Or.inr ⟨(own_w28 hw), rfl, hnm⟩) (own_w3 hw) (ty := .byte) (v' := (.int (nar .byte (0 : Int32)))) (by decide) rfl (fits_nar_byte _) (g := (mkF m 48 #[.val (.ref a), .val (.ref b), .val (.int (0 : Int32)), .val (.int (10 : Int32)), .val .null, .val (.ref ra33)] [(.int (0 : Int32)), (.ref a)])) rfl rfl (hb hby own_d2_48)
  refine own_go st41 ?_
  have Fw41 := f39.same W41
  have N41 := Fr.snoc X41 N38 ge0
  show own_Ends prg e below s _ _ _ T41 (mkF m 51 #[.val (.ref a), .val (.ref b), .val (.int (0 : Int32)), .val (.int (10 : Int32)), .val .null, .val (.ref ra33)] [])
  refine own_aloadN (pc' := 52) X41 hx (hb hby own_d2_51) rfl rfl rfl ?_
  refine own_aload (pc' := 54) X41 hx (hb hby own_d2_52) rfl rfl rfl ?_
  have f42 := ((F0.keep Kq33 nin0).other W41 (Or.inr (slot_ne (Or.inr (own_w30 hw)) (Or.inr (own_w28 hw)) (by decide) (t := (.array .byte)) (t' := .byte) (by decide) (by decide))))
  have f43 := (f40.wr W41)
  obtain ⟨T44, h44, X44, e44, W44, st44⟩ := putF X41 hx hZ hown (host := "") (Or.inl (own_w29 hw)) Via.refl e41 f42 f43 (Or.inr ⟨(own_w30 hw), rfl, hnm⟩) (own_w3 hw) (ty := (.array .byte)) (by decide) rfl rfl (g := (mkF m 54 #[.val (.ref a), .val (.ref b), .val (.int (0 : Int32)), .val (.int (10 : Int32)), .val .null, .val (.ref ra33)] [(.ref ra33), (.ref a)])) rfl rfl (hb hby own_d2_54)
  refine own_go st44 ?_
  have Fw44 := f42.same W44
  have N44 := Fr.snoc X44 N41 ge0
  show own_Ends prg e below s _ _ _ T44 (mkF m 57 #[.val (.ref a), .val (.ref b), .val (.int (0 : Int32)), .val (.int (10 : Int32)), .val .null, .val (.ref ra33)] [])
  refine own_retV X44 hx hlk hret (hb hby own_d2_57) (by decide) (by decide) ?_
  have f45 := (Fw41.other W44 (Or.inr (slot_ne (Or.inr (own_w28 hw)) (Or.inr (own_w30 hw)) (by decide) (t := .byte) (t' := (.array .byte)) (by decide) (by decide))))
  have f46 := ((G33_1.other W41 (Ne.symm ne36)).other W44 (Ne.symm ne36))
  have f47 := (((K0.trans Kq33 all0).wr W41 (Or.inl (List.mem_of_getElem? (i := 0) rfl))).wr W44 (Or.inl (List.mem_of_getElem? (i := 0) rfl)))
  rw [e44]; exact ⟨_, _, rfl, N44, f47, sz35, Fw44, f45, f46⟩
def own_room2_11 : Room := { frames := 2, cells := 1, slots := 11, locals := 35 }
def own_Q2_11 (Z : State) (a : Addr) (b : Addr) (bk : ClassId) (x0 : Int32) (x1 : Int32) (x2 : Int32) (x3 : Int32) (x4 : Int32) (x5 : Int32) (x6 : Int32) (x7 : Int32) (x8 : Int32) (x9 : Int32) (x10 : Int32) (u0 : Value) (u1 : Value) (i : Int32) (h0 : Heap) (n0 : Nat) (v : Option Value) (h : Heap) (L : List Loc) : Prop := ∃ (vb : Addr) (vk : ClassId), v = none ∧ Fr n0 L ∧ Keep h0 h [a] ∧ h0.size ≤ vb ∧ Fld Z h a "java/lang/String" "value" "[B" (.ref vb) ∧ Fld Z h a "java/lang/String" "coder" "B" (.int (0 : Int32)) ∧ Arv Z h vb vk .byte (11 : Int32) [(.int (own_byt x0)), (.int (own_byt x1)), (.int (own_byt x2)), (.int (own_byt x3)), (.int (own_byt x4)), (.int (own_byt x5)), (.int (own_byt x6)), (.int (own_byt x7)), (.int (own_byt x8)), (.int (own_byt x9)), (.int (own_byt x10))] (.int (0 : Int32))
theorem own_ef_rm2_11 (m : MethodId) (x0 : Addr) (x1 : Addr) (x2 : Int32) (x3 : Int32) : entryFrame m #[(.ref x0), (.ref x1), (.int x2), (.int x3), .null] 6 = mkF m 0 #[.val (.ref x0), .val (.ref x1), .val (.int x2), .val (.int x3), .val .null, .unset] [] := by first | (simp [entryFrame, mkF, argsToLocals, Value.category]; done) | rfl
set_option maxRecDepth 65536 in
set_option maxHeartbeats 40000000 in
theorem own_rm2_11 (lch : Launch) (Z : State) (a0 : Array Value) (hw : ∀ d ∈ tables_1, d.before a0 Z = true) (ws : List Jvm.Cond) (a : Addr) (b : Addr) (bk : ClassId) (x0 : Int32) (x1 : Int32) (x2 : Int32) (x3 : Int32) (x4 : Int32) (x5 : Int32) (x6 : Int32) (x7 : Int32) (x8 : Int32) (x9 : Int32) (x10 : Int32) (u0 : Value) (u1 : Value) (i : Int32) (h0 : Heap) (n0 : Nat) (Z0 : n0 ≤ h0.size) (E0 : Exa Z h0 a "java/lang/String") (F0 : Fld Z h0 a "java/lang/String" "value" "[B" u0) (F1 : Fld Z h0 a "java/lang/String" "coder" "B" u1) (ge0 : n0 ≤ a) (V0 : Arv Z h0 b bk .char (11 : Int32) [(.int x0), (.int x1), (.int x2), (.int x3), (.int x4), (.int x5), (.int x6), (.int x7), (.int x8), (.int x9), (.int x10)] (.int (0 : Int32))) (nab : a ≠ b) (S0 : Sta Z h0 "java/lang/String" "COMPACT_STRINGS" "Z" (.int i)) (hi : ¬ i = (0 : Int32)) (rx0 : own_R x0) (rx1 : own_R x1) (rx2 : own_R x2) (rx3 : own_R x3) (rx4 : own_R x4) (rx5 : own_R x5) (rx6 : own_R x6) (rx7 : own_R x7) (rx8 : own_R x8) (rx9 : own_R x9) (rx10 : own_R x10) :
    MetFree lch (⟨"java/lang/String", "<init>", "([CIILjava/lang/Void;)V"⟩ : MethodName) (head1 (Jvm.Cond.code (⟨"java/lang/String", "<init>", "([CIILjava/lang/Void;)V"⟩ : MethodName) jdk_42_method_149_code 6 none :: ws) own_room2_11) (fun zz U => zz = #[(.ref a), (.ref b), (.int (0 : Int32)), (.int (11 : Int32)), .null] ∧ Z.Warmed39 U.vm ∧ U.heap = h0) (fun _ _ _ _ _ => True) (fun _ U o U' => ∃ v L, o = .returned v ∧ own_Q2_11 Z a b bk x0 x1 x2 x3 x4 x5 x6 x7 x8 x9 x10 u0 u1 i h0 n0 v U'.heap L ∧ FrameEnd U o U' L own_room2_11.cells own_room2_11.slots) := by
  refine MetFree.of_bodySF (plainFor_of_name own_pn2) hisR ?_
  intro prg e s m args below meth c s₁ Bd hml0 hP hK
  obtain ⟨rfl, hZ, hh⟩ := hP
  have hx := Bd.exec
  have hby := Bd.bytes
  have hml : c.maxLocals = 6 := hml0
  have hown : s.vm.findClass "java/lang/String" = some m.cls := findClass_of_methodNamed Bd.named
  have hnm := (name_of_methodNamed Bd.named Bd.method).1
  have hlk : meth.locks = false := BodyLoose.notSynchronized Bd
  have hret := Bd.returns
  have X0 : Stand prg lch e own_room2_11 s m #[(.ref a), (.ref b), (.int (0 : Int32)), (.int (11 : Int32)), .null] below meth c s₁ [] 0 0 := Stand.of_body Bd
  have e0 : s₁.heap = h0 := by rw [← hh, Bd.state]; rfl
  have N0 := Fr.nil n0
  show own_Ends prg e below s (own_Q2_11 Z a b bk x0 x1 x2 x3 x4 x5 x6 x7 x8 x9 x10 u0 u1 i h0 n0) own_room2_11.cells own_room2_11.slots s₁ (entryFrame m #[(.ref a), (.ref b), (.int (0 : Int32)), (.int (11 : Int32)), .null] 6)
  refine own_cast (own_ef_rm2_11 m a b (0 : Int32) (11 : Int32)) ?_
  have K0 := Keep.refl h0 ([a] : List Addr)
  refine own_aloadN (pc' := 1) X0 hx (hb hby own_d2_0) rfl rfl rfl ?_
  obtain ⟨T31, X31, e31, st31⟩ := initO X0 hx hZ hown (own_w12 hw) (own_w13 hw) (own_w14 hw) e0 (g := (mkF m 1 #[.val (.ref a), .val (.ref b), .val (.int (0 : Int32)), .val (.int (11 : Int32)), .val .null, .unset] [(.ref a)])) rfl (by rw [hml]; rfl) rfl (hb hby own_d2_1) (by decide) (W := 0) (by show 2 * 0 + _ ≤ _; exact Nat.le_of_eq rfl) (by decide)
  refine own_go st31 ?_
  show own_Ends prg e below s _ _ _ T31 (mkF m 4 #[.val (.ref a), .val (.ref b), .val (.int (0 : Int32)), .val (.int (11 : Int32)), .val .null, .unset] [])
  refine own_iloadN (pc' := 5) X31 hx (hb hby own_d2_4) rfl rfl ?_
  refine own_ifYes (pc' := 27) X31 hx (hb hby own_d2_5) (feq (by decide)).2 (by decide) (by decide) ?_
  obtain ⟨T32, X32, e32, st32⟩ := getS2 X31 hx hZ hown (host := "") (Or.inl (own_w15 hw)) Via.refl e31 S0 (g := (mkF m 27 #[.val (.ref a), .val (.ref b), .val (.int (0 : Int32)), .val (.int (11 : Int32)), .val .null, .unset] [])) rfl (hb hby own_d2_27)
  refine own_go st32 ?_
  show own_Ends prg e below s _ _ _ T32 (mkF m 30 #[.val (.ref a), .val (.ref b), .val (.int (0 : Int32)), .val (.int (11 : Int32)), .val .null, .unset] [(.int i)])
  refine own_ifNo (pc' := 33) X32 hx (hb hby own_d2_30) rfl (feq hi).1 ?_
  refine own_aloadN (pc' := 34) X32 hx (hb hby own_d2_33) rfl rfl rfl ?_
  refine own_iloadN (pc' := 35) X32 hx (hb hby own_d2_34) rfl rfl ?_
  refine own_iloadN (pc' := 36) X32 hx (hb hby own_d2_35) rfl rfl ?_
  refine own_callS (pc' := 39) (y := (⟨"java/lang/StringUTF16", "compress", "([CII)[B"⟩ : MethodName)) (W := 0) (rm := own_room4_11) (argsL := [(.ref b), (.int (0 : Int32)), (.int (11 : Int32))]) (rest := []) X32 hx hZ e32 hown (by rw [hml]; rfl) (own_w16 hw) (own_w17 hw) (own_w18 hw) (own_w19 hw) (by decide) (own_rm4_11 lch Z a0 hw [] b bk x0 x1 x2 x3 x4 x5 x6 x7 x8 x9 x10 h0 n0 Z0 V0 rx0 rx1 rx2 rx3 rx4 rx5 rx6 rx7 rx8 rx9 rx10) (by decide) (by decide) (by decide) (by decide) (lenOf own_pd1 rfl) rfl (by exact Nat.le_of_eq rfl) (hb hby own_d2_36) rfl ?_
  intro T33 Lc33 v33 X33 hQ33
  obtain ⟨ra33, rk33, rfl, Nq33, Kq33, G33_0, G33_1⟩ := hQ33
  have N33 := Fr.app N0 Nq33
  have ge34 : n0 ≤ ra33 := Nat.le_trans Z0 G33_0
  have sz35 : h0.size ≤ ra33 := Nat.le_trans K0.1 G33_0
  have ne36 : a ≠ ra33 := Nat.ne_of_lt (Nat.lt_of_lt_of_le E0.lt G33_0)
  have ne37 : b ≠ ra33 := Nat.ne_of_lt (Nat.lt_of_lt_of_le V0.lt G33_0)
  show own_Ends prg e below s _ _ _ T33 (mkF m 39 #[.val (.ref a), .val (.ref b), .val (.int (0 : Int32)), .val (.int (11 : Int32)), .val .null, .unset] [(.ref ra33)])
  refine own_astore (pc' := 41) (l' := #[.val (.ref a), .val (.ref b), .val (.int (0 : Int32)), .val (.int (11 : Int32)), .val .null, .val (.ref ra33)]) X33 hx (hb hby own_d2_39) rfl rfl rfl ?_
  refine own_aloadN (pc' := 42) X33 hx (hb hby own_d2_41) rfl rfl rfl ?_
  refine own_aload (pc' := 44) X33 hx (hb hby own_d2_42) rfl rfl rfl ?_
  refine own_iloadN (pc' := 45) X33 hx (hb hby own_d2_44) rfl rfl ?_
  refine own_callS (pc' := 48) (y := (⟨"java/lang/StringUTF16", "coderFromArrayLen", "([BI)B"⟩ : MethodName)) (W := 1) (rm := own_room6_11) (argsL := [(.ref ra33), (.int (11 : Int32))]) (rest := [(.ref a)]) X33 hx hZ rfl hown (by rw [hml]; rfl) (own_w24 hw) (own_w25 hw) (own_w18 hw) (own_w26 hw) (by decide) (own_rm6_11 lch Z a0 hw [] ra33 rk33 _ T33.heap n0 G33_1) (by decide) (by decide) (by decide) (by decide) (lenOf own_pd2 rfl) rfl (by exact Nat.le_of_eq rfl) (hb hby own_d2_45) rfl ?_
  intro T38 Lc38 v38 X38 hQ38
  obtain ⟨rfl, Nq38, Kq38⟩ := hQ38
  have N38 := Fr.app N33 Nq38
  show own_Ends prg e below s _ _ _ T38 (mkF m 48 #[.val (.ref a), .val (.ref b), .val (.int (0 : Int32)), .val (.int (11 : Int32)), .val .null, .val (.ref ra33)] [(.int (0 : Int32)), (.ref a)])
  have f39 := (F1.keep Kq33 nin0)
  have f40 := (E0.keep Kq33)
  obtain ⟨T41, h41, X41, e41, W41, st41⟩ := putFN X38 hx hZ hown (own_w27 hw) Via.refl Kq38 f39 f40 (Or.inr ⟨(own_w28 hw), rfl, hnm⟩) (own_w3 hw) (ty := .byte) (v' := (.int (nar .byte (0 : Int32)))) (by decide) rfl (fits_nar_byte _) (g := (mkF m 48 #[.val (.ref a), .val (.ref b), .val (.int (0 : Int32)), .val (.int (11 : Int32)), .val .null, .val (.ref ra33)] [(.int (0 : Int32)), (.ref a)])) rfl rfl (hb hby own_d2_48)
  refine own_go st41 ?_
  have Fw41 := f39.same W41
  have N41 := Fr.snoc X41 N38 ge0
  show own_Ends prg e below s _ _ _ T41 (mkF m 51 #[.val (.ref a), .val (.ref b), .val (.int (0 : Int32)), .val (.int (11 : Int32)), .val .null, .val (.ref ra33)] [])
  refine own_aloadN (pc' := 52) X41 hx (hb hby own_d2_51) rfl rfl rfl ?_
  refine own_aload (pc' := 54) X41 hx (hb hby own_d2_52) rfl rfl rfl ?_
  have f42 := ((F0.keep Kq33 nin0).other W41 (Or.inr (slot_ne (Or.inr (own_w30 hw)) (Or.inr (own_w28 hw)) (by decide) (t := (.array .byte)) (t' := .byte) (by decide) (by decide))))
  have f43 := (f40.wr W41)
  obtain ⟨T44, h44, X44, e44, W44, st44⟩ := putF X41 hx hZ hown (host := "") (Or.inl (own_w29 hw)) Via.refl e41 f42 f43 (Or.inr ⟨(own_w30 hw), rfl, hnm⟩) (own_w3 hw) (ty := (.array .byte)) (by decide) rfl rfl (g := (mkF m 54 #[.val (.ref a), .val (.ref b), .val (.int (0 : Int32)), .val (.int (11 : Int32)), .val .null, .val (.ref ra33)] [(.ref ra33), (.ref a)])) rfl rfl (hb hby own_d2_54)
  refine own_go st44 ?_
  have Fw44 := f42.same W44
  have N44 := Fr.snoc X44 N41 ge0
  show own_Ends prg e below s _ _ _ T44 (mkF m 57 #[.val (.ref a), .val (.ref b), .val (.int (0 : Int32)), .val (.int (11 : Int32)), .val .null, .val (.ref ra33)] [])
  refine own_retV X44 hx hlk hret (hb hby own_d2_57) (by decide) (by decide) ?_
  have f45 := (Fw41.other W44 (Or.inr (slot_ne (Or.inr (own_w28 hw)) (Or.inr (own_w30 hw)) (by decide) (t := .byte) (t' := (.array .byte)) (by decide) (by decide))))
  have f46 := ((G33_1.other W41 (Ne.symm ne36)).other W44 (Ne.symm ne36))
  have f47 := (((K0.trans Kq33 all0).wr W41 (Or.inl (List.mem_of_getElem? (i := 0) rfl))).wr W44 (Or.inl (List.mem_of_getElem? (i := 0) rfl)))
  rw [e44]; exact ⟨_, _, rfl, N44, f47, sz35, Fw44, f45, f46⟩
def own_room1_9 : Room := { frames := 3, cells := 1, slots := 9, locals := 52 }
def own_Q1_9 (Z : State) (a : Addr) (b : Addr) (bk : ClassId) (x0 : Int32) (x1 : Int32) (x2 : Int32) (x3 : Int32) (x4 : Int32) (x5 : Int32) (x6 : Int32) (x7 : Int32) (x8 : Int32) (u0 : Value) (u1 : Value) (i : Int32) (h0 : Heap) (n0 : Nat) (v : Option Value) (h : Heap) (L : List Loc) : Prop := ∃ (vb : Addr) (vk : ClassId), v = none ∧ Fr n0 L ∧ Keep h0 h [a] ∧ h0.size ≤ vb ∧ Fld Z h a "java/lang/String" "value" "[B" (.ref vb) ∧ Fld Z h a "java/lang/String" "coder" "B" (.int (0 : Int32)) ∧ Arv Z h vb vk .byte (9 : Int32) [(.int (own_byt x0)), (.int (own_byt x1)), (.int (own_byt x2)), (.int (own_byt x3)), (.int (own_byt x4)), (.int (own_byt x5)), (.int (own_byt x6)), (.int (own_byt x7)), (.int (own_byt x8))] (.int (0 : Int32))
theorem own_ef_rm1_9 (m : MethodId) (x0 : Addr) (x1 : Addr) : entryFrame m #[(.ref x0), (.ref x1)] 2 = mkF m 0 #[.val (.ref x0), .val (.ref x1)] [] := by first | (simp [entryFrame, mkF, argsToLocals, Value.category]; done) | rfl
set_option maxRecDepth 65536 in
set_option maxHeartbeats 40000000 in
theorem own_rm1_9 (lch : Launch) (Z : State) (a0 : Array Value) (hw : ∀ d ∈ tables_1, d.before a0 Z = true) (ws : List Jvm.Cond) (a : Addr) (b : Addr) (bk : ClassId) (x0 : Int32) (x1 : Int32) (x2 : Int32) (x3 : Int32) (x4 : Int32) (x5 : Int32) (x6 : Int32) (x7 : Int32) (x8 : Int32) (u0 : Value) (u1 : Value) (i : Int32) (h0 : Heap) (n0 : Nat) (Z0 : n0 ≤ h0.size) (E0 : Exa Z h0 a "java/lang/String") (F0 : Fld Z h0 a "java/lang/String" "value" "[B" u0) (F1 : Fld Z h0 a "java/lang/String" "coder" "B" u1) (ge0 : n0 ≤ a) (V0 : Arv Z h0 b bk .char (9 : Int32) [(.int x0), (.int x1), (.int x2), (.int x3), (.int x4), (.int x5), (.int x6), (.int x7), (.int x8)] (.int (0 : Int32))) (nab : a ≠ b) (S0 : Sta Z h0 "java/lang/String" "COMPACT_STRINGS" "Z" (.int i)) (hi : ¬ i = (0 : Int32)) (rx0 : own_R x0) (rx1 : own_R x1) (rx2 : own_R x2) (rx3 : own_R x3) (rx4 : own_R x4) (rx5 : own_R x5) (rx6 : own_R x6) (rx7 : own_R x7) (rx8 : own_R x8) :
    MetFree lch (⟨"java/lang/String", "<init>", "([C)V"⟩ : MethodName) (head1 (Jvm.Cond.code (⟨"java/lang/String", "<init>", "([C)V"⟩ : MethodName) jdk_42_method_3_code 2 none :: ws) own_room1_9) (fun zz U => zz = #[(.ref a), (.ref b)] ∧ Z.Warmed39 U.vm ∧ U.heap = h0) (fun _ _ _ _ _ => True) (fun _ U o U' => ∃ v L, o = .returned v ∧ own_Q1_9 Z a b bk x0 x1 x2 x3 x4 x5 x6 x7 x8 u0 u1 i h0 n0 v U'.heap L ∧ FrameEnd U o U' L own_room1_9.cells own_room1_9.slots) := by
  refine MetFree.of_bodySF (plainFor_of_name own_pn2) hisR ?_
  intro prg e s m args below meth c s₁ Bd hml0 hP hK
  obtain ⟨rfl, hZ, hh⟩ := hP
  have hx := Bd.exec
  have hby := Bd.bytes
  have hml : c.maxLocals = 2 := hml0
  have hown : s.vm.findClass "java/lang/String" = some m.cls := findClass_of_methodNamed Bd.named
  have hnm := (name_of_methodNamed Bd.named Bd.method).1
  have hlk : meth.locks = false := BodyLoose.notSynchronized Bd
  have hret := Bd.returns
  have X0 : Stand prg lch e own_room1_9 s m #[(.ref a), (.ref b)] below meth c s₁ [] 0 0 := Stand.of_body Bd
  have e0 : s₁.heap = h0 := by rw [← hh, Bd.state]; rfl
  have N0 := Fr.nil n0
  show own_Ends prg e below s (own_Q1_9 Z a b bk x0 x1 x2 x3 x4 x5 x6 x7 x8 u0 u1 i h0 n0) own_room1_9.cells own_room1_9.slots s₁ (entryFrame m #[(.ref a), (.ref b)] 2)
  refine own_cast (own_ef_rm1_9 m a b) ?_
  have K0 := Keep.refl h0 ([a] : List Addr)
  refine own_aloadN (pc' := 1) X0 hx (hb hby own_d1_0) rfl rfl rfl ?_
  refine own_aloadN (pc' := 2) X0 hx (hb hby own_d1_1) rfl rfl rfl ?_
  refine own_iconst (pc' := 3) (z := (0 : Int32)) X0 hx (hb hby own_d1_2) rfl rfl ?_
  refine own_aloadN (pc' := 4) X0 hx (hb hby own_d1_3) rfl rfl rfl ?_
  refine own_alen (pc' := 5) X0 hx hZ e0 V0 (hb hby own_d1_4) rfl ?_
  refine own_anull (pc' := 6) X0 hx (hb hby own_d1_5) rfl ?_
  refine own_callC (pc' := 9) (y := (⟨"java/lang/String", "<init>", "([CIILjava/lang/Void;)V"⟩ : MethodName)) (W := 0) (rm := own_room2_9) (argsL := [(.ref b), (.int (0 : Int32)), (.int (9 : Int32)), .null]) (rest := []) (b := a) X0 hx hZ e0 hown (by rw [hml]; rfl) rfl rfl (own_w8 hw) (own_w9 hw) (own_w4 hw) (own_w11 hw) (by decide) (own_rm2_9 lch Z a0 hw [] a b bk x0 x1 x2 x3 x4 x5 x6 x7 x8 _ _ i h0 n0 Z0 E0 F0 F1 ge0 V0 nab S0 hi rx0 rx1 rx2 rx3 rx4 rx5 rx6 rx7 rx8) (by decide) (by decide) (by decide) (by decide) (lenOf own_pd3 rfl) rfl (by exact Nat.le_of_eq rfl) (hb hby own_d1_6) rfl ?_
  intro T31 Lc31 v31 X31 hQ31
  obtain ⟨vb31, vk31, rfl, Nq31, Kq31, G31_0, G31_1, G31_2, G31_3⟩ := hQ31
  have N31 := Fr.app N0 Nq31
  have ge32 : n0 ≤ vb31 := Nat.le_trans Z0 G31_0
  have sz33 : h0.size ≤ vb31 := Nat.le_trans K0.1 G31_0
  have ne34 : a ≠ vb31 := Nat.ne_of_lt (Nat.lt_of_lt_of_le E0.lt G31_0)
  have ne35 : b ≠ vb31 := Nat.ne_of_lt (Nat.lt_of_lt_of_le V0.lt G31_0)
  show own_Ends prg e below s _ _ _ T31 (mkF m 9 #[.val (.ref a), .val (.ref b)] [])
  refine own_retV X31 hx hlk hret (hb hby own_d1_9) (by decide) (by decide) ?_
  have f36 := (K0.trans Kq31 (allS (Or.inl (List.mem_of_getElem? (i := 0) rfl)) all0))
  exact ⟨_, _, rfl, N31, f36, sz33, G31_1, G31_2, G31_3⟩
def own_room1_10 : Room := { frames := 3, cells := 1, slots := 10, locals := 52 }
def own_Q1_10 (Z : State) (a : Addr) (b : Addr) (bk : ClassId) (x0 : Int32) (x1 : Int32) (x2 : Int32) (x3 : Int32) (x4 : Int32) (x5 : Int32) (x6 : Int32) (x7 : Int32) (x8 : Int32) (x9 : Int32) (u0 : Value) (u1 : Value) (i : Int32) (h0 : Heap) (n0 : Nat) (v : Option Value) (h : Heap) (L : List Loc) : Prop := ∃ (vb : Addr) (vk : ClassId), v = none ∧ Fr n0 L ∧ Keep h0 h [a] ∧ h0.size ≤ vb ∧ Fld Z h a "java/lang/String" "value" "[B" (.ref vb) ∧ Fld Z h a "java/lang/String" "coder" "B" (.int (0 : Int32)) ∧ Arv Z h vb vk .byte (10 : Int32) [(.int (own_byt x0)), (.int (own_byt x1)), (.int (own_byt x2)), (.int (own_byt x3)), (.int (own_byt x4)), (.int (own_byt x5)), (.int (own_byt x6)), (.int (own_byt x7)), (.int (own_byt x8)), (.int (own_byt x9))] (.int (0 : Int32))
theorem own_ef_rm1_10 (m : MethodId) (x0 : Addr) (x1 : Addr) : entryFrame m #[(.ref x0), (.ref x1)] 2 = mkF m 0 #[.val (.ref x0), .val (.ref x1)] [] := by first | (simp [entryFrame, mkF, argsToLocals, Value.category]; done) | rfl
set_option maxRecDepth 65536 in
set_option maxHeartbeats 40000000 in
theorem own_rm1_10 (lch : Launch) (Z : State) (a0 : Array Value) (hw : ∀ d ∈ tables_1, d.before a0 Z = true) (ws : List Jvm.Cond) (a : Addr) (b : Addr) (bk : ClassId) (x0 : Int32) (x1 : Int32) (x2 : Int32) (x3 : Int32) (x4 : Int32) (x5 : Int32) (x6 : Int32) (x7 : Int32) (x8 : Int32) (x9 : Int32) (u0 : Value) (u1 : Value) (i : Int32) (h0 : Heap) (n0 : Nat) (Z0 : n0 ≤ h0.size) (E0 : Exa Z h0 a "java/lang/String") (F0 : Fld Z h0 a "java/lang/String" "value" "[B" u0) (F1 : Fld Z h0 a "java/lang/String" "coder" "B" u1) (ge0 : n0 ≤ a) (V0 : Arv Z h0 b bk .char (10 : Int32) [(.int x0), (.int x1), (.int x2), (.int x3), (.int x4), (.int x5), (.int x6), (.int x7), (.int x8), (.int x9)] (.int (0 : Int32))) (nab : a ≠ b) (S0 : Sta Z h0 "java/lang/String" "COMPACT_STRINGS" "Z" (.int i)) (hi : ¬ i = (0 : Int32)) (rx0 : own_R x0) (rx1 : own_R x1) (rx2 : own_R x2) (rx3 : own_R x3) (rx4 : own_R x4) (rx5 : own_R x5) (rx6 : own_R x6) (rx7 : own_R x7) (rx8 : own_R x8) (rx9 : own_R x9) :
    MetFree lch (⟨"java/lang/String", "<init>", "([C)V"⟩ : MethodName) (head1 (Jvm.Cond.code (⟨"java/lang/String", "<init>", "([C)V"⟩ : MethodName) jdk_42_method_3_code 2 none :: ws) own_room1_10) (fun zz U => zz = #[(.ref a), (.ref b)] ∧ Z.Warmed39 U.vm ∧ U.heap = h0) (fun _ _ _ _ _ => True) (fun _ U o U' => ∃ v L, o = .returned v ∧ own_Q1_10 Z a b bk x0 x1 x2 x3 x4 x5 x6 x7 x8 x9 u0 u1 i h0 n0 v U'.heap L ∧ FrameEnd U o U' L own_room1_10.cells own_room1_10.slots) := by
  refine MetFree.of_bodySF (plainFor_of_name own_pn2) hisR ?_
  intro prg e s m args below meth c s₁ Bd hml0 hP hK
  obtain ⟨rfl, hZ, hh⟩ := hP
  have hx := Bd.exec
  have hby := Bd.bytes
  have hml : c.maxLocals = 2 := hml0
  have hown : s.vm.findClass "java/lang/String" = some m.cls := findClass_of_methodNamed Bd.named
  have hnm := (name_of_methodNamed Bd.named Bd.method).1
  have hlk : meth.locks = false := BodyLoose.notSynchronized Bd
  have hret := Bd.returns
  have X0 : Stand prg lch e own_room1_10 s m #[(.ref a), (.ref b)] below meth c s₁ [] 0 0 := Stand.of_body Bd
  have e0 : s₁.heap = h0 := by rw [← hh, Bd.state]; rfl
  have N0 := Fr.nil n0
  show own_Ends prg e below s (own_Q1_10 Z a b bk x0 x1 x2 x3 x4 x5 x6 x7 x8 x9 u0 u1 i h0 n0) own_room1_10.cells own_room1_10.slots s₁ (entryFrame m #[(.ref a), (.ref b)] 2)
  refine own_cast (own_ef_rm1_10 m a b) ?_
  have K0 := Keep.refl h0 ([a] : List Addr)
  refine own_aloadN (pc' := 1) X0 hx (hb hby own_d1_0) rfl rfl rfl ?_
  refine own_aloadN (pc' := 2) X0 hx (hb hby own_d1_1) rfl rfl rfl ?_
  refine own_iconst (pc' := 3) (z := (0 : Int32)) X0 hx (hb hby own_d1_2) rfl rfl ?_
  refine own_aloadN (pc' := 4) X0 hx (hb hby own_d1_3) rfl rfl rfl ?_
  refine own_alen (pc' := 5) X0 hx hZ e0 V0 (hb hby own_d1_4) rfl ?_
  refine own_anull (pc' := 6) X0 hx (hb hby own_d1_5) rfl ?_
  refine own_callC (pc' := 9) (y := (⟨"java/lang/String", "<init>", "([CIILjava/lang/Void;)V"⟩ : MethodName)) (W := 0) (rm := own_room2_10) (argsL := [(.ref b), (.int (0 : Int32)), (.int (10 : Int32)), .null]) (rest := []) (b := a) X0 hx hZ e0 hown (by rw [hml]; rfl) rfl rfl (own_w8 hw) (own_w9 hw) (own_w4 hw) (own_w11 hw) (by decide) (own_rm2_10 lch Z a0 hw [] a b bk x0 x1 x2 x3 x4 x5 x6 x7 x8 x9 _ _ i h0 n0 Z0 E0 F0 F1 ge0 V0 nab S0 hi rx0 rx1 rx2 rx3 rx4 rx5 rx6 rx7 rx8 rx9) (by decide) (by decide) (by decide) (by decide) (lenOf own_pd3 rfl) rfl (by exact Nat.le_of_eq rfl) (hb hby own_d1_6) rfl ?_
  intro T31 Lc31 v31 X31 hQ31
  obtain ⟨vb31, vk31, rfl, Nq31, Kq31, G31_0, G31_1, G31_2, G31_3⟩ := hQ31
  have N31 := Fr.app N0 Nq31
  have ge32 : n0 ≤ vb31 := Nat.le_trans Z0 G31_0
  have sz33 : h0.size ≤ vb31 := Nat.le_trans K0.1 G31_0
  have ne34 : a ≠ vb31 := Nat.ne_of_lt (Nat.lt_of_lt_of_le E0.lt G31_0)
  have ne35 : b ≠ vb31 := Nat.ne_of_lt (Nat.lt_of_lt_of_le V0.lt G31_0)
  show own_Ends prg e below s _ _ _ T31 (mkF m 9 #[.val (.ref a), .val (.ref b)] [])
  refine own_retV X31 hx hlk hret (hb hby own_d1_9) (by decide) (by decide) ?_
  have f36 := (K0.trans Kq31 (allS (Or.inl (List.mem_of_getElem? (i := 0) rfl)) all0))
  exact ⟨_, _, rfl, N31, f36, sz33, G31_1, G31_2, G31_3⟩
def own_room1_11 : Room := { frames := 3, cells := 1, slots := 11, locals := 52 }
def own_Q1_11 (Z : State) (a : Addr) (b : Addr) (bk : ClassId) (x0 : Int32) (x1 : Int32) (x2 : Int32) (x3 : Int32) (x4 : Int32) (x5 : Int32) (x6 : Int32) (x7 : Int32) (x8 : Int32) (x9 : Int32) (x10 : Int32) (u0 : Value) (u1 : Value) (i : Int32) (h0 : Heap) (n0 : Nat) (v : Option Value) (h : Heap) (L : List Loc) : Prop := ∃ (vb : Addr) (vk : ClassId), v = none ∧ Fr n0 L ∧ Keep h0 h [a] ∧ h0.size ≤ vb ∧ Fld Z h a "java/lang/String" "value" "[B" (.ref vb) ∧ Fld Z h a "java/lang/String" "coder" "B" (.int (0 : Int32)) ∧ Arv Z h vb vk .byte (11 : Int32) [(.int (own_byt x0)), (.int (own_byt x1)), (.int (own_byt x2)), (.int (own_byt x3)), (.int (own_byt x4)), (.int (own_byt x5)), (.int (own_byt x6)), (.int (own_byt x7)), (.int (own_byt x8)), (.int (own_byt x9)), (.int (own_byt x10))] (.int (0 : Int32))
theorem own_ef_rm1_11 (m : MethodId) (x0 : Addr) (x1 : Addr) : entryFrame m #[(.ref x0), (.ref x1)] 2 = mkF m 0 #[.val (.ref x0), .val (.ref x1)] [] := by first | (simp [entryFrame, mkF, argsToLocals, Value.category]; done) | rfl
set_option maxRecDepth 65536 in
set_option maxHeartbeats 40000000 in
theorem own_rm1_11 (lch : Launch) (Z : State) (a0 : Array Value) (hw : ∀ d ∈ tables_1, d.before a0 Z = true) (ws : List Jvm.Cond) (a : Addr) (b : Addr) (bk : ClassId) (x0 : Int32) (x1 : Int32) (x2 : Int32) (x3 : Int32) (x4 : Int32) (x5 : Int32) (x6 : Int32) (x7 : Int32) (x8 : Int32) (x9 : Int32) (x10 : Int32) (u0 : Value) (u1 : Value) (i : Int32) (h0 : Heap) (n0 : Nat) (Z0 : n0 ≤ h0.size) (E0 : Exa Z h0 a "java/lang/String") (F0 : Fld Z h0 a "java/lang/String" "value" "[B" u0) (F1 : Fld Z h0 a "java/lang/String" "coder" "B" u1) (ge0 : n0 ≤ a) (V0 : Arv Z h0 b bk .char (11 : Int32) [(.int x0), (.int x1), (.int x2), (.int x3), (.int x4), (.int x5), (.int x6), (.int x7), (.int x8), (.int x9), (.int x10)] (.int (0 : Int32))) (nab : a ≠ b) (S0 : Sta Z h0 "java/lang/String" "COMPACT_STRINGS" "Z" (.int i)) (hi : ¬ i = (0 : Int32)) (rx0 : own_R x0) (rx1 : own_R x1) (rx2 : own_R x2) (rx3 : own_R x3) (rx4 : own_R x4) (rx5 : own_R x5) (rx6 : own_R x6) (rx7 : own_R x7) (rx8 : own_R x8) (rx9 : own_R x9) (rx10 : own_R x10) :
    MetFree lch (⟨"java/lang/String", "<init>", "([C)V"⟩ : MethodName) (head1 (Jvm.Cond.code (⟨"java/lang/String", "<init>", "([C)V"⟩ : MethodName) jdk_42_method_3_code 2 none :: ws) own_room1_11) (fun zz U => zz = #[(.ref a), (.ref b)] ∧ Z.Warmed39 U.vm ∧ U.heap = h0) (fun _ _ _ _ _ => True) (fun _ U o U' => ∃ v L, o = .returned v ∧ own_Q1_11 Z a b bk x0 x1 x2 x3 x4 x5 x6 x7 x8 x9 x10 u0 u1 i h0 n0 v U'.heap L ∧ FrameEnd U o U' L own_room1_11.cells own_room1_11.slots) := by
  refine MetFree.of_bodySF (plainFor_of_name own_pn2) hisR ?_
  intro prg e s m args below meth c s₁ Bd hml0 hP hK
  obtain ⟨rfl, hZ, hh⟩ := hP
  have hx := Bd.exec
  have hby := Bd.bytes
  have hml : c.maxLocals = 2 := hml0
  have hown : s.vm.findClass "java/lang/String" = some m.cls := findClass_of_methodNamed Bd.named
  have hnm := (name_of_methodNamed Bd.named Bd.method).1
  have hlk : meth.locks = false := BodyLoose.notSynchronized Bd
  have hret := Bd.returns
  have X0 : Stand prg lch e own_room1_11 s m #[(.ref a), (.ref b)] below meth c s₁ [] 0 0 := Stand.of_body Bd
  have e0 : s₁.heap = h0 := by rw [← hh, Bd.state]; rfl
  have N0 := Fr.nil n0
  show own_Ends prg e below s (own_Q1_11 Z a b bk x0 x1 x2 x3 x4 x5 x6 x7 x8 x9 x10 u0 u1 i h0 n0) own_room1_11.cells own_room1_11.slots s₁ (entryFrame m #[(.ref a), (.ref b)] 2)
  refine own_cast (own_ef_rm1_11 m a b) ?_
  have K0 := Keep.refl h0 ([a] : List Addr)
  refine own_aloadN (pc' := 1) X0 hx (hb hby own_d1_0) rfl rfl rfl ?_
  refine own_aloadN (pc' := 2) X0 hx (hb hby own_d1_1) rfl rfl rfl ?_
  refine own_iconst (pc' := 3) (z := (0 : Int32)) X0 hx (hb hby own_d1_2) rfl rfl ?_
  refine own_aloadN (pc' := 4) X0 hx (hb hby own_d1_3) rfl rfl rfl ?_
  refine own_alen (pc' := 5) X0 hx hZ e0 V0 (hb hby own_d1_4) rfl ?_
  refine own_anull (pc' := 6) X0 hx (hb hby own_d1_5) rfl ?_
  refine own_callC (pc' := 9) (y := (⟨"java/lang/String", "<init>", "([CIILjava/lang/Void;)V"⟩ : MethodName)) (W := 0) (rm := own_room2_11) (argsL := [(.ref b), (.int (0 : Int32)), (.int (11 : Int32)), .null]) (rest := []) (b := a) X0 hx hZ e0 hown (by rw [hml]; rfl) rfl rfl (own_w8 hw) (own_w9 hw) (own_w4 hw) (own_w11 hw) (by decide) (own_rm2_11 lch Z a0 hw [] a b bk x0 x1 x2 x3 x4 x5 x6 x7 x8 x9 x10 _ _ i h0 n0 Z0 E0 F0 F1 ge0 V0 nab S0 hi rx0 rx1 rx2 rx3 rx4 rx5 rx6 rx7 rx8 rx9 rx10) (by decide) (by decide) (by decide) (by decide) (lenOf own_pd3 rfl) rfl (by exact Nat.le_of_eq rfl) (hb hby own_d1_6) rfl ?_
  intro T31 Lc31 v31 X31 hQ31
  obtain ⟨vb31, vk31, rfl, Nq31, Kq31, G31_0, G31_1, G31_2, G31_3⟩ := hQ31
  have N31 := Fr.app N0 Nq31
  have ge32 : n0 ≤ vb31 := Nat.le_trans Z0 G31_0
  have sz33 : h0.size ≤ vb31 := Nat.le_trans K0.1 G31_0
  have ne34 : a ≠ vb31 := Nat.ne_of_lt (Nat.lt_of_lt_of_le E0.lt G31_0)
  have ne35 : b ≠ vb31 := Nat.ne_of_lt (Nat.lt_of_lt_of_le V0.lt G31_0)
  show own_Ends prg e below s _ _ _ T31 (mkF m 9 #[.val (.ref a), .val (.ref b)] [])
  refine own_retV X31 hx hlk hret (hb hby own_d1_9) (by decide) (by decide) ?_
  have f36 := (K0.trans Kq31 (allS (Or.inl (List.mem_of_getElem? (i := 0) rfl)) all0))
  exact ⟨_, _, rfl, N31, f36, sz33, G31_1, G31_2, G31_3⟩
def own_room13 : Room := { frames := 0, cells := 0, slots := 0, locals := 0 }
def own_Q13 (Z : State) (a : Addr) (i : Int32) (h0 : Heap) (n0 : Nat) (v : Option Value) (h : Heap) (L : List Loc) : Prop := v = some (.int (0 : Int32)) ∧ Fr n0 L ∧ h = h0
theorem own_ef_rm13 (m : MethodId) (x0 : Addr) : entryFrame m #[(.ref x0)] 1 = mkF m 0 #[.val (.ref x0)] [] := by first | (simp [entryFrame, mkF, argsToLocals, Value.category]; done) | rfl
set_option maxRecDepth 65536 in
set_option maxHeartbeats 40000000 in
theorem own_rm13 (lch : Launch) (Z : State) (a0 : Array Value) (hw : ∀ d ∈ tables_1, d.before a0 Z = true) (ws : List Jvm.Cond) (a : Addr) (i : Int32) (h0 : Heap) (n0 : Nat) (F0 : Fld Z h0 a "java/lang/String" "coder" "B" (.int (0 : Int32))) (S0 : Sta Z h0 "java/lang/String" "COMPACT_STRINGS" "Z" (.int i)) (hi : ¬ i = (0 : Int32)) :
    MetFree lch (⟨"java/lang/String", "coder", "()B"⟩ : MethodName) (head1 (Jvm.Cond.code (⟨"java/lang/String", "coder", "()B"⟩ : MethodName) jdk_42_method_152_code 1 (some .byte) :: ws) own_room13) (fun zz U => zz = #[(.ref a)] ∧ Z.Warmed39 U.vm ∧ U.heap = h0) (fun _ _ _ _ _ => True) (fun _ U o U' => ∃ v L, o = .returned v ∧ own_Q13 Z a i h0 n0 v U'.heap L ∧ FrameEnd U o U' L own_room13.cells own_room13.slots) := by
  refine MetFree.of_bodySF (plainFor_of_name own_pn2) hisR ?_
  intro prg e s m args below meth c s₁ Bd hml0 hP hK
  obtain ⟨rfl, hZ, hh⟩ := hP
  have hx := Bd.exec
  have hby := Bd.bytes
  have hml : c.maxLocals = 1 := hml0
  have hown : s.vm.findClass "java/lang/String" = some m.cls := findClass_of_methodNamed Bd.named
  have hnm := (name_of_methodNamed Bd.named Bd.method).1
  have hlk : meth.locks = false := BodyLoose.notSynchronized Bd
  have hret := Bd.returns
  have X0 : Stand prg lch e own_room13 s m #[(.ref a)] below meth c s₁ [] 0 0 := Stand.of_body Bd
  have e0 : s₁.heap = h0 := by rw [← hh, Bd.state]; rfl
  have N0 := Fr.nil n0
  show own_Ends prg e below s (own_Q13 Z a i h0 n0) own_room13.cells own_room13.slots s₁ (entryFrame m #[(.ref a)] 1)
  refine own_cast (own_ef_rm13 m a) ?_
  obtain ⟨T31, X31, e31, st31⟩ := getS2 X0 hx hZ hown (host := "") (Or.inl (own_w15 hw)) Via.refl e0 S0 (g := (mkF m 0 #[.val (.ref a)] [])) rfl (hb hby own_d13_0)
  refine own_go st31 ?_
  show own_Ends prg e below s _ _ _ T31 (mkF m 3 #[.val (.ref a)] [(.int i)])
  refine own_ifNo (pc' := 6) X31 hx (hb hby own_d13_3) rfl (feq hi).1 ?_
  refine own_aloadN (pc' := 7) X31 hx (hb hby own_d13_6) rfl rfl rfl ?_
  obtain ⟨T32, X32, e32, st32⟩ := getF X31 hx hZ hown (host := "") (Or.inl (own_w27 hw)) Via.refl e31 F0 (g := (mkF m 7 #[.val (.ref a)] [(.ref a)])) rfl rfl (hb hby own_d13_7)
  refine own_go st32 ?_
  show own_Ends prg e below s _ _ _ T32 (mkF m 10 #[.val (.ref a)] [(.int (0 : Int32))])
  refine own_goto (pc' := 14) X32 hx (hb hby own_d13_10) (by decide) (by decide) ?_
  refine own_retN X32 hx hlk hret (by simp) (hb hby own_d13_14) (by decide) (by decide) ?_
  exact ⟨rfl, N0, e32⟩
def own_room17 : Room := { frames := 0, cells := 0, slots := 0, locals := 0 }
def own_Q17 (Z : State) (a : Addr) (i : Int32) (h0 : Heap) (n0 : Nat) (v : Option Value) (h : Heap) (L : List Loc) : Prop := v = some (.int (1 : Int32)) ∧ Fr n0 L ∧ h = h0
theorem own_ef_rm17 (m : MethodId) (x0 : Addr) : entryFrame m #[(.ref x0)] 1 = mkF m 0 #[.val (.ref x0)] [] := by first | (simp [entryFrame, mkF, argsToLocals, Value.category]; done) | rfl
set_option maxRecDepth 65536 in
set_option maxHeartbeats 40000000 in
theorem own_rm17 (lch : Launch) (Z : State) (a0 : Array Value) (hw : ∀ d ∈ tables_1, d.before a0 Z = true) (ws : List Jvm.Cond) (a : Addr) (i : Int32) (h0 : Heap) (n0 : Nat) (F0 : Fld Z h0 a "java/lang/String" "coder" "B" (.int (0 : Int32))) (S0 : Sta Z h0 "java/lang/String" "COMPACT_STRINGS" "Z" (.int i)) (hi : ¬ i = (0 : Int32)) :
    MetFree lch (⟨"java/lang/String", "isLatin1", "()Z"⟩ : MethodName) (head1 (Jvm.Cond.code (⟨"java/lang/String", "isLatin1", "()Z"⟩ : MethodName) jdk_42_method_154_code 1 (some .boolean) :: ws) own_room17) (fun zz U => zz = #[(.ref a)] ∧ Z.Warmed39 U.vm ∧ U.heap = h0) (fun _ _ _ _ _ => True) (fun _ U o U' => ∃ v L, o = .returned v ∧ own_Q17 Z a i h0 n0 v U'.heap L ∧ FrameEnd U o U' L own_room17.cells own_room17.slots) := by
  refine MetFree.of_bodySF (plainFor_of_name own_pn2) hisR ?_
  intro prg e s m args below meth c s₁ Bd hml0 hP hK
  obtain ⟨rfl, hZ, hh⟩ := hP
  have hx := Bd.exec
  have hby := Bd.bytes
  have hml : c.maxLocals = 1 := hml0
  have hown : s.vm.findClass "java/lang/String" = some m.cls := findClass_of_methodNamed Bd.named
  have hnm := (name_of_methodNamed Bd.named Bd.method).1
  have hlk : meth.locks = false := BodyLoose.notSynchronized Bd
  have hret := Bd.returns
  have X0 : Stand prg lch e own_room17 s m #[(.ref a)] below meth c s₁ [] 0 0 := Stand.of_body Bd
  have e0 : s₁.heap = h0 := by rw [← hh, Bd.state]; rfl
  have N0 := Fr.nil n0
  show own_Ends prg e below s (own_Q17 Z a i h0 n0) own_room17.cells own_room17.slots s₁ (entryFrame m #[(.ref a)] 1)
  refine own_cast (own_ef_rm17 m a) ?_
  obtain ⟨T31, X31, e31, st31⟩ := getS2 X0 hx hZ hown (host := "") (Or.inl (own_w15 hw)) Via.refl e0 S0 (g := (mkF m 0 #[.val (.ref a)] [])) rfl (hb hby own_d17_0)
  refine own_go st31 ?_
  show own_Ends prg e below s _ _ _ T31 (mkF m 3 #[.val (.ref a)] [(.int i)])
  refine own_ifNo (pc' := 6) X31 hx (hb hby own_d17_3) rfl (feq hi).1 ?_
  refine own_aloadN (pc' := 7) X31 hx (hb hby own_d17_6) rfl rfl rfl ?_
  obtain ⟨T32, X32, e32, st32⟩ := getF X31 hx hZ hown (host := "") (Or.inl (own_w27 hw)) Via.refl e31 F0 (g := (mkF m 7 #[.val (.ref a)] [(.ref a)])) rfl rfl (hb hby own_d17_7)
  refine own_go st32 ?_
  show own_Ends prg e below s _ _ _ T32 (mkF m 10 #[.val (.ref a)] [(.int (0 : Int32))])
  refine own_ifNo (pc' := 13) X32 hx (hb hby own_d17_10) rfl (teq (by decide)).2 ?_
  refine own_iconst (pc' := 14) (z := (1 : Int32)) X32 hx (hb hby own_d17_13) rfl rfl ?_
  refine own_goto (pc' := 18) X32 hx (hb hby own_d17_14) (by decide) (by decide) ?_
  refine own_retN X32 hx hlk hret (by simp) (hb hby own_d17_18) (by decide) (by decide) ?_
  exact ⟨rfl, N0, e32⟩
def own_room12_9 : Room := { frames := 1, cells := 0, slots := 0, locals := 13 }
def own_Q12_9 (Z : State) (a : Addr) (i : Int32) (vb : Addr) (vk : ClassId) (vs : List Value) (h0 : Heap) (n0 : Nat) (v : Option Value) (h : Heap) (L : List Loc) : Prop := v = some (.int (9 : Int32)) ∧ Fr n0 L ∧ h = h0
theorem own_ef_rm12_9 (m : MethodId) (x0 : Addr) : entryFrame m #[(.ref x0)] 1 = mkF m 0 #[.val (.ref x0)] [] := by first | (simp [entryFrame, mkF, argsToLocals, Value.category]; done) | rfl
set_option maxRecDepth 65536 in
set_option maxHeartbeats 40000000 in
theorem own_rm12_9 (lch : Launch) (Z : State) (a0 : Array Value) (hw : ∀ d ∈ tables_1, d.before a0 Z = true) (ws : List Jvm.Cond) (a : Addr) (i : Int32) (vb : Addr) (vk : ClassId) (vs : List Value) (h0 : Heap) (n0 : Nat) (F0 : Fld Z h0 a "java/lang/String" "coder" "B" (.int (0 : Int32))) (S0 : Sta Z h0 "java/lang/String" "COMPACT_STRINGS" "Z" (.int i)) (hi : ¬ i = (0 : Int32)) (G0 : Exa Z h0 a "java/lang/String") (F1 : Fld Z h0 a "java/lang/String" "value" "[B" (.ref vb)) (V0 : Arv Z h0 vb vk .byte (9 : Int32) vs (.int (0 : Int32))) :
    MetFree lch (⟨"java/lang/String", "length", "()I"⟩ : MethodName) (head1 (Jvm.Cond.code (⟨"java/lang/String", "length", "()I"⟩ : MethodName) jdk_42_method_54_code 1 (some .int) :: ws) own_room12_9) (fun zz U => zz = #[(.ref a)] ∧ Z.Warmed39 U.vm ∧ U.heap = h0) (fun _ _ _ _ _ => True) (fun _ U o U' => ∃ v L, o = .returned v ∧ own_Q12_9 Z a i vb vk vs h0 n0 v U'.heap L ∧ FrameEnd U o U' L own_room12_9.cells own_room12_9.slots) := by
  refine MetFree.of_bodySF (plainFor_of_name own_pn2) hisR ?_
  intro prg e s m args below meth c s₁ Bd hml0 hP hK
  obtain ⟨rfl, hZ, hh⟩ := hP
  have hx := Bd.exec
  have hby := Bd.bytes
  have hml : c.maxLocals = 1 := hml0
  have hown : s.vm.findClass "java/lang/String" = some m.cls := findClass_of_methodNamed Bd.named
  have hnm := (name_of_methodNamed Bd.named Bd.method).1
  have hlk : meth.locks = false := BodyLoose.notSynchronized Bd
  have hret := Bd.returns
  have X0 : Stand prg lch e own_room12_9 s m #[(.ref a)] below meth c s₁ [] 0 0 := Stand.of_body Bd
  have e0 : s₁.heap = h0 := by rw [← hh, Bd.state]; rfl
  have N0 := Fr.nil n0
  show own_Ends prg e below s (own_Q12_9 Z a i vb vk vs h0 n0) own_room12_9.cells own_room12_9.slots s₁ (entryFrame m #[(.ref a)] 1)
  refine own_cast (own_ef_rm12_9 m a) ?_
  refine own_aloadN (pc' := 1) X0 hx (hb hby own_d12_0) rfl rfl rfl ?_
  obtain ⟨T31, X31, e31, st31⟩ := getF X0 hx hZ hown (host := "") (Or.inl (own_w29 hw)) Via.refl e0 F1 (g := (mkF m 1 #[.val (.ref a)] [(.ref a)])) rfl rfl (hb hby own_d12_1)
  refine own_go st31 ?_
  show own_Ends prg e below s _ _ _ T31 (mkF m 4 #[.val (.ref a)] [(.ref vb)])
  refine own_alen (pc' := 5) X31 hx hZ e31 V0 (hb hby own_d12_4) rfl ?_
  refine own_aloadN (pc' := 6) X31 hx (hb hby own_d12_5) rfl rfl rfl ?_
  refine own_callV (pc' := 9) (y := (⟨"java/lang/String", "coder", "()B"⟩ : MethodName)) (W := 1) (rm := own_room13) (argsL := []) (rest := [(.int (9 : Int32))]) (b := a) (C := "java/lang/String") X31 hx hZ e31 hown (by rw [hml]; rfl) G0 (own_w53 hw) (own_w54 hw) (own_w56 hw) (own_w55 hw) (own_w4 hw) (own_w57 hw) (by decide) (own_rm13 lch Z a0 hw [] a i h0 n0 F0 S0 hi) (by decide) (by decide) (by decide) (by decide) (lenOf own_pd4 rfl) rfl (by exact Nat.le_of_eq rfl) (hb hby own_d12_6) rfl ?_
  intro T32 Lc32 v32 X32 hQ32
  obtain ⟨rfl, Nq32, Kq32⟩ := hQ32
  have N32 := Fr.app N0 Nq32
  show own_Ends prg e below s _ _ _ T32 (mkF m 9 #[.val (.ref a)] [(.int (0 : Int32)), (.int (9 : Int32))])
  refine own_ishr (pc' := 10) (z := (9 : Int32)) X32 hx (hb hby own_d12_9) rfl (by decide) ?_
  refine own_retI X32 hx hlk hret (hb hby own_d12_10) (by decide) (by decide) ?_
  exact ⟨rfl, N32, Kq32⟩
def own_room12_10 : Room := { frames := 1, cells := 0, slots := 0, locals := 13 }
def own_Q12_10 (Z : State) (a : Addr) (i : Int32) (vb : Addr) (vk : ClassId) (vs : List Value) (h0 : Heap) (n0 : Nat) (v : Option Value) (h : Heap) (L : List Loc) : Prop := v = some (.int (10 : Int32)) ∧ Fr n0 L ∧ h = h0
theorem own_ef_rm12_10 (m : MethodId) (x0 : Addr) : entryFrame m #[(.ref x0)] 1 = mkF m 0 #[.val (.ref x0)] [] := by first | (simp [entryFrame, mkF, argsToLocals, Value.category]; done) | rfl
set_option maxRecDepth 65536 in
set_option maxHeartbeats 40000000 in
theorem own_rm12_10 (lch : Launch) (Z : State) (a0 : Array Value) (hw : ∀ d ∈ tables_1, d.before a0 Z = true) (ws : List Jvm.Cond) (a : Addr) (i : Int32) (vb : Addr) (vk : ClassId) (vs : List Value) (h0 : Heap) (n0 : Nat) (F0 : Fld Z h0 a "java/lang/String" "coder" "B" (.int (0 : Int32))) (S0 : Sta Z h0 "java/lang/String" "COMPACT_STRINGS" "Z" (.int i)) (hi : ¬ i = (0 : Int32)) (G0 : Exa Z h0 a "java/lang/String") (F1 : Fld Z h0 a "java/lang/String" "value" "[B" (.ref vb)) (V0 : Arv Z h0 vb vk .byte (10 : Int32) vs (.int (0 : Int32))) :
    MetFree lch (⟨"java/lang/String", "length", "()I"⟩ : MethodName) (head1 (Jvm.Cond.code (⟨"java/lang/String", "length", "()I"⟩ : MethodName) jdk_42_method_54_code 1 (some .int) :: ws) own_room12_10) (fun zz U => zz = #[(.ref a)] ∧ Z.Warmed39 U.vm ∧ U.heap = h0) (fun _ _ _ _ _ => True) (fun _ U o U' => ∃ v L, o = .returned v ∧ own_Q12_10 Z a i vb vk vs h0 n0 v U'.heap L ∧ FrameEnd U o U' L own_room12_10.cells own_room12_10.slots) := by
  refine MetFree.of_bodySF (plainFor_of_name own_pn2) hisR ?_
  intro prg e s m args below meth c s₁ Bd hml0 hP hK
  obtain ⟨rfl, hZ, hh⟩ := hP
  have hx := Bd.exec
  have hby := Bd.bytes
  have hml : c.maxLocals = 1 := hml0
  have hown : s.vm.findClass "java/lang/String" = some m.cls := findClass_of_methodNamed Bd.named
  have hnm := (name_of_methodNamed Bd.named Bd.method).1
  have hlk : meth.locks = false := BodyLoose.notSynchronized Bd
  have hret := Bd.returns
  have X0 : Stand prg lch e own_room12_10 s m #[(.ref a)] below meth c s₁ [] 0 0 := Stand.of_body Bd
  have e0 : s₁.heap = h0 := by rw [← hh, Bd.state]; rfl
  have N0 := Fr.nil n0
  show own_Ends prg e below s (own_Q12_10 Z a i vb vk vs h0 n0) own_room12_10.cells own_room12_10.slots s₁ (entryFrame m #[(.ref a)] 1)
  refine own_cast (own_ef_rm12_10 m a) ?_
  refine own_aloadN (pc' := 1) X0 hx (hb hby own_d12_0) rfl rfl rfl ?_
  obtain ⟨T31, X31, e31, st31⟩ := getF X0 hx hZ hown (host := "") (Or.inl (own_w29 hw)) Via.refl e0 F1 (g := (mkF m 1 #[.val (.ref a)] [(.ref a)])) rfl rfl (hb hby own_d12_1)
  refine own_go st31 ?_
  show own_Ends prg e below s _ _ _ T31 (mkF m 4 #[.val (.ref a)] [(.ref vb)])
  refine own_alen (pc' := 5) X31 hx hZ e31 V0 (hb hby own_d12_4) rfl ?_
  refine own_aloadN (pc' := 6) X31 hx (hb hby own_d12_5) rfl rfl rfl ?_
  refine own_callV (pc' := 9) (y := (⟨"java/lang/String", "coder", "()B"⟩ : MethodName)) (W := 1) (rm := own_room13) (argsL := []) (rest := [(.int (10 : Int32))]) (b := a) (C := "java/lang/String") X31 hx hZ e31 hown (by rw [hml]; rfl) G0 (own_w53 hw) (own_w54 hw) (own_w56 hw) (own_w55 hw) (own_w4 hw) (own_w57 hw) (by decide) (own_rm13 lch Z a0 hw [] a i h0 n0 F0 S0 hi) (by decide) (by decide) (by decide) (by decide) (lenOf own_pd4 rfl) rfl (by exact Nat.le_of_eq rfl) (hb hby own_d12_6) rfl ?_
  intro T32 Lc32 v32 X32 hQ32
  obtain ⟨rfl, Nq32, Kq32⟩ := hQ32
  have N32 := Fr.app N0 Nq32
  show own_Ends prg e below s _ _ _ T32 (mkF m 9 #[.val (.ref a)] [(.int (0 : Int32)), (.int (10 : Int32))])
  refine own_ishr (pc' := 10) (z := (10 : Int32)) X32 hx (hb hby own_d12_9) rfl (by decide) ?_
  refine own_retI X32 hx hlk hret (hb hby own_d12_10) (by decide) (by decide) ?_
  exact ⟨rfl, N32, Kq32⟩
def own_room12_11 : Room := { frames := 1, cells := 0, slots := 0, locals := 13 }
def own_Q12_11 (Z : State) (a : Addr) (i : Int32) (vb : Addr) (vk : ClassId) (vs : List Value) (h0 : Heap) (n0 : Nat) (v : Option Value) (h : Heap) (L : List Loc) : Prop := v = some (.int (11 : Int32)) ∧ Fr n0 L ∧ h = h0
theorem own_ef_rm12_11 (m : MethodId) (x0 : Addr) : entryFrame m #[(.ref x0)] 1 = mkF m 0 #[.val (.ref x0)] [] := by first | (simp [entryFrame, mkF, argsToLocals, Value.category]; done) | rfl
set_option maxRecDepth 65536 in
set_option maxHeartbeats 40000000 in
theorem own_rm12_11 (lch : Launch) (Z : State) (a0 : Array Value) (hw : ∀ d ∈ tables_1, d.before a0 Z = true) (ws : List Jvm.Cond) (a : Addr) (i : Int32) (vb : Addr) (vk : ClassId) (vs : List Value) (h0 : Heap) (n0 : Nat) (F0 : Fld Z h0 a "java/lang/String" "coder" "B" (.int (0 : Int32))) (S0 : Sta Z h0 "java/lang/String" "COMPACT_STRINGS" "Z" (.int i)) (hi : ¬ i = (0 : Int32)) (G0 : Exa Z h0 a "java/lang/String") (F1 : Fld Z h0 a "java/lang/String" "value" "[B" (.ref vb)) (V0 : Arv Z h0 vb vk .byte (11 : Int32) vs (.int (0 : Int32))) :
    MetFree lch (⟨"java/lang/String", "length", "()I"⟩ : MethodName) (head1 (Jvm.Cond.code (⟨"java/lang/String", "length", "()I"⟩ : MethodName) jdk_42_method_54_code 1 (some .int) :: ws) own_room12_11) (fun zz U => zz = #[(.ref a)] ∧ Z.Warmed39 U.vm ∧ U.heap = h0) (fun _ _ _ _ _ => True) (fun _ U o U' => ∃ v L, o = .returned v ∧ own_Q12_11 Z a i vb vk vs h0 n0 v U'.heap L ∧ FrameEnd U o U' L own_room12_11.cells own_room12_11.slots) := by
  refine MetFree.of_bodySF (plainFor_of_name own_pn2) hisR ?_
  intro prg e s m args below meth c s₁ Bd hml0 hP hK
  obtain ⟨rfl, hZ, hh⟩ := hP
  have hx := Bd.exec
  have hby := Bd.bytes
  have hml : c.maxLocals = 1 := hml0
  have hown : s.vm.findClass "java/lang/String" = some m.cls := findClass_of_methodNamed Bd.named
  have hnm := (name_of_methodNamed Bd.named Bd.method).1
  have hlk : meth.locks = false := BodyLoose.notSynchronized Bd
  have hret := Bd.returns
  have X0 : Stand prg lch e own_room12_11 s m #[(.ref a)] below meth c s₁ [] 0 0 := Stand.of_body Bd
  have e0 : s₁.heap = h0 := by rw [← hh, Bd.state]; rfl
  have N0 := Fr.nil n0
  show own_Ends prg e below s (own_Q12_11 Z a i vb vk vs h0 n0) own_room12_11.cells own_room12_11.slots s₁ (entryFrame m #[(.ref a)] 1)
  refine own_cast (own_ef_rm12_11 m a) ?_
  refine own_aloadN (pc' := 1) X0 hx (hb hby own_d12_0) rfl rfl rfl ?_
  obtain ⟨T31, X31, e31, st31⟩ := getF X0 hx hZ hown (host := "") (Or.inl (own_w29 hw)) Via.refl e0 F1 (g := (mkF m 1 #[.val (.ref a)] [(.ref a)])) rfl rfl (hb hby own_d12_1)
  refine own_go st31 ?_
  show own_Ends prg e below s _ _ _ T31 (mkF m 4 #[.val (.ref a)] [(.ref vb)])
  refine own_alen (pc' := 5) X31 hx hZ e31 V0 (hb hby own_d12_4) rfl ?_
  refine own_aloadN (pc' := 6) X31 hx (hb hby own_d12_5) rfl rfl rfl ?_
  refine own_callV (pc' := 9) (y := (⟨"java/lang/String", "coder", "()B"⟩ : MethodName)) (W := 1) (rm := own_room13) (argsL := []) (rest := [(.int (11 : Int32))]) (b := a) (C := "java/lang/String") X31 hx hZ e31 hown (by rw [hml]; rfl) G0 (own_w53 hw) (own_w54 hw) (own_w56 hw) (own_w55 hw) (own_w4 hw) (own_w57 hw) (by decide) (own_rm13 lch Z a0 hw [] a i h0 n0 F0 S0 hi) (by decide) (by decide) (by decide) (by decide) (lenOf own_pd4 rfl) rfl (by exact Nat.le_of_eq rfl) (hb hby own_d12_6) rfl ?_
  intro T32 Lc32 v32 X32 hQ32
  obtain ⟨rfl, Nq32, Kq32⟩ := hQ32
  have N32 := Fr.app N0 Nq32
  show own_Ends prg e below s _ _ _ T32 (mkF m 9 #[.val (.ref a)] [(.int (0 : Int32)), (.int (11 : Int32))])
  refine own_ishr (pc' := 10) (z := (11 : Int32)) X32 hx (hb hby own_d12_9) rfl (by decide) ?_
  refine own_retI X32 hx hlk hret (hb hby own_d12_10) (by decide) (by decide) ?_
  exact ⟨rfl, N32, Kq32⟩
def own_room20 : Room := { frames := 0, cells := 0, slots := 0, locals := 0 }
def own_Q20 (Z : State) (p0 : Int32) (wf : Value) (h0 : Heap) (n0 : Nat) (v : Option Value) (h : Heap) (L : List Loc) : Prop := v = some (.int p0) ∧ Fr n0 L ∧ h = h0
theorem own_ef_rm20 (m : MethodId) (x0 : Int32) (x1 : Int32) (x2 : Value) (hx2 : x2.isRef = true) : entryFrame m #[(.int x0), (.int x1), x2] 3 = mkF m 0 #[.val (.int x0), .val (.int x1), .val x2] [] := by cases x2 <;> first | (cases hx2; done) | (simp [entryFrame, mkF, argsToLocals, Value.category]; done) | rfl
set_option maxRecDepth 65536 in
set_option maxHeartbeats 40000000 in
theorem own_rm20 (lch : Launch) (Z : State) (a0 : Array Value) (hw : ∀ d ∈ tables_1, d.before a0 Z = true) (ws : List Jvm.Cond) (p0 : Int32) (wf : Value) (h0 : Heap) (n0 : Nat) (hwf : wf.isRef = true) (hj : ¬ p0 < (0 : Int32) ∧ p0 < (10 : Int32)) :
    MetFree lch (⟨"jdk/internal/util/Preconditions", "checkIndex", "(IILjava/util/function/BiFunction;)I"⟩ : MethodName) (head1 (Jvm.Cond.code (⟨"jdk/internal/util/Preconditions", "checkIndex", "(IILjava/util/function/BiFunction;)I"⟩ : MethodName) jdk_41_method_11_code 3 (some .int) :: ws) own_room20) (fun zz U => zz = #[(.int p0), (.int (10 : Int32)), wf] ∧ Z.Warmed39 U.vm ∧ U.heap = h0) (fun _ _ _ _ _ => True) (fun _ U o U' => ∃ v L, o = .returned v ∧ own_Q20 Z p0 wf h0 n0 v U'.heap L ∧ FrameEnd U o U' L own_room20.cells own_room20.slots) := by
  refine MetFree.of_bodySF (plainFor_of_name own_pn3) hisR ?_
  intro prg e s m args below meth c s₁ Bd hml0 hP hK
  obtain ⟨rfl, hZ, hh⟩ := hP
  have hx := Bd.exec
  have hby := Bd.bytes
  have hml : c.maxLocals = 3 := hml0
  have hown : s.vm.findClass "jdk/internal/util/Preconditions" = some m.cls := findClass_of_methodNamed Bd.named
  have hnm := (name_of_methodNamed Bd.named Bd.method).1
  have hlk : meth.locks = false := BodyLoose.notSynchronized Bd
  have hret := Bd.returns
  have X0 : Stand prg lch e own_room20 s m #[(.int p0), (.int (10 : Int32)), wf] below meth c s₁ [] 0 0 := Stand.of_body Bd
  have e0 : s₁.heap = h0 := by rw [← hh, Bd.state]; rfl
  have N0 := Fr.nil n0
  show own_Ends prg e below s (own_Q20 Z p0 wf h0 n0) own_room20.cells own_room20.slots s₁ (entryFrame m #[(.int p0), (.int (10 : Int32)), wf] 3)
  refine own_cast (own_ef_rm20 m p0 (10 : Int32) wf hwf) ?_
  refine own_iloadN (pc' := 1) X0 hx (hb hby own_d20_0) rfl rfl ?_
  refine own_ifNo (pc' := 4) X0 hx (hb hby own_d20_1) rfl (flt hj.1).1 ?_
  refine own_iloadN (pc' := 5) X0 hx (hb hby own_d20_4) rfl rfl ?_
  refine own_iloadN (pc' := 6) X0 hx (hb hby own_d20_5) rfl rfl ?_
  refine own_icmpYes (pc' := 16) X0 hx (hb hby own_d20_6) (tlt hj.2).1 (by decide) (by decide) ?_
  refine own_iloadN (pc' := 17) X0 hx (hb hby own_d20_16) rfl rfl ?_
  refine own_retI X0 hx hlk hret (hb hby own_d20_17) (by decide) (by decide) ?_
  exact ⟨rfl, N0, e0⟩
def own_room19 : Room := { frames := 1, cells := 0, slots := 0, locals := 14 }
def own_Q19 (Z : State) (p0 : Int32) (wf : Value) (h0 : Heap) (n0 : Nat) (v : Option Value) (h : Heap) (L : List Loc) : Prop := v = none ∧ Fr n0 L ∧ h = h0
theorem own_ef_rm19 (m : MethodId) (x0 : Int32) (x1 : Int32) : entryFrame m #[(.int x0), (.int x1)] 2 = mkF m 0 #[.val (.int x0), .val (.int x1)] [] := by first | (simp [entryFrame, mkF, argsToLocals, Value.category]; done) | rfl
set_option maxRecDepth 65536 in
set_option maxHeartbeats 40000000 in
theorem own_rm19 (lch : Launch) (Z : State) (a0 : Array Value) (hw : ∀ d ∈ tables_1, d.before a0 Z = true) (ws : List Jvm.Cond) (p0 : Int32) (wf : Value) (h0 : Heap) (n0 : Nat) (S1 : Sta Z h0 "jdk/internal/util/Preconditions" "SIOOBE_FORMATTER" "Ljava/util/function/BiFunction;" wf) (hwf : wf.isRef = true) (hj : ¬ p0 < (0 : Int32) ∧ p0 < (10 : Int32)) :
    MetFree lch (⟨"java/lang/String", "checkIndex", "(II)V"⟩ : MethodName) (head1 (Jvm.Cond.code (⟨"java/lang/String", "checkIndex", "(II)V"⟩ : MethodName) jdk_42_method_155_code 2 none :: ws) own_room19) (fun zz U => zz = #[(.int p0), (.int (10 : Int32))] ∧ Z.Warmed39 U.vm ∧ U.heap = h0) (fun _ _ _ _ _ => True) (fun _ U o U' => ∃ v L, o = .returned v ∧ own_Q19 Z p0 wf h0 n0 v U'.heap L ∧ FrameEnd U o U' L own_room19.cells own_room19.slots) := by
  refine MetFree.of_bodySF (plainFor_of_name own_pn2) hisR ?_
  intro prg e s m args below meth c s₁ Bd hml0 hP hK
  obtain ⟨rfl, hZ, hh⟩ := hP
  have hx := Bd.exec
  have hby := Bd.bytes
  have hml : c.maxLocals = 2 := hml0
  have hown : s.vm.findClass "java/lang/String" = some m.cls := findClass_of_methodNamed Bd.named
  have hnm := (name_of_methodNamed Bd.named Bd.method).1
  have hlk : meth.locks = false := BodyLoose.notSynchronized Bd
  have hret := Bd.returns
  have X0 : Stand prg lch e own_room19 s m #[(.int p0), (.int (10 : Int32))] below meth c s₁ [] 0 0 := Stand.of_body Bd
  have e0 : s₁.heap = h0 := by rw [← hh, Bd.state]; rfl
  have N0 := Fr.nil n0
  show own_Ends prg e below s (own_Q19 Z p0 wf h0 n0) own_room19.cells own_room19.slots s₁ (entryFrame m #[(.int p0), (.int (10 : Int32))] 2)
  refine own_cast (own_ef_rm19 m p0 (10 : Int32)) ?_
  refine own_iloadN (pc' := 1) X0 hx (hb hby own_d19_0) rfl rfl ?_
  refine own_iloadN (pc' := 2) X0 hx (hb hby own_d19_1) rfl rfl ?_
  obtain ⟨T31, X31, e31, st31⟩ := getS2 X0 hx hZ hown (host := "") (Or.inl (own_w81 hw)) Via.refl e0 S1 (g := (mkF m 2 #[.val (.int p0), .val (.int (10 : Int32))] [(.int (10 : Int32)), (.int p0)])) rfl (hb hby own_d19_2)
  refine own_go st31 ?_
  show own_Ends prg e below s _ _ _ T31 (mkF m 5 #[.val (.int p0), .val (.int (10 : Int32))] [wf, (.int (10 : Int32)), (.int p0)])
  refine own_callS (pc' := 8) (y := (⟨"jdk/internal/util/Preconditions", "checkIndex", "(IILjava/util/function/BiFunction;)I"⟩ : MethodName)) (W := 0) (rm := own_room20) (argsL := [(.int p0), (.int (10 : Int32)), wf]) (rest := []) X31 hx hZ e31 hown (by rw [hml]; rfl) (own_w83 hw) (own_w84 hw) (own_w82 hw) (own_w85 hw) (by decide) (own_rm20 lch Z a0 hw [] p0 wf h0 n0 hwf hj) (by decide) (by decide) (by decide) (by decide) (lenOf own_pd5 rfl) rfl (by exact Nat.le_of_eq rfl) (hb hby own_d19_5) rfl ?_
  intro T32 Lc32 v32 X32 hQ32
  obtain ⟨rfl, Nq32, Kq32⟩ := hQ32
  have N32 := Fr.app N0 Nq32
  show own_Ends prg e below s _ _ _ T32 (mkF m 8 #[.val (.int p0), .val (.int (10 : Int32))] [(.int p0)])
  refine own_pop (pc' := 9) X32 hx (hb hby own_d19_8) rfl rfl ?_
  refine own_retV X32 hx hlk hret (hb hby own_d19_9) (by decide) (by decide) ?_
  exact ⟨rfl, N32, Kq32⟩
def own_room18 : Room := { frames := 2, cells := 0, slots := 0, locals := 27 }
def own_Q18 (Z : State) (b : Addr) (p0 : Int32) (wf : Value) (bk : ClassId) (vs : List Value) (cc : Int32) (h0 : Heap) (n0 : Nat) (v : Option Value) (h : Heap) (L : List Loc) : Prop := v = some (.int cc) ∧ Fr n0 L ∧ h = h0
theorem own_ef_rm18 (m : MethodId) (x0 : Addr) (x1 : Int32) : entryFrame m #[(.ref x0), (.int x1)] 2 = mkF m 0 #[.val (.ref x0), .val (.int x1)] [] := by first | (simp [entryFrame, mkF, argsToLocals, Value.category]; done) | rfl
set_option maxRecDepth 65536 in
set_option maxHeartbeats 40000000 in
theorem own_rm18 (lch : Launch) (Z : State) (a0 : Array Value) (hw : ∀ d ∈ tables_1, d.before a0 Z = true) (ws : List Jvm.Cond) (b : Addr) (p0 : Int32) (wf : Value) (bk : ClassId) (vs : List Value) (cc : Int32) (h0 : Heap) (n0 : Nat) (S1 : Sta Z h0 "jdk/internal/util/Preconditions" "SIOOBE_FORMATTER" "Ljava/util/function/BiFunction;" wf) (hwf : wf.isRef = true) (hj : ¬ p0 < (0 : Int32) ∧ p0 < (10 : Int32)) (V0 : Arv Z h0 b bk .byte (10 : Int32) vs (.int (0 : Int32))) (hv : vs.getD p0.toNatClampNeg (.int (0 : Int32)) = .int (own_byt cc)) (hR : own_R cc) :
    MetFree lch (⟨"java/lang/StringLatin1", "charAt", "([BI)C"⟩ : MethodName) (head1 (Jvm.Cond.code (⟨"java/lang/StringLatin1", "charAt", "([BI)C"⟩ : MethodName) jdk_43_method_2_code 2 (some .char) :: ws) own_room18) (fun zz U => zz = #[(.ref b), (.int p0)] ∧ Z.Warmed39 U.vm ∧ U.heap = h0) (fun _ _ _ _ _ => True) (fun _ U o U' => ∃ v L, o = .returned v ∧ own_Q18 Z b p0 wf bk vs cc h0 n0 v U'.heap L ∧ FrameEnd U o U' L own_room18.cells own_room18.slots) := by
  refine MetFree.of_bodySF (plainFor_of_name own_pn4) hisR ?_
  intro prg e s m args below meth c s₁ Bd hml0 hP hK
  obtain ⟨rfl, hZ, hh⟩ := hP
  have hx := Bd.exec
  have hby := Bd.bytes
  have hml : c.maxLocals = 2 := hml0
  have hown : s.vm.findClass "java/lang/StringLatin1" = some m.cls := findClass_of_methodNamed Bd.named
  have hnm := (name_of_methodNamed Bd.named Bd.method).1
  have hlk : meth.locks = false := BodyLoose.notSynchronized Bd
  have hret := Bd.returns
  have X0 : Stand prg lch e own_room18 s m #[(.ref b), (.int p0)] below meth c s₁ [] 0 0 := Stand.of_body Bd
  have e0 : s₁.heap = h0 := by rw [← hh, Bd.state]; rfl
  have N0 := Fr.nil n0
  show own_Ends prg e below s (own_Q18 Z b p0 wf bk vs cc h0 n0) own_room18.cells own_room18.slots s₁ (entryFrame m #[(.ref b), (.int p0)] 2)
  refine own_cast (own_ef_rm18 m b p0) ?_
  refine own_iloadN (pc' := 1) X0 hx (hb hby own_d18_0) rfl rfl ?_
  refine own_aloadN (pc' := 2) X0 hx (hb hby own_d18_1) rfl rfl rfl ?_
  refine own_alen (pc' := 3) X0 hx hZ e0 V0 (hb hby own_d18_2) rfl ?_
  refine own_callS (pc' := 6) (y := (⟨"java/lang/String", "checkIndex", "(II)V"⟩ : MethodName)) (W := 0) (rm := own_room19) (argsL := [(.int p0), (.int (10 : Int32))]) (rest := []) X0 hx hZ e0 hown (by rw [hml]; rfl) (own_w78 hw) (own_w79 hw) (own_w4 hw) (own_w80 hw) (by decide) (own_rm19 lch Z a0 hw [] p0 wf h0 n0 S1 hwf hj) (by decide) (by decide) (by decide) (by decide) (lenOf own_pd6 rfl) rfl (by exact Nat.le_of_eq rfl) (hb hby own_d18_3) rfl ?_
  intro T31 Lc31 v31 X31 hQ31
  obtain ⟨rfl, Nq31, Kq31⟩ := hQ31
  have N31 := Fr.app N0 Nq31
  show own_Ends prg e below s _ _ _ T31 (mkF m 6 #[.val (.ref b), .val (.int p0)] [])
  refine own_aloadN (pc' := 7) X31 hx (hb hby own_d18_6) rfl rfl rfl ?_
  refine own_iloadN (pc' := 8) X31 hx (hb hby own_d18_7) rfl rfl ?_
  refine own_baload (pc' := 9) (v := (.int (own_byt cc))) X31 hx hZ Kq31 V0 (hb hby own_d18_8) rfl hj hv ?_
  refine own_sipush (pc' := 12) (z := (255 : Int32)) X31 hx (hb hby own_d18_9) rfl rfl ?_
  refine own_iand (pc' := 13) (z := ((own_byt cc) &&& (255 : Int32))) X31 hx (hb hby own_d18_12) rfl rfl ?_
  refine own_i2c (pc' := 14) (z := ((own_byt cc) &&& (255 : Int32)).toUInt32.toUInt16.toUInt32.toInt32) X31 hx (hb hby own_d18_13) rfl rfl ?_
  refine own_retN X31 hx hlk hret (by simp) (hb hby own_d18_14) (by decide) (by decide) ?_
  exact ⟨own_some (own_chr hR), N31, Kq31⟩
def own_room16 : Room := { frames := 3, cells := 0, slots := 0, locals := 40 }
def own_Q16 (Z : State) (a : Addr) (p0 : Int32) (i : Int32) (vb : Addr) (vk : ClassId) (vs : List Value) (wf : Value) (cc : Int32) (h0 : Heap) (n0 : Nat) (v : Option Value) (h : Heap) (L : List Loc) : Prop := v = some (.int cc) ∧ Fr n0 L ∧ h = h0
theorem own_ef_rm16 (m : MethodId) (x0 : Addr) (x1 : Int32) : entryFrame m #[(.ref x0), (.int x1)] 2 = mkF m 0 #[.val (.ref x0), .val (.int x1)] [] := by first | (simp [entryFrame, mkF, argsToLocals, Value.category]; done) | rfl
set_option maxRecDepth 65536 in
set_option maxHeartbeats 40000000 in
theorem own_rm16 (lch : Launch) (Z : State) (a0 : Array Value) (hw : ∀ d ∈ tables_1, d.before a0 Z = true) (ws : List Jvm.Cond) (a : Addr) (p0 : Int32) (i : Int32) (vb : Addr) (vk : ClassId) (vs : List Value) (wf : Value) (cc : Int32) (h0 : Heap) (n0 : Nat) (F0 : Fld Z h0 a "java/lang/String" "coder" "B" (.int (0 : Int32))) (S0 : Sta Z h0 "java/lang/String" "COMPACT_STRINGS" "Z" (.int i)) (hi : ¬ i = (0 : Int32)) (G0 : Exa Z h0 a "java/lang/String") (F1 : Fld Z h0 a "java/lang/String" "value" "[B" (.ref vb)) (V0 : Arv Z h0 vb vk .byte (10 : Int32) vs (.int (0 : Int32))) (S1 : Sta Z h0 "jdk/internal/util/Preconditions" "SIOOBE_FORMATTER" "Ljava/util/function/BiFunction;" wf) (hwf : wf.isRef = true) (hj : ¬ p0 < (0 : Int32) ∧ p0 < (10 : Int32)) (hv : vs.getD p0.toNatClampNeg (.int (0 : Int32)) = .int (own_byt cc)) (hR : own_R cc) :
    MetFree lch (⟨"java/lang/String", "charAt", "(I)C"⟩ : MethodName) (head1 (Jvm.Cond.code (⟨"java/lang/String", "charAt", "(I)C"⟩ : MethodName) jdk_42_method_56_code 2 (some .char) :: ws) own_room16) (fun zz U => zz = #[(.ref a), (.int p0)] ∧ Z.Warmed39 U.vm ∧ U.heap = h0) (fun _ _ _ _ _ => True) (fun _ U o U' => ∃ v L, o = .returned v ∧ own_Q16 Z a p0 i vb vk vs wf cc h0 n0 v U'.heap L ∧ FrameEnd U o U' L own_room16.cells own_room16.slots) := by
  refine MetFree.of_bodySF (plainFor_of_name own_pn2) hisR ?_
  intro prg e s m args below meth c s₁ Bd hml0 hP hK
  obtain ⟨rfl, hZ, hh⟩ := hP
  have hx := Bd.exec
  have hby := Bd.bytes
  have hml : c.maxLocals = 2 := hml0
  have hown : s.vm.findClass "java/lang/String" = some m.cls := findClass_of_methodNamed Bd.named
  have hnm := (name_of_methodNamed Bd.named Bd.method).1
  have hlk : meth.locks = false := BodyLoose.notSynchronized Bd
  have hret := Bd.returns
  have X0 : Stand prg lch e own_room16 s m #[(.ref a), (.int p0)] below meth c s₁ [] 0 0 := Stand.of_body Bd
  have e0 : s₁.heap = h0 := by rw [← hh, Bd.state]; rfl
  have N0 := Fr.nil n0
  show own_Ends prg e below s (own_Q16 Z a p0 i vb vk vs wf cc h0 n0) own_room16.cells own_room16.slots s₁ (entryFrame m #[(.ref a), (.int p0)] 2)
  refine own_cast (own_ef_rm16 m a p0) ?_
  refine own_aloadN (pc' := 1) X0 hx (hb hby own_d16_0) rfl rfl rfl ?_
  refine own_callV (pc' := 4) (y := (⟨"java/lang/String", "isLatin1", "()Z"⟩ : MethodName)) (W := 0) (rm := own_room17) (argsL := []) (rest := []) (b := a) (C := "java/lang/String") X0 hx hZ e0 hown (by rw [hml]; rfl) G0 (own_w69 hw) (own_w70 hw) (own_w72 hw) (own_w71 hw) (own_w4 hw) (own_w73 hw) (by decide) (own_rm17 lch Z a0 hw [] a i h0 n0 F0 S0 hi) (by decide) (by decide) (by decide) (by decide) (lenOf own_pd7 rfl) rfl (by exact Nat.le_of_eq rfl) (hb hby own_d16_1) rfl ?_
  intro T31 Lc31 v31 X31 hQ31
  obtain ⟨rfl, Nq31, Kq31⟩ := hQ31
  have N31 := Fr.app N0 Nq31
  show own_Ends prg e below s _ _ _ T31 (mkF m 4 #[.val (.ref a), .val (.int p0)] [(.int (1 : Int32))])
  refine own_ifNo (pc' := 7) X31 hx (hb hby own_d16_4) rfl (feq (by decide)).1 ?_
  refine own_aloadN (pc' := 8) X31 hx (hb hby own_d16_7) rfl rfl rfl ?_
  obtain ⟨T32, X32, e32, st32⟩ := getF X31 hx hZ hown (host := "") (Or.inl (own_w29 hw)) Via.refl Kq31 F1 (g := (mkF m 8 #[.val (.ref a), .val (.int p0)] [(.ref a)])) rfl rfl (hb hby own_d16_8)
  refine own_go st32 ?_
  show own_Ends prg e below s _ _ _ T32 (mkF m 11 #[.val (.ref a), .val (.int p0)] [(.ref vb)])
  refine own_iloadN (pc' := 12) X32 hx (hb hby own_d16_11) rfl rfl ?_
  refine own_callS (pc' := 15) (y := (⟨"java/lang/StringLatin1", "charAt", "([BI)C"⟩ : MethodName)) (W := 0) (rm := own_room18) (argsL := [(.ref vb), (.int p0)]) (rest := []) X32 hx hZ e32 hown (by rw [hml]; rfl) (own_w74 hw) (own_w75 hw) (own_w76 hw) (own_w77 hw) (by decide) (own_rm18 lch Z a0 hw [] vb p0 wf vk vs cc h0 n0 S1 hwf hj V0 hv hR) (by decide) (by decide) (by decide) (by decide) (lenOf own_pd8 rfl) rfl (by exact Nat.le_of_eq rfl) (hb hby own_d16_12) rfl ?_
  intro T33 Lc33 v33 X33 hQ33
  obtain ⟨rfl, Nq33, Kq33⟩ := hQ33
  have N33 := Fr.app N31 Nq33
  show own_Ends prg e below s _ _ _ T33 (mkF m 15 #[.val (.ref a), .val (.int p0)] [(.int cc)])
  refine own_retN X33 hx hlk hret (by simp) (hb hby own_d16_15) (by decide) (by decide) ?_
  exact ⟨own_some (own_narcs hR), N33, Kq33⟩
def own_room15_0 : Room := { frames := 4, cells := 0, slots := 0, locals := 53 }
def own_Q15_0 (Z : State) (a : Addr) (i : Int32) (vb : Addr) (vk : ClassId) (wf : Value) (c0 : Int32) (c1 : Int32) (c2 : Int32) (c3 : Int32) (c4 : Int32) (c5 : Int32) (c6 : Int32) (c7 : Int32) (c8 : Int32) (c9 : Int32) (h0 : Heap) (n0 : Nat) (v : Option Value) (h : Heap) (L : List Loc) : Prop := ∃ (r : Int32), v = some (.int r) ∧ Fr n0 L ∧ h = h0 ∧ ((48 ≤ c0.toInt ∧ c0.toInt ≤ 57) ∧ (48 ≤ c1.toInt ∧ c1.toInt ≤ 57) ∧ (48 ≤ c2.toInt ∧ c2.toInt ≤ 57) ∧ (48 ≤ c3.toInt ∧ c3.toInt ≤ 57) → r.toInt = 1000 * (c0.toInt - 48) + 100 * (c1.toInt - 48) + 10 * (c2.toInt - 48) + (c3.toInt - 48)) ∧ (¬ ((48 ≤ c0.toInt ∧ c0.toInt ≤ 57) ∧ (48 ≤ c1.toInt ∧ c1.toInt ≤ 57) ∧ (48 ≤ c2.toInt ∧ c2.toInt ≤ 57) ∧ (48 ≤ c3.toInt ∧ c3.toInt ≤ 57)) → r.toInt = -1)
theorem own_ef_rm15_0 (m : MethodId) (x0 : Addr) (x1 : Int32) (x2 : Int32) : entryFrame m #[(.ref x0), (.int x1), (.int x2)] 6 = mkF m 0 #[.val (.ref x0), .val (.int x1), .val (.int x2), .unset, .unset, .unset] [] := by first | (simp [entryFrame, mkF, argsToLocals, Value.category]; done) | rfl
set_option maxRecDepth 65536 in
set_option maxHeartbeats 40000000 in
theorem own_rm15_0 (lch : Launch) (Z : State) (a0 : Array Value) (hw : ∀ d ∈ tables_1, d.before a0 Z = true) (ws : List Jvm.Cond) (a : Addr) (i : Int32) (vb : Addr) (vk : ClassId) (wf : Value) (c0 : Int32) (c1 : Int32) (c2 : Int32) (c3 : Int32) (c4 : Int32) (c5 : Int32) (c6 : Int32) (c7 : Int32) (c8 : Int32) (c9 : Int32) (h0 : Heap) (n0 : Nat) (F0 : Fld Z h0 a "java/lang/String" "coder" "B" (.int (0 : Int32))) (S0 : Sta Z h0 "java/lang/String" "COMPACT_STRINGS" "Z" (.int i)) (hi : ¬ i = (0 : Int32)) (G0 : Exa Z h0 a "java/lang/String") (F1 : Fld Z h0 a "java/lang/String" "value" "[B" (.ref vb)) (V0 : Arv Z h0 vb vk .byte (10 : Int32) [(.int (own_byt c0)), (.int (own_byt c1)), (.int (own_byt c2)), (.int (own_byt c3)), (.int (own_byt c4)), (.int (own_byt c5)), (.int (own_byt c6)), (.int (own_byt c7)), (.int (own_byt c8)), (.int (own_byt c9))] (.int (0 : Int32))) (S1 : Sta Z h0 "jdk/internal/util/Preconditions" "SIOOBE_FORMATTER" "Ljava/util/function/BiFunction;" wf) (hwf : wf.isRef = true) (rc0 : own_R c0) (rc1 : own_R c1) (rc2 : own_R c2) (rc3 : own_R c3) (rc4 : own_R c4) (rc5 : own_R c5) (rc6 : own_R c6) (rc7 : own_R c7) (rc8 : own_R c8) (rc9 : own_R c9) :
    MetFree lch (⟨"com/example/exacting_validator/exactingvalidator/validator/Rfc3339", "digits", "(Ljava/lang/String;II)I"⟩ : MethodName) (head1 (Jvm.Cond.code (⟨"com/example/exacting_validator/exactingvalidator/validator/Rfc3339", "digits", "(Ljava/lang/String;II)I"⟩ : MethodName) prog_7_method_11_code 6 (some .int) :: ws) own_room15_0) (fun zz U => zz = #[(.ref a), (.int (0 : Int32)), (.int (4 : Int32))] ∧ Z.Warmed39 U.vm ∧ U.heap = h0) (fun _ _ _ _ _ => True) (fun _ U o U' => ∃ v L, o = .returned v ∧ own_Q15_0 Z a i vb vk wf c0 c1 c2 c3 c4 c5 c6 c7 c8 c9 h0 n0 v U'.heap L ∧ FrameEnd U o U' L own_room15_0.cells own_room15_0.slots) := by
  refine MetFree.of_bodySF (plainFor_of_name own_pn5) hisR ?_
  intro prg e s m args below meth c s₁ Bd hml0 hP hK
  obtain ⟨rfl, hZ, hh⟩ := hP
  have hx := Bd.exec
  have hby := Bd.bytes
  have hml : c.maxLocals = 6 := hml0
  have hown : s.vm.findClass "com/example/exacting_validator/exactingvalidator/validator/Rfc3339" = some m.cls := findClass_of_methodNamed Bd.named
  have hnm := (name_of_methodNamed Bd.named Bd.method).1
  have hlk : meth.locks = false := BodyLoose.notSynchronized Bd
  have hret := Bd.returns
  have X0 : Stand prg lch e own_room15_0 s m #[(.ref a), (.int (0 : Int32)), (.int (4 : Int32))] below meth c s₁ [] 0 0 := Stand.of_body Bd
  have e0 : s₁.heap = h0 := by rw [← hh, Bd.state]; rfl
  have N0 := Fr.nil n0
  show own_Ends prg e below s (own_Q15_0 Z a i vb vk wf c0 c1 c2 c3 c4 c5 c6 c7 c8 c9 h0 n0) own_room15_0.cells own_room15_0.slots s₁ (entryFrame m #[(.ref a), (.int (0 : Int32)), (.int (4 : Int32))] 6)
  refine own_cast (own_ef_rm15_0 m a (0 : Int32) (4 : Int32)) ?_
  refine own_aloadN (pc' := 1) X0 hx (hb hby own_d15_0) rfl rfl rfl ?_
  refine own_callV (pc' := 4) (y := (⟨"java/lang/String", "length", "()I"⟩ : MethodName)) (W := 0) (rm := own_room12_10) (argsL := []) (rest := []) (b := a) (C := "java/lang/String") X0 hx hZ e0 hown (by rw [hml]; rfl) G0 (own_w48 hw) (own_w49 hw) (own_w51 hw) (own_w50 hw) (own_w4 hw) (own_w52 hw) (by decide) (own_rm12_10 lch Z a0 hw [] a i vb vk _ h0 n0 F0 S0 hi G0 F1 V0) (by decide) (by decide) (by decide) (by decide) (lenOf own_pd9 rfl) rfl (by exact Nat.le_of_eq rfl) (hb hby own_d15_1) rfl ?_
  intro T31 Lc31 v31 X31 hQ31
  obtain ⟨rfl, Nq31, Kq31⟩ := hQ31
  have N31 := Fr.app N0 Nq31
  show own_Ends prg e below s _ _ _ T31 (mkF m 4 #[.val (.ref a), .val (.int (0 : Int32)), .val (.int (4 : Int32)), .unset, .unset, .unset] [(.int (10 : Int32))])
  refine own_iloadN (pc' := 5) X31 hx (hb hby own_d15_4) rfl rfl ?_
  refine own_iloadN (pc' := 6) X31 hx (hb hby own_d15_5) rfl rfl ?_
  refine own_iadd (pc' := 7) (z := (4 : Int32)) X31 hx (hb hby own_d15_6) rfl (by decide) ?_
  refine own_icmpYes (pc' := 12) X31 hx (hb hby own_d15_7) (flt (by decide)).2.1 (by decide) (by decide) ?_
  refine own_iconst (pc' := 13) (z := (0 : Int32)) X31 hx (hb hby own_d15_12) rfl rfl ?_
  refine own_istoreN (pc' := 14) (l' := #[.val (.ref a), .val (.int (0 : Int32)), .val (.int (4 : Int32)), .val (.int (0 : Int32)), .unset, .unset]) X31 hx (hb hby own_d15_13) rfl rfl ?_
  refine own_iloadN (pc' := 15) X31 hx (hb hby own_d15_14) rfl rfl ?_
  refine own_istore (pc' := 17) (l' := #[.val (.ref a), .val (.int (0 : Int32)), .val (.int (4 : Int32)), .val (.int (0 : Int32)), .val (.int (0 : Int32)), .unset]) X31 hx (hb hby own_d15_15) rfl rfl ?_
  refine own_iload (pc' := 19) X31 hx (hb hby own_d15_17) rfl rfl ?_
  refine own_iloadN (pc' := 20) X31 hx (hb hby own_d15_19) rfl rfl ?_
  refine own_iloadN (pc' := 21) X31 hx (hb hby own_d15_20) rfl rfl ?_
  refine own_iadd (pc' := 22) (z := (4 : Int32)) X31 hx (hb hby own_d15_21) rfl (by decide) ?_
  refine own_icmpNo (pc' := 25) X31 hx (hb hby own_d15_22) rfl (tlt (by decide)).2.1 ?_
  refine own_aloadN (pc' := 26) X31 hx (hb hby own_d15_25) rfl rfl rfl ?_
  refine own_iload (pc' := 28) X31 hx (hb hby own_d15_26) rfl rfl ?_
  refine own_callV (pc' := 31) (y := (⟨"java/lang/String", "charAt", "(I)C"⟩ : MethodName)) (W := 0) (rm := own_room16) (argsL := [(.int (0 : Int32))]) (rest := []) (b := a) (C := "java/lang/String") X31 hx hZ Kq31 hown (by rw [hml]; rfl) G0 (own_w64 hw) (own_w65 hw) (own_w67 hw) (own_w66 hw) (own_w4 hw) (own_w68 hw) (by decide) (own_rm16 lch Z a0 hw [] a (0 : Int32) i vb vk [(.int (own_byt c0)), (.int (own_byt c1)), (.int (own_byt c2)), (.int (own_byt c3)), (.int (own_byt c4)), (.int (own_byt c5)), (.int (own_byt c6)), (.int (own_byt c7)), (.int (own_byt c8)), (.int (own_byt c9))] wf c0 h0 n0 F0 S0 hi G0 F1 V0 S1 hwf (by decide) rfl rc0) (by decide) (by decide) (by decide) (by decide) (lenOf own_pd10 rfl) rfl (by exact Nat.le_of_eq rfl) (hb hby own_d15_28) rfl ?_
  intro T32 Lc32 v32 X32 hQ32
  obtain ⟨rfl, Nq32, Kq32⟩ := hQ32
  have N32 := Fr.app N31 Nq32
  show own_Ends prg e below s _ _ _ T32 (mkF m 31 #[.val (.ref a), .val (.int (0 : Int32)), .val (.int (4 : Int32)), .val (.int (0 : Int32)), .val (.int (0 : Int32)), .unset] [(.int c0)])
  refine own_istore (pc' := 33) (l' := #[.val (.ref a), .val (.int (0 : Int32)), .val (.int (4 : Int32)), .val (.int (0 : Int32)), .val (.int (0 : Int32)), .val (.int c0)]) X32 hx (hb hby own_d15_31) rfl rfl ?_
  refine own_iload (pc' := 35) X32 hx (hb hby own_d15_33) rfl rfl ?_
  refine own_bipush (pc' := 37) (z := (48 : Int32)) X32 hx (hb hby own_d15_35) rfl rfl ?_
  by_cases hc37_33 : c0 < (48 : Int32)
  · refine own_icmpYes (pc' := 47) X32 hx (hb hby own_d15_37) (tlt hc37_33).1 (by decide) (by decide) ?_
    refine own_iconst (pc' := 48) (z := (-1 : Int32)) X32 hx (hb hby own_d15_47) rfl rfl ?_
    refine own_retI X32 hx hlk hret (hb hby own_d15_48) (by decide) (by decide) ?_
    have i_hc37_33 : c0.toInt < 48 := own_i1 hc37_33
    exact ⟨_, rfl, N32, Kq32, fun q => by omega, fun _ => by decide⟩
  · refine own_icmpNo (pc' := 40) X32 hx (hb hby own_d15_37) rfl (flt hc37_33).1 ?_
    refine own_iload (pc' := 42) X32 hx (hb hby own_d15_40) rfl rfl ?_
    refine own_bipush (pc' := 44) (z := (57 : Int32)) X32 hx (hb hby own_d15_42) rfl rfl ?_
    by_cases hc44_34 : (57 : Int32) < c0
    · refine own_icmpNo (pc' := 47) X32 hx (hb hby own_d15_44) rfl (tlt hc44_34).2.2.2 ?_
      refine own_iconst (pc' := 48) (z := (-1 : Int32)) X32 hx (hb hby own_d15_47) rfl rfl ?_
      refine own_retI X32 hx hlk hret (hb hby own_d15_48) (by decide) (by decide) ?_
      have i_hc37_33 : 48 ≤ c0.toInt := own_i2 hc37_33
      have i_hc44_34 : 57 < c0.toInt := own_i1 hc44_34
      exact ⟨_, rfl, N32, Kq32, fun q => by omega, fun _ => by decide⟩
    · refine own_icmpYes (pc' := 49) X32 hx (hb hby own_d15_44) (flt hc44_34).2.2.2 (by decide) (by decide) ?_
      refine own_bipush (pc' := 51) (z := (10 : Int32)) X32 hx (hb hby own_d15_49) rfl rfl ?_
      refine own_iloadN (pc' := 52) X32 hx (hb hby own_d15_51) rfl rfl ?_
      refine own_imul (pc' := 53) (z := (0 : Int32)) X32 hx (hb hby own_d15_52) rfl (by decide) ?_
      refine own_iload (pc' := 55) X32 hx (hb hby own_d15_53) rfl rfl ?_
      refine own_iadd (pc' := 56) (z := ((0 : Int32) + c0)) X32 hx (hb hby own_d15_55) rfl rfl ?_
      refine own_bipush (pc' := 58) (z := (48 : Int32)) X32 hx (hb hby own_d15_56) rfl rfl ?_
      refine own_isub (pc' := 59) (z := (((0 : Int32) + c0) - (48 : Int32))) X32 hx (hb hby own_d15_58) rfl rfl ?_
      refine own_istoreN (pc' := 60) (l' := #[.val (.ref a), .val (.int (0 : Int32)), .val (.int (4 : Int32)), .val (.int (((0 : Int32) + c0) - (48 : Int32))), .val (.int (0 : Int32)), .val (.int c0)]) X32 hx (hb hby own_d15_59) rfl rfl ?_
      refine own_iinc (pc' := 63) (z := (1 : Int32)) (l' := #[.val (.ref a), .val (.int (0 : Int32)), .val (.int (4 : Int32)), .val (.int (((0 : Int32) + c0) - (48 : Int32))), .val (.int (1 : Int32)), .val (.int c0)]) X32 hx (hb hby own_d15_60) rfl rfl (by decide) rfl ?_
      refine own_goto (pc' := 17) X32 hx (hb hby own_d15_63) (by decide) (by decide) ?_
      refine own_iload (pc' := 19) X32 hx (hb hby own_d15_17) rfl rfl ?_
      refine own_iloadN (pc' := 20) X32 hx (hb hby own_d15_19) rfl rfl ?_
      refine own_iloadN (pc' := 21) X32 hx (hb hby own_d15_20) rfl rfl ?_
      refine own_iadd (pc' := 22) (z := (4 : Int32)) X32 hx (hb hby own_d15_21) rfl (by decide) ?_
      refine own_icmpNo (pc' := 25) X32 hx (hb hby own_d15_22) rfl (tlt (by decide)).2.1 ?_
      refine own_aloadN (pc' := 26) X32 hx (hb hby own_d15_25) rfl rfl rfl ?_
      refine own_iload (pc' := 28) X32 hx (hb hby own_d15_26) rfl rfl ?_
      refine own_callV (pc' := 31) (y := (⟨"java/lang/String", "charAt", "(I)C"⟩ : MethodName)) (W := 0) (rm := own_room16) (argsL := [(.int (1 : Int32))]) (rest := []) (b := a) (C := "java/lang/String") X32 hx hZ Kq32 hown (by rw [hml]; rfl) G0 (own_w64 hw) (own_w65 hw) (own_w67 hw) (own_w66 hw) (own_w4 hw) (own_w68 hw) (by decide) (own_rm16 lch Z a0 hw [] a (1 : Int32) i vb vk [(.int (own_byt c0)), (.int (own_byt c1)), (.int (own_byt c2)), (.int (own_byt c3)), (.int (own_byt c4)), (.int (own_byt c5)), (.int (own_byt c6)), (.int (own_byt c7)), (.int (own_byt c8)), (.int (own_byt c9))] wf c1 h0 n0 F0 S0 hi G0 F1 V0 S1 hwf (by decide) rfl rc1) (by decide) (by decide) (by decide) (by decide) (lenOf own_pd10 rfl) rfl (by exact Nat.le_of_eq rfl) (hb hby own_d15_28) rfl ?_
      intro T35 Lc35 v35 X35 hQ35
      obtain ⟨rfl, Nq35, Kq35⟩ := hQ35
      have N35 := Fr.app N32 Nq35
      show own_Ends prg e below s _ _ _ T35 (mkF m 31 #[.val (.ref a), .val (.int (0 : Int32)), .val (.int (4 : Int32)), .val (.int (((0 : Int32) + c0) - (48 : Int32))), .val (.int (1 : Int32)), .val (.int c0)] [(.int c1)])
      refine own_istore (pc' := 33) (l' := #[.val (.ref a), .val (.int (0 : Int32)), .val (.int (4 : Int32)), .val (.int (((0 : Int32) + c0) - (48 : Int32))), .val (.int (1 : Int32)), .val (.int c1)]) X35 hx (hb hby own_d15_31) rfl rfl ?_
      refine own_iload (pc' := 35) X35 hx (hb hby own_d15_33) rfl rfl ?_
      refine own_bipush (pc' := 37) (z := (48 : Int32)) X35 hx (hb hby own_d15_35) rfl rfl ?_
      by_cases hc37_36 : c1 < (48 : Int32)
      · refine own_icmpYes (pc' := 47) X35 hx (hb hby own_d15_37) (tlt hc37_36).1 (by decide) (by decide) ?_
        refine own_iconst (pc' := 48) (z := (-1 : Int32)) X35 hx (hb hby own_d15_47) rfl rfl ?_
        refine own_retI X35 hx hlk hret (hb hby own_d15_48) (by decide) (by decide) ?_
        have i_hc37_33 : 48 ≤ c0.toInt := own_i2 hc37_33
        have i_hc44_34 : c0.toInt ≤ 57 := own_i2 hc44_34
        have i_hc37_36 : c1.toInt < 48 := own_i1 hc37_36
        exact ⟨_, rfl, N35, Kq35, fun q => by omega, fun _ => by decide⟩
      · refine own_icmpNo (pc' := 40) X35 hx (hb hby own_d15_37) rfl (flt hc37_36).1 ?_
        refine own_iload (pc' := 42) X35 hx (hb hby own_d15_40) rfl rfl ?_
        refine own_bipush (pc' := 44) (z := (57 : Int32)) X35 hx (hb hby own_d15_42) rfl rfl ?_
        by_cases hc44_37 : (57 : Int32) < c1
        · refine own_icmpNo (pc' := 47) X35 hx (hb hby own_d15_44) rfl (tlt hc44_37).2.2.2 ?_
          refine own_iconst (pc' := 48) (z := (-1 : Int32)) X35 hx (hb hby own_d15_47) rfl rfl ?_
          refine own_retI X35 hx hlk hret (hb hby own_d15_48) (by decide) (by decide) ?_
          have i_hc37_33 : 48 ≤ c0.toInt := own_i2 hc37_33
          have i_hc44_34 : c0.toInt ≤ 57 := own_i2 hc44_34
          have i_hc37_36 : 48 ≤ c1.toInt := own_i2 hc37_36
          have i_hc44_37 : 57 < c1.toInt := own_i1 hc44_37
          exact ⟨_, rfl, N35, Kq35, fun q => by omega, fun _ => by decide⟩
        · refine own_icmpYes (pc' := 49) X35 hx (hb hby own_d15_44) (flt hc44_37).2.2.2 (by decide) (by decide) ?_
          refine own_bipush (pc' := 51) (z := (10 : Int32)) X35 hx (hb hby own_d15_49) rfl rfl ?_
          refine own_iloadN (pc' := 52) X35 hx (hb hby own_d15_51) rfl rfl ?_
          refine own_imul (pc' := 53) (z := ((10 : Int32) * (((0 : Int32) + c0) - (48 : Int32)))) X35 hx (hb hby own_d15_52) rfl rfl ?_
          refine own_iload (pc' := 55) X35 hx (hb hby own_d15_53) rfl rfl ?_
          refine own_iadd (pc' := 56) (z := (((10 : Int32) * (((0 : Int32) + c0) - (48 : Int32))) + c1)) X35 hx (hb hby own_d15_55) rfl rfl ?_
          refine own_bipush (pc' := 58) (z := (48 : Int32)) X35 hx (hb hby own_d15_56) rfl rfl ?_
          refine own_isub (pc' := 59) (z := ((((10 : Int32) * (((0 : Int32) + c0) - (48 : Int32))) + c1) - (48 : Int32))) X35 hx (hb hby own_d15_58) rfl rfl ?_
          refine own_istoreN (pc' := 60) (l' := #[.val (.ref a), .val (.int (0 : Int32)), .val (.int (4 : Int32)), .val (.int ((((10 : Int32) * (((0 : Int32) + c0) - (48 : Int32))) + c1) - (48 : Int32))), .val (.int (1 : Int32)), .val (.int c1)]) X35 hx (hb hby own_d15_59) rfl rfl ?_
          refine own_iinc (pc' := 63) (z := (2 : Int32)) (l' := #[.val (.ref a), .val (.int (0 : Int32)), .val (.int (4 : Int32)), .val (.int ((((10 : Int32) * (((0 : Int32) + c0) - (48 : Int32))) + c1) - (48 : Int32))), .val (.int (2 : Int32)), .val (.int c1)]) X35 hx (hb hby own_d15_60) rfl rfl (by decide) rfl ?_
          refine own_goto (pc' := 17) X35 hx (hb hby own_d15_63) (by decide) (by decide) ?_
          refine own_iload (pc' := 19) X35 hx (hb hby own_d15_17) rfl rfl ?_
          refine own_iloadN (pc' := 20) X35 hx (hb hby own_d15_19) rfl rfl ?_
          refine own_iloadN (pc' := 21) X35 hx (hb hby own_d15_20) rfl rfl ?_
          refine own_iadd (pc' := 22) (z := (4 : Int32)) X35 hx (hb hby own_d15_21) rfl (by decide) ?_
          refine own_icmpNo (pc' := 25) X35 hx (hb hby own_d15_22) rfl (tlt (by decide)).2.1 ?_
          refine own_aloadN (pc' := 26) X35 hx (hb hby own_d15_25) rfl rfl rfl ?_
          refine own_iload (pc' := 28) X35 hx (hb hby own_d15_26) rfl rfl ?_
          refine own_callV (pc' := 31) (y := (⟨"java/lang/String", "charAt", "(I)C"⟩ : MethodName)) (W := 0) (rm := own_room16) (argsL := [(.int (2 : Int32))]) (rest := []) (b := a) (C := "java/lang/String") X35 hx hZ Kq35 hown (by rw [hml]; rfl) G0 (own_w64 hw) (own_w65 hw) (own_w67 hw) (own_w66 hw) (own_w4 hw) (own_w68 hw) (by decide) (own_rm16 lch Z a0 hw [] a (2 : Int32) i vb vk [(.int (own_byt c0)), (.int (own_byt c1)), (.int (own_byt c2)), (.int (own_byt c3)), (.int (own_byt c4)), (.int (own_byt c5)), (.int (own_byt c6)), (.int (own_byt c7)), (.int (own_byt c8)), (.int (own_byt c9))] wf c2 h0 n0 F0 S0 hi G0 F1 V0 S1 hwf (by decide) rfl rc2) (by decide) (by decide) (by decide) (by decide) (lenOf own_pd10 rfl) rfl (by exact Nat.le_of_eq rfl) (hb hby own_d15_28) rfl ?_
          intro T38 Lc38 v38 X38 hQ38
          obtain ⟨rfl, Nq38, Kq38⟩ := hQ38
          have N38 := Fr.app N35 Nq38
          show own_Ends prg e below s _ _ _ T38 (mkF m 31 #[.val (.ref a), .val (.int (0 : Int32)), .val (.int (4 : Int32)), .val (.int ((((10 : Int32) * (((0 : Int32) + c0) - (48 : Int32))) + c1) - (48 : Int32))), .val (.int (2 : Int32)), .val (.int c1)] [(.int c2)])
          refine own_istore (pc' := 33) (l' := #[.val (.ref a), .val (.int (0 : Int32)), .val (.int (4 : Int32)), .val (.int ((((10 : Int32) * (((0 : Int32) + c0) - (48 : Int32))) + c1) - (48 : Int32))), .val (.int (2 : Int32)), .val (.int c2)]) X38 hx (hb hby own_d15_31) rfl rfl ?_
          refine own_iload (pc' := 35) X38 hx (hb hby own_d15_33) rfl rfl ?_
          refine own_bipush (pc' := 37) (z := (48 : Int32)) X38 hx (hb hby own_d15_35) rfl rfl ?_
          by_cases hc37_39 : c2 < (48 : Int32)
          · refine own_icmpYes (pc' := 47) X38 hx (hb hby own_d15_37) (tlt hc37_39).1 (by decide) (by decide) ?_
            refine own_iconst (pc' := 48) (z := (-1 : Int32)) X38 hx (hb hby own_d15_47) rfl rfl ?_
            refine own_retI X38 hx hlk hret (hb hby own_d15_48) (by decide) (by decide) ?_
            have i_hc37_33 : 48 ≤ c0.toInt := own_i2 hc37_33
            have i_hc44_34 : c0.toInt ≤ 57 := own_i2 hc44_34
            have i_hc37_36 : 48 ≤ c1.toInt := own_i2 hc37_36
            have i_hc44_37 : c1.toInt ≤ 57 := own_i2 hc44_37
            have i_hc37_39 : c2.toInt < 48 := own_i1 hc37_39
            exact ⟨_, rfl, N38, Kq38, fun q => by omega, fun _ => by decide⟩
          · refine own_icmpNo (pc' := 40) X38 hx (hb hby own_d15_37) rfl (flt hc37_39).1 ?_
            refine own_iload (pc' := 42) X38 hx (hb hby own_d15_40) rfl rfl ?_
            refine own_bipush (pc' := 44) (z := (57 : Int32)) X38 hx (hb hby own_d15_42) rfl rfl ?_
            by_cases hc44_40 : (57 : Int32) < c2
            · refine own_icmpNo (pc' := 47) X38 hx (hb hby own_d15_44) rfl (tlt hc44_40).2.2.2 ?_
              refine own_iconst (pc' := 48) (z := (-1 : Int32)) X38 hx (hb hby own_d15_47) rfl rfl ?_
              refine own_retI X38 hx hlk hret (hb hby own_d15_48) (by decide) (by decide) ?_
              have i_hc37_33 : 48 ≤ c0.toInt := own_i2 hc37_33
              have i_hc44_34 : c0.toInt ≤ 57 := own_i2 hc44_34
              have i_hc37_36 : 48 ≤ c1.toInt := own_i2 hc37_36
              have i_hc44_37 : c1.toInt ≤ 57 := own_i2 hc44_37
              have i_hc37_39 : 48 ≤ c2.toInt := own_i2 hc37_39
              have i_hc44_40 : 57 < c2.toInt := own_i1 hc44_40
              exact ⟨_, rfl, N38, Kq38, fun q => by omega, fun _ => by decide⟩
            · refine own_icmpYes (pc' := 49) X38 hx (hb hby own_d15_44) (flt hc44_40).2.2.2 (by decide) (by decide) ?_
              refine own_bipush (pc' := 51) (z := (10 : Int32)) X38 hx (hb hby own_d15_49) rfl rfl ?_
              refine own_iloadN (pc' := 52) X38 hx (hb hby own_d15_51) rfl rfl ?_
              refine own_imul (pc' := 53) (z := ((10 : Int32) * ((((10 : Int32) * (((0 : Int32) + c0) - (48 : Int32))) + c1) - (48 : Int32)))) X38 hx (hb hby own_d15_52) rfl rfl ?_
              refine own_iload (pc' := 55) X38 hx (hb hby own_d15_53) rfl rfl ?_
              refine own_iadd (pc' := 56) (z := (((10 : Int32) * ((((10 : Int32) * (((0 : Int32) + c0) - (48 : Int32))) + c1) - (48 : Int32))) + c2)) X38 hx (hb hby own_d15_55) rfl rfl ?_
              refine own_bipush (pc' := 58) (z := (48 : Int32)) X38 hx (hb hby own_d15_56) rfl rfl ?_
              refine own_isub (pc' := 59) (z := ((((10 : Int32) * ((((10 : Int32) * (((0 : Int32) + c0) - (48 : Int32))) + c1) - (48 : Int32))) + c2) - (48 : Int32))) X38 hx (hb hby own_d15_58) rfl rfl ?_
              refine own_istoreN (pc' := 60) (l' := #[.val (.ref a), .val (.int (0 : Int32)), .val (.int (4 : Int32)), .val (.int ((((10 : Int32) * ((((10 : Int32) * (((0 : Int32) + c0) - (48 : Int32))) + c1) - (48 : Int32))) + c2) - (48 : Int32))), .val (.int (2 : Int32)), .val (.int c2)]) X38 hx (hb hby own_d15_59) rfl rfl ?_
              refine own_iinc (pc' := 63) (z := (3 : Int32)) (l' := #[.val (.ref a), .val (.int (0 : Int32)), .val (.int (4 : Int32)), .val (.int ((((10 : Int32) * ((((10 : Int32) * (((0 : Int32) + c0) - (48 : Int32))) + c1) - (48 : Int32))) + c2) - (48 : Int32))), .val (.int (3 : Int32)), .val (.int c2)]) X38 hx (hb hby own_d15_60) rfl rfl (by decide) rfl ?_
              refine own_goto (pc' := 17) X38 hx (hb hby own_d15_63) (by decide) (by decide) ?_
              refine own_iload (pc' := 19) X38 hx (hb hby own_d15_17) rfl rfl ?_
              refine own_iloadN (pc' := 20) X38 hx (hb hby own_d15_19) rfl rfl ?_
              refine own_iloadN (pc' := 21) X38 hx (hb hby own_d15_20) rfl rfl ?_
              refine own_iadd (pc' := 22) (z := (4 : Int32)) X38 hx (hb hby own_d15_21) rfl (by decide) ?_
              refine own_icmpNo (pc' := 25) X38 hx (hb hby own_d15_22) rfl (tlt (by decide)).2.1 ?_
              refine own_aloadN (pc' := 26) X38 hx (hb hby own_d15_25) rfl rfl rfl ?_
              refine own_iload (pc' := 28) X38 hx (hb hby own_d15_26) rfl rfl ?_
              refine own_callV (pc' := 31) (y := (⟨"java/lang/String", "charAt", "(I)C"⟩ : MethodName)) (W := 0) (rm := own_room16) (argsL := [(.int (3 : Int32))]) (rest := []) (b := a) (C := "java/lang/String") X38 hx hZ Kq38 hown (by rw [hml]; rfl) G0 (own_w64 hw) (own_w65 hw) (own_w67 hw) (own_w66 hw) (own_w4 hw) (own_w68 hw) (by decide) (own_rm16 lch Z a0 hw [] a (3 : Int32) i vb vk [(.int (own_byt c0)), (.int (own_byt c1)), (.int (own_byt c2)), (.int (own_byt c3)), (.int (own_byt c4)), (.int (own_byt c5)), (.int (own_byt c6)), (.int (own_byt c7)), (.int (own_byt c8)), (.int (own_byt c9))] wf c3 h0 n0 F0 S0 hi G0 F1 V0 S1 hwf (by decide) rfl rc3) (by decide) (by decide) (by decide) (by decide) (lenOf own_pd10 rfl) rfl (by exact Nat.le_of_eq rfl) (hb hby own_d15_28) rfl ?_
              intro T41 Lc41 v41 X41 hQ41
              obtain ⟨rfl, Nq41, Kq41⟩ := hQ41
              have N41 := Fr.app N38 Nq41
              show own_Ends prg e below s _ _ _ T41 (mkF m 31 #[.val (.ref a), .val (.int (0 : Int32)), .val (.int (4 : Int32)), .val (.int ((((10 : Int32) * ((((10 : Int32) * (((0 : Int32) + c0) - (48 : Int32))) + c1) - (48 : Int32))) + c2) - (48 : Int32))), .val (.int (3 : Int32)), .val (.int c2)] [(.int c3)])
              refine own_istore (pc' := 33) (l' := #[.val (.ref a), .val (.int (0 : Int32)), .val (.int (4 : Int32)), .val (.int ((((10 : Int32) * ((((10 : Int32) * (((0 : Int32) + c0) - (48 : Int32))) + c1) - (48 : Int32))) + c2) - (48 : Int32))), .val (.int (3 : Int32)), .val (.int c3)]) X41 hx (hb hby own_d15_31) rfl rfl ?_
              refine own_iload (pc' := 35) X41 hx (hb hby own_d15_33) rfl rfl ?_
              refine own_bipush (pc' := 37) (z := (48 : Int32)) X41 hx (hb hby own_d15_35) rfl rfl ?_
              by_cases hc37_42 : c3 < (48 : Int32)
              · refine own_icmpYes (pc' := 47) X41 hx (hb hby own_d15_37) (tlt hc37_42).1 (by decide) (by decide) ?_
                refine own_iconst (pc' := 48) (z := (-1 : Int32)) X41 hx (hb hby own_d15_47) rfl rfl ?_
                refine own_retI X41 hx hlk hret (hb hby own_d15_48) (by decide) (by decide) ?_
                have i_hc37_33 : 48 ≤ c0.toInt := own_i2 hc37_33
                have i_hc44_34 : c0.toInt ≤ 57 := own_i2 hc44_34
                have i_hc37_36 : 48 ≤ c1.toInt := own_i2 hc37_36
                have i_hc44_37 : c1.toInt ≤ 57 := own_i2 hc44_37
                have i_hc37_39 : 48 ≤ c2.toInt := own_i2 hc37_39
                have i_hc44_40 : c2.toInt ≤ 57 := own_i2 hc44_40
                have i_hc37_42 : c3.toInt < 48 := own_i1 hc37_42
                exact ⟨_, rfl, N41, Kq41, fun q => by omega, fun _ => by decide⟩
              · refine own_icmpNo (pc' := 40) X41 hx (hb hby own_d15_37) rfl (flt hc37_42).1 ?_
                refine own_iload (pc' := 42) X41 hx (hb hby own_d15_40) rfl rfl ?_
                refine own_bipush (pc' := 44) (z := (57 : Int32)) X41 hx (hb hby own_d15_42) rfl rfl ?_
                by_cases hc44_43 : (57 : Int32) < c3
                · refine own_icmpNo (pc' := 47) X41 hx (hb hby own_d15_44) rfl (tlt hc44_43).2.2.2 ?_
                  refine own_iconst (pc' := 48) (z := (-1 : Int32)) X41 hx (hb hby own_d15_47) rfl rfl ?_
                  refine own_retI X41 hx hlk hret (hb hby own_d15_48) (by decide) (by decide) ?_
                  have i_hc37_33 : 48 ≤ c0.toInt := own_i2 hc37_33
                  have i_hc44_34 : c0.toInt ≤ 57 := own_i2 hc44_34
                  have i_hc37_36 : 48 ≤ c1.toInt := own_i2 hc37_36
                  have i_hc44_37 : c1.toInt ≤ 57 := own_i2 hc44_37
                  have i_hc37_39 : 48 ≤ c2.toInt := own_i2 hc37_39
                  have i_hc44_40 : c2.toInt ≤ 57 := own_i2 hc44_40
                  have i_hc37_42 : 48 ≤ c3.toInt := own_i2 hc37_42
                  have i_hc44_43 : 57 < c3.toInt := own_i1 hc44_43
                  exact ⟨_, rfl, N41, Kq41, fun q => by omega, fun _ => by decide⟩
                · refine own_icmpYes (pc' := 49) X41 hx (hb hby own_d15_44) (flt hc44_43).2.2.2 (by decide) (by decide) ?_
                  refine own_bipush (pc' := 51) (z := (10 : Int32)) X41 hx (hb hby own_d15_49) rfl rfl ?_
                  refine own_iloadN (pc' := 52) X41 hx (hb hby own_d15_51) rfl rfl ?_
                  refine own_imul (pc' := 53) (z := ((10 : Int32) * ((((10 : Int32) * ((((10 : Int32) * (((0 : Int32) + c0) - (48 : Int32))) + c1) - (48 : Int32))) + c2) - (48 : Int32)))) X41 hx (hb hby own_d15_52) rfl rfl ?_
                  refine own_iload (pc' := 55) X41 hx (hb hby own_d15_53) rfl rfl ?_
                  refine own_iadd (pc' := 56) (z := (((10 : Int32) * ((((10 : Int32) * ((((10 : Int32) * (((0 : Int32) + c0) - (48 : Int32))) + c1) - (48 : Int32))) + c2) - (48 : Int32))) + c3)) X41 hx (hb hby own_d15_55) rfl rfl ?_
                  refine own_bipush (pc' := 58) (z := (48 : Int32)) X41 hx (hb hby own_d15_56) rfl rfl ?_
                  refine own_isub (pc' := 59) (z := ((((10 : Int32) * ((((10 : Int32) * ((((10 : Int32) * (((0 : Int32) + c0) - (48 : Int32))) + c1) - (48 : Int32))) + c2) - (48 : Int32))) + c3) - (48 : Int32))) X41 hx (hb hby own_d15_58) rfl rfl ?_
                  refine own_istoreN (pc' := 60) (l' := #[.val (.ref a), .val (.int (0 : Int32)), .val (.int (4 : Int32)), .val (.int ((((10 : Int32) * ((((10 : Int32) * ((((10 : Int32) * (((0 : Int32) + c0) - (48 : Int32))) + c1) - (48 : Int32))) + c2) - (48 : Int32))) + c3) - (48 : Int32))), .val (.int (3 : Int32)), .val (.int c3)]) X41 hx (hb hby own_d15_59) rfl rfl ?_
                  refine own_iinc (pc' := 63) (z := (4 : Int32)) (l' := #[.val (.ref a), .val (.int (0 : Int32)), .val (.int (4 : Int32)), .val (.int ((((10 : Int32) * ((((10 : Int32) * ((((10 : Int32) * (((0 : Int32) + c0) - (48 : Int32))) + c1) - (48 : Int32))) + c2) - (48 : Int32))) + c3) - (48 : Int32))), .val (.int (4 : Int32)), .val (.int c3)]) X41 hx (hb hby own_d15_60) rfl rfl (by decide) rfl ?_
                  refine own_goto (pc' := 17) X41 hx (hb hby own_d15_63) (by decide) (by decide) ?_
                  refine own_iload (pc' := 19) X41 hx (hb hby own_d15_17) rfl rfl ?_
                  refine own_iloadN (pc' := 20) X41 hx (hb hby own_d15_19) rfl rfl ?_
                  refine own_iloadN (pc' := 21) X41 hx (hb hby own_d15_20) rfl rfl ?_
                  refine own_iadd (pc' := 22) (z := (4 : Int32)) X41 hx (hb hby own_d15_21) rfl (by decide) ?_
                  refine own_icmpYes (pc' := 66) X41 hx (hb hby own_d15_22) (flt (by decide)).2.1 (by decide) (by decide) ?_
                  refine own_iloadN (pc' := 67) X41 hx (hb hby own_d15_66) rfl rfl ?_
                  refine own_retI X41 hx hlk hret (hb hby own_d15_67) (by decide) (by decide) ?_
                  have i_hc37_33 : 48 ≤ c0.toInt := own_i2 hc37_33
                  have i_hc44_34 : c0.toInt ≤ 57 := own_i2 hc44_34
                  have i_hc37_36 : 48 ≤ c1.toInt := own_i2 hc37_36
                  have i_hc44_37 : c1.toInt ≤ 57 := own_i2 hc44_37
                  have i_hc37_39 : 48 ≤ c2.toInt := own_i2 hc37_39
                  have i_hc44_40 : c2.toInt ≤ 57 := own_i2 hc44_40
                  have i_hc37_42 : 48 ≤ c3.toInt := own_i2 hc37_42
                  have i_hc44_43 : c3.toInt ≤ 57 := own_i2 hc44_43
                  have t0 := own_st0 (c := c0) ⟨by omega, by omega⟩
                  have t1 := own_st (v := (((0 : Int32) + c0) - (48 : Int32))) (c := c1) (by omega) ⟨by omega, by omega⟩
                  have t2 := own_st (v := ((((10 : Int32) * (((0 : Int32) + c0) - (48 : Int32))) + c1) - (48 : Int32))) (c := c2) (by omega) ⟨by omega, by omega⟩
                  have t3 := own_st (v := ((((10 : Int32) * ((((10 : Int32) * (((0 : Int32) + c0) - (48 : Int32))) + c1) - (48 : Int32))) + c2) - (48 : Int32))) (c := c3) (by omega) ⟨by omega, by omega⟩
                  exact ⟨_, rfl, N41, Kq41, fun _ => by omega, fun q => by omega⟩
def own_room15_5 : Room := { frames := 4, cells := 0, slots := 0, locals := 53 }
def own_Q15_5 (Z : State) (a : Addr) (i : Int32) (vb : Addr) (vk : ClassId) (wf : Value) (c0 : Int32) (c1 : Int32) (c2 : Int32) (c3 : Int32) (c4 : Int32) (c5 : Int32) (c6 : Int32) (c7 : Int32) (c8 : Int32) (c9 : Int32) (h0 : Heap) (n0 : Nat) (v : Option Value) (h : Heap) (L : List Loc) : Prop := ∃ (r : Int32), v = some (.int r) ∧ Fr n0 L ∧ h = h0 ∧ ((48 ≤ c5.toInt ∧ c5.toInt ≤ 57) ∧ (48 ≤ c6.toInt ∧ c6.toInt ≤ 57) → r.toInt = 10 * (c5.toInt - 48) + (c6.toInt - 48)) ∧ (¬ ((48 ≤ c5.toInt ∧ c5.toInt ≤ 57) ∧ (48 ≤ c6.toInt ∧ c6.toInt ≤ 57)) → r.toInt = -1)
theorem own_ef_rm15_5 (m : MethodId) (x0 : Addr) (x1 : Int32) (x2 : Int32) : entryFrame m #[(.ref x0), (.int x1), (.int x2)] 6 = mkF m 0 #[.val (.ref x0), .val (.int x1), .val (.int x2), .unset, .unset, .unset] [] := by first | (simp [entryFrame, mkF, argsToLocals, Value.category]; done) | rfl
set_option maxRecDepth 65536 in
set_option maxHeartbeats 40000000 in
theorem own_rm15_5 (lch : Launch) (Z : State) (a0 : Array Value) (hw : ∀ d ∈ tables_1, d.before a0 Z = true) (ws : List Jvm.Cond) (a : Addr) (i : Int32) (vb : Addr) (vk : ClassId) (wf : Value) (c0 : Int32) (c1 : Int32) (c2 : Int32) (c3 : Int32) (c4 : Int32) (c5 : Int32) (c6 : Int32) (c7 : Int32) (c8 : Int32) (c9 : Int32) (h0 : Heap) (n0 : Nat) (F0 : Fld Z h0 a "java/lang/String" "coder" "B" (.int (0 : Int32))) (S0 : Sta Z h0 "java/lang/String" "COMPACT_STRINGS" "Z" (.int i)) (hi : ¬ i = (0 : Int32)) (G0 : Exa Z h0 a "java/lang/String") (F1 : Fld Z h0 a "java/lang/String" "value" "[B" (.ref vb)) (V0 : Arv Z h0 vb vk .byte (10 : Int32) [(.int (own_byt c0)), (.int (own_byt c1)), (.int (own_byt c2)), (.int (own_byt c3)), (.int (own_byt c4)), (.int (own_byt c5)), (.int (own_byt c6)), (.int (own_byt c7)), (.int (own_byt c8)), (.int (own_byt c9))] (.int (0 : Int32))) (S1 : Sta Z h0 "jdk/internal/util/Preconditions" "SIOOBE_FORMATTER" "Ljava/util/function/BiFunction;" wf) (hwf : wf.isRef = true) (rc0 : own_R c0) (rc1 : own_R c1) (rc2 : own_R c2) (rc3 : own_R c3) (rc4 : own_R c4) (rc5 : own_R c5) (rc6 : own_R c6) (rc7 : own_R c7) (rc8 : own_R c8) (rc9 : own_R c9) :
    MetFree lch (⟨"com/example/exacting_validator/exactingvalidator/validator/Rfc3339", "digits", "(Ljava/lang/String;II)I"⟩ : MethodName) (head1 (Jvm.Cond.code (⟨"com/example/exacting_validator/exactingvalidator/validator/Rfc3339", "digits", "(Ljava/lang/String;II)I"⟩ : MethodName) prog_7_method_11_code 6 (some .int) :: ws) own_room15_5) (fun zz U => zz = #[(.ref a), (.int (5 : Int32)), (.int (2 : Int32))] ∧ Z.Warmed39 U.vm ∧ U.heap = h0) (fun _ _ _ _ _ => True) (fun _ U o U' => ∃ v L, o = .returned v ∧ own_Q15_5 Z a i vb vk wf c0 c1 c2 c3 c4 c5 c6 c7 c8 c9 h0 n0 v U'.heap L ∧ FrameEnd U o U' L own_room15_5.cells own_room15_5.slots) := by
  refine MetFree.of_bodySF (plainFor_of_name own_pn5) hisR ?_
  intro prg e s m args below meth c s₁ Bd hml0 hP hK
  obtain ⟨rfl, hZ, hh⟩ := hP
  have hx := Bd.exec
  have hby := Bd.bytes
  have hml : c.maxLocals = 6 := hml0
  have hown : s.vm.findClass "com/example/exacting_validator/exactingvalidator/validator/Rfc3339" = some m.cls := findClass_of_methodNamed Bd.named
  have hnm := (name_of_methodNamed Bd.named Bd.method).1
  have hlk : meth.locks = false := BodyLoose.notSynchronized Bd
  have hret := Bd.returns
  have X0 : Stand prg lch e own_room15_5 s m #[(.ref a), (.int (5 : Int32)), (.int (2 : Int32))] below meth c s₁ [] 0 0 := Stand.of_body Bd
  have e0 : s₁.heap = h0 := by rw [← hh, Bd.state]; rfl
  have N0 := Fr.nil n0
  show own_Ends prg e below s (own_Q15_5 Z a i vb vk wf c0 c1 c2 c3 c4 c5 c6 c7 c8 c9 h0 n0) own_room15_5.cells own_room15_5.slots s₁ (entryFrame m #[(.ref a), (.int (5 : Int32)), (.int (2 : Int32))] 6)
  refine own_cast (own_ef_rm15_5 m a (5 : Int32) (2 : Int32)) ?_
  refine own_aloadN (pc' := 1) X0 hx (hb hby own_d15_0) rfl rfl rfl ?_
  refine own_callV (pc' := 4) (y := (⟨"java/lang/String", "length", "()I"⟩ : MethodName)) (W := 0) (rm := own_room12_10) (argsL := []) (rest := []) (b := a) (C := "java/lang/String") X0 hx hZ e0 hown (by rw [hml]; rfl) G0 (own_w48 hw) (own_w49 hw) (own_w51 hw) (own_w50 hw) (own_w4 hw) (own_w52 hw) (by decide) (own_rm12_10 lch Z a0 hw [] a i vb vk _ h0 n0 F0 S0 hi G0 F1 V0) (by decide) (by decide) (by decide) (by decide) (lenOf own_pd9 rfl) rfl (by exact Nat.le_of_eq rfl) (hb hby own_d15_1) rfl ?_
  intro T31 Lc31 v31 X31 hQ31
  obtain ⟨rfl, Nq31, Kq31⟩ := hQ31
  have N31 := Fr.app N0 Nq31
  show own_Ends prg e below s _ _ _ T31 (mkF m 4 #[.val (.ref a), .val (.int (5 : Int32)), .val (.int (2 : Int32)), .unset, .unset, .unset] [(.int (10 : Int32))])
  refine own_iloadN (pc' := 5) X31 hx (hb hby own_d15_4) rfl rfl ?_
  refine own_iloadN (pc' := 6) X31 hx (hb hby own_d15_5) rfl rfl ?_
  refine own_iadd (pc' := 7) (z := (7 : Int32)) X31 hx (hb hby own_d15_6) rfl (by decide) ?_
  refine own_icmpYes (pc' := 12) X31 hx (hb hby own_d15_7) (flt (by decide)).2.1 (by decide) (by decide) ?_
  refine own_iconst (pc' := 13) (z := (0 : Int32)) X31 hx (hb hby own_d15_12) rfl rfl ?_
  refine own_istoreN (pc' := 14) (l' := #[.val (.ref a), .val (.int (5 : Int32)), .val (.int (2 : Int32)), .val (.int (0 : Int32)), .unset, .unset]) X31 hx (hb hby own_d15_13) rfl rfl ?_
  refine own_iloadN (pc' := 15) X31 hx (hb hby own_d15_14) rfl rfl ?_
  refine own_istore (pc' := 17) (l' := #[.val (.ref a), .val (.int (5 : Int32)), .val (.int (2 : Int32)), .val (.int (0 : Int32)), .val (.int (5 : Int32)), .unset]) X31 hx (hb hby own_d15_15) rfl rfl ?_
  refine own_iload (pc' := 19) X31 hx (hb hby own_d15_17) rfl rfl ?_
  refine own_iloadN (pc' := 20) X31 hx (hb hby own_d15_19) rfl rfl ?_
  refine own_iloadN (pc' := 21) X31 hx (hb hby own_d15_20) rfl rfl ?_
  refine own_iadd (pc' := 22) (z := (7 : Int32)) X31 hx (hb hby own_d15_21) rfl (by decide) ?_
  refine own_icmpNo (pc' := 25) X31 hx (hb hby own_d15_22) rfl (tlt (by decide)).2.1 ?_
  refine own_aloadN (pc' := 26) X31 hx (hb hby own_d15_25) rfl rfl rfl ?_
  refine own_iload (pc' := 28) X31 hx (hb hby own_d15_26) rfl rfl ?_
  refine own_callV (pc' := 31) (y := (⟨"java/lang/String", "charAt", "(I)C"⟩ : MethodName)) (W := 0) (rm := own_room16) (argsL := [(.int (5 : Int32))]) (rest := []) (b := a) (C := "java/lang/String") X31 hx hZ Kq31 hown (by rw [hml]; rfl) G0 (own_w64 hw) (own_w65 hw) (own_w67 hw) (own_w66 hw) (own_w4 hw) (own_w68 hw) (by decide) (own_rm16 lch Z a0 hw [] a (5 : Int32) i vb vk [(.int (own_byt c0)), (.int (own_byt c1)), (.int (own_byt c2)), (.int (own_byt c3)), (.int (own_byt c4)), (.int (own_byt c5)), (.int (own_byt c6)), (.int (own_byt c7)), (.int (own_byt c8)), (.int (own_byt c9))] wf c5 h0 n0 F0 S0 hi G0 F1 V0 S1 hwf (by decide) rfl rc5) (by decide) (by decide) (by decide) (by decide) (lenOf own_pd10 rfl) rfl (by exact Nat.le_of_eq rfl) (hb hby own_d15_28) rfl ?_
  intro T32 Lc32 v32 X32 hQ32
  obtain ⟨rfl, Nq32, Kq32⟩ := hQ32
  have N32 := Fr.app N31 Nq32
  show own_Ends prg e below s _ _ _ T32 (mkF m 31 #[.val (.ref a), .val (.int (5 : Int32)), .val (.int (2 : Int32)), .val (.int (0 : Int32)), .val (.int (5 : Int32)), .unset] [(.int c5)])
  refine own_istore (pc' := 33) (l' := #[.val (.ref a), .val (.int (5 : Int32)), .val (.int (2 : Int32)), .val (.int (0 : Int32)), .val (.int (5 : Int32)), .val (.int c5)]) X32 hx (hb hby own_d15_31) rfl rfl ?_
  refine own_iload (pc' := 35) X32 hx (hb hby own_d15_33) rfl rfl ?_
  refine own_bipush (pc' := 37) (z := (48 : Int32)) X32 hx (hb hby own_d15_35) rfl rfl ?_
  by_cases hc37_33 : c5 < (48 : Int32)
  · refine own_icmpYes (pc' := 47) X32 hx (hb hby own_d15_37) (tlt hc37_33).1 (by decide) (by decide) ?_
    refine own_iconst (pc' := 48) (z := (-1 : Int32)) X32 hx (hb hby own_d15_47) rfl rfl ?_
    refine own_retI X32 hx hlk hret (hb hby own_d15_48) (by decide) (by decide) ?_
    have i_hc37_33 : c5.toInt < 48 := own_i1 hc37_33
    exact ⟨_, rfl, N32, Kq32, fun q => by omega, fun _ => by decide⟩
  · refine own_icmpNo (pc' := 40) X32 hx (hb hby own_d15_37) rfl (flt hc37_33).1 ?_
    refine own_iload (pc' := 42) X32 hx (hb hby own_d15_40) rfl rfl ?_
    refine own_bipush (pc' := 44) (z := (57 : Int32)) X32 hx (hb hby own_d15_42) rfl rfl ?_
    by_cases hc44_34 : (57 : Int32) < c5
    · refine own_icmpNo (pc' := 47) X32 hx (hb hby own_d15_44) rfl (tlt hc44_34).2.2.2 ?_
      refine own_iconst (pc' := 48) (z := (-1 : Int32)) X32 hx (hb hby own_d15_47) rfl rfl ?_
      refine own_retI X32 hx hlk hret (hb hby own_d15_48) (by decide) (by decide) ?_
      have i_hc37_33 : 48 ≤ c5.toInt := own_i2 hc37_33
      have i_hc44_34 : 57 < c5.toInt := own_i1 hc44_34
      exact ⟨_, rfl, N32, Kq32, fun q => by omega, fun _ => by decide⟩
    · refine own_icmpYes (pc' := 49) X32 hx (hb hby own_d15_44) (flt hc44_34).2.2.2 (by decide) (by decide) ?_
      refine own_bipush (pc' := 51) (z := (10 : Int32)) X32 hx (hb hby own_d15_49) rfl rfl ?_
      refine own_iloadN (pc' := 52) X32 hx (hb hby own_d15_51) rfl rfl ?_
      refine own_imul (pc' := 53) (z := (0 : Int32)) X32 hx (hb hby own_d15_52) rfl (by decide) ?_
      refine own_iload (pc' := 55) X32 hx (hb hby own_d15_53) rfl rfl ?_
      refine own_iadd (pc' := 56) (z := ((0 : Int32) + c5)) X32 hx (hb hby own_d15_55) rfl rfl ?_
      refine own_bipush (pc' := 58) (z := (48 : Int32)) X32 hx (hb hby own_d15_56) rfl rfl ?_
      refine own_isub (pc' := 59) (z := (((0 : Int32) + c5) - (48 : Int32))) X32 hx (hb hby own_d15_58) rfl rfl ?_
      refine own_istoreN (pc' := 60) (l' := #[.val (.ref a), .val (.int (5 : Int32)), .val (.int (2 : Int32)), .val (.int (((0 : Int32) + c5) - (48 : Int32))), .val (.int (5 : Int32)), .val (.int c5)]) X32 hx (hb hby own_d15_59) rfl rfl ?_
      refine own_iinc (pc' := 63) (z := (6 : Int32)) (l' := #[.val (.ref a), .val (.int (5 : Int32)), .val (.int (2 : Int32)), .val (.int (((0 : Int32) + c5) - (48 : Int32))), .val (.int (6 : Int32)), .val (.int c5)]) X32 hx (hb hby own_d15_60) rfl rfl (by decide) rfl ?_
      refine own_goto (pc' := 17) X32 hx (hb hby own_d15_63) (by decide) (by decide) ?_
      refine own_iload (pc' := 19) X32 hx (hb hby own_d15_17) rfl rfl ?_
      refine own_iloadN (pc' := 20) X32 hx (hb hby own_d15_19) rfl rfl ?_
      refine own_iloadN (pc' := 21) X32 hx (hb hby own_d15_20) rfl rfl ?_
      refine own_iadd (pc' := 22) (z := (7 : Int32)) X32 hx (hb hby own_d15_21) rfl (by decide) ?_
      refine own_icmpNo (pc' := 25) X32 hx (hb hby own_d15_22) rfl (tlt (by decide)).2.1 ?_
      refine own_aloadN (pc' := 26) X32 hx (hb hby own_d15_25) rfl rfl rfl ?_
      refine own_iload (pc' := 28) X32 hx (hb hby own_d15_26) rfl rfl ?_
      refine own_callV (pc' := 31) (y := (⟨"java/lang/String", "charAt", "(I)C"⟩ : MethodName)) (W := 0) (rm := own_room16) (argsL := [(.int (6 : Int32))]) (rest := []) (b := a) (C := "java/lang/String") X32 hx hZ Kq32 hown (by rw [hml]; rfl) G0 (own_w64 hw) (own_w65 hw) (own_w67 hw) (own_w66 hw) (own_w4 hw) (own_w68 hw) (by decide) (own_rm16 lch Z a0 hw [] a (6 : Int32) i vb vk [(.int (own_byt c0)), (.int (own_byt c1)), (.int (own_byt c2)), (.int (own_byt c3)), (.int (own_byt c4)), (.int (own_byt c5)), (.int (own_byt c6)), (.int (own_byt c7)), (.int (own_byt c8)), (.int (own_byt c9))] wf c6 h0 n0 F0 S0 hi G0 F1 V0 S1 hwf (by decide) rfl rc6) (by decide) (by decide) (by decide) (by decide) (lenOf own_pd10 rfl) rfl (by exact Nat.le_of_eq rfl) (hb hby own_d15_28) rfl ?_
      intro T35 Lc35 v35 X35 hQ35
      obtain ⟨rfl, Nq35, Kq35⟩ := hQ35
      have N35 := Fr.app N32 Nq35
      show own_Ends prg e below s _ _ _ T35 (mkF m 31 #[.val (.ref a), .val (.int (5 : Int32)), .val (.int (2 : Int32)), .val (.int (((0 : Int32) + c5) - (48 : Int32))), .val (.int (6 : Int32)), .val (.int c5)] [(.int c6)])
      refine own_istore (pc' := 33) (l' := #[.val (.ref a), .val (.int (5 : Int32)), .val (.int (2 : Int32)), .val (.int (((0 : Int32) + c5) - (48 : Int32))), .val (.int (6 : Int32)), .val (.int c6)]) X35 hx (hb hby own_d15_31) rfl rfl ?_
      refine own_iload (pc' := 35) X35 hx (hb hby own_d15_33) rfl rfl ?_
      refine own_bipush (pc' := 37) (z := (48 : Int32)) X35 hx (hb hby own_d15_35) rfl rfl ?_
      by_cases hc37_36 : c6 < (48 : Int32)
      · refine own_icmpYes (pc' := 47) X35 hx (hb hby own_d15_37) (tlt hc37_36).1 (by decide) (by decide) ?_
        refine own_iconst (pc' := 48) (z := (-1 : Int32)) X35 hx (hb hby own_d15_47) rfl rfl ?_
        refine own_retI X35 hx hlk hret (hb hby own_d15_48) (by decide) (by decide) ?_
        have i_hc37_33 : 48 ≤ c5.toInt := own_i2 hc37_33
        have i_hc44_34 : c5.toInt ≤ 57 := own_i2 hc44_34
        have i_hc37_36 : c6.toInt < 48 := own_i1 hc37_36
        exact ⟨_, rfl, N35, Kq35, fun q => by omega, fun _ => by decide⟩
      · refine own_icmpNo (pc' := 40) X35 hx (hb hby own_d15_37) rfl (flt hc37_36).1 ?_
        refine own_iload (pc' := 42) X35 hx (hb hby own_d15_40) rfl rfl ?_
        refine own_bipush (pc' := 44) (z := (57 : Int32)) X35 hx (hb hby own_d15_42) rfl rfl ?_
        by_cases hc44_37 : (57 : Int32) < c6
        · refine own_icmpNo (pc' := 47) X35 hx (hb hby own_d15_44) rfl (tlt hc44_37).2.2.2 ?_
          refine own_iconst (pc' := 48) (z := (-1 : Int32)) X35 hx (hb hby own_d15_47) rfl rfl ?_
          refine own_retI X35 hx hlk hret (hb hby own_d15_48) (by decide) (by decide) ?_
          have i_hc37_33 : 48 ≤ c5.toInt := own_i2 hc37_33
          have i_hc44_34 : c5.toInt ≤ 57 := own_i2 hc44_34
          have i_hc37_36 : 48 ≤ c6.toInt := own_i2 hc37_36
          have i_hc44_37 : 57 < c6.toInt := own_i1 hc44_37
          exact ⟨_, rfl, N35, Kq35, fun q => by omega, fun _ => by decide⟩
        · refine own_icmpYes (pc' := 49) X35 hx (hb hby own_d15_44) (flt hc44_37).2.2.2 (by decide) (by decide) ?_
          refine own_bipush (pc' := 51) (z := (10 : Int32)) X35 hx (hb hby own_d15_49) rfl rfl ?_
          refine own_iloadN (pc' := 52) X35 hx (hb hby own_d15_51) rfl rfl ?_
          refine own_imul (pc' := 53) (z := ((10 : Int32) * (((0 : Int32) + c5) - (48 : Int32)))) X35 hx (hb hby own_d15_52) rfl rfl ?_
          refine own_iload (pc' := 55) X35 hx (hb hby own_d15_53) rfl rfl ?_
          refine own_iadd (pc' := 56) (z := (((10 : Int32) * (((0 : Int32) + c5) - (48 : Int32))) + c6)) X35 hx (hb hby own_d15_55) rfl rfl ?_
          refine own_bipush (pc' := 58) (z := (48 : Int32)) X35 hx (hb hby own_d15_56) rfl rfl ?_
          refine own_isub (pc' := 59) (z := ((((10 : Int32) * (((0 : Int32) + c5) - (48 : Int32))) + c6) - (48 : Int32))) X35 hx (hb hby own_d15_58) rfl rfl ?_
          refine own_istoreN (pc' := 60) (l' := #[.val (.ref a), .val (.int (5 : Int32)), .val (.int (2 : Int32)), .val (.int ((((10 : Int32) * (((0 : Int32) + c5) - (48 : Int32))) + c6) - (48 : Int32))), .val (.int (6 : Int32)), .val (.int c6)]) X35 hx (hb hby own_d15_59) rfl rfl ?_
          refine own_iinc (pc' := 63) (z := (7 : Int32)) (l' := #[.val (.ref a), .val (.int (5 : Int32)), .val (.int (2 : Int32)), .val (.int ((((10 : Int32) * (((0 : Int32) + c5) - (48 : Int32))) + c6) - (48 : Int32))), .val (.int (7 : Int32)), .val (.int c6)]) X35 hx (hb hby own_d15_60) rfl rfl (by decide) rfl ?_
          refine own_goto (pc' := 17) X35 hx (hb hby own_d15_63) (by decide) (by decide) ?_
          refine own_iload (pc' := 19) X35 hx (hb hby own_d15_17) rfl rfl ?_
          refine own_iloadN (pc' := 20) X35 hx (hb hby own_d15_19) rfl rfl ?_
          refine own_iloadN (pc' := 21) X35 hx (hb hby own_d15_20) rfl rfl ?_
          refine own_iadd (pc' := 22) (z := (7 : Int32)) X35 hx (hb hby own_d15_21) rfl (by decide) ?_
          refine own_icmpYes (pc' := 66) X35 hx (hb hby own_d15_22) (flt (by decide)).2.1 (by decide) (by decide) ?_
          refine own_iloadN (pc' := 67) X35 hx (hb hby own_d15_66) rfl rfl ?_
          refine own_retI X35 hx hlk hret (hb hby own_d15_67) (by decide) (by decide) ?_
          have i_hc37_33 : 48 ≤ c5.toInt := own_i2 hc37_33
          have i_hc44_34 : c5.toInt ≤ 57 := own_i2 hc44_34
          have i_hc37_36 : 48 ≤ c6.toInt := own_i2 hc37_36
          have i_hc44_37 : c6.toInt ≤ 57 := own_i2 hc44_37
          have t0 := own_st0 (c := c5) ⟨by omega, by omega⟩
          have t1 := own_st (v := (((0 : Int32) + c5) - (48 : Int32))) (c := c6) (by omega) ⟨by omega, by omega⟩
          exact ⟨_, rfl, N35, Kq35, fun _ => by omega, fun q => by omega⟩
def own_room15_8 : Room := { frames := 4, cells := 0, slots := 0, locals := 53 }
def own_Q15_8 (Z : State) (a : Addr) (i : Int32) (vb : Addr) (vk : ClassId) (wf : Value) (c0 : Int32) (c1 : Int32) (c2 : Int32) (c3 : Int32) (c4 : Int32) (c5 : Int32) (c6 : Int32) (c7 : Int32) (c8 : Int32) (c9 : Int32) (h0 : Heap) (n0 : Nat) (v : Option Value) (h : Heap) (L : List Loc) : Prop := ∃ (r : Int32), v = some (.int r) ∧ Fr n0 L ∧ h = h0 ∧ ((48 ≤ c8.toInt ∧ c8.toInt ≤ 57) ∧ (48 ≤ c9.toInt ∧ c9.toInt ≤ 57) → r.toInt = 10 * (c8.toInt - 48) + (c9.toInt - 48)) ∧ (¬ ((48 ≤ c8.toInt ∧ c8.toInt ≤ 57) ∧ (48 ≤ c9.toInt ∧ c9.toInt ≤ 57)) → r.toInt = -1)
theorem own_ef_rm15_8 (m : MethodId) (x0 : Addr) (x1 : Int32) (x2 : Int32) : entryFrame m #[(.ref x0), (.int x1), (.int x2)] 6 = mkF m 0 #[.val (.ref x0), .val (.int x1), .val (.int x2), .unset, .unset, .unset] [] := by first | (simp [entryFrame, mkF, argsToLocals, Value.category]; done) | rfl
set_option maxRecDepth 65536 in
set_option maxHeartbeats 40000000 in
theorem own_rm15_8 (lch : Launch) (Z : State) (a0 : Array Value) (hw : ∀ d ∈ tables_1, d.before a0 Z = true) (ws : List Jvm.Cond) (a : Addr) (i : Int32) (vb : Addr) (vk : ClassId) (wf : Value) (c0 : Int32) (c1 : Int32) (c2 : Int32) (c3 : Int32) (c4 : Int32) (c5 : Int32) (c6 : Int32) (c7 : Int32) (c8 : Int32) (c9 : Int32) (h0 : Heap) (n0 : Nat) (F0 : Fld Z h0 a "java/lang/String" "coder" "B" (.int (0 : Int32))) (S0 : Sta Z h0 "java/lang/String" "COMPACT_STRINGS" "Z" (.int i)) (hi : ¬ i = (0 : Int32)) (G0 : Exa Z h0 a "java/lang/String") (F1 : Fld Z h0 a "java/lang/String" "value" "[B" (.ref vb)) (V0 : Arv Z h0 vb vk .byte (10 : Int32) [(.int (own_byt c0)), (.int (own_byt c1)), (.int (own_byt c2)), (.int (own_byt c3)), (.int (own_byt c4)), (.int (own_byt c5)), (.int (own_byt c6)), (.int (own_byt c7)), (.int (own_byt c8)), (.int (own_byt c9))] (.int (0 : Int32))) (S1 : Sta Z h0 "jdk/internal/util/Preconditions" "SIOOBE_FORMATTER" "Ljava/util/function/BiFunction;" wf) (hwf : wf.isRef = true) (rc0 : own_R c0) (rc1 : own_R c1) (rc2 : own_R c2) (rc3 : own_R c3) (rc4 : own_R c4) (rc5 : own_R c5) (rc6 : own_R c6) (rc7 : own_R c7) (rc8 : own_R c8) (rc9 : own_R c9) :
    MetFree lch (⟨"com/example/exacting_validator/exactingvalidator/validator/Rfc3339", "digits", "(Ljava/lang/String;II)I"⟩ : MethodName) (head1 (Jvm.Cond.code (⟨"com/example/exacting_validator/exactingvalidator/validator/Rfc3339", "digits", "(Ljava/lang/String;II)I"⟩ : MethodName) prog_7_method_11_code 6 (some .int) :: ws) own_room15_8) (fun zz U => zz = #[(.ref a), (.int (8 : Int32)), (.int (2 : Int32))] ∧ Z.Warmed39 U.vm ∧ U.heap = h0) (fun _ _ _ _ _ => True) (fun _ U o U' => ∃ v L, o = .returned v ∧ own_Q15_8 Z a i vb vk wf c0 c1 c2 c3 c4 c5 c6 c7 c8 c9 h0 n0 v U'.heap L ∧ FrameEnd U o U' L own_room15_8.cells own_room15_8.slots) := by
  refine MetFree.of_bodySF (plainFor_of_name own_pn5) hisR ?_
  intro prg e s m args below meth c s₁ Bd hml0 hP hK
  obtain ⟨rfl, hZ, hh⟩ := hP
  have hx := Bd.exec
  have hby := Bd.bytes
  have hml : c.maxLocals = 6 := hml0
  have hown : s.vm.findClass "com/example/exacting_validator/exactingvalidator/validator/Rfc3339" = some m.cls := findClass_of_methodNamed Bd.named
  have hnm := (name_of_methodNamed Bd.named Bd.method).1
  have hlk : meth.locks = false := BodyLoose.notSynchronized Bd
  have hret := Bd.returns
  have X0 : Stand prg lch e own_room15_8 s m #[(.ref a), (.int (8 : Int32)), (.int (2 : Int32))] below meth c s₁ [] 0 0 := Stand.of_body Bd
  have e0 : s₁.heap = h0 := by rw [← hh, Bd.state]; rfl
  have N0 := Fr.nil n0
  show own_Ends prg e below s (own_Q15_8 Z a i vb vk wf c0 c1 c2 c3 c4 c5 c6 c7 c8 c9 h0 n0) own_room15_8.cells own_room15_8.slots s₁ (entryFrame m #[(.ref a), (.int (8 : Int32)), (.int (2 : Int32))] 6)
  refine own_cast (own_ef_rm15_8 m a (8 : Int32) (2 : Int32)) ?_
  refine own_aloadN (pc' := 1) X0 hx (hb hby own_d15_0) rfl rfl rfl ?_
  refine own_callV (pc' := 4) (y := (⟨"java/lang/String", "length", "()I"⟩ : MethodName)) (W := 0) (rm := own_room12_10) (argsL := []) (rest := []) (b := a) (C := "java/lang/String") X0 hx hZ e0 hown (by rw [hml]; rfl) G0 (own_w48 hw) (own_w49 hw) (own_w51 hw) (own_w50 hw) (own_w4 hw) (own_w52 hw) (by decide) (own_rm12_10 lch Z a0 hw [] a i vb vk _ h0 n0 F0 S0 hi G0 F1 V0) (by decide) (by decide) (by decide) (by decide) (lenOf own_pd9 rfl) rfl (by exact Nat.le_of_eq rfl) (hb hby own_d15_1) rfl ?_
  intro T31 Lc31 v31 X31 hQ31
  obtain ⟨rfl, Nq31, Kq31⟩ := hQ31
  have N31 := Fr.app N0 Nq31
  show own_Ends prg e below s _ _ _ T31 (mkF m 4 #[.val (.ref a), .val (.int (8 : Int32)), .val (.int (2 : Int32)), .unset, .unset, .unset] [(.int (10 : Int32))])
  refine own_iloadN (pc' := 5) X31 hx (hb hby own_d15_4) rfl rfl ?_
  refine own_iloadN (pc' := 6) X31 hx (hb hby own_d15_5) rfl rfl ?_
  refine own_iadd (pc' := 7) (z := (10 : Int32)) X31 hx (hb hby own_d15_6) rfl (by decide) ?_
  refine own_icmpYes (pc' := 12) X31 hx (hb hby own_d15_7) (flt (by decide)).2.1 (by decide) (by decide) ?_
  refine own_iconst (pc' := 13) (z := (0 : Int32)) X31 hx (hb hby own_d15_12) rfl rfl ?_
  refine own_istoreN (pc' := 14) (l' := #[.val (.ref a), .val (.int (8 : Int32)), .val (.int (2 : Int32)), .val (.int (0 : Int32)), .unset, .unset]) X31 hx (hb hby own_d15_13) rfl rfl ?_
  refine own_iloadN (pc' := 15) X31 hx (hb hby own_d15_14) rfl rfl ?_
  refine own_istore (pc' := 17) (l' := #[.val (.ref a), .val (.int (8 : Int32)), .val (.int (2 : Int32)), .val (.int (0 : Int32)), .val (.int (8 : Int32)), .unset]) X31 hx (hb hby own_d15_15) rfl rfl ?_
  refine own_iload (pc' := 19) X31 hx (hb hby own_d15_17) rfl rfl ?_
  refine own_iloadN (pc' := 20) X31 hx (hb hby own_d15_19) rfl rfl ?_
  refine own_iloadN (pc' := 21) X31 hx (hb hby own_d15_20) rfl rfl ?_
  refine own_iadd (pc' := 22) (z := (10 : Int32)) X31 hx (hb hby own_d15_21) rfl (by decide) ?_
  refine own_icmpNo (pc' := 25) X31 hx (hb hby own_d15_22) rfl (tlt (by decide)).2.1 ?_
  refine own_aloadN (pc' := 26) X31 hx (hb hby own_d15_25) rfl rfl rfl ?_
  refine own_iload (pc' := 28) X31 hx (hb hby own_d15_26) rfl rfl ?_
  refine own_callV (pc' := 31) (y := (⟨"java/lang/String", "charAt", "(I)C"⟩ : MethodName)) (W := 0) (rm := own_room16) (argsL := [(.int (8 : Int32))]) (rest := []) (b := a) (C := "java/lang/String") X31 hx hZ Kq31 hown (by rw [hml]; rfl) G0 (own_w64 hw) (own_w65 hw) (own_w67 hw) (own_w66 hw) (own_w4 hw) (own_w68 hw) (by decide) (own_rm16 lch Z a0 hw [] a (8 : Int32) i vb vk [(.int (own_byt c0)), (.int (own_byt c1)), (.int (own_byt c2)), (.int (own_byt c3)), (.int (own_byt c4)), (.int (own_byt c5)), (.int (own_byt c6)), (.int (own_byt c7)), (.int (own_byt c8)), (.int (own_byt c9))] wf c8 h0 n0 F0 S0 hi G0 F1 V0 S1 hwf (by decide) rfl rc8) (by decide) (by decide) (by decide) (by decide) (lenOf own_pd10 rfl) rfl (by exact Nat.le_of_eq rfl) (hb hby own_d15_28) rfl ?_
  intro T32 Lc32 v32 X32 hQ32
  obtain ⟨rfl, Nq32, Kq32⟩ := hQ32
  have N32 := Fr.app N31 Nq32
  show own_Ends prg e below s _ _ _ T32 (mkF m 31 #[.val (.ref a), .val (.int (8 : Int32)), .val (.int (2 : Int32)), .val (.int (0 : Int32)), .val (.int (8 : Int32)), .unset] [(.int c8)])
  refine own_istore (pc' := 33) (l' := #[.val (.ref a), .val (.int (8 : Int32)), .val (.int (2 : Int32)), .val (.int (0 : Int32)), .val (.int (8 : Int32)), .val (.int c8)]) X32 hx (hb hby own_d15_31) rfl rfl ?_
  refine own_iload (pc' := 35) X32 hx (hb hby own_d15_33) rfl rfl ?_
  refine own_bipush (pc' := 37) (z := (48 : Int32)) X32 hx (hb hby own_d15_35) rfl rfl ?_
  by_cases hc37_33 : c8 < (48 : Int32)
  · refine own_icmpYes (pc' := 47) X32 hx (hb hby own_d15_37) (tlt hc37_33).1 (by decide) (by decide) ?_
    refine own_iconst (pc' := 48) (z := (-1 : Int32)) X32 hx (hb hby own_d15_47) rfl rfl ?_
    refine own_retI X32 hx hlk hret (hb hby own_d15_48) (by decide) (by decide) ?_
    have i_hc37_33 : c8.toInt < 48 := own_i1 hc37_33
    exact ⟨_, rfl, N32, Kq32, fun q => by omega, fun _ => by decide⟩
  · refine own_icmpNo (pc' := 40) X32 hx (hb hby own_d15_37) rfl (flt hc37_33).1 ?_
    refine own_iload (pc' := 42) X32 hx (hb hby own_d15_40) rfl rfl ?_
    refine own_bipush (pc' := 44) (z := (57 : Int32)) X32 hx (hb hby own_d15_42) rfl rfl ?_
    by_cases hc44_34 : (57 : Int32) < c8
    · refine own_icmpNo (pc' := 47) X32 hx (hb hby own_d15_44) rfl (tlt hc44_34).2.2.2 ?_
      refine own_iconst (pc' := 48) (z := (-1 : Int32)) X32 hx (hb hby own_d15_47) rfl rfl ?_
      refine own_retI X32 hx hlk hret (hb hby own_d15_48) (by decide) (by decide) ?_
      have i_hc37_33 : 48 ≤ c8.toInt := own_i2 hc37_33
      have i_hc44_34 : 57 < c8.toInt := own_i1 hc44_34
      exact ⟨_, rfl, N32, Kq32, fun q => by omega, fun _ => by decide⟩
    · refine own_icmpYes (pc' := 49) X32 hx (hb hby own_d15_44) (flt hc44_34).2.2.2 (by decide) (by decide) ?_
      refine own_bipush (pc' := 51) (z := (10 : Int32)) X32 hx (hb hby own_d15_49) rfl rfl ?_
      refine own_iloadN (pc' := 52) X32 hx (hb hby own_d15_51) rfl rfl ?_
      refine own_imul (pc' := 53) (z := (0 : Int32)) X32 hx (hb hby own_d15_52) rfl (by decide) ?_
      refine own_iload (pc' := 55) X32 hx (hb hby own_d15_53) rfl rfl ?_
      refine own_iadd (pc' := 56) (z := ((0 : Int32) + c8)) X32 hx (hb hby own_d15_55) rfl rfl ?_
      refine own_bipush (pc' := 58) (z := (48 : Int32)) X32 hx (hb hby own_d15_56) rfl rfl ?_
      refine own_isub (pc' := 59) (z := (((0 : Int32) + c8) - (48 : Int32))) X32 hx (hb hby own_d15_58) rfl rfl ?_
      refine own_istoreN (pc' := 60) (l' := #[.val (.ref a), .val (.int (8 : Int32)), .val (.int (2 : Int32)), .val (.int (((0 : Int32) + c8) - (48 : Int32))), .val (.int (8 : Int32)), .val (.int c8)]) X32 hx (hb hby own_d15_59) rfl rfl ?_
      refine own_iinc (pc' := 63) (z := (9 : Int32)) (l' := #[.val (.ref a), .val (.int (8 : Int32)), .val (.int (2 : Int32)), .val (.int (((0 : Int32) + c8) - (48 : Int32))), .val (.int (9 : Int32)), .val (.int c8)]) X32 hx (hb hby own_d15_60) rfl rfl (by decide) rfl ?_
      refine own_goto (pc' := 17) X32 hx (hb hby own_d15_63) (by decide) (by decide) ?_
      refine own_iload (pc' := 19) X32 hx (hb hby own_d15_17) rfl rfl ?_
      refine own_iloadN (pc' := 20) X32 hx (hb hby own_d15_19) rfl rfl ?_
      refine own_iloadN (pc' := 21) X32 hx (hb hby own_d15_20) rfl rfl ?_
      refine own_iadd (pc' := 22) (z := (10 : Int32)) X32 hx (hb hby own_d15_21) rfl (by decide) ?_
      refine own_icmpNo (pc' := 25) X32 hx (hb hby own_d15_22) rfl (tlt (by decide)).2.1 ?_
      refine own_aloadN (pc' := 26) X32 hx (hb hby own_d15_25) rfl rfl rfl ?_
      refine own_iload (pc' := 28) X32 hx (hb hby own_d15_26) rfl rfl ?_
      refine own_callV (pc' := 31) (y := (⟨"java/lang/String", "charAt", "(I)C"⟩ : MethodName)) (W := 0) (rm := own_room16) (argsL := [(.int (9 : Int32))]) (rest := []) (b := a) (C := "java/lang/String") X32 hx hZ Kq32 hown (by rw [hml]; rfl) G0 (own_w64 hw) (own_w65 hw) (own_w67 hw) (own_w66 hw) (own_w4 hw) (own_w68 hw) (by decide) (own_rm16 lch Z a0 hw [] a (9 : Int32) i vb vk [(.int (own_byt c0)), (.int (own_byt c1)), (.int (own_byt c2)), (.int (own_byt c3)), (.int (own_byt c4)), (.int (own_byt c5)), (.int (own_byt c6)), (.int (own_byt c7)), (.int (own_byt c8)), (.int (own_byt c9))] wf c9 h0 n0 F0 S0 hi G0 F1 V0 S1 hwf (by decide) rfl rc9) (by decide) (by decide) (by decide) (by decide) (lenOf own_pd10 rfl) rfl (by exact Nat.le_of_eq rfl) (hb hby own_d15_28) rfl ?_
      intro T35 Lc35 v35 X35 hQ35
      obtain ⟨rfl, Nq35, Kq35⟩ := hQ35
      have N35 := Fr.app N32 Nq35
      show own_Ends prg e below s _ _ _ T35 (mkF m 31 #[.val (.ref a), .val (.int (8 : Int32)), .val (.int (2 : Int32)), .val (.int (((0 : Int32) + c8) - (48 : Int32))), .val (.int (9 : Int32)), .val (.int c8)] [(.int c9)])
      refine own_istore (pc' := 33) (l' := #[.val (.ref a), .val (.int (8 : Int32)), .val (.int (2 : Int32)), .val (.int (((0 : Int32) + c8) - (48 : Int32))), .val (.int (9 : Int32)), .val (.int c9)]) X35 hx (hb hby own_d15_31) rfl rfl ?_
      refine own_iload (pc' := 35) X35 hx (hb hby own_d15_33) rfl rfl ?_
      refine own_bipush (pc' := 37) (z := (48 : Int32)) X35 hx (hb hby own_d15_35) rfl rfl ?_
      by_cases hc37_36 : c9 < (48 : Int32)
      · refine own_icmpYes (pc' := 47) X35 hx (hb hby own_d15_37) (tlt hc37_36).1 (by decide) (by decide) ?_
        refine own_iconst (pc' := 48) (z := (-1 : Int32)) X35 hx (hb hby own_d15_47) rfl rfl ?_
        refine own_retI X35 hx hlk hret (hb hby own_d15_48) (by decide) (by decide) ?_
        have i_hc37_33 : 48 ≤ c8.toInt := own_i2 hc37_33
        have i_hc44_34 : c8.toInt ≤ 57 := own_i2 hc44_34
        have i_hc37_36 : c9.toInt < 48 := own_i1 hc37_36
        exact ⟨_, rfl, N35, Kq35, fun q => by omega, fun _ => by decide⟩
      · refine own_icmpNo (pc' := 40) X35 hx (hb hby own_d15_37) rfl (flt hc37_36).1 ?_
        refine own_iload (pc' := 42) X35 hx (hb hby own_d15_40) rfl rfl ?_
        refine own_bipush (pc' := 44) (z := (57 : Int32)) X35 hx (hb hby own_d15_42) rfl rfl ?_
        by_cases hc44_37 : (57 : Int32) < c9
        · refine own_icmpNo (pc' := 47) X35 hx (hb hby own_d15_44) rfl (tlt hc44_37).2.2.2 ?_
          refine own_iconst (pc' := 48) (z := (-1 : Int32)) X35 hx (hb hby own_d15_47) rfl rfl ?_
          refine own_retI X35 hx hlk hret (hb hby own_d15_48) (by decide) (by decide) ?_
          have i_hc37_33 : 48 ≤ c8.toInt := own_i2 hc37_33
          have i_hc44_34 : c8.toInt ≤ 57 := own_i2 hc44_34
          have i_hc37_36 : 48 ≤ c9.toInt := own_i2 hc37_36
          have i_hc44_37 : 57 < c9.toInt := own_i1 hc44_37
          exact ⟨_, rfl, N35, Kq35, fun q => by omega, fun _ => by decide⟩
        · refine own_icmpYes (pc' := 49) X35 hx (hb hby own_d15_44) (flt hc44_37).2.2.2 (by decide) (by decide) ?_
          refine own_bipush (pc' := 51) (z := (10 : Int32)) X35 hx (hb hby own_d15_49) rfl rfl ?_
          refine own_iloadN (pc' := 52) X35 hx (hb hby own_d15_51) rfl rfl ?_
          refine own_imul (pc' := 53) (z := ((10 : Int32) * (((0 : Int32) + c8) - (48 : Int32)))) X35 hx (hb hby own_d15_52) rfl rfl ?_
          refine own_iload (pc' := 55) X35 hx (hb hby own_d15_53) rfl rfl ?_
          refine own_iadd (pc' := 56) (z := (((10 : Int32) * (((0 : Int32) + c8) - (48 : Int32))) + c9)) X35 hx (hb hby own_d15_55) rfl rfl ?_
          refine own_bipush (pc' := 58) (z := (48 : Int32)) X35 hx (hb hby own_d15_56) rfl rfl ?_
          refine own_isub (pc' := 59) (z := ((((10 : Int32) * (((0 : Int32) + c8) - (48 : Int32))) + c9) - (48 : Int32))) X35 hx (hb hby own_d15_58) rfl rfl ?_
          refine own_istoreN (pc' := 60) (l' := #[.val (.ref a), .val (.int (8 : Int32)), .val (.int (2 : Int32)), .val (.int ((((10 : Int32) * (((0 : Int32) + c8) - (48 : Int32))) + c9) - (48 : Int32))), .val (.int (9 : Int32)), .val (.int c9)]) X35 hx (hb hby own_d15_59) rfl rfl ?_
          refine own_iinc (pc' := 63) (z := (10 : Int32)) (l' := #[.val (.ref a), .val (.int (8 : Int32)), .val (.int (2 : Int32)), .val (.int ((((10 : Int32) * (((0 : Int32) + c8) - (48 : Int32))) + c9) - (48 : Int32))), .val (.int (10 : Int32)), .val (.int c9)]) X35 hx (hb hby own_d15_60) rfl rfl (by decide) rfl ?_
          refine own_goto (pc' := 17) X35 hx (hb hby own_d15_63) (by decide) (by decide) ?_
          refine own_iload (pc' := 19) X35 hx (hb hby own_d15_17) rfl rfl ?_
          refine own_iloadN (pc' := 20) X35 hx (hb hby own_d15_19) rfl rfl ?_
          refine own_iloadN (pc' := 21) X35 hx (hb hby own_d15_20) rfl rfl ?_
          refine own_iadd (pc' := 22) (z := (10 : Int32)) X35 hx (hb hby own_d15_21) rfl (by decide) ?_
          refine own_icmpYes (pc' := 66) X35 hx (hb hby own_d15_22) (flt (by decide)).2.1 (by decide) (by decide) ?_
          refine own_iloadN (pc' := 67) X35 hx (hb hby own_d15_66) rfl rfl ?_
          refine own_retI X35 hx hlk hret (hb hby own_d15_67) (by decide) (by decide) ?_
          have i_hc37_33 : 48 ≤ c8.toInt := own_i2 hc37_33
          have i_hc44_34 : c8.toInt ≤ 57 := own_i2 hc44_34
          have i_hc37_36 : 48 ≤ c9.toInt := own_i2 hc37_36
          have i_hc44_37 : c9.toInt ≤ 57 := own_i2 hc44_37
          have t0 := own_st0 (c := c8) ⟨by omega, by omega⟩
          have t1 := own_st (v := (((0 : Int32) + c8) - (48 : Int32))) (c := c9) (by omega) ⟨by omega, by omega⟩
          exact ⟨_, rfl, N35, Kq35, fun _ => by omega, fun q => by omega⟩
def own_room10 : Room := { frames := 0, cells := 0, slots := 0, locals := 0 }
def own_Q10 (Z : State) (p0 : Int32) (p1 : Int32) (h0 : Heap) (n0 : Nat) (v : Option Value) (h : Heap) (L : List Loc) : Prop := ∃ (r : Int32), v = some (.int r) ∧ Fr n0 L ∧ h = h0 ∧ r.toInt = own_ml p0.toInt p1.toInt
theorem own_ef_rm10 (m : MethodId) (x0 : Int32) (x1 : Int32) : entryFrame m #[(.int x0), (.int x1)] 3 = mkF m 0 #[.val (.int x0), .val (.int x1), .unset] [] := by first | (simp [entryFrame, mkF, argsToLocals, Value.category]; done) | rfl
set_option maxRecDepth 65536 in
set_option maxHeartbeats 40000000 in
theorem own_rm10 (lch : Launch) (Z : State) (a0 : Array Value) (hw : ∀ d ∈ tables_1, d.before a0 Z = true) (ws : List Jvm.Cond) (p0 : Int32) (p1 : Int32) (h0 : Heap) (n0 : Nat) (hm : 1 ≤ p0.toInt ∧ p0.toInt ≤ 12) (hy : 0 ≤ p1.toInt ∧ p1.toInt ≤ 9999) :
    MetFree lch (⟨"com/example/exacting_validator/exactingvalidator/validator/Rfc3339IsFullDatePinLaw", "monthLength", "(II)I"⟩ : MethodName) (head1 (Jvm.Cond.code (⟨"com/example/exacting_validator/exactingvalidator/validator/Rfc3339IsFullDatePinLaw", "monthLength", "(II)I"⟩ : MethodName) method_7_code 3 (some .int) :: ws) own_room10) (fun zz U => zz = #[(.int p0), (.int p1)] ∧ Z.Warmed39 U.vm ∧ U.heap = h0) (fun _ _ _ _ _ => True) (fun _ U o U' => ∃ v L, o = .returned v ∧ own_Q10 Z p0 p1 h0 n0 v U'.heap L ∧ FrameEnd U o U' L own_room10.cells own_room10.slots) := by
  refine MetFree.of_bodySF (plainFor_of_name own_pn0) hisR ?_
  intro prg e s m args below meth c s₁ Bd hml0 hP hK
  obtain ⟨rfl, hZ, hh⟩ := hP
  have hx := Bd.exec
  have hby := Bd.bytes
  have hml : c.maxLocals = 3 := hml0
  have hown : s.vm.findClass "com/example/exacting_validator/exactingvalidator/validator/Rfc3339IsFullDatePinLaw" = some m.cls := findClass_of_methodNamed Bd.named
  have hnm := (name_of_methodNamed Bd.named Bd.method).1
  have hlk : meth.locks = false := BodyLoose.notSynchronized Bd
  have hret := Bd.returns
  have X0 : Stand prg lch e own_room10 s m #[(.int p0), (.int p1)] below meth c s₁ [] 0 0 := Stand.of_body Bd
  have e0 : s₁.heap = h0 := by rw [← hh, Bd.state]; rfl
  have N0 := Fr.nil n0
  show own_Ends prg e below s (own_Q10 Z p0 p1 h0 n0) own_room10.cells own_room10.slots s₁ (entryFrame m #[(.int p0), (.int p1)] 3)
  refine own_cast (own_ef_rm10 m p0 p1) ?_
  refine own_iloadN (pc' := 1) X0 hx (hb hby own_d10_0) rfl rfl ?_
  refine own_iconst (pc' := 2) (z := (2 : Int32)) X0 hx (hb hby own_d10_1) rfl rfl ?_
  by_cases hc2_31 : p0 = (2 : Int32)
  · refine own_icmpNo (pc' := 5) X0 hx (hb hby own_d10_2) rfl (teq hc2_31).2 ?_
    refine own_iloadN (pc' := 6) X0 hx (hb hby own_d10_5) rfl rfl ?_
    refine own_sipush (pc' := 9) (z := (400 : Int32)) X0 hx (hb hby own_d10_6) rfl rfl ?_
    refine own_irem (pc' := 10) (z := (p1 % (400 : Int32))) X0 hx (hb hby own_d10_9) rfl (by decide) rfl ?_
    by_cases hc10_32 : (p1 % (400 : Int32)) = (0 : Int32)
    · refine own_ifYes (pc' := 26) X0 hx (hb hby own_d10_10) (teq hc10_32).1 (by decide) (by decide) ?_
      refine own_iconst (pc' := 27) (z := (1 : Int32)) X0 hx (hb hby own_d10_26) rfl rfl ?_
      refine own_goto (pc' := 31) X0 hx (hb hby own_d10_27) (by decide) (by decide) ?_
      refine own_istoreN (pc' := 32) (l' := #[.val (.int p0), .val (.int p1), .val (.int (1 : Int32))]) X0 hx (hb hby own_d10_31) rfl rfl ?_
      refine own_iloadN (pc' := 33) X0 hx (hb hby own_d10_32) rfl rfl ?_
      refine own_ifNo (pc' := 36) X0 hx (hb hby own_d10_33) rfl (feq (by decide)).1 ?_
      refine own_bipush (pc' := 38) (z := (29 : Int32)) X0 hx (hb hby own_d10_36) rfl rfl ?_
      refine own_goto (pc' := 43) X0 hx (hb hby own_d10_38) (by decide) (by decide) ?_
      refine own_retI X0 hx hlk hret (hb hby own_d10_43) (by decide) (by decide) ?_
      have q4 := (c_irem p1 4 4 rfl).1 hy.1
      have q1 := (c_irem p1 100 100 rfl).1 hy.1
      have q0 := (c_irem p1 400 400 rfl).1 hy.1
      have i_hc2_31 : p0.toInt = 2 := own_i3 hc2_31
      have i_hc10_32 : (p1 % (400 : Int32)).toInt = 0 := own_i3 hc10_32
      refine ⟨_, rfl, N0, e0, ?_⟩
      show (29 : Int) = _
      unfold own_ml
      split <;> (try split) <;> omega
    · refine own_ifNo (pc' := 13) X0 hx (hb hby own_d10_10) rfl (feq hc10_32).1 ?_
      refine own_iloadN (pc' := 14) X0 hx (hb hby own_d10_13) rfl rfl ?_
      refine own_iconst (pc' := 15) (z := (4 : Int32)) X0 hx (hb hby own_d10_14) rfl rfl ?_
      refine own_irem (pc' := 16) (z := (p1 % (4 : Int32))) X0 hx (hb hby own_d10_15) rfl (by decide) rfl ?_
      by_cases hc16_33 : (p1 % (4 : Int32)) = (0 : Int32)
      · refine own_ifNo (pc' := 19) X0 hx (hb hby own_d10_16) rfl (teq hc16_33).2 ?_
        refine own_iloadN (pc' := 20) X0 hx (hb hby own_d10_19) rfl rfl ?_
        refine own_bipush (pc' := 22) (z := (100 : Int32)) X0 hx (hb hby own_d10_20) rfl rfl ?_
        refine own_irem (pc' := 23) (z := (p1 % (100 : Int32))) X0 hx (hb hby own_d10_22) rfl (by decide) rfl ?_
        by_cases hc23_34 : (p1 % (100 : Int32)) = (0 : Int32)
        · refine own_ifYes (pc' := 30) X0 hx (hb hby own_d10_23) (teq hc23_34).1 (by decide) (by decide) ?_
          refine own_iconst (pc' := 31) (z := (0 : Int32)) X0 hx (hb hby own_d10_30) rfl rfl ?_
          refine own_istoreN (pc' := 32) (l' := #[.val (.int p0), .val (.int p1), .val (.int (0 : Int32))]) X0 hx (hb hby own_d10_31) rfl rfl ?_
          refine own_iloadN (pc' := 33) X0 hx (hb hby own_d10_32) rfl rfl ?_
          refine own_ifYes (pc' := 41) X0 hx (hb hby own_d10_33) (teq (by decide)).1 (by decide) (by decide) ?_
          refine own_bipush (pc' := 43) (z := (28 : Int32)) X0 hx (hb hby own_d10_41) rfl rfl ?_
          refine own_retI X0 hx hlk hret (hb hby own_d10_43) (by decide) (by decide) ?_
          have q4 := (c_irem p1 4 4 rfl).1 hy.1
          have q1 := (c_irem p1 100 100 rfl).1 hy.1
          have q0 := (c_irem p1 400 400 rfl).1 hy.1
          have i_hc2_31 : p0.toInt = 2 := own_i3 hc2_31
          have i_hc10_32 : ¬ (p1 % (400 : Int32)).toInt = 0 := own_i4 hc10_32
          have i_hc16_33 : (p1 % (4 : Int32)).toInt = 0 := own_i3 hc16_33
          have i_hc23_34 : (p1 % (100 : Int32)).toInt = 0 := own_i3 hc23_34
          refine ⟨_, rfl, N0, e0, ?_⟩
          show (28 : Int) = _
          unfold own_ml
          split <;> (try split) <;> omega
        · refine own_ifNo (pc' := 26) X0 hx (hb hby own_d10_23) rfl (feq hc23_34).1 ?_
          refine own_iconst (pc' := 27) (z := (1 : Int32)) X0 hx (hb hby own_d10_26) rfl rfl ?_
          refine own_goto (pc' := 31) X0 hx (hb hby own_d10_27) (by decide) (by decide) ?_
          refine own_istoreN (pc' := 32) (l' := #[.val (.int p0), .val (.int p1), .val (.int (1 : Int32))]) X0 hx (hb hby own_d10_31) rfl rfl ?_
          refine own_iloadN (pc' := 33) X0 hx (hb hby own_d10_32) rfl rfl ?_
          refine own_ifNo (pc' := 36) X0 hx (hb hby own_d10_33) rfl (feq (by decide)).1 ?_
          refine own_bipush (pc' := 38) (z := (29 : Int32)) X0 hx (hb hby own_d10_36) rfl rfl ?_
          refine own_goto (pc' := 43) X0 hx (hb hby own_d10_38) (by decide) (by decide) ?_
          refine own_retI X0 hx hlk hret (hb hby own_d10_43) (by decide) (by decide) ?_
          have q4 := (c_irem p1 4 4 rfl).1 hy.1
          have q1 := (c_irem p1 100 100 rfl).1 hy.1
          have q0 := (c_irem p1 400 400 rfl).1 hy.1
          have i_hc2_31 : p0.toInt = 2 := own_i3 hc2_31
          have i_hc10_32 : ¬ (p1 % (400 : Int32)).toInt = 0 := own_i4 hc10_32
          have i_hc16_33 : (p1 % (4 : Int32)).toInt = 0 := own_i3 hc16_33
          have i_hc23_34 : ¬ (p1 % (100 : Int32)).toInt = 0 := own_i4 hc23_34
          refine ⟨_, rfl, N0, e0, ?_⟩
          show (29 : Int) = _
          unfold own_ml
          split <;> (try split) <;> omega
      · refine own_ifYes (pc' := 30) X0 hx (hb hby own_d10_16) (feq hc16_33).2 (by decide) (by decide) ?_
        refine own_iconst (pc' := 31) (z := (0 : Int32)) X0 hx (hb hby own_d10_30) rfl rfl ?_
        refine own_istoreN (pc' := 32) (l' := #[.val (.int p0), .val (.int p1), .val (.int (0 : Int32))]) X0 hx (hb hby own_d10_31) rfl rfl ?_
        refine own_iloadN (pc' := 33) X0 hx (hb hby own_d10_32) rfl rfl ?_
        refine own_ifYes (pc' := 41) X0 hx (hb hby own_d10_33) (teq (by decide)).1 (by decide) (by decide) ?_
        refine own_bipush (pc' := 43) (z := (28 : Int32)) X0 hx (hb hby own_d10_41) rfl rfl ?_
        refine own_retI X0 hx hlk hret (hb hby own_d10_43) (by decide) (by decide) ?_
        have q4 := (c_irem p1 4 4 rfl).1 hy.1
        have q1 := (c_irem p1 100 100 rfl).1 hy.1
        have q0 := (c_irem p1 400 400 rfl).1 hy.1
        have i_hc2_31 : p0.toInt = 2 := own_i3 hc2_31
        have i_hc10_32 : ¬ (p1 % (400 : Int32)).toInt = 0 := own_i4 hc10_32
        have i_hc16_33 : ¬ (p1 % (4 : Int32)).toInt = 0 := own_i4 hc16_33
        refine ⟨_, rfl, N0, e0, ?_⟩
        show (28 : Int) = _
        unfold own_ml
        split <;> (try split) <;> omega
  · refine own_icmpYes (pc' := 44) X0 hx (hb hby own_d10_2) (feq hc2_31).2 (by decide) (by decide) ?_
    refine own_bipush (pc' := 46) (z := (30 : Int32)) X0 hx (hb hby own_d10_44) rfl rfl ?_
    refine own_iloadN (pc' := 47) X0 hx (hb hby own_d10_46) rfl rfl ?_
    refine own_iloadN (pc' := 48) X0 hx (hb hby own_d10_47) rfl rfl ?_
    refine own_bipush (pc' := 50) (z := (8 : Int32)) X0 hx (hb hby own_d10_48) rfl rfl ?_
    refine own_idiv (pc' := 51) (z := (p0 / (8 : Int32))) X0 hx (hb hby own_d10_50) rfl (by decide) rfl ?_
    refine own_iadd (pc' := 52) (z := (p0 + (p0 / (8 : Int32)))) X0 hx (hb hby own_d10_51) rfl rfl ?_
    refine own_iconst (pc' := 53) (z := (1 : Int32)) X0 hx (hb hby own_d10_52) rfl rfl ?_
    refine own_iand (pc' := 54) (z := ((p0 + (p0 / (8 : Int32))) &&& (1 : Int32))) X0 hx (hb hby own_d10_53) rfl rfl ?_
    refine own_iadd (pc' := 55) (z := ((30 : Int32) + ((p0 + (p0 / (8 : Int32))) &&& (1 : Int32)))) X0 hx (hb hby own_d10_54) rfl rfl ?_
    refine own_retI X0 hx hlk hret (hb hby own_d10_55) (by decide) (by decide) ?_
    have q4 := (c_irem p1 4 4 rfl).1 hy.1
    have q1 := (c_irem p1 100 100 rfl).1 hy.1
    have q0 := (c_irem p1 400 400 rfl).1 hy.1
    have i_hc2_31 : ¬ p0.toInt = 2 := own_i4 hc2_31
    exact ⟨_, rfl, N0, e0, own_m30 hm hc2_31⟩
def own_room21 : Room := { frames := 0, cells := 0, slots := 0, locals := 0 }
def own_Q21 (Z : State) (p0 : Int32) (p1 : Int32) (h0 : Heap) (n0 : Nat) (v : Option Value) (h : Heap) (L : List Loc) : Prop := ∃ (r : Int32), v = some (.int r) ∧ Fr n0 L ∧ h = h0 ∧ r.toInt = own_ml p0.toInt p1.toInt
theorem own_ef_rm21 (m : MethodId) (x0 : Int32) (x1 : Int32) : entryFrame m #[(.int x0), (.int x1)] 4 = mkF m 0 #[.val (.int x0), .val (.int x1), .unset, .unset] [] := by first | (simp [entryFrame, mkF, argsToLocals, Value.category]; done) | rfl
set_option maxRecDepth 65536 in
set_option maxHeartbeats 40000000 in
theorem own_rm21 (lch : Launch) (Z : State) (a0 : Array Value) (hw : ∀ d ∈ tables_1, d.before a0 Z = true) (ws : List Jvm.Cond) (p0 : Int32) (p1 : Int32) (h0 : Heap) (n0 : Nat) (hm : 1 ≤ p0.toInt ∧ p0.toInt ≤ 12) (hy : 0 ≤ p1.toInt ∧ p1.toInt ≤ 9999) :
    MetFree lch (⟨"com/example/exacting_validator/exactingvalidator/validator/Rfc3339", "daysIn", "(II)I"⟩ : MethodName) (head1 (Jvm.Cond.code (⟨"com/example/exacting_validator/exactingvalidator/validator/Rfc3339", "daysIn", "(II)I"⟩ : MethodName) prog_7_method_7_code 4 (some .int) :: ws) own_room21) (fun zz U => zz = #[(.int p0), (.int p1)] ∧ Z.Warmed39 U.vm ∧ U.heap = h0) (fun _ _ _ _ _ => True) (fun _ U o U' => ∃ v L, o = .returned v ∧ own_Q21 Z p0 p1 h0 n0 v U'.heap L ∧ FrameEnd U o U' L own_room21.cells own_room21.slots) := by
  refine MetFree.of_bodySF (plainFor_of_name own_pn5) hisR ?_
  intro prg e s m args below meth c s₁ Bd hml0 hP hK
  obtain ⟨rfl, hZ, hh⟩ := hP
  have hx := Bd.exec
  have hby := Bd.bytes
  have hml : c.maxLocals = 4 := hml0
  have hown : s.vm.findClass "com/example/exacting_validator/exactingvalidator/validator/Rfc3339" = some m.cls := findClass_of_methodNamed Bd.named
  have hnm := (name_of_methodNamed Bd.named Bd.method).1
  have hlk : meth.locks = false := BodyLoose.notSynchronized Bd
  have hret := Bd.returns
  have X0 : Stand prg lch e own_room21 s m #[(.int p0), (.int p1)] below meth c s₁ [] 0 0 := Stand.of_body Bd
  have e0 : s₁.heap = h0 := by rw [← hh, Bd.state]; rfl
  have N0 := Fr.nil n0
  show own_Ends prg e below s (own_Q21 Z p0 p1 h0 n0) own_room21.cells own_room21.slots s₁ (entryFrame m #[(.int p0), (.int p1)] 4)
  refine own_cast (own_ef_rm21 m p0 p1) ?_
  refine own_iloadN (pc' := 1) X0 hx (hb hby own_d21_0) rfl rfl ?_
  refine own_iconst (pc' := 2) (z := (2 : Int32)) X0 hx (hb hby own_d21_1) rfl rfl ?_
  by_cases hc2_31 : p0 = (2 : Int32)
  · refine own_icmpNo (pc' := 5) X0 hx (hb hby own_d21_2) rfl (teq hc2_31).2 ?_
    refine own_iloadN (pc' := 6) X0 hx (hb hby own_d21_5) rfl rfl ?_
    refine own_iconst (pc' := 7) (z := (4 : Int32)) X0 hx (hb hby own_d21_6) rfl rfl ?_
    refine own_irem (pc' := 8) (z := (p1 % (4 : Int32))) X0 hx (hb hby own_d21_7) rfl (by decide) rfl ?_
    by_cases hc8_32 : (p1 % (4 : Int32)) = (0 : Int32)
    · refine own_ifNo (pc' := 11) X0 hx (hb hby own_d21_8) rfl (teq hc8_32).2 ?_
      refine own_iloadN (pc' := 12) X0 hx (hb hby own_d21_11) rfl rfl ?_
      refine own_bipush (pc' := 14) (z := (100 : Int32)) X0 hx (hb hby own_d21_12) rfl rfl ?_
      refine own_irem (pc' := 15) (z := (p1 % (100 : Int32))) X0 hx (hb hby own_d21_14) rfl (by decide) rfl ?_
      by_cases hc15_33 : (p1 % (100 : Int32)) = (0 : Int32)
      · refine own_ifNo (pc' := 18) X0 hx (hb hby own_d21_15) rfl (teq hc15_33).2 ?_
        refine own_iloadN (pc' := 19) X0 hx (hb hby own_d21_18) rfl rfl ?_
        refine own_sipush (pc' := 22) (z := (400 : Int32)) X0 hx (hb hby own_d21_19) rfl rfl ?_
        refine own_irem (pc' := 23) (z := (p1 % (400 : Int32))) X0 hx (hb hby own_d21_22) rfl (by decide) rfl ?_
        by_cases hc23_34 : (p1 % (400 : Int32)) = (0 : Int32)
        · refine own_ifNo (pc' := 26) X0 hx (hb hby own_d21_23) rfl (teq hc23_34).2 ?_
          refine own_iconst (pc' := 27) (z := (1 : Int32)) X0 hx (hb hby own_d21_26) rfl rfl ?_
          refine own_goto (pc' := 31) X0 hx (hb hby own_d21_27) (by decide) (by decide) ?_
          refine own_istoreN (pc' := 32) (l' := #[.val (.int p0), .val (.int p1), .unset, .val (.int (1 : Int32))]) X0 hx (hb hby own_d21_31) rfl rfl ?_
          refine own_iloadN (pc' := 33) X0 hx (hb hby own_d21_32) rfl rfl ?_
          refine own_ifNo (pc' := 36) X0 hx (hb hby own_d21_33) rfl (feq (by decide)).1 ?_
          refine own_bipush (pc' := 38) (z := (29 : Int32)) X0 hx (hb hby own_d21_36) rfl rfl ?_
          refine own_goto (pc' := 43) X0 hx (hb hby own_d21_38) (by decide) (by decide) ?_
          refine own_istoreN (pc' := 44) (l' := #[.val (.int p0), .val (.int p1), .val (.int (29 : Int32)), .val (.int (1 : Int32))]) X0 hx (hb hby own_d21_43) rfl rfl ?_
          refine own_goto (pc' := 79) X0 hx (hb hby own_d21_44) (by decide) (by decide) ?_
          refine own_iloadN (pc' := 80) X0 hx (hb hby own_d21_79) rfl rfl ?_
          refine own_retI X0 hx hlk hret (hb hby own_d21_80) (by decide) (by decide) ?_
          have q4 := (c_irem p1 4 4 rfl).1 hy.1
          have q1 := (c_irem p1 100 100 rfl).1 hy.1
          have q0 := (c_irem p1 400 400 rfl).1 hy.1
          have i_hc2_31 : p0.toInt = 2 := own_i3 hc2_31
          have i_hc8_32 : (p1 % (4 : Int32)).toInt = 0 := own_i3 hc8_32
          have i_hc15_33 : (p1 % (100 : Int32)).toInt = 0 := own_i3 hc15_33
          have i_hc23_34 : (p1 % (400 : Int32)).toInt = 0 := own_i3 hc23_34
          refine ⟨_, rfl, N0, e0, ?_⟩
          show (29 : Int) = _
          unfold own_ml
          split <;> (try split) <;> omega
        · refine own_ifYes (pc' := 30) X0 hx (hb hby own_d21_23) (feq hc23_34).2 (by decide) (by decide) ?_
          refine own_iconst (pc' := 31) (z := (0 : Int32)) X0 hx (hb hby own_d21_30) rfl rfl ?_
          refine own_istoreN (pc' := 32) (l' := #[.val (.int p0), .val (.int p1), .unset, .val (.int (0 : Int32))]) X0 hx (hb hby own_d21_31) rfl rfl ?_
          refine own_iloadN (pc' := 33) X0 hx (hb hby own_d21_32) rfl rfl ?_
          refine own_ifYes (pc' := 41) X0 hx (hb hby own_d21_33) (teq (by decide)).1 (by decide) (by decide) ?_
          refine own_bipush (pc' := 43) (z := (28 : Int32)) X0 hx (hb hby own_d21_41) rfl rfl ?_
          refine own_istoreN (pc' := 44) (l' := #[.val (.int p0), .val (.int p1), .val (.int (28 : Int32)), .val (.int (0 : Int32))]) X0 hx (hb hby own_d21_43) rfl rfl ?_
          refine own_goto (pc' := 79) X0 hx (hb hby own_d21_44) (by decide) (by decide) ?_
          refine own_iloadN (pc' := 80) X0 hx (hb hby own_d21_79) rfl rfl ?_
          refine own_retI X0 hx hlk hret (hb hby own_d21_80) (by decide) (by decide) ?_
          have q4 := (c_irem p1 4 4 rfl).1 hy.1
          have q1 := (c_irem p1 100 100 rfl).1 hy.1
          have q0 := (c_irem p1 400 400 rfl).1 hy.1
          have i_hc2_31 : p0.toInt = 2 := own_i3 hc2_31
          have i_hc8_32 : (p1 % (4 : Int32)).toInt = 0 := own_i3 hc8_32
          have i_hc15_33 : (p1 % (100 : Int32)).toInt = 0 := own_i3 hc15_33
          have i_hc23_34 : ¬ (p1 % (400 : Int32)).toInt = 0 := own_i4 hc23_34
          refine ⟨_, rfl, N0, e0, ?_⟩
          show (28 : Int) = _
          unfold own_ml
          split <;> (try split) <;> omega
      · refine own_ifYes (pc' := 26) X0 hx (hb hby own_d21_15) (feq hc15_33).2 (by decide) (by decide) ?_
        refine own_iconst (pc' := 27) (z := (1 : Int32)) X0 hx (hb hby own_d21_26) rfl rfl ?_
        refine own_goto (pc' := 31) X0 hx (hb hby own_d21_27) (by decide) (by decide) ?_
        refine own_istoreN (pc' := 32) (l' := #[.val (.int p0), .val (.int p1), .unset, .val (.int (1 : Int32))]) X0 hx (hb hby own_d21_31) rfl rfl ?_
        refine own_iloadN (pc' := 33) X0 hx (hb hby own_d21_32) rfl rfl ?_
        refine own_ifNo (pc' := 36) X0 hx (hb hby own_d21_33) rfl (feq (by decide)).1 ?_
        refine own_bipush (pc' := 38) (z := (29 : Int32)) X0 hx (hb hby own_d21_36) rfl rfl ?_
        refine own_goto (pc' := 43) X0 hx (hb hby own_d21_38) (by decide) (by decide) ?_
        refine own_istoreN (pc' := 44) (l' := #[.val (.int p0), .val (.int p1), .val (.int (29 : Int32)), .val (.int (1 : Int32))]) X0 hx (hb hby own_d21_43) rfl rfl ?_
        refine own_goto (pc' := 79) X0 hx (hb hby own_d21_44) (by decide) (by decide) ?_
        refine own_iloadN (pc' := 80) X0 hx (hb hby own_d21_79) rfl rfl ?_
        refine own_retI X0 hx hlk hret (hb hby own_d21_80) (by decide) (by decide) ?_
        have q4 := (c_irem p1 4 4 rfl).1 hy.1
        have q1 := (c_irem p1 100 100 rfl).1 hy.1
        have q0 := (c_irem p1 400 400 rfl).1 hy.1
        have i_hc2_31 : p0.toInt = 2 := own_i3 hc2_31
        have i_hc8_32 : (p1 % (4 : Int32)).toInt = 0 := own_i3 hc8_32
        have i_hc15_33 : ¬ (p1 % (100 : Int32)).toInt = 0 := own_i4 hc15_33
        refine ⟨_, rfl, N0, e0, ?_⟩
        show (29 : Int) = _
        unfold own_ml
        split <;> (try split) <;> omega
    · refine own_ifYes (pc' := 30) X0 hx (hb hby own_d21_8) (feq hc8_32).2 (by decide) (by decide) ?_
      refine own_iconst (pc' := 31) (z := (0 : Int32)) X0 hx (hb hby own_d21_30) rfl rfl ?_
      refine own_istoreN (pc' := 32) (l' := #[.val (.int p0), .val (.int p1), .unset, .val (.int (0 : Int32))]) X0 hx (hb hby own_d21_31) rfl rfl ?_
      refine own_iloadN (pc' := 33) X0 hx (hb hby own_d21_32) rfl rfl ?_
      refine own_ifYes (pc' := 41) X0 hx (hb hby own_d21_33) (teq (by decide)).1 (by decide) (by decide) ?_
      refine own_bipush (pc' := 43) (z := (28 : Int32)) X0 hx (hb hby own_d21_41) rfl rfl ?_
      refine own_istoreN (pc' := 44) (l' := #[.val (.int p0), .val (.int p1), .val (.int (28 : Int32)), .val (.int (0 : Int32))]) X0 hx (hb hby own_d21_43) rfl rfl ?_
      refine own_goto (pc' := 79) X0 hx (hb hby own_d21_44) (by decide) (by decide) ?_
      refine own_iloadN (pc' := 80) X0 hx (hb hby own_d21_79) rfl rfl ?_
      refine own_retI X0 hx hlk hret (hb hby own_d21_80) (by decide) (by decide) ?_
      have q4 := (c_irem p1 4 4 rfl).1 hy.1
      have q1 := (c_irem p1 100 100 rfl).1 hy.1
      have q0 := (c_irem p1 400 400 rfl).1 hy.1
      have i_hc2_31 : p0.toInt = 2 := own_i3 hc2_31
      have i_hc8_32 : ¬ (p1 % (4 : Int32)).toInt = 0 := own_i4 hc8_32
      refine ⟨_, rfl, N0, e0, ?_⟩
      show (28 : Int) = _
      unfold own_ml
      split <;> (try split) <;> omega
  · refine own_icmpYes (pc' := 47) X0 hx (hb hby own_d21_2) (feq hc2_31).2 (by decide) (by decide) ?_
    refine own_iloadN (pc' := 48) X0 hx (hb hby own_d21_47) rfl rfl ?_
    refine own_iconst (pc' := 49) (z := (4 : Int32)) X0 hx (hb hby own_d21_48) rfl rfl ?_
    by_cases hc49_35 : p0 = (4 : Int32)
    · refine own_icmpYes (pc' := 70) X0 hx (hb hby own_d21_49) (teq hc49_35).1 (by decide) (by decide) ?_
      refine own_bipush (pc' := 72) (z := (30 : Int32)) X0 hx (hb hby own_d21_70) rfl rfl ?_
      refine own_istoreN (pc' := 73) (l' := #[.val (.int p0), .val (.int p1), .val (.int (30 : Int32)), .unset]) X0 hx (hb hby own_d21_72) rfl rfl ?_
      refine own_goto (pc' := 79) X0 hx (hb hby own_d21_73) (by decide) (by decide) ?_
      refine own_iloadN (pc' := 80) X0 hx (hb hby own_d21_79) rfl rfl ?_
      refine own_retI X0 hx hlk hret (hb hby own_d21_80) (by decide) (by decide) ?_
      have q4 := (c_irem p1 4 4 rfl).1 hy.1
      have q1 := (c_irem p1 100 100 rfl).1 hy.1
      have q0 := (c_irem p1 400 400 rfl).1 hy.1
      have i_hc2_31 : ¬ p0.toInt = 2 := own_i4 hc2_31
      have i_hc49_35 : p0.toInt = 4 := own_i3 hc49_35
      refine ⟨_, rfl, N0, e0, ?_⟩
      show (30 : Int) = _
      unfold own_ml
      split <;> (try split) <;> omega
    · refine own_icmpNo (pc' := 52) X0 hx (hb hby own_d21_49) rfl (feq hc49_35).1 ?_
      refine own_iloadN (pc' := 53) X0 hx (hb hby own_d21_52) rfl rfl ?_
      refine own_bipush (pc' := 55) (z := (6 : Int32)) X0 hx (hb hby own_d21_53) rfl rfl ?_
      by_cases hc55_36 : p0 = (6 : Int32)
      · refine own_icmpYes (pc' := 70) X0 hx (hb hby own_d21_55) (teq hc55_36).1 (by decide) (by decide) ?_
        refine own_bipush (pc' := 72) (z := (30 : Int32)) X0 hx (hb hby own_d21_70) rfl rfl ?_
        refine own_istoreN (pc' := 73) (l' := #[.val (.int p0), .val (.int p1), .val (.int (30 : Int32)), .unset]) X0 hx (hb hby own_d21_72) rfl rfl ?_
        refine own_goto (pc' := 79) X0 hx (hb hby own_d21_73) (by decide) (by decide) ?_
        refine own_iloadN (pc' := 80) X0 hx (hb hby own_d21_79) rfl rfl ?_
        refine own_retI X0 hx hlk hret (hb hby own_d21_80) (by decide) (by decide) ?_
        have q4 := (c_irem p1 4 4 rfl).1 hy.1
        have q1 := (c_irem p1 100 100 rfl).1 hy.1
        have q0 := (c_irem p1 400 400 rfl).1 hy.1
        have i_hc2_31 : ¬ p0.toInt = 2 := own_i4 hc2_31
        have i_hc49_35 : ¬ p0.toInt = 4 := own_i4 hc49_35
        have i_hc55_36 : p0.toInt = 6 := own_i3 hc55_36
        refine ⟨_, rfl, N0, e0, ?_⟩
        show (30 : Int) = _
        unfold own_ml
        split <;> (try split) <;> omega
      · refine own_icmpNo (pc' := 58) X0 hx (hb hby own_d21_55) rfl (feq hc55_36).1 ?_
        refine own_iloadN (pc' := 59) X0 hx (hb hby own_d21_58) rfl rfl ?_
        refine own_bipush (pc' := 61) (z := (9 : Int32)) X0 hx (hb hby own_d21_59) rfl rfl ?_
        by_cases hc61_37 : p0 = (9 : Int32)
        · refine own_icmpYes (pc' := 70) X0 hx (hb hby own_d21_61) (teq hc61_37).1 (by decide) (by decide) ?_
          refine own_bipush (pc' := 72) (z := (30 : Int32)) X0 hx (hb hby own_d21_70) rfl rfl ?_
          refine own_istoreN (pc' := 73) (l' := #[.val (.int p0), .val (.int p1), .val (.int (30 : Int32)), .unset]) X0 hx (hb hby own_d21_72) rfl rfl ?_
          refine own_goto (pc' := 79) X0 hx (hb hby own_d21_73) (by decide) (by decide) ?_
          refine own_iloadN (pc' := 80) X0 hx (hb hby own_d21_79) rfl rfl ?_
          refine own_retI X0 hx hlk hret (hb hby own_d21_80) (by decide) (by decide) ?_
          have q4 := (c_irem p1 4 4 rfl).1 hy.1
          have q1 := (c_irem p1 100 100 rfl).1 hy.1
          have q0 := (c_irem p1 400 400 rfl).1 hy.1
          have i_hc2_31 : ¬ p0.toInt = 2 := own_i4 hc2_31
          have i_hc49_35 : ¬ p0.toInt = 4 := own_i4 hc49_35
          have i_hc55_36 : ¬ p0.toInt = 6 := own_i4 hc55_36
          have i_hc61_37 : p0.toInt = 9 := own_i3 hc61_37
          refine ⟨_, rfl, N0, e0, ?_⟩
          show (30 : Int) = _
          unfold own_ml
          split <;> (try split) <;> omega
        · refine own_icmpNo (pc' := 64) X0 hx (hb hby own_d21_61) rfl (feq hc61_37).1 ?_
          refine own_iloadN (pc' := 65) X0 hx (hb hby own_d21_64) rfl rfl ?_
          refine own_bipush (pc' := 67) (z := (11 : Int32)) X0 hx (hb hby own_d21_65) rfl rfl ?_
          by_cases hc67_38 : p0 = (11 : Int32)
          · refine own_icmpNo (pc' := 70) X0 hx (hb hby own_d21_67) rfl (teq hc67_38).2 ?_
            refine own_bipush (pc' := 72) (z := (30 : Int32)) X0 hx (hb hby own_d21_70) rfl rfl ?_
            refine own_istoreN (pc' := 73) (l' := #[.val (.int p0), .val (.int p1), .val (.int (30 : Int32)), .unset]) X0 hx (hb hby own_d21_72) rfl rfl ?_
            refine own_goto (pc' := 79) X0 hx (hb hby own_d21_73) (by decide) (by decide) ?_
            refine own_iloadN (pc' := 80) X0 hx (hb hby own_d21_79) rfl rfl ?_
            refine own_retI X0 hx hlk hret (hb hby own_d21_80) (by decide) (by decide) ?_
            have q4 := (c_irem p1 4 4 rfl).1 hy.1
            have q1 := (c_irem p1 100 100 rfl).1 hy.1
            have q0 := (c_irem p1 400 400 rfl).1 hy.1
            have i_hc2_31 : ¬ p0.toInt = 2 := own_i4 hc2_31
            have i_hc49_35 : ¬ p0.toInt = 4 := own_i4 hc49_35
            have i_hc55_36 : ¬ p0.toInt = 6 := own_i4 hc55_36
            have i_hc61_37 : ¬ p0.toInt = 9 := own_i4 hc61_37
            have i_hc67_38 : p0.toInt = 11 := own_i3 hc67_38
            refine ⟨_, rfl, N0, e0, ?_⟩
            show (30 : Int) = _
            unfold own_ml
            split <;> (try split) <;> omega
          · refine own_icmpYes (pc' := 76) X0 hx (hb hby own_d21_67) (feq hc67_38).2 (by decide) (by decide) ?_
            refine own_bipush (pc' := 78) (z := (31 : Int32)) X0 hx (hb hby own_d21_76) rfl rfl ?_
            refine own_istoreN (pc' := 79) (l' := #[.val (.int p0), .val (.int p1), .val (.int (31 : Int32)), .unset]) X0 hx (hb hby own_d21_78) rfl rfl ?_
            refine own_iloadN (pc' := 80) X0 hx (hb hby own_d21_79) rfl rfl ?_
            refine own_retI X0 hx hlk hret (hb hby own_d21_80) (by decide) (by decide) ?_
            have q4 := (c_irem p1 4 4 rfl).1 hy.1
            have q1 := (c_irem p1 100 100 rfl).1 hy.1
            have q0 := (c_irem p1 400 400 rfl).1 hy.1
            have i_hc2_31 : ¬ p0.toInt = 2 := own_i4 hc2_31
            have i_hc49_35 : ¬ p0.toInt = 4 := own_i4 hc49_35
            have i_hc55_36 : ¬ p0.toInt = 6 := own_i4 hc55_36
            have i_hc61_37 : ¬ p0.toInt = 9 := own_i4 hc61_37
            have i_hc67_38 : ¬ p0.toInt = 11 := own_i4 hc67_38
            refine ⟨_, rfl, N0, e0, ?_⟩
            show (31 : Int) = _
            unfold own_ml
            split <;> (try split) <;> omega
def own_room14 : Room := { frames := 5, cells := 0, slots := 0, locals := 70 }
def own_Q14 (Z : State) (a : Addr) (i : Int32) (vb : Addr) (vk : ClassId) (wf : Value) (c0 : Int32) (c1 : Int32) (c2 : Int32) (c3 : Int32) (c4 : Int32) (c5 : Int32) (c6 : Int32) (c7 : Int32) (c8 : Int32) (c9 : Int32) (h0 : Heap) (n0 : Nat) (v : Option Value) (h : Heap) (L : List Loc) : Prop := ∃ (r : Int32), v = some (.int r) ∧ Fr n0 L ∧ h = h0 ∧ (r = 0 ∨ r = 1) ∧ (r = 1 ↔ own_WF c0 c1 c2 c3 c4 c5 c6 c7 c8 c9)
theorem own_ef_rm14 (m : MethodId) (x0 : Addr) (x1 : Int32) : entryFrame m #[(.ref x0), (.int x1)] 5 = mkF m 0 #[.val (.ref x0), .val (.int x1), .unset, .unset, .unset] [] := by first | (simp [entryFrame, mkF, argsToLocals, Value.category]; done) | rfl
set_option maxRecDepth 65536 in
set_option maxHeartbeats 40000000 in
theorem own_rm14 (lch : Launch) (Z : State) (a0 : Array Value) (hw : ∀ d ∈ tables_1, d.before a0 Z = true) (ws : List Jvm.Cond) (a : Addr) (i : Int32) (vb : Addr) (vk : ClassId) (wf : Value) (c0 : Int32) (c1 : Int32) (c2 : Int32) (c3 : Int32) (c4 : Int32) (c5 : Int32) (c6 : Int32) (c7 : Int32) (c8 : Int32) (c9 : Int32) (h0 : Heap) (n0 : Nat) (F0 : Fld Z h0 a "java/lang/String" "coder" "B" (.int (0 : Int32))) (S0 : Sta Z h0 "java/lang/String" "COMPACT_STRINGS" "Z" (.int i)) (hi : ¬ i = (0 : Int32)) (G0 : Exa Z h0 a "java/lang/String") (F1 : Fld Z h0 a "java/lang/String" "value" "[B" (.ref vb)) (V0 : Arv Z h0 vb vk .byte (10 : Int32) [(.int (own_byt c0)), (.int (own_byt c1)), (.int (own_byt c2)), (.int (own_byt c3)), (.int (own_byt c4)), (.int (own_byt c5)), (.int (own_byt c6)), (.int (own_byt c7)), (.int (own_byt c8)), (.int (own_byt c9))] (.int (0 : Int32))) (S1 : Sta Z h0 "jdk/internal/util/Preconditions" "SIOOBE_FORMATTER" "Ljava/util/function/BiFunction;" wf) (hwf : wf.isRef = true) (rc0 : own_R c0) (rc1 : own_R c1) (rc2 : own_R c2) (rc3 : own_R c3) (rc4 : own_R c4) (rc5 : own_R c5) (rc6 : own_R c6) (rc7 : own_R c7) (rc8 : own_R c8) (rc9 : own_R c9) :
    MetFree lch (⟨"com/example/exacting_validator/exactingvalidator/validator/Rfc3339", "isFullDateAt", "(Ljava/lang/String;I)Z"⟩ : MethodName) (head1 (Jvm.Cond.code (⟨"com/example/exacting_validator/exactingvalidator/validator/Rfc3339", "isFullDateAt", "(Ljava/lang/String;I)Z"⟩ : MethodName) prog_7_method_6_code 5 (some .boolean) :: ws) own_room14) (fun zz U => zz = #[(.ref a), (.int (0 : Int32))] ∧ Z.Warmed39 U.vm ∧ U.heap = h0) (fun _ _ _ _ _ => True) (fun _ U o U' => ∃ v L, o = .returned v ∧ own_Q14 Z a i vb vk wf c0 c1 c2 c3 c4 c5 c6 c7 c8 c9 h0 n0 v U'.heap L ∧ FrameEnd U o U' L own_room14.cells own_room14.slots) := by
  refine MetFree.of_bodySF (plainFor_of_name own_pn5) hisR ?_
  intro prg e s m args below meth c s₁ Bd hml0 hP hK
  obtain ⟨rfl, hZ, hh⟩ := hP
  have hx := Bd.exec
  have hby := Bd.bytes
  have hml : c.maxLocals = 5 := hml0
  have hown : s.vm.findClass "com/example/exacting_validator/exactingvalidator/validator/Rfc3339" = some m.cls := findClass_of_methodNamed Bd.named
  have hnm := (name_of_methodNamed Bd.named Bd.method).1
  have hlk : meth.locks = false := BodyLoose.notSynchronized Bd
  have hret := Bd.returns
  have X0 : Stand prg lch e own_room14 s m #[(.ref a), (.int (0 : Int32))] below meth c s₁ [] 0 0 := Stand.of_body Bd
  have e0 : s₁.heap = h0 := by rw [← hh, Bd.state]; rfl
  have N0 := Fr.nil n0
  show own_Ends prg e below s (own_Q14 Z a i vb vk wf c0 c1 c2 c3 c4 c5 c6 c7 c8 c9 h0 n0) own_room14.cells own_room14.slots s₁ (entryFrame m #[(.ref a), (.int (0 : Int32))] 5)
  refine own_cast (own_ef_rm14 m a (0 : Int32)) ?_
  refine own_aloadN (pc' := 1) X0 hx (hb hby own_d14_0) rfl rfl rfl ?_
  refine own_iloadN (pc' := 2) X0 hx (hb hby own_d14_1) rfl rfl ?_
  refine own_iconst (pc' := 3) (z := (4 : Int32)) X0 hx (hb hby own_d14_2) rfl rfl ?_
  refine own_callS (pc' := 6) (y := (⟨"com/example/exacting_validator/exactingvalidator/validator/Rfc3339", "digits", "(Ljava/lang/String;II)I"⟩ : MethodName)) (W := 0) (rm := own_room15_0) (argsL := [(.ref a), (.int (0 : Int32)), (.int (4 : Int32))]) (rest := []) X0 hx hZ e0 hown (by rw [hml]; rfl) (own_w61 hw) (own_w62 hw) (own_w46 hw) (own_w63 hw) (by decide) (own_rm15_0 lch Z a0 hw [] a i vb vk wf c0 c1 c2 c3 c4 c5 c6 c7 c8 c9 h0 n0 F0 S0 hi G0 F1 V0 S1 hwf rc0 rc1 rc2 rc3 rc4 rc5 rc6 rc7 rc8 rc9) (by decide) (by decide) (by decide) (by decide) (lenOf own_pd11 rfl) rfl (by exact Nat.le_of_eq rfl) (hb hby own_d14_3) rfl ?_
  intro T31 Lc31 v31 X31 hQ31
  obtain ⟨r31, rfl, Nq31, Kq31, G31_0, G31_1⟩ := hQ31
  have N31 := Fr.app N0 Nq31
  show own_Ends prg e below s _ _ _ T31 (mkF m 6 #[.val (.ref a), .val (.int (0 : Int32)), .unset, .unset, .unset] [(.int r31)])
  refine own_istoreN (pc' := 7) (l' := #[.val (.ref a), .val (.int (0 : Int32)), .val (.int r31), .unset, .unset]) X31 hx (hb hby own_d14_6) rfl rfl ?_
  refine own_aloadN (pc' := 8) X31 hx (hb hby own_d14_7) rfl rfl rfl ?_
  refine own_iloadN (pc' := 9) X31 hx (hb hby own_d14_8) rfl rfl ?_
  refine own_iconst (pc' := 10) (z := (5 : Int32)) X31 hx (hb hby own_d14_9) rfl rfl ?_
  refine own_iadd (pc' := 11) (z := (5 : Int32)) X31 hx (hb hby own_d14_10) rfl (by decide) ?_
  refine own_iconst (pc' := 12) (z := (2 : Int32)) X31 hx (hb hby own_d14_11) rfl rfl ?_
  refine own_callS (pc' := 15) (y := (⟨"com/example/exacting_validator/exactingvalidator/validator/Rfc3339", "digits", "(Ljava/lang/String;II)I"⟩ : MethodName)) (W := 0) (rm := own_room15_5) (argsL := [(.ref a), (.int (5 : Int32)), (.int (2 : Int32))]) (rest := []) X31 hx hZ Kq31 hown (by rw [hml]; rfl) (own_w61 hw) (own_w62 hw) (own_w46 hw) (own_w63 hw) (by decide) (own_rm15_5 lch Z a0 hw [] a i vb vk wf c0 c1 c2 c3 c4 c5 c6 c7 c8 c9 h0 n0 F0 S0 hi G0 F1 V0 S1 hwf rc0 rc1 rc2 rc3 rc4 rc5 rc6 rc7 rc8 rc9) (by decide) (by decide) (by decide) (by decide) (lenOf own_pd11 rfl) rfl (by exact Nat.le_of_eq rfl) (hb hby own_d14_12) rfl ?_
  intro T32 Lc32 v32 X32 hQ32
  obtain ⟨r32, rfl, Nq32, Kq32, G32_0, G32_1⟩ := hQ32
  have N32 := Fr.app N31 Nq32
  show own_Ends prg e below s _ _ _ T32 (mkF m 15 #[.val (.ref a), .val (.int (0 : Int32)), .val (.int r31), .unset, .unset] [(.int r32)])
  refine own_istoreN (pc' := 16) (l' := #[.val (.ref a), .val (.int (0 : Int32)), .val (.int r31), .val (.int r32), .unset]) X32 hx (hb hby own_d14_15) rfl rfl ?_
  refine own_aloadN (pc' := 17) X32 hx (hb hby own_d14_16) rfl rfl rfl ?_
  refine own_iloadN (pc' := 18) X32 hx (hb hby own_d14_17) rfl rfl ?_
  refine own_bipush (pc' := 20) (z := (8 : Int32)) X32 hx (hb hby own_d14_18) rfl rfl ?_
  refine own_iadd (pc' := 21) (z := (8 : Int32)) X32 hx (hb hby own_d14_20) rfl (by decide) ?_
  refine own_iconst (pc' := 22) (z := (2 : Int32)) X32 hx (hb hby own_d14_21) rfl rfl ?_
  refine own_callS (pc' := 25) (y := (⟨"com/example/exacting_validator/exactingvalidator/validator/Rfc3339", "digits", "(Ljava/lang/String;II)I"⟩ : MethodName)) (W := 0) (rm := own_room15_8) (argsL := [(.ref a), (.int (8 : Int32)), (.int (2 : Int32))]) (rest := []) X32 hx hZ Kq32 hown (by rw [hml]; rfl) (own_w61 hw) (own_w62 hw) (own_w46 hw) (own_w63 hw) (by decide) (own_rm15_8 lch Z a0 hw [] a i vb vk wf c0 c1 c2 c3 c4 c5 c6 c7 c8 c9 h0 n0 F0 S0 hi G0 F1 V0 S1 hwf rc0 rc1 rc2 rc3 rc4 rc5 rc6 rc7 rc8 rc9) (by decide) (by decide) (by decide) (by decide) (lenOf own_pd11 rfl) rfl (by exact Nat.le_of_eq rfl) (hb hby own_d14_22) rfl ?_
  intro T33 Lc33 v33 X33 hQ33
  obtain ⟨r33, rfl, Nq33, Kq33, G33_0, G33_1⟩ := hQ33
  have N33 := Fr.app N32 Nq33
  show own_Ends prg e below s _ _ _ T33 (mkF m 25 #[.val (.ref a), .val (.int (0 : Int32)), .val (.int r31), .val (.int r32), .unset] [(.int r33)])
  refine own_istore (pc' := 27) (l' := #[.val (.ref a), .val (.int (0 : Int32)), .val (.int r31), .val (.int r32), .val (.int r33)]) X33 hx (hb hby own_d14_25) rfl rfl ?_
  have g0 := G31_0
  have g0' := G31_1
  have g1 := G32_0
  have g1' := G32_1
  have g2 := G33_0
  have g2' := G33_1
  refine own_iloadN (pc' := 28) X33 hx (hb hby own_d14_27) rfl rfl ?_
  by_cases hc28_34 : r31 < (0 : Int32)
  · refine own_ifYes (pc' := 87) X33 hx (hb hby own_d14_28) (tlt hc28_34).1 (by decide) (by decide) ?_
    refine own_iconst (pc' := 88) (z := (0 : Int32)) X33 hx (hb hby own_d14_87) rfl rfl ?_
    refine own_retN X33 hx hlk hret (by simp) (hb hby own_d14_88) (by decide) (by decide) ?_
    have i_hc28_34 : r31.toInt < 0 := own_i1 hc28_34
    exact ⟨0, rfl, N33, Kq33, Or.inl rfl, ⟨fun q => absurd q (by decide), fun q => by unfold own_WF at q; exfalso; omega⟩⟩
  · refine own_ifNo (pc' := 31) X33 hx (hb hby own_d14_28) rfl (flt hc28_34).1 ?_
    refine own_aloadN (pc' := 32) X33 hx (hb hby own_d14_31) rfl rfl rfl ?_
    refine own_iloadN (pc' := 33) X33 hx (hb hby own_d14_32) rfl rfl ?_
    refine own_iconst (pc' := 34) (z := (4 : Int32)) X33 hx (hb hby own_d14_33) rfl rfl ?_
    refine own_iadd (pc' := 35) (z := (4 : Int32)) X33 hx (hb hby own_d14_34) rfl (by decide) ?_
    refine own_callV (pc' := 38) (y := (⟨"java/lang/String", "charAt", "(I)C"⟩ : MethodName)) (W := 0) (rm := own_room16) (argsL := [(.int (4 : Int32))]) (rest := []) (b := a) (C := "java/lang/String") X33 hx hZ Kq33 hown (by rw [hml]; rfl) G0 (own_w64 hw) (own_w65 hw) (own_w67 hw) (own_w66 hw) (own_w4 hw) (own_w68 hw) (by decide) (own_rm16 lch Z a0 hw [] a (4 : Int32) i vb vk [(.int (own_byt c0)), (.int (own_byt c1)), (.int (own_byt c2)), (.int (own_byt c3)), (.int (own_byt c4)), (.int (own_byt c5)), (.int (own_byt c6)), (.int (own_byt c7)), (.int (own_byt c8)), (.int (own_byt c9))] wf c4 h0 n0 F0 S0 hi G0 F1 V0 S1 hwf (by decide) rfl rc4) (by decide) (by decide) (by decide) (by decide) (lenOf own_pd10 rfl) rfl (by exact Nat.le_of_eq rfl) (hb hby own_d14_35) rfl ?_
    intro T35 Lc35 v35 X35 hQ35
    obtain ⟨rfl, Nq35, Kq35⟩ := hQ35
    have N35 := Fr.app N33 Nq35
    show own_Ends prg e below s _ _ _ T35 (mkF m 38 #[.val (.ref a), .val (.int (0 : Int32)), .val (.int r31), .val (.int r32), .val (.int r33)] [(.int c4)])
    refine own_bipush (pc' := 40) (z := (45 : Int32)) X35 hx (hb hby own_d14_38) rfl rfl ?_
    by_cases hc40_36 : c4 = (45 : Int32)
    · refine own_icmpNo (pc' := 43) X35 hx (hb hby own_d14_40) rfl (teq hc40_36).2 ?_
      refine own_iloadN (pc' := 44) X35 hx (hb hby own_d14_43) rfl rfl ?_
      refine own_iconst (pc' := 45) (z := (1 : Int32)) X35 hx (hb hby own_d14_44) rfl rfl ?_
      by_cases hc45_37 : r32 < (1 : Int32)
      · refine own_icmpYes (pc' := 87) X35 hx (hb hby own_d14_45) (tlt hc45_37).1 (by decide) (by decide) ?_
        refine own_iconst (pc' := 88) (z := (0 : Int32)) X35 hx (hb hby own_d14_87) rfl rfl ?_
        refine own_retN X35 hx hlk hret (by simp) (hb hby own_d14_88) (by decide) (by decide) ?_
        have i_hc28_34 : 0 ≤ r31.toInt := own_i2 hc28_34
        have i_hc40_36 : c4.toInt = 45 := own_i3 hc40_36
        have i_hc45_37 : r32.toInt < 1 := own_i1 hc45_37
        exact ⟨0, rfl, N35, Kq35, Or.inl rfl, ⟨fun q => absurd q (by decide), fun q => by unfold own_WF at q; exfalso; omega⟩⟩
      · refine own_icmpNo (pc' := 48) X35 hx (hb hby own_d14_45) rfl (flt hc45_37).1 ?_
        refine own_iloadN (pc' := 49) X35 hx (hb hby own_d14_48) rfl rfl ?_
        refine own_bipush (pc' := 51) (z := (12 : Int32)) X35 hx (hb hby own_d14_49) rfl rfl ?_
        by_cases hc51_38 : (12 : Int32) < r32
        · refine own_icmpYes (pc' := 87) X35 hx (hb hby own_d14_51) (tlt hc51_38).2.2.1 (by decide) (by decide) ?_
          refine own_iconst (pc' := 88) (z := (0 : Int32)) X35 hx (hb hby own_d14_87) rfl rfl ?_
          refine own_retN X35 hx hlk hret (by simp) (hb hby own_d14_88) (by decide) (by decide) ?_
          have i_hc28_34 : 0 ≤ r31.toInt := own_i2 hc28_34
          have i_hc40_36 : c4.toInt = 45 := own_i3 hc40_36
          have i_hc45_37 : 1 ≤ r32.toInt := own_i2 hc45_37
          have i_hc51_38 : 12 < r32.toInt := own_i1 hc51_38
          exact ⟨0, rfl, N35, Kq35, Or.inl rfl, ⟨fun q => absurd q (by decide), fun q => by unfold own_WF at q; exfalso; omega⟩⟩
        · refine own_icmpNo (pc' := 54) X35 hx (hb hby own_d14_51) rfl (flt hc51_38).2.2.1 ?_
          refine own_aloadN (pc' := 55) X35 hx (hb hby own_d14_54) rfl rfl rfl ?_
          refine own_iloadN (pc' := 56) X35 hx (hb hby own_d14_55) rfl rfl ?_
          refine own_bipush (pc' := 58) (z := (7 : Int32)) X35 hx (hb hby own_d14_56) rfl rfl ?_
          refine own_iadd (pc' := 59) (z := (7 : Int32)) X35 hx (hb hby own_d14_58) rfl (by decide) ?_
          refine own_callV (pc' := 62) (y := (⟨"java/lang/String", "charAt", "(I)C"⟩ : MethodName)) (W := 0) (rm := own_room16) (argsL := [(.int (7 : Int32))]) (rest := []) (b := a) (C := "java/lang/String") X35 hx hZ Kq35 hown (by rw [hml]; rfl) G0 (own_w64 hw) (own_w65 hw) (own_w67 hw) (own_w66 hw) (own_w4 hw) (own_w68 hw) (by decide) (own_rm16 lch Z a0 hw [] a (7 : Int32) i vb vk [(.int (own_byt c0)), (.int (own_byt c1)), (.int (own_byt c2)), (.int (own_byt c3)), (.int (own_byt c4)), (.int (own_byt c5)), (.int (own_byt c6)), (.int (own_byt c7)), (.int (own_byt c8)), (.int (own_byt c9))] wf c7 h0 n0 F0 S0 hi G0 F1 V0 S1 hwf (by decide) rfl rc7) (by decide) (by decide) (by decide) (by decide) (lenOf own_pd10 rfl) rfl (by exact Nat.le_of_eq rfl) (hb hby own_d14_59) rfl ?_
          intro T39 Lc39 v39 X39 hQ39
          obtain ⟨rfl, Nq39, Kq39⟩ := hQ39
          have N39 := Fr.app N35 Nq39
          show own_Ends prg e below s _ _ _ T39 (mkF m 62 #[.val (.ref a), .val (.int (0 : Int32)), .val (.int r31), .val (.int r32), .val (.int r33)] [(.int c7)])
          refine own_bipush (pc' := 64) (z := (45 : Int32)) X39 hx (hb hby own_d14_62) rfl rfl ?_
          by_cases hc64_40 : c7 = (45 : Int32)
          · refine own_icmpNo (pc' := 67) X39 hx (hb hby own_d14_64) rfl (teq hc64_40).2 ?_
            refine own_iload (pc' := 69) X39 hx (hb hby own_d14_67) rfl rfl ?_
            refine own_iconst (pc' := 70) (z := (1 : Int32)) X39 hx (hb hby own_d14_69) rfl rfl ?_
            by_cases hc70_41 : r33 < (1 : Int32)
            · refine own_icmpYes (pc' := 87) X39 hx (hb hby own_d14_70) (tlt hc70_41).1 (by decide) (by decide) ?_
              refine own_iconst (pc' := 88) (z := (0 : Int32)) X39 hx (hb hby own_d14_87) rfl rfl ?_
              refine own_retN X39 hx hlk hret (by simp) (hb hby own_d14_88) (by decide) (by decide) ?_
              have i_hc28_34 : 0 ≤ r31.toInt := own_i2 hc28_34
              have i_hc40_36 : c4.toInt = 45 := own_i3 hc40_36
              have i_hc45_37 : 1 ≤ r32.toInt := own_i2 hc45_37
              have i_hc51_38 : r32.toInt ≤ 12 := own_i2 hc51_38
              have i_hc64_40 : c7.toInt = 45 := own_i3 hc64_40
              have i_hc70_41 : r33.toInt < 1 := own_i1 hc70_41
              exact ⟨0, rfl, N39, Kq39, Or.inl rfl, ⟨fun q => absurd q (by decide), fun q => by unfold own_WF at q; exfalso; omega⟩⟩
            · refine own_icmpNo (pc' := 73) X39 hx (hb hby own_d14_70) rfl (flt hc70_41).1 ?_
              refine own_iload (pc' := 75) X39 hx (hb hby own_d14_73) rfl rfl ?_
              refine own_iloadN (pc' := 76) X39 hx (hb hby own_d14_75) rfl rfl ?_
              refine own_iloadN (pc' := 77) X39 hx (hb hby own_d14_76) rfl rfl ?_
              have i_hc28_34 : 0 ≤ r31.toInt := own_i2 hc28_34
              have i_hc40_36 : c4.toInt = 45 := own_i3 hc40_36
              have i_hc45_37 : 1 ≤ r32.toInt := own_i2 hc45_37
              have i_hc51_38 : r32.toInt ≤ 12 := own_i2 hc51_38
              have i_hc64_40 : c7.toInt = 45 := own_i3 hc64_40
              have i_hc70_41 : 1 ≤ r33.toInt := own_i2 hc70_41
              refine own_callS (pc' := 80) (y := (⟨"com/example/exacting_validator/exactingvalidator/validator/Rfc3339", "daysIn", "(II)I"⟩ : MethodName)) (W := 1) (rm := own_room21) (argsL := [(.int r32), (.int r31)]) (rest := [(.int r33)]) X39 hx hZ Kq39 hown (by rw [hml]; rfl) (own_w86 hw) (own_w87 hw) (own_w46 hw) (own_w88 hw) (by decide) (own_rm21 lch Z a0 hw [] r32 r31 h0 n0 ⟨by omega, by omega⟩ ⟨by omega, by omega⟩) (by decide) (by decide) (by decide) (by decide) (lenOf own_pd12 rfl) rfl (by exact Nat.le_of_eq rfl) (hb hby own_d14_77) rfl ?_
              intro T42 Lc42 v42 X42 hQ42
              obtain ⟨r42, rfl, Nq42, Kq42, G42_0⟩ := hQ42
              have N42 := Fr.app N39 Nq42
              show own_Ends prg e below s _ _ _ T42 (mkF m 80 #[.val (.ref a), .val (.int (0 : Int32)), .val (.int r31), .val (.int r32), .val (.int r33)] [(.int r42), (.int r33)])
              by_cases hc80_43 : r42 < r33
              · refine own_icmpYes (pc' := 87) X42 hx (hb hby own_d14_80) (tlt hc80_43).2.2.1 (by decide) (by decide) ?_
                refine own_iconst (pc' := 88) (z := (0 : Int32)) X42 hx (hb hby own_d14_87) rfl rfl ?_
                refine own_retN X42 hx hlk hret (by simp) (hb hby own_d14_88) (by decide) (by decide) ?_
                have i_hc80_43 : r42.toInt < r33.toInt := own_i1 hc80_43
                have gy : r31.toInt = 1000 * (c0.toInt - 48) + 100 * (c1.toInt - 48) + 10 * (c2.toInt - 48) + (c3.toInt - 48) := by omega
                have gm : r32.toInt = 10 * (c5.toInt - 48) + (c6.toInt - 48) := by omega
                have gl := G42_0
                rw [gy, gm] at gl
                exact ⟨0, rfl, N42, Kq42, Or.inl rfl, ⟨fun q => absurd q (by decide), fun q => by unfold own_WF at q; exfalso; omega⟩⟩
              · refine own_icmpNo (pc' := 83) X42 hx (hb hby own_d14_80) rfl (flt hc80_43).2.2.1 ?_
                refine own_iconst (pc' := 84) (z := (1 : Int32)) X42 hx (hb hby own_d14_83) rfl rfl ?_
                refine own_goto (pc' := 88) X42 hx (hb hby own_d14_84) (by decide) (by decide) ?_
                refine own_retN X42 hx hlk hret (by simp) (hb hby own_d14_88) (by decide) (by decide) ?_
                have i_hc80_43 : r33.toInt ≤ r42.toInt := own_i2 hc80_43
                have gy : r31.toInt = 1000 * (c0.toInt - 48) + 100 * (c1.toInt - 48) + 10 * (c2.toInt - 48) + (c3.toInt - 48) := by omega
                have gm : r32.toInt = 10 * (c5.toInt - 48) + (c6.toInt - 48) := by omega
                have gl := G42_0
                rw [gy, gm] at gl
                exact ⟨1, rfl, N42, Kq42, Or.inr rfl, ⟨fun _ => by unfold own_WF; omega, fun _ => rfl⟩⟩
          · refine own_icmpYes (pc' := 87) X39 hx (hb hby own_d14_64) (feq hc64_40).2 (by decide) (by decide) ?_
            refine own_iconst (pc' := 88) (z := (0 : Int32)) X39 hx (hb hby own_d14_87) rfl rfl ?_
            refine own_retN X39 hx hlk hret (by simp) (hb hby own_d14_88) (by decide) (by decide) ?_
            have i_hc28_34 : 0 ≤ r31.toInt := own_i2 hc28_34
            have i_hc40_36 : c4.toInt = 45 := own_i3 hc40_36
            have i_hc45_37 : 1 ≤ r32.toInt := own_i2 hc45_37
            have i_hc51_38 : r32.toInt ≤ 12 := own_i2 hc51_38
            have i_hc64_40 : ¬ c7.toInt = 45 := own_i4 hc64_40
            exact ⟨0, rfl, N39, Kq39, Or.inl rfl, ⟨fun q => absurd q (by decide), fun q => by unfold own_WF at q; exfalso; omega⟩⟩
    · refine own_icmpYes (pc' := 87) X35 hx (hb hby own_d14_40) (feq hc40_36).2 (by decide) (by decide) ?_
      refine own_iconst (pc' := 88) (z := (0 : Int32)) X35 hx (hb hby own_d14_87) rfl rfl ?_
      refine own_retN X35 hx hlk hret (by simp) (hb hby own_d14_88) (by decide) (by decide) ?_
      have i_hc28_34 : 0 ≤ r31.toInt := own_i2 hc28_34
      have i_hc40_36 : ¬ c4.toInt = 45 := own_i4 hc40_36
      exact ⟨0, rfl, N35, Kq35, Or.inl rfl, ⟨fun q => absurd q (by decide), fun q => by unfold own_WF at q; exfalso; omega⟩⟩
def own_room11_10 : Room := { frames := 6, cells := 0, slots := 0, locals := 86 }
def own_Q11_10 (Z : State) (a : Addr) (i : Int32) (vb : Addr) (vk : ClassId) (wf : Value) (c0 : Int32) (c1 : Int32) (c2 : Int32) (c3 : Int32) (c4 : Int32) (c5 : Int32) (c6 : Int32) (c7 : Int32) (c8 : Int32) (c9 : Int32) (h0 : Heap) (n0 : Nat) (v : Option Value) (h : Heap) (L : List Loc) : Prop := ∃ (r : Int32), v = some (.int r) ∧ Fr n0 L ∧ h = h0 ∧ (r = 0 ∨ r = 1) ∧ (r = 1 ↔ own_WF c0 c1 c2 c3 c4 c5 c6 c7 c8 c9)
theorem own_ef_rm11_10 (m : MethodId) (x0 : Addr) : entryFrame m #[(.ref x0)] 1 = mkF m 0 #[.val (.ref x0)] [] := by first | (simp [entryFrame, mkF, argsToLocals, Value.category]; done) | rfl
set_option maxRecDepth 65536 in
set_option maxHeartbeats 40000000 in
theorem own_rm11_10 (lch : Launch) (Z : State) (a0 : Array Value) (hw : ∀ d ∈ tables_1, d.before a0 Z = true) (ws : List Jvm.Cond) (a : Addr) (i : Int32) (vb : Addr) (vk : ClassId) (wf : Value) (c0 : Int32) (c1 : Int32) (c2 : Int32) (c3 : Int32) (c4 : Int32) (c5 : Int32) (c6 : Int32) (c7 : Int32) (c8 : Int32) (c9 : Int32) (h0 : Heap) (n0 : Nat) (F0 : Fld Z h0 a "java/lang/String" "coder" "B" (.int (0 : Int32))) (S0 : Sta Z h0 "java/lang/String" "COMPACT_STRINGS" "Z" (.int i)) (hi : ¬ i = (0 : Int32)) (G0 : Exa Z h0 a "java/lang/String") (F1 : Fld Z h0 a "java/lang/String" "value" "[B" (.ref vb)) (V0 : Arv Z h0 vb vk .byte (10 : Int32) [(.int (own_byt c0)), (.int (own_byt c1)), (.int (own_byt c2)), (.int (own_byt c3)), (.int (own_byt c4)), (.int (own_byt c5)), (.int (own_byt c6)), (.int (own_byt c7)), (.int (own_byt c8)), (.int (own_byt c9))] (.int (0 : Int32))) (S1 : Sta Z h0 "jdk/internal/util/Preconditions" "SIOOBE_FORMATTER" "Ljava/util/function/BiFunction;" wf) (hwf : wf.isRef = true) (rc0 : own_R c0) (rc1 : own_R c1) (rc2 : own_R c2) (rc3 : own_R c3) (rc4 : own_R c4) (rc5 : own_R c5) (rc6 : own_R c6) (rc7 : own_R c7) (rc8 : own_R c8) (rc9 : own_R c9) :
    MetFree lch (⟨"com/example/exacting_validator/exactingvalidator/validator/Rfc3339", "isFullDate", "(Ljava/lang/String;)Z"⟩ : MethodName) (head1 (Jvm.Cond.code (⟨"com/example/exacting_validator/exactingvalidator/validator/Rfc3339", "isFullDate", "(Ljava/lang/String;)Z"⟩ : MethodName) prog_7_method_3_code 1 (some .boolean) :: ws) own_room11_10) (fun zz U => zz = #[(.ref a)] ∧ Z.Warmed39 U.vm ∧ U.heap = h0) (fun _ _ _ _ _ => True) (fun _ U o U' => ∃ v L, o = .returned v ∧ own_Q11_10 Z a i vb vk wf c0 c1 c2 c3 c4 c5 c6 c7 c8 c9 h0 n0 v U'.heap L ∧ FrameEnd U o U' L own_room11_10.cells own_room11_10.slots) := by
  refine MetFree.of_bodySF (plainFor_of_name own_pn5) hisR ?_
  intro prg e s m args below meth c s₁ Bd hml0 hP hK
  obtain ⟨rfl, hZ, hh⟩ := hP
  have hx := Bd.exec
  have hby := Bd.bytes
  have hml : c.maxLocals = 1 := hml0
  have hown : s.vm.findClass "com/example/exacting_validator/exactingvalidator/validator/Rfc3339" = some m.cls := findClass_of_methodNamed Bd.named
  have hnm := (name_of_methodNamed Bd.named Bd.method).1
  have hlk : meth.locks = false := BodyLoose.notSynchronized Bd
  have hret := Bd.returns
  have X0 : Stand prg lch e own_room11_10 s m #[(.ref a)] below meth c s₁ [] 0 0 := Stand.of_body Bd
  have e0 : s₁.heap = h0 := by rw [← hh, Bd.state]; rfl
  have N0 := Fr.nil n0
  show own_Ends prg e below s (own_Q11_10 Z a i vb vk wf c0 c1 c2 c3 c4 c5 c6 c7 c8 c9 h0 n0) own_room11_10.cells own_room11_10.slots s₁ (entryFrame m #[(.ref a)] 1)
  refine own_cast (own_ef_rm11_10 m a) ?_
  refine own_aloadN (pc' := 1) X0 hx (hb hby own_d11_0) rfl rfl rfl ?_
  refine own_callV (pc' := 4) (y := (⟨"java/lang/String", "length", "()I"⟩ : MethodName)) (W := 0) (rm := own_room12_10) (argsL := []) (rest := []) (b := a) (C := "java/lang/String") X0 hx hZ e0 hown (by rw [hml]; rfl) G0 (own_w48 hw) (own_w49 hw) (own_w51 hw) (own_w50 hw) (own_w4 hw) (own_w52 hw) (by decide) (own_rm12_10 lch Z a0 hw [] a i vb vk _ h0 n0 F0 S0 hi G0 F1 V0) (by decide) (by decide) (by decide) (by decide) (lenOf own_pd9 rfl) rfl (by exact Nat.le_of_eq rfl) (hb hby own_d11_1) rfl ?_
  intro T31 Lc31 v31 X31 hQ31
  obtain ⟨rfl, Nq31, Kq31⟩ := hQ31
  have N31 := Fr.app N0 Nq31
  show own_Ends prg e below s _ _ _ T31 (mkF m 4 #[.val (.ref a)] [(.int (10 : Int32))])
  refine own_bipush (pc' := 6) (z := (10 : Int32)) X31 hx (hb hby own_d11_4) rfl rfl ?_
  refine own_icmpNo (pc' := 9) X31 hx (hb hby own_d11_6) rfl (teq (by decide)).2 ?_
  refine own_aloadN (pc' := 10) X31 hx (hb hby own_d11_9) rfl rfl rfl ?_
  refine own_iconst (pc' := 11) (z := (0 : Int32)) X31 hx (hb hby own_d11_10) rfl rfl ?_
  refine own_callS (pc' := 14) (y := (⟨"com/example/exacting_validator/exactingvalidator/validator/Rfc3339", "isFullDateAt", "(Ljava/lang/String;I)Z"⟩ : MethodName)) (W := 0) (rm := own_room14) (argsL := [(.ref a), (.int (0 : Int32))]) (rest := []) X31 hx hZ Kq31 hown (by rw [hml]; rfl) (own_w58 hw) (own_w59 hw) (own_w46 hw) (own_w60 hw) (by decide) (own_rm14 lch Z a0 hw [] a i vb vk wf c0 c1 c2 c3 c4 c5 c6 c7 c8 c9 h0 n0 F0 S0 hi G0 F1 V0 S1 hwf rc0 rc1 rc2 rc3 rc4 rc5 rc6 rc7 rc8 rc9) (by decide) (by decide) (by decide) (by decide) (lenOf own_pd13 rfl) rfl (by exact Nat.le_of_eq rfl) (hb hby own_d11_11) rfl ?_
  intro T32 Lc32 v32 X32 hQ32
  obtain ⟨r32, rfl, Nq32, Kq32, G32_0, G32_1⟩ := hQ32
  have N32 := Fr.app N31 Nq32
  show own_Ends prg e below s _ _ _ T32 (mkF m 14 #[.val (.ref a)] [(.int r32)])
  by_cases hc14_33 : r32 = (0 : Int32)
  · refine own_ifYes (pc' := 21) X32 hx (hb hby own_d11_14) (teq hc14_33).1 (by decide) (by decide) ?_
    refine own_iconst (pc' := 22) (z := (0 : Int32)) X32 hx (hb hby own_d11_21) rfl rfl ?_
    refine own_retN X32 hx hlk hret (by simp) (hb hby own_d11_22) (by decide) (by decide) ?_
    exact ⟨0, rfl, N32, Kq32, Or.inl rfl, ⟨fun q => absurd q (by decide), fun q => absurd (G32_1.mpr q) (by rw [hc14_33]; decide)⟩⟩
  · refine own_ifNo (pc' := 17) X32 hx (hb hby own_d11_14) rfl (feq hc14_33).1 ?_
    refine own_iconst (pc' := 18) (z := (1 : Int32)) X32 hx (hb hby own_d11_17) rfl rfl ?_
    refine own_goto (pc' := 22) X32 hx (hb hby own_d11_18) (by decide) (by decide) ?_
    refine own_retN X32 hx hlk hret (by simp) (hb hby own_d11_22) (by decide) (by decide) ?_
    exact ⟨1, rfl, N32, Kq32, Or.inr rfl, ⟨fun _ => G32_1.mp (G32_0.resolve_left hc14_33), fun _ => rfl⟩⟩
def own_room11_9 : Room := { frames := 2, cells := 0, slots := 0, locals := 25 }
def own_Q11_9 (Z : State) (a : Addr) (i : Int32) (vb : Addr) (vk : ClassId) (vs : List Value) (h0 : Heap) (n0 : Nat) (v : Option Value) (h : Heap) (L : List Loc) : Prop := v = some (.int (0 : Int32)) ∧ Fr n0 L ∧ h = h0
theorem own_ef_rm11_9 (m : MethodId) (x0 : Addr) : entryFrame m #[(.ref x0)] 1 = mkF m 0 #[.val (.ref x0)] [] := by first | (simp [entryFrame, mkF, argsToLocals, Value.category]; done) | rfl
set_option maxRecDepth 65536 in
set_option maxHeartbeats 40000000 in
theorem own_rm11_9 (lch : Launch) (Z : State) (a0 : Array Value) (hw : ∀ d ∈ tables_1, d.before a0 Z = true) (ws : List Jvm.Cond) (a : Addr) (i : Int32) (vb : Addr) (vk : ClassId) (vs : List Value) (h0 : Heap) (n0 : Nat) (F0 : Fld Z h0 a "java/lang/String" "coder" "B" (.int (0 : Int32))) (S0 : Sta Z h0 "java/lang/String" "COMPACT_STRINGS" "Z" (.int i)) (hi : ¬ i = (0 : Int32)) (G0 : Exa Z h0 a "java/lang/String") (F1 : Fld Z h0 a "java/lang/String" "value" "[B" (.ref vb)) (V0 : Arv Z h0 vb vk .byte (9 : Int32) vs (.int (0 : Int32))) :
    MetFree lch (⟨"com/example/exacting_validator/exactingvalidator/validator/Rfc3339", "isFullDate", "(Ljava/lang/String;)Z"⟩ : MethodName) (head1 (Jvm.Cond.code (⟨"com/example/exacting_validator/exactingvalidator/validator/Rfc3339", "isFullDate", "(Ljava/lang/String;)Z"⟩ : MethodName) prog_7_method_3_code 1 (some .boolean) :: ws) own_room11_9) (fun zz U => zz = #[(.ref a)] ∧ Z.Warmed39 U.vm ∧ U.heap = h0) (fun _ _ _ _ _ => True) (fun _ U o U' => ∃ v L, o = .returned v ∧ own_Q11_9 Z a i vb vk vs h0 n0 v U'.heap L ∧ FrameEnd U o U' L own_room11_9.cells own_room11_9.slots) := by
  refine MetFree.of_bodySF (plainFor_of_name own_pn5) hisR ?_
  intro prg e s m args below meth c s₁ Bd hml0 hP hK
  obtain ⟨rfl, hZ, hh⟩ := hP
  have hx := Bd.exec
  have hby := Bd.bytes
  have hml : c.maxLocals = 1 := hml0
  have hown : s.vm.findClass "com/example/exacting_validator/exactingvalidator/validator/Rfc3339" = some m.cls := findClass_of_methodNamed Bd.named
  have hnm := (name_of_methodNamed Bd.named Bd.method).1
  have hlk : meth.locks = false := BodyLoose.notSynchronized Bd
  have hret := Bd.returns
  have X0 : Stand prg lch e own_room11_9 s m #[(.ref a)] below meth c s₁ [] 0 0 := Stand.of_body Bd
  have e0 : s₁.heap = h0 := by rw [← hh, Bd.state]; rfl
  have N0 := Fr.nil n0
  show own_Ends prg e below s (own_Q11_9 Z a i vb vk vs h0 n0) own_room11_9.cells own_room11_9.slots s₁ (entryFrame m #[(.ref a)] 1)
  refine own_cast (own_ef_rm11_9 m a) ?_
  refine own_aloadN (pc' := 1) X0 hx (hb hby own_d11_0) rfl rfl rfl ?_
  refine own_callV (pc' := 4) (y := (⟨"java/lang/String", "length", "()I"⟩ : MethodName)) (W := 0) (rm := own_room12_9) (argsL := []) (rest := []) (b := a) (C := "java/lang/String") X0 hx hZ e0 hown (by rw [hml]; rfl) G0 (own_w48 hw) (own_w49 hw) (own_w51 hw) (own_w50 hw) (own_w4 hw) (own_w52 hw) (by decide) (own_rm12_9 lch Z a0 hw [] a i vb vk _ h0 n0 F0 S0 hi G0 F1 V0) (by decide) (by decide) (by decide) (by decide) (lenOf own_pd9 rfl) rfl (by exact Nat.le_of_eq rfl) (hb hby own_d11_1) rfl ?_
  intro T31 Lc31 v31 X31 hQ31
  obtain ⟨rfl, Nq31, Kq31⟩ := hQ31
  have N31 := Fr.app N0 Nq31
  show own_Ends prg e below s _ _ _ T31 (mkF m 4 #[.val (.ref a)] [(.int (9 : Int32))])
  refine own_bipush (pc' := 6) (z := (10 : Int32)) X31 hx (hb hby own_d11_4) rfl rfl ?_
  refine own_icmpYes (pc' := 21) X31 hx (hb hby own_d11_6) (feq (by decide)).2 (by decide) (by decide) ?_
  refine own_iconst (pc' := 22) (z := (0 : Int32)) X31 hx (hb hby own_d11_21) rfl rfl ?_
  refine own_retN X31 hx hlk hret (by simp) (hb hby own_d11_22) (by decide) (by decide) ?_
  exact ⟨rfl, N31, Kq31⟩
def own_room11_11 : Room := { frames := 2, cells := 0, slots := 0, locals := 25 }
def own_Q11_11 (Z : State) (a : Addr) (i : Int32) (vb : Addr) (vk : ClassId) (vs : List Value) (h0 : Heap) (n0 : Nat) (v : Option Value) (h : Heap) (L : List Loc) : Prop := v = some (.int (0 : Int32)) ∧ Fr n0 L ∧ h = h0
theorem own_ef_rm11_11 (m : MethodId) (x0 : Addr) : entryFrame m #[(.ref x0)] 1 = mkF m 0 #[.val (.ref x0)] [] := by first | (simp [entryFrame, mkF, argsToLocals, Value.category]; done) | rfl
set_option maxRecDepth 65536 in
set_option maxHeartbeats 40000000 in
theorem own_rm11_11 (lch : Launch) (Z : State) (a0 : Array Value) (hw : ∀ d ∈ tables_1, d.before a0 Z = true) (ws : List Jvm.Cond) (a : Addr) (i : Int32) (vb : Addr) (vk : ClassId) (vs : List Value) (h0 : Heap) (n0 : Nat) (F0 : Fld Z h0 a "java/lang/String" "coder" "B" (.int (0 : Int32))) (S0 : Sta Z h0 "java/lang/String" "COMPACT_STRINGS" "Z" (.int i)) (hi : ¬ i = (0 : Int32)) (G0 : Exa Z h0 a "java/lang/String") (F1 : Fld Z h0 a "java/lang/String" "value" "[B" (.ref vb)) (V0 : Arv Z h0 vb vk .byte (11 : Int32) vs (.int (0 : Int32))) :
    MetFree lch (⟨"com/example/exacting_validator/exactingvalidator/validator/Rfc3339", "isFullDate", "(Ljava/lang/String;)Z"⟩ : MethodName) (head1 (Jvm.Cond.code (⟨"com/example/exacting_validator/exactingvalidator/validator/Rfc3339", "isFullDate", "(Ljava/lang/String;)Z"⟩ : MethodName) prog_7_method_3_code 1 (some .boolean) :: ws) own_room11_11) (fun zz U => zz = #[(.ref a)] ∧ Z.Warmed39 U.vm ∧ U.heap = h0) (fun _ _ _ _ _ => True) (fun _ U o U' => ∃ v L, o = .returned v ∧ own_Q11_11 Z a i vb vk vs h0 n0 v U'.heap L ∧ FrameEnd U o U' L own_room11_11.cells own_room11_11.slots) := by
  refine MetFree.of_bodySF (plainFor_of_name own_pn5) hisR ?_
  intro prg e s m args below meth c s₁ Bd hml0 hP hK
  obtain ⟨rfl, hZ, hh⟩ := hP
  have hx := Bd.exec
  have hby := Bd.bytes
  have hml : c.maxLocals = 1 := hml0
  have hown : s.vm.findClass "com/example/exacting_validator/exactingvalidator/validator/Rfc3339" = some m.cls := findClass_of_methodNamed Bd.named
  have hnm := (name_of_methodNamed Bd.named Bd.method).1
  have hlk : meth.locks = false := BodyLoose.notSynchronized Bd
  have hret := Bd.returns
  have X0 : Stand prg lch e own_room11_11 s m #[(.ref a)] below meth c s₁ [] 0 0 := Stand.of_body Bd
  have e0 : s₁.heap = h0 := by rw [← hh, Bd.state]; rfl
  have N0 := Fr.nil n0
  show own_Ends prg e below s (own_Q11_11 Z a i vb vk vs h0 n0) own_room11_11.cells own_room11_11.slots s₁ (entryFrame m #[(.ref a)] 1)
  refine own_cast (own_ef_rm11_11 m a) ?_
  refine own_aloadN (pc' := 1) X0 hx (hb hby own_d11_0) rfl rfl rfl ?_
  refine own_callV (pc' := 4) (y := (⟨"java/lang/String", "length", "()I"⟩ : MethodName)) (W := 0) (rm := own_room12_11) (argsL := []) (rest := []) (b := a) (C := "java/lang/String") X0 hx hZ e0 hown (by rw [hml]; rfl) G0 (own_w48 hw) (own_w49 hw) (own_w51 hw) (own_w50 hw) (own_w4 hw) (own_w52 hw) (by decide) (own_rm12_11 lch Z a0 hw [] a i vb vk _ h0 n0 F0 S0 hi G0 F1 V0) (by decide) (by decide) (by decide) (by decide) (lenOf own_pd9 rfl) rfl (by exact Nat.le_of_eq rfl) (hb hby own_d11_1) rfl ?_
  intro T31 Lc31 v31 X31 hQ31
  obtain ⟨rfl, Nq31, Kq31⟩ := hQ31
  have N31 := Fr.app N0 Nq31
  show own_Ends prg e below s _ _ _ T31 (mkF m 4 #[.val (.ref a)] [(.int (11 : Int32))])
  refine own_bipush (pc' := 6) (z := (10 : Int32)) X31 hx (hb hby own_d11_4) rfl rfl ?_
  refine own_icmpYes (pc' := 21) X31 hx (hb hby own_d11_6) (feq (by decide)).2 (by decide) (by decide) ?_
  refine own_iconst (pc' := 22) (z := (0 : Int32)) X31 hx (hb hby own_d11_21) rfl rfl ?_
  refine own_retN X31 hx hlk hret (by simp) (hb hby own_d11_22) (by decide) (by decide) ?_
  exact ⟨rfl, N31, Kq31⟩
def own_room8 : Room := { frames := 0, cells := 0, slots := 0, locals := 0 }
def own_Q8 (Z : State) (p0 : Int32) (h0 : Heap) (n0 : Nat) (v : Option Value) (h : Heap) (L : List Loc) : Prop := v = some (.int (own_dig p0)) ∧ Fr n0 L ∧ h = h0
theorem own_ef_rm8 (m : MethodId) (x0 : Int32) : entryFrame m #[(.int x0)] 1 = mkF m 0 #[.val (.int x0)] [] := by first | (simp [entryFrame, mkF, argsToLocals, Value.category]; done) | rfl
set_option maxRecDepth 65536 in
set_option maxHeartbeats 40000000 in
theorem own_rm8 (lch : Launch) (Z : State) (a0 : Array Value) (hw : ∀ d ∈ tables_1, d.before a0 Z = true) (ws : List Jvm.Cond) (p0 : Int32) (h0 : Heap) (n0 : Nat) :
    MetFree lch (⟨"com/example/exacting_validator/exactingvalidator/validator/Rfc3339IsFullDatePinLaw", "dig", "(C)Z"⟩ : MethodName) (head1 (Jvm.Cond.code (⟨"com/example/exacting_validator/exactingvalidator/validator/Rfc3339IsFullDatePinLaw", "dig", "(C)Z"⟩ : MethodName) method_4_code 1 (some .boolean) :: ws) own_room8) (fun zz U => zz = #[(.int p0)] ∧ Z.Warmed39 U.vm ∧ U.heap = h0) (fun _ _ _ _ _ => True) (fun _ U o U' => ∃ v L, o = .returned v ∧ own_Q8 Z p0 h0 n0 v U'.heap L ∧ FrameEnd U o U' L own_room8.cells own_room8.slots) := by
  refine MetFree.of_bodySF (plainFor_of_name own_pn0) hisR ?_
  intro prg e s m args below meth c s₁ Bd hml0 hP hK
  obtain ⟨rfl, hZ, hh⟩ := hP
  have hx := Bd.exec
  have hby := Bd.bytes
  have hml : c.maxLocals = 1 := hml0
  have hown : s.vm.findClass "com/example/exacting_validator/exactingvalidator/validator/Rfc3339IsFullDatePinLaw" = some m.cls := findClass_of_methodNamed Bd.named
  have hnm := (name_of_methodNamed Bd.named Bd.method).1
  have hlk : meth.locks = false := BodyLoose.notSynchronized Bd
  have hret := Bd.returns
  have X0 : Stand prg lch e own_room8 s m #[(.int p0)] below meth c s₁ [] 0 0 := Stand.of_body Bd
  have e0 : s₁.heap = h0 := by rw [← hh, Bd.state]; rfl
  have N0 := Fr.nil n0
  show own_Ends prg e below s (own_Q8 Z p0 h0 n0) own_room8.cells own_room8.slots s₁ (entryFrame m #[(.int p0)] 1)
  refine own_cast (own_ef_rm8 m p0) ?_
  refine own_iloadN (pc' := 1) X0 hx (hb hby own_d8_0) rfl rfl ?_
  refine own_bipush (pc' := 3) (z := (48 : Int32)) X0 hx (hb hby own_d8_1) rfl rfl ?_
  by_cases hc3_31 : p0 < (48 : Int32)
  · refine own_icmpYes (pc' := 16) X0 hx (hb hby own_d8_3) (tlt hc3_31).1 (by decide) (by decide) ?_
    refine own_iconst (pc' := 17) (z := (0 : Int32)) X0 hx (hb hby own_d8_16) rfl rfl ?_
    refine own_retN X0 hx hlk hret (by simp) (hb hby own_d8_17) (by decide) (by decide) ?_
    have i_hc3_31 : p0.toInt < 48 := own_i1 hc3_31
    refine ⟨own_some ?_, N0, e0⟩
    rw [own_nb0]; unfold own_dig
    split <;> first | rfl | (exfalso; omega)
  · refine own_icmpNo (pc' := 6) X0 hx (hb hby own_d8_3) rfl (flt hc3_31).1 ?_
    refine own_iloadN (pc' := 7) X0 hx (hb hby own_d8_6) rfl rfl ?_
    refine own_bipush (pc' := 9) (z := (57 : Int32)) X0 hx (hb hby own_d8_7) rfl rfl ?_
    by_cases hc9_32 : (57 : Int32) < p0
    · refine own_icmpYes (pc' := 16) X0 hx (hb hby own_d8_9) (tlt hc9_32).2.2.1 (by decide) (by decide) ?_
      refine own_iconst (pc' := 17) (z := (0 : Int32)) X0 hx (hb hby own_d8_16) rfl rfl ?_
      refine own_retN X0 hx hlk hret (by simp) (hb hby own_d8_17) (by decide) (by decide) ?_
      have i_hc3_31 : 48 ≤ p0.toInt := own_i2 hc3_31
      have i_hc9_32 : 57 < p0.toInt := own_i1 hc9_32
      refine ⟨own_some ?_, N0, e0⟩
      rw [own_nb0]; unfold own_dig
      split <;> first | rfl | (exfalso; omega)
    · refine own_icmpNo (pc' := 12) X0 hx (hb hby own_d8_9) rfl (flt hc9_32).2.2.1 ?_
      refine own_iconst (pc' := 13) (z := (1 : Int32)) X0 hx (hb hby own_d8_12) rfl rfl ?_
      refine own_goto (pc' := 17) X0 hx (hb hby own_d8_13) (by decide) (by decide) ?_
      refine own_retN X0 hx hlk hret (by simp) (hb hby own_d8_17) (by decide) (by decide) ?_
      have i_hc3_31 : 48 ≤ p0.toInt := own_i2 hc3_31
      have i_hc9_32 : p0.toInt ≤ 57 := own_i2 hc9_32
      refine ⟨own_some ?_, N0, e0⟩
      rw [own_nb1]; unfold own_dig
      split <;> first | rfl | (exfalso; omega)
def own_room9 : Room := { frames := 0, cells := 0, slots := 0, locals := 0 }
def own_Q9 (Z : State) (p0 : Int32) (h0 : Heap) (n0 : Nat) (v : Option Value) (h : Heap) (L : List Loc) : Prop := v = some (.int (p0 - (48 : Int32))) ∧ Fr n0 L ∧ h = h0
theorem own_ef_rm9 (m : MethodId) (x0 : Int32) : entryFrame m #[(.int x0)] 1 = mkF m 0 #[.val (.int x0)] [] := by first | (simp [entryFrame, mkF, argsToLocals, Value.category]; done) | rfl
set_option maxRecDepth 65536 in
set_option maxHeartbeats 40000000 in
theorem own_rm9 (lch : Launch) (Z : State) (a0 : Array Value) (hw : ∀ d ∈ tables_1, d.before a0 Z = true) (ws : List Jvm.Cond) (p0 : Int32) (h0 : Heap) (n0 : Nat) :
    MetFree lch (⟨"com/example/exacting_validator/exactingvalidator/validator/Rfc3339IsFullDatePinLaw", "val", "(C)I"⟩ : MethodName) (head1 (Jvm.Cond.code (⟨"com/example/exacting_validator/exactingvalidator/validator/Rfc3339IsFullDatePinLaw", "val", "(C)I"⟩ : MethodName) method_5_code 1 (some .int) :: ws) own_room9) (fun zz U => zz = #[(.int p0)] ∧ Z.Warmed39 U.vm ∧ U.heap = h0) (fun _ _ _ _ _ => True) (fun _ U o U' => ∃ v L, o = .returned v ∧ own_Q9 Z p0 h0 n0 v U'.heap L ∧ FrameEnd U o U' L own_room9.cells own_room9.slots) := by
  refine MetFree.of_bodySF (plainFor_of_name own_pn0) hisR ?_
  intro prg e s m args below meth c s₁ Bd hml0 hP hK
  obtain ⟨rfl, hZ, hh⟩ := hP
  have hx := Bd.exec
  have hby := Bd.bytes
  have hml : c.maxLocals = 1 := hml0
  have hown : s.vm.findClass "com/example/exacting_validator/exactingvalidator/validator/Rfc3339IsFullDatePinLaw" = some m.cls := findClass_of_methodNamed Bd.named
  have hnm := (name_of_methodNamed Bd.named Bd.method).1
  have hlk : meth.locks = false := BodyLoose.notSynchronized Bd
  have hret := Bd.returns
  have X0 : Stand prg lch e own_room9 s m #[(.int p0)] below meth c s₁ [] 0 0 := Stand.of_body Bd
  have e0 : s₁.heap = h0 := by rw [← hh, Bd.state]; rfl
  have N0 := Fr.nil n0
  show own_Ends prg e below s (own_Q9 Z p0 h0 n0) own_room9.cells own_room9.slots s₁ (entryFrame m #[(.int p0)] 1)
  refine own_cast (own_ef_rm9 m p0) ?_
  refine own_iloadN (pc' := 1) X0 hx (hb hby own_d9_0) rfl rfl ?_
  refine own_bipush (pc' := 3) (z := (48 : Int32)) X0 hx (hb hby own_d9_1) rfl rfl ?_
  refine own_isub (pc' := 4) (z := (p0 - (48 : Int32))) X0 hx (hb hby own_d9_3) rfl rfl ?_
  refine own_retI X0 hx hlk hret (hb hby own_d9_4) (by decide) (by decide) ?_
  exact ⟨rfl, N0, e0⟩
def own_room7 : Room := { frames := 1, cells := 0, slots := 0, locals := 15 }
def own_Q7 (Z : State) (a : Addr) (ak : ClassId) (c0 : Int32) (c1 : Int32) (c2 : Int32) (c3 : Int32) (c4 : Int32) (c5 : Int32) (c6 : Int32) (c7 : Int32) (c8 : Int32) (c9 : Int32) (h0 : Heap) (n0 : Nat) (v : Option Value) (h : Heap) (L : List Loc) : Prop := ∃ (r : Int32), v = some (.int r) ∧ Fr n0 L ∧ h = h0 ∧ (r = 0 ∨ r = 1) ∧ (r = 1 ↔ own_WF c0 c1 c2 c3 c4 c5 c6 c7 c8 c9)
theorem own_ef_rm7 (m : MethodId) (x0 : Addr) : entryFrame m #[(.ref x0)] 4 = mkF m 0 #[.val (.ref x0), .unset, .unset, .unset] [] := by first | (simp [entryFrame, mkF, argsToLocals, Value.category]; done) | rfl
set_option maxRecDepth 65536 in
set_option maxHeartbeats 40000000 in
theorem own_rm7 (lch : Launch) (Z : State) (a0 : Array Value) (hw : ∀ d ∈ tables_1, d.before a0 Z = true) (ws : List Jvm.Cond) (a : Addr) (ak : ClassId) (c0 : Int32) (c1 : Int32) (c2 : Int32) (c3 : Int32) (c4 : Int32) (c5 : Int32) (c6 : Int32) (c7 : Int32) (c8 : Int32) (c9 : Int32) (h0 : Heap) (n0 : Nat) (V0 : Arv Z h0 a ak .char (10 : Int32) [(.int c0), (.int c1), (.int c2), (.int c3), (.int c4), (.int c5), (.int c6), (.int c7), (.int c8), (.int c9)] (.int (0 : Int32))) :
    MetFree lch (⟨"com/example/exacting_validator/exactingvalidator/validator/Rfc3339IsFullDatePinLaw", "wellFormed", "([C)Z"⟩ : MethodName) (head1 (Jvm.Cond.code (⟨"com/example/exacting_validator/exactingvalidator/validator/Rfc3339IsFullDatePinLaw", "wellFormed", "([C)Z"⟩ : MethodName) method_6_code 4 (some .boolean) :: ws) own_room7) (fun zz U => zz = #[(.ref a)] ∧ Z.Warmed39 U.vm ∧ U.heap = h0) (fun _ _ _ _ _ => True) (fun _ U o U' => ∃ v L, o = .returned v ∧ own_Q7 Z a ak c0 c1 c2 c3 c4 c5 c6 c7 c8 c9 h0 n0 v U'.heap L ∧ FrameEnd U o U' L own_room7.cells own_room7.slots) := by
  refine MetFree.of_bodySF (plainFor_of_name own_pn0) hisR ?_
  intro prg e s m args below meth c s₁ Bd hml0 hP hK
  obtain ⟨rfl, hZ, hh⟩ := hP
  have hx := Bd.exec
  have hby := Bd.bytes
  have hml : c.maxLocals = 4 := hml0
  have hown : s.vm.findClass "com/example/exacting_validator/exactingvalidator/validator/Rfc3339IsFullDatePinLaw" = some m.cls := findClass_of_methodNamed Bd.named
  have hnm := (name_of_methodNamed Bd.named Bd.method).1
  have hlk : meth.locks = false := BodyLoose.notSynchronized Bd
  have hret := Bd.returns
  have X0 : Stand prg lch e own_room7 s m #[(.ref a)] below meth c s₁ [] 0 0 := Stand.of_body Bd
  have e0 : s₁.heap = h0 := by rw [← hh, Bd.state]; rfl
  have N0 := Fr.nil n0
  show own_Ends prg e below s (own_Q7 Z a ak c0 c1 c2 c3 c4 c5 c6 c7 c8 c9 h0 n0) own_room7.cells own_room7.slots s₁ (entryFrame m #[(.ref a)] 4)
  refine own_cast (own_ef_rm7 m a) ?_
  refine own_aloadN (pc' := 1) X0 hx (hb hby own_d7_0) rfl rfl rfl ?_
  refine own_iconst (pc' := 2) (z := (0 : Int32)) X0 hx (hb hby own_d7_1) rfl rfl ?_
  refine own_caload (pc' := 3) (v := (.int c0)) X0 hx hZ e0 V0 (hb hby own_d7_2) rfl (by decide) rfl ?_
  refine own_callS (pc' := 6) (y := (⟨"com/example/exacting_validator/exactingvalidator/validator/Rfc3339IsFullDatePinLaw", "dig", "(C)Z"⟩ : MethodName)) (W := 0) (rm := own_room8) (argsL := [(.int c0)]) (rest := []) X0 hx hZ e0 hown (by rw [hml]; rfl) (own_w35 hw) (own_w36 hw) (own_w33 hw) (own_w37 hw) (by decide) (own_rm8 lch Z a0 hw [] c0 h0 n0) (by decide) (by decide) (by decide) (by decide) (lenOf own_pd14 rfl) rfl (by exact Nat.le_of_eq rfl) (hb hby own_d7_3) rfl ?_
  intro T31 Lc31 v31 X31 hQ31
  obtain ⟨rfl, Nq31, Kq31⟩ := hQ31
  have N31 := Fr.app N0 Nq31
  show own_Ends prg e below s _ _ _ T31 (mkF m 6 #[.val (.ref a), .unset, .unset, .unset] [(.int (own_dig c0))])
  by_cases hc6_32 : (own_dig c0) = (0 : Int32)
  · refine own_ifYes (pc' := 92) X31 hx (hb hby own_d7_6) (teq hc6_32).1 (by decide) (by decide) ?_
    refine own_iconst (pc' := 93) (z := (0 : Int32)) X31 hx (hb hby own_d7_92) rfl rfl ?_
    refine own_retN X31 hx hlk hret (by simp) (hb hby own_d7_93) (by decide) (by decide) ?_
    have dc0 := own_dgT hc6_32
    have i_hc6_32 : (own_dig c0).toInt = 0 := own_i3 hc6_32
    exact ⟨0, rfl, N31, Kq31, Or.inl rfl, ⟨fun q => absurd q (by decide), fun q => by unfold own_WF at q; exfalso; omega⟩⟩
  · refine own_ifNo (pc' := 9) X31 hx (hb hby own_d7_6) rfl (feq hc6_32).1 ?_
    refine own_aloadN (pc' := 10) X31 hx (hb hby own_d7_9) rfl rfl rfl ?_
    refine own_iconst (pc' := 11) (z := (1 : Int32)) X31 hx (hb hby own_d7_10) rfl rfl ?_
    refine own_caload (pc' := 12) (v := (.int c1)) X31 hx hZ Kq31 V0 (hb hby own_d7_11) rfl (by decide) rfl ?_
    refine own_callS (pc' := 15) (y := (⟨"com/example/exacting_validator/exactingvalidator/validator/Rfc3339IsFullDatePinLaw", "dig", "(C)Z"⟩ : MethodName)) (W := 0) (rm := own_room8) (argsL := [(.int c1)]) (rest := []) X31 hx hZ Kq31 hown (by rw [hml]; rfl) (own_w35 hw) (own_w36 hw) (own_w33 hw) (own_w37 hw) (by decide) (own_rm8 lch Z a0 hw [] c1 h0 n0) (by decide) (by decide) (by decide) (by decide) (lenOf own_pd14 rfl) rfl (by exact Nat.le_of_eq rfl) (hb hby own_d7_12) rfl ?_
    intro T33 Lc33 v33 X33 hQ33
    obtain ⟨rfl, Nq33, Kq33⟩ := hQ33
    have N33 := Fr.app N31 Nq33
    show own_Ends prg e below s _ _ _ T33 (mkF m 15 #[.val (.ref a), .unset, .unset, .unset] [(.int (own_dig c1))])
    by_cases hc15_34 : (own_dig c1) = (0 : Int32)
    · refine own_ifYes (pc' := 92) X33 hx (hb hby own_d7_15) (teq hc15_34).1 (by decide) (by decide) ?_
      refine own_iconst (pc' := 93) (z := (0 : Int32)) X33 hx (hb hby own_d7_92) rfl rfl ?_
      refine own_retN X33 hx hlk hret (by simp) (hb hby own_d7_93) (by decide) (by decide) ?_
      have dc0 := own_dgF hc6_32
      have dc1 := own_dgT hc15_34
      have i_hc6_32 : ¬ (own_dig c0).toInt = 0 := own_i4 hc6_32
      have i_hc15_34 : (own_dig c1).toInt = 0 := own_i3 hc15_34
      exact ⟨0, rfl, N33, Kq33, Or.inl rfl, ⟨fun q => absurd q (by decide), fun q => by unfold own_WF at q; exfalso; omega⟩⟩
    · refine own_ifNo (pc' := 18) X33 hx (hb hby own_d7_15) rfl (feq hc15_34).1 ?_
      refine own_aloadN (pc' := 19) X33 hx (hb hby own_d7_18) rfl rfl rfl ?_
      refine own_iconst (pc' := 20) (z := (2 : Int32)) X33 hx (hb hby own_d7_19) rfl rfl ?_
      refine own_caload (pc' := 21) (v := (.int c2)) X33 hx hZ Kq33 V0 (hb hby own_d7_20) rfl (by decide) rfl ?_
      refine own_callS (pc' := 24) (y := (⟨"com/example/exacting_validator/exactingvalidator/validator/Rfc3339IsFullDatePinLaw", "dig", "(C)Z"⟩ : MethodName)) (W := 0) (rm := own_room8) (argsL := [(.int c2)]) (rest := []) X33 hx hZ Kq33 hown (by rw [hml]; rfl) (own_w35 hw) (own_w36 hw) (own_w33 hw) (own_w37 hw) (by decide) (own_rm8 lch Z a0 hw [] c2 h0 n0) (by decide) (by decide) (by decide) (by decide) (lenOf own_pd14 rfl) rfl (by exact Nat.le_of_eq rfl) (hb hby own_d7_21) rfl ?_
      intro T35 Lc35 v35 X35 hQ35
      obtain ⟨rfl, Nq35, Kq35⟩ := hQ35
      have N35 := Fr.app N33 Nq35
      show own_Ends prg e below s _ _ _ T35 (mkF m 24 #[.val (.ref a), .unset, .unset, .unset] [(.int (own_dig c2))])
      by_cases hc24_36 : (own_dig c2) = (0 : Int32)
      · refine own_ifYes (pc' := 92) X35 hx (hb hby own_d7_24) (teq hc24_36).1 (by decide) (by decide) ?_
        refine own_iconst (pc' := 93) (z := (0 : Int32)) X35 hx (hb hby own_d7_92) rfl rfl ?_
        refine own_retN X35 hx hlk hret (by simp) (hb hby own_d7_93) (by decide) (by decide) ?_
        have dc0 := own_dgF hc6_32
        have dc1 := own_dgF hc15_34
        have dc2 := own_dgT hc24_36
        have i_hc6_32 : ¬ (own_dig c0).toInt = 0 := own_i4 hc6_32
        have i_hc15_34 : ¬ (own_dig c1).toInt = 0 := own_i4 hc15_34
        have i_hc24_36 : (own_dig c2).toInt = 0 := own_i3 hc24_36
        exact ⟨0, rfl, N35, Kq35, Or.inl rfl, ⟨fun q => absurd q (by decide), fun q => by unfold own_WF at q; exfalso; omega⟩⟩
      · refine own_ifNo (pc' := 27) X35 hx (hb hby own_d7_24) rfl (feq hc24_36).1 ?_
        refine own_aloadN (pc' := 28) X35 hx (hb hby own_d7_27) rfl rfl rfl ?_
        refine own_iconst (pc' := 29) (z := (3 : Int32)) X35 hx (hb hby own_d7_28) rfl rfl ?_
        refine own_caload (pc' := 30) (v := (.int c3)) X35 hx hZ Kq35 V0 (hb hby own_d7_29) rfl (by decide) rfl ?_
        refine own_callS (pc' := 33) (y := (⟨"com/example/exacting_validator/exactingvalidator/validator/Rfc3339IsFullDatePinLaw", "dig", "(C)Z"⟩ : MethodName)) (W := 0) (rm := own_room8) (argsL := [(.int c3)]) (rest := []) X35 hx hZ Kq35 hown (by rw [hml]; rfl) (own_w35 hw) (own_w36 hw) (own_w33 hw) (own_w37 hw) (by decide) (own_rm8 lch Z a0 hw [] c3 h0 n0) (by decide) (by decide) (by decide) (by decide) (lenOf own_pd14 rfl) rfl (by exact Nat.le_of_eq rfl) (hb hby own_d7_30) rfl ?_
        intro T37 Lc37 v37 X37 hQ37
        obtain ⟨rfl, Nq37, Kq37⟩ := hQ37
        have N37 := Fr.app N35 Nq37
        show own_Ends prg e below s _ _ _ T37 (mkF m 33 #[.val (.ref a), .unset, .unset, .unset] [(.int (own_dig c3))])
        by_cases hc33_38 : (own_dig c3) = (0 : Int32)
        · refine own_ifYes (pc' := 92) X37 hx (hb hby own_d7_33) (teq hc33_38).1 (by decide) (by decide) ?_
          refine own_iconst (pc' := 93) (z := (0 : Int32)) X37 hx (hb hby own_d7_92) rfl rfl ?_
          refine own_retN X37 hx hlk hret (by simp) (hb hby own_d7_93) (by decide) (by decide) ?_
          have dc0 := own_dgF hc6_32
          have dc1 := own_dgF hc15_34
          have dc2 := own_dgF hc24_36
          have dc3 := own_dgT hc33_38
          have i_hc6_32 : ¬ (own_dig c0).toInt = 0 := own_i4 hc6_32
          have i_hc15_34 : ¬ (own_dig c1).toInt = 0 := own_i4 hc15_34
          have i_hc24_36 : ¬ (own_dig c2).toInt = 0 := own_i4 hc24_36
          have i_hc33_38 : (own_dig c3).toInt = 0 := own_i3 hc33_38
          exact ⟨0, rfl, N37, Kq37, Or.inl rfl, ⟨fun q => absurd q (by decide), fun q => by unfold own_WF at q; exfalso; omega⟩⟩
        · refine own_ifNo (pc' := 36) X37 hx (hb hby own_d7_33) rfl (feq hc33_38).1 ?_
          refine own_aloadN (pc' := 37) X37 hx (hb hby own_d7_36) rfl rfl rfl ?_
          refine own_iconst (pc' := 38) (z := (4 : Int32)) X37 hx (hb hby own_d7_37) rfl rfl ?_
          refine own_caload (pc' := 39) (v := (.int c4)) X37 hx hZ Kq37 V0 (hb hby own_d7_38) rfl (by decide) rfl ?_
          refine own_bipush (pc' := 41) (z := (45 : Int32)) X37 hx (hb hby own_d7_39) rfl rfl ?_
          by_cases hc41_39 : c4 = (45 : Int32)
          · refine own_icmpNo (pc' := 44) X37 hx (hb hby own_d7_41) rfl (teq hc41_39).2 ?_
            refine own_aloadN (pc' := 45) X37 hx (hb hby own_d7_44) rfl rfl rfl ?_
            refine own_iconst (pc' := 46) (z := (5 : Int32)) X37 hx (hb hby own_d7_45) rfl rfl ?_
            refine own_caload (pc' := 47) (v := (.int c5)) X37 hx hZ Kq37 V0 (hb hby own_d7_46) rfl (by decide) rfl ?_
            refine own_callS (pc' := 50) (y := (⟨"com/example/exacting_validator/exactingvalidator/validator/Rfc3339IsFullDatePinLaw", "dig", "(C)Z"⟩ : MethodName)) (W := 0) (rm := own_room8) (argsL := [(.int c5)]) (rest := []) X37 hx hZ Kq37 hown (by rw [hml]; rfl) (own_w35 hw) (own_w36 hw) (own_w33 hw) (own_w37 hw) (by decide) (own_rm8 lch Z a0 hw [] c5 h0 n0) (by decide) (by decide) (by decide) (by decide) (lenOf own_pd14 rfl) rfl (by exact Nat.le_of_eq rfl) (hb hby own_d7_47) rfl ?_
            intro T40 Lc40 v40 X40 hQ40
            obtain ⟨rfl, Nq40, Kq40⟩ := hQ40
            have N40 := Fr.app N37 Nq40
            show own_Ends prg e below s _ _ _ T40 (mkF m 50 #[.val (.ref a), .unset, .unset, .unset] [(.int (own_dig c5))])
            by_cases hc50_41 : (own_dig c5) = (0 : Int32)
            · refine own_ifYes (pc' := 92) X40 hx (hb hby own_d7_50) (teq hc50_41).1 (by decide) (by decide) ?_
              refine own_iconst (pc' := 93) (z := (0 : Int32)) X40 hx (hb hby own_d7_92) rfl rfl ?_
              refine own_retN X40 hx hlk hret (by simp) (hb hby own_d7_93) (by decide) (by decide) ?_
              have dc0 := own_dgF hc6_32
              have dc1 := own_dgF hc15_34
              have dc2 := own_dgF hc24_36
              have dc3 := own_dgF hc33_38
              have dc5 := own_dgT hc50_41
              have i_hc6_32 : ¬ (own_dig c0).toInt = 0 := own_i4 hc6_32
              have i_hc15_34 : ¬ (own_dig c1).toInt = 0 := own_i4 hc15_34
              have i_hc24_36 : ¬ (own_dig c2).toInt = 0 := own_i4 hc24_36
              have i_hc33_38 : ¬ (own_dig c3).toInt = 0 := own_i4 hc33_38
              have i_hc41_39 : c4.toInt = 45 := own_i3 hc41_39
              have i_hc50_41 : (own_dig c5).toInt = 0 := own_i3 hc50_41
              exact ⟨0, rfl, N40, Kq40, Or.inl rfl, ⟨fun q => absurd q (by decide), fun q => by unfold own_WF at q; exfalso; omega⟩⟩
            · refine own_ifNo (pc' := 53) X40 hx (hb hby own_d7_50) rfl (feq hc50_41).1 ?_
              refine own_aloadN (pc' := 54) X40 hx (hb hby own_d7_53) rfl rfl rfl ?_
              refine own_bipush (pc' := 56) (z := (6 : Int32)) X40 hx (hb hby own_d7_54) rfl rfl ?_
              refine own_caload (pc' := 57) (v := (.int c6)) X40 hx hZ Kq40 V0 (hb hby own_d7_56) rfl (by decide) rfl ?_
              refine own_callS (pc' := 60) (y := (⟨"com/example/exacting_validator/exactingvalidator/validator/Rfc3339IsFullDatePinLaw", "dig", "(C)Z"⟩ : MethodName)) (W := 0) (rm := own_room8) (argsL := [(.int c6)]) (rest := []) X40 hx hZ Kq40 hown (by rw [hml]; rfl) (own_w35 hw) (own_w36 hw) (own_w33 hw) (own_w37 hw) (by decide) (own_rm8 lch Z a0 hw [] c6 h0 n0) (by decide) (by decide) (by decide) (by decide) (lenOf own_pd14 rfl) rfl (by exact Nat.le_of_eq rfl) (hb hby own_d7_57) rfl ?_
              intro T42 Lc42 v42 X42 hQ42
              obtain ⟨rfl, Nq42, Kq42⟩ := hQ42
              have N42 := Fr.app N40 Nq42
              show own_Ends prg e below s _ _ _ T42 (mkF m 60 #[.val (.ref a), .unset, .unset, .unset] [(.int (own_dig c6))])
              by_cases hc60_43 : (own_dig c6) = (0 : Int32)
              · refine own_ifYes (pc' := 92) X42 hx (hb hby own_d7_60) (teq hc60_43).1 (by decide) (by decide) ?_
                refine own_iconst (pc' := 93) (z := (0 : Int32)) X42 hx (hb hby own_d7_92) rfl rfl ?_
                refine own_retN X42 hx hlk hret (by simp) (hb hby own_d7_93) (by decide) (by decide) ?_
                have dc0 := own_dgF hc6_32
                have dc1 := own_dgF hc15_34
                have dc2 := own_dgF hc24_36
                have dc3 := own_dgF hc33_38
                have dc5 := own_dgF hc50_41
                have dc6 := own_dgT hc60_43
                have i_hc6_32 : ¬ (own_dig c0).toInt = 0 := own_i4 hc6_32
                have i_hc15_34 : ¬ (own_dig c1).toInt = 0 := own_i4 hc15_34
                have i_hc24_36 : ¬ (own_dig c2).toInt = 0 := own_i4 hc24_36
                have i_hc33_38 : ¬ (own_dig c3).toInt = 0 := own_i4 hc33_38
                have i_hc41_39 : c4.toInt = 45 := own_i3 hc41_39
                have i_hc50_41 : ¬ (own_dig c5).toInt = 0 := own_i4 hc50_41
                have i_hc60_43 : (own_dig c6).toInt = 0 := own_i3 hc60_43
                exact ⟨0, rfl, N42, Kq42, Or.inl rfl, ⟨fun q => absurd q (by decide), fun q => by unfold own_WF at q; exfalso; omega⟩⟩
              · refine own_ifNo (pc' := 63) X42 hx (hb hby own_d7_60) rfl (feq hc60_43).1 ?_
                refine own_aloadN (pc' := 64) X42 hx (hb hby own_d7_63) rfl rfl rfl ?_
                refine own_bipush (pc' := 66) (z := (7 : Int32)) X42 hx (hb hby own_d7_64) rfl rfl ?_
                refine own_caload (pc' := 67) (v := (.int c7)) X42 hx hZ Kq42 V0 (hb hby own_d7_66) rfl (by decide) rfl ?_
                refine own_bipush (pc' := 69) (z := (45 : Int32)) X42 hx (hb hby own_d7_67) rfl rfl ?_
                by_cases hc69_44 : c7 = (45 : Int32)
                · refine own_icmpNo (pc' := 72) X42 hx (hb hby own_d7_69) rfl (teq hc69_44).2 ?_
                  refine own_aloadN (pc' := 73) X42 hx (hb hby own_d7_72) rfl rfl rfl ?_
                  refine own_bipush (pc' := 75) (z := (8 : Int32)) X42 hx (hb hby own_d7_73) rfl rfl ?_
                  refine own_caload (pc' := 76) (v := (.int c8)) X42 hx hZ Kq42 V0 (hb hby own_d7_75) rfl (by decide) rfl ?_
                  refine own_callS (pc' := 79) (y := (⟨"com/example/exacting_validator/exactingvalidator/validator/Rfc3339IsFullDatePinLaw", "dig", "(C)Z"⟩ : MethodName)) (W := 0) (rm := own_room8) (argsL := [(.int c8)]) (rest := []) X42 hx hZ Kq42 hown (by rw [hml]; rfl) (own_w35 hw) (own_w36 hw) (own_w33 hw) (own_w37 hw) (by decide) (own_rm8 lch Z a0 hw [] c8 h0 n0) (by decide) (by decide) (by decide) (by decide) (lenOf own_pd14 rfl) rfl (by exact Nat.le_of_eq rfl) (hb hby own_d7_76) rfl ?_
                  intro T45 Lc45 v45 X45 hQ45
                  obtain ⟨rfl, Nq45, Kq45⟩ := hQ45
                  have N45 := Fr.app N42 Nq45
                  show own_Ends prg e below s _ _ _ T45 (mkF m 79 #[.val (.ref a), .unset, .unset, .unset] [(.int (own_dig c8))])
                  by_cases hc79_46 : (own_dig c8) = (0 : Int32)
                  · refine own_ifYes (pc' := 92) X45 hx (hb hby own_d7_79) (teq hc79_46).1 (by decide) (by decide) ?_
                    refine own_iconst (pc' := 93) (z := (0 : Int32)) X45 hx (hb hby own_d7_92) rfl rfl ?_
                    refine own_retN X45 hx hlk hret (by simp) (hb hby own_d7_93) (by decide) (by decide) ?_
                    have dc0 := own_dgF hc6_32
                    have dc1 := own_dgF hc15_34
                    have dc2 := own_dgF hc24_36
                    have dc3 := own_dgF hc33_38
                    have dc5 := own_dgF hc50_41
                    have dc6 := own_dgF hc60_43
                    have dc8 := own_dgT hc79_46
                    have i_hc6_32 : ¬ (own_dig c0).toInt = 0 := own_i4 hc6_32
                    have i_hc15_34 : ¬ (own_dig c1).toInt = 0 := own_i4 hc15_34
                    have i_hc24_36 : ¬ (own_dig c2).toInt = 0 := own_i4 hc24_36
                    have i_hc33_38 : ¬ (own_dig c3).toInt = 0 := own_i4 hc33_38
                    have i_hc41_39 : c4.toInt = 45 := own_i3 hc41_39
                    have i_hc50_41 : ¬ (own_dig c5).toInt = 0 := own_i4 hc50_41
                    have i_hc60_43 : ¬ (own_dig c6).toInt = 0 := own_i4 hc60_43
                    have i_hc69_44 : c7.toInt = 45 := own_i3 hc69_44
                    have i_hc79_46 : (own_dig c8).toInt = 0 := own_i3 hc79_46
                    exact ⟨0, rfl, N45, Kq45, Or.inl rfl, ⟨fun q => absurd q (by decide), fun q => by unfold own_WF at q; exfalso; omega⟩⟩
                  · refine own_ifNo (pc' := 82) X45 hx (hb hby own_d7_79) rfl (feq hc79_46).1 ?_
                    refine own_aloadN (pc' := 83) X45 hx (hb hby own_d7_82) rfl rfl rfl ?_
                    refine own_bipush (pc' := 85) (z := (9 : Int32)) X45 hx (hb hby own_d7_83) rfl rfl ?_
                    refine own_caload (pc' := 86) (v := (.int c9)) X45 hx hZ Kq45 V0 (hb hby own_d7_85) rfl (by decide) rfl ?_
                    refine own_callS (pc' := 89) (y := (⟨"com/example/exacting_validator/exactingvalidator/validator/Rfc3339IsFullDatePinLaw", "dig", "(C)Z"⟩ : MethodName)) (W := 0) (rm := own_room8) (argsL := [(.int c9)]) (rest := []) X45 hx hZ Kq45 hown (by rw [hml]; rfl) (own_w35 hw) (own_w36 hw) (own_w33 hw) (own_w37 hw) (by decide) (own_rm8 lch Z a0 hw [] c9 h0 n0) (by decide) (by decide) (by decide) (by decide) (lenOf own_pd14 rfl) rfl (by exact Nat.le_of_eq rfl) (hb hby own_d7_86) rfl ?_
                    intro T47 Lc47 v47 X47 hQ47
                    obtain ⟨rfl, Nq47, Kq47⟩ := hQ47
                    have N47 := Fr.app N45 Nq47
                    show own_Ends prg e below s _ _ _ T47 (mkF m 89 #[.val (.ref a), .unset, .unset, .unset] [(.int (own_dig c9))])
                    by_cases hc89_48 : (own_dig c9) = (0 : Int32)
                    · refine own_ifNo (pc' := 92) X47 hx (hb hby own_d7_89) rfl (teq hc89_48).2 ?_
                      refine own_iconst (pc' := 93) (z := (0 : Int32)) X47 hx (hb hby own_d7_92) rfl rfl ?_
                      refine own_retN X47 hx hlk hret (by simp) (hb hby own_d7_93) (by decide) (by decide) ?_
                      have dc0 := own_dgF hc6_32
                      have dc1 := own_dgF hc15_34
                      have dc2 := own_dgF hc24_36
                      have dc3 := own_dgF hc33_38
                      have dc5 := own_dgF hc50_41
                      have dc6 := own_dgF hc60_43
                      have dc8 := own_dgF hc79_46
                      have dc9 := own_dgT hc89_48
                      have i_hc6_32 : ¬ (own_dig c0).toInt = 0 := own_i4 hc6_32
                      have i_hc15_34 : ¬ (own_dig c1).toInt = 0 := own_i4 hc15_34
                      have i_hc24_36 : ¬ (own_dig c2).toInt = 0 := own_i4 hc24_36
                      have i_hc33_38 : ¬ (own_dig c3).toInt = 0 := own_i4 hc33_38
                      have i_hc41_39 : c4.toInt = 45 := own_i3 hc41_39
                      have i_hc50_41 : ¬ (own_dig c5).toInt = 0 := own_i4 hc50_41
                      have i_hc60_43 : ¬ (own_dig c6).toInt = 0 := own_i4 hc60_43
                      have i_hc69_44 : c7.toInt = 45 := own_i3 hc69_44
                      have i_hc79_46 : ¬ (own_dig c8).toInt = 0 := own_i4 hc79_46
                      have i_hc89_48 : (own_dig c9).toInt = 0 := own_i3 hc89_48
                      exact ⟨0, rfl, N47, Kq47, Or.inl rfl, ⟨fun q => absurd q (by decide), fun q => by unfold own_WF at q; exfalso; omega⟩⟩
                    · refine own_ifYes (pc' := 94) X47 hx (hb hby own_d7_89) (feq hc89_48).2 (by decide) (by decide) ?_
                      have dc0 := own_dgF hc6_32
                      have dc1 := own_dgF hc15_34
                      have dc2 := own_dgF hc24_36
                      have dc3 := own_dgF hc33_38
                      have dc5 := own_dgF hc50_41
                      have dc6 := own_dgF hc60_43
                      have dc8 := own_dgF hc79_46
                      have dc9 := own_dgF hc89_48
                      refine own_aloadN (pc' := 95) X47 hx (hb hby own_d7_94) rfl rfl rfl ?_
                      refine own_iconst (pc' := 96) (z := (0 : Int32)) X47 hx (hb hby own_d7_95) rfl rfl ?_
                      refine own_caload (pc' := 97) (v := (.int c0)) X47 hx hZ Kq47 V0 (hb hby own_d7_96) rfl (by decide) rfl ?_
                      refine own_callS (pc' := 100) (y := (⟨"com/example/exacting_validator/exactingvalidator/validator/Rfc3339IsFullDatePinLaw", "val", "(C)I"⟩ : MethodName)) (W := 0) (rm := own_room9) (argsL := [(.int c0)]) (rest := []) X47 hx hZ Kq47 hown (by rw [hml]; rfl) (own_w38 hw) (own_w39 hw) (own_w33 hw) (own_w40 hw) (by decide) (own_rm9 lch Z a0 hw [] c0 h0 n0) (by decide) (by decide) (by decide) (by decide) (lenOf own_pd15 rfl) rfl (by exact Nat.le_of_eq rfl) (hb hby own_d7_97) rfl ?_
                      intro T49 Lc49 v49 X49 hQ49
                      obtain ⟨rfl, Nq49, Kq49⟩ := hQ49
                      have N49 := Fr.app N47 Nq49
                      show own_Ends prg e below s _ _ _ T49 (mkF m 100 #[.val (.ref a), .unset, .unset, .unset] [(.int (c0 - (48 : Int32)))])
                      refine own_sipush (pc' := 103) (z := (1000 : Int32)) X49 hx (hb hby own_d7_100) rfl rfl ?_
                      refine own_imul (pc' := 104) (z := ((c0 - (48 : Int32)) * (1000 : Int32))) X49 hx (hb hby own_d7_103) rfl rfl ?_
                      refine own_aloadN (pc' := 105) X49 hx (hb hby own_d7_104) rfl rfl rfl ?_
                      refine own_iconst (pc' := 106) (z := (1 : Int32)) X49 hx (hb hby own_d7_105) rfl rfl ?_
                      refine own_caload (pc' := 107) (v := (.int c1)) X49 hx hZ Kq49 V0 (hb hby own_d7_106) rfl (by decide) rfl ?_
                      refine own_callS (pc' := 110) (y := (⟨"com/example/exacting_validator/exactingvalidator/validator/Rfc3339IsFullDatePinLaw", "val", "(C)I"⟩ : MethodName)) (W := 1) (rm := own_room9) (argsL := [(.int c1)]) (rest := [(.int ((c0 - (48 : Int32)) * (1000 : Int32)))]) X49 hx hZ Kq49 hown (by rw [hml]; rfl) (own_w38 hw) (own_w39 hw) (own_w33 hw) (own_w40 hw) (by decide) (own_rm9 lch Z a0 hw [] c1 h0 n0) (by decide) (by decide) (by decide) (by decide) (lenOf own_pd15 rfl) rfl (by exact Nat.le_of_eq rfl) (hb hby own_d7_107) rfl ?_
                      intro T50 Lc50 v50 X50 hQ50
                      obtain ⟨rfl, Nq50, Kq50⟩ := hQ50
                      have N50 := Fr.app N49 Nq50
                      show own_Ends prg e below s _ _ _ T50 (mkF m 110 #[.val (.ref a), .unset, .unset, .unset] [(.int (c1 - (48 : Int32))), (.int ((c0 - (48 : Int32)) * (1000 : Int32)))])
                      refine own_bipush (pc' := 112) (z := (100 : Int32)) X50 hx (hb hby own_d7_110) rfl rfl ?_
                      refine own_imul (pc' := 113) (z := ((c1 - (48 : Int32)) * (100 : Int32))) X50 hx (hb hby own_d7_112) rfl rfl ?_
                      refine own_iadd (pc' := 114) (z := (((c0 - (48 : Int32)) * (1000 : Int32)) + ((c1 - (48 : Int32)) * (100 : Int32)))) X50 hx (hb hby own_d7_113) rfl rfl ?_
                      refine own_aloadN (pc' := 115) X50 hx (hb hby own_d7_114) rfl rfl rfl ?_
                      refine own_iconst (pc' := 116) (z := (2 : Int32)) X50 hx (hb hby own_d7_115) rfl rfl ?_
                      refine own_caload (pc' := 117) (v := (.int c2)) X50 hx hZ Kq50 V0 (hb hby own_d7_116) rfl (by decide) rfl ?_
                      refine own_callS (pc' := 120) (y := (⟨"com/example/exacting_validator/exactingvalidator/validator/Rfc3339IsFullDatePinLaw", "val", "(C)I"⟩ : MethodName)) (W := 1) (rm := own_room9) (argsL := [(.int c2)]) (rest := [(.int (((c0 - (48 : Int32)) * (1000 : Int32)) + ((c1 - (48 : Int32)) * (100 : Int32))))]) X50 hx hZ Kq50 hown (by rw [hml]; rfl) (own_w38 hw) (own_w39 hw) (own_w33 hw) (own_w40 hw) (by decide) (own_rm9 lch Z a0 hw [] c2 h0 n0) (by decide) (by decide) (by decide) (by decide) (lenOf own_pd15 rfl) rfl (by exact Nat.le_of_eq rfl) (hb hby own_d7_117) rfl ?_
                      intro T51 Lc51 v51 X51 hQ51
                      obtain ⟨rfl, Nq51, Kq51⟩ := hQ51
                      have N51 := Fr.app N50 Nq51
                      show own_Ends prg e below s _ _ _ T51 (mkF m 120 #[.val (.ref a), .unset, .unset, .unset] [(.int (c2 - (48 : Int32))), (.int (((c0 - (48 : Int32)) * (1000 : Int32)) + ((c1 - (48 : Int32)) * (100 : Int32))))])
                      refine own_bipush (pc' := 122) (z := (10 : Int32)) X51 hx (hb hby own_d7_120) rfl rfl ?_
                      refine own_imul (pc' := 123) (z := ((c2 - (48 : Int32)) * (10 : Int32))) X51 hx (hb hby own_d7_122) rfl rfl ?_
                      refine own_iadd (pc' := 124) (z := ((((c0 - (48 : Int32)) * (1000 : Int32)) + ((c1 - (48 : Int32)) * (100 : Int32))) + ((c2 - (48 : Int32)) * (10 : Int32)))) X51 hx (hb hby own_d7_123) rfl rfl ?_
                      refine own_aloadN (pc' := 125) X51 hx (hb hby own_d7_124) rfl rfl rfl ?_
                      refine own_iconst (pc' := 126) (z := (3 : Int32)) X51 hx (hb hby own_d7_125) rfl rfl ?_
                      refine own_caload (pc' := 127) (v := (.int c3)) X51 hx hZ Kq51 V0 (hb hby own_d7_126) rfl (by decide) rfl ?_
                      refine own_callS (pc' := 130) (y := (⟨"com/example/exacting_validator/exactingvalidator/validator/Rfc3339IsFullDatePinLaw", "val", "(C)I"⟩ : MethodName)) (W := 1) (rm := own_room9) (argsL := [(.int c3)]) (rest := [(.int ((((c0 - (48 : Int32)) * (1000 : Int32)) + ((c1 - (48 : Int32)) * (100 : Int32))) + ((c2 - (48 : Int32)) * (10 : Int32))))]) X51 hx hZ Kq51 hown (by rw [hml]; rfl) (own_w38 hw) (own_w39 hw) (own_w33 hw) (own_w40 hw) (by decide) (own_rm9 lch Z a0 hw [] c3 h0 n0) (by decide) (by decide) (by decide) (by decide) (lenOf own_pd15 rfl) rfl (by exact Nat.le_of_eq rfl) (hb hby own_d7_127) rfl ?_
                      intro T52 Lc52 v52 X52 hQ52
                      obtain ⟨rfl, Nq52, Kq52⟩ := hQ52
                      have N52 := Fr.app N51 Nq52
                      show own_Ends prg e below s _ _ _ T52 (mkF m 130 #[.val (.ref a), .unset, .unset, .unset] [(.int (c3 - (48 : Int32))), (.int ((((c0 - (48 : Int32)) * (1000 : Int32)) + ((c1 - (48 : Int32)) * (100 : Int32))) + ((c2 - (48 : Int32)) * (10 : Int32))))])
                      obtain ⟨y53, hy53⟩ : ∃ z, (((((c0 - (48 : Int32)) * (1000 : Int32)) + ((c1 - (48 : Int32)) * (100 : Int32))) + ((c2 - (48 : Int32)) * (10 : Int32))) + (c3 - (48 : Int32))) = z := ⟨_, rfl⟩
                      refine own_iadd (pc' := 131) (z := y53) X52 hx (hb hby own_d7_130) rfl hy53 ?_
                      have gy := own_y4 dc0 dc1 dc2 dc3 hy53
                      refine own_istoreN (pc' := 132) (l' := #[.val (.ref a), .val (.int y53), .unset, .unset]) X52 hx (hb hby own_d7_131) rfl rfl ?_
                      refine own_aloadN (pc' := 133) X52 hx (hb hby own_d7_132) rfl rfl rfl ?_
                      refine own_iconst (pc' := 134) (z := (5 : Int32)) X52 hx (hb hby own_d7_133) rfl rfl ?_
                      refine own_caload (pc' := 135) (v := (.int c5)) X52 hx hZ Kq52 V0 (hb hby own_d7_134) rfl (by decide) rfl ?_
                      refine own_callS (pc' := 138) (y := (⟨"com/example/exacting_validator/exactingvalidator/validator/Rfc3339IsFullDatePinLaw", "val", "(C)I"⟩ : MethodName)) (W := 0) (rm := own_room9) (argsL := [(.int c5)]) (rest := []) X52 hx hZ Kq52 hown (by rw [hml]; rfl) (own_w38 hw) (own_w39 hw) (own_w33 hw) (own_w40 hw) (by decide) (own_rm9 lch Z a0 hw [] c5 h0 n0) (by decide) (by decide) (by decide) (by decide) (lenOf own_pd15 rfl) rfl (by exact Nat.le_of_eq rfl) (hb hby own_d7_135) rfl ?_
                      intro T54 Lc54 v54 X54 hQ54
                      obtain ⟨rfl, Nq54, Kq54⟩ := hQ54
                      have N54 := Fr.app N52 Nq54
                      show own_Ends prg e below s _ _ _ T54 (mkF m 138 #[.val (.ref a), .val (.int y53), .unset, .unset] [(.int (c5 - (48 : Int32)))])
                      refine own_bipush (pc' := 140) (z := (10 : Int32)) X54 hx (hb hby own_d7_138) rfl rfl ?_
                      refine own_imul (pc' := 141) (z := ((c5 - (48 : Int32)) * (10 : Int32))) X54 hx (hb hby own_d7_140) rfl rfl ?_
                      refine own_aloadN (pc' := 142) X54 hx (hb hby own_d7_141) rfl rfl rfl ?_
                      refine own_bipush (pc' := 144) (z := (6 : Int32)) X54 hx (hb hby own_d7_142) rfl rfl ?_
                      refine own_caload (pc' := 145) (v := (.int c6)) X54 hx hZ Kq54 V0 (hb hby own_d7_144) rfl (by decide) rfl ?_
                      refine own_callS (pc' := 148) (y := (⟨"com/example/exacting_validator/exactingvalidator/validator/Rfc3339IsFullDatePinLaw", "val", "(C)I"⟩ : MethodName)) (W := 1) (rm := own_room9) (argsL := [(.int c6)]) (rest := [(.int ((c5 - (48 : Int32)) * (10 : Int32)))]) X54 hx hZ Kq54 hown (by rw [hml]; rfl) (own_w38 hw) (own_w39 hw) (own_w33 hw) (own_w40 hw) (by decide) (own_rm9 lch Z a0 hw [] c6 h0 n0) (by decide) (by decide) (by decide) (by decide) (lenOf own_pd15 rfl) rfl (by exact Nat.le_of_eq rfl) (hb hby own_d7_145) rfl ?_
                      intro T55 Lc55 v55 X55 hQ55
                      obtain ⟨rfl, Nq55, Kq55⟩ := hQ55
                      have N55 := Fr.app N54 Nq55
                      show own_Ends prg e below s _ _ _ T55 (mkF m 148 #[.val (.ref a), .val (.int y53), .unset, .unset] [(.int (c6 - (48 : Int32))), (.int ((c5 - (48 : Int32)) * (10 : Int32)))])
                      obtain ⟨m56, hm56⟩ : ∃ z, (((c5 - (48 : Int32)) * (10 : Int32)) + (c6 - (48 : Int32))) = z := ⟨_, rfl⟩
                      refine own_iadd (pc' := 149) (z := m56) X55 hx (hb hby own_d7_148) rfl hm56 ?_
                      have gm := own_y2 dc5 dc6 hm56
                      refine own_istoreN (pc' := 150) (l' := #[.val (.ref a), .val (.int y53), .val (.int m56), .unset]) X55 hx (hb hby own_d7_149) rfl rfl ?_
                      refine own_aloadN (pc' := 151) X55 hx (hb hby own_d7_150) rfl rfl rfl ?_
                      refine own_bipush (pc' := 153) (z := (8 : Int32)) X55 hx (hb hby own_d7_151) rfl rfl ?_
                      refine own_caload (pc' := 154) (v := (.int c8)) X55 hx hZ Kq55 V0 (hb hby own_d7_153) rfl (by decide) rfl ?_
                      refine own_callS (pc' := 157) (y := (⟨"com/example/exacting_validator/exactingvalidator/validator/Rfc3339IsFullDatePinLaw", "val", "(C)I"⟩ : MethodName)) (W := 0) (rm := own_room9) (argsL := [(.int c8)]) (rest := []) X55 hx hZ Kq55 hown (by rw [hml]; rfl) (own_w38 hw) (own_w39 hw) (own_w33 hw) (own_w40 hw) (by decide) (own_rm9 lch Z a0 hw [] c8 h0 n0) (by decide) (by decide) (by decide) (by decide) (lenOf own_pd15 rfl) rfl (by exact Nat.le_of_eq rfl) (hb hby own_d7_154) rfl ?_
                      intro T57 Lc57 v57 X57 hQ57
                      obtain ⟨rfl, Nq57, Kq57⟩ := hQ57
                      have N57 := Fr.app N55 Nq57
                      show own_Ends prg e below s _ _ _ T57 (mkF m 157 #[.val (.ref a), .val (.int y53), .val (.int m56), .unset] [(.int (c8 - (48 : Int32)))])
                      refine own_bipush (pc' := 159) (z := (10 : Int32)) X57 hx (hb hby own_d7_157) rfl rfl ?_
                      refine own_imul (pc' := 160) (z := ((c8 - (48 : Int32)) * (10 : Int32))) X57 hx (hb hby own_d7_159) rfl rfl ?_
                      refine own_aloadN (pc' := 161) X57 hx (hb hby own_d7_160) rfl rfl rfl ?_
                      refine own_bipush (pc' := 163) (z := (9 : Int32)) X57 hx (hb hby own_d7_161) rfl rfl ?_
                      refine own_caload (pc' := 164) (v := (.int c9)) X57 hx hZ Kq57 V0 (hb hby own_d7_163) rfl (by decide) rfl ?_
                      refine own_callS (pc' := 167) (y := (⟨"com/example/exacting_validator/exactingvalidator/validator/Rfc3339IsFullDatePinLaw", "val", "(C)I"⟩ : MethodName)) (W := 1) (rm := own_room9) (argsL := [(.int c9)]) (rest := [(.int ((c8 - (48 : Int32)) * (10 : Int32)))]) X57 hx hZ Kq57 hown (by rw [hml]; rfl) (own_w38 hw) (own_w39 hw) (own_w33 hw) (own_w40 hw) (by decide) (own_rm9 lch Z a0 hw [] c9 h0 n0) (by decide) (by decide) (by decide) (by decide) (lenOf own_pd15 rfl) rfl (by exact Nat.le_of_eq rfl) (hb hby own_d7_164) rfl ?_
                      intro T58 Lc58 v58 X58 hQ58
                      obtain ⟨rfl, Nq58, Kq58⟩ := hQ58
                      have N58 := Fr.app N57 Nq58
                      show own_Ends prg e below s _ _ _ T58 (mkF m 167 #[.val (.ref a), .val (.int y53), .val (.int m56), .unset] [(.int (c9 - (48 : Int32))), (.int ((c8 - (48 : Int32)) * (10 : Int32)))])
                      obtain ⟨d59, hd59⟩ : ∃ z, (((c8 - (48 : Int32)) * (10 : Int32)) + (c9 - (48 : Int32))) = z := ⟨_, rfl⟩
                      refine own_iadd (pc' := 168) (z := d59) X58 hx (hb hby own_d7_167) rfl hd59 ?_
                      have gd := own_y2 dc8 dc9 hd59
                      refine own_istoreN (pc' := 169) (l' := #[.val (.ref a), .val (.int y53), .val (.int m56), .val (.int d59)]) X58 hx (hb hby own_d7_168) rfl rfl ?_
                      refine own_iloadN (pc' := 170) X58 hx (hb hby own_d7_169) rfl rfl ?_
                      refine own_iconst (pc' := 171) (z := (1 : Int32)) X58 hx (hb hby own_d7_170) rfl rfl ?_
                      by_cases hc171_60 : m56 < (1 : Int32)
                      · refine own_icmpYes (pc' := 180) X58 hx (hb hby own_d7_171) (tlt hc171_60).1 (by decide) (by decide) ?_
                        refine own_iconst (pc' := 181) (z := (0 : Int32)) X58 hx (hb hby own_d7_180) rfl rfl ?_
                        refine own_retN X58 hx hlk hret (by simp) (hb hby own_d7_181) (by decide) (by decide) ?_
                        have i_hc6_32 : ¬ (own_dig c0).toInt = 0 := own_i4 hc6_32
                        have i_hc15_34 : ¬ (own_dig c1).toInt = 0 := own_i4 hc15_34
                        have i_hc24_36 : ¬ (own_dig c2).toInt = 0 := own_i4 hc24_36
                        have i_hc33_38 : ¬ (own_dig c3).toInt = 0 := own_i4 hc33_38
                        have i_hc41_39 : c4.toInt = 45 := own_i3 hc41_39
                        have i_hc50_41 : ¬ (own_dig c5).toInt = 0 := own_i4 hc50_41
                        have i_hc60_43 : ¬ (own_dig c6).toInt = 0 := own_i4 hc60_43
                        have i_hc69_44 : c7.toInt = 45 := own_i3 hc69_44
                        have i_hc79_46 : ¬ (own_dig c8).toInt = 0 := own_i4 hc79_46
                        have i_hc89_48 : ¬ (own_dig c9).toInt = 0 := own_i4 hc89_48
                        have i_hc171_60 : m56.toInt < 1 := own_i1 hc171_60
                        exact ⟨0, rfl, N58, Kq58, Or.inl rfl, ⟨fun q => absurd q (by decide), fun q => by unfold own_WF at q; exfalso; omega⟩⟩
                      · refine own_icmpNo (pc' := 174) X58 hx (hb hby own_d7_171) rfl (flt hc171_60).1 ?_
                        refine own_iloadN (pc' := 175) X58 hx (hb hby own_d7_174) rfl rfl ?_
                        refine own_bipush (pc' := 177) (z := (12 : Int32)) X58 hx (hb hby own_d7_175) rfl rfl ?_
                        by_cases hc177_61 : (12 : Int32) < m56
                        · refine own_icmpNo (pc' := 180) X58 hx (hb hby own_d7_177) rfl (tlt hc177_61).2.2.2 ?_
                          refine own_iconst (pc' := 181) (z := (0 : Int32)) X58 hx (hb hby own_d7_180) rfl rfl ?_
                          refine own_retN X58 hx hlk hret (by simp) (hb hby own_d7_181) (by decide) (by decide) ?_
                          have i_hc6_32 : ¬ (own_dig c0).toInt = 0 := own_i4 hc6_32
                          have i_hc15_34 : ¬ (own_dig c1).toInt = 0 := own_i4 hc15_34
                          have i_hc24_36 : ¬ (own_dig c2).toInt = 0 := own_i4 hc24_36
                          have i_hc33_38 : ¬ (own_dig c3).toInt = 0 := own_i4 hc33_38
                          have i_hc41_39 : c4.toInt = 45 := own_i3 hc41_39
                          have i_hc50_41 : ¬ (own_dig c5).toInt = 0 := own_i4 hc50_41
                          have i_hc60_43 : ¬ (own_dig c6).toInt = 0 := own_i4 hc60_43
                          have i_hc69_44 : c7.toInt = 45 := own_i3 hc69_44
                          have i_hc79_46 : ¬ (own_dig c8).toInt = 0 := own_i4 hc79_46
                          have i_hc89_48 : ¬ (own_dig c9).toInt = 0 := own_i4 hc89_48
                          have i_hc171_60 : 1 ≤ m56.toInt := own_i2 hc171_60
                          have i_hc177_61 : 12 < m56.toInt := own_i1 hc177_61
                          exact ⟨0, rfl, N58, Kq58, Or.inl rfl, ⟨fun q => absurd q (by decide), fun q => by unfold own_WF at q; exfalso; omega⟩⟩
                        · refine own_icmpYes (pc' := 182) X58 hx (hb hby own_d7_177) (flt hc177_61).2.2.2 (by decide) (by decide) ?_
                          refine own_iloadN (pc' := 183) X58 hx (hb hby own_d7_182) rfl rfl ?_
                          refine own_iconst (pc' := 184) (z := (1 : Int32)) X58 hx (hb hby own_d7_183) rfl rfl ?_
                          by_cases hc184_62 : d59 < (1 : Int32)
                          · refine own_icmpYes (pc' := 200) X58 hx (hb hby own_d7_184) (tlt hc184_62).1 (by decide) (by decide) ?_
                            refine own_iconst (pc' := 201) (z := (0 : Int32)) X58 hx (hb hby own_d7_200) rfl rfl ?_
                            refine own_retN X58 hx hlk hret (by simp) (hb hby own_d7_201) (by decide) (by decide) ?_
                            have i_hc6_32 : ¬ (own_dig c0).toInt = 0 := own_i4 hc6_32
                            have i_hc15_34 : ¬ (own_dig c1).toInt = 0 := own_i4 hc15_34
                            have i_hc24_36 : ¬ (own_dig c2).toInt = 0 := own_i4 hc24_36
                            have i_hc33_38 : ¬ (own_dig c3).toInt = 0 := own_i4 hc33_38
                            have i_hc41_39 : c4.toInt = 45 := own_i3 hc41_39
                            have i_hc50_41 : ¬ (own_dig c5).toInt = 0 := own_i4 hc50_41
                            have i_hc60_43 : ¬ (own_dig c6).toInt = 0 := own_i4 hc60_43
                            have i_hc69_44 : c7.toInt = 45 := own_i3 hc69_44
                            have i_hc79_46 : ¬ (own_dig c8).toInt = 0 := own_i4 hc79_46
                            have i_hc89_48 : ¬ (own_dig c9).toInt = 0 := own_i4 hc89_48
                            have i_hc171_60 : 1 ≤ m56.toInt := own_i2 hc171_60
                            have i_hc177_61 : m56.toInt ≤ 12 := own_i2 hc177_61
                            have i_hc184_62 : d59.toInt < 1 := own_i1 hc184_62
                            exact ⟨0, rfl, N58, Kq58, Or.inl rfl, ⟨fun q => absurd q (by decide), fun q => by unfold own_WF at q; exfalso; omega⟩⟩
                          · refine own_icmpNo (pc' := 187) X58 hx (hb hby own_d7_184) rfl (flt hc184_62).1 ?_
                            refine own_iloadN (pc' := 188) X58 hx (hb hby own_d7_187) rfl rfl ?_
                            refine own_iloadN (pc' := 189) X58 hx (hb hby own_d7_188) rfl rfl ?_
                            refine own_iloadN (pc' := 190) X58 hx (hb hby own_d7_189) rfl rfl ?_
                            have i_hc6_32 : ¬ (own_dig c0).toInt = 0 := own_i4 hc6_32
                            have i_hc15_34 : ¬ (own_dig c1).toInt = 0 := own_i4 hc15_34
                            have i_hc24_36 : ¬ (own_dig c2).toInt = 0 := own_i4 hc24_36
                            have i_hc33_38 : ¬ (own_dig c3).toInt = 0 := own_i4 hc33_38
                            have i_hc41_39 : c4.toInt = 45 := own_i3 hc41_39
                            have i_hc50_41 : ¬ (own_dig c5).toInt = 0 := own_i4 hc50_41
                            have i_hc60_43 : ¬ (own_dig c6).toInt = 0 := own_i4 hc60_43
                            have i_hc69_44 : c7.toInt = 45 := own_i3 hc69_44
                            have i_hc79_46 : ¬ (own_dig c8).toInt = 0 := own_i4 hc79_46
                            have i_hc89_48 : ¬ (own_dig c9).toInt = 0 := own_i4 hc89_48
                            have i_hc171_60 : 1 ≤ m56.toInt := own_i2 hc171_60
                            have i_hc177_61 : m56.toInt ≤ 12 := own_i2 hc177_61
                            have i_hc184_62 : 1 ≤ d59.toInt := own_i2 hc184_62
                            refine own_callS (pc' := 193) (y := (⟨"com/example/exacting_validator/exactingvalidator/validator/Rfc3339IsFullDatePinLaw", "monthLength", "(II)I"⟩ : MethodName)) (W := 1) (rm := own_room10) (argsL := [(.int m56), (.int y53)]) (rest := [(.int d59)]) X58 hx hZ Kq58 hown (by rw [hml]; rfl) (own_w41 hw) (own_w42 hw) (own_w33 hw) (own_w43 hw) (by decide) (own_rm10 lch Z a0 hw [] m56 y53 h0 n0 ⟨by omega, by omega⟩ ⟨by omega, by omega⟩) (by decide) (by decide) (by decide) (by decide) (lenOf own_pd12 rfl) rfl (by exact Nat.le_of_eq rfl) (hb hby own_d7_190) rfl ?_
                            intro T63 Lc63 v63 X63 hQ63
                            obtain ⟨r63, rfl, Nq63, Kq63, G63_0⟩ := hQ63
                            have N63 := Fr.app N58 Nq63
                            show own_Ends prg e below s _ _ _ T63 (mkF m 193 #[.val (.ref a), .val (.int y53), .val (.int m56), .val (.int d59)] [(.int r63), (.int d59)])
                            by_cases hc193_64 : r63 < d59
                            · refine own_icmpYes (pc' := 200) X63 hx (hb hby own_d7_193) (tlt hc193_64).2.2.1 (by decide) (by decide) ?_
                              refine own_iconst (pc' := 201) (z := (0 : Int32)) X63 hx (hb hby own_d7_200) rfl rfl ?_
                              refine own_retN X63 hx hlk hret (by simp) (hb hby own_d7_201) (by decide) (by decide) ?_
                              have i_hc193_64 : r63.toInt < d59.toInt := own_i1 hc193_64
                              have gl := G63_0
                              rw [gy, gm] at gl
                              exact ⟨0, rfl, N63, Kq63, Or.inl rfl, ⟨fun q => absurd q (by decide), fun q => by unfold own_WF at q; exfalso; omega⟩⟩
                            · refine own_icmpNo (pc' := 196) X63 hx (hb hby own_d7_193) rfl (flt hc193_64).2.2.1 ?_
                              refine own_iconst (pc' := 197) (z := (1 : Int32)) X63 hx (hb hby own_d7_196) rfl rfl ?_
                              refine own_goto (pc' := 201) X63 hx (hb hby own_d7_197) (by decide) (by decide) ?_
                              refine own_retN X63 hx hlk hret (by simp) (hb hby own_d7_201) (by decide) (by decide) ?_
                              have i_hc193_64 : d59.toInt ≤ r63.toInt := own_i2 hc193_64
                              have gl := G63_0
                              rw [gy, gm] at gl
                              exact ⟨1, rfl, N63, Kq63, Or.inr rfl, ⟨fun _ => by unfold own_WF; omega, fun _ => rfl⟩⟩
                · refine own_icmpYes (pc' := 92) X42 hx (hb hby own_d7_69) (feq hc69_44).2 (by decide) (by decide) ?_
                  refine own_iconst (pc' := 93) (z := (0 : Int32)) X42 hx (hb hby own_d7_92) rfl rfl ?_
                  refine own_retN X42 hx hlk hret (by simp) (hb hby own_d7_93) (by decide) (by decide) ?_
                  have dc0 := own_dgF hc6_32
                  have dc1 := own_dgF hc15_34
                  have dc2 := own_dgF hc24_36
                  have dc3 := own_dgF hc33_38
                  have dc5 := own_dgF hc50_41
                  have dc6 := own_dgF hc60_43
                  have i_hc6_32 : ¬ (own_dig c0).toInt = 0 := own_i4 hc6_32
                  have i_hc15_34 : ¬ (own_dig c1).toInt = 0 := own_i4 hc15_34
                  have i_hc24_36 : ¬ (own_dig c2).toInt = 0 := own_i4 hc24_36
                  have i_hc33_38 : ¬ (own_dig c3).toInt = 0 := own_i4 hc33_38
                  have i_hc41_39 : c4.toInt = 45 := own_i3 hc41_39
                  have i_hc50_41 : ¬ (own_dig c5).toInt = 0 := own_i4 hc50_41
                  have i_hc60_43 : ¬ (own_dig c6).toInt = 0 := own_i4 hc60_43
                  have i_hc69_44 : ¬ c7.toInt = 45 := own_i4 hc69_44
                  exact ⟨0, rfl, N42, Kq42, Or.inl rfl, ⟨fun q => absurd q (by decide), fun q => by unfold own_WF at q; exfalso; omega⟩⟩
          · refine own_icmpYes (pc' := 92) X37 hx (hb hby own_d7_41) (feq hc41_39).2 (by decide) (by decide) ?_
            refine own_iconst (pc' := 93) (z := (0 : Int32)) X37 hx (hb hby own_d7_92) rfl rfl ?_
            refine own_retN X37 hx hlk hret (by simp) (hb hby own_d7_93) (by decide) (by decide) ?_
            have dc0 := own_dgF hc6_32
            have dc1 := own_dgF hc15_34
            have dc2 := own_dgF hc24_36
            have dc3 := own_dgF hc33_38
            have i_hc6_32 : ¬ (own_dig c0).toInt = 0 := own_i4 hc6_32
            have i_hc15_34 : ¬ (own_dig c1).toInt = 0 := own_i4 hc15_34
            have i_hc24_36 : ¬ (own_dig c2).toInt = 0 := own_i4 hc24_36
            have i_hc33_38 : ¬ (own_dig c3).toInt = 0 := own_i4 hc33_38
            have i_hc41_39 : ¬ c4.toInt = 45 := own_i4 hc41_39
            exact ⟨0, rfl, N37, Kq37, Or.inl rfl, ⟨fun q => absurd q (by decide), fun q => by unfold own_WF at q; exfalso; omega⟩⟩
def own_Q0 (Z : State) (p0 : Int32) (p1 : Int32) (p2 : Int32) (p3 : Int32) (p4 : Int32) (p5 : Int32) (i : Int32) (wf : Value) (h0 : Heap) (n0 : Nat) (v : Option Value) (h : Heap) (L : List Loc) : Prop := v = some (.int 1) ∧ Fr n0 L
theorem own_ef_rm0 (m : MethodId) (x0 : Int32) (x1 : Int32) (x2 : Int32) (x3 : Int32) (x4 : Int32) (x5 : Int32) : entryFrame m #[(.int x0), (.int x1), (.int x2), (.int x3), (.int x4), (.int x5)] maxLocals = mkF m 0 #[.val (.int x0), .val (.int x1), .val (.int x2), .val (.int x3), .val (.int x4), .val (.int x5), .unset, .unset, .unset, .unset, .unset, .unset, .unset, .unset] [] := by first | (simp [entryFrame, mkF, argsToLocals, Value.category, maxLocals]; done) | rfl
set_option maxRecDepth 65536 in
set_option maxHeartbeats 40000000 in
theorem own_rm0 (lch : Launch) (Z : State) (a0 : Array Value) (hw : ∀ d ∈ tables_1, d.before a0 Z = true) (ws : List Jvm.Cond) (p0 : Int32) (p1 : Int32) (p2 : Int32) (p3 : Int32) (p4 : Int32) (p5 : Int32) (i : Int32) (wf : Value) (h0 : Heap) (n0 : Nat) (Z0 : n0 ≤ h0.size) (S0 : Sta Z h0 "java/lang/String" "COMPACT_STRINGS" "Z" (.int i)) (hi : ¬ i = (0 : Int32)) (S1 : Sta Z h0 "jdk/internal/util/Preconditions" "SIOOBE_FORMATTER" "Ljava/util/function/BiFunction;" wf) (hwf : wf.isRef = true) :
    MetFree lch x (head1 (Jvm.Cond.code x code maxLocals ret :: ws) room_1) (fun zz U => zz = #[(.int p0), (.int p1), (.int p2), (.int p3), (.int p4), (.int p5)] ∧ Z.Warmed39 U.vm ∧ U.heap = h0) (fun _ _ _ _ _ => True) (fun _ U o U' => ∃ v L, o = .returned v ∧ own_Q0 Z p0 p1 p2 p3 p4 p5 i wf h0 n0 v U'.heap L ∧ FrameEnd U o U' L 16 192) := by
  refine MetFree.of_bodySF (plainFor_of_name own_pn0) hisR ?_
  intro prg e s m args below meth c s₁ Bd hml0 hP hK
  obtain ⟨rfl, hZ, hh⟩ := hP
  have hx := Bd.exec
  have hby := Bd.bytes
  have hml : c.maxLocals = 14 := hml0
  have hown : s.vm.findClass "com/example/exacting_validator/exactingvalidator/validator/Rfc3339IsFullDatePinLaw" = some m.cls := findClass_of_methodNamed Bd.named
  have hnm := (name_of_methodNamed Bd.named Bd.method).1
  have hlk : meth.locks = false := BodyLoose.notSynchronized Bd
  have hret := Bd.returns
  have X0 : Stand prg lch e room_1 s m #[(.int p0), (.int p1), (.int p2), (.int p3), (.int p4), (.int p5)] below meth c s₁ [] 0 0 := Stand.of_body Bd
  have e0 : s₁.heap = h0 := by rw [← hh, Bd.state]; rfl
  have N0 := Fr.nil n0
  show own_Ends prg e below s (own_Q0 Z p0 p1 p2 p3 p4 p5 i wf h0 n0) 16 192 s₁ (entryFrame m #[(.int p0), (.int p1), (.int p2), (.int p3), (.int p4), (.int p5)] maxLocals)
  refine own_cast (own_ef_rm0 m p0 p1 p2 p3 p4 p5) ?_
  refine own_iloadN (pc' := 1) X0 hx (hb hby at_0) rfl rfl ?_
  refine own_ldcI (pc' := 3) X0 hx hZ hown (own_w0 hw) (hb hby at_1) rfl ?_
  refine own_iand (pc' := 4) (z := (p0 &&& (2147483647 : Int32))) X0 hx (hb hby at_3) rfl rfl ?_
  refine own_sipush (pc' := 7) (z := (10000 : Int32)) X0 hx (hb hby at_4) rfl rfl ?_
  obtain ⟨y31, hy31⟩ : ∃ z, ((p0 &&& (2147483647 : Int32)) % (10000 : Int32)) = z := ⟨_, rfl⟩
  refine own_irem (pc' := 8) (z := y31) X0 hx (hb hby at_7) rfl (by decide) hy31 ?_
  have ry31 := own_r 10000 10000 rfl (by decide) hy31
  refine own_istore (pc' := 10) (l' := #[.val (.int p0), .val (.int p1), .val (.int p2), .val (.int p3), .val (.int p4), .val (.int p5), .val (.int y31), .unset, .unset, .unset, .unset, .unset, .unset, .unset]) X0 hx (hb hby at_8) rfl rfl ?_
  refine own_iloadN (pc' := 11) X0 hx (hb hby at_10) rfl rfl ?_
  refine own_ldcI (pc' := 13) X0 hx hZ hown (own_w0 hw) (hb hby at_11) rfl ?_
  refine own_iand (pc' := 14) (z := (p1 &&& (2147483647 : Int32))) X0 hx (hb hby at_13) rfl rfl ?_
  refine own_bipush (pc' := 16) (z := (100 : Int32)) X0 hx (hb hby at_14) rfl rfl ?_
  obtain ⟨m32, hm32⟩ : ∃ z, ((p1 &&& (2147483647 : Int32)) % (100 : Int32)) = z := ⟨_, rfl⟩
  refine own_irem (pc' := 17) (z := m32) X0 hx (hb hby at_16) rfl (by decide) hm32 ?_
  have rm32 := own_r 100 100 rfl (by decide) hm32
  refine own_istore (pc' := 19) (l' := #[.val (.int p0), .val (.int p1), .val (.int p2), .val (.int p3), .val (.int p4), .val (.int p5), .val (.int y31), .val (.int m32), .unset, .unset, .unset, .unset, .unset, .unset]) X0 hx (hb hby at_17) rfl rfl ?_
  have K33 : ∀ (mo : Int32) (hmo : 0 ≤ mo.toInt ∧ mo.toInt < 100), own_Ends prg e below s (own_Q0 Z p0 p1 p2 p3 p4 p5 i wf h0 n0) 16 192 s₁ (mkF m 32 #[.val (.int p0), .val (.int p1), .val (.int p2), .val (.int p3), .val (.int p4), .val (.int p5), .val (.int y31), .val (.int mo), .unset, .unset, .unset, .unset, .unset, .unset] []) := by
    intro mo hmo
    refine own_iloadN (pc' := 33) X0 hx (hb hby at_32) rfl rfl ?_
    refine own_ldcI (pc' := 35) X0 hx hZ hown (own_w0 hw) (hb hby at_33) rfl ?_
    refine own_iand (pc' := 36) (z := (p2 &&& (2147483647 : Int32))) X0 hx (hb hby at_35) rfl rfl ?_
    refine own_bipush (pc' := 38) (z := (100 : Int32)) X0 hx (hb hby at_36) rfl rfl ?_
    obtain ⟨d34, hd34⟩ : ∃ z, ((p2 &&& (2147483647 : Int32)) % (100 : Int32)) = z := ⟨_, rfl⟩
    refine own_irem (pc' := 39) (z := d34) X0 hx (hb hby at_38) rfl (by decide) hd34 ?_
    have rd34 := own_r 100 100 rfl (by decide) hd34
    refine own_istore (pc' := 41) (l' := #[.val (.int p0), .val (.int p1), .val (.int p2), .val (.int p3), .val (.int p4), .val (.int p5), .val (.int y31), .val (.int mo), .val (.int d34), .unset, .unset, .unset, .unset, .unset]) X0 hx (hb hby at_39) rfl rfl ?_
    have K35 : ∀ (dy : Int32) (hdy : 0 ≤ dy.toInt ∧ dy.toInt < 100), own_Ends prg e below s (own_Q0 Z p0 p1 p2 p3 p4 p5 i wf h0 n0) 16 192 s₁ (mkF m 54 #[.val (.int p0), .val (.int p1), .val (.int p2), .val (.int p3), .val (.int p4), .val (.int p5), .val (.int y31), .val (.int mo), .val (.int dy), .unset, .unset, .unset, .unset, .unset] []) := by
      intro dy hdy
      refine own_bipush (pc' := 56) (z := (10 : Int32)) X0 hx (hb hby at_54) rfl rfl ?_
      refine own_newarr (pc' := 58) (aty := .char) X0 hx hZ (own_w1 hw) e0 (hb hby at_56) rfl (by decide) 10 10 (by decide) (by decide) (by decide) (by decide) ?_
      intro T36 h36 a36 k36 X36 e36 E36 g36 V36
      replace V36 : Arv Z h36 a36 k36 .char (10 : Int32) [(.int (0 : Int32)), (.int (0 : Int32)), (.int (0 : Int32)), (.int (0 : Int32)), (.int (0 : Int32)), (.int (0 : Int32)), (.int (0 : Int32)), (.int (0 : Int32)), (.int (0 : Int32)), (.int (0 : Int32))] (.int (0 : Int32)) := V36
      have ge37 : n0 ≤ a36 := by rw [g36]; exact Z0
      show own_Ends prg e below s _ _ _ T36 (mkF m 58 #[.val (.int p0), .val (.int p1), .val (.int p2), .val (.int p3), .val (.int p4), .val (.int p5), .val (.int y31), .val (.int mo), .val (.int dy), .unset, .unset, .unset, .unset, .unset] [(.ref a36)])
      refine own_astore (pc' := 60) (l' := #[.val (.int p0), .val (.int p1), .val (.int p2), .val (.int p3), .val (.int p4), .val (.int p5), .val (.int y31), .val (.int mo), .val (.int dy), .val (.ref a36), .unset, .unset, .unset, .unset]) X36 hx (hb hby at_58) rfl rfl rfl ?_
      refine own_aload (pc' := 62) X36 hx (hb hby at_60) rfl rfl rfl ?_
      refine own_iconst (pc' := 63) (z := (0 : Int32)) X36 hx (hb hby at_62) rfl rfl ?_
      refine own_bipush (pc' := 65) (z := (48 : Int32)) X36 hx (hb hby at_63) rfl rfl ?_
      refine own_iload (pc' := 67) X36 hx (hb hby at_65) rfl rfl ?_
      refine own_sipush (pc' := 70) (z := (1000 : Int32)) X36 hx (hb hby at_67) rfl rfl ?_
      refine own_idiv (pc' := 71) (z := (y31 / (1000 : Int32))) X36 hx (hb hby at_70) rfl (by decide) rfl ?_
      refine own_iadd (pc' := 72) (z := ((48 : Int32) + (y31 / (1000 : Int32)))) X36 hx (hb hby at_71) rfl rfl ?_
      obtain ⟨c38, hc38⟩ : ∃ z, ((48 : Int32) + (y31 / (1000 : Int32))).toUInt32.toUInt16.toUInt32.toInt32 = z := ⟨_, rfl⟩
      refine own_i2c (pc' := 73) (z := c38) X36 hx (hb hby at_72) rfl hc38 ?_
      have rc38 : own_R c38 := by rw [← hc38]; exact own_c48 (own_q1 1000 1000 rfl (by decide) ry31 (by omega))
      refine own_castore (pc' := 74) X36 hx hZ e36 V36 (hb hby at_73) rfl (by decide) 0 rfl (by simp) N0 ge37 ?_
      intro T39 h39 L39 X39 e39 N39 W39 V39
      rw [show nar .char c38 = c38 from own_narcs rc38] at V39
      replace V39 : Arv Z h39 a36 k36 .char (10 : Int32) [(.int c38), (.int (0 : Int32)), (.int (0 : Int32)), (.int (0 : Int32)), (.int (0 : Int32)), (.int (0 : Int32)), (.int (0 : Int32)), (.int (0 : Int32)), (.int (0 : Int32)), (.int (0 : Int32))] (.int (0 : Int32)) := V39
      show own_Ends prg e below s _ _ _ T39 (mkF m 74 #[.val (.int p0), .val (.int p1), .val (.int p2), .val (.int p3), .val (.int p4), .val (.int p5), .val (.int y31), .val (.int mo), .val (.int dy), .val (.ref a36), .unset, .unset, .unset, .unset] [])
      refine own_aload (pc' := 76) X39 hx (hb hby at_74) rfl rfl rfl ?_
      refine own_iconst (pc' := 77) (z := (1 : Int32)) X39 hx (hb hby at_76) rfl rfl ?_
      refine own_bipush (pc' := 79) (z := (48 : Int32)) X39 hx (hb hby at_77) rfl rfl ?_
      refine own_iload (pc' := 81) X39 hx (hb hby at_79) rfl rfl ?_
      refine own_bipush (pc' := 83) (z := (100 : Int32)) X39 hx (hb hby at_81) rfl rfl ?_
      refine own_idiv (pc' := 84) (z := (y31 / (100 : Int32))) X39 hx (hb hby at_83) rfl (by decide) rfl ?_
      refine own_bipush (pc' := 86) (z := (10 : Int32)) X39 hx (hb hby at_84) rfl rfl ?_
      refine own_irem (pc' := 87) (z := ((y31 / (100 : Int32)) % (10 : Int32))) X39 hx (hb hby at_86) rfl (by decide) rfl ?_
      refine own_iadd (pc' := 88) (z := ((48 : Int32) + ((y31 / (100 : Int32)) % (10 : Int32)))) X39 hx (hb hby at_87) rfl rfl ?_
      obtain ⟨c40, hc40⟩ : ∃ z, ((48 : Int32) + ((y31 / (100 : Int32)) % (10 : Int32))).toUInt32.toUInt16.toUInt32.toInt32 = z := ⟨_, rfl⟩
      refine own_i2c (pc' := 89) (z := c40) X39 hx (hb hby at_88) rfl hc40 ?_
      have rc40 : own_R c40 := by rw [← hc40]; exact own_c48 (own_q2 (own_qnn 100 100 rfl (by decide) ry31.1))
      refine own_castore (pc' := 90) X39 hx hZ e39 V39 (hb hby at_89) rfl (by decide) 1 rfl (by simp) N39 ge37 ?_
      intro T41 h41 L41 X41 e41 N41 W41 V41
      rw [show nar .char c40 = c40 from own_narcs rc40] at V41
      replace V41 : Arv Z h41 a36 k36 .char (10 : Int32) [(.int c38), (.int c40), (.int (0 : Int32)), (.int (0 : Int32)), (.int (0 : Int32)), (.int (0 : Int32)), (.int (0 : Int32)), (.int (0 : Int32)), (.int (0 : Int32)), (.int (0 : Int32))] (.int (0 : Int32)) := V41
      show own_Ends prg e below s _ _ _ T41 (mkF m 90 #[.val (.int p0), .val (.int p1), .val (.int p2), .val (.int p3), .val (.int p4), .val (.int p5), .val (.int y31), .val (.int mo), .val (.int dy), .val (.ref a36), .unset, .unset, .unset, .unset] [])
      refine own_aload (pc' := 92) X41 hx (hb hby at_90) rfl rfl rfl ?_
      refine own_iconst (pc' := 93) (z := (2 : Int32)) X41 hx (hb hby at_92) rfl rfl ?_
      refine own_bipush (pc' := 95) (z := (48 : Int32)) X41 hx (hb hby at_93) rfl rfl ?_
      refine own_iload (pc' := 97) X41 hx (hb hby at_95) rfl rfl ?_
      refine own_bipush (pc' := 99) (z := (10 : Int32)) X41 hx (hb hby at_97) rfl rfl ?_
      refine own_idiv (pc' := 100) (z := (y31 / (10 : Int32))) X41 hx (hb hby at_99) rfl (by decide) rfl ?_
      refine own_bipush (pc' := 102) (z := (10 : Int32)) X41 hx (hb hby at_100) rfl rfl ?_
      refine own_irem (pc' := 103) (z := ((y31 / (10 : Int32)) % (10 : Int32))) X41 hx (hb hby at_102) rfl (by decide) rfl ?_
      refine own_iadd (pc' := 104) (z := ((48 : Int32) + ((y31 / (10 : Int32)) % (10 : Int32)))) X41 hx (hb hby at_103) rfl rfl ?_
      obtain ⟨c42, hc42⟩ : ∃ z, ((48 : Int32) + ((y31 / (10 : Int32)) % (10 : Int32))).toUInt32.toUInt16.toUInt32.toInt32 = z := ⟨_, rfl⟩
      refine own_i2c (pc' := 105) (z := c42) X41 hx (hb hby at_104) rfl hc42 ?_
      have rc42 : own_R c42 := by rw [← hc42]; exact own_c48 (own_q2 (own_qnn 10 10 rfl (by decide) ry31.1))
      refine own_castore (pc' := 106) X41 hx hZ e41 V41 (hb hby at_105) rfl (by decide) 2 rfl (by simp) N41 ge37 ?_
      intro T43 h43 L43 X43 e43 N43 W43 V43
      rw [show nar .char c42 = c42 from own_narcs rc42] at V43
      replace V43 : Arv Z h43 a36 k36 .char (10 : Int32) [(.int c38), (.int c40), (.int c42), (.int (0 : Int32)), (.int (0 : Int32)), (.int (0 : Int32)), (.int (0 : Int32)), (.int (0 : Int32)), (.int (0 : Int32)), (.int (0 : Int32))] (.int (0 : Int32)) := V43
      show own_Ends prg e below s _ _ _ T43 (mkF m 106 #[.val (.int p0), .val (.int p1), .val (.int p2), .val (.int p3), .val (.int p4), .val (.int p5), .val (.int y31), .val (.int mo), .val (.int dy), .val (.ref a36), .unset, .unset, .unset, .unset] [])
      refine own_aload (pc' := 108) X43 hx (hb hby at_106) rfl rfl rfl ?_
      refine own_iconst (pc' := 109) (z := (3 : Int32)) X43 hx (hb hby at_108) rfl rfl ?_
      refine own_bipush (pc' := 111) (z := (48 : Int32)) X43 hx (hb hby at_109) rfl rfl ?_
      refine own_iload (pc' := 113) X43 hx (hb hby at_111) rfl rfl ?_
      refine own_bipush (pc' := 115) (z := (10 : Int32)) X43 hx (hb hby at_113) rfl rfl ?_
      refine own_irem (pc' := 116) (z := (y31 % (10 : Int32))) X43 hx (hb hby at_115) rfl (by decide) rfl ?_
      refine own_iadd (pc' := 117) (z := ((48 : Int32) + (y31 % (10 : Int32)))) X43 hx (hb hby at_116) rfl rfl ?_
      obtain ⟨c44, hc44⟩ : ∃ z, ((48 : Int32) + (y31 % (10 : Int32))).toUInt32.toUInt16.toUInt32.toInt32 = z := ⟨_, rfl⟩
      refine own_i2c (pc' := 118) (z := c44) X43 hx (hb hby at_117) rfl hc44 ?_
      have rc44 : own_R c44 := by rw [← hc44]; exact own_c48 (own_q2 ry31.1)
      refine own_castore (pc' := 119) X43 hx hZ e43 V43 (hb hby at_118) rfl (by decide) 3 rfl (by simp) N43 ge37 ?_
      intro T45 h45 L45 X45 e45 N45 W45 V45
      rw [show nar .char c44 = c44 from own_narcs rc44] at V45
      replace V45 : Arv Z h45 a36 k36 .char (10 : Int32) [(.int c38), (.int c40), (.int c42), (.int c44), (.int (0 : Int32)), (.int (0 : Int32)), (.int (0 : Int32)), (.int (0 : Int32)), (.int (0 : Int32)), (.int (0 : Int32))] (.int (0 : Int32)) := V45
      show own_Ends prg e below s _ _ _ T45 (mkF m 119 #[.val (.int p0), .val (.int p1), .val (.int p2), .val (.int p3), .val (.int p4), .val (.int p5), .val (.int y31), .val (.int mo), .val (.int dy), .val (.ref a36), .unset, .unset, .unset, .unset] [])
      refine own_aload (pc' := 121) X45 hx (hb hby at_119) rfl rfl rfl ?_
      refine own_iconst (pc' := 122) (z := (4 : Int32)) X45 hx (hb hby at_121) rfl rfl ?_
      refine own_bipush (pc' := 124) (z := (45 : Int32)) X45 hx (hb hby at_122) rfl rfl ?_
      refine own_castore (pc' := 125) X45 hx hZ e45 V45 (hb hby at_124) rfl (by decide) 4 rfl (by simp) N45 ge37 ?_
      intro T46 h46 L46 X46 e46 N46 W46 V46
      rw [show nar .char (45 : Int32) = (45 : Int32) from (by decide)] at V46
      replace V46 : Arv Z h46 a36 k36 .char (10 : Int32) [(.int c38), (.int c40), (.int c42), (.int c44), (.int (45 : Int32)), (.int (0 : Int32)), (.int (0 : Int32)), (.int (0 : Int32)), (.int (0 : Int32)), (.int (0 : Int32))] (.int (0 : Int32)) := V46
      show own_Ends prg e below s _ _ _ T46 (mkF m 125 #[.val (.int p0), .val (.int p1), .val (.int p2), .val (.int p3), .val (.int p4), .val (.int p5), .val (.int y31), .val (.int mo), .val (.int dy), .val (.ref a36), .unset, .unset, .unset, .unset] [])
      refine own_aload (pc' := 127) X46 hx (hb hby at_125) rfl rfl rfl ?_
      refine own_iconst (pc' := 128) (z := (5 : Int32)) X46 hx (hb hby at_127) rfl rfl ?_
      refine own_bipush (pc' := 130) (z := (48 : Int32)) X46 hx (hb hby at_128) rfl rfl ?_
      refine own_iload (pc' := 132) X46 hx (hb hby at_130) rfl rfl ?_
      refine own_bipush (pc' := 134) (z := (10 : Int32)) X46 hx (hb hby at_132) rfl rfl ?_
      refine own_idiv (pc' := 135) (z := (mo / (10 : Int32))) X46 hx (hb hby at_134) rfl (by decide) rfl ?_
      refine own_iadd (pc' := 136) (z := ((48 : Int32) + (mo / (10 : Int32)))) X46 hx (hb hby at_135) rfl rfl ?_
      obtain ⟨c47, hc47⟩ : ∃ z, ((48 : Int32) + (mo / (10 : Int32))).toUInt32.toUInt16.toUInt32.toInt32 = z := ⟨_, rfl⟩
      refine own_i2c (pc' := 137) (z := c47) X46 hx (hb hby at_136) rfl hc47 ?_
      have rc47 : own_R c47 := by rw [← hc47]; exact own_c48 (own_q1 10 10 rfl (by decide) ⟨hmo.1, by omega⟩ (by omega))
      refine own_castore (pc' := 138) X46 hx hZ e46 V46 (hb hby at_137) rfl (by decide) 5 rfl (by simp) N46 ge37 ?_
      intro T48 h48 L48 X48 e48 N48 W48 V48
      rw [show nar .char c47 = c47 from own_narcs rc47] at V48
      replace V48 : Arv Z h48 a36 k36 .char (10 : Int32) [(.int c38), (.int c40), (.int c42), (.int c44), (.int (45 : Int32)), (.int c47), (.int (0 : Int32)), (.int (0 : Int32)), (.int (0 : Int32)), (.int (0 : Int32))] (.int (0 : Int32)) := V48
      show own_Ends prg e below s _ _ _ T48 (mkF m 138 #[.val (.int p0), .val (.int p1), .val (.int p2), .val (.int p3), .val (.int p4), .val (.int p5), .val (.int y31), .val (.int mo), .val (.int dy), .val (.ref a36), .unset, .unset, .unset, .unset] [])
      refine own_aload (pc' := 140) X48 hx (hb hby at_138) rfl rfl rfl ?_
      refine own_bipush (pc' := 142) (z := (6 : Int32)) X48 hx (hb hby at_140) rfl rfl ?_
      refine own_bipush (pc' := 144) (z := (48 : Int32)) X48 hx (hb hby at_142) rfl rfl ?_
      refine own_iload (pc' := 146) X48 hx (hb hby at_144) rfl rfl ?_
      refine own_bipush (pc' := 148) (z := (10 : Int32)) X48 hx (hb hby at_146) rfl rfl ?_
      refine own_irem (pc' := 149) (z := (mo % (10 : Int32))) X48 hx (hb hby at_148) rfl (by decide) rfl ?_
      refine own_iadd (pc' := 150) (z := ((48 : Int32) + (mo % (10 : Int32)))) X48 hx (hb hby at_149) rfl rfl ?_
      obtain ⟨c49, hc49⟩ : ∃ z, ((48 : Int32) + (mo % (10 : Int32))).toUInt32.toUInt16.toUInt32.toInt32 = z := ⟨_, rfl⟩
      refine own_i2c (pc' := 151) (z := c49) X48 hx (hb hby at_150) rfl hc49 ?_
      have rc49 : own_R c49 := by rw [← hc49]; exact own_c48 (own_q2 hmo.1)
      refine own_castore (pc' := 152) X48 hx hZ e48 V48 (hb hby at_151) rfl (by decide) 6 rfl (by simp) N48 ge37 ?_
      intro T50 h50 L50 X50 e50 N50 W50 V50
      rw [show nar .char c49 = c49 from own_narcs rc49] at V50
      replace V50 : Arv Z h50 a36 k36 .char (10 : Int32) [(.int c38), (.int c40), (.int c42), (.int c44), (.int (45 : Int32)), (.int c47), (.int c49), (.int (0 : Int32)), (.int (0 : Int32)), (.int (0 : Int32))] (.int (0 : Int32)) := V50
      show own_Ends prg e below s _ _ _ T50 (mkF m 152 #[.val (.int p0), .val (.int p1), .val (.int p2), .val (.int p3), .val (.int p4), .val (.int p5), .val (.int y31), .val (.int mo), .val (.int dy), .val (.ref a36), .unset, .unset, .unset, .unset] [])
      refine own_aload (pc' := 154) X50 hx (hb hby at_152) rfl rfl rfl ?_
      refine own_bipush (pc' := 156) (z := (7 : Int32)) X50 hx (hb hby at_154) rfl rfl ?_
      refine own_bipush (pc' := 158) (z := (45 : Int32)) X50 hx (hb hby at_156) rfl rfl ?_
      refine own_castore (pc' := 159) X50 hx hZ e50 V50 (hb hby at_158) rfl (by decide) 7 rfl (by simp) N50 ge37 ?_
      intro T51 h51 L51 X51 e51 N51 W51 V51
      rw [show nar .char (45 : Int32) = (45 : Int32) from (by decide)] at V51
      replace V51 : Arv Z h51 a36 k36 .char (10 : Int32) [(.int c38), (.int c40), (.int c42), (.int c44), (.int (45 : Int32)), (.int c47), (.int c49), (.int (45 : Int32)), (.int (0 : Int32)), (.int (0 : Int32))] (.int (0 : Int32)) := V51
      show own_Ends prg e below s _ _ _ T51 (mkF m 159 #[.val (.int p0), .val (.int p1), .val (.int p2), .val (.int p3), .val (.int p4), .val (.int p5), .val (.int y31), .val (.int mo), .val (.int dy), .val (.ref a36), .unset, .unset, .unset, .unset] [])
      refine own_aload (pc' := 161) X51 hx (hb hby at_159) rfl rfl rfl ?_
      refine own_bipush (pc' := 163) (z := (8 : Int32)) X51 hx (hb hby at_161) rfl rfl ?_
      refine own_bipush (pc' := 165) (z := (48 : Int32)) X51 hx (hb hby at_163) rfl rfl ?_
      refine own_iload (pc' := 167) X51 hx (hb hby at_165) rfl rfl ?_
      refine own_bipush (pc' := 169) (z := (10 : Int32)) X51 hx (hb hby at_167) rfl rfl ?_
      refine own_idiv (pc' := 170) (z := (dy / (10 : Int32))) X51 hx (hb hby at_169) rfl (by decide) rfl ?_
      refine own_iadd (pc' := 171) (z := ((48 : Int32) + (dy / (10 : Int32)))) X51 hx (hb hby at_170) rfl rfl ?_
      obtain ⟨c52, hc52⟩ : ∃ z, ((48 : Int32) + (dy / (10 : Int32))).toUInt32.toUInt16.toUInt32.toInt32 = z := ⟨_, rfl⟩
      refine own_i2c (pc' := 172) (z := c52) X51 hx (hb hby at_171) rfl hc52 ?_
      have rc52 : own_R c52 := by rw [← hc52]; exact own_c48 (own_q1 10 10 rfl (by decide) ⟨hdy.1, by omega⟩ (by omega))
      refine own_castore (pc' := 173) X51 hx hZ e51 V51 (hb hby at_172) rfl (by decide) 8 rfl (by simp) N51 ge37 ?_
      intro T53 h53 L53 X53 e53 N53 W53 V53
      rw [show nar .char c52 = c52 from own_narcs rc52] at V53
      replace V53 : Arv Z h53 a36 k36 .char (10 : Int32) [(.int c38), (.int c40), (.int c42), (.int c44), (.int (45 : Int32)), (.int c47), (.int c49), (.int (45 : Int32)), (.int c52), (.int (0 : Int32))] (.int (0 : Int32)) := V53
      show own_Ends prg e below s _ _ _ T53 (mkF m 173 #[.val (.int p0), .val (.int p1), .val (.int p2), .val (.int p3), .val (.int p4), .val (.int p5), .val (.int y31), .val (.int mo), .val (.int dy), .val (.ref a36), .unset, .unset, .unset, .unset] [])
      refine own_aload (pc' := 175) X53 hx (hb hby at_173) rfl rfl rfl ?_
      refine own_bipush (pc' := 177) (z := (9 : Int32)) X53 hx (hb hby at_175) rfl rfl ?_
      refine own_bipush (pc' := 179) (z := (48 : Int32)) X53 hx (hb hby at_177) rfl rfl ?_
      refine own_iload (pc' := 181) X53 hx (hb hby at_179) rfl rfl ?_
      refine own_bipush (pc' := 183) (z := (10 : Int32)) X53 hx (hb hby at_181) rfl rfl ?_
      refine own_irem (pc' := 184) (z := (dy % (10 : Int32))) X53 hx (hb hby at_183) rfl (by decide) rfl ?_
      refine own_iadd (pc' := 185) (z := ((48 : Int32) + (dy % (10 : Int32)))) X53 hx (hb hby at_184) rfl rfl ?_
      obtain ⟨c54, hc54⟩ : ∃ z, ((48 : Int32) + (dy % (10 : Int32))).toUInt32.toUInt16.toUInt32.toInt32 = z := ⟨_, rfl⟩
      refine own_i2c (pc' := 186) (z := c54) X53 hx (hb hby at_185) rfl hc54 ?_
      have rc54 : own_R c54 := by rw [← hc54]; exact own_c48 (own_q2 hdy.1)
      refine own_castore (pc' := 187) X53 hx hZ e53 V53 (hb hby at_186) rfl (by decide) 9 rfl (by simp) N53 ge37 ?_
      intro T55 h55 L55 X55 e55 N55 W55 V55
      rw [show nar .char c54 = c54 from own_narcs rc54] at V55
      replace V55 : Arv Z h55 a36 k36 .char (10 : Int32) [(.int c38), (.int c40), (.int c42), (.int c44), (.int (45 : Int32)), (.int c47), (.int c49), (.int (45 : Int32)), (.int c52), (.int c54)] (.int (0 : Int32)) := V55
      show own_Ends prg e below s _ _ _ T55 (mkF m 187 #[.val (.int p0), .val (.int p1), .val (.int p2), .val (.int p3), .val (.int p4), .val (.int p5), .val (.int y31), .val (.int mo), .val (.int dy), .val (.ref a36), .unset, .unset, .unset, .unset] [])
      have K56 : ∀ (c0 c1 c2 c3 c4 c5 c6 c7 c8 c9 : Int32) (TL : State) (hL : Heap) (Lo : List Loc), Stand prg lch e room_1 s m #[(.int p0), (.int p1), (.int p2), (.int p3), (.int p4), (.int p5)] below meth c TL Lo 1 10 → TL.heap = hL → Fr n0 Lo → n0 ≤ hL.size → Arv Z hL a36 k36 .char (10 : Int32) [(.int c0), (.int c1), (.int c2), (.int c3), (.int c4), (.int c5), (.int c6), (.int c7), (.int c8), (.int c9)] (.int (0 : Int32)) → Sta Z hL "java/lang/String" "COMPACT_STRINGS" "Z" (.int i) → Sta Z hL "jdk/internal/util/Preconditions" "SIOOBE_FORMATTER" "Ljava/util/function/BiFunction;" wf → own_R c0 → own_R c1 → own_R c2 → own_R c3 → own_R c4 → own_R c5 → own_R c6 → own_R c7 → own_R c8 → own_R c9 → own_Ends prg e below s (own_Q0 Z p0 p1 p2 p3 p4 p5 i wf h0 n0) 16 192 TL (mkF m 209 #[.val (.int p0), .val (.int p1), .val (.int p2), .val (.int p3), .val (.int p4), .val (.int p5), .val (.int y31), .val (.int mo), .val (.int dy), .val (.ref a36), .unset, .unset, .unset, .unset] []) := by
        intro c0 c1 c2 c3 c4 c5 c6 c7 c8 c9 TL hL Lo XL eL NL ZL VL SL0 SL1 rc0 rc1 rc2 rc3 rc4 rc5 rc6 rc7 rc8 rc9
        refine own_iloadN (pc' := 210) XL hx (hb hby at_209) rfl rfl ?_
        refine own_iconst (pc' := 211) (z := (3 : Int32)) XL hx (hb hby at_210) rfl rfl ?_
        refine own_iushr (pc' := 212) (z := (own_ushr p3 (3 : Int32))) XL hx (hb hby at_211) rfl rfl ?_
        refine own_iconst (pc' := 213) (z := (3 : Int32)) XL hx (hb hby at_212) rfl rfl ?_
        refine own_iand (pc' := 214) (z := ((own_ushr p3 (3 : Int32)) &&& (3 : Int32))) XL hx (hb hby at_213) rfl rfl ?_
        refine own_istore (pc' := 216) (l' := #[.val (.int p0), .val (.int p1), .val (.int p2), .val (.int p3), .val (.int p4), .val (.int p5), .val (.int y31), .val (.int mo), .val (.int dy), .val (.ref a36), .val (.int ((own_ushr p3 (3 : Int32)) &&& (3 : Int32))), .unset, .unset, .unset]) XL hx (hb hby at_214) rfl rfl ?_
        refine own_iload (pc' := 218) XL hx (hb hby at_216) rfl rfl ?_
        refine own_iconst (pc' := 219) (z := (2 : Int32)) XL hx (hb hby at_218) rfl rfl ?_
        by_cases hc219_57 : ((own_ushr p3 (3 : Int32)) &&& (3 : Int32)) = (2 : Int32)
        · refine own_icmpNo (pc' := 222) XL hx (hb hby at_219) rfl (teq hc219_57).2 ?_
          refine own_bipush (pc' := 224) (z := (9 : Int32)) XL hx (hb hby at_222) rfl rfl ?_
          refine own_newarr (pc' := 226) (aty := .char) XL hx hZ (own_w1 hw) eL (hb hby at_224) rfl (by decide) 9 9 (by decide) (by decide) (by decide) (by decide) ?_
          intro T58 h58 a58 k58 X58 e58 E58 g58 V58
          replace V58 : Arv Z h58 a58 k58 .char (9 : Int32) [(.int (0 : Int32)), (.int (0 : Int32)), (.int (0 : Int32)), (.int (0 : Int32)), (.int (0 : Int32)), (.int (0 : Int32)), (.int (0 : Int32)), (.int (0 : Int32)), (.int (0 : Int32))] (.int (0 : Int32)) := V58
          have ge59 : n0 ≤ a58 := by rw [g58]; exact ZL
          have ne60 : a36 ≠ a58 := Nat.ne_of_lt (by rw [g58]; exact VL.lt)
          show own_Ends prg e below s _ _ _ T58 (mkF m 226 #[.val (.int p0), .val (.int p1), .val (.int p2), .val (.int p3), .val (.int p4), .val (.int p5), .val (.int y31), .val (.int mo), .val (.int dy), .val (.ref a36), .val (.int ((own_ushr p3 (3 : Int32)) &&& (3 : Int32))), .unset, .unset, .unset] [(.ref a58)])
          refine own_astore (pc' := 228) (l' := #[.val (.int p0), .val (.int p1), .val (.int p2), .val (.int p3), .val (.int p4), .val (.int p5), .val (.int y31), .val (.int mo), .val (.int dy), .val (.ref a36), .val (.int ((own_ushr p3 (3 : Int32)) &&& (3 : Int32))), .unset, .unset, .val (.ref a58)]) X58 hx (hb hby at_226) rfl rfl rfl ?_
          refine own_aload (pc' := 230) X58 hx (hb hby at_228) rfl rfl rfl ?_
          refine own_iconst (pc' := 231) (z := (0 : Int32)) X58 hx (hb hby at_230) rfl rfl ?_
          refine own_aload (pc' := 233) X58 hx (hb hby at_231) rfl rfl rfl ?_
          refine own_iconst (pc' := 234) (z := (0 : Int32)) X58 hx (hb hby at_233) rfl rfl ?_
          have f61 := (VL.ext E58)
          refine own_caload (pc' := 235) (v := (.int c0)) X58 hx hZ e58 f61 (hb hby at_234) rfl (by decide) rfl ?_
          refine own_castore (pc' := 236) X58 hx hZ e58 V58 (hb hby at_235) rfl (by decide) 0 rfl (by simp) NL ge59 ?_
          intro T62 h62 L62 X62 e62 N62 W62 V62
          rw [show nar .char c0 = c0 from own_narcs rc0] at V62
          replace V62 : Arv Z h62 a58 k58 .char (9 : Int32) [(.int c0), (.int (0 : Int32)), (.int (0 : Int32)), (.int (0 : Int32)), (.int (0 : Int32)), (.int (0 : Int32)), (.int (0 : Int32)), (.int (0 : Int32)), (.int (0 : Int32))] (.int (0 : Int32)) := V62
          show own_Ends prg e below s _ _ _ T62 (mkF m 236 #[.val (.int p0), .val (.int p1), .val (.int p2), .val (.int p3), .val (.int p4), .val (.int p5), .val (.int y31), .val (.int mo), .val (.int dy), .val (.ref a36), .val (.int ((own_ushr p3 (3 : Int32)) &&& (3 : Int32))), .unset, .unset, .val (.ref a58)] [])
          refine own_aload (pc' := 238) X62 hx (hb hby at_236) rfl rfl rfl ?_
          refine own_iconst (pc' := 239) (z := (1 : Int32)) X62 hx (hb hby at_238) rfl rfl ?_
          refine own_aload (pc' := 241) X62 hx (hb hby at_239) rfl rfl rfl ?_
          refine own_iconst (pc' := 242) (z := (1 : Int32)) X62 hx (hb hby at_241) rfl rfl ?_
          have f63 := (f61.other W62 ne60)
          refine own_caload (pc' := 243) (v := (.int c1)) X62 hx hZ e62 f63 (hb hby at_242) rfl (by decide) rfl ?_
          refine own_castore (pc' := 244) X62 hx hZ e62 V62 (hb hby at_243) rfl (by decide) 1 rfl (by simp) N62 ge59 ?_
          intro T64 h64 L64 X64 e64 N64 W64 V64
          rw [show nar .char c1 = c1 from own_narcs rc1] at V64
          replace V64 : Arv Z h64 a58 k58 .char (9 : Int32) [(.int c0), (.int c1), (.int (0 : Int32)), (.int (0 : Int32)), (.int (0 : Int32)), (.int (0 : Int32)), (.int (0 : Int32)), (.int (0 : Int32)), (.int (0 : Int32))] (.int (0 : Int32)) := V64
          show own_Ends prg e below s _ _ _ T64 (mkF m 244 #[.val (.int p0), .val (.int p1), .val (.int p2), .val (.int p3), .val (.int p4), .val (.int p5), .val (.int y31), .val (.int mo), .val (.int dy), .val (.ref a36), .val (.int ((own_ushr p3 (3 : Int32)) &&& (3 : Int32))), .unset, .unset, .val (.ref a58)] [])
          refine own_aload (pc' := 246) X64 hx (hb hby at_244) rfl rfl rfl ?_
          refine own_iconst (pc' := 247) (z := (2 : Int32)) X64 hx (hb hby at_246) rfl rfl ?_
          refine own_aload (pc' := 249) X64 hx (hb hby at_247) rfl rfl rfl ?_
          refine own_iconst (pc' := 250) (z := (2 : Int32)) X64 hx (hb hby at_249) rfl rfl ?_
          have f65 := (f63.other W64 ne60)
          refine own_caload (pc' := 251) (v := (.int c2)) X64 hx hZ e64 f65 (hb hby at_250) rfl (by decide) rfl ?_
          refine own_castore (pc' := 252) X64 hx hZ e64 V64 (hb hby at_251) rfl (by decide) 2 rfl (by simp) N64 ge59 ?_
          intro T66 h66 L66 X66 e66 N66 W66 V66
          rw [show nar .char c2 = c2 from own_narcs rc2] at V66
          replace V66 : Arv Z h66 a58 k58 .char (9 : Int32) [(.int c0), (.int c1), (.int c2), (.int (0 : Int32)), (.int (0 : Int32)), (.int (0 : Int32)), (.int (0 : Int32)), (.int (0 : Int32)), (.int (0 : Int32))] (.int (0 : Int32)) := V66
          show own_Ends prg e below s _ _ _ T66 (mkF m 252 #[.val (.int p0), .val (.int p1), .val (.int p2), .val (.int p3), .val (.int p4), .val (.int p5), .val (.int y31), .val (.int mo), .val (.int dy), .val (.ref a36), .val (.int ((own_ushr p3 (3 : Int32)) &&& (3 : Int32))), .unset, .unset, .val (.ref a58)] [])
          refine own_aload (pc' := 254) X66 hx (hb hby at_252) rfl rfl rfl ?_
          refine own_iconst (pc' := 255) (z := (3 : Int32)) X66 hx (hb hby at_254) rfl rfl ?_
          refine own_aload (pc' := 257) X66 hx (hb hby at_255) rfl rfl rfl ?_
          refine own_iconst (pc' := 258) (z := (3 : Int32)) X66 hx (hb hby at_257) rfl rfl ?_
          have f67 := (f65.other W66 ne60)
          refine own_caload (pc' := 259) (v := (.int c3)) X66 hx hZ e66 f67 (hb hby at_258) rfl (by decide) rfl ?_
          refine own_castore (pc' := 260) X66 hx hZ e66 V66 (hb hby at_259) rfl (by decide) 3 rfl (by simp) N66 ge59 ?_
          intro T68 h68 L68 X68 e68 N68 W68 V68
          rw [show nar .char c3 = c3 from own_narcs rc3] at V68
          replace V68 : Arv Z h68 a58 k58 .char (9 : Int32) [(.int c0), (.int c1), (.int c2), (.int c3), (.int (0 : Int32)), (.int (0 : Int32)), (.int (0 : Int32)), (.int (0 : Int32)), (.int (0 : Int32))] (.int (0 : Int32)) := V68
          show own_Ends prg e below s _ _ _ T68 (mkF m 260 #[.val (.int p0), .val (.int p1), .val (.int p2), .val (.int p3), .val (.int p4), .val (.int p5), .val (.int y31), .val (.int mo), .val (.int dy), .val (.ref a36), .val (.int ((own_ushr p3 (3 : Int32)) &&& (3 : Int32))), .unset, .unset, .val (.ref a58)] [])
          refine own_aload (pc' := 262) X68 hx (hb hby at_260) rfl rfl rfl ?_
          refine own_iconst (pc' := 263) (z := (4 : Int32)) X68 hx (hb hby at_262) rfl rfl ?_
          refine own_aload (pc' := 265) X68 hx (hb hby at_263) rfl rfl rfl ?_
          refine own_iconst (pc' := 266) (z := (4 : Int32)) X68 hx (hb hby at_265) rfl rfl ?_
          have f69 := (f67.other W68 ne60)
          refine own_caload (pc' := 267) (v := (.int c4)) X68 hx hZ e68 f69 (hb hby at_266) rfl (by decide) rfl ?_
          refine own_castore (pc' := 268) X68 hx hZ e68 V68 (hb hby at_267) rfl (by decide) 4 rfl (by simp) N68 ge59 ?_
          intro T70 h70 L70 X70 e70 N70 W70 V70
          rw [show nar .char c4 = c4 from own_narcs rc4] at V70
          replace V70 : Arv Z h70 a58 k58 .char (9 : Int32) [(.int c0), (.int c1), (.int c2), (.int c3), (.int c4), (.int (0 : Int32)), (.int (0 : Int32)), (.int (0 : Int32)), (.int (0 : Int32))] (.int (0 : Int32)) := V70
          show own_Ends prg e below s _ _ _ T70 (mkF m 268 #[.val (.int p0), .val (.int p1), .val (.int p2), .val (.int p3), .val (.int p4), .val (.int p5), .val (.int y31), .val (.int mo), .val (.int dy), .val (.ref a36), .val (.int ((own_ushr p3 (3 : Int32)) &&& (3 : Int32))), .unset, .unset, .val (.ref a58)] [])
          refine own_aload (pc' := 270) X70 hx (hb hby at_268) rfl rfl rfl ?_
          refine own_iconst (pc' := 271) (z := (5 : Int32)) X70 hx (hb hby at_270) rfl rfl ?_
          refine own_aload (pc' := 273) X70 hx (hb hby at_271) rfl rfl rfl ?_
          refine own_iconst (pc' := 274) (z := (5 : Int32)) X70 hx (hb hby at_273) rfl rfl ?_
          have f71 := (f69.other W70 ne60)
          refine own_caload (pc' := 275) (v := (.int c5)) X70 hx hZ e70 f71 (hb hby at_274) rfl (by decide) rfl ?_
          refine own_castore (pc' := 276) X70 hx hZ e70 V70 (hb hby at_275) rfl (by decide) 5 rfl (by simp) N70 ge59 ?_
          intro T72 h72 L72 X72 e72 N72 W72 V72
          rw [show nar .char c5 = c5 from own_narcs rc5] at V72
          replace V72 : Arv Z h72 a58 k58 .char (9 : Int32) [(.int c0), (.int c1), (.int c2), (.int c3), (.int c4), (.int c5), (.int (0 : Int32)), (.int (0 : Int32)), (.int (0 : Int32))] (.int (0 : Int32)) := V72
          show own_Ends prg e below s _ _ _ T72 (mkF m 276 #[.val (.int p0), .val (.int p1), .val (.int p2), .val (.int p3), .val (.int p4), .val (.int p5), .val (.int y31), .val (.int mo), .val (.int dy), .val (.ref a36), .val (.int ((own_ushr p3 (3 : Int32)) &&& (3 : Int32))), .unset, .unset, .val (.ref a58)] [])
          refine own_aload (pc' := 278) X72 hx (hb hby at_276) rfl rfl rfl ?_
          refine own_bipush (pc' := 280) (z := (6 : Int32)) X72 hx (hb hby at_278) rfl rfl ?_
          refine own_aload (pc' := 282) X72 hx (hb hby at_280) rfl rfl rfl ?_
          refine own_bipush (pc' := 284) (z := (6 : Int32)) X72 hx (hb hby at_282) rfl rfl ?_
          have f73 := (f71.other W72 ne60)
          refine own_caload (pc' := 285) (v := (.int c6)) X72 hx hZ e72 f73 (hb hby at_284) rfl (by decide) rfl ?_
          refine own_castore (pc' := 286) X72 hx hZ e72 V72 (hb hby at_285) rfl (by decide) 6 rfl (by simp) N72 ge59 ?_
          intro T74 h74 L74 X74 e74 N74 W74 V74
          rw [show nar .char c6 = c6 from own_narcs rc6] at V74
          replace V74 : Arv Z h74 a58 k58 .char (9 : Int32) [(.int c0), (.int c1), (.int c2), (.int c3), (.int c4), (.int c5), (.int c6), (.int (0 : Int32)), (.int (0 : Int32))] (.int (0 : Int32)) := V74
          show own_Ends prg e below s _ _ _ T74 (mkF m 286 #[.val (.int p0), .val (.int p1), .val (.int p2), .val (.int p3), .val (.int p4), .val (.int p5), .val (.int y31), .val (.int mo), .val (.int dy), .val (.ref a36), .val (.int ((own_ushr p3 (3 : Int32)) &&& (3 : Int32))), .unset, .unset, .val (.ref a58)] [])
          refine own_aload (pc' := 288) X74 hx (hb hby at_286) rfl rfl rfl ?_
          refine own_bipush (pc' := 290) (z := (7 : Int32)) X74 hx (hb hby at_288) rfl rfl ?_
          refine own_aload (pc' := 292) X74 hx (hb hby at_290) rfl rfl rfl ?_
          refine own_bipush (pc' := 294) (z := (7 : Int32)) X74 hx (hb hby at_292) rfl rfl ?_
          have f75 := (f73.other W74 ne60)
          refine own_caload (pc' := 295) (v := (.int c7)) X74 hx hZ e74 f75 (hb hby at_294) rfl (by decide) rfl ?_
          refine own_castore (pc' := 296) X74 hx hZ e74 V74 (hb hby at_295) rfl (by decide) 7 rfl (by simp) N74 ge59 ?_
          intro T76 h76 L76 X76 e76 N76 W76 V76
          rw [show nar .char c7 = c7 from own_narcs rc7] at V76
          replace V76 : Arv Z h76 a58 k58 .char (9 : Int32) [(.int c0), (.int c1), (.int c2), (.int c3), (.int c4), (.int c5), (.int c6), (.int c7), (.int (0 : Int32))] (.int (0 : Int32)) := V76
          show own_Ends prg e below s _ _ _ T76 (mkF m 296 #[.val (.int p0), .val (.int p1), .val (.int p2), .val (.int p3), .val (.int p4), .val (.int p5), .val (.int y31), .val (.int mo), .val (.int dy), .val (.ref a36), .val (.int ((own_ushr p3 (3 : Int32)) &&& (3 : Int32))), .unset, .unset, .val (.ref a58)] [])
          refine own_aload (pc' := 298) X76 hx (hb hby at_296) rfl rfl rfl ?_
          refine own_bipush (pc' := 300) (z := (8 : Int32)) X76 hx (hb hby at_298) rfl rfl ?_
          refine own_aload (pc' := 302) X76 hx (hb hby at_300) rfl rfl rfl ?_
          refine own_bipush (pc' := 304) (z := (8 : Int32)) X76 hx (hb hby at_302) rfl rfl ?_
          have f77 := (f75.other W76 ne60)
          refine own_caload (pc' := 305) (v := (.int c8)) X76 hx hZ e76 f77 (hb hby at_304) rfl (by decide) rfl ?_
          refine own_castore (pc' := 306) X76 hx hZ e76 V76 (hb hby at_305) rfl (by decide) 8 rfl (by simp) N76 ge59 ?_
          intro T78 h78 L78 X78 e78 N78 W78 V78
          rw [show nar .char c8 = c8 from own_narcs rc8] at V78
          replace V78 : Arv Z h78 a58 k58 .char (9 : Int32) [(.int c0), (.int c1), (.int c2), (.int c3), (.int c4), (.int c5), (.int c6), (.int c7), (.int c8)] (.int (0 : Int32)) := V78
          show own_Ends prg e below s _ _ _ T78 (mkF m 306 #[.val (.int p0), .val (.int p1), .val (.int p2), .val (.int p3), .val (.int p4), .val (.int p5), .val (.int y31), .val (.int mo), .val (.int dy), .val (.ref a36), .val (.int ((own_ushr p3 (3 : Int32)) &&& (3 : Int32))), .unset, .unset, .val (.ref a58)] [])
          obtain ⟨T79, h79, X79, e79, E79, A79, D79, -, st79⟩ := newO X78 hx hZ hown (own_w2 hw) (own_w3 hw) (own_w4 hw) e78 (g := (mkF m 306 #[.val (.int p0), .val (.int p1), .val (.int p2), .val (.int p3), .val (.int p4), .val (.int p5), .val (.int y31), .val (.int mo), .val (.int dy), .val (.ref a36), .val (.int ((own_ushr p3 (3 : Int32)) &&& (3 : Int32))), .unset, .unset, .val (.ref a58)] [])) rfl (hb hby at_306) (by decide) (by decide)
          refine own_go st79 ?_
          obtain ⟨a79, g79⟩ : ∃ z, z = h78.size := ⟨_, rfl⟩
          rw [← g79] at A79 D79
          have f80 := (Nat.le_trans (Nat.le_trans (Nat.le_trans (Nat.le_trans (Nat.le_trans (Nat.le_trans (Nat.le_trans (Nat.le_trans (Nat.le_trans (Nat.le_trans ZL E58.1) (Keep.of_wr W62).1) (Keep.of_wr W64).1) (Keep.of_wr W66).1) (Keep.of_wr W68).1) (Keep.of_wr W70).1) (Keep.of_wr W72).1) (Keep.of_wr W74).1) (Keep.of_wr W76).1) (Keep.of_wr W78).1)
          have ge81 : n0 ≤ a79 := by rw [g79]; exact f80
          have f82 := (f77.other W78 ne60)
          have ne83 : a36 ≠ a79 := Nat.ne_of_lt (by rw [g79]; exact f82.lt)
          have ne84 : a58 ≠ a79 := Nat.ne_of_lt (by rw [g79]; exact V78.lt)
          have F85 : Fld Z h79 a79 "java/lang/String" "coder" "B" (.int (0 : Int32)) := D79 (Or.inr (own_w28 hw)) (ty := .byte) (by decide)
          have F86 : Fld Z h79 a79 "java/lang/String" "value" "[B" .null := D79 (Or.inr (own_w30 hw)) (ty := (.array .byte)) (by decide)
          show own_Ends prg e below s _ _ _ T79 (mkF m 309 #[.val (.int p0), .val (.int p1), .val (.int p2), .val (.int p3), .val (.int p4), .val (.int p5), .val (.int y31), .val (.int mo), .val (.int dy), .val (.ref a36), .val (.int ((own_ushr p3 (3 : Int32)) &&& (3 : Int32))), .unset, .unset, .val (.ref a58)] [(.ref h78.size)])
          rw [← g79]
          refine own_dup (pc' := 310) X79 hx (hb hby at_309) rfl rfl ?_
          refine own_aload (pc' := 312) X79 hx (hb hby at_310) rfl rfl rfl ?_
          have f87 := (V78.ext E79)
          have f88 := (((((((((((SL0.ext E58).wr W62).wr W64).wr W66).wr W68).wr W70).wr W72).wr W74).wr W76).wr W78).ext E79)
          have f89 := (Nat.le_trans f80 E79.1)
          refine own_callC (pc' := 315) (y := (⟨"java/lang/String", "<init>", "([C)V"⟩ : MethodName)) (W := 1) (rm := own_room1_9) (argsL := [(.ref a58)]) (rest := [(.ref a79)]) (b := a79) X79 hx hZ e79 hown (by rw [hml]; rfl) rfl rfl (own_w5 hw) (own_w6 hw) (own_w4 hw) (own_w7 hw) (by decide) (own_rm1_9 lch Z a0 hw [] a79 a58 k58 c0 c1 c2 c3 c4 c5 c6 c7 c8 _ _ i h79 n0 f89 A79 F86 F85 ge81 f87 (Ne.symm ne84) f88 hi rc0 rc1 rc2 rc3 rc4 rc5 rc6 rc7 rc8) (by decide) (by decide) (by decide) (by decide) (lenOf own_pd16 rfl) rfl (by exact Nat.le_of_eq rfl) (hb hby at_312) rfl ?_
          intro T90 Lc90 v90 X90 hQ90
          obtain ⟨vb90, vk90, rfl, Nq90, Kq90, G90_0, G90_1, G90_2, G90_3⟩ := hQ90
          have N90 := Fr.app N78 Nq90
          have ge91 : n0 ≤ vb90 := Nat.le_trans f89 G90_0
          have f92 := (f82.ext E79)
          have ne93 : a36 ≠ vb90 := Nat.ne_of_lt (Nat.lt_of_lt_of_le f92.lt G90_0)
          have ne94 : a58 ≠ vb90 := Nat.ne_of_lt (Nat.lt_of_lt_of_le f87.lt G90_0)
          have ne95 : a79 ≠ vb90 := Nat.ne_of_lt (Nat.lt_of_lt_of_le A79.lt G90_0)
          show own_Ends prg e below s _ _ _ T90 (mkF m 315 #[.val (.int p0), .val (.int p1), .val (.int p2), .val (.int p3), .val (.int p4), .val (.int p5), .val (.int y31), .val (.int mo), .val (.int dy), .val (.ref a36), .val (.int ((own_ushr p3 (3 : Int32)) &&& (3 : Int32))), .unset, .unset, .val (.ref a58)] [(.ref a79)])
          refine own_astore (pc' := 317) (l' := #[.val (.int p0), .val (.int p1), .val (.int p2), .val (.int p3), .val (.int p4), .val (.int p5), .val (.int y31), .val (.int mo), .val (.int dy), .val (.ref a36), .val (.int ((own_ushr p3 (3 : Int32)) &&& (3 : Int32))), .val (.ref a79), .unset, .val (.ref a58)]) X90 hx (hb hby at_315) rfl rfl rfl ?_
          refine own_iconst (pc' := 318) (z := (0 : Int32)) X90 hx (hb hby at_317) rfl rfl ?_
          refine own_istore (pc' := 320) (l' := #[.val (.int p0), .val (.int p1), .val (.int p2), .val (.int p3), .val (.int p4), .val (.int p5), .val (.int y31), .val (.int mo), .val (.int dy), .val (.ref a36), .val (.int ((own_ushr p3 (3 : Int32)) &&& (3 : Int32))), .val (.ref a79), .val (.int (0 : Int32)), .val (.ref a58)]) X90 hx (hb hby at_318) rfl rfl ?_
          refine own_goto (pc' := 471) X90 hx (hb hby at_320) (by decide) (by decide) ?_
          refine own_iload (pc' := 473) X90 hx (hb hby at_471) rfl rfl ?_
          refine own_ifYes (pc' := 488) X90 hx (hb hby at_473) (teq (by decide)).1 (by decide) (by decide) ?_
          refine own_iconst (pc' := 489) (z := (0 : Int32)) X90 hx (hb hby at_488) rfl rfl ?_
          refine own_istore (pc' := 491) (l' := #[.val (.int p0), .val (.int p1), .val (.int p2), .val (.int p3), .val (.int p4), .val (.int p5), .val (.int y31), .val (.int mo), .val (.int dy), .val (.ref a36), .val (.int ((own_ushr p3 (3 : Int32)) &&& (3 : Int32))), .val (.ref a79), .val (.int (0 : Int32)), .val (.int (0 : Int32))]) X90 hx (hb hby at_489) rfl rfl ?_
          refine own_aload (pc' := 493) X90 hx (hb hby at_491) rfl rfl rfl ?_
          have f96 := (own_stak f88 Kq90 (allS (own_exac A79) all0))
          have f97 := (A79.keep Kq90)
          refine own_callS (pc' := 496) (y := (⟨"com/example/exacting_validator/exactingvalidator/validator/Rfc3339", "isFullDate", "(Ljava/lang/String;)Z"⟩ : MethodName)) (W := 0) (rm := own_room11_9) (argsL := [(.ref a79)]) (rest := []) X90 hx hZ rfl hown (by rw [hml]; rfl) (own_w44 hw) (own_w45 hw) (own_w46 hw) (own_w47 hw) (by decide) (own_rm11_9 lch Z a0 hw [] a79 i vb90 vk90 _ T90.heap n0 G90_2 f96 hi f97 G90_1 G90_3) (by decide) (by decide) (by decide) (by decide) (lenOf own_pd17 rfl) rfl (by exact Nat.le_of_eq rfl) (hb hby at_493) rfl ?_
          intro T98 Lc98 v98 X98 hQ98
          obtain ⟨rfl, Nq98, Kq98⟩ := hQ98
          have N98 := Fr.app N90 Nq98
          show own_Ends prg e below s _ _ _ T98 (mkF m 496 #[.val (.int p0), .val (.int p1), .val (.int p2), .val (.int p3), .val (.int p4), .val (.int p5), .val (.int y31), .val (.int mo), .val (.int dy), .val (.ref a36), .val (.int ((own_ushr p3 (3 : Int32)) &&& (3 : Int32))), .val (.ref a79), .val (.int (0 : Int32)), .val (.int (0 : Int32))] [(.int (0 : Int32))])
          refine own_iload (pc' := 498) X98 hx (hb hby at_496) rfl rfl ?_
          refine own_icmpNo (pc' := 501) X98 hx (hb hby at_498) rfl (teq (by decide)).2 ?_
          refine own_iconst (pc' := 502) (z := (1 : Int32)) X98 hx (hb hby at_501) rfl rfl ?_
          refine own_goto (pc' := 506) X98 hx (hb hby at_502) (by decide) (by decide) ?_
          refine own_retN X98 hx hlk hret (by simp) (hb hby at_506) (by decide) (by decide) ?_
          exact ⟨rfl, N98⟩
        · refine own_icmpYes (pc' := 323) XL hx (hb hby at_219) (feq hc219_57).2 (by decide) (by decide) ?_
          refine own_iload (pc' := 325) XL hx (hb hby at_323) rfl rfl ?_
          refine own_iconst (pc' := 326) (z := (3 : Int32)) XL hx (hb hby at_325) rfl rfl ?_
          by_cases hc326_99 : ((own_ushr p3 (3 : Int32)) &&& (3 : Int32)) = (3 : Int32)
          · refine own_icmpNo (pc' := 329) XL hx (hb hby at_326) rfl (teq hc326_99).2 ?_
            refine own_bipush (pc' := 331) (z := (11 : Int32)) XL hx (hb hby at_329) rfl rfl ?_
            refine own_newarr (pc' := 333) (aty := .char) XL hx hZ (own_w1 hw) eL (hb hby at_331) rfl (by decide) 11 11 (by decide) (by decide) (by decide) (by decide) ?_
            intro T100 h100 a100 k100 X100 e100 E100 g100 V100
            replace V100 : Arv Z h100 a100 k100 .char (11 : Int32) [(.int (0 : Int32)), (.int (0 : Int32)), (.int (0 : Int32)), (.int (0 : Int32)), (.int (0 : Int32)), (.int (0 : Int32)), (.int (0 : Int32)), (.int (0 : Int32)), (.int (0 : Int32)), (.int (0 : Int32)), (.int (0 : Int32))] (.int (0 : Int32)) := V100
            have ge101 : n0 ≤ a100 := by rw [g100]; exact ZL
            have ne102 : a36 ≠ a100 := Nat.ne_of_lt (by rw [g100]; exact VL.lt)
            show own_Ends prg e below s _ _ _ T100 (mkF m 333 #[.val (.int p0), .val (.int p1), .val (.int p2), .val (.int p3), .val (.int p4), .val (.int p5), .val (.int y31), .val (.int mo), .val (.int dy), .val (.ref a36), .val (.int ((own_ushr p3 (3 : Int32)) &&& (3 : Int32))), .unset, .unset, .unset] [(.ref a100)])
            refine own_astore (pc' := 335) (l' := #[.val (.int p0), .val (.int p1), .val (.int p2), .val (.int p3), .val (.int p4), .val (.int p5), .val (.int y31), .val (.int mo), .val (.int dy), .val (.ref a36), .val (.int ((own_ushr p3 (3 : Int32)) &&& (3 : Int32))), .unset, .unset, .val (.ref a100)]) X100 hx (hb hby at_333) rfl rfl rfl ?_
            refine own_aload (pc' := 337) X100 hx (hb hby at_335) rfl rfl rfl ?_
            refine own_iconst (pc' := 338) (z := (0 : Int32)) X100 hx (hb hby at_337) rfl rfl ?_
            refine own_aload (pc' := 340) X100 hx (hb hby at_338) rfl rfl rfl ?_
            refine own_iconst (pc' := 341) (z := (0 : Int32)) X100 hx (hb hby at_340) rfl rfl ?_
            have f103 := (VL.ext E100)
            refine own_caload (pc' := 342) (v := (.int c0)) X100 hx hZ e100 f103 (hb hby at_341) rfl (by decide) rfl ?_
            refine own_castore (pc' := 343) X100 hx hZ e100 V100 (hb hby at_342) rfl (by decide) 0 rfl (by simp) NL ge101 ?_
            intro T104 h104 L104 X104 e104 N104 W104 V104
            rw [show nar .char c0 = c0 from own_narcs rc0] at V104
            replace V104 : Arv Z h104 a100 k100 .char (11 : Int32) [(.int c0), (.int (0 : Int32)), (.int (0 : Int32)), (.int (0 : Int32)), (.int (0 : Int32)), (.int (0 : Int32)), (.int (0 : Int32)), (.int (0 : Int32)), (.int (0 : Int32)), (.int (0 : Int32)), (.int (0 : Int32))] (.int (0 : Int32)) := V104
            show own_Ends prg e below s _ _ _ T104 (mkF m 343 #[.val (.int p0), .val (.int p1), .val (.int p2), .val (.int p3), .val (.int p4), .val (.int p5), .val (.int y31), .val (.int mo), .val (.int dy), .val (.ref a36), .val (.int ((own_ushr p3 (3 : Int32)) &&& (3 : Int32))), .unset, .unset, .val (.ref a100)] [])
            refine own_aload (pc' := 345) X104 hx (hb hby at_343) rfl rfl rfl ?_
            refine own_iconst (pc' := 346) (z := (1 : Int32)) X104 hx (hb hby at_345) rfl rfl ?_
            refine own_aload (pc' := 348) X104 hx (hb hby at_346) rfl rfl rfl ?_
            refine own_iconst (pc' := 349) (z := (1 : Int32)) X104 hx (hb hby at_348) rfl rfl ?_
            have f105 := (f103.other W104 ne102)
            refine own_caload (pc' := 350) (v := (.int c1)) X104 hx hZ e104 f105 (hb hby at_349) rfl (by decide) rfl ?_
            refine own_castore (pc' := 351) X104 hx hZ e104 V104 (hb hby at_350) rfl (by decide) 1 rfl (by simp) N104 ge101 ?_
            intro T106 h106 L106 X106 e106 N106 W106 V106
            rw [show nar .char c1 = c1 from own_narcs rc1] at V106
            replace V106 : Arv Z h106 a100 k100 .char (11 : Int32) [(.int c0), (.int c1), (.int (0 : Int32)), (.int (0 : Int32)), (.int (0 : Int32)), (.int (0 : Int32)), (.int (0 : Int32)), (.int (0 : Int32)), (.int (0 : Int32)), (.int (0 : Int32)), (.int (0 : Int32))] (.int (0 : Int32)) := V106
            show own_Ends prg e below s _ _ _ T106 (mkF m 351 #[.val (.int p0), .val (.int p1), .val (.int p2), .val (.int p3), .val (.int p4), .val (.int p5), .val (.int y31), .val (.int mo), .val (.int dy), .val (.ref a36), .val (.int ((own_ushr p3 (3 : Int32)) &&& (3 : Int32))), .unset, .unset, .val (.ref a100)] [])
            refine own_aload (pc' := 353) X106 hx (hb hby at_351) rfl rfl rfl ?_
            refine own_iconst (pc' := 354) (z := (2 : Int32)) X106 hx (hb hby at_353) rfl rfl ?_
            refine own_aload (pc' := 356) X106 hx (hb hby at_354) rfl rfl rfl ?_
            refine own_iconst (pc' := 357) (z := (2 : Int32)) X106 hx (hb hby at_356) rfl rfl ?_
            have f107 := (f105.other W106 ne102)
            refine own_caload (pc' := 358) (v := (.int c2)) X106 hx hZ e106 f107 (hb hby at_357) rfl (by decide) rfl ?_
            refine own_castore (pc' := 359) X106 hx hZ e106 V106 (hb hby at_358) rfl (by decide) 2 rfl (by simp) N106 ge101 ?_
            intro T108 h108 L108 X108 e108 N108 W108 V108
            rw [show nar .char c2 = c2 from own_narcs rc2] at V108
            replace V108 : Arv Z h108 a100 k100 .char (11 : Int32) [(.int c0), (.int c1), (.int c2), (.int (0 : Int32)), (.int (0 : Int32)), (.int (0 : Int32)), (.int (0 : Int32)), (.int (0 : Int32)), (.int (0 : Int32)), (.int (0 : Int32)), (.int (0 : Int32))] (.int (0 : Int32)) := V108
            show own_Ends prg e below s _ _ _ T108 (mkF m 359 #[.val (.int p0), .val (.int p1), .val (.int p2), .val (.int p3), .val (.int p4), .val (.int p5), .val (.int y31), .val (.int mo), .val (.int dy), .val (.ref a36), .val (.int ((own_ushr p3 (3 : Int32)) &&& (3 : Int32))), .unset, .unset, .val (.ref a100)] [])
            refine own_aload (pc' := 361) X108 hx (hb hby at_359) rfl rfl rfl ?_
            refine own_iconst (pc' := 362) (z := (3 : Int32)) X108 hx (hb hby at_361) rfl rfl ?_
            refine own_aload (pc' := 364) X108 hx (hb hby at_362) rfl rfl rfl ?_
            refine own_iconst (pc' := 365) (z := (3 : Int32)) X108 hx (hb hby at_364) rfl rfl ?_
            have f109 := (f107.other W108 ne102)
            refine own_caload (pc' := 366) (v := (.int c3)) X108 hx hZ e108 f109 (hb hby at_365) rfl (by decide) rfl ?_
            refine own_castore (pc' := 367) X108 hx hZ e108 V108 (hb hby at_366) rfl (by decide) 3 rfl (by simp) N108 ge101 ?_
            intro T110 h110 L110 X110 e110 N110 W110 V110
            rw [show nar .char c3 = c3 from own_narcs rc3] at V110
            replace V110 : Arv Z h110 a100 k100 .char (11 : Int32) [(.int c0), (.int c1), (.int c2), (.int c3), (.int (0 : Int32)), (.int (0 : Int32)), (.int (0 : Int32)), (.int (0 : Int32)), (.int (0 : Int32)), (.int (0 : Int32)), (.int (0 : Int32))] (.int (0 : Int32)) := V110
            show own_Ends prg e below s _ _ _ T110 (mkF m 367 #[.val (.int p0), .val (.int p1), .val (.int p2), .val (.int p3), .val (.int p4), .val (.int p5), .val (.int y31), .val (.int mo), .val (.int dy), .val (.ref a36), .val (.int ((own_ushr p3 (3 : Int32)) &&& (3 : Int32))), .unset, .unset, .val (.ref a100)] [])
            refine own_aload (pc' := 369) X110 hx (hb hby at_367) rfl rfl rfl ?_
            refine own_iconst (pc' := 370) (z := (4 : Int32)) X110 hx (hb hby at_369) rfl rfl ?_
            refine own_aload (pc' := 372) X110 hx (hb hby at_370) rfl rfl rfl ?_
            refine own_iconst (pc' := 373) (z := (4 : Int32)) X110 hx (hb hby at_372) rfl rfl ?_
            have f111 := (f109.other W110 ne102)
            refine own_caload (pc' := 374) (v := (.int c4)) X110 hx hZ e110 f111 (hb hby at_373) rfl (by decide) rfl ?_
            refine own_castore (pc' := 375) X110 hx hZ e110 V110 (hb hby at_374) rfl (by decide) 4 rfl (by simp) N110 ge101 ?_
            intro T112 h112 L112 X112 e112 N112 W112 V112
            rw [show nar .char c4 = c4 from own_narcs rc4] at V112
            replace V112 : Arv Z h112 a100 k100 .char (11 : Int32) [(.int c0), (.int c1), (.int c2), (.int c3), (.int c4), (.int (0 : Int32)), (.int (0 : Int32)), (.int (0 : Int32)), (.int (0 : Int32)), (.int (0 : Int32)), (.int (0 : Int32))] (.int (0 : Int32)) := V112
            show own_Ends prg e below s _ _ _ T112 (mkF m 375 #[.val (.int p0), .val (.int p1), .val (.int p2), .val (.int p3), .val (.int p4), .val (.int p5), .val (.int y31), .val (.int mo), .val (.int dy), .val (.ref a36), .val (.int ((own_ushr p3 (3 : Int32)) &&& (3 : Int32))), .unset, .unset, .val (.ref a100)] [])
            refine own_aload (pc' := 377) X112 hx (hb hby at_375) rfl rfl rfl ?_
            refine own_iconst (pc' := 378) (z := (5 : Int32)) X112 hx (hb hby at_377) rfl rfl ?_
            refine own_aload (pc' := 380) X112 hx (hb hby at_378) rfl rfl rfl ?_
            refine own_iconst (pc' := 381) (z := (5 : Int32)) X112 hx (hb hby at_380) rfl rfl ?_
            have f113 := (f111.other W112 ne102)
            refine own_caload (pc' := 382) (v := (.int c5)) X112 hx hZ e112 f113 (hb hby at_381) rfl (by decide) rfl ?_
            refine own_castore (pc' := 383) X112 hx hZ e112 V112 (hb hby at_382) rfl (by decide) 5 rfl (by simp) N112 ge101 ?_
            intro T114 h114 L114 X114 e114 N114 W114 V114
            rw [show nar .char c5 = c5 from own_narcs rc5] at V114
            replace V114 : Arv Z h114 a100 k100 .char (11 : Int32) [(.int c0), (.int c1), (.int c2), (.int c3), (.int c4), (.int c5), (.int (0 : Int32)), (.int (0 : Int32)), (.int (0 : Int32)), (.int (0 : Int32)), (.int (0 : Int32))] (.int (0 : Int32)) := V114
            show own_Ends prg e below s _ _ _ T114 (mkF m 383 #[.val (.int p0), .val (.int p1), .val (.int p2), .val (.int p3), .val (.int p4), .val (.int p5), .val (.int y31), .val (.int mo), .val (.int dy), .val (.ref a36), .val (.int ((own_ushr p3 (3 : Int32)) &&& (3 : Int32))), .unset, .unset, .val (.ref a100)] [])
            refine own_aload (pc' := 385) X114 hx (hb hby at_383) rfl rfl rfl ?_
            refine own_bipush (pc' := 387) (z := (6 : Int32)) X114 hx (hb hby at_385) rfl rfl ?_
            refine own_aload (pc' := 389) X114 hx (hb hby at_387) rfl rfl rfl ?_
            refine own_bipush (pc' := 391) (z := (6 : Int32)) X114 hx (hb hby at_389) rfl rfl ?_
            have f115 := (f113.other W114 ne102)
            refine own_caload (pc' := 392) (v := (.int c6)) X114 hx hZ e114 f115 (hb hby at_391) rfl (by decide) rfl ?_
            refine own_castore (pc' := 393) X114 hx hZ e114 V114 (hb hby at_392) rfl (by decide) 6 rfl (by simp) N114 ge101 ?_
            intro T116 h116 L116 X116 e116 N116 W116 V116
            rw [show nar .char c6 = c6 from own_narcs rc6] at V116
            replace V116 : Arv Z h116 a100 k100 .char (11 : Int32) [(.int c0), (.int c1), (.int c2), (.int c3), (.int c4), (.int c5), (.int c6), (.int (0 : Int32)), (.int (0 : Int32)), (.int (0 : Int32)), (.int (0 : Int32))] (.int (0 : Int32)) := V116
            show own_Ends prg e below s _ _ _ T116 (mkF m 393 #[.val (.int p0), .val (.int p1), .val (.int p2), .val (.int p3), .val (.int p4), .val (.int p5), .val (.int y31), .val (.int mo), .val (.int dy), .val (.ref a36), .val (.int ((own_ushr p3 (3 : Int32)) &&& (3 : Int32))), .unset, .unset, .val (.ref a100)] [])
            refine own_aload (pc' := 395) X116 hx (hb hby at_393) rfl rfl rfl ?_
            refine own_bipush (pc' := 397) (z := (7 : Int32)) X116 hx (hb hby at_395) rfl rfl ?_
            refine own_aload (pc' := 399) X116 hx (hb hby at_397) rfl rfl rfl ?_
            refine own_bipush (pc' := 401) (z := (7 : Int32)) X116 hx (hb hby at_399) rfl rfl ?_
            have f117 := (f115.other W116 ne102)
            refine own_caload (pc' := 402) (v := (.int c7)) X116 hx hZ e116 f117 (hb hby at_401) rfl (by decide) rfl ?_
            refine own_castore (pc' := 403) X116 hx hZ e116 V116 (hb hby at_402) rfl (by decide) 7 rfl (by simp) N116 ge101 ?_
            intro T118 h118 L118 X118 e118 N118 W118 V118
            rw [show nar .char c7 = c7 from own_narcs rc7] at V118
            replace V118 : Arv Z h118 a100 k100 .char (11 : Int32) [(.int c0), (.int c1), (.int c2), (.int c3), (.int c4), (.int c5), (.int c6), (.int c7), (.int (0 : Int32)), (.int (0 : Int32)), (.int (0 : Int32))] (.int (0 : Int32)) := V118
            show own_Ends prg e below s _ _ _ T118 (mkF m 403 #[.val (.int p0), .val (.int p1), .val (.int p2), .val (.int p3), .val (.int p4), .val (.int p5), .val (.int y31), .val (.int mo), .val (.int dy), .val (.ref a36), .val (.int ((own_ushr p3 (3 : Int32)) &&& (3 : Int32))), .unset, .unset, .val (.ref a100)] [])
            refine own_aload (pc' := 405) X118 hx (hb hby at_403) rfl rfl rfl ?_
            refine own_bipush (pc' := 407) (z := (8 : Int32)) X118 hx (hb hby at_405) rfl rfl ?_
            refine own_aload (pc' := 409) X118 hx (hb hby at_407) rfl rfl rfl ?_
            refine own_bipush (pc' := 411) (z := (8 : Int32)) X118 hx (hb hby at_409) rfl rfl ?_
            have f119 := (f117.other W118 ne102)
            refine own_caload (pc' := 412) (v := (.int c8)) X118 hx hZ e118 f119 (hb hby at_411) rfl (by decide) rfl ?_
            refine own_castore (pc' := 413) X118 hx hZ e118 V118 (hb hby at_412) rfl (by decide) 8 rfl (by simp) N118 ge101 ?_
            intro T120 h120 L120 X120 e120 N120 W120 V120
            rw [show nar .char c8 = c8 from own_narcs rc8] at V120
            replace V120 : Arv Z h120 a100 k100 .char (11 : Int32) [(.int c0), (.int c1), (.int c2), (.int c3), (.int c4), (.int c5), (.int c6), (.int c7), (.int c8), (.int (0 : Int32)), (.int (0 : Int32))] (.int (0 : Int32)) := V120
            show own_Ends prg e below s _ _ _ T120 (mkF m 413 #[.val (.int p0), .val (.int p1), .val (.int p2), .val (.int p3), .val (.int p4), .val (.int p5), .val (.int y31), .val (.int mo), .val (.int dy), .val (.ref a36), .val (.int ((own_ushr p3 (3 : Int32)) &&& (3 : Int32))), .unset, .unset, .val (.ref a100)] [])
            refine own_aload (pc' := 415) X120 hx (hb hby at_413) rfl rfl rfl ?_
            refine own_bipush (pc' := 417) (z := (9 : Int32)) X120 hx (hb hby at_415) rfl rfl ?_
            refine own_aload (pc' := 419) X120 hx (hb hby at_417) rfl rfl rfl ?_
            refine own_bipush (pc' := 421) (z := (9 : Int32)) X120 hx (hb hby at_419) rfl rfl ?_
            have f121 := (f119.other W120 ne102)
            refine own_caload (pc' := 422) (v := (.int c9)) X120 hx hZ e120 f121 (hb hby at_421) rfl (by decide) rfl ?_
            refine own_castore (pc' := 423) X120 hx hZ e120 V120 (hb hby at_422) rfl (by decide) 9 rfl (by simp) N120 ge101 ?_
            intro T122 h122 L122 X122 e122 N122 W122 V122
            rw [show nar .char c9 = c9 from own_narcs rc9] at V122
            replace V122 : Arv Z h122 a100 k100 .char (11 : Int32) [(.int c0), (.int c1), (.int c2), (.int c3), (.int c4), (.int c5), (.int c6), (.int c7), (.int c8), (.int c9), (.int (0 : Int32))] (.int (0 : Int32)) := V122
            show own_Ends prg e below s _ _ _ T122 (mkF m 423 #[.val (.int p0), .val (.int p1), .val (.int p2), .val (.int p3), .val (.int p4), .val (.int p5), .val (.int y31), .val (.int mo), .val (.int dy), .val (.ref a36), .val (.int ((own_ushr p3 (3 : Int32)) &&& (3 : Int32))), .unset, .unset, .val (.ref a100)] [])
            refine own_aload (pc' := 425) X122 hx (hb hby at_423) rfl rfl rfl ?_
            refine own_bipush (pc' := 427) (z := (10 : Int32)) X122 hx (hb hby at_425) rfl rfl ?_
            refine own_bipush (pc' := 429) (z := (48 : Int32)) X122 hx (hb hby at_427) rfl rfl ?_
            refine own_iload (pc' := 431) X122 hx (hb hby at_429) rfl rfl ?_
            refine own_bipush (pc' := 433) (z := (12 : Int32)) X122 hx (hb hby at_431) rfl rfl ?_
            refine own_iushr (pc' := 434) (z := (own_ushr p5 (12 : Int32))) X122 hx (hb hby at_433) rfl rfl ?_
            refine own_bipush (pc' := 436) (z := (7 : Int32)) X122 hx (hb hby at_434) rfl rfl ?_
            refine own_iand (pc' := 437) (z := ((own_ushr p5 (12 : Int32)) &&& (7 : Int32))) X122 hx (hb hby at_436) rfl rfl ?_
            refine own_iadd (pc' := 438) (z := ((48 : Int32) + ((own_ushr p5 (12 : Int32)) &&& (7 : Int32)))) X122 hx (hb hby at_437) rfl rfl ?_
            obtain ⟨c123, hc123⟩ : ∃ z, ((48 : Int32) + ((own_ushr p5 (12 : Int32)) &&& (7 : Int32))).toUInt32.toUInt16.toUInt32.toInt32 = z := ⟨_, rfl⟩
            refine own_i2c (pc' := 439) (z := c123) X122 hx (hb hby at_438) rfl hc123 ?_
            have rc123 : own_R c123 := by rw [← hc123]; exact own_c48 own_m7
            refine own_castore (pc' := 440) X122 hx hZ e122 V122 (hb hby at_439) rfl (by decide) 10 rfl (by simp) N122 ge101 ?_
            intro T124 h124 L124 X124 e124 N124 W124 V124
            rw [show nar .char c123 = c123 from own_narcs rc123] at V124
            replace V124 : Arv Z h124 a100 k100 .char (11 : Int32) [(.int c0), (.int c1), (.int c2), (.int c3), (.int c4), (.int c5), (.int c6), (.int c7), (.int c8), (.int c9), (.int c123)] (.int (0 : Int32)) := V124
            show own_Ends prg e below s _ _ _ T124 (mkF m 440 #[.val (.int p0), .val (.int p1), .val (.int p2), .val (.int p3), .val (.int p4), .val (.int p5), .val (.int y31), .val (.int mo), .val (.int dy), .val (.ref a36), .val (.int ((own_ushr p3 (3 : Int32)) &&& (3 : Int32))), .unset, .unset, .val (.ref a100)] [])
            obtain ⟨T125, h125, X125, e125, E125, A125, D125, -, st125⟩ := newO X124 hx hZ hown (own_w2 hw) (own_w3 hw) (own_w4 hw) e124 (g := (mkF m 440 #[.val (.int p0), .val (.int p1), .val (.int p2), .val (.int p3), .val (.int p4), .val (.int p5), .val (.int y31), .val (.int mo), .val (.int dy), .val (.ref a36), .val (.int ((own_ushr p3 (3 : Int32)) &&& (3 : Int32))), .unset, .unset, .val (.ref a100)] [])) rfl (hb hby at_440) (by decide) (by decide)
            refine own_go st125 ?_
            obtain ⟨a125, g125⟩ : ∃ z, z = h124.size := ⟨_, rfl⟩
            rw [← g125] at A125 D125
            have f126 := (Nat.le_trans (Nat.le_trans (Nat.le_trans (Nat.le_trans (Nat.le_trans (Nat.le_trans (Nat.le_trans (Nat.le_trans (Nat.le_trans (Nat.le_trans (Nat.le_trans (Nat.le_trans ZL E100.1) (Keep.of_wr W104).1) (Keep.of_wr W106).1) (Keep.of_wr W108).1) (Keep.of_wr W110).1) (Keep.of_wr W112).1) (Keep.of_wr W114).1) (Keep.of_wr W116).1) (Keep.of_wr W118).1) (Keep.of_wr W120).1) (Keep.of_wr W122).1) (Keep.of_wr W124).1)
            have ge127 : n0 ≤ a125 := by rw [g125]; exact f126
            have f128 := ((f121.other W122 ne102).other W124 ne102)
            have ne129 : a36 ≠ a125 := Nat.ne_of_lt (by rw [g125]; exact f128.lt)
            have ne130 : a100 ≠ a125 := Nat.ne_of_lt (by rw [g125]; exact V124.lt)
            have F131 : Fld Z h125 a125 "java/lang/String" "coder" "B" (.int (0 : Int32)) := D125 (Or.inr (own_w28 hw)) (ty := .byte) (by decide)
            have F132 : Fld Z h125 a125 "java/lang/String" "value" "[B" .null := D125 (Or.inr (own_w30 hw)) (ty := (.array .byte)) (by decide)
            show own_Ends prg e below s _ _ _ T125 (mkF m 443 #[.val (.int p0), .val (.int p1), .val (.int p2), .val (.int p3), .val (.int p4), .val (.int p5), .val (.int y31), .val (.int mo), .val (.int dy), .val (.ref a36), .val (.int ((own_ushr p3 (3 : Int32)) &&& (3 : Int32))), .unset, .unset, .val (.ref a100)] [(.ref h124.size)])
            rw [← g125]
            refine own_dup (pc' := 444) X125 hx (hb hby at_443) rfl rfl ?_
            refine own_aload (pc' := 446) X125 hx (hb hby at_444) rfl rfl rfl ?_
            have f133 := (V124.ext E125)
            have f134 := (((((((((((((SL0.ext E100).wr W104).wr W106).wr W108).wr W110).wr W112).wr W114).wr W116).wr W118).wr W120).wr W122).wr W124).ext E125)
            have f135 := (Nat.le_trans f126 E125.1)
            refine own_callC (pc' := 449) (y := (⟨"java/lang/String", "<init>", "([C)V"⟩ : MethodName)) (W := 1) (rm := own_room1_11) (argsL := [(.ref a100)]) (rest := [(.ref a125)]) (b := a125) X125 hx hZ e125 hown (by rw [hml]; rfl) rfl rfl (own_w5 hw) (own_w6 hw) (own_w4 hw) (own_w7 hw) (by decide) (own_rm1_11 lch Z a0 hw [] a125 a100 k100 c0 c1 c2 c3 c4 c5 c6 c7 c8 c9 c123 _ _ i h125 n0 f135 A125 F132 F131 ge127 f133 (Ne.symm ne130) f134 hi rc0 rc1 rc2 rc3 rc4 rc5 rc6 rc7 rc8 rc9 rc123) (by decide) (by decide) (by decide) (by decide) (lenOf own_pd16 rfl) rfl (by exact Nat.le_of_eq rfl) (hb hby at_446) rfl ?_
            intro T136 Lc136 v136 X136 hQ136
            obtain ⟨vb136, vk136, rfl, Nq136, Kq136, G136_0, G136_1, G136_2, G136_3⟩ := hQ136
            have N136 := Fr.app N124 Nq136
            have ge137 : n0 ≤ vb136 := Nat.le_trans f135 G136_0
            have f138 := (f128.ext E125)
            have ne139 : a36 ≠ vb136 := Nat.ne_of_lt (Nat.lt_of_lt_of_le f138.lt G136_0)
            have ne140 : a100 ≠ vb136 := Nat.ne_of_lt (Nat.lt_of_lt_of_le f133.lt G136_0)
            have ne141 : a125 ≠ vb136 := Nat.ne_of_lt (Nat.lt_of_lt_of_le A125.lt G136_0)
            show own_Ends prg e below s _ _ _ T136 (mkF m 449 #[.val (.int p0), .val (.int p1), .val (.int p2), .val (.int p3), .val (.int p4), .val (.int p5), .val (.int y31), .val (.int mo), .val (.int dy), .val (.ref a36), .val (.int ((own_ushr p3 (3 : Int32)) &&& (3 : Int32))), .unset, .unset, .val (.ref a100)] [(.ref a125)])
            refine own_astore (pc' := 451) (l' := #[.val (.int p0), .val (.int p1), .val (.int p2), .val (.int p3), .val (.int p4), .val (.int p5), .val (.int y31), .val (.int mo), .val (.int dy), .val (.ref a36), .val (.int ((own_ushr p3 (3 : Int32)) &&& (3 : Int32))), .val (.ref a125), .unset, .val (.ref a100)]) X136 hx (hb hby at_449) rfl rfl rfl ?_
            refine own_iconst (pc' := 452) (z := (0 : Int32)) X136 hx (hb hby at_451) rfl rfl ?_
            refine own_istore (pc' := 454) (l' := #[.val (.int p0), .val (.int p1), .val (.int p2), .val (.int p3), .val (.int p4), .val (.int p5), .val (.int y31), .val (.int mo), .val (.int dy), .val (.ref a36), .val (.int ((own_ushr p3 (3 : Int32)) &&& (3 : Int32))), .val (.ref a125), .val (.int (0 : Int32)), .val (.ref a100)]) X136 hx (hb hby at_452) rfl rfl ?_
            refine own_goto (pc' := 471) X136 hx (hb hby at_454) (by decide) (by decide) ?_
            refine own_iload (pc' := 473) X136 hx (hb hby at_471) rfl rfl ?_
            refine own_ifYes (pc' := 488) X136 hx (hb hby at_473) (teq (by decide)).1 (by decide) (by decide) ?_
            refine own_iconst (pc' := 489) (z := (0 : Int32)) X136 hx (hb hby at_488) rfl rfl ?_
            refine own_istore (pc' := 491) (l' := #[.val (.int p0), .val (.int p1), .val (.int p2), .val (.int p3), .val (.int p4), .val (.int p5), .val (.int y31), .val (.int mo), .val (.int dy), .val (.ref a36), .val (.int ((own_ushr p3 (3 : Int32)) &&& (3 : Int32))), .val (.ref a125), .val (.int (0 : Int32)), .val (.int (0 : Int32))]) X136 hx (hb hby at_489) rfl rfl ?_
            refine own_aload (pc' := 493) X136 hx (hb hby at_491) rfl rfl rfl ?_
            have f142 := (own_stak f134 Kq136 (allS (own_exac A125) all0))
            have f143 := (A125.keep Kq136)
            refine own_callS (pc' := 496) (y := (⟨"com/example/exacting_validator/exactingvalidator/validator/Rfc3339", "isFullDate", "(Ljava/lang/String;)Z"⟩ : MethodName)) (W := 0) (rm := own_room11_11) (argsL := [(.ref a125)]) (rest := []) X136 hx hZ rfl hown (by rw [hml]; rfl) (own_w44 hw) (own_w45 hw) (own_w46 hw) (own_w47 hw) (by decide) (own_rm11_11 lch Z a0 hw [] a125 i vb136 vk136 _ T136.heap n0 G136_2 f142 hi f143 G136_1 G136_3) (by decide) (by decide) (by decide) (by decide) (lenOf own_pd17 rfl) rfl (by exact Nat.le_of_eq rfl) (hb hby at_493) rfl ?_
            intro T144 Lc144 v144 X144 hQ144
            obtain ⟨rfl, Nq144, Kq144⟩ := hQ144
            have N144 := Fr.app N136 Nq144
            show own_Ends prg e below s _ _ _ T144 (mkF m 496 #[.val (.int p0), .val (.int p1), .val (.int p2), .val (.int p3), .val (.int p4), .val (.int p5), .val (.int y31), .val (.int mo), .val (.int dy), .val (.ref a36), .val (.int ((own_ushr p3 (3 : Int32)) &&& (3 : Int32))), .val (.ref a125), .val (.int (0 : Int32)), .val (.int (0 : Int32))] [(.int (0 : Int32))])
            refine own_iload (pc' := 498) X144 hx (hb hby at_496) rfl rfl ?_
            refine own_icmpNo (pc' := 501) X144 hx (hb hby at_498) rfl (teq (by decide)).2 ?_
            refine own_iconst (pc' := 502) (z := (1 : Int32)) X144 hx (hb hby at_501) rfl rfl ?_
            refine own_goto (pc' := 506) X144 hx (hb hby at_502) (by decide) (by decide) ?_
            refine own_retN X144 hx hlk hret (by simp) (hb hby at_506) (by decide) (by decide) ?_
            exact ⟨rfl, N144⟩
          · refine own_icmpYes (pc' := 457) XL hx (hb hby at_326) (feq hc326_99).2 (by decide) (by decide) ?_
            obtain ⟨T145, h145, X145, e145, E145, A145, D145, -, st145⟩ := newO XL hx hZ hown (own_w2 hw) (own_w3 hw) (own_w4 hw) eL (g := (mkF m 457 #[.val (.int p0), .val (.int p1), .val (.int p2), .val (.int p3), .val (.int p4), .val (.int p5), .val (.int y31), .val (.int mo), .val (.int dy), .val (.ref a36), .val (.int ((own_ushr p3 (3 : Int32)) &&& (3 : Int32))), .unset, .unset, .unset] [])) rfl (hb hby at_457) (by decide) (by decide)
            refine own_go st145 ?_
            obtain ⟨a145, g145⟩ : ∃ z, z = hL.size := ⟨_, rfl⟩
            rw [← g145] at A145 D145
            have ge146 : n0 ≤ a145 := by rw [g145]; exact ZL
            have ne147 : a36 ≠ a145 := Nat.ne_of_lt (by rw [g145]; exact VL.lt)
            have F148 : Fld Z h145 a145 "java/lang/String" "coder" "B" (.int (0 : Int32)) := D145 (Or.inr (own_w28 hw)) (ty := .byte) (by decide)
            have F149 : Fld Z h145 a145 "java/lang/String" "value" "[B" .null := D145 (Or.inr (own_w30 hw)) (ty := (.array .byte)) (by decide)
            show own_Ends prg e below s _ _ _ T145 (mkF m 460 #[.val (.int p0), .val (.int p1), .val (.int p2), .val (.int p3), .val (.int p4), .val (.int p5), .val (.int y31), .val (.int mo), .val (.int dy), .val (.ref a36), .val (.int ((own_ushr p3 (3 : Int32)) &&& (3 : Int32))), .unset, .unset, .unset] [(.ref hL.size)])
            rw [← g145]
            refine own_dup (pc' := 461) X145 hx (hb hby at_460) rfl rfl ?_
            refine own_aload (pc' := 463) X145 hx (hb hby at_461) rfl rfl rfl ?_
            have f150 := (VL.ext E145)
            have f151 := (SL0.ext E145)
            have f152 := (Nat.le_trans ZL E145.1)
            refine own_callC (pc' := 466) (y := (⟨"java/lang/String", "<init>", "([C)V"⟩ : MethodName)) (W := 1) (rm := own_room1_10) (argsL := [(.ref a36)]) (rest := [(.ref a145)]) (b := a145) X145 hx hZ e145 hown (by rw [hml]; rfl) rfl rfl (own_w5 hw) (own_w6 hw) (own_w4 hw) (own_w7 hw) (by decide) (own_rm1_10 lch Z a0 hw [] a145 a36 k36 c0 c1 c2 c3 c4 c5 c6 c7 c8 c9 _ _ i h145 n0 f152 A145 F149 F148 ge146 f150 (Ne.symm ne147) f151 hi rc0 rc1 rc2 rc3 rc4 rc5 rc6 rc7 rc8 rc9) (by decide) (by decide) (by decide) (by decide) (lenOf own_pd16 rfl) rfl (by exact Nat.le_of_eq rfl) (hb hby at_463) rfl ?_
            intro T153 Lc153 v153 X153 hQ153
            obtain ⟨vb153, vk153, rfl, Nq153, Kq153, G153_0, G153_1, G153_2, G153_3⟩ := hQ153
            have N153 := Fr.app NL Nq153
            have ge154 : n0 ≤ vb153 := Nat.le_trans f152 G153_0
            have ne155 : a36 ≠ vb153 := Nat.ne_of_lt (Nat.lt_of_lt_of_le f150.lt G153_0)
            have ne156 : a145 ≠ vb153 := Nat.ne_of_lt (Nat.lt_of_lt_of_le A145.lt G153_0)
            show own_Ends prg e below s _ _ _ T153 (mkF m 466 #[.val (.int p0), .val (.int p1), .val (.int p2), .val (.int p3), .val (.int p4), .val (.int p5), .val (.int y31), .val (.int mo), .val (.int dy), .val (.ref a36), .val (.int ((own_ushr p3 (3 : Int32)) &&& (3 : Int32))), .unset, .unset, .unset] [(.ref a145)])
            refine own_astore (pc' := 468) (l' := #[.val (.int p0), .val (.int p1), .val (.int p2), .val (.int p3), .val (.int p4), .val (.int p5), .val (.int y31), .val (.int mo), .val (.int dy), .val (.ref a36), .val (.int ((own_ushr p3 (3 : Int32)) &&& (3 : Int32))), .val (.ref a145), .unset, .unset]) X153 hx (hb hby at_466) rfl rfl rfl ?_
            refine own_iconst (pc' := 469) (z := (1 : Int32)) X153 hx (hb hby at_468) rfl rfl ?_
            refine own_istore (pc' := 471) (l' := #[.val (.int p0), .val (.int p1), .val (.int p2), .val (.int p3), .val (.int p4), .val (.int p5), .val (.int y31), .val (.int mo), .val (.int dy), .val (.ref a36), .val (.int ((own_ushr p3 (3 : Int32)) &&& (3 : Int32))), .val (.ref a145), .val (.int (1 : Int32)), .unset]) X153 hx (hb hby at_469) rfl rfl ?_
            refine own_iload (pc' := 473) X153 hx (hb hby at_471) rfl rfl ?_
            refine own_ifNo (pc' := 476) X153 hx (hb hby at_473) rfl (feq (by decide)).1 ?_
            refine own_aload (pc' := 478) X153 hx (hb hby at_476) rfl rfl rfl ?_
            have f157 := (f150.keep Kq153 (ninS ne147 nin0))
            refine own_callS (pc' := 481) (y := (⟨"com/example/exacting_validator/exactingvalidator/validator/Rfc3339IsFullDatePinLaw", "wellFormed", "([C)Z"⟩ : MethodName)) (W := 0) (rm := own_room7) (argsL := [(.ref a36)]) (rest := []) X153 hx hZ rfl hown (by rw [hml]; rfl) (own_w31 hw) (own_w32 hw) (own_w33 hw) (own_w34 hw) (by decide) (own_rm7 lch Z a0 hw [] a36 k36 c0 c1 c2 c3 c4 c5 c6 c7 c8 c9 T153.heap n0 f157) (by decide) (by decide) (by decide) (by decide) (lenOf own_pd18 rfl) rfl (by exact Nat.le_of_eq rfl) (hb hby at_478) rfl ?_
            intro T158 Lc158 v158 X158 hQ158
            obtain ⟨r158, rfl, Nq158, Kq158, G158_0, G158_1⟩ := hQ158
            have N158 := Fr.app N153 Nq158
            show own_Ends prg e below s _ _ _ T158 (mkF m 481 #[.val (.int p0), .val (.int p1), .val (.int p2), .val (.int p3), .val (.int p4), .val (.int p5), .val (.int y31), .val (.int mo), .val (.int dy), .val (.ref a36), .val (.int ((own_ushr p3 (3 : Int32)) &&& (3 : Int32))), .val (.ref a145), .val (.int (1 : Int32)), .unset] [(.int r158)])
            by_cases hc481_159 : r158 = (0 : Int32)
            · refine own_ifYes (pc' := 488) X158 hx (hb hby at_481) (teq hc481_159).1 (by decide) (by decide) ?_
              refine own_iconst (pc' := 489) (z := (0 : Int32)) X158 hx (hb hby at_488) rfl rfl ?_
              refine own_istore (pc' := 491) (l' := #[.val (.int p0), .val (.int p1), .val (.int p2), .val (.int p3), .val (.int p4), .val (.int p5), .val (.int y31), .val (.int mo), .val (.int dy), .val (.ref a36), .val (.int ((own_ushr p3 (3 : Int32)) &&& (3 : Int32))), .val (.ref a145), .val (.int (1 : Int32)), .val (.int (0 : Int32))]) X158 hx (hb hby at_489) rfl rfl ?_
              refine own_aload (pc' := 493) X158 hx (hb hby at_491) rfl rfl rfl ?_
              have f160 := (own_stak f151 Kq153 (allS (own_exac A145) all0))
              have f161 := (A145.keep Kq153)
              have f162 := (own_stak (SL1.ext E145) Kq153 (allS (own_exac A145) all0))
              refine own_callS (pc' := 496) (y := (⟨"com/example/exacting_validator/exactingvalidator/validator/Rfc3339", "isFullDate", "(Ljava/lang/String;)Z"⟩ : MethodName)) (W := 0) (rm := own_room11_10) (argsL := [(.ref a145)]) (rest := []) X158 hx hZ Kq158 hown (by rw [hml]; rfl) (own_w44 hw) (own_w45 hw) (own_w46 hw) (own_w47 hw) (by decide) (own_rm11_10 lch Z a0 hw [] a145 i vb153 vk153 wf c0 c1 c2 c3 c4 c5 c6 c7 c8 c9 T153.heap n0 G153_2 f160 hi f161 G153_1 G153_3 f162 hwf rc0 rc1 rc2 rc3 rc4 rc5 rc6 rc7 rc8 rc9) (by decide) (by decide) (by decide) (by decide) (lenOf own_pd17 rfl) rfl (by exact Nat.le_of_eq rfl) (hb hby at_493) rfl ?_
              intro T163 Lc163 v163 X163 hQ163
              obtain ⟨r163, rfl, Nq163, Kq163, G163_0, G163_1⟩ := hQ163
              have N163 := Fr.app N158 Nq163
              show own_Ends prg e below s _ _ _ T163 (mkF m 496 #[.val (.int p0), .val (.int p1), .val (.int p2), .val (.int p3), .val (.int p4), .val (.int p5), .val (.int y31), .val (.int mo), .val (.int dy), .val (.ref a36), .val (.int ((own_ushr p3 (3 : Int32)) &&& (3 : Int32))), .val (.ref a145), .val (.int (1 : Int32)), .val (.int (0 : Int32))] [(.int r163)])
              refine own_iload (pc' := 498) X163 hx (hb hby at_496) rfl rfl ?_
              refine own_icmpNo (pc' := 501) X163 hx (hb hby at_498) rfl (teq (G163_0.resolve_right fun q => absurd (G158_1.mpr (G163_1.mp q)) (by rw [hc481_159]; decide))).2 ?_
              refine own_iconst (pc' := 502) (z := (1 : Int32)) X163 hx (hb hby at_501) rfl rfl ?_
              refine own_goto (pc' := 506) X163 hx (hb hby at_502) (by decide) (by decide) ?_
              refine own_retN X163 hx hlk hret (by simp) (hb hby at_506) (by decide) (by decide) ?_
              exact ⟨rfl, N163⟩
            · refine own_ifNo (pc' := 484) X158 hx (hb hby at_481) rfl (feq hc481_159).1 ?_
              refine own_iconst (pc' := 485) (z := (1 : Int32)) X158 hx (hb hby at_484) rfl rfl ?_
              refine own_goto (pc' := 489) X158 hx (hb hby at_485) (by decide) (by decide) ?_
              refine own_istore (pc' := 491) (l' := #[.val (.int p0), .val (.int p1), .val (.int p2), .val (.int p3), .val (.int p4), .val (.int p5), .val (.int y31), .val (.int mo), .val (.int dy), .val (.ref a36), .val (.int ((own_ushr p3 (3 : Int32)) &&& (3 : Int32))), .val (.ref a145), .val (.int (1 : Int32)), .val (.int (1 : Int32))]) X158 hx (hb hby at_489) rfl rfl ?_
              refine own_aload (pc' := 493) X158 hx (hb hby at_491) rfl rfl rfl ?_
              have f164 := (own_stak f151 Kq153 (allS (own_exac A145) all0))
              have f165 := (A145.keep Kq153)
              have f166 := (own_stak (SL1.ext E145) Kq153 (allS (own_exac A145) all0))
              refine own_callS (pc' := 496) (y := (⟨"com/example/exacting_validator/exactingvalidator/validator/Rfc3339", "isFullDate", "(Ljava/lang/String;)Z"⟩ : MethodName)) (W := 0) (rm := own_room11_10) (argsL := [(.ref a145)]) (rest := []) X158 hx hZ Kq158 hown (by rw [hml]; rfl) (own_w44 hw) (own_w45 hw) (own_w46 hw) (own_w47 hw) (by decide) (own_rm11_10 lch Z a0 hw [] a145 i vb153 vk153 wf c0 c1 c2 c3 c4 c5 c6 c7 c8 c9 T153.heap n0 G153_2 f164 hi f165 G153_1 G153_3 f166 hwf rc0 rc1 rc2 rc3 rc4 rc5 rc6 rc7 rc8 rc9) (by decide) (by decide) (by decide) (by decide) (lenOf own_pd17 rfl) rfl (by exact Nat.le_of_eq rfl) (hb hby at_493) rfl ?_
              intro T167 Lc167 v167 X167 hQ167
              obtain ⟨r167, rfl, Nq167, Kq167, G167_0, G167_1⟩ := hQ167
              have N167 := Fr.app N158 Nq167
              show own_Ends prg e below s _ _ _ T167 (mkF m 496 #[.val (.int p0), .val (.int p1), .val (.int p2), .val (.int p3), .val (.int p4), .val (.int p5), .val (.int y31), .val (.int mo), .val (.int dy), .val (.ref a36), .val (.int ((own_ushr p3 (3 : Int32)) &&& (3 : Int32))), .val (.ref a145), .val (.int (1 : Int32)), .val (.int (1 : Int32))] [(.int r167)])
              refine own_iload (pc' := 498) X167 hx (hb hby at_496) rfl rfl ?_
              refine own_icmpNo (pc' := 501) X167 hx (hb hby at_498) rfl (teq (G167_1.mpr (G158_1.mp (G158_0.resolve_left hc481_159)))).2 ?_
              refine own_iconst (pc' := 502) (z := (1 : Int32)) X167 hx (hb hby at_501) rfl rfl ?_
              refine own_goto (pc' := 506) X167 hx (hb hby at_502) (by decide) (by decide) ?_
              refine own_retN X167 hx hlk hret (by simp) (hb hby at_506) (by decide) (by decide) ?_
              exact ⟨rfl, N167⟩
      refine own_iloadN (pc' := 188) X55 hx (hb hby at_187) rfl rfl ?_
      refine own_iconst (pc' := 189) (z := (4 : Int32)) X55 hx (hb hby at_188) rfl rfl ?_
      refine own_iand (pc' := 190) (z := (p3 &&& (4 : Int32))) X55 hx (hb hby at_189) rfl rfl ?_
      by_cases hc190_168 : (p3 &&& (4 : Int32)) = (0 : Int32)
      · refine own_ifYes (pc' := 209) X55 hx (hb hby at_190) (teq hc190_168).1 (by decide) (by decide) ?_
        have f169 := (Nat.le_trans (Nat.le_trans (Nat.le_trans (Nat.le_trans (Nat.le_trans (Nat.le_trans (Nat.le_trans (Nat.le_trans (Nat.le_trans (Nat.le_trans (Nat.le_trans Z0 E36.1) (Keep.of_wr W39).1) (Keep.of_wr W41).1) (Keep.of_wr W43).1) (Keep.of_wr W45).1) (Keep.of_wr W46).1) (Keep.of_wr W48).1) (Keep.of_wr W50).1) (Keep.of_wr W51).1) (Keep.of_wr W53).1) (Keep.of_wr W55).1)
        have f170 := (((((((((((S0.ext E36).wr W39).wr W41).wr W43).wr W45).wr W46).wr W48).wr W50).wr W51).wr W53).wr W55)
        have f171 := (((((((((((S1.ext E36).wr W39).wr W41).wr W43).wr W45).wr W46).wr W48).wr W50).wr W51).wr W53).wr W55)
        exact K56 c38 c40 c42 c44 (45 : Int32) c47 c49 (45 : Int32) c52 c54 T55 h55 _ X55 e55 N55 f169 V55 f170 f171 rc38 rc40 rc42 rc44 (by unfold own_R; decide) rc47 rc49 (by unfold own_R; decide) rc52 rc54
      · refine own_ifNo (pc' := 193) X55 hx (hb hby at_190) rfl (feq hc190_168).1 ?_
        refine own_aload (pc' := 195) X55 hx (hb hby at_193) rfl rfl rfl ?_
        refine own_iload (pc' := 197) X55 hx (hb hby at_195) rfl rfl ?_
        refine own_ldcI (pc' := 199) X55 hx hZ hown (own_w0 hw) (hb hby at_197) rfl ?_
        refine own_iand (pc' := 200) (z := (p4 &&& (2147483647 : Int32))) X55 hx (hb hby at_199) rfl rfl ?_
        refine own_bipush (pc' := 202) (z := (10 : Int32)) X55 hx (hb hby at_200) rfl rfl ?_
        obtain ⟨z172, hz172⟩ : ∃ z, ((p4 &&& (2147483647 : Int32)) % (10 : Int32)) = z := ⟨_, rfl⟩
        refine own_irem (pc' := 203) (z := z172) X55 hx (hb hby at_202) rfl (by decide) hz172 ?_
        rcases own_i10 hz172 with rfl | rfl | rfl | rfl | rfl | rfl | rfl | rfl | rfl | rfl
        · refine own_iload (pc' := 205) X55 hx (hb hby at_203) rfl rfl ?_
          refine own_callS (pc' := 208) (y := (⟨"com/example/exacting_validator/exactingvalidator/validator/Rfc3339IsFullDatePinLaw", "drawn", "(I)C"⟩ : MethodName)) (W := 2) (rm := own_room22) (argsL := [(.int p5)]) (rest := [(.int (0 : Int32)), (.ref a36)]) X55 hx hZ e55 hown (by rw [hml]; rfl) (own_w89 hw) (own_w90 hw) (own_w33 hw) (own_w91 hw) (by decide) (own_rm22 lch Z a0 hw [] p5 h55 n0) (by decide) (by decide) (by decide) (by decide) (lenOf own_pd10 rfl) rfl (by exact Nat.le_of_eq rfl) (hb hby at_205) rfl ?_
          intro T173 Lc173 v173 X173 hQ173
          obtain ⟨z173, rfl, Nq173, Kq173, G173_0⟩ := hQ173
          have N173 := Fr.app N55 Nq173
          show own_Ends prg e below s _ _ _ T173 (mkF m 208 #[.val (.int p0), .val (.int p1), .val (.int p2), .val (.int p3), .val (.int p4), .val (.int p5), .val (.int y31), .val (.int mo), .val (.int dy), .val (.ref a36), .unset, .unset, .unset, .unset] [(.int z173), (.int (0 : Int32)), (.ref a36)])
          refine own_castore (pc' := 209) X173 hx hZ Kq173 V55 (hb hby at_208) rfl (by decide) 0 rfl (by simp) N173 ge37 ?_
          intro T174 h174 L174 X174 e174 N174 W174 V174
          rw [show nar .char z173 = z173 from own_narcs G173_0] at V174
          replace V174 : Arv Z h174 a36 k36 .char (10 : Int32) [(.int z173), (.int c40), (.int c42), (.int c44), (.int (45 : Int32)), (.int c47), (.int c49), (.int (45 : Int32)), (.int c52), (.int c54)] (.int (0 : Int32)) := V174
          show own_Ends prg e below s _ _ _ T174 (mkF m 209 #[.val (.int p0), .val (.int p1), .val (.int p2), .val (.int p3), .val (.int p4), .val (.int p5), .val (.int y31), .val (.int mo), .val (.int dy), .val (.ref a36), .unset, .unset, .unset, .unset] [])
          have f175 := (Nat.le_trans (Nat.le_trans (Nat.le_trans (Nat.le_trans (Nat.le_trans (Nat.le_trans (Nat.le_trans (Nat.le_trans (Nat.le_trans (Nat.le_trans (Nat.le_trans (Nat.le_trans Z0 E36.1) (Keep.of_wr W39).1) (Keep.of_wr W41).1) (Keep.of_wr W43).1) (Keep.of_wr W45).1) (Keep.of_wr W46).1) (Keep.of_wr W48).1) (Keep.of_wr W50).1) (Keep.of_wr W51).1) (Keep.of_wr W53).1) (Keep.of_wr W55).1) (Keep.of_wr W174).1)
          have f176 := ((((((((((((S0.ext E36).wr W39).wr W41).wr W43).wr W45).wr W46).wr W48).wr W50).wr W51).wr W53).wr W55).wr W174)
          have f177 := ((((((((((((S1.ext E36).wr W39).wr W41).wr W43).wr W45).wr W46).wr W48).wr W50).wr W51).wr W53).wr W55).wr W174)
          exact K56 z173 c40 c42 c44 (45 : Int32) c47 c49 (45 : Int32) c52 c54 T174 h174 _ X174 e174 N174 f175 V174 f176 f177 G173_0 rc40 rc42 rc44 (by unfold own_R; decide) rc47 rc49 (by unfold own_R; decide) rc52 rc54
        · refine own_iload (pc' := 205) X55 hx (hb hby at_203) rfl rfl ?_
          refine own_callS (pc' := 208) (y := (⟨"com/example/exacting_validator/exactingvalidator/validator/Rfc3339IsFullDatePinLaw", "drawn", "(I)C"⟩ : MethodName)) (W := 2) (rm := own_room22) (argsL := [(.int p5)]) (rest := [(.int (1 : Int32)), (.ref a36)]) X55 hx hZ e55 hown (by rw [hml]; rfl) (own_w89 hw) (own_w90 hw) (own_w33 hw) (own_w91 hw) (by decide) (own_rm22 lch Z a0 hw [] p5 h55 n0) (by decide) (by decide) (by decide) (by decide) (lenOf own_pd10 rfl) rfl (by exact Nat.le_of_eq rfl) (hb hby at_205) rfl ?_
          intro T178 Lc178 v178 X178 hQ178
          obtain ⟨z178, rfl, Nq178, Kq178, G178_0⟩ := hQ178
          have N178 := Fr.app N55 Nq178
          show own_Ends prg e below s _ _ _ T178 (mkF m 208 #[.val (.int p0), .val (.int p1), .val (.int p2), .val (.int p3), .val (.int p4), .val (.int p5), .val (.int y31), .val (.int mo), .val (.int dy), .val (.ref a36), .unset, .unset, .unset, .unset] [(.int z178), (.int (1 : Int32)), (.ref a36)])
          refine own_castore (pc' := 209) X178 hx hZ Kq178 V55 (hb hby at_208) rfl (by decide) 1 rfl (by simp) N178 ge37 ?_
          intro T179 h179 L179 X179 e179 N179 W179 V179
          rw [show nar .char z178 = z178 from own_narcs G178_0] at V179
          replace V179 : Arv Z h179 a36 k36 .char (10 : Int32) [(.int c38), (.int z178), (.int c42), (.int c44), (.int (45 : Int32)), (.int c47), (.int c49), (.int (45 : Int32)), (.int c52), (.int c54)] (.int (0 : Int32)) := V179
          show own_Ends prg e below s _ _ _ T179 (mkF m 209 #[.val (.int p0), .val (.int p1), .val (.int p2), .val (.int p3), .val (.int p4), .val (.int p5), .val (.int y31), .val (.int mo), .val (.int dy), .val (.ref a36), .unset, .unset, .unset, .unset] [])
          have f180 := (Nat.le_trans (Nat.le_trans (Nat.le_trans (Nat.le_trans (Nat.le_trans (Nat.le_trans (Nat.le_trans (Nat.le_trans (Nat.le_trans (Nat.le_trans (Nat.le_trans (Nat.le_trans Z0 E36.1) (Keep.of_wr W39).1) (Keep.of_wr W41).1) (Keep.of_wr W43).1) (Keep.of_wr W45).1) (Keep.of_wr W46).1) (Keep.of_wr W48).1) (Keep.of_wr W50).1) (Keep.of_wr W51).1) (Keep.of_wr W53).1) (Keep.of_wr W55).1) (Keep.of_wr W179).1)
          have f181 := ((((((((((((S0.ext E36).wr W39).wr W41).wr W43).wr W45).wr W46).wr W48).wr W50).wr W51).wr W53).wr W55).wr W179)
          have f182 := ((((((((((((S1.ext E36).wr W39).wr W41).wr W43).wr W45).wr W46).wr W48).wr W50).wr W51).wr W53).wr W55).wr W179)
          exact K56 c38 z178 c42 c44 (45 : Int32) c47 c49 (45 : Int32) c52 c54 T179 h179 _ X179 e179 N179 f180 V179 f181 f182 rc38 G178_0 rc42 rc44 (by unfold own_R; decide) rc47 rc49 (by unfold own_R; decide) rc52 rc54
        · refine own_iload (pc' := 205) X55 hx (hb hby at_203) rfl rfl ?_
          refine own_callS (pc' := 208) (y := (⟨"com/example/exacting_validator/exactingvalidator/validator/Rfc3339IsFullDatePinLaw", "drawn", "(I)C"⟩ : MethodName)) (W := 2) (rm := own_room22) (argsL := [(.int p5)]) (rest := [(.int (2 : Int32)), (.ref a36)]) X55 hx hZ e55 hown (by rw [hml]; rfl) (own_w89 hw) (own_w90 hw) (own_w33 hw) (own_w91 hw) (by decide) (own_rm22 lch Z a0 hw [] p5 h55 n0) (by decide) (by decide) (by decide) (by decide) (lenOf own_pd10 rfl) rfl (by exact Nat.le_of_eq rfl) (hb hby at_205) rfl ?_
          intro T183 Lc183 v183 X183 hQ183
          obtain ⟨z183, rfl, Nq183, Kq183, G183_0⟩ := hQ183
          have N183 := Fr.app N55 Nq183
          show own_Ends prg e below s _ _ _ T183 (mkF m 208 #[.val (.int p0), .val (.int p1), .val (.int p2), .val (.int p3), .val (.int p4), .val (.int p5), .val (.int y31), .val (.int mo), .val (.int dy), .val (.ref a36), .unset, .unset, .unset, .unset] [(.int z183), (.int (2 : Int32)), (.ref a36)])
          refine own_castore (pc' := 209) X183 hx hZ Kq183 V55 (hb hby at_208) rfl (by decide) 2 rfl (by simp) N183 ge37 ?_
          intro T184 h184 L184 X184 e184 N184 W184 V184
          rw [show nar .char z183 = z183 from own_narcs G183_0] at V184
          replace V184 : Arv Z h184 a36 k36 .char (10 : Int32) [(.int c38), (.int c40), (.int z183), (.int c44), (.int (45 : Int32)), (.int c47), (.int c49), (.int (45 : Int32)), (.int c52), (.int c54)] (.int (0 : Int32)) := V184
          show own_Ends prg e below s _ _ _ T184 (mkF m 209 #[.val (.int p0), .val (.int p1), .val (.int p2), .val (.int p3), .val (.int p4), .val (.int p5), .val (.int y31), .val (.int mo), .val (.int dy), .val (.ref a36), .unset, .unset, .unset, .unset] [])
          have f185 := (Nat.le_trans (Nat.le_trans (Nat.le_trans (Nat.le_trans (Nat.le_trans (Nat.le_trans (Nat.le_trans (Nat.le_trans (Nat.le_trans (Nat.le_trans (Nat.le_trans (Nat.le_trans Z0 E36.1) (Keep.of_wr W39).1) (Keep.of_wr W41).1) (Keep.of_wr W43).1) (Keep.of_wr W45).1) (Keep.of_wr W46).1) (Keep.of_wr W48).1) (Keep.of_wr W50).1) (Keep.of_wr W51).1) (Keep.of_wr W53).1) (Keep.of_wr W55).1) (Keep.of_wr W184).1)
          have f186 := ((((((((((((S0.ext E36).wr W39).wr W41).wr W43).wr W45).wr W46).wr W48).wr W50).wr W51).wr W53).wr W55).wr W184)
          have f187 := ((((((((((((S1.ext E36).wr W39).wr W41).wr W43).wr W45).wr W46).wr W48).wr W50).wr W51).wr W53).wr W55).wr W184)
          exact K56 c38 c40 z183 c44 (45 : Int32) c47 c49 (45 : Int32) c52 c54 T184 h184 _ X184 e184 N184 f185 V184 f186 f187 rc38 rc40 G183_0 rc44 (by unfold own_R; decide) rc47 rc49 (by unfold own_R; decide) rc52 rc54
        · refine own_iload (pc' := 205) X55 hx (hb hby at_203) rfl rfl ?_
          refine own_callS (pc' := 208) (y := (⟨"com/example/exacting_validator/exactingvalidator/validator/Rfc3339IsFullDatePinLaw", "drawn", "(I)C"⟩ : MethodName)) (W := 2) (rm := own_room22) (argsL := [(.int p5)]) (rest := [(.int (3 : Int32)), (.ref a36)]) X55 hx hZ e55 hown (by rw [hml]; rfl) (own_w89 hw) (own_w90 hw) (own_w33 hw) (own_w91 hw) (by decide) (own_rm22 lch Z a0 hw [] p5 h55 n0) (by decide) (by decide) (by decide) (by decide) (lenOf own_pd10 rfl) rfl (by exact Nat.le_of_eq rfl) (hb hby at_205) rfl ?_
          intro T188 Lc188 v188 X188 hQ188
          obtain ⟨z188, rfl, Nq188, Kq188, G188_0⟩ := hQ188
          have N188 := Fr.app N55 Nq188
          show own_Ends prg e below s _ _ _ T188 (mkF m 208 #[.val (.int p0), .val (.int p1), .val (.int p2), .val (.int p3), .val (.int p4), .val (.int p5), .val (.int y31), .val (.int mo), .val (.int dy), .val (.ref a36), .unset, .unset, .unset, .unset] [(.int z188), (.int (3 : Int32)), (.ref a36)])
          refine own_castore (pc' := 209) X188 hx hZ Kq188 V55 (hb hby at_208) rfl (by decide) 3 rfl (by simp) N188 ge37 ?_
          intro T189 h189 L189 X189 e189 N189 W189 V189
          rw [show nar .char z188 = z188 from own_narcs G188_0] at V189
          replace V189 : Arv Z h189 a36 k36 .char (10 : Int32) [(.int c38), (.int c40), (.int c42), (.int z188), (.int (45 : Int32)), (.int c47), (.int c49), (.int (45 : Int32)), (.int c52), (.int c54)] (.int (0 : Int32)) := V189
          show own_Ends prg e below s _ _ _ T189 (mkF m 209 #[.val (.int p0), .val (.int p1), .val (.int p2), .val (.int p3), .val (.int p4), .val (.int p5), .val (.int y31), .val (.int mo), .val (.int dy), .val (.ref a36), .unset, .unset, .unset, .unset] [])
          have f190 := (Nat.le_trans (Nat.le_trans (Nat.le_trans (Nat.le_trans (Nat.le_trans (Nat.le_trans (Nat.le_trans (Nat.le_trans (Nat.le_trans (Nat.le_trans (Nat.le_trans (Nat.le_trans Z0 E36.1) (Keep.of_wr W39).1) (Keep.of_wr W41).1) (Keep.of_wr W43).1) (Keep.of_wr W45).1) (Keep.of_wr W46).1) (Keep.of_wr W48).1) (Keep.of_wr W50).1) (Keep.of_wr W51).1) (Keep.of_wr W53).1) (Keep.of_wr W55).1) (Keep.of_wr W189).1)
          have f191 := ((((((((((((S0.ext E36).wr W39).wr W41).wr W43).wr W45).wr W46).wr W48).wr W50).wr W51).wr W53).wr W55).wr W189)
          have f192 := ((((((((((((S1.ext E36).wr W39).wr W41).wr W43).wr W45).wr W46).wr W48).wr W50).wr W51).wr W53).wr W55).wr W189)
          exact K56 c38 c40 c42 z188 (45 : Int32) c47 c49 (45 : Int32) c52 c54 T189 h189 _ X189 e189 N189 f190 V189 f191 f192 rc38 rc40 rc42 G188_0 (by unfold own_R; decide) rc47 rc49 (by unfold own_R; decide) rc52 rc54
        · refine own_iload (pc' := 205) X55 hx (hb hby at_203) rfl rfl ?_
          refine own_callS (pc' := 208) (y := (⟨"com/example/exacting_validator/exactingvalidator/validator/Rfc3339IsFullDatePinLaw", "drawn", "(I)C"⟩ : MethodName)) (W := 2) (rm := own_room22) (argsL := [(.int p5)]) (rest := [(.int (4 : Int32)), (.ref a36)]) X55 hx hZ e55 hown (by rw [hml]; rfl) (own_w89 hw) (own_w90 hw) (own_w33 hw) (own_w91 hw) (by decide) (own_rm22 lch Z a0 hw [] p5 h55 n0) (by decide) (by decide) (by decide) (by decide) (lenOf own_pd10 rfl) rfl (by exact Nat.le_of_eq rfl) (hb hby at_205) rfl ?_
          intro T193 Lc193 v193 X193 hQ193
          obtain ⟨z193, rfl, Nq193, Kq193, G193_0⟩ := hQ193
          have N193 := Fr.app N55 Nq193
          show own_Ends prg e below s _ _ _ T193 (mkF m 208 #[.val (.int p0), .val (.int p1), .val (.int p2), .val (.int p3), .val (.int p4), .val (.int p5), .val (.int y31), .val (.int mo), .val (.int dy), .val (.ref a36), .unset, .unset, .unset, .unset] [(.int z193), (.int (4 : Int32)), (.ref a36)])
          refine own_castore (pc' := 209) X193 hx hZ Kq193 V55 (hb hby at_208) rfl (by decide) 4 rfl (by simp) N193 ge37 ?_
          intro T194 h194 L194 X194 e194 N194 W194 V194
          rw [show nar .char z193 = z193 from own_narcs G193_0] at V194
          replace V194 : Arv Z h194 a36 k36 .char (10 : Int32) [(.int c38), (.int c40), (.int c42), (.int c44), (.int z193), (.int c47), (.int c49), (.int (45 : Int32)), (.int c52), (.int c54)] (.int (0 : Int32)) := V194
          show own_Ends prg e below s _ _ _ T194 (mkF m 209 #[.val (.int p0), .val (.int p1), .val (.int p2), .val (.int p3), .val (.int p4), .val (.int p5), .val (.int y31), .val (.int mo), .val (.int dy), .val (.ref a36), .unset, .unset, .unset, .unset] [])
          have f195 := (Nat.le_trans (Nat.le_trans (Nat.le_trans (Nat.le_trans (Nat.le_trans (Nat.le_trans (Nat.le_trans (Nat.le_trans (Nat.le_trans (Nat.le_trans (Nat.le_trans (Nat.le_trans Z0 E36.1) (Keep.of_wr W39).1) (Keep.of_wr W41).1) (Keep.of_wr W43).1) (Keep.of_wr W45).1) (Keep.of_wr W46).1) (Keep.of_wr W48).1) (Keep.of_wr W50).1) (Keep.of_wr W51).1) (Keep.of_wr W53).1) (Keep.of_wr W55).1) (Keep.of_wr W194).1)
          have f196 := ((((((((((((S0.ext E36).wr W39).wr W41).wr W43).wr W45).wr W46).wr W48).wr W50).wr W51).wr W53).wr W55).wr W194)
          have f197 := ((((((((((((S1.ext E36).wr W39).wr W41).wr W43).wr W45).wr W46).wr W48).wr W50).wr W51).wr W53).wr W55).wr W194)
          exact K56 c38 c40 c42 c44 z193 c47 c49 (45 : Int32) c52 c54 T194 h194 _ X194 e194 N194 f195 V194 f196 f197 rc38 rc40 rc42 rc44 G193_0 rc47 rc49 (by unfold own_R; decide) rc52 rc54
        · refine own_iload (pc' := 205) X55 hx (hb hby at_203) rfl rfl ?_
          refine own_callS (pc' := 208) (y := (⟨"com/example/exacting_validator/exactingvalidator/validator/Rfc3339IsFullDatePinLaw", "drawn", "(I)C"⟩ : MethodName)) (W := 2) (rm := own_room22) (argsL := [(.int p5)]) (rest := [(.int (5 : Int32)), (.ref a36)]) X55 hx hZ e55 hown (by rw [hml]; rfl) (own_w89 hw) (own_w90 hw) (own_w33 hw) (own_w91 hw) (by decide) (own_rm22 lch Z a0 hw [] p5 h55 n0) (by decide) (by decide) (by decide) (by decide) (lenOf own_pd10 rfl) rfl (by exact Nat.le_of_eq rfl) (hb hby at_205) rfl ?_
          intro T198 Lc198 v198 X198 hQ198
          obtain ⟨z198, rfl, Nq198, Kq198, G198_0⟩ := hQ198
          have N198 := Fr.app N55 Nq198
          show own_Ends prg e below s _ _ _ T198 (mkF m 208 #[.val (.int p0), .val (.int p1), .val (.int p2), .val (.int p3), .val (.int p4), .val (.int p5), .val (.int y31), .val (.int mo), .val (.int dy), .val (.ref a36), .unset, .unset, .unset, .unset] [(.int z198), (.int (5 : Int32)), (.ref a36)])
          refine own_castore (pc' := 209) X198 hx hZ Kq198 V55 (hb hby at_208) rfl (by decide) 5 rfl (by simp) N198 ge37 ?_
          intro T199 h199 L199 X199 e199 N199 W199 V199
          rw [show nar .char z198 = z198 from own_narcs G198_0] at V199
          replace V199 : Arv Z h199 a36 k36 .char (10 : Int32) [(.int c38), (.int c40), (.int c42), (.int c44), (.int (45 : Int32)), (.int z198), (.int c49), (.int (45 : Int32)), (.int c52), (.int c54)] (.int (0 : Int32)) := V199
          show own_Ends prg e below s _ _ _ T199 (mkF m 209 #[.val (.int p0), .val (.int p1), .val (.int p2), .val (.int p3), .val (.int p4), .val (.int p5), .val (.int y31), .val (.int mo), .val (.int dy), .val (.ref a36), .unset, .unset, .unset, .unset] [])
          have f200 := (Nat.le_trans (Nat.le_trans (Nat.le_trans (Nat.le_trans (Nat.le_trans (Nat.le_trans (Nat.le_trans (Nat.le_trans (Nat.le_trans (Nat.le_trans (Nat.le_trans (Nat.le_trans Z0 E36.1) (Keep.of_wr W39).1) (Keep.of_wr W41).1) (Keep.of_wr W43).1) (Keep.of_wr W45).1) (Keep.of_wr W46).1) (Keep.of_wr W48).1) (Keep.of_wr W50).1) (Keep.of_wr W51).1) (Keep.of_wr W53).1) (Keep.of_wr W55).1) (Keep.of_wr W199).1)
          have f201 := ((((((((((((S0.ext E36).wr W39).wr W41).wr W43).wr W45).wr W46).wr W48).wr W50).wr W51).wr W53).wr W55).wr W199)
          have f202 := ((((((((((((S1.ext E36).wr W39).wr W41).wr W43).wr W45).wr W46).wr W48).wr W50).wr W51).wr W53).wr W55).wr W199)
          exact K56 c38 c40 c42 c44 (45 : Int32) z198 c49 (45 : Int32) c52 c54 T199 h199 _ X199 e199 N199 f200 V199 f201 f202 rc38 rc40 rc42 rc44 (by unfold own_R; decide) G198_0 rc49 (by unfold own_R; decide) rc52 rc54
        · refine own_iload (pc' := 205) X55 hx (hb hby at_203) rfl rfl ?_
          refine own_callS (pc' := 208) (y := (⟨"com/example/exacting_validator/exactingvalidator/validator/Rfc3339IsFullDatePinLaw", "drawn", "(I)C"⟩ : MethodName)) (W := 2) (rm := own_room22) (argsL := [(.int p5)]) (rest := [(.int (6 : Int32)), (.ref a36)]) X55 hx hZ e55 hown (by rw [hml]; rfl) (own_w89 hw) (own_w90 hw) (own_w33 hw) (own_w91 hw) (by decide) (own_rm22 lch Z a0 hw [] p5 h55 n0) (by decide) (by decide) (by decide) (by decide) (lenOf own_pd10 rfl) rfl (by exact Nat.le_of_eq rfl) (hb hby at_205) rfl ?_
          intro T203 Lc203 v203 X203 hQ203
          obtain ⟨z203, rfl, Nq203, Kq203, G203_0⟩ := hQ203
          have N203 := Fr.app N55 Nq203
          show own_Ends prg e below s _ _ _ T203 (mkF m 208 #[.val (.int p0), .val (.int p1), .val (.int p2), .val (.int p3), .val (.int p4), .val (.int p5), .val (.int y31), .val (.int mo), .val (.int dy), .val (.ref a36), .unset, .unset, .unset, .unset] [(.int z203), (.int (6 : Int32)), (.ref a36)])
          refine own_castore (pc' := 209) X203 hx hZ Kq203 V55 (hb hby at_208) rfl (by decide) 6 rfl (by simp) N203 ge37 ?_
          intro T204 h204 L204 X204 e204 N204 W204 V204
          rw [show nar .char z203 = z203 from own_narcs G203_0] at V204
          replace V204 : Arv Z h204 a36 k36 .char (10 : Int32) [(.int c38), (.int c40), (.int c42), (.int c44), (.int (45 : Int32)), (.int c47), (.int z203), (.int (45 : Int32)), (.int c52), (.int c54)] (.int (0 : Int32)) := V204
          show own_Ends prg e below s _ _ _ T204 (mkF m 209 #[.val (.int p0), .val (.int p1), .val (.int p2), .val (.int p3), .val (.int p4), .val (.int p5), .val (.int y31), .val (.int mo), .val (.int dy), .val (.ref a36), .unset, .unset, .unset, .unset] [])
          have f205 := (Nat.le_trans (Nat.le_trans (Nat.le_trans (Nat.le_trans (Nat.le_trans (Nat.le_trans (Nat.le_trans (Nat.le_trans (Nat.le_trans (Nat.le_trans (Nat.le_trans (Nat.le_trans Z0 E36.1) (Keep.of_wr W39).1) (Keep.of_wr W41).1) (Keep.of_wr W43).1) (Keep.of_wr W45).1) (Keep.of_wr W46).1) (Keep.of_wr W48).1) (Keep.of_wr W50).1) (Keep.of_wr W51).1) (Keep.of_wr W53).1) (Keep.of_wr W55).1) (Keep.of_wr W204).1)
          have f206 := ((((((((((((S0.ext E36).wr W39).wr W41).wr W43).wr W45).wr W46).wr W48).wr W50).wr W51).wr W53).wr W55).wr W204)
          have f207 := ((((((((((((S1.ext E36).wr W39).wr W41).wr W43).wr W45).wr W46).wr W48).wr W50).wr W51).wr W53).wr W55).wr W204)
          exact K56 c38 c40 c42 c44 (45 : Int32) c47 z203 (45 : Int32) c52 c54 T204 h204 _ X204 e204 N204 f205 V204 f206 f207 rc38 rc40 rc42 rc44 (by unfold own_R; decide) rc47 G203_0 (by unfold own_R; decide) rc52 rc54
        · refine own_iload (pc' := 205) X55 hx (hb hby at_203) rfl rfl ?_
          refine own_callS (pc' := 208) (y := (⟨"com/example/exacting_validator/exactingvalidator/validator/Rfc3339IsFullDatePinLaw", "drawn", "(I)C"⟩ : MethodName)) (W := 2) (rm := own_room22) (argsL := [(.int p5)]) (rest := [(.int (7 : Int32)), (.ref a36)]) X55 hx hZ e55 hown (by rw [hml]; rfl) (own_w89 hw) (own_w90 hw) (own_w33 hw) (own_w91 hw) (by decide) (own_rm22 lch Z a0 hw [] p5 h55 n0) (by decide) (by decide) (by decide) (by decide) (lenOf own_pd10 rfl) rfl (by exact Nat.le_of_eq rfl) (hb hby at_205) rfl ?_
          intro T208 Lc208 v208 X208 hQ208
          obtain ⟨z208, rfl, Nq208, Kq208, G208_0⟩ := hQ208
          have N208 := Fr.app N55 Nq208
          show own_Ends prg e below s _ _ _ T208 (mkF m 208 #[.val (.int p0), .val (.int p1), .val (.int p2), .val (.int p3), .val (.int p4), .val (.int p5), .val (.int y31), .val (.int mo), .val (.int dy), .val (.ref a36), .unset, .unset, .unset, .unset] [(.int z208), (.int (7 : Int32)), (.ref a36)])
          refine own_castore (pc' := 209) X208 hx hZ Kq208 V55 (hb hby at_208) rfl (by decide) 7 rfl (by simp) N208 ge37 ?_
          intro T209 h209 L209 X209 e209 N209 W209 V209
          rw [show nar .char z208 = z208 from own_narcs G208_0] at V209
          replace V209 : Arv Z h209 a36 k36 .char (10 : Int32) [(.int c38), (.int c40), (.int c42), (.int c44), (.int (45 : Int32)), (.int c47), (.int c49), (.int z208), (.int c52), (.int c54)] (.int (0 : Int32)) := V209
          show own_Ends prg e below s _ _ _ T209 (mkF m 209 #[.val (.int p0), .val (.int p1), .val (.int p2), .val (.int p3), .val (.int p4), .val (.int p5), .val (.int y31), .val (.int mo), .val (.int dy), .val (.ref a36), .unset, .unset, .unset, .unset] [])
          have f210 := (Nat.le_trans (Nat.le_trans (Nat.le_trans (Nat.le_trans (Nat.le_trans (Nat.le_trans (Nat.le_trans (Nat.le_trans (Nat.le_trans (Nat.le_trans (Nat.le_trans (Nat.le_trans Z0 E36.1) (Keep.of_wr W39).1) (Keep.of_wr W41).1) (Keep.of_wr W43).1) (Keep.of_wr W45).1) (Keep.of_wr W46).1) (Keep.of_wr W48).1) (Keep.of_wr W50).1) (Keep.of_wr W51).1) (Keep.of_wr W53).1) (Keep.of_wr W55).1) (Keep.of_wr W209).1)
          have f211 := ((((((((((((S0.ext E36).wr W39).wr W41).wr W43).wr W45).wr W46).wr W48).wr W50).wr W51).wr W53).wr W55).wr W209)
          have f212 := ((((((((((((S1.ext E36).wr W39).wr W41).wr W43).wr W45).wr W46).wr W48).wr W50).wr W51).wr W53).wr W55).wr W209)
          exact K56 c38 c40 c42 c44 (45 : Int32) c47 c49 z208 c52 c54 T209 h209 _ X209 e209 N209 f210 V209 f211 f212 rc38 rc40 rc42 rc44 (by unfold own_R; decide) rc47 rc49 G208_0 rc52 rc54
        · refine own_iload (pc' := 205) X55 hx (hb hby at_203) rfl rfl ?_
          refine own_callS (pc' := 208) (y := (⟨"com/example/exacting_validator/exactingvalidator/validator/Rfc3339IsFullDatePinLaw", "drawn", "(I)C"⟩ : MethodName)) (W := 2) (rm := own_room22) (argsL := [(.int p5)]) (rest := [(.int (8 : Int32)), (.ref a36)]) X55 hx hZ e55 hown (by rw [hml]; rfl) (own_w89 hw) (own_w90 hw) (own_w33 hw) (own_w91 hw) (by decide) (own_rm22 lch Z a0 hw [] p5 h55 n0) (by decide) (by decide) (by decide) (by decide) (lenOf own_pd10 rfl) rfl (by exact Nat.le_of_eq rfl) (hb hby at_205) rfl ?_
          intro T213 Lc213 v213 X213 hQ213
          obtain ⟨z213, rfl, Nq213, Kq213, G213_0⟩ := hQ213
          have N213 := Fr.app N55 Nq213
          show own_Ends prg e below s _ _ _ T213 (mkF m 208 #[.val (.int p0), .val (.int p1), .val (.int p2), .val (.int p3), .val (.int p4), .val (.int p5), .val (.int y31), .val (.int mo), .val (.int dy), .val (.ref a36), .unset, .unset, .unset, .unset] [(.int z213), (.int (8 : Int32)), (.ref a36)])
          refine own_castore (pc' := 209) X213 hx hZ Kq213 V55 (hb hby at_208) rfl (by decide) 8 rfl (by simp) N213 ge37 ?_
          intro T214 h214 L214 X214 e214 N214 W214 V214
          rw [show nar .char z213 = z213 from own_narcs G213_0] at V214
          replace V214 : Arv Z h214 a36 k36 .char (10 : Int32) [(.int c38), (.int c40), (.int c42), (.int c44), (.int (45 : Int32)), (.int c47), (.int c49), (.int (45 : Int32)), (.int z213), (.int c54)] (.int (0 : Int32)) := V214
          show own_Ends prg e below s _ _ _ T214 (mkF m 209 #[.val (.int p0), .val (.int p1), .val (.int p2), .val (.int p3), .val (.int p4), .val (.int p5), .val (.int y31), .val (.int mo), .val (.int dy), .val (.ref a36), .unset, .unset, .unset, .unset] [])
          have f215 := (Nat.le_trans (Nat.le_trans (Nat.le_trans (Nat.le_trans (Nat.le_trans (Nat.le_trans (Nat.le_trans (Nat.le_trans (Nat.le_trans (Nat.le_trans (Nat.le_trans (Nat.le_trans Z0 E36.1) (Keep.of_wr W39).1) (Keep.of_wr W41).1) (Keep.of_wr W43).1) (Keep.of_wr W45).1) (Keep.of_wr W46).1) (Keep.of_wr W48).1) (Keep.of_wr W50).1) (Keep.of_wr W51).1) (Keep.of_wr W53).1) (Keep.of_wr W55).1) (Keep.of_wr W214).1)
          have f216 := ((((((((((((S0.ext E36).wr W39).wr W41).wr W43).wr W45).wr W46).wr W48).wr W50).wr W51).wr W53).wr W55).wr W214)
          have f217 := ((((((((((((S1.ext E36).wr W39).wr W41).wr W43).wr W45).wr W46).wr W48).wr W50).wr W51).wr W53).wr W55).wr W214)
          exact K56 c38 c40 c42 c44 (45 : Int32) c47 c49 (45 : Int32) z213 c54 T214 h214 _ X214 e214 N214 f215 V214 f216 f217 rc38 rc40 rc42 rc44 (by unfold own_R; decide) rc47 rc49 (by unfold own_R; decide) G213_0 rc54
        · refine own_iload (pc' := 205) X55 hx (hb hby at_203) rfl rfl ?_
          refine own_callS (pc' := 208) (y := (⟨"com/example/exacting_validator/exactingvalidator/validator/Rfc3339IsFullDatePinLaw", "drawn", "(I)C"⟩ : MethodName)) (W := 2) (rm := own_room22) (argsL := [(.int p5)]) (rest := [(.int (9 : Int32)), (.ref a36)]) X55 hx hZ e55 hown (by rw [hml]; rfl) (own_w89 hw) (own_w90 hw) (own_w33 hw) (own_w91 hw) (by decide) (own_rm22 lch Z a0 hw [] p5 h55 n0) (by decide) (by decide) (by decide) (by decide) (lenOf own_pd10 rfl) rfl (by exact Nat.le_of_eq rfl) (hb hby at_205) rfl ?_
          intro T218 Lc218 v218 X218 hQ218
          obtain ⟨z218, rfl, Nq218, Kq218, G218_0⟩ := hQ218
          have N218 := Fr.app N55 Nq218
          show own_Ends prg e below s _ _ _ T218 (mkF m 208 #[.val (.int p0), .val (.int p1), .val (.int p2), .val (.int p3), .val (.int p4), .val (.int p5), .val (.int y31), .val (.int mo), .val (.int dy), .val (.ref a36), .unset, .unset, .unset, .unset] [(.int z218), (.int (9 : Int32)), (.ref a36)])
          refine own_castore (pc' := 209) X218 hx hZ Kq218 V55 (hb hby at_208) rfl (by decide) 9 rfl (by simp) N218 ge37 ?_
          intro T219 h219 L219 X219 e219 N219 W219 V219
          rw [show nar .char z218 = z218 from own_narcs G218_0] at V219
          replace V219 : Arv Z h219 a36 k36 .char (10 : Int32) [(.int c38), (.int c40), (.int c42), (.int c44), (.int (45 : Int32)), (.int c47), (.int c49), (.int (45 : Int32)), (.int c52), (.int z218)] (.int (0 : Int32)) := V219
          show own_Ends prg e below s _ _ _ T219 (mkF m 209 #[.val (.int p0), .val (.int p1), .val (.int p2), .val (.int p3), .val (.int p4), .val (.int p5), .val (.int y31), .val (.int mo), .val (.int dy), .val (.ref a36), .unset, .unset, .unset, .unset] [])
          have f220 := (Nat.le_trans (Nat.le_trans (Nat.le_trans (Nat.le_trans (Nat.le_trans (Nat.le_trans (Nat.le_trans (Nat.le_trans (Nat.le_trans (Nat.le_trans (Nat.le_trans (Nat.le_trans Z0 E36.1) (Keep.of_wr W39).1) (Keep.of_wr W41).1) (Keep.of_wr W43).1) (Keep.of_wr W45).1) (Keep.of_wr W46).1) (Keep.of_wr W48).1) (Keep.of_wr W50).1) (Keep.of_wr W51).1) (Keep.of_wr W53).1) (Keep.of_wr W55).1) (Keep.of_wr W219).1)
          have f221 := ((((((((((((S0.ext E36).wr W39).wr W41).wr W43).wr W45).wr W46).wr W48).wr W50).wr W51).wr W53).wr W55).wr W219)
          have f222 := ((((((((((((S1.ext E36).wr W39).wr W41).wr W43).wr W45).wr W46).wr W48).wr W50).wr W51).wr W53).wr W55).wr W219)
          exact K56 c38 c40 c42 c44 (45 : Int32) c47 c49 (45 : Int32) c52 z218 T219 h219 _ X219 e219 N219 f220 V219 f221 f222 rc38 rc40 rc42 rc44 (by unfold own_R; decide) rc47 rc49 (by unfold own_R; decide) rc52 G218_0
    refine own_iloadN (pc' := 42) X0 hx (hb hby at_41) rfl rfl ?_
    refine own_iconst (pc' := 43) (z := (2 : Int32)) X0 hx (hb hby at_42) rfl rfl ?_
    refine own_iand (pc' := 44) (z := (p3 &&& (2 : Int32))) X0 hx (hb hby at_43) rfl rfl ?_
    by_cases hc44_223 : (p3 &&& (2 : Int32)) = (0 : Int32)
    · refine own_ifYes (pc' := 54) X0 hx (hb hby at_44) (teq hc44_223).1 (by decide) (by decide) ?_
      exact K35 _ rd34
    · refine own_ifNo (pc' := 47) X0 hx (hb hby at_44) rfl (feq hc44_223).1 ?_
      refine own_iload (pc' := 49) X0 hx (hb hby at_47) rfl rfl ?_
      refine own_bipush (pc' := 51) (z := (33 : Int32)) X0 hx (hb hby at_49) rfl rfl ?_
      refine own_irem (pc' := 52) (z := (d34 % (33 : Int32))) X0 hx (hb hby at_51) rfl (by decide) rfl ?_
      refine own_istore (pc' := 54) (l' := #[.val (.int p0), .val (.int p1), .val (.int p2), .val (.int p3), .val (.int p4), .val (.int p5), .val (.int y31), .val (.int mo), .val (.int (d34 % (33 : Int32))), .unset, .unset, .unset, .unset, .unset]) X0 hx (hb hby at_52) rfl rfl ?_
      exact K35 _ (own_r2 _ _ rfl (by decide) (by decide) rd34.1)
  refine own_iloadN (pc' := 20) X0 hx (hb hby at_19) rfl rfl ?_
  refine own_iconst (pc' := 21) (z := (1 : Int32)) X0 hx (hb hby at_20) rfl rfl ?_
  refine own_iand (pc' := 22) (z := (p3 &&& (1 : Int32))) X0 hx (hb hby at_21) rfl rfl ?_
  by_cases hc22_224 : (p3 &&& (1 : Int32)) = (0 : Int32)
  · refine own_ifYes (pc' := 32) X0 hx (hb hby at_22) (teq hc22_224).1 (by decide) (by decide) ?_
    exact K33 _ rm32
  · refine own_ifNo (pc' := 25) X0 hx (hb hby at_22) rfl (feq hc22_224).1 ?_
    refine own_iload (pc' := 27) X0 hx (hb hby at_25) rfl rfl ?_
    refine own_bipush (pc' := 29) (z := (14 : Int32)) X0 hx (hb hby at_27) rfl rfl ?_
    refine own_irem (pc' := 30) (z := (m32 % (14 : Int32))) X0 hx (hb hby at_29) rfl (by decide) rfl ?_
    refine own_istore (pc' := 32) (l' := #[.val (.int p0), .val (.int p1), .val (.int p2), .val (.int p3), .val (.int p4), .val (.int p5), .val (.int y31), .val (.int (m32 % (14 : Int32))), .unset, .unset, .unset, .unset, .unset, .unset]) X0 hx (hb hby at_30) rfl rfl ?_
    exact K33 _ (own_r2 _ _ rfl (by decide) (by decide) rm32.1)
set_option maxRecDepth 65536 in
set_option maxHeartbeats 40000000 in
theorem own_comes {Post : Tables → Env → Array Value → State → Outcome → State → Prop} (hpost : ∀ tb e args s v u, (limb_1_1.after args s (.returned v) u = true ∧ limb_1_2.after args s (.returned v) u = true ∧ True) → FrameEnd s (.returned v) u (Jvm.fieldLocs frame_1_writes args s ++ Jvm.arrayLocs frame_1_arrays args s ++ Jvm.staticLocs frame_1_statics s) 16 192 → Post tb e args s (.returned v) u) :
    ArmFor flags0 classFile x code maxLocals ret World_1 tables_1 room_1 Calls_1 rest_1 Pre_1 Post := by
  intro l hfl _ _ p e ha hc hk s m args below hf hA hF happ hP
  obtain ⟨hcalls, hrest, hpre⟩ := hP
  obtain ⟨-, -, -, hnamed, -, -, -, hat⟩ := (Spec.applies_iff hf).mp happ
  obtain ⟨hg, hn⟩ := and_e (Cond.before_iff.mp (show (Jvm.Cond.and given_1 narrow_1).before args s = true from hpre))
  obtain ⟨g1, g2⟩ := and_e hg
  obtain ⟨g3, g4⟩ := and_e g2
  obtain ⟨g5, g6⟩ := and_e g4
  obtain ⟨g7, g8⟩ := and_e g6
  obtain ⟨g9, g10⟩ := and_e g8
  obtain ⟨g11, g12⟩ := and_e g10
  obtain ⟨w0, w1, w2, w3, w4, w5, rfl⟩ : ∃ w0 w1 w2 w3 w4 w5 : Value, args = #[w0, w1, w2, w3, w4, w5] := by
    have hs : args.size = 6 := by simpa [Cond.value, given_1] using g1
    obtain ⟨L⟩ := args
    match L, hs with
    | [w0, w1, w2, w3, w4, w5], _ => exact ⟨w0, w1, w2, w3, w4, w5, rfl⟩
  have hw := fun d (hd : d ∈ tables_1) => atoms_spec (ws := Jvm.Cond.code x code maxLocals ret :: tables_1) hat d (List.mem_cons_of_mem _ hd)
  have hfit : Fit s := fun {y c} hc i hi => by
    obtain ⟨ha, rfl⟩ := Array.getElem?_eq_some_iff.mp hc
    have q := List.all_eq_true.mp ((Array.all_eq_true_iff_forall_mem.mp hF) _ (Array.getElem_mem ha)) i (List.mem_range.mpr hi)
    simpa [Array.getElem?_eq_getElem hi] using q
  obtain ⟨hsets, hown0⟩ := atoms_of _ (rest_1_c_eq ▸ (show rest_1_c.before _ s = true from hrest))
  have hr0 := Cond.before_iff.mp hown0
  obtain ⟨i0, ei0⟩ := is_v g3
  obtain rfl : w0 = (.int i0) := Option.some.inj ei0
  obtain ⟨i1, ei1⟩ := is_v g5
  obtain rfl : w1 = (.int i1) := Option.some.inj ei1
  obtain ⟨i2, ei2⟩ := is_v g7
  obtain rfl : w2 = (.int i2) := Option.some.inj ei2
  obtain ⟨i3, ei3⟩ := is_v g9
  obtain rfl : w3 = (.int i3) := Option.some.inj ei3
  obtain ⟨i4, ei4⟩ := is_v g11
  obtain rfl : w4 = (.int i4) := Option.some.inj ei4
  obtain ⟨i5, ei5⟩ := is_v g12
  obtain rfl : w5 = (.int i5) := Option.some.inj ei5
  obtain ⟨j0, ej0⟩ := is_v (Cond.before_iff.mp (hsets _ (List.mem_of_getElem? (i := 1) rfl)))
  have S8 : Sta s s.heap "java/lang/String" "COMPACT_STRINGS" "Z" (.int j0) := Sta.start ej0 (Or.inl (hsets _ (List.mem_of_getElem? (i := 0) rfl)))
  have hi8 : ¬ j0 = (0 : Int32) := gotF (Cond.eq_ints ej0 (Term.int_eval (0))) (not_v (Cond.before_iff.mp (hsets _ (List.mem_of_getElem? (i := 2) rfl))))
  obtain ⟨wf0, ew0, hw9⟩ := Cond.isRef_spec (hsets _ (List.mem_of_getElem? (i := 8) rfl))
  have S9 : Sta s s.heap "jdk/internal/util/Preconditions" "SIOOBE_FORMATTER" "Ljava/util/function/BiFunction;" wf0 := Sta.start ew0 (Or.inl (hsets _ (List.mem_of_getElem? (i := 7) rfl)))
  obtain ⟨n, o, h1, h2, h3, _, L, rfl, ⟨rfl, N⟩, hq⟩ := own_rm0 l s _ hw tables_1 i0 i1 i2 i3 i4 i5 j0 wf0 s.heap s.heap.size (Nat.le_refl _) S8 hi8 S9 hw9 p e ha hc hk s m _ below hf ((Spec.applies_iff_loose hf).mp happ).1 ⟨rfl, State.Warmed39.refl s, rfl⟩ trivial
  refine ⟨n, _, h1, h2, h3, hpost _ _ _ _ _ _ ⟨Cond.after_iff.mpr rfl, Cond.after_iff.mpr (eq_i res_at (Term.int_eval (1)) rfl), trivial⟩ ⟨hq.1, hq.2.1, (hq.2.2.sift fun y hy => Or.inr (N y hy)).mono (by decide) (by decide)⟩⟩
theorem main_1_1 : Claimed_1_1 := own_comes fun _ _ _ _ _ _ h hF => ⟨h.1, hF⟩
theorem main_1_2 : Claimed_1_2 := own_comes fun _ _ _ _ _ _ h hF => ⟨h.2.1, hF⟩
end Jvm.Pilot.@@N@@
namespace Jvm.Pilot.@@N@@
open Jvm Jvm.ClassFile Sem Op Lib Jvm.Free Jvm.Stand Jvm.Pilot.@@N@@.Jvm.D
/-! MADE BY PROGRAM (witnessworld.py) out of the Statement's table words and the real class files: 20 classes; the members and pool entries that the words name. The judged class is class 1, her method 1. -/
namespace start1
open Jvm.ClassFile
def u (s : String) : CpInfo := .utf8 (stringToUtf16 s)
/-- a pool by its gaps: so many unusable entries, then the entry; so many at the end -/
def gap : Nat → List CpInfo → List CpInfo
  | 0, r => r
  | n + 1, r => .unusable :: gap n r
def poolList (es : List (Nat × CpInfo)) (last : Nat) : List CpInfo := es.foldr (fun e r => gap e.1 (e.2 :: r)) (gap last [])
def pool (es : List (Nat × CpInfo)) (last : Nat) : Array CpInfo := ⟨poolList es last⟩
def fileOf (pool : Array CpInfo) (this : Nat) (attrs : Array Attribute := #[]) (ms : Array MethodInfo := #[]) (fl : Nat := 33) (sup : Nat := 0) (ifs : Array Nat := #[]) (fds : Array FieldInfo := #[]) : ClassFile where
  minorVersion := 0
  majorVersion := 65
  constantPool := pool
  accessFlags := fl
  thisClass := this
  superClass := sup
  interfaces := ifs
  fields := fds
  methods := ms
  attributes := attrs
def plain (name : String) (sup : Option ClassId) : Class where
  name := name
  kind := .ordinary
  loader := none
  accessFlags := 33
  super := sup
  interfaces := #[]
  cf := none
  fields := #[]
  methods := #[]
  instanceTypes := #[]
  staticTypes := #[]
  resolved := #[]
  callSites := []
  init := .initialized
  statics := none
  mirror := none

def pool0 : Array CpInfo := pool [(5, u "<init>"), (0, u "()V"), (1, .class_ 10), (1, u "java/lang/Object")] 113

def k0c0 : Code := { maxStack := 0, maxLocals := 1, code := object_method_1_code, exceptionTable := #[], attributes := #[] }
def k0m0 : Method := { name := "<init>", desc := "()V", sig := { parameters := [], returnType := none }, accessFlags := 1, code := some k0c0 }
/-- java/lang/Object -/
def k0 : Class := { plain "java/lang/Object" none with
  accessFlags := 33
  interfaces := #[]
  cf := some (fileOf pool0 8 #[] #[{ accessFlags := 1, nameIndex := 5, descriptorIndex := 6, attributes := #[] }] 33 0 #[] #[])
  fields := #[]
  methods := #[k0m0]
  instanceTypes := #[]
  staticTypes := #[]
  resolved := Array.replicate 124 none
  statics := none }

def pool1 : Array CpInfo := pool [(2, .class_ 4), (1, u "java/lang/Object"), (0, u "<init>"), (0, u "()V"), (0, .integer 2147483647), (0, .methodref 9 10), (0, .class_ 11), (0, .nameAndType 12 13), (0, u "com/example/exacting_validator/exactingvalidator/validator/Rfc3339IsFullDatePinLaw"), (0, u "drawn"), (0, u "(I)C"), (0, .class_ 15), (0, u "java/lang/String"), (0, .methodref 14 17), (0, .nameAndType 5 18), (0, u "([C)V"), (0, .methodref 9 20), (0, .nameAndType 21 22), (0, u "wellFormed"), (0, u "([C)Z"), (0, .methodref 24 25), (0, .class_ 26), (0, .nameAndType 27 28), (0, u "com/example/exacting_validator/exactingvalidator/validator/Rfc3339"), (0, u "isFullDate"), (0, u "(Ljava/lang/String;)Z"), (0, .methodref 9 30), (0, .nameAndType 31 32), (0, u "dig"), (0, u "(C)Z"), (0, .methodref 9 34), (0, .nameAndType 35 36), (0, u "val"), (0, u "(C)I"), (0, .methodref 9 38), (0, .nameAndType 39 40), (0, u "monthLength"), (0, u "(II)I"), (2, u "law"), (0, u "(IIIIII)Z")] 5

def k1m0 : Method := { name := "<init>", desc := "()V", sig := { parameters := [], returnType := none }, accessFlags := 2, code := none }
def k1c1 : Code := { maxStack := 5, maxLocals := 14, code := code, exceptionTable := #[], attributes := #[] }
def k1m1 : Method := { name := "law", desc := "(IIIIII)Z", sig := { parameters := [.int, .int, .int, .int, .int, .int], returnType := some .boolean }, accessFlags := 9, code := some k1c1 }
def k1c2 : Code := { maxStack := 3, maxLocals := 3, code := method_3_code, exceptionTable := #[], attributes := #[] }
def k1m2 : Method := { name := "drawn", desc := "(I)C", sig := { parameters := [.int], returnType := some .char }, accessFlags := 10, code := some k1c2 }
def k1c3 : Code := { maxStack := 2, maxLocals := 1, code := method_4_code, exceptionTable := #[], attributes := #[] }
def k1m3 : Method := { name := "dig", desc := "(C)Z", sig := { parameters := [.char], returnType := some .boolean }, accessFlags := 10, code := some k1c3 }
def k1c4 : Code := { maxStack := 2, maxLocals := 1, code := method_5_code, exceptionTable := #[], attributes := #[] }
def k1m4 : Method := { name := "val", desc := "(C)I", sig := { parameters := [.char], returnType := some .int }, accessFlags := 10, code := some k1c4 }
def k1c5 : Code := { maxStack := 3, maxLocals := 4, code := method_6_code, exceptionTable := #[], attributes := #[] }
def k1m5 : Method := { name := "wellFormed", desc := "([C)Z", sig := { parameters := [(.array .char)], returnType := some .boolean }, accessFlags := 10, code := some k1c5 }
def k1c6 : Code := { maxStack := 4, maxLocals := 3, code := method_7_code, exceptionTable := #[], attributes := #[] }
def k1m6 : Method := { name := "monthLength", desc := "(II)I", sig := { parameters := [.int, .int], returnType := some .int }, accessFlags := 10, code := some k1c6 }
/-- com/example/exacting_validator/exactingvalidator/validator/Rfc3339IsFullDatePinLaw -/
def k1 : Class := { plain "com/example/exacting_validator/exactingvalidator/validator/Rfc3339IsFullDatePinLaw" (some 0) with
  accessFlags := 49
  interfaces := #[]
  cf := some (fileOf pool1 9 #[] #[{ accessFlags := 2, nameIndex := 5, descriptorIndex := 6, attributes := #[] }, { accessFlags := 9, nameIndex := 43, descriptorIndex := 44, attributes := #[] }, { accessFlags := 10, nameIndex := 12, descriptorIndex := 13, attributes := #[] }, { accessFlags := 10, nameIndex := 31, descriptorIndex := 32, attributes := #[] }, { accessFlags := 10, nameIndex := 35, descriptorIndex := 36, attributes := #[] }, { accessFlags := 10, nameIndex := 21, descriptorIndex := 22, attributes := #[] }, { accessFlags := 10, nameIndex := 39, descriptorIndex := 40, attributes := #[] }] 49 2 #[] #[])
  fields := #[]
  methods := #[k1m0, k1m1, k1m2, k1m3, k1m4, k1m5, k1m6]
  instanceTypes := #[]
  staticTypes := #[]
  resolved := Array.replicate 50 none
  statics := none }

def pool2 : Array CpInfo := pool [(1, .class_ 2), (0, u "java/io/Serializable"), (0, .class_ 4), (0, u "java/lang/Object")] 2

/-- java/io/Serializable -/
def k2 : Class := { plain "java/io/Serializable" (some 0) with
  accessFlags := 1537
  interfaces := #[]
  cf := some (fileOf pool2 1 #[] #[] 1537 3 #[] #[])
  fields := #[]
  methods := #[]
  instanceTypes := #[]
  staticTypes := #[]
  resolved := Array.replicate 7 none
  statics := none }

def pool3 : Array CpInfo := pool [(1, .class_ 2), (0, u "java/lang/Comparable"), (0, .class_ 4), (0, u "java/lang/Object")] 7

/-- java/lang/Comparable -/
def k3 : Class := { plain "java/lang/Comparable" (some 0) with
  accessFlags := 1537
  interfaces := #[]
  cf := some (fileOf pool3 1 #[] #[] 1537 3 #[] #[])
  fields := #[]
  methods := #[]
  instanceTypes := #[]
  staticTypes := #[]
  resolved := Array.replicate 12 none
  statics := none }

def pool4 : Array CpInfo := pool [(2, .class_ 4), (1, u "java/lang/CharSequence"), (42, .class_ 48), (0, u "java/lang/CharSequence$1CodePointIterator"), (10, .class_ 60), (0, u "java/lang/CharSequence$1CharIterator"), (5, .class_ 67), (0, u "java/lang/Object")] 63

/-- java/lang/CharSequence -/
def k4 : Class := { plain "java/lang/CharSequence" (some 0) with
  accessFlags := 1537
  interfaces := #[]
  cf := some (fileOf pool4 2 #[.nestMembers #[47, 59]] #[] 1537 66 #[] #[])
  fields := #[]
  methods := #[]
  instanceTypes := #[]
  staticTypes := #[]
  resolved := Array.replicate 131 none
  statics := none }

def pool5 : Array CpInfo := pool [(1, .class_ 2), (0, u "java/lang/constant/Constable"), (0, .class_ 4), (0, u "java/lang/Object")] 6

/-- java/lang/constant/Constable -/
def k5 : Class := { plain "java/lang/constant/Constable" (some 0) with
  accessFlags := 1537
  interfaces := #[]
  cf := some (fileOf pool5 1 #[] #[] 1537 3 #[] #[])
  fields := #[]
  methods := #[]
  instanceTypes := #[]
  staticTypes := #[]
  resolved := Array.replicate 11 none
  statics := none }

def pool6 : Array CpInfo := pool [(1, .class_ 2), (0, u "java/lang/constant/ConstantDesc"), (0, .class_ 4), (0, u "java/lang/Object")] 32

/-- java/lang/constant/ConstantDesc -/
def k6 : Class := { plain "java/lang/constant/ConstantDesc" (some 0) with
  accessFlags := 1537
  interfaces := #[]
  cf := some (fileOf pool6 1 #[] #[] 1537 3 #[] #[])
  fields := #[]
  methods := #[]
  instanceTypes := #[]
  staticTypes := #[]
  resolved := Array.replicate 37 none
  statics := none }

def pool7 : Array CpInfo := pool [(1, .methodref 2 3), (0, .class_ 4), (0, .nameAndType 5 6), (0, u "java/lang/Object"), (0, u "<init>"), (0, u "()V"), (2, .fieldref 10 11), (0, .class_ 12), (0, .nameAndType 13 14), (0, u "java/lang/String"), (0, u "value"), (0, u "[B"), (0, .fieldref 10 16), (0, .nameAndType 17 18), (0, u "coder"), (0, u "B"), (2, u "hash"), (0, u "I"), (2, u "hashIsZero"), (0, u "Z"), (0, .methodref 10 28), (0, .nameAndType 5 29), (0, u "([CIILjava/lang/Void;)V"), (8, .fieldref 10 39), (0, .nameAndType 40 26), (0, u "COMPACT_STRINGS"), (1, .class_ 44), (1, u "java/lang/StringUTF16"), (0, u "compress"), (1, .methodref 42 48), (0, .nameAndType 49 50), (0, u "coderFromArrayLen"), (0, u "([BI)B"), (56, .class_ 109), (1, u "java/lang/StringLatin1"), (32, u "()Z"), (34, .methodref 42 178), (0, .nameAndType 45 179), (0, u "([CII)[B"), (154, u "()I"), (0, .methodref 10 336), (0, .nameAndType 17 337), (0, u "()B"), (25, u "([BI)C"), (27, u "(II)V"), (35, u "(I)C"), (64, .methodref 10 493), (0, .nameAndType 494 142), (0, u "isLatin1"), (0, .methodref 107 496), (0, .nameAndType 497 363), (0, u "charAt"), (3, u "checkIndex"), (5, u "length"), (67, .class_ 576), (0, u "java/lang/CharSequence"), (22, u "CASE_INSENSITIVE_ORDER"), (0, u "Ljava/util/Comparator;"), (409, u "([C)V"), (42, .fieldref 1054 1055), (0, .class_ 1056), (0, .nameAndType 1057 1058), (0, u "jdk/internal/util/Preconditions"), (0, u "SIOOBE_FORMATTER"), (0, u "Ljava/util/function/BiFunction;"), (0, .methodref 1054 1060), (0, .nameAndType 501 1061), (0, u "(IILjava/util/function/BiFunction;)I"), (39, u "serialPersistentFields"), (0, u "[Ljava/io/ObjectStreamField;"), (0, .class_ 1104), (0, u "java/lang/String$CaseInsensitiveComparator"), (1, .class_ 1107), (0, u "java/io/Serializable"), (0, .class_ 1109), (0, u "java/lang/Comparable"), (0, .class_ 1111), (0, u "java/lang/constant/Constable"), (0, .class_ 1113), (0, u "java/lang/constant/ConstantDesc"), (2, u "serialVersionUID"), (0, u "J"), (3, u "REPL"), (0, u "C"), (2, u "LATIN1"), (1, u "UTF16")] 323

def k7m0 : Method := { name := "<init>", desc := "()V", sig := { parameters := [], returnType := none }, accessFlags := 1, code := none }
def k7c1 : Code := { maxStack := 5, maxLocals := 2, code := jdk_42_method_3_code, exceptionTable := #[], attributes := #[] }
def k7m1 : Method := { name := "<init>", desc := "([C)V", sig := { parameters := [(.array .char)], returnType := none }, accessFlags := 1, code := some k7c1 }
def k7c2 : Code := { maxStack := 2, maxLocals := 1, code := jdk_42_method_54_code, exceptionTable := #[], attributes := #[] }
def k7m2 : Method := { name := "length", desc := "()I", sig := { parameters := [], returnType := some .int }, accessFlags := 1, code := some k7c2 }
def k7c3 : Code := { maxStack := 2, maxLocals := 2, code := jdk_42_method_56_code, exceptionTable := #[], attributes := #[] }
def k7m3 : Method := { name := "charAt", desc := "(I)C", sig := { parameters := [.int], returnType := some .char }, accessFlags := 1, code := some k7c3 }
def k7c4 : Code := { maxStack := 4, maxLocals := 6, code := jdk_42_method_149_code, exceptionTable := #[], attributes := #[] }
def k7m4 : Method := { name := "<init>", desc := "([CIILjava/lang/Void;)V", sig := { parameters := [(.array .char), .int, .int, (.object "java/lang/Void")], returnType := none }, accessFlags := 2, code := some k7c4 }
def k7c5 : Code := { maxStack := 1, maxLocals := 1, code := jdk_42_method_152_code, exceptionTable := #[], attributes := #[] }
def k7m5 : Method := { name := "coder", desc := "()B", sig := { parameters := [], returnType := some .byte }, accessFlags := 0, code := some k7c5 }
def k7c6 : Code := { maxStack := 1, maxLocals := 1, code := jdk_42_method_154_code, exceptionTable := #[], attributes := #[] }
def k7m6 : Method := { name := "isLatin1", desc := "()Z", sig := { parameters := [], returnType := some .boolean }, accessFlags := 0, code := some k7c6 }
def k7c7 : Code := { maxStack := 3, maxLocals := 2, code := jdk_42_method_155_code, exceptionTable := #[], attributes := #[] }
def k7m7 : Method := { name := "checkIndex", desc := "(II)V", sig := { parameters := [.int, .int], returnType := none }, accessFlags := 8, code := some k7c7 }
/-- java/lang/String -/
def k7 : Class := { plain "java/lang/String" (some 0) with
  accessFlags := 49
  interfaces := #[2, 3, 4, 5, 6]
  cf := some (fileOf pool7 10 #[.nestMembers #[1103]] #[{ accessFlags := 1, nameIndex := 5, descriptorIndex := 6, attributes := #[] }, { accessFlags := 1, nameIndex := 5, descriptorIndex := 1010, attributes := #[] }, { accessFlags := 1, nameIndex := 507, descriptorIndex := 334, attributes := #[] }, { accessFlags := 1, nameIndex := 497, descriptorIndex := 427, attributes := #[] }, { accessFlags := 2, nameIndex := 5, descriptorIndex := 29, attributes := #[] }, { accessFlags := 0, nameIndex := 17, descriptorIndex := 337, attributes := #[] }, { accessFlags := 0, nameIndex := 494, descriptorIndex := 142, attributes := #[] }, { accessFlags := 8, nameIndex := 501, descriptorIndex := 391, attributes := #[] }] 49 2 #[1106, 1108, 575, 1110, 1112] #[{ accessFlags := 18, nameIndex := 13, descriptorIndex := 14, attributes := #[] }, { accessFlags := 18, nameIndex := 17, descriptorIndex := 18, attributes := #[] }, { accessFlags := 2, nameIndex := 21, descriptorIndex := 22, attributes := #[] }, { accessFlags := 2, nameIndex := 25, descriptorIndex := 26, attributes := #[] }, { accessFlags := 26, nameIndex := 1116, descriptorIndex := 1117, attributes := #[] }, { accessFlags := 24, nameIndex := 40, descriptorIndex := 26, attributes := #[] }, { accessFlags := 26, nameIndex := 1101, descriptorIndex := 1102, attributes := #[] }, { accessFlags := 26, nameIndex := 1121, descriptorIndex := 1122, attributes := #[] }, { accessFlags := 25, nameIndex := 599, descriptorIndex := 600, attributes := #[] }, { accessFlags := 24, nameIndex := 1125, descriptorIndex := 18, attributes := #[] }, { accessFlags := 24, nameIndex := 1127, descriptorIndex := 18, attributes := #[] }])
  fields := #[{ name := "value", type := (.array .byte), accessFlags := 18, slot := 0, constantValue := 0 }, { name := "coder", type := .byte, accessFlags := 18, slot := 1, constantValue := 0 }, { name := "hash", type := .int, accessFlags := 2, slot := 2, constantValue := 0 }, { name := "hashIsZero", type := .boolean, accessFlags := 2, slot := 3, constantValue := 0 }, { name := "serialVersionUID", type := .long, accessFlags := 26, slot := 0, constantValue := 0 }, { name := "COMPACT_STRINGS", type := .boolean, accessFlags := 24, slot := 1, constantValue := 0 }, { name := "serialPersistentFields", type := (.array (.object "java/io/ObjectStreamField")), accessFlags := 26, slot := 2, constantValue := 0 }, { name := "REPL", type := .char, accessFlags := 26, slot := 3, constantValue := 0 }, { name := "CASE_INSENSITIVE_ORDER", type := (.object "java/util/Comparator"), accessFlags := 25, slot := 4, constantValue := 0 }, { name := "LATIN1", type := .byte, accessFlags := 24, slot := 5, constantValue := 0 }, { name := "UTF16", type := .byte, accessFlags := 24, slot := 6, constantValue := 0 }]
  methods := #[k7m0, k7m1, k7m2, k7m3, k7m4, k7m5, k7m6, k7m7]
  instanceTypes := #[(.array .byte), .byte, .int, .boolean]
  staticTypes := #[.long, .boolean, (.array (.object "java/io/ObjectStreamField")), .char, (.object "java/util/Comparator"), .byte, .byte]
  resolved := Array.replicate 1451 none
  statics := some 0 }

def pool8 : Array CpInfo := pool [(6, .class_ 8), (1, u "java/lang/Object"), (0, u "<init>"), (0, u "()V"), (1, .class_ 14), (1, u "java/lang/StringUTF16"), (31, u "$assertionsDisabled"), (0, u "Z"), (13, u "HI_BYTE_SHIFT"), (0, u "I"), (2, u "LO_BYTE_SHIFT"), (49, .methodref 12 116), (0, .nameAndType 117 118), (0, u "compress"), (0, u "([CI[BII)I"), (3, u "([CII)[B"), (138, u "coderFromArrayLen"), (0, u "([BI)B"), (106, .class_ 371), (1, u "java/lang/StringUTF16$LinesSpliterator"), (58, u "MAX_LENGTH"), (196, .class_ 628), (0, u "java/lang/StringUTF16$CodePointsSpliterator"), (0, .class_ 630), (0, u "java/lang/StringUTF16$CharsSpliterator")] 4

def k8m0 : Method := { name := "<init>", desc := "()V", sig := { parameters := [], returnType := none }, accessFlags := 0, code := none }
def k8c1 : Code := { maxStack := 2, maxLocals := 2, code := jdk_52_method_15_code, exceptionTable := #[], attributes := #[] }
def k8m1 : Method := { name := "coderFromArrayLen", desc := "([BI)B", sig := { parameters := [(.array .byte), .int], returnType := some .byte }, accessFlags := 8, code := some k8c1 }
def k8c2 : Code := { maxStack := 5, maxLocals := 6, code := jdk_52_method_16_code, exceptionTable := #[], attributes := #[] }
def k8m2 : Method := { name := "compress", desc := "([CII)[B", sig := { parameters := [(.array .char), .int, .int], returnType := some (.array .byte) }, accessFlags := 9, code := some k8c2 }
def k8c3 : Code := { maxStack := 3, maxLocals := 7, code := jdk_52_method_21_code, exceptionTable := #[], attributes := #[] }
def k8m3 : Method := { name := "compress", desc := "([CI[BII)I", sig := { parameters := [(.array .char), .int, (.array .byte), .int, .int], returnType := some .int }, accessFlags := 9, code := some k8c3 }
/-- java/lang/StringUTF16 -/
def k8 : Class := { plain "java/lang/StringUTF16" (some 0) with
  accessFlags := 48
  interfaces := #[]
  cf := some (fileOf pool8 12 #[.nestMembers #[627, 629, 369]] #[{ accessFlags := 0, nameIndex := 9, descriptorIndex := 10, attributes := #[] }, { accessFlags := 8, nameIndex := 261, descriptorIndex := 262, attributes := #[] }, { accessFlags := 9, nameIndex := 117, descriptorIndex := 122, attributes := #[] }, { accessFlags := 9, nameIndex := 117, descriptorIndex := 118, attributes := #[] }] 48 6 #[] #[{ accessFlags := 26, nameIndex := 61, descriptorIndex := 62, attributes := #[] }, { accessFlags := 26, nameIndex := 65, descriptorIndex := 62, attributes := #[] }, { accessFlags := 24, nameIndex := 430, descriptorIndex := 62, attributes := #[] }, { accessFlags := 4120, nameIndex := 46, descriptorIndex := 47, attributes := #[] }])
  fields := #[{ name := "HI_BYTE_SHIFT", type := .int, accessFlags := 26, slot := 0, constantValue := 0 }, { name := "LO_BYTE_SHIFT", type := .int, accessFlags := 26, slot := 1, constantValue := 0 }, { name := "MAX_LENGTH", type := .int, accessFlags := 24, slot := 2, constantValue := 0 }, { name := "$assertionsDisabled", type := .boolean, accessFlags := 4120, slot := 3, constantValue := 0 }]
  methods := #[k8m0, k8m1, k8m2, k8m3]
  instanceTypes := #[]
  staticTypes := #[.int, .int, .int, .boolean]
  resolved := Array.replicate 635 none
  statics := none }

def pool9 : Array CpInfo := pool [(2, .class_ 4), (1, u "java/lang/Object"), (0, u "<init>"), (0, u "()V"), (0, .methodref 8 9), (0, .class_ 10), (0, .nameAndType 11 12), (0, u "java/lang/String"), (0, u "length"), (0, u "()I"), (0, .class_ 14), (0, u "com/example/exacting_validator/exactingvalidator/validator/Rfc3339"), (0, .methodref 13 16), (0, .nameAndType 17 18), (0, u "isFullDateAt"), (0, u "(Ljava/lang/String;I)Z"), (21, .methodref 13 41), (0, .nameAndType 42 43), (0, u "digits"), (0, u "(Ljava/lang/String;II)I"), (0, .methodref 8 45), (0, .nameAndType 46 47), (0, u "charAt"), (0, u "(I)C"), (0, .methodref 13 49), (0, .nameAndType 50 51), (0, u "daysIn"), (0, u "(II)I"), (13, u "FULL_DATE_LENGTH"), (0, u "I"), (2, u "PARTIAL_TIME_LENGTH"), (1, u "NUMERIC_OFFSET_LENGTH"), (1, u "LAST_MINUTE_OF_A_DAY"), (1, u "MINUTES_IN_A_DAY"), (4, u "(Ljava/lang/String;)Z"), (1, u "isFullDate")] 4

def k9m0 : Method := { name := "<init>", desc := "()V", sig := { parameters := [], returnType := none }, accessFlags := 2, code := none }
def k9c1 : Code := { maxStack := 2, maxLocals := 1, code := prog_7_method_3_code, exceptionTable := #[], attributes := #[] }
def k9m1 : Method := { name := "isFullDate", desc := "(Ljava/lang/String;)Z", sig := { parameters := [(.object "java/lang/String")], returnType := some .boolean }, accessFlags := 8, code := some k9c1 }
def k9c2 : Code := { maxStack := 3, maxLocals := 5, code := prog_7_method_6_code, exceptionTable := #[], attributes := #[] }
def k9m2 : Method := { name := "isFullDateAt", desc := "(Ljava/lang/String;I)Z", sig := { parameters := [(.object "java/lang/String"), .int], returnType := some .boolean }, accessFlags := 10, code := some k9c2 }
def k9c3 : Code := { maxStack := 2, maxLocals := 4, code := prog_7_method_7_code, exceptionTable := #[], attributes := #[] }
def k9m3 : Method := { name := "daysIn", desc := "(II)I", sig := { parameters := [.int, .int], returnType := some .int }, accessFlags := 10, code := some k9c3 }
def k9c4 : Code := { maxStack := 3, maxLocals := 6, code := prog_7_method_11_code, exceptionTable := #[], attributes := #[] }
def k9m4 : Method := { name := "digits", desc := "(Ljava/lang/String;II)I", sig := { parameters := [(.object "java/lang/String"), .int, .int], returnType := some .int }, accessFlags := 10, code := some k9c4 }
/-- com/example/exacting_validator/exactingvalidator/validator/Rfc3339 -/
def k9 : Class := { plain "com/example/exacting_validator/exactingvalidator/validator/Rfc3339" (some 0) with
  accessFlags := 48
  interfaces := #[]
  cf := some (fileOf pool9 13 #[] #[{ accessFlags := 2, nameIndex := 5, descriptorIndex := 6, attributes := #[] }, { accessFlags := 8, nameIndex := 82, descriptorIndex := 80, attributes := #[] }, { accessFlags := 10, nameIndex := 17, descriptorIndex := 18, attributes := #[] }, { accessFlags := 10, nameIndex := 50, descriptorIndex := 51, attributes := #[] }, { accessFlags := 10, nameIndex := 42, descriptorIndex := 43, attributes := #[] }] 48 2 #[] #[{ accessFlags := 26, nameIndex := 65, descriptorIndex := 66, attributes := #[] }, { accessFlags := 26, nameIndex := 69, descriptorIndex := 66, attributes := #[] }, { accessFlags := 26, nameIndex := 71, descriptorIndex := 66, attributes := #[] }, { accessFlags := 26, nameIndex := 73, descriptorIndex := 66, attributes := #[] }, { accessFlags := 26, nameIndex := 75, descriptorIndex := 66, attributes := #[] }])
  fields := #[{ name := "FULL_DATE_LENGTH", type := .int, accessFlags := 26, slot := 0, constantValue := 0 }, { name := "PARTIAL_TIME_LENGTH", type := .int, accessFlags := 26, slot := 1, constantValue := 0 }, { name := "NUMERIC_OFFSET_LENGTH", type := .int, accessFlags := 26, slot := 2, constantValue := 0 }, { name := "LAST_MINUTE_OF_A_DAY", type := .int, accessFlags := 26, slot := 3, constantValue := 0 }, { name := "MINUTES_IN_A_DAY", type := .int, accessFlags := 26, slot := 4, constantValue := 0 }]
  methods := #[k9m0, k9m1, k9m2, k9m3, k9m4]
  instanceTypes := #[]
  staticTypes := #[.int, .int, .int, .int, .int]
  resolved := Array.replicate 87 none
  statics := none }

def pool10 : Array CpInfo := pool [(1, .class_ 2), (0, u "java/lang/String"), (1, .class_ 6), (1, u "java/lang/Object"), (0, u "<init>"), (0, u "()V"), (0, .methodref 1 10), (0, .nameAndType 11 12), (0, u "checkIndex"), (0, u "(II)V"), (1, .class_ 16), (1, u "java/lang/StringLatin1"), (36, u "([BI)C"), (67, u "$assertionsDisabled"), (0, u "Z"), (98, .class_ 223), (1, u "java/lang/StringLatin1$LinesSpliterator"), (28, u "charAt"), (137, .class_ 391), (0, u "java/lang/StringLatin1$CharsSpliterator")] 3

def k10m0 : Method := { name := "<init>", desc := "()V", sig := { parameters := [], returnType := none }, accessFlags := 0, code := none }
def k10c1 : Code := { maxStack := 2, maxLocals := 2, code := jdk_43_method_2_code, exceptionTable := #[], attributes := #[] }
def k10m1 : Method := { name := "charAt", desc := "([BI)C", sig := { parameters := [(.array .byte), .int], returnType := some .char }, accessFlags := 9, code := some k10c1 }
/-- java/lang/StringLatin1 -/
def k10 : Class := { plain "java/lang/StringLatin1" (some 0) with
  accessFlags := 48
  interfaces := #[]
  cf := some (fileOf pool10 14 #[.nestMembers #[390, 221]] #[{ accessFlags := 0, nameIndex := 7, descriptorIndex := 8, attributes := #[] }, { accessFlags := 9, nameIndex := 252, descriptorIndex := 53, attributes := #[] }] 48 4 #[] #[{ accessFlags := 4120, nameIndex := 121, descriptorIndex := 122, attributes := #[] }])
  fields := #[{ name := "$assertionsDisabled", type := .boolean, accessFlags := 4120, slot := 0, constantValue := 0 }]
  methods := #[k10m0, k10m1]
  instanceTypes := #[]
  staticTypes := #[.boolean]
  resolved := Array.replicate 395 none
  statics := none }

def pool11 : Array CpInfo := pool [(2, .class_ 4), (1, u "java/lang/Object"), (0, u "<init>"), (0, u "()V"), (17, .class_ 26), (1, u "jdk/internal/util/Preconditions"), (6, u "checkIndex"), (21, .class_ 56), (0, u "jdk/internal/util/Preconditions$4"), (57, .class_ 115), (0, u "jdk/internal/util/Preconditions$1"), (7, u "SIOOBE_FORMATTER"), (0, u "Ljava/util/function/BiFunction;"), (0, .class_ 126), (0, u "jdk/internal/util/Preconditions$2"), (3, u "AIOOBE_FORMATTER"), (0, .class_ 132), (0, u "jdk/internal/util/Preconditions$3"), (3, u "IOOBE_FORMATTER"), (41, u "(IILjava/util/function/BiFunction;)I")] 15

def k11m0 : Method := { name := "<init>", desc := "()V", sig := { parameters := [], returnType := none }, accessFlags := 1, code := none }
def k11c1 : Code := { maxStack := 3, maxLocals := 3, code := jdk_41_method_11_code, exceptionTable := #[], attributes := #[] }
def k11m1 : Method := { name := "checkIndex", desc := "(IILjava/util/function/BiFunction;)I", sig := { parameters := [.int, .int, (.object "java/util/function/BiFunction")], returnType := some .int }, accessFlags := 9, code := some k11c1 }
/-- jdk/internal/util/Preconditions -/
def k11 : Class := { plain "jdk/internal/util/Preconditions" (some 0) with
  accessFlags := 33
  interfaces := #[]
  cf := some (fileOf pool11 24 #[.nestMembers #[55, 131, 125, 114]] #[{ accessFlags := 1, nameIndex := 5, descriptorIndex := 6, attributes := #[] }, { accessFlags := 9, nameIndex := 33, descriptorIndex := 178, attributes := #[] }] 33 2 #[] #[{ accessFlags := 25, nameIndex := 123, descriptorIndex := 124, attributes := #[] }, { accessFlags := 25, nameIndex := 130, descriptorIndex := 124, attributes := #[] }, { accessFlags := 25, nameIndex := 136, descriptorIndex := 124, attributes := #[] }])
  fields := #[{ name := "SIOOBE_FORMATTER", type := (.object "java/util/function/BiFunction"), accessFlags := 25, slot := 0, constantValue := 0 }, { name := "AIOOBE_FORMATTER", type := (.object "java/util/function/BiFunction"), accessFlags := 25, slot := 1, constantValue := 0 }, { name := "IOOBE_FORMATTER", type := (.object "java/util/function/BiFunction"), accessFlags := 25, slot := 2, constantValue := 0 }]
  methods := #[k11m0, k11m1]
  instanceTypes := #[]
  staticTypes := #[(.object "java/util/function/BiFunction"), (.object "java/util/function/BiFunction"), (.object "java/util/function/BiFunction")]
  resolved := Array.replicate 194 none
  statics := some 1 }

def pool12 : Array CpInfo := pool [(9, u "<init>"), (6, .class_ 18), (1, u "java/lang/Object"), (0, u "()V"), (1, .class_ 23), (1, u "jdk/internal/util/ArraysSupport"), (0, u "LOG2_ARRAY_LONG_INDEX_SCALE"), (0, u "I"), (2, u "U"), (0, u "Ljdk/internal/misc/Unsafe;"), (8, u "BIG_ENDIAN"), (0, u "Z"), (8, u "LOG2_BYTE_BIT_SIZE"), (4, u "LOG2_ARRAY_INT_INDEX_SCALE"), (54, u "JLA"), (0, u "Ljdk/internal/access/JavaLangAccess;"), (11, u "LOG2_ARRAY_BOOLEAN_INDEX_SCALE"), (9, u "LOG2_ARRAY_BYTE_INDEX_SCALE"), (5, u "LOG2_ARRAY_CHAR_INDEX_SCALE"), (5, u "LOG2_ARRAY_SHORT_INDEX_SCALE"), (18, u "LOG2_ARRAY_FLOAT_INDEX_SCALE"), (24, u "LOG2_ARRAY_DOUBLE_INDEX_SCALE"), (89, u "T_BOOLEAN"), (2, u "T_CHAR"), (1, u "T_FLOAT"), (1, u "T_DOUBLE"), (1, u "T_BYTE"), (1, u "T_SHORT"), (1, u "T_INT"), (1, u "T_LONG"), (1, u "SOFT_MAX_ARRAY_LENGTH")] 83

def k12m0 : Method := { name := "<init>", desc := "()V", sig := { parameters := [], returnType := none }, accessFlags := 2, code := none }
/-- jdk/internal/util/ArraysSupport -/
def k12 : Class := { plain "jdk/internal/util/ArraysSupport" (some 0) with
  accessFlags := 33
  interfaces := #[]
  cf := some (fileOf pool12 21 #[] #[{ accessFlags := 2, nameIndex := 9, descriptorIndex := 19, attributes := #[] }] 33 16 #[] #[{ accessFlags := 24, nameIndex := 28, descriptorIndex := 29, attributes := #[] }, { accessFlags := 26, nameIndex := 38, descriptorIndex := 39, attributes := #[] }, { accessFlags := 25, nameIndex := 121, descriptorIndex := 25, attributes := #[] }, { accessFlags := 25, nameIndex := 131, descriptorIndex := 25, attributes := #[] }, { accessFlags := 25, nameIndex := 137, descriptorIndex := 25, attributes := #[] }, { accessFlags := 25, nameIndex := 143, descriptorIndex := 25, attributes := #[] }, { accessFlags := 25, nameIndex := 53, descriptorIndex := 25, attributes := #[] }, { accessFlags := 25, nameIndex := 24, descriptorIndex := 25, attributes := #[] }, { accessFlags := 25, nameIndex := 162, descriptorIndex := 25, attributes := #[] }, { accessFlags := 25, nameIndex := 187, descriptorIndex := 25, attributes := #[] }, { accessFlags := 26, nameIndex := 48, descriptorIndex := 25, attributes := #[] }, { accessFlags := 25, nameIndex := 277, descriptorIndex := 25, attributes := #[] }, { accessFlags := 25, nameIndex := 280, descriptorIndex := 25, attributes := #[] }, { accessFlags := 25, nameIndex := 282, descriptorIndex := 25, attributes := #[] }, { accessFlags := 25, nameIndex := 284, descriptorIndex := 25, attributes := #[] }, { accessFlags := 25, nameIndex := 286, descriptorIndex := 25, attributes := #[] }, { accessFlags := 25, nameIndex := 288, descriptorIndex := 25, attributes := #[] }, { accessFlags := 25, nameIndex := 290, descriptorIndex := 25, attributes := #[] }, { accessFlags := 25, nameIndex := 292, descriptorIndex := 25, attributes := #[] }, { accessFlags := 26, nameIndex := 108, descriptorIndex := 109, attributes := #[] }, { accessFlags := 25, nameIndex := 294, descriptorIndex := 25, attributes := #[] }])
  fields := #[{ name := "U", type := (.object "jdk/internal/misc/Unsafe"), accessFlags := 24, slot := 0, constantValue := 0 }, { name := "BIG_ENDIAN", type := .boolean, accessFlags := 26, slot := 1, constantValue := 0 }, { name := "LOG2_ARRAY_BOOLEAN_INDEX_SCALE", type := .int, accessFlags := 25, slot := 2, constantValue := 0 }, { name := "LOG2_ARRAY_BYTE_INDEX_SCALE", type := .int, accessFlags := 25, slot := 3, constantValue := 0 }, { name := "LOG2_ARRAY_CHAR_INDEX_SCALE", type := .int, accessFlags := 25, slot := 4, constantValue := 0 }, { name := "LOG2_ARRAY_SHORT_INDEX_SCALE", type := .int, accessFlags := 25, slot := 5, constantValue := 0 }, { name := "LOG2_ARRAY_INT_INDEX_SCALE", type := .int, accessFlags := 25, slot := 6, constantValue := 0 }, { name := "LOG2_ARRAY_LONG_INDEX_SCALE", type := .int, accessFlags := 25, slot := 7, constantValue := 0 }, { name := "LOG2_ARRAY_FLOAT_INDEX_SCALE", type := .int, accessFlags := 25, slot := 8, constantValue := 0 }, { name := "LOG2_ARRAY_DOUBLE_INDEX_SCALE", type := .int, accessFlags := 25, slot := 9, constantValue := 0 }, { name := "LOG2_BYTE_BIT_SIZE", type := .int, accessFlags := 26, slot := 10, constantValue := 0 }, { name := "T_BOOLEAN", type := .int, accessFlags := 25, slot := 11, constantValue := 0 }, { name := "T_CHAR", type := .int, accessFlags := 25, slot := 12, constantValue := 0 }, { name := "T_FLOAT", type := .int, accessFlags := 25, slot := 13, constantValue := 0 }, { name := "T_DOUBLE", type := .int, accessFlags := 25, slot := 14, constantValue := 0 }, { name := "T_BYTE", type := .int, accessFlags := 25, slot := 15, constantValue := 0 }, { name := "T_SHORT", type := .int, accessFlags := 25, slot := 16, constantValue := 0 }, { name := "T_INT", type := .int, accessFlags := 25, slot := 17, constantValue := 0 }, { name := "T_LONG", type := .int, accessFlags := 25, slot := 18, constantValue := 0 }, { name := "JLA", type := (.object "jdk/internal/access/JavaLangAccess"), accessFlags := 26, slot := 19, constantValue := 0 }, { name := "SOFT_MAX_ARRAY_LENGTH", type := .int, accessFlags := 25, slot := 20, constantValue := 0 }]
  methods := #[k12m0]
  instanceTypes := #[]
  staticTypes := #[(.object "jdk/internal/misc/Unsafe"), .boolean, .int, .int, .int, .int, .int, .int, .int, .int, .int, .int, .int, .int, .int, .int, .int, .int, .int, (.object "jdk/internal/access/JavaLangAccess"), .int]
  resolved := Array.replicate 378 none
  statics := none }

def pool13 : Array CpInfo := pool [(1, u "java/lang/Cloneable"), (0, .class_ 1), (0, u "java/lang/Object"), (0, .class_ 3)] 3

/-- java/lang/Cloneable -/
def k13 : Class := { plain "java/lang/Cloneable" (some 0) with
  accessFlags := 1537
  interfaces := #[]
  cf := some (fileOf pool13 2 #[] #[] 1537 4 #[] #[])
  fields := #[]
  methods := #[]
  instanceTypes := #[]
  staticTypes := #[]
  resolved := Array.replicate 8 none
  statics := none }

/-- the primitive byte -/
def k14 : Class := { plain "byte" none with kind := .primitive 'B', accessFlags := 0x411 }
/-- [B -/
def k15 : Class := { plain "[B" (some 0) with kind := .array 14 .byte, interfaces := #[13, 2], accessFlags := 1041 }

/-- the primitive char -/
def k16 : Class := { plain "char" none with kind := .primitive 'C', accessFlags := 0x411 }
/-- [C -/
def k17 : Class := { plain "[C" (some 0) with kind := .array 16 .char, interfaces := #[13, 2], accessFlags := 1041 }

/-- the primitive int -/
def k18 : Class := { plain "int" none with kind := .primitive 'I', accessFlags := 0x411 }
/-- [I -/
def k19 : Class := { plain "[I" (some 0) with kind := .array 18 .int, interfaces := #[13, 2], accessFlags := 1041 }

def heap : Heap := #[{ cls := 7, slots := #[.long 0, .int 1, .null, .int 0, .null, .int 0, .int 0], vm := .statics 7 },
  { cls := 11, slots := #[.null, .null, .null], vm := .statics 11 }]
def classes : Array Class := #[k0, k1, k2, k3, k4, k5, k6, k7, k8, k9, k10, k11, k12, k13, k14, k15, k16, k17, k18, k19]
def interned : List (Array UInt16 × Addr) := []
def slotsUsed : Nat := 10
def theMethod : MethodId := ⟨1, 1⟩
def args0 : Array Value := #[.int 5, .int 5, .int 5, .int 5, .int 5, .int 5]
def aboutOver (below : List Frame) : State where
  vm := { classes := classes, interned := interned.toArray }
  heap := heap
  slotsUsed := slotsUsed
  threads := #[{ frames := .invoking theMethod args0 :: below }]
def below0 : List Frame := [.native { method := ⟨0, 0⟩, args := #[] }]
def about1 : State := aboutOver below0
def p0 : Program := .bare "" "" ""
def e0 : Env := launch0.env 0 0 0
theorem w_frames : about1.frames = Frame.invoking theMethod args0 :: below0 := rfl
set_option maxRecDepth 65536 in
theorem w_args : argsFit about1.vm theMethod args0 = true := by decide +kernel
set_option maxRecDepth 65536 in
theorem w_heap : heapFits about1 = true := by decide +kernel
set_option maxRecDepth 65536 in
theorem w_runnable : about1.curStatus? = some .runnable := by decide +kernel
set_option maxRecDepth 65536 in
theorem w_alone : about1.alone = true := by decide +kernel
set_option maxRecDepth 65536 in
theorem w_named : about1.methodNamed? x = some theMethod := by decide +kernel
set_option maxRecDepth 65536 in
theorem w_hears : about1.hears theMethod below0 = true := by decide +kernel
set_option maxRecDepth 65536 in
theorem w_ripe : about1.ripe theMethod args0 below0 = true := by decide +kernel
theorem w_running : about1.status = .running := rfl
set_option maxRecDepth 65536 in
theorem w_room : about1.hasRoom e0.platform room_1 = true :=
  launch0.hasRoom_least _ room_1 (by decide +kernel) (by decide +kernel) (by decide +kernel) (by decide +kernel) (by decide +kernel) (by decide +kernel)
theorem allAtoms_all (ts : List Jvm.Cond) (a : Array Jvm.Value) (st : Jvm.State) : (allAtoms ts).before a st = ts.all (fun c => c.before a st) := by
  induction ts with
  | nil => rfl
  | cons c t ih =>
    show (Jvm.Cond.and c (allAtoms t)).before a st = _
    rw [Jvm.Cond.before_and, ih, List.all_cons]
def words1 : List Jvm.Cond := Jvm.Cond.code x code maxLocals ret :: tables_1
/-- a 'code' word, met by the world's own term for the bytes: nothing is compared byte by byte -/
theorem code_word {y : MethodName} {bytes : ByteArray} {mx : Nat} {rt : Option FieldType} {a : Array Value} {s : State} {m : MethodId} {meth : Method} {c : Code} (h1 : s.methodNamed? y = some m) (h2 : s.vm.method? m = some meth) (h3 : meth.code = some c) (h4 : c.code = bytes)
    (h5 : (c.maxLocals == mx && c.exceptionTable.isEmpty && decide (c.maxStack ≤ mostOperands) && decide (meth.sig.returnType = rt) && !meth.locks && decide (parseMethodDescriptor y.desc = some meth.sig)) = true) : (Jvm.Cond.code y bytes mx rt).before a s = true := by
  simp only [Bool.and_eq_true, beq_iff_eq, Bool.not_eq_true', decide_eq_true_eq] at h5
  obtain ⟨⟨⟨⟨⟨g1, g2⟩, g3⟩, g4⟩, g5⟩, g6⟩ := h5
  simp [Cond.before, Cond.holds, Cond.value, h1, h2, h3, h4, g1, g2, g3, g4, g5, g6]
def isCode : Jvm.Cond → Bool
  | .code _ _ _ _ => true
  | _ => false
theorem all_split {L : List Jvm.Cond} {P : Jvm.Cond → Bool} (h1 : L.all (fun c => isCode c || P c) = true) (h2 : ∀ c ∈ L.filter isCode, P c = true) : L.all P = true := by
  refine List.all_eq_true.mpr fun c hc => ?_
  have h := List.all_eq_true.mp h1 c hc
  rcases Bool.eq_false_or_eq_true (isCode c) with hi | hi
  · exact h2 c (List.mem_filter.mpr ⟨hc, hi⟩)
  · simpa [hi] using h
set_option maxRecDepth 65536 in
theorem w_c0 : (Jvm.Cond.code x code maxLocals ret).before args0 about1 = true := code_word (m := ⟨1, 1⟩) (meth := k1m1) (c := k1c1) (by decide +kernel) rfl rfl rfl (by decide +kernel)
set_option maxRecDepth 65536 in
theorem w_c1 : (Jvm.Cond.code ({ cls := "java/lang/String", name := "<init>", desc := "([C)V" } : Jvm.MethodName) jdk_42_method_3_code (2 : Nat) (Option.none : Option Jvm.ClassFile.FieldType)).before args0 about1 = true := code_word (m := ⟨7, 1⟩) (meth := k7m1) (c := k7c1) (by decide +kernel) rfl rfl rfl (by decide +kernel)
set_option maxRecDepth 65536 in
theorem w_c2 : (Jvm.Cond.code ({ cls := "java/lang/String", name := "<init>", desc := "([CIILjava/lang/Void;)V" } : Jvm.MethodName) jdk_42_method_149_code (6 : Nat) (Option.none : Option Jvm.ClassFile.FieldType)).before args0 about1 = true := code_word (m := ⟨7, 4⟩) (meth := k7m4) (c := k7c4) (by decide +kernel) rfl rfl rfl (by decide +kernel)
set_option maxRecDepth 65536 in
theorem w_c3 : (Jvm.Cond.code ({ cls := "java/lang/Object", name := "<init>", desc := "()V" } : Jvm.MethodName) object_method_1_code (1 : Nat) (Option.none : Option Jvm.ClassFile.FieldType)).before args0 about1 = true := code_word (m := ⟨0, 0⟩) (meth := k0m0) (c := k0c0) (by decide +kernel) rfl rfl rfl (by decide +kernel)
set_option maxRecDepth 65536 in
theorem w_c4 : (Jvm.Cond.code ({ cls := "java/lang/StringUTF16", name := "compress", desc := "([CII)[B" } : Jvm.MethodName) jdk_52_method_16_code (6 : Nat) (Option.some (Jvm.ClassFile.FieldType.array Jvm.ClassFile.FieldType.byte))).before args0 about1 = true := code_word (m := ⟨8, 2⟩) (meth := k8m2) (c := k8c2) (by decide +kernel) rfl rfl rfl (by decide +kernel)
set_option maxRecDepth 65536 in
theorem w_c5 : (Jvm.Cond.code ({ cls := "java/lang/StringUTF16", name := "compress", desc := "([CI[BII)I" } : Jvm.MethodName) jdk_52_method_21_code (7 : Nat) (Option.some Jvm.ClassFile.FieldType.int)).before args0 about1 = true := code_word (m := ⟨8, 3⟩) (meth := k8m3) (c := k8c3) (by decide +kernel) rfl rfl rfl (by decide +kernel)
set_option maxRecDepth 65536 in
theorem w_c6 : (Jvm.Cond.code ({ cls := "java/lang/StringUTF16", name := "coderFromArrayLen", desc := "([BI)B" } : Jvm.MethodName) jdk_52_method_15_code (2 : Nat) (Option.some Jvm.ClassFile.FieldType.byte)).before args0 about1 = true := code_word (m := ⟨8, 1⟩) (meth := k8m1) (c := k8c1) (by decide +kernel) rfl rfl rfl (by decide +kernel)
set_option maxRecDepth 65536 in
theorem w_c7 : (Jvm.Cond.code ({ cls := "com/example/exacting_validator/exactingvalidator/validator/Rfc3339IsFullDatePinLaw", name := "wellFormed", desc := "([C)Z" } : Jvm.MethodName) method_6_code (4 : Nat) (Option.some Jvm.ClassFile.FieldType.boolean)).before args0 about1 = true := code_word (m := ⟨1, 5⟩) (meth := k1m5) (c := k1c5) (by decide +kernel) rfl rfl rfl (by decide +kernel)
set_option maxRecDepth 65536 in
theorem w_c8 : (Jvm.Cond.code ({ cls := "com/example/exacting_validator/exactingvalidator/validator/Rfc3339IsFullDatePinLaw", name := "dig", desc := "(C)Z" } : Jvm.MethodName) method_4_code (1 : Nat) (Option.some Jvm.ClassFile.FieldType.boolean)).before args0 about1 = true := code_word (m := ⟨1, 3⟩) (meth := k1m3) (c := k1c3) (by decide +kernel) rfl rfl rfl (by decide +kernel)
set_option maxRecDepth 65536 in
theorem w_c9 : (Jvm.Cond.code ({ cls := "com/example/exacting_validator/exactingvalidator/validator/Rfc3339IsFullDatePinLaw", name := "val", desc := "(C)I" } : Jvm.MethodName) method_5_code (1 : Nat) (Option.some Jvm.ClassFile.FieldType.int)).before args0 about1 = true := code_word (m := ⟨1, 4⟩) (meth := k1m4) (c := k1c4) (by decide +kernel) rfl rfl rfl (by decide +kernel)
set_option maxRecDepth 65536 in
theorem w_c10 : (Jvm.Cond.code ({ cls := "com/example/exacting_validator/exactingvalidator/validator/Rfc3339IsFullDatePinLaw", name := "monthLength", desc := "(II)I" } : Jvm.MethodName) method_7_code (3 : Nat) (Option.some Jvm.ClassFile.FieldType.int)).before args0 about1 = true := code_word (m := ⟨1, 6⟩) (meth := k1m6) (c := k1c6) (by decide +kernel) rfl rfl rfl (by decide +kernel)
set_option maxRecDepth 65536 in
theorem w_c11 : (Jvm.Cond.code ({ cls := "com/example/exacting_validator/exactingvalidator/validator/Rfc3339", name := "isFullDate", desc := "(Ljava/lang/String;)Z" } : Jvm.MethodName) prog_7_method_3_code (1 : Nat) (Option.some Jvm.ClassFile.FieldType.boolean)).before args0 about1 = true := code_word (m := ⟨9, 1⟩) (meth := k9m1) (c := k9c1) (by decide +kernel) rfl rfl rfl (by decide +kernel)
set_option maxRecDepth 65536 in
theorem w_c12 : (Jvm.Cond.code ({ cls := "java/lang/String", name := "length", desc := "()I" } : Jvm.MethodName) jdk_42_method_54_code (1 : Nat) (Option.some Jvm.ClassFile.FieldType.int)).before args0 about1 = true := code_word (m := ⟨7, 2⟩) (meth := k7m2) (c := k7c2) (by decide +kernel) rfl rfl rfl (by decide +kernel)
set_option maxRecDepth 65536 in
theorem w_c13 : (Jvm.Cond.code ({ cls := "java/lang/String", name := "coder", desc := "()B" } : Jvm.MethodName) jdk_42_method_152_code (1 : Nat) (Option.some Jvm.ClassFile.FieldType.byte)).before args0 about1 = true := code_word (m := ⟨7, 5⟩) (meth := k7m5) (c := k7c5) (by decide +kernel) rfl rfl rfl (by decide +kernel)
set_option maxRecDepth 65536 in
theorem w_c14 : (Jvm.Cond.code ({ cls := "com/example/exacting_validator/exactingvalidator/validator/Rfc3339", name := "isFullDateAt", desc := "(Ljava/lang/String;I)Z" } : Jvm.MethodName) prog_7_method_6_code (5 : Nat) (Option.some Jvm.ClassFile.FieldType.boolean)).before args0 about1 = true := code_word (m := ⟨9, 2⟩) (meth := k9m2) (c := k9c2) (by decide +kernel) rfl rfl rfl (by decide +kernel)
set_option maxRecDepth 65536 in
theorem w_c15 : (Jvm.Cond.code ({ cls := "com/example/exacting_validator/exactingvalidator/validator/Rfc3339", name := "digits", desc := "(Ljava/lang/String;II)I" } : Jvm.MethodName) prog_7_method_11_code (6 : Nat) (Option.some Jvm.ClassFile.FieldType.int)).before args0 about1 = true := code_word (m := ⟨9, 4⟩) (meth := k9m4) (c := k9c4) (by decide +kernel) rfl rfl rfl (by decide +kernel)
set_option maxRecDepth 65536 in
theorem w_c16 : (Jvm.Cond.code ({ cls := "java/lang/String", name := "charAt", desc := "(I)C" } : Jvm.MethodName) jdk_42_method_56_code (2 : Nat) (Option.some Jvm.ClassFile.FieldType.char)).before args0 about1 = true := code_word (m := ⟨7, 3⟩) (meth := k7m3) (c := k7c3) (by decide +kernel) rfl rfl rfl (by decide +kernel)
set_option maxRecDepth 65536 in
theorem w_c17 : (Jvm.Cond.code ({ cls := "java/lang/String", name := "isLatin1", desc := "()Z" } : Jvm.MethodName) jdk_42_method_154_code (1 : Nat) (Option.some Jvm.ClassFile.FieldType.boolean)).before args0 about1 = true := code_word (m := ⟨7, 6⟩) (meth := k7m6) (c := k7c6) (by decide +kernel) rfl rfl rfl (by decide +kernel)
set_option maxRecDepth 65536 in
theorem w_c18 : (Jvm.Cond.code ({ cls := "java/lang/StringLatin1", name := "charAt", desc := "([BI)C" } : Jvm.MethodName) jdk_43_method_2_code (2 : Nat) (Option.some Jvm.ClassFile.FieldType.char)).before args0 about1 = true := code_word (m := ⟨10, 1⟩) (meth := k10m1) (c := k10c1) (by decide +kernel) rfl rfl rfl (by decide +kernel)
set_option maxRecDepth 65536 in
theorem w_c19 : (Jvm.Cond.code ({ cls := "java/lang/String", name := "checkIndex", desc := "(II)V" } : Jvm.MethodName) jdk_42_method_155_code (2 : Nat) (Option.none : Option Jvm.ClassFile.FieldType)).before args0 about1 = true := code_word (m := ⟨7, 7⟩) (meth := k7m7) (c := k7c7) (by decide +kernel) rfl rfl rfl (by decide +kernel)
set_option maxRecDepth 65536 in
theorem w_c20 : (Jvm.Cond.code ({ cls := "jdk/internal/util/Preconditions", name := "checkIndex", desc := "(IILjava/util/function/BiFunction;)I" } : Jvm.MethodName) jdk_41_method_11_code (3 : Nat) (Option.some Jvm.ClassFile.FieldType.int)).before args0 about1 = true := code_word (m := ⟨11, 1⟩) (meth := k11m1) (c := k11c1) (by decide +kernel) rfl rfl rfl (by decide +kernel)
set_option maxRecDepth 65536 in
theorem w_c21 : (Jvm.Cond.code ({ cls := "com/example/exacting_validator/exactingvalidator/validator/Rfc3339", name := "daysIn", desc := "(II)I" } : Jvm.MethodName) prog_7_method_7_code (4 : Nat) (Option.some Jvm.ClassFile.FieldType.int)).before args0 about1 = true := code_word (m := ⟨9, 3⟩) (meth := k9m3) (c := k9c3) (by decide +kernel) rfl rfl rfl (by decide +kernel)
set_option maxRecDepth 65536 in
theorem w_c22 : (Jvm.Cond.code ({ cls := "com/example/exacting_validator/exactingvalidator/validator/Rfc3339IsFullDatePinLaw", name := "drawn", desc := "(I)C" } : Jvm.MethodName) method_3_code (3 : Nat) (Option.some Jvm.ClassFile.FieldType.char)).before args0 about1 = true := code_word (m := ⟨1, 2⟩) (meth := k1m2) (c := k1c2) (by decide +kernel) rfl rfl rfl (by decide +kernel)
def codes1 : List Jvm.Cond := [Jvm.Cond.code x code maxLocals ret, Jvm.Cond.code ({ cls := "java/lang/String", name := "<init>", desc := "([C)V" } : Jvm.MethodName) jdk_42_method_3_code (2 : Nat) (Option.none : Option Jvm.ClassFile.FieldType), Jvm.Cond.code ({ cls := "java/lang/String", name := "<init>", desc := "([CIILjava/lang/Void;)V" } : Jvm.MethodName) jdk_42_method_149_code (6 : Nat) (Option.none : Option Jvm.ClassFile.FieldType), Jvm.Cond.code ({ cls := "java/lang/Object", name := "<init>", desc := "()V" } : Jvm.MethodName) object_method_1_code (1 : Nat) (Option.none : Option Jvm.ClassFile.FieldType), Jvm.Cond.code ({ cls := "java/lang/StringUTF16", name := "compress", desc := "([CII)[B" } : Jvm.MethodName) jdk_52_method_16_code (6 : Nat) (Option.some (Jvm.ClassFile.FieldType.array Jvm.ClassFile.FieldType.byte)), Jvm.Cond.code ({ cls := "java/lang/StringUTF16", name := "compress", desc := "([CI[BII)I" } : Jvm.MethodName) jdk_52_method_21_code (7 : Nat) (Option.some Jvm.ClassFile.FieldType.int), Jvm.Cond.code ({ cls := "java/lang/StringUTF16", name := "coderFromArrayLen", desc := "([BI)B" } : Jvm.MethodName) jdk_52_method_15_code (2 : Nat) (Option.some Jvm.ClassFile.FieldType.byte), Jvm.Cond.code ({ cls := "com/example/exacting_validator/exactingvalidator/validator/Rfc3339IsFullDatePinLaw", name := "wellFormed", desc := "([C)Z" } : Jvm.MethodName) method_6_code (4 : Nat) (Option.some Jvm.ClassFile.FieldType.boolean), Jvm.Cond.code ({ cls := "com/example/exacting_validator/exactingvalidator/validator/Rfc3339IsFullDatePinLaw", name := "dig", desc := "(C)Z" } : Jvm.MethodName) method_4_code (1 : Nat) (Option.some Jvm.ClassFile.FieldType.boolean), Jvm.Cond.code ({ cls := "com/example/exacting_validator/exactingvalidator/validator/Rfc3339IsFullDatePinLaw", name := "val", desc := "(C)I" } : Jvm.MethodName) method_5_code (1 : Nat) (Option.some Jvm.ClassFile.FieldType.int), Jvm.Cond.code ({ cls := "com/example/exacting_validator/exactingvalidator/validator/Rfc3339IsFullDatePinLaw", name := "monthLength", desc := "(II)I" } : Jvm.MethodName) method_7_code (3 : Nat) (Option.some Jvm.ClassFile.FieldType.int), Jvm.Cond.code ({ cls := "com/example/exacting_validator/exactingvalidator/validator/Rfc3339", name := "isFullDate", desc := "(Ljava/lang/String;)Z" } : Jvm.MethodName) prog_7_method_3_code (1 : Nat) (Option.some Jvm.ClassFile.FieldType.boolean), Jvm.Cond.code ({ cls := "java/lang/String", name := "length", desc := "()I" } : Jvm.MethodName) jdk_42_method_54_code (1 : Nat) (Option.some Jvm.ClassFile.FieldType.int), Jvm.Cond.code ({ cls := "java/lang/String", name := "coder", desc := "()B" } : Jvm.MethodName) jdk_42_method_152_code (1 : Nat) (Option.some Jvm.ClassFile.FieldType.byte), Jvm.Cond.code ({ cls := "com/example/exacting_validator/exactingvalidator/validator/Rfc3339", name := "isFullDateAt", desc := "(Ljava/lang/String;I)Z" } : Jvm.MethodName) prog_7_method_6_code (5 : Nat) (Option.some Jvm.ClassFile.FieldType.boolean), Jvm.Cond.code ({ cls := "com/example/exacting_validator/exactingvalidator/validator/Rfc3339", name := "digits", desc := "(Ljava/lang/String;II)I" } : Jvm.MethodName) prog_7_method_11_code (6 : Nat) (Option.some Jvm.ClassFile.FieldType.int), Jvm.Cond.code ({ cls := "java/lang/String", name := "charAt", desc := "(I)C" } : Jvm.MethodName) jdk_42_method_56_code (2 : Nat) (Option.some Jvm.ClassFile.FieldType.char), Jvm.Cond.code ({ cls := "java/lang/String", name := "isLatin1", desc := "()Z" } : Jvm.MethodName) jdk_42_method_154_code (1 : Nat) (Option.some Jvm.ClassFile.FieldType.boolean), Jvm.Cond.code ({ cls := "java/lang/StringLatin1", name := "charAt", desc := "([BI)C" } : Jvm.MethodName) jdk_43_method_2_code (2 : Nat) (Option.some Jvm.ClassFile.FieldType.char), Jvm.Cond.code ({ cls := "java/lang/String", name := "checkIndex", desc := "(II)V" } : Jvm.MethodName) jdk_42_method_155_code (2 : Nat) (Option.none : Option Jvm.ClassFile.FieldType), Jvm.Cond.code ({ cls := "jdk/internal/util/Preconditions", name := "checkIndex", desc := "(IILjava/util/function/BiFunction;)I" } : Jvm.MethodName) jdk_41_method_11_code (3 : Nat) (Option.some Jvm.ClassFile.FieldType.int), Jvm.Cond.code ({ cls := "com/example/exacting_validator/exactingvalidator/validator/Rfc3339", name := "daysIn", desc := "(II)I" } : Jvm.MethodName) prog_7_method_7_code (4 : Nat) (Option.some Jvm.ClassFile.FieldType.int), Jvm.Cond.code ({ cls := "com/example/exacting_validator/exactingvalidator/validator/Rfc3339IsFullDatePinLaw", name := "drawn", desc := "(I)C" } : Jvm.MethodName) method_3_code (3 : Nat) (Option.some Jvm.ClassFile.FieldType.char)]
set_option maxRecDepth 65536 in
theorem codes_eq : words1.filter isCode = codes1 := rfl
theorem w_codes : ∀ c ∈ words1.filter isCode, c.before args0 about1 = true := by
  rw [codes_eq]
  intro c hc
  simp only [codes1, List.mem_cons, List.not_mem_nil, or_false] at hc
  rcases hc with rfl | rfl | rfl | rfl | rfl | rfl | rfl | rfl | rfl | rfl | rfl | rfl | rfl | rfl | rfl | rfl | rfl | rfl | rfl | rfl | rfl | rfl | rfl
  · exact w_c0
  · exact w_c1
  · exact w_c2
  · exact w_c3
  · exact w_c4
  · exact w_c5
  · exact w_c6
  · exact w_c7
  · exact w_c8
  · exact w_c9
  · exact w_c10
  · exact w_c11
  · exact w_c12
  · exact w_c13
  · exact w_c14
  · exact w_c15
  · exact w_c16
  · exact w_c17
  · exact w_c18
  · exact w_c19
  · exact w_c20
  · exact w_c21
  · exact w_c22
set_option maxRecDepth 65536 in
theorem w_t1 : (words1.take 24).all (fun c => isCode c || c.before args0 about1) = true := by decide +kernel
set_option maxRecDepth 65536 in
theorem w_t2 : ((words1.drop 24).take 24).all (fun c => isCode c || c.before args0 about1) = true := by decide +kernel
set_option maxRecDepth 65536 in
theorem w_t3 : (((words1.drop 24).drop 24).take 24).all (fun c => isCode c || c.before args0 about1) = true := by decide +kernel
set_option maxRecDepth 65536 in
theorem w_t4 : (((words1.drop 24).drop 24).drop 24).all (fun c => isCode c || c.before args0 about1) = true := by decide +kernel
theorem w_tables : (allAtoms (Jvm.Cond.code x code maxLocals ret :: tables_1)).before args0 about1 = true := by
  rw [allAtoms_all]
  show words1.all (fun c => c.before args0 about1) = true
  refine all_split ?_ w_codes
  rw [← List.take_append_drop 24 words1, List.all_append, w_t1, ← List.take_append_drop 24 (words1.drop 24), List.all_append, w_t2, ← List.take_append_drop 24 ((words1.drop 24).drop 24), List.all_append, w_t3, w_t4]
  rfl
set_option maxRecDepth 65536 in
theorem w_rest : rest_1_c.before args0 about1 = true := by decide +kernel
set_option maxRecDepth 65536 in
theorem w_case : (Jvm.Cond.and given_1 narrow_1).before args0 about1 = true := by decide +kernel
theorem w_applies : (headSpec (Jvm.Cond.code x code maxLocals ret :: tables_1) room_1).applies x e0.platform about1 = true :=
  (Spec.applies_iff w_frames).mpr ⟨w_running, w_runnable, w_alone, w_named, w_hears, w_ripe, w_room, w_tables⟩
theorem atStart : AtStart classFile x code maxLocals ret World_1 tables_1 room_1 Calls_1 rest_1 Pre_1 launch0 p0 e0 about1 theMethod args0 below0 :=
  ⟨lists_1, trivial, launch0.admits_env _ _ _, launch0.least_env, fairChoices_fair.cas, fairChoices_fair.clock, w_frames, w_args, w_heap, w_applies, trivial, w_rest, w_case⟩
end start1
theorem witness_1 : WitnessClaimed_1 := ⟨start1.p0, start1.e0, start1.about1, start1.theMethod, start1.args0, start1.below0, start1.atStart⟩
end Jvm.Pilot.@@N@@
