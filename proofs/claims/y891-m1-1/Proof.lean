import JvmDerived
import JvmDerived.Pilot.@@N@@Statement
import JvmDerived.Pilot.@@N@@Code
set_option linter.unusedVariables false
set_option linter.unusedSimpArgs false
namespace Jvm.RoadKit
open Sem ClassFile Op Lib Jvm.Stand Jvm.Free Jvm.LawKit
section New
variable {p : Program} {l : Launch} {e : Env} {R : Room} {s : State} {m : MethodId} {args : Array Value} {below : List Frame} {meth : Method} {c : Code} {T : State} {locs : List Loc} {cells slots : Nat}
theorem retI (X : Stand p l e R s m args below meth c T locs cells slots) (hx : p.tables.exec = Jvm.exec) {pc : Nat} {Ls : Array Slot} {z : Int32} {rest : List Value} (hret : meth.sig.returnType = some .int) (hd : decode c.code pc = .ok (.ireturn, 1)) {fs : List Frame}
    (hl : ∀ (f : JFrame) (acts : List Action), f.method = m → f.locked = none → f.entered = [] → (doReturn e (T.setTop f) acts (some (.int z))).1 = T.setFrames fs) : Steps p.tables e below (T.setTop (mkF m pc Ls (.int z :: rest))) (T.setFrames fs) := by
  have hm' : T.vm.method? m = some meth := X.method'
  have hn : narrow .int (.int z) = .int z := rfl
  show Steps p.tables e below (T.setTop { method := m, pc := pc, locals := Ls, stack := _ :: rest, locked := none }) _
  jvm_step X.here [X.here.top, hx, hd, hm', hret, hn]
  first | (intro acts; rw [hl _ acts rfl rfl rfl]) | rw [hl _ _ rfl rfl rfl]
  exact Steps.refl _
end New
end Jvm.RoadKit
namespace Jvm.Pilot.@@N@@
open Jvm Jvm.ClassFile Sem Op Lib Jvm.Free Jvm.Stand Jvm.LawKit Jvm.RoadKit Bundle Jvm.Pilot.@@N@@.Jvm.D
section Own
variable {p : Program} {l : Launch} {e : Env} {R : Room} {s : State} {m : MethodId} {args : Array Value} {below : List Frame} {meth : Method} {c : Code} {T T' : State} {locs : List Loc} {cells slots : Nat} {Q : Option Value → Heap → List Loc → Prop} {kc ks : Nat} {pc pc' : Nat} {ls : Array Slot} {st : List Value}
/-- from T with the frame g on top the run comes to its end, as Q asks -/
def own_Ends (p : Program) (e : Env) (below : List Frame) (s : State) (Q : Option Value → Heap → List Loc → Prop) (kc ks : Nat) (T : State) (g : JFrame) : Prop :=
  ∃ s₂ o, Steps p.tables e below (T.setTop g) s₂ ∧ s₂.status = .running ∧ Ended s₂ below o ∧ ∃ v L, o = .returned v ∧ Q v s₂.heap L ∧ FrameEnd s o s₂ L kc ks
theorem own_go {g g' : JFrame} (h : ∀ t, Steps p.tables e below (T'.setTop g') t → Steps p.tables e below (T.setTop g) t) (K : own_Ends p e below s Q kc ks T' g') : own_Ends p e below s Q kc ks T g := by
  obtain ⟨s2, o, h1, r⟩ := K
  exact ⟨s2, o, h _ h1, r⟩
theorem own_cast {g g' : JFrame} (q : g = g') (K : own_Ends p e below s Q kc ks T g') : own_Ends p e below s Q kc ks T g := q ▸ K
theorem own_leave {v : Option Value} {g : JFrame} (X : Stand p l e R s m args below meth c T locs cells slots) (hlk : meth.locks = false) (hv : meth.sig.returnType = none → v = none)
    (hs : ∀ fs, (∀ (f : JFrame) (acts : List Action), f.method = m → f.locked = none → f.entered = [] → (doReturn e (T.setTop f) acts v).1 = T.setFrames fs) → Steps p.tables e below (T.setTop g) (T.setFrames fs)) (hc : cells ≤ kc) (hn : slots ≤ ks) (hQ : Q v T.heap locs) : own_Ends p e below s Q kc ks T g := by
  obtain ⟨fs, hr, hrun, hended, hW, hsame⟩ := X.leave (v := v) hv hlk
  exact ⟨_, _, hs fs hr, hrun, hended, _, _, rfl, hQ, ⟨_, rfl⟩, hW, hsame.mono hc hn⟩
theorem own_retI (X : Stand p l e R s m args below meth c T locs cells slots) (hx : p.tables.exec = Jvm.exec) (hlk : meth.locks = false) {z : Int32} (hret : meth.sig.returnType = some .int) (hd : decode c.code pc = .ok (.ireturn, 1)) (hc : cells ≤ kc) (hn : slots ≤ ks) (hQ : Q (some (.int z)) T.heap locs) : own_Ends p e below s Q kc ks T (mkF m pc ls (.int z :: st)) :=
  own_leave X hlk (fun h => by rw [hret] at h; cases h) (fun fs hr => retI X hx hret hd hr) hc hn hQ
theorem own_retN (X : Stand p l e R s m args below meth c T locs cells slots) (hx : p.tables.exec = Jvm.exec) (hlk : meth.locks = false) {z : Int32} {ty : FieldType} (hret : meth.sig.returnType = some ty) (ht : ty = .boolean ∨ ty = .byte ∨ ty = .char ∨ ty = .short) (hd : decode c.code pc = .ok (.ireturn, 1)) (hc : cells ≤ kc) (hn : slots ≤ ks) (hQ : Q (some (.int (nar ty z))) T.heap locs) : own_Ends p e below s Q kc ks T (mkF m pc ls (.int z :: st)) :=
  own_leave X hlk (fun h => by rw [hret] at h; cases h) (fun fs hr => retN X hx (t := ty) hret ht hd hr) hc hn hQ
theorem own_retL (X : Stand p l e R s m args below meth c T locs cells slots) (hx : p.tables.exec = Jvm.exec) (hlk : meth.locks = false) {z : Int64} (hret : meth.sig.returnType = some .long) (hd : decode c.code pc = .ok (.lreturn, 1)) (hc : cells ≤ kc) (hn : slots ≤ ks) (hQ : Q (some (.long z)) T.heap locs) : own_Ends p e below s Q kc ks T (mkF m pc ls [.long z]) :=
  own_leave X hlk (fun h => by rw [hret] at h; cases h) (fun fs hr => retOut X hx (t := .long) hret rfl (Or.inr (Or.inl ⟨rfl, rfl, _, rfl⟩)) hd hr) hc hn hQ
theorem own_retD (X : Stand p l e R s m args below meth c T locs cells slots) (hx : p.tables.exec = Jvm.exec) (hlk : meth.locks = false) {z : UInt64} (hret : meth.sig.returnType = some .double) (hd : decode c.code pc = .ok (.dreturn, 1)) (hc : cells ≤ kc) (hn : slots ≤ ks) (hQ : Q (some (.double z)) T.heap locs) : own_Ends p e below s Q kc ks T (mkF m pc ls [.double z]) :=
  own_leave X hlk (fun h => by rw [hret] at h; cases h) (fun fs hr => retOut X hx (t := .double) hret rfl (Or.inr (Or.inr (Or.inl ⟨rfl, rfl, _, rfl⟩))) hd hr) hc hn hQ
theorem own_retA (X : Stand p l e R s m args below meth c T locs cells slots) (hx : p.tables.exec = Jvm.exec) (hlk : meth.locks = false) {w : Value} {ty : FieldType} (hret : meth.sig.returnType = some ty) (ht : ty.isReference = true) (hw : w.isRef = true) (hn1 : narrow ty w = w) (hd : decode c.code pc = .ok (.areturn, 1)) (hc : cells ≤ kc) (hn : slots ≤ ks) (hQ : Q (some w) T.heap locs) : own_Ends p e below s Q kc ks T (mkF m pc ls (w :: st)) :=
  own_leave X hlk (fun h => by rw [hret] at h; cases h) (fun fs hr => retOut X hx (t := ty) hret hn1 (Or.inr (Or.inr (Or.inr (Or.inr ⟨rfl, ht, hw⟩)))) hd hr) hc hn hQ
theorem own_retV (X : Stand p l e R s m args below meth c T locs cells slots) (hx : p.tables.exec = Jvm.exec) (hlk : meth.locks = false) (hret : meth.sig.returnType = none) (hd : decode c.code pc = .ok (.return_, 1)) (hc : cells ≤ kc) (hn : slots ≤ ks) (hQ : Q none T.heap locs) : own_Ends p e below s Q kc ks T (mkF m pc ls []) :=
  own_leave X hlk (fun _ => rfl) (fun fs hr => X.returnOut hx hret hd hr) hc hn hQ
theorem own_iloadN (X : Stand p l e R s m args below meth c T locs cells slots) (hx : p.tables.exec = Jvm.exec) {k : Fin 4} {v : Int32} (hd : decode c.code pc = .ok (.iload_n k, 1)) (hp : pc + 1 = pc') (hl : ls[k.val]? = some (.val (.int v))) (K : own_Ends p e below s Q kc ks T (mkF m pc' ls (.int v :: st))) : own_Ends p e below s Q kc ks T (mkF m pc ls st) := by
  subst hp
  exact own_go (fun t k => XS.iloadN X.here hx rfl hd hl k) K
theorem own_iload (X : Stand p l e R s m args below meth c T locs cells slots) (hx : p.tables.exec = Jvm.exec) {k : Nat} {v : Int32} (hd : decode c.code pc = .ok (.iload k, 2)) (hp : pc + 2 = pc') (hl : ls[k]? = some (.val (.int v))) (K : own_Ends p e below s Q kc ks T (mkF m pc' ls (.int v :: st))) : own_Ends p e below s Q kc ks T (mkF m pc ls st) := by
  subst hp
  exact own_go (fun t k => XS.iload X.here hx rfl hd hl k) K
theorem own_istoreN (X : Stand p l e R s m args below meth c T locs cells slots) (hx : p.tables.exec = Jvm.exec) {k : Fin 4} {v : Int32} {l' : Array Slot} (hd : decode c.code pc = .ok (.istore_n k, 1)) (hp : pc + 1 = pc') (hl : storeLocals ls k.val (.int v) = some l') (K : own_Ends p e below s Q kc ks T (mkF m pc' l' st)) : own_Ends p e below s Q kc ks T (mkF m pc ls (.int v :: st)) := by
  subst hp
  exact own_go (fun t k => XS.istoreN X.here hx rfl hd rfl hl k) K
theorem own_istore (X : Stand p l e R s m args below meth c T locs cells slots) (hx : p.tables.exec = Jvm.exec) {k : Nat} {v : Int32} {l' : Array Slot} (hd : decode c.code pc = .ok (.istore k, 2)) (hp : pc + 2 = pc') (hl : storeLocals ls k (.int v) = some l') (K : own_Ends p e below s Q kc ks T (mkF m pc' l' st)) : own_Ends p e below s Q kc ks T (mkF m pc ls (.int v :: st)) := by
  subst hp
  exact own_go (fun t k => XS.istore X.here hx rfl hd rfl hl k) K
theorem own_lloadN (X : Stand p l e R s m args below meth c T locs cells slots) (hx : p.tables.exec = Jvm.exec) {k : Fin 4} {v : Int64} (hd : decode c.code pc = .ok (.lload_n k, 1)) (hp : pc + 1 = pc') (hl : ls[k.val]? = some (.val (.long v))) (K : own_Ends p e below s Q kc ks T (mkF m pc' ls (.long v :: st))) : own_Ends p e below s Q kc ks T (mkF m pc ls st) := by
  subst hp
  exact own_go (fun t k => XS.lloadN X.here hx rfl hd hl k) K
theorem own_lload (X : Stand p l e R s m args below meth c T locs cells slots) (hx : p.tables.exec = Jvm.exec) {k : Nat} {v : Int64} (hd : decode c.code pc = .ok (.lload k, 2)) (hp : pc + 2 = pc') (hl : ls[k]? = some (.val (.long v))) (K : own_Ends p e below s Q kc ks T (mkF m pc' ls (.long v :: st))) : own_Ends p e below s Q kc ks T (mkF m pc ls st) := by
  subst hp
  exact own_go (fun t k => XS.lload X.here hx rfl hd hl k) K
theorem own_lstoreN (X : Stand p l e R s m args below meth c T locs cells slots) (hx : p.tables.exec = Jvm.exec) {k : Fin 4} {v : Int64} {l' : Array Slot} (hd : decode c.code pc = .ok (.lstore_n k, 1)) (hp : pc + 1 = pc') (hl : storeLocals ls k.val (.long v) = some l') (K : own_Ends p e below s Q kc ks T (mkF m pc' l' st)) : own_Ends p e below s Q kc ks T (mkF m pc ls (.long v :: st)) := by
  subst hp
  exact own_go (fun t k => XS.lstoreN X.here hx rfl hd rfl hl k) K
theorem own_lstore (X : Stand p l e R s m args below meth c T locs cells slots) (hx : p.tables.exec = Jvm.exec) {k : Nat} {v : Int64} {l' : Array Slot} (hd : decode c.code pc = .ok (.lstore k, 2)) (hp : pc + 2 = pc') (hl : storeLocals ls k (.long v) = some l') (K : own_Ends p e below s Q kc ks T (mkF m pc' l' st)) : own_Ends p e below s Q kc ks T (mkF m pc ls (.long v :: st)) := by
  subst hp
  exact own_go (fun t k => XS.lstore X.here hx rfl hd rfl hl k) K
theorem own_dloadN (X : Stand p l e R s m args below meth c T locs cells slots) (hx : p.tables.exec = Jvm.exec) {k : Fin 4} {v : UInt64} (hd : decode c.code pc = .ok (.dload_n k, 1)) (hp : pc + 1 = pc') (hl : ls[k.val]? = some (.val (.double v))) (K : own_Ends p e below s Q kc ks T (mkF m pc' ls (.double v :: st))) : own_Ends p e below s Q kc ks T (mkF m pc ls st) := by
  subst hp
  exact own_go (fun t k => XS.dloadN X.here hx rfl hd hl k) K
theorem own_dload (X : Stand p l e R s m args below meth c T locs cells slots) (hx : p.tables.exec = Jvm.exec) {k : Nat} {v : UInt64} (hd : decode c.code pc = .ok (.dload k, 2)) (hp : pc + 2 = pc') (hl : ls[k]? = some (.val (.double v))) (K : own_Ends p e below s Q kc ks T (mkF m pc' ls (.double v :: st))) : own_Ends p e below s Q kc ks T (mkF m pc ls st) := by
  subst hp
  exact own_go (fun t k => XS.dload X.here hx rfl hd hl k) K
theorem own_dstoreN (X : Stand p l e R s m args below meth c T locs cells slots) (hx : p.tables.exec = Jvm.exec) {k : Fin 4} {v : UInt64} {l' : Array Slot} (hd : decode c.code pc = .ok (.dstore_n k, 1)) (hp : pc + 1 = pc') (hl : storeLocals ls k.val (.double v) = some l') (K : own_Ends p e below s Q kc ks T (mkF m pc' l' st)) : own_Ends p e below s Q kc ks T (mkF m pc ls (.double v :: st)) := by
  subst hp
  exact own_go (fun t k => XS.dstoreN X.here hx rfl hd rfl hl k) K
theorem own_dstore (X : Stand p l e R s m args below meth c T locs cells slots) (hx : p.tables.exec = Jvm.exec) {k : Nat} {v : UInt64} {l' : Array Slot} (hd : decode c.code pc = .ok (.dstore k, 2)) (hp : pc + 2 = pc') (hl : storeLocals ls k (.double v) = some l') (K : own_Ends p e below s Q kc ks T (mkF m pc' l' st)) : own_Ends p e below s Q kc ks T (mkF m pc ls (.double v :: st)) := by
  subst hp
  exact own_go (fun t k => XS.dstore X.here hx rfl hd rfl hl k) K
theorem own_aloadN (X : Stand p l e R s m args below meth c T locs cells slots) (hx : p.tables.exec = Jvm.exec) {k : Fin 4} {v : Value} (hd : decode c.code pc = .ok (.aload_n k, 1)) (hp : pc + 1 = pc') (hl : ls[k.val]? = some (.val v)) (hv : v.isRef = true) (K : own_Ends p e below s Q kc ks T (mkF m pc' ls (v :: st))) : own_Ends p e below s Q kc ks T (mkF m pc ls st) := by
  subst hp
  exact own_go (fun t k => XS.aloadN X.here hx rfl hd hl hv k) K
theorem own_aload (X : Stand p l e R s m args below meth c T locs cells slots) (hx : p.tables.exec = Jvm.exec) {k : Nat} {v : Value} (hd : decode c.code pc = .ok (.aload k, 2)) (hp : pc + 2 = pc') (hl : ls[k]? = some (.val v)) (hv : v.isRef = true) (K : own_Ends p e below s Q kc ks T (mkF m pc' ls (v :: st))) : own_Ends p e below s Q kc ks T (mkF m pc ls st) := by
  subst hp
  exact own_go (fun t k => XS.aload X.here hx rfl hd hl hv k) K
theorem own_astoreN (X : Stand p l e R s m args below meth c T locs cells slots) (hx : p.tables.exec = Jvm.exec) {k : Fin 4} {v : Value} {l' : Array Slot} (hd : decode c.code pc = .ok (.astore_n k, 1)) (hp : pc + 1 = pc') (hv : v.isRef = true) (hl : storeLocals ls k.val v = some l') (K : own_Ends p e below s Q kc ks T (mkF m pc' l' st)) : own_Ends p e below s Q kc ks T (mkF m pc ls (v :: st)) := by
  subst hp
  exact own_go (fun t k => XS.astoreN X.here hx rfl hd rfl hv hl k) K
theorem own_astore (X : Stand p l e R s m args below meth c T locs cells slots) (hx : p.tables.exec = Jvm.exec) {k : Nat} {v : Value} {l' : Array Slot} (hd : decode c.code pc = .ok (.astore k, 2)) (hp : pc + 2 = pc') (hv : v.isRef = true) (hl : storeLocals ls k v = some l') (K : own_Ends p e below s Q kc ks T (mkF m pc' l' st)) : own_Ends p e below s Q kc ks T (mkF m pc ls (v :: st)) := by
  subst hp
  exact own_go (fun t k => XS.astore X.here hx rfl hd rfl hv hl k) K
theorem own_iconst (X : Stand p l e R s m args below meth c T locs cells slots) (hx : p.tables.exec = Jvm.exec) {i : Int} {z : Int32} (hd : decode c.code pc = .ok (.iconst i, 1)) (hp : pc + 1 = pc') (hz : Int32.ofInt i = z) (K : own_Ends p e below s Q kc ks T (mkF m pc' ls (.int z :: st))) : own_Ends p e below s Q kc ks T (mkF m pc ls st) := by
  subst hp hz
  exact own_go (fun t k => XS.iconst X.here hx rfl hd k) K
theorem own_bipush (X : Stand p l e R s m args below meth c T locs cells slots) (hx : p.tables.exec = Jvm.exec) {i : Int} {z : Int32} (hd : decode c.code pc = .ok (.bipush i, 2)) (hp : pc + 2 = pc') (hz : (Int8.ofInt i).toInt32 = z) (K : own_Ends p e below s Q kc ks T (mkF m pc' ls (.int z :: st))) : own_Ends p e below s Q kc ks T (mkF m pc ls st) := by
  subst hp hz
  exact own_go (fun t k => XS.bipush X.here hx rfl hd k) K
theorem own_sipush (X : Stand p l e R s m args below meth c T locs cells slots) (hx : p.tables.exec = Jvm.exec) {i : Int} {z : Int32} (hd : decode c.code pc = .ok (.sipush i, 3)) (hp : pc + 3 = pc') (hz : (Int16.ofInt i).toInt32 = z) (K : own_Ends p e below s Q kc ks T (mkF m pc' ls (.int z :: st))) : own_Ends p e below s Q kc ks T (mkF m pc ls st) := by
  subst hp hz
  exact own_go (fun t k => XS.sipush X.here hx rfl hd k) K
theorem own_lconst (X : Stand p l e R s m args below meth c T locs cells slots) (hx : p.tables.exec = Jvm.exec) {k : Fin 2} {z : Int64} (hd : decode c.code pc = .ok (.lconst k, 1)) (hp : pc + 1 = pc') (hz : Int64.ofNat k = z) (K : own_Ends p e below s Q kc ks T (mkF m pc' ls (.long z :: st))) : own_Ends p e below s Q kc ks T (mkF m pc ls st) := by
  subst hp hz
  exact own_go (fun t k => XS.lconst X.here hx rfl hd k) K
theorem own_anull (X : Stand p l e R s m args below meth c T locs cells slots) (hx : p.tables.exec = Jvm.exec) (hd : decode c.code pc = .ok (.aconst_null, 1)) (hp : pc + 1 = pc')  (K : own_Ends p e below s Q kc ks T (mkF m pc' ls (.null :: st))) : own_Ends p e below s Q kc ks T (mkF m pc ls st) := by
  subst hp
  exact own_go (fun t k => XS.aconstNull X.here hx rfl hd k) K
theorem own_iadd (X : Stand p l e R s m args below meth c T locs cells slots) (hx : p.tables.exec = Jvm.exec) {x y z : Int32} (hd : decode c.code pc = .ok (.iadd, 1)) (hp : pc + 1 = pc') (hz : x + y = z) (K : own_Ends p e below s Q kc ks T (mkF m pc' ls (.int z :: st))) : own_Ends p e below s Q kc ks T (mkF m pc ls (.int y :: .int x :: st)) := by
  subst hp hz
  exact own_go (fun t k => XS.iadd X.here hx rfl hd rfl k) K
theorem own_ladd (X : Stand p l e R s m args below meth c T locs cells slots) (hx : p.tables.exec = Jvm.exec) {x y z : Int64} (hd : decode c.code pc = .ok (.ladd, 1)) (hp : pc + 1 = pc') (hz : x + y = z) (K : own_Ends p e below s Q kc ks T (mkF m pc' ls (.long z :: st))) : own_Ends p e below s Q kc ks T (mkF m pc ls (.long y :: .long x :: st)) := by
  subst hp hz
  exact own_go (fun t k => XS.ladd X.here hx rfl hd rfl k) K
theorem own_isub (X : Stand p l e R s m args below meth c T locs cells slots) (hx : p.tables.exec = Jvm.exec) {x y z : Int32} (hd : decode c.code pc = .ok (.isub, 1)) (hp : pc + 1 = pc') (hz : x - y = z) (K : own_Ends p e below s Q kc ks T (mkF m pc' ls (.int z :: st))) : own_Ends p e below s Q kc ks T (mkF m pc ls (.int y :: .int x :: st)) := by
  subst hp hz
  exact own_go (fun t k => XS.isub X.here hx rfl hd rfl k) K
theorem own_lsub (X : Stand p l e R s m args below meth c T locs cells slots) (hx : p.tables.exec = Jvm.exec) {x y z : Int64} (hd : decode c.code pc = .ok (.lsub, 1)) (hp : pc + 1 = pc') (hz : x - y = z) (K : own_Ends p e below s Q kc ks T (mkF m pc' ls (.long z :: st))) : own_Ends p e below s Q kc ks T (mkF m pc ls (.long y :: .long x :: st)) := by
  subst hp hz
  exact own_go (fun t k => XS.lsub X.here hx rfl hd rfl k) K
theorem own_imul (X : Stand p l e R s m args below meth c T locs cells slots) (hx : p.tables.exec = Jvm.exec) {x y z : Int32} (hd : decode c.code pc = .ok (.imul, 1)) (hp : pc + 1 = pc') (hz : x * y = z) (K : own_Ends p e below s Q kc ks T (mkF m pc' ls (.int z :: st))) : own_Ends p e below s Q kc ks T (mkF m pc ls (.int y :: .int x :: st)) := by
  subst hp hz
  exact own_go (fun t k => XS.imul X.here hx rfl hd rfl k) K
theorem own_lmul (X : Stand p l e R s m args below meth c T locs cells slots) (hx : p.tables.exec = Jvm.exec) {x y z : Int64} (hd : decode c.code pc = .ok (.lmul, 1)) (hp : pc + 1 = pc') (hz : x * y = z) (K : own_Ends p e below s Q kc ks T (mkF m pc' ls (.long z :: st))) : own_Ends p e below s Q kc ks T (mkF m pc ls (.long y :: .long x :: st)) := by
  subst hp hz
  exact own_go (fun t k => XS.lmul X.here hx rfl hd rfl k) K
theorem own_iand (X : Stand p l e R s m args below meth c T locs cells slots) (hx : p.tables.exec = Jvm.exec) {x y z : Int32} (hd : decode c.code pc = .ok (.iand, 1)) (hp : pc + 1 = pc') (hz : x &&& y = z) (K : own_Ends p e below s Q kc ks T (mkF m pc' ls (.int z :: st))) : own_Ends p e below s Q kc ks T (mkF m pc ls (.int y :: .int x :: st)) := by
  subst hp hz
  exact own_go (fun t k => XS.iand X.here hx rfl hd rfl k) K
theorem own_land (X : Stand p l e R s m args below meth c T locs cells slots) (hx : p.tables.exec = Jvm.exec) {x y z : Int64} (hd : decode c.code pc = .ok (.land, 1)) (hp : pc + 1 = pc') (hz : x &&& y = z) (K : own_Ends p e below s Q kc ks T (mkF m pc' ls (.long z :: st))) : own_Ends p e below s Q kc ks T (mkF m pc ls (.long y :: .long x :: st)) := by
  subst hp hz
  exact own_go (fun t k => XS.land X.here hx rfl hd rfl k) K
theorem own_ior (X : Stand p l e R s m args below meth c T locs cells slots) (hx : p.tables.exec = Jvm.exec) {x y z : Int32} (hd : decode c.code pc = .ok (.ior, 1)) (hp : pc + 1 = pc') (hz : x ||| y = z) (K : own_Ends p e below s Q kc ks T (mkF m pc' ls (.int z :: st))) : own_Ends p e below s Q kc ks T (mkF m pc ls (.int y :: .int x :: st)) := by
  subst hp hz
  exact own_go (fun t k => XS.ior X.here hx rfl hd rfl k) K
theorem own_lor (X : Stand p l e R s m args below meth c T locs cells slots) (hx : p.tables.exec = Jvm.exec) {x y z : Int64} (hd : decode c.code pc = .ok (.lor, 1)) (hp : pc + 1 = pc') (hz : x ||| y = z) (K : own_Ends p e below s Q kc ks T (mkF m pc' ls (.long z :: st))) : own_Ends p e below s Q kc ks T (mkF m pc ls (.long y :: .long x :: st)) := by
  subst hp hz
  exact own_go (fun t k => XS.lor X.here hx rfl hd rfl k) K
theorem own_ixor (X : Stand p l e R s m args below meth c T locs cells slots) (hx : p.tables.exec = Jvm.exec) {x y z : Int32} (hd : decode c.code pc = .ok (.ixor, 1)) (hp : pc + 1 = pc') (hz : x ^^^ y = z) (K : own_Ends p e below s Q kc ks T (mkF m pc' ls (.int z :: st))) : own_Ends p e below s Q kc ks T (mkF m pc ls (.int y :: .int x :: st)) := by
  subst hp hz
  exact own_go (fun t k => XS.ixor X.here hx rfl hd rfl k) K
theorem own_lxor (X : Stand p l e R s m args below meth c T locs cells slots) (hx : p.tables.exec = Jvm.exec) {x y z : Int64} (hd : decode c.code pc = .ok (.lxor, 1)) (hp : pc + 1 = pc') (hz : x ^^^ y = z) (K : own_Ends p e below s Q kc ks T (mkF m pc' ls (.long z :: st))) : own_Ends p e below s Q kc ks T (mkF m pc ls (.long y :: .long x :: st)) := by
  subst hp hz
  exact own_go (fun t k => XS.lxor X.here hx rfl hd rfl k) K
theorem own_ishl (X : Stand p l e R s m args below meth c T locs cells slots) (hx : p.tables.exec = Jvm.exec) {x y z : Int32} (hd : decode c.code pc = .ok (.ishl, 1)) (hp : pc + 1 = pc') (hz : x <<< (y &&& 31) = z) (K : own_Ends p e below s Q kc ks T (mkF m pc' ls (.int z :: st))) : own_Ends p e below s Q kc ks T (mkF m pc ls (.int y :: .int x :: st)) := by
  subst hp hz
  exact own_go (fun t k => XS.ishl X.here hx rfl hd rfl k) K
theorem own_ishr (X : Stand p l e R s m args below meth c T locs cells slots) (hx : p.tables.exec = Jvm.exec) {x y z : Int32} (hd : decode c.code pc = .ok (.ishr, 1)) (hp : pc + 1 = pc') (hz : x >>> (y &&& 31) = z) (K : own_Ends p e below s Q kc ks T (mkF m pc' ls (.int z :: st))) : own_Ends p e below s Q kc ks T (mkF m pc ls (.int y :: .int x :: st)) := by
  subst hp hz
  exact own_go (fun t k => XS.ishr X.here hx rfl hd rfl k) K
theorem own_iushr (X : Stand p l e R s m args below meth c T locs cells slots) (hx : p.tables.exec = Jvm.exec) {x y z : Int32} (hd : decode c.code pc = .ok (.iushr, 1)) (hp : pc + 1 = pc') (hz : (x.toUInt32 >>> (y &&& 31).toUInt32).toInt32 = z) (K : own_Ends p e below s Q kc ks T (mkF m pc' ls (.int z :: st))) : own_Ends p e below s Q kc ks T (mkF m pc ls (.int y :: .int x :: st)) := by
  subst hp hz
  exact own_go (fun t k => XS.iushr X.here hx rfl hd rfl k) K
theorem own_lshl (X : Stand p l e R s m args below meth c T locs cells slots) (hx : p.tables.exec = Jvm.exec) {x z : Int64} {y : Int32} (hd : decode c.code pc = .ok (.lshl, 1)) (hp : pc + 1 = pc') (hz : x <<< (y &&& 0x3f).toInt64 = z) (K : own_Ends p e below s Q kc ks T (mkF m pc' ls (.long z :: st))) : own_Ends p e below s Q kc ks T (mkF m pc ls (.int y :: .long x :: st)) := by
  subst hp hz
  exact own_go (fun t k => XS.lshl X.here hx rfl hd rfl k) K
theorem own_lshr (X : Stand p l e R s m args below meth c T locs cells slots) (hx : p.tables.exec = Jvm.exec) {x z : Int64} {y : Int32} (hd : decode c.code pc = .ok (.lshr, 1)) (hp : pc + 1 = pc') (hz : x >>> (y &&& 0x3f).toInt64 = z) (K : own_Ends p e below s Q kc ks T (mkF m pc' ls (.long z :: st))) : own_Ends p e below s Q kc ks T (mkF m pc ls (.int y :: .long x :: st)) := by
  subst hp hz
  exact own_go (fun t k => XS.lshr X.here hx rfl hd rfl k) K
theorem own_lushr (X : Stand p l e R s m args below meth c T locs cells slots) (hx : p.tables.exec = Jvm.exec) {x z : Int64} {y : Int32} (hd : decode c.code pc = .ok (.lushr, 1)) (hp : pc + 1 = pc') (hz : (x.toUInt64 >>> (y &&& 0x3f).toInt64.toUInt64).toInt64 = z) (K : own_Ends p e below s Q kc ks T (mkF m pc' ls (.long z :: st))) : own_Ends p e below s Q kc ks T (mkF m pc ls (.int y :: .long x :: st)) := by
  subst hp hz
  exact own_go (fun t k => XS.lushr X.here hx rfl hd rfl k) K
theorem own_idiv (X : Stand p l e R s m args below meth c T locs cells slots) (hx : p.tables.exec = Jvm.exec) {x y z : Int32} (hd : decode c.code pc = .ok (.idiv, 1)) (hp : pc + 1 = pc') (hy : y ≠ 0) (hz : x / y = z) (K : own_Ends p e below s Q kc ks T (mkF m pc' ls (.int z :: st))) : own_Ends p e below s Q kc ks T (mkF m pc ls (.int y :: .int x :: st)) := by
  subst hp hz
  exact own_go (fun t k => XS.idiv X.here hx rfl hd rfl hy k) K
theorem own_irem (X : Stand p l e R s m args below meth c T locs cells slots) (hx : p.tables.exec = Jvm.exec) {x y z : Int32} (hd : decode c.code pc = .ok (.irem, 1)) (hp : pc + 1 = pc') (hy : y ≠ 0) (hz : x % y = z) (K : own_Ends p e below s Q kc ks T (mkF m pc' ls (.int z :: st))) : own_Ends p e below s Q kc ks T (mkF m pc ls (.int y :: .int x :: st)) := by
  subst hp hz
  exact own_go (fun t k => iremM (g := mkF m pc ls (.int y :: .int x :: st)) X hx rfl hd rfl hy k) K
theorem own_ldiv (X : Stand p l e R s m args below meth c T locs cells slots) (hx : p.tables.exec = Jvm.exec) {x y z : Int64} (hd : decode c.code pc = .ok (.ldiv, 1)) (hp : pc + 1 = pc') (hy : y ≠ 0) (hz : x / y = z) (K : own_Ends p e below s Q kc ks T (mkF m pc' ls (.long z :: st))) : own_Ends p e below s Q kc ks T (mkF m pc ls (.long y :: .long x :: st)) := by
  subst hp hz
  exact own_go (fun t k => XS.ldiv X.here hx rfl hd rfl hy k) K
theorem own_lrem (X : Stand p l e R s m args below meth c T locs cells slots) (hx : p.tables.exec = Jvm.exec) {x y z : Int64} (hd : decode c.code pc = .ok (.lrem, 1)) (hp : pc + 1 = pc') (hy : y ≠ 0) (hz : x - (x / y) * y = z) (K : own_Ends p e below s Q kc ks T (mkF m pc' ls (.long z :: st))) : own_Ends p e below s Q kc ks T (mkF m pc ls (.long y :: .long x :: st)) := by
  subst hp hz
  exact own_go (fun t k => XS.lrem X.here hx rfl hd rfl hy k) K
theorem own_ineg (X : Stand p l e R s m args below meth c T locs cells slots) (hx : p.tables.exec = Jvm.exec) {x : Int32} {z : Int32} (hd : decode c.code pc = .ok (.ineg, 1)) (hp : pc + 1 = pc') (hz : -x = z) (K : own_Ends p e below s Q kc ks T (mkF m pc' ls (.int z :: st))) : own_Ends p e below s Q kc ks T (mkF m pc ls (.int x :: st)) := by
  subst hp hz
  exact own_go (fun t k => XS.ineg X.here hx rfl hd rfl k) K
theorem own_lneg (X : Stand p l e R s m args below meth c T locs cells slots) (hx : p.tables.exec = Jvm.exec) {x : Int64} {z : Int64} (hd : decode c.code pc = .ok (.lneg, 1)) (hp : pc + 1 = pc') (hz : -x = z) (K : own_Ends p e below s Q kc ks T (mkF m pc' ls (.long z :: st))) : own_Ends p e below s Q kc ks T (mkF m pc ls (.long x :: st)) := by
  subst hp hz
  exact own_go (fun t k => XS.lneg X.here hx rfl hd rfl k) K
theorem own_i2l (X : Stand p l e R s m args below meth c T locs cells slots) (hx : p.tables.exec = Jvm.exec) {x : Int32} {z : Int64} (hd : decode c.code pc = .ok (.i2l, 1)) (hp : pc + 1 = pc') (hz : x.toInt64 = z) (K : own_Ends p e below s Q kc ks T (mkF m pc' ls (.long z :: st))) : own_Ends p e below s Q kc ks T (mkF m pc ls (.int x :: st)) := by
  subst hp hz
  exact own_go (fun t k => XS.i2l X.here hx rfl hd rfl k) K
theorem own_l2i (X : Stand p l e R s m args below meth c T locs cells slots) (hx : p.tables.exec = Jvm.exec) {x : Int64} {z : Int32} (hd : decode c.code pc = .ok (.l2i, 1)) (hp : pc + 1 = pc') (hz : x.toInt32 = z) (K : own_Ends p e below s Q kc ks T (mkF m pc' ls (.int z :: st))) : own_Ends p e below s Q kc ks T (mkF m pc ls (.long x :: st)) := by
  subst hp hz
  exact own_go (fun t k => XS.l2i X.here hx rfl hd rfl k) K
theorem own_i2b (X : Stand p l e R s m args below meth c T locs cells slots) (hx : p.tables.exec = Jvm.exec) {x : Int32} {z : Int32} (hd : decode c.code pc = .ok (.i2b, 1)) (hp : pc + 1 = pc') (hz : x.toInt8.toInt32 = z) (K : own_Ends p e below s Q kc ks T (mkF m pc' ls (.int z :: st))) : own_Ends p e below s Q kc ks T (mkF m pc ls (.int x :: st)) := by
  subst hp hz
  exact own_go (fun t k => XS.i2b X.here hx rfl hd rfl k) K
theorem own_i2s (X : Stand p l e R s m args below meth c T locs cells slots) (hx : p.tables.exec = Jvm.exec) {x : Int32} {z : Int32} (hd : decode c.code pc = .ok (.i2s, 1)) (hp : pc + 1 = pc') (hz : x.toInt16.toInt32 = z) (K : own_Ends p e below s Q kc ks T (mkF m pc' ls (.int z :: st))) : own_Ends p e below s Q kc ks T (mkF m pc ls (.int x :: st)) := by
  subst hp hz
  exact own_go (fun t k => XS.i2s X.here hx rfl hd rfl k) K
theorem own_i2c (X : Stand p l e R s m args below meth c T locs cells slots) (hx : p.tables.exec = Jvm.exec) {x : Int32} {z : Int32} (hd : decode c.code pc = .ok (.i2c, 1)) (hp : pc + 1 = pc') (hz : x.toUInt32.toUInt16.toUInt32.toInt32 = z) (K : own_Ends p e below s Q kc ks T (mkF m pc' ls (.int z :: st))) : own_Ends p e below s Q kc ks T (mkF m pc ls (.int x :: st)) := by
  subst hp hz
  exact own_go (fun t k => XS.i2c X.here hx rfl hd rfl k) K
theorem own_i2d (X : Stand p l e R s m args below meth c T locs cells slots) (hx : p.tables.exec = Jvm.exec) {x : Int32} {z : UInt64} (hd : decode c.code pc = .ok (.i2d, 1)) (hp : pc + 1 = pc') (hz : FP.i2d x = z) (K : own_Ends p e below s Q kc ks T (mkF m pc' ls (.double z :: st))) : own_Ends p e below s Q kc ks T (mkF m pc ls (.int x :: st)) := by
  subst hp hz
  exact own_go (fun t k => XS.i2dS (g := mkF m pc ls (.int x :: st)) X.here hx rfl hd rfl rfl k) K
theorem own_dadd (X : Stand p l e R s m args below meth c T locs cells slots) (hx : p.tables.exec = Jvm.exec) {x y z : UInt64} (hd : decode c.code pc = .ok (.dadd, 1)) (hp : pc + 1 = pc') (hn : Jvm.Free.Fl.NoNaN64 (FP.dadd x y)) (hz : FP.dadd x y = z) (K : own_Ends p e below s Q kc ks T (mkF m pc' ls (.double z :: st))) : own_Ends p e below s Q kc ks T (mkF m pc ls (.double y :: .double x :: st)) := by
  subst hp hz
  exact own_go (fun t k => XS.daddS (g := mkF m pc ls (.double y :: .double x :: st)) X.here hx rfl hd rfl hn rfl k) K
theorem own_dmul (X : Stand p l e R s m args below meth c T locs cells slots) (hx : p.tables.exec = Jvm.exec) {x y z : UInt64} (hd : decode c.code pc = .ok (.dmul, 1)) (hp : pc + 1 = pc') (hn : Jvm.Free.Fl.NoNaN64 (FP.dmul x y)) (hz : FP.dmul x y = z) (K : own_Ends p e below s Q kc ks T (mkF m pc' ls (.double z :: st))) : own_Ends p e below s Q kc ks T (mkF m pc ls (.double y :: .double x :: st)) := by
  subst hp hz
  exact own_go (fun t k => XS.dmulS (g := mkF m pc ls (.double y :: .double x :: st)) X.here hx rfl hd rfl hn rfl k) K
theorem own_dcmp (X : Stand p l e R s m args below meth c T locs cells slots) (hx : p.tables.exec = Jvm.exec) {o : CmpOp} {x y : UInt64} {z : Int32} (hd : decode c.code pc = .ok (.dcmp o, 1)) (hp : pc + 1 = pc') (hz : cmpValue (FP.dcmp x y) o = z) (K : own_Ends p e below s Q kc ks T (mkF m pc' ls (.int z :: st))) : own_Ends p e below s Q kc ks T (mkF m pc ls (.double y :: .double x :: st)) := by
  subst hp hz
  exact own_go (fun t k => XS.dcmpS (g := mkF m pc ls (.double y :: .double x :: st)) X.here hx rfl hd rfl rfl k) K
theorem own_lcmp (X : Stand p l e R s m args below meth c T locs cells slots) (hx : p.tables.exec = Jvm.exec) {x y : Int64} {z : Int32} (hd : decode c.code pc = .ok (.lcmp, 1)) (hp : pc + 1 = pc') (hz : lcmpW x y = z) (K : own_Ends p e below s Q kc ks T (mkF m pc' ls (.int z :: st))) : own_Ends p e below s Q kc ks T (mkF m pc ls (.long y :: .long x :: st)) := by
  subst hp hz
  exact own_go (fun t k => XS.lcmp X.here hx rfl hd rfl k) K
theorem own_pop (X : Stand p l e R s m args below meth c T locs cells slots) (hx : p.tables.exec = Jvm.exec) {v : Value} (hd : decode c.code pc = .ok (.pop, 1)) (hp : pc + 1 = pc') (hc : v.category = 1) (K : own_Ends p e below s Q kc ks T (mkF m pc' ls st)) : own_Ends p e below s Q kc ks T (mkF m pc ls (v :: st)) := by
  subst hp
  exact own_go (fun t k => XS.pop X.here hx rfl hd rfl hc k) K
theorem own_dup (X : Stand p l e R s m args below meth c T locs cells slots) (hx : p.tables.exec = Jvm.exec) {v : Value} (hd : decode c.code pc = .ok (.dup, 1)) (hp : pc + 1 = pc') (hc : v.category = 1) (K : own_Ends p e below s Q kc ks T (mkF m pc' ls (v :: v :: st))) : own_Ends p e below s Q kc ks T (mkF m pc ls (v :: st)) := by
  subst hp
  exact own_go (fun t k => XS.dup X.here hx rfl hd rfl hc k) K
theorem own_dupX1 (X : Stand p l e R s m args below meth c T locs cells slots) (hx : p.tables.exec = Jvm.exec) {v w : Value} (hd : decode c.code pc = .ok (.dup_x1, 1)) (hp : pc + 1 = pc') (hc : v.category = 1) (hc' : w.category = 1) (K : own_Ends p e below s Q kc ks T (mkF m pc' ls (v :: w :: v :: st))) : own_Ends p e below s Q kc ks T (mkF m pc ls (v :: w :: st)) := by
  subst hp
  exact own_go (fun t k => XS.dupX1 X.here hx rfl hd rfl hc hc' k) K
theorem own_dup2 (X : Stand p l e R s m args below meth c T locs cells slots) (hx : p.tables.exec = Jvm.exec) {v w : Value} (hd : decode c.code pc = .ok (.dup2, 1)) (hp : pc + 1 = pc') (hc : v.category = 1) (hc' : w.category = 1) (K : own_Ends p e below s Q kc ks T (mkF m pc' ls (v :: w :: v :: w :: st))) : own_Ends p e below s Q kc ks T (mkF m pc ls (v :: w :: st)) := by
  subst hp
  exact own_go (fun t k => XT.dup2 X.here hx rfl hd rfl hc hc' k) K
theorem own_dup2L (X : Stand p l e R s m args below meth c T locs cells slots) (hx : p.tables.exec = Jvm.exec) {x : Int64} (hd : decode c.code pc = .ok (.dup2, 1)) (hp : pc + 1 = pc')  (K : own_Ends p e below s Q kc ks T (mkF m pc' ls (.long x :: .long x :: st))) : own_Ends p e below s Q kc ks T (mkF m pc ls (.long x :: st)) := by
  subst hp
  exact own_go (fun t k => XT.dup2L X.here hx rfl hd rfl k) K
theorem own_iinc (X : Stand p l e R s m args below meth c T locs cells slots) (hx : p.tables.exec = Jvm.exec) {k : Nat} {i : Int} {x z : Int32} {l' : Array Slot} (hd : decode c.code pc = .ok (.iinc k i, 3)) (hp : pc + 3 = pc') (hl : ls[k]? = some (.val (.int x))) (hz : x + Int32.ofInt i = z) (hl' : storeLocals ls k (.int z) = some l') (K : own_Ends p e below s Q kc ks T (mkF m pc' l' st)) : own_Ends p e below s Q kc ks T (mkF m pc ls st) := by
  subst hp hz
  exact own_go (fun t k => XS.iinc X.here hx rfl hd hl hl' k) K
theorem own_goto (X : Stand p l e R s m args below meth c T locs cells slots) (hx : p.tables.exec = Jvm.exec) {o : Int} (hd : decode c.code pc = .ok (.goto o, 3)) (ho : 0 ≤ (pc : Int) + o) (hp : ((pc : Int) + o).toNat = pc') (K : own_Ends p e below s Q kc ks T (mkF m pc' ls st)) : own_Ends p e below s Q kc ks T (mkF m pc ls st) :=
  own_go (fun t k => XS.goto X.here hx rfl rfl hd ho hp k) K
theorem own_ifYes (X : Stand p l e R s m args below meth c T locs cells slots) (hx : p.tables.exec = Jvm.exec) {o : Int} {cd : ClassFile.Cond} {x : Int32} (hd : decode c.code pc = .ok (.ifCond cd o, 3)) (hc : if_icmp.holds cd x 0 = true) (ho : 0 ≤ (pc : Int) + o) (hp : ((pc : Int) + o).toNat = pc') (K : own_Ends p e below s Q kc ks T (mkF m pc' ls st)) : own_Ends p e below s Q kc ks T (mkF m pc ls (.int x :: st)) :=
  own_go (fun t k => XS.ifYes X.here hx rfl rfl hd rfl ((if0 _ _).trans hc) ho hp k) K
theorem own_ifNo (X : Stand p l e R s m args below meth c T locs cells slots) (hx : p.tables.exec = Jvm.exec) {o : Int} {cd : ClassFile.Cond} {x : Int32} (hd : decode c.code pc = .ok (.ifCond cd o, 3)) (hp : pc + 3 = pc') (hc : if_icmp.holds cd x 0 = false) (K : own_Ends p e below s Q kc ks T (mkF m pc' ls st)) : own_Ends p e below s Q kc ks T (mkF m pc ls (.int x :: st)) := by
  subst hp
  exact own_go (fun t k => XS.ifNo X.here hx rfl hd rfl ((if0 _ _).trans hc) k) K
theorem own_icmpYes (X : Stand p l e R s m args below meth c T locs cells slots) (hx : p.tables.exec = Jvm.exec) {o : Int} {cd : ClassFile.Cond} {x y : Int32} (hd : decode c.code pc = .ok (.if_icmp cd o, 3)) (hc : if_icmp.holds cd x y = true) (ho : 0 ≤ (pc : Int) + o) (hp : ((pc : Int) + o).toNat = pc') (K : own_Ends p e below s Q kc ks T (mkF m pc' ls st)) : own_Ends p e below s Q kc ks T (mkF m pc ls (.int y :: .int x :: st)) :=
  own_go (fun t k => XS.icmpYes X.here hx rfl rfl hd rfl hc ho hp k) K
theorem own_icmpNo (X : Stand p l e R s m args below meth c T locs cells slots) (hx : p.tables.exec = Jvm.exec) {o : Int} {cd : ClassFile.Cond} {x y : Int32} (hd : decode c.code pc = .ok (.if_icmp cd o, 3)) (hp : pc + 3 = pc') (hc : if_icmp.holds cd x y = false) (K : own_Ends p e below s Q kc ks T (mkF m pc' ls st)) : own_Ends p e below s Q kc ks T (mkF m pc ls (.int y :: .int x :: st)) := by
  subst hp
  exact own_go (fun t k => XS.icmpNo X.here hx rfl hd rfl hc k) K
theorem own_ifnullYes (X : Stand p l e R s m args below meth c T locs cells slots) (hx : p.tables.exec = Jvm.exec) {o : Int} (hd : decode c.code pc = .ok (.ifnull o, 3)) (ho : 0 ≤ (pc : Int) + o) (hp : ((pc : Int) + o).toNat = pc') (K : own_Ends p e below s Q kc ks T (mkF m pc' ls st)) : own_Ends p e below s Q kc ks T (mkF m pc ls (.null :: st)) :=
  own_go (fun t k => XS.ifnullYes X.here hx rfl rfl hd rfl ho hp k) K
theorem own_ifnullNo (X : Stand p l e R s m args below meth c T locs cells slots) (hx : p.tables.exec = Jvm.exec) {o : Int} {b : Addr} (hd : decode c.code pc = .ok (.ifnull o, 3)) (hp : pc + 3 = pc')  (K : own_Ends p e below s Q kc ks T (mkF m pc' ls st)) : own_Ends p e below s Q kc ks T (mkF m pc ls (.ref b :: st)) := by
  subst hp
  exact own_go (fun t k => XS.ifnullNo X.here hx rfl hd rfl k) K
theorem own_ifnonnullYes (X : Stand p l e R s m args below meth c T locs cells slots) (hx : p.tables.exec = Jvm.exec) {o : Int} {b : Addr} (hd : decode c.code pc = .ok (.ifnonnull o, 3)) (ho : 0 ≤ (pc : Int) + o) (hp : ((pc : Int) + o).toNat = pc') (K : own_Ends p e below s Q kc ks T (mkF m pc' ls st)) : own_Ends p e below s Q kc ks T (mkF m pc ls (.ref b :: st)) :=
  own_go (fun t k => XS.ifnonnullYes X.here hx rfl rfl hd rfl ho hp k) K
theorem own_ifnonnullNo (X : Stand p l e R s m args below meth c T locs cells slots) (hx : p.tables.exec = Jvm.exec) {o : Int} (hd : decode c.code pc = .ok (.ifnonnull o, 3)) (hp : pc + 3 = pc')  (K : own_Ends p e below s Q kc ks T (mkF m pc' ls st)) : own_Ends p e below s Q kc ks T (mkF m pc ls (.null :: st)) := by
  subst hp
  exact own_go (fun t k => XS.ifnonnullNo X.here hx rfl hd rfl k) K
theorem own_acmpYes (X : Stand p l e R s m args below meth c T locs cells slots) (hx : p.tables.exec = Jvm.exec) {o : Int} {cd : ACond} {v w : Value} (hd : decode c.code pc = .ok (.if_acmp cd o, 3)) (h1 : v.isRef = true) (h2 : w.isRef = true) (hc : XT.acmp cd v w = true) (ho : 0 ≤ (pc : Int) + o) (hp : ((pc : Int) + o).toNat = pc') (K : own_Ends p e below s Q kc ks T (mkF m pc' ls st)) : own_Ends p e below s Q kc ks T (mkF m pc ls (w :: v :: st)) :=
  own_go (fun t k => XT.acmpYes X.here hx rfl rfl hd rfl h1 h2 hc ho hp k) K
theorem own_acmpNo (X : Stand p l e R s m args below meth c T locs cells slots) (hx : p.tables.exec = Jvm.exec) {o : Int} {cd : ACond} {v w : Value} (hd : decode c.code pc = .ok (.if_acmp cd o, 3)) (hp : pc + 3 = pc') (h1 : v.isRef = true) (h2 : w.isRef = true) (hc : XT.acmp cd v w = false) (K : own_Ends p e below s Q kc ks T (mkF m pc' ls st)) : own_Ends p e below s Q kc ks T (mkF m pc ls (w :: v :: st)) := by
  subst hp
  exact own_go (fun t k => XT.acmpNo X.here hx rfl hd rfl h1 h2 hc k) K
theorem own_ldcI (X : Stand p l e R s m args below meth c T locs cells slots) (hx : p.tables.exec = Jvm.exec) {own : String} {ix : Nat} {v : Int32} {Z : State} {a0 : Array Value} (hZ : Z.Warmed39 s.vm) (hown : s.vm.findClass own = some m.cls) (w : (Jvm.Cond.constant own ix v).before a0 Z = true) (hd : decode c.code pc = .ok (.ldc ix, 2)) (hp : pc + 2 = pc')  (K : own_Ends p e below s Q kc ks T (mkF m pc' ls (.int v :: st))) : own_Ends p e below s Q kc ks T (mkF m pc ls st) := by
  subst hp
  exact own_go (fun t k => X.ldcInt hx hown (mvT hZ w) (g := mkF m pc ls st) rfl hd t k) K
theorem own_ldcwI (X : Stand p l e R s m args below meth c T locs cells slots) (hx : p.tables.exec = Jvm.exec) {own : String} {ix : Nat} {v : Int32} {Z : State} {a0 : Array Value} (hZ : Z.Warmed39 s.vm) (hown : s.vm.findClass own = some m.cls) (w : (Jvm.Cond.constant own ix v).before a0 Z = true) (hd : decode c.code pc = .ok (.ldc_w ix, 3)) (hp : pc + 3 = pc')  (K : own_Ends p e below s Q kc ks T (mkF m pc' ls (.int v :: st))) : own_Ends p e below s Q kc ks T (mkF m pc ls st) := by
  subst hp
  exact own_go (fun t k => X.ldcwInt hx hown (mvT hZ w) (g := mkF m pc ls st) rfl hd t k) K
theorem own_ldc2J (X : Stand p l e R s m args below meth c T locs cells slots) (hx : p.tables.exec = Jvm.exec) {own : String} {ix : Nat} {v : Int64} {Z : State} {a0 : Array Value} (hZ : Z.Warmed39 s.vm) (hown : s.vm.findClass own = some m.cls) (w : (Jvm.Cond.constantLong own ix v).before a0 Z = true) (hd : decode c.code pc = .ok (.ldc2_w ix, 3)) (hp : pc + 3 = pc')  (K : own_Ends p e below s Q kc ks T (mkF m pc' ls (.long v :: st))) : own_Ends p e below s Q kc ks T (mkF m pc ls st) := by
  subst hp
  exact own_go (fun t k => X.ldc2Long hx hown (mvT hZ w) (g := mkF m pc ls st) rfl hd t k) K
theorem own_iaload (X : Stand p l e R s m args below meth c T locs cells slots) (hx : p.tables.exec = Jvm.exec) {Z : State} {h : Heap} {a : Addr} {k : ClassId} {n j : Int32} {vs : List Value} {d v : Value} (hZ : Z.Warmed39 s.vm) (eT : T.heap = h) (V : Arv Z h a k .int n vs d) (hd : decode c.code pc = .ok (.iaload, 1)) (hp : pc + 1 = pc') (hj : ¬ j < 0 ∧ j < n) (hv : vs.getD j.toNatClampNeg d = v) (K : own_Ends p e below s Q kc ks T (mkF m pc' ls (v :: st))) : own_Ends p e below s Q kc ks T (mkF m pc ls (.int j :: .ref a :: st)) := by
  subst hp
  obtain ⟨cl, A, q1, S, q2, H, G⟩ := V
  have hin := inb_of S hj
  exact own_go (fun t k => X.iaload hx (by rw [eT]; exact A.1) (State.isArrayOf_alike hZ.alike A.2.1) A.2.2 hin (H.at hin hv) (g := mkF m pc ls (.int j :: .ref a :: st)) rfl rfl hd t k) K
theorem own_laload (X : Stand p l e R s m args below meth c T locs cells slots) (hx : p.tables.exec = Jvm.exec) {Z : State} {h : Heap} {a : Addr} {k : ClassId} {n j : Int32} {vs : List Value} {d v : Value} (hZ : Z.Warmed39 s.vm) (eT : T.heap = h) (V : Arv Z h a k .long n vs d) (hd : decode c.code pc = .ok (.laload, 1)) (hp : pc + 1 = pc') (hj : ¬ j < 0 ∧ j < n) (hv : vs.getD j.toNatClampNeg d = v) (K : own_Ends p e below s Q kc ks T (mkF m pc' ls (v :: st))) : own_Ends p e below s Q kc ks T (mkF m pc ls (.int j :: .ref a :: st)) := by
  subst hp
  obtain ⟨cl, A, q1, S, q2, H, G⟩ := V
  have hin := inb_of S hj
  exact own_go (fun t k => X.laload hx (by rw [eT]; exact A.1) (State.isArrayOf_alike hZ.alike A.2.1) A.2.2 hin (H.at hin hv) (g := mkF m pc ls (.int j :: .ref a :: st)) rfl rfl hd t k) K
theorem own_caload (X : Stand p l e R s m args below meth c T locs cells slots) (hx : p.tables.exec = Jvm.exec) {Z : State} {h : Heap} {a : Addr} {k : ClassId} {n j : Int32} {vs : List Value} {d v : Value} (hZ : Z.Warmed39 s.vm) (eT : T.heap = h) (V : Arv Z h a k .char n vs d) (hd : decode c.code pc = .ok (.caload, 1)) (hp : pc + 1 = pc') (hj : ¬ j < 0 ∧ j < n) (hv : vs.getD j.toNatClampNeg d = v) (K : own_Ends p e below s Q kc ks T (mkF m pc' ls (v :: st))) : own_Ends p e below s Q kc ks T (mkF m pc ls (.int j :: .ref a :: st)) := by
  subst hp
  obtain ⟨cl, A, q1, S, q2, H, G⟩ := V
  have hin := inb_of S hj
  exact own_go (fun t k => X.caload hx (by rw [eT]; exact A.1) (State.isArrayOf_alike hZ.alike A.2.1) A.2.2 hin (H.at hin hv) (g := mkF m pc ls (.int j :: .ref a :: st)) rfl rfl hd t k) K
theorem own_baload (X : Stand p l e R s m args below meth c T locs cells slots) (hx : p.tables.exec = Jvm.exec) {Z : State} {h : Heap} {a : Addr} {k : ClassId} {n j : Int32} {vs : List Value} {d v : Value} (hZ : Z.Warmed39 s.vm) (eT : T.heap = h) (V : Arv Z h a k .byte n vs d) (hd : decode c.code pc = .ok (.baload, 1)) (hp : pc + 1 = pc') (hj : ¬ j < 0 ∧ j < n) (hv : vs.getD j.toNatClampNeg d = v) (K : own_Ends p e below s Q kc ks T (mkF m pc' ls (v :: st))) : own_Ends p e below s Q kc ks T (mkF m pc ls (.int j :: .ref a :: st)) := by
  subst hp
  obtain ⟨cl, A, q1, S, q2, H, G⟩ := V
  have hin := inb_of S hj
  exact own_go (fun t k => X.baloadBytes hx (by rw [eT]; exact A.1) (State.isArrayOf_alike hZ.alike A.2.1) A.2.2 hin (H.at hin hv) (g := mkF m pc ls (.int j :: .ref a :: st)) rfl rfl hd t k) K
theorem own_zaload (X : Stand p l e R s m args below meth c T locs cells slots) (hx : p.tables.exec = Jvm.exec) {Z : State} {h : Heap} {a : Addr} {k : ClassId} {n j : Int32} {vs : List Value} {d v : Value} (hZ : Z.Warmed39 s.vm) (eT : T.heap = h) (V : Arv Z h a k .boolean n vs d) (hd : decode c.code pc = .ok (.baload, 1)) (hp : pc + 1 = pc') (hj : ¬ j < 0 ∧ j < n) (hv : vs.getD j.toNatClampNeg d = v) (K : own_Ends p e below s Q kc ks T (mkF m pc' ls (v :: st))) : own_Ends p e below s Q kc ks T (mkF m pc ls (.int j :: .ref a :: st)) := by
  subst hp
  obtain ⟨cl, A, q1, S, q2, H, G⟩ := V
  have hin := inb_of S hj
  exact own_go (fun t k => X.baloadBooleans hx (by rw [eT]; exact A.1) (State.isArrayOf_alike hZ.alike A.2.1) A.2.2 hin (H.at hin hv) (g := mkF m pc ls (.int j :: .ref a :: st)) rfl rfl hd t k) K
theorem own_daload (X : Stand p l e R s m args below meth c T locs cells slots) (hx : p.tables.exec = Jvm.exec) {Z : State} {h : Heap} {a : Addr} {k : ClassId} {n j : Int32} {vs : List Value} {d v : Value} (hZ : Z.Warmed39 s.vm) (eT : T.heap = h) (V : Arv Z h a k .double n vs d) (hd : decode c.code pc = .ok (.daload, 1)) (hp : pc + 1 = pc') (hj : ¬ j < 0 ∧ j < n) (hv : vs.getD j.toNatClampNeg d = v) (K : own_Ends p e below s Q kc ks T (mkF m pc' ls (v :: st))) : own_Ends p e below s Q kc ks T (mkF m pc ls (.int j :: .ref a :: st)) := by
  subst hp
  obtain ⟨cl, A, q1, S, q2, H, G⟩ := V
  have hin := inb_of S hj
  exact own_go (fun t k => X.daload hx (by rw [eT]; exact A.1) (State.isArrayOf_alike hZ.alike A.2.1) A.2.2 hin (H.at hin hv) (g := mkF m pc ls (.int j :: .ref a :: st)) rfl rfl hd t k) K
theorem own_alen (X : Stand p l e R s m args below meth c T locs cells slots) (hx : p.tables.exec = Jvm.exec) {Z : State} {h : Heap} {a : Addr} {k : ClassId} {ty : FieldType} {n : Int32} {vs : List Value} {d : Value} (hZ : Z.Warmed39 s.vm) (eT : T.heap = h) (V : Arv Z h a k ty n vs d) (hd : decode c.code pc = .ok (.arraylength, 1)) (hp : pc + 1 = pc')  (K : own_Ends p e below s Q kc ks T (mkF m pc' ls (.int n :: st))) : own_Ends p e below s Q kc ks T (mkF m pc ls (.ref a :: st)) := by
  subst hp
  obtain ⟨cl, A, q1, S, q2, H, G⟩ := V
  rw [← len_of S q2] at K
  exact own_go (fun t k => X.arraylength hx (by rw [eT]; exact A.1) (State.isArrayOf_alike hZ.alike A.2.1) (g := mkF m pc ls (.ref a :: st)) rfl rfl hd t k) K
theorem own_iastore (X : Stand p l e R s m args below meth c T locs cells slots) (hx : p.tables.exec = Jvm.exec) {Z : State} {h : Heap} {a : Addr} {k : ClassId} {n j : Int32} {vs : List Value} {d : Value} {x : Int32} (hZ : Z.Warmed39 s.vm) (eT : T.heap = h) (V : Arv Z h a k .int n vs d) (hd : decode c.code pc = .ok (.iastore, 1)) (hp : pc + 1 = pc') (hj : ¬ j < 0 ∧ j < n) (i : Nat) (hi : j.toNatClampNeg = i) (hl : i < vs.length) {n0 : Nat} (N : Fr n0 locs) (ge : n0 ≤ a)
    (K : ∀ T' h' L, Stand p l e R s m args below meth c T' L cells slots → T'.heap = h' → Fr n0 L → Wr h h' a j.toNatClampNeg (.int x) → Arv Z h' a k .int n (vs.set i (.int x)) d → own_Ends p e below s Q kc ks T' (mkF m pc' ls st)) : own_Ends p e below s Q kc ks T (mkF m pc ls (.int x :: .int j :: .ref a :: st)) := by
  subst hp
  obtain ⟨cl, A, q1, S, q2, H, G⟩ := V
  have hin := inb_of S hj
  obtain ⟨T1, h1, X1, e1, W1, st1⟩ := stI X hx hZ eT A (j := j) hin (g := mkF m pc ls (.int x :: .int j :: .ref a :: st)) rfl rfl hd
  exact own_go st1 (K T1 h1 _ X1 e1 (Fr.snoc X1 N ge) W1 (Arv.set A q1 S q2 H G rfl W1 i hi hl))
theorem own_lastore (X : Stand p l e R s m args below meth c T locs cells slots) (hx : p.tables.exec = Jvm.exec) {Z : State} {h : Heap} {a : Addr} {k : ClassId} {n j : Int32} {vs : List Value} {d : Value} {x : Int64} (hZ : Z.Warmed39 s.vm) (eT : T.heap = h) (V : Arv Z h a k .long n vs d) (hd : decode c.code pc = .ok (.lastore, 1)) (hp : pc + 1 = pc') (hj : ¬ j < 0 ∧ j < n) (i : Nat) (hi : j.toNatClampNeg = i) (hl : i < vs.length) {n0 : Nat} (N : Fr n0 locs) (ge : n0 ≤ a)
    (K : ∀ T' h' L, Stand p l e R s m args below meth c T' L cells slots → T'.heap = h' → Fr n0 L → Wr h h' a j.toNatClampNeg (.long x) → Arv Z h' a k .long n (vs.set i (.long x)) d → own_Ends p e below s Q kc ks T' (mkF m pc' ls st)) : own_Ends p e below s Q kc ks T (mkF m pc ls (.long x :: .int j :: .ref a :: st)) := by
  subst hp
  obtain ⟨cl, A, q1, S, q2, H, G⟩ := V
  have hin := inb_of S hj
  obtain ⟨T1, h1, X1, e1, W1, st1⟩ := stJ X hx hZ eT A (j := j) hin (g := mkF m pc ls (.long x :: .int j :: .ref a :: st)) rfl rfl hd
  exact own_go st1 (K T1 h1 _ X1 e1 (Fr.snoc X1 N ge) W1 (Arv.set A q1 S q2 H G rfl W1 i hi hl))
theorem own_dastore (X : Stand p l e R s m args below meth c T locs cells slots) (hx : p.tables.exec = Jvm.exec) {Z : State} {h : Heap} {a : Addr} {k : ClassId} {n j : Int32} {vs : List Value} {d : Value} {x : UInt64} (hZ : Z.Warmed39 s.vm) (eT : T.heap = h) (V : Arv Z h a k .double n vs d) (hd : decode c.code pc = .ok (.dastore, 1)) (hp : pc + 1 = pc') (hj : ¬ j < 0 ∧ j < n) (i : Nat) (hi : j.toNatClampNeg = i) (hl : i < vs.length) {n0 : Nat} (N : Fr n0 locs) (ge : n0 ≤ a)
    (K : ∀ T' h' L, Stand p l e R s m args below meth c T' L cells slots → T'.heap = h' → Fr n0 L → Wr h h' a j.toNatClampNeg (.double x) → Arv Z h' a k .double n (vs.set i (.double x)) d → own_Ends p e below s Q kc ks T' (mkF m pc' ls st)) : own_Ends p e below s Q kc ks T (mkF m pc ls (.double x :: .int j :: .ref a :: st)) := by
  subst hp
  obtain ⟨cl, A, q1, S, q2, H, G⟩ := V
  have hin := inb_of S hj
  obtain ⟨T1, h1, X1, e1, W1, st1⟩ := stD X hx hZ eT A (j := j) hin (g := mkF m pc ls (.double x :: .int j :: .ref a :: st)) rfl rfl hd
  exact own_go st1 (K T1 h1 _ X1 e1 (Fr.snoc X1 N ge) W1 (Arv.set A q1 S q2 H G rfl W1 i hi hl))
theorem own_castore (X : Stand p l e R s m args below meth c T locs cells slots) (hx : p.tables.exec = Jvm.exec) {Z : State} {h : Heap} {a : Addr} {k : ClassId} {n j : Int32} {vs : List Value} {d : Value} {x : Int32} (hZ : Z.Warmed39 s.vm) (eT : T.heap = h) (V : Arv Z h a k .char n vs d) (hd : decode c.code pc = .ok (.castore, 1)) (hp : pc + 1 = pc') (hj : ¬ j < 0 ∧ j < n) (i : Nat) (hi : j.toNatClampNeg = i) (hl : i < vs.length) {n0 : Nat} (N : Fr n0 locs) (ge : n0 ≤ a)
    (K : ∀ T' h' L, Stand p l e R s m args below meth c T' L cells slots → T'.heap = h' → Fr n0 L → Wr h h' a j.toNatClampNeg (.int (nar .char x)) → Arv Z h' a k .char n (vs.set i (.int (nar .char x))) d → own_Ends p e below s Q kc ks T' (mkF m pc' ls st)) : own_Ends p e below s Q kc ks T (mkF m pc ls (.int x :: .int j :: .ref a :: st)) := by
  subst hp
  obtain ⟨cl, A, q1, S, q2, H, G⟩ := V
  have hin := inb_of S hj
  obtain ⟨T1, h1, X1, e1, W1, st1⟩ := stC X hx hZ eT A (j := j) hin (g := mkF m pc ls (.int x :: .int j :: .ref a :: st)) rfl rfl hd
  exact own_go st1 (K T1 h1 _ X1 e1 (Fr.snoc X1 N ge) W1 (Arv.set A q1 S q2 H G (fits_nar_char _) W1 i hi hl))
theorem own_bastore (X : Stand p l e R s m args below meth c T locs cells slots) (hx : p.tables.exec = Jvm.exec) {Z : State} {h : Heap} {a : Addr} {k : ClassId} {n j : Int32} {vs : List Value} {d : Value} {x : Int32} (hZ : Z.Warmed39 s.vm) (eT : T.heap = h) (V : Arv Z h a k .byte n vs d) (hd : decode c.code pc = .ok (.bastore, 1)) (hp : pc + 1 = pc') (hj : ¬ j < 0 ∧ j < n) (i : Nat) (hi : j.toNatClampNeg = i) (hl : i < vs.length) {n0 : Nat} (N : Fr n0 locs) (ge : n0 ≤ a)
    (K : ∀ T' h' L, Stand p l e R s m args below meth c T' L cells slots → T'.heap = h' → Fr n0 L → Wr h h' a j.toNatClampNeg (.int (nar .byte x)) → Arv Z h' a k .byte n (vs.set i (.int (nar .byte x))) d → own_Ends p e below s Q kc ks T' (mkF m pc' ls st)) : own_Ends p e below s Q kc ks T (mkF m pc ls (.int x :: .int j :: .ref a :: st)) := by
  subst hp
  obtain ⟨cl, A, q1, S, q2, H, G⟩ := V
  have hin := inb_of S hj
  obtain ⟨T1, h1, X1, e1, W1, st1⟩ := stB X hx hZ eT A (j := j) hin (g := mkF m pc ls (.int x :: .int j :: .ref a :: st)) rfl rfl hd
  exact own_go st1 (K T1 h1 _ X1 e1 (Fr.snoc X1 N ge) W1 (Arv.set A q1 S q2 H G (fits_nar_byte _) W1 i hi hl))
theorem own_zastore (X : Stand p l e R s m args below meth c T locs cells slots) (hx : p.tables.exec = Jvm.exec) {Z : State} {h : Heap} {a : Addr} {k : ClassId} {n j : Int32} {vs : List Value} {d : Value} {x : Int32} (hZ : Z.Warmed39 s.vm) (eT : T.heap = h) (V : Arv Z h a k .boolean n vs d) (hd : decode c.code pc = .ok (.bastore, 1)) (hp : pc + 1 = pc') (hj : ¬ j < 0 ∧ j < n) (i : Nat) (hi : j.toNatClampNeg = i) (hl : i < vs.length) {n0 : Nat} (N : Fr n0 locs) (ge : n0 ≤ a)
    (K : ∀ T' h' L, Stand p l e R s m args below meth c T' L cells slots → T'.heap = h' → Fr n0 L → Wr h h' a j.toNatClampNeg (.int (nar .boolean x)) → Arv Z h' a k .boolean n (vs.set i (.int (nar .boolean x))) d → own_Ends p e below s Q kc ks T' (mkF m pc' ls st)) : own_Ends p e below s Q kc ks T (mkF m pc ls (.int x :: .int j :: .ref a :: st)) := by
  subst hp
  obtain ⟨cl, A, q1, S, q2, H, G⟩ := V
  have hin := inb_of S hj
  obtain ⟨T1, h1, X1, e1, W1, st1⟩ := stZ X hx hZ eT A (j := j) hin (g := mkF m pc ls (.int x :: .int j :: .ref a :: st)) rfl rfl hd
  exact own_go st1 (K T1 h1 _ X1 e1 (Fr.snoc X1 N ge) W1 (Arv.set A q1 S q2 H G (fits_nar_bool _) W1 i hi hl))
theorem own_newarr (X : Stand p l e R s m args below meth c T locs cells slots) (hx : p.tables.exec = Jvm.exec) {Z : State} {a0 : Array Value} {h : Heap} {aty : ArrayType} (hZ : Z.Warmed39 s.vm) (w : (Jvm.Cond.arrayClass (newarray.typeOf aty)).before a0 Z = true) (eT : T.heap = h) (hd : decode c.code pc = .ok (.newarray aty, 2)) (hp : pc + 2 = pc') {n : Int32} (hn : ¬ n < 0) (cap q : Nat) (hcap : n.toNatClampNeg ≤ cap) (hb : cap * 8 ≤ 536870912) (hc : cells + 1 ≤ R.cells) (hl : slots + cap ≤ R.slots)
    (K : ∀ T' h' a k, Stand p l e R s m args below meth c T' locs (cells + 1) (slots + cap) → T'.heap = h' → Ext h h' → a = h.size → Arv Z h' a k (newarray.typeOf aty) n (List.replicate q (defaultValue (newarray.typeOf aty))) (defaultValue (newarray.typeOf aty)) → own_Ends p e below s Q kc ks T' (mkF m pc' ls (.ref a :: st))) : own_Ends p e below s Q kc ks T (mkF m pc ls (.int n :: st)) := by
  subst hp
  obtain ⟨T1, h1, k1, X1, e1, E1, A1, st1⟩ := newP X hx hZ w eT (g := mkF m pc ls (.int n :: st)) rfl hd rfl hn (cap := cap) hcap hb hc hl
  exact own_go st1 (K T1 h1 _ k1 X1 e1 E1 rfl ((Arv.new A1 hn).pad (pad_rep [] _ q)))
theorem own_newarrE (X : Stand p l e R s m args below meth c T locs cells slots) (hx : p.tables.exec = Jvm.exec) {Z : State} {a0 : Array Value} {h : Heap} {aty : ArrayType} (hZ : Z.Warmed39 s.vm) (w : (Jvm.Cond.arrayClass (newarray.typeOf aty)).before a0 Z = true) (eT : T.heap = h) (hd : decode c.code pc = .ok (.newarray aty, 2)) (hp : pc + 2 = pc') {n : Int32} (hn : ¬ n < 0) (cap q : Nat) (hcap : n.toNatClampNeg ≤ cap) (hb : cap * 8 ≤ 536870912) (hc : cells + 1 ≤ R.cells) (hl : slots + cap ≤ R.slots) {ad : String} (had : "[" ++ (newarray.typeOf aty).toString = ad)
    (K : ∀ T' h' a k, Stand p l e R s m args below meth c T' locs (cells + 1) (slots + cap) → T'.heap = h' → Ext h h' → a = h.size → Arv Z h' a k (newarray.typeOf aty) n (List.replicate q (defaultValue (newarray.typeOf aty))) (defaultValue (newarray.typeOf aty)) → Exa Z h' a ad → own_Ends p e below s Q kc ks T' (mkF m pc' ls (.ref a :: st))) : own_Ends p e below s Q kc ks T (mkF m pc ls (.int n :: st)) := by
  subst hp
  obtain ⟨T1, h1, k1, X1, e1, E1, A1, Z1, st1⟩ := newPE X hx hZ w eT (g := mkF m pc ls (.int n :: st)) rfl hd rfl hn (cap := cap) hcap hb hc hl had
  exact own_go st1 (K T1 h1 _ k1 X1 e1 E1 rfl ((Arv.new A1 hn).pad (pad_rep [] _ q)) Z1)
theorem own_callS (X : Stand p l e R s m args below meth c T locs cells slots) (hx : p.tables.exec = Jvm.exec) {Z : State} {a0 : Array Value} {h : Heap} {own : String} {ix : Nat} {y : MethodName} {bytes : ByteArray} {maxL W : Nat} {ret : Option FieldType} {rm : Room} {Qc : Option Value → Heap → List Loc → Prop} {argsL rest : List Value} (hZ : Z.Warmed39 s.vm) (eT : T.heap = h) (hown : s.vm.findClass own = some m.cls) (hsz : ls.size = c.maxLocals) (wl : (Jvm.Cond.methodLink own ix y).before a0 Z = true) (ws : (Jvm.Cond.static y).before a0 Z = true) (wi : (Jvm.Cond.initialized y.cls).before a0 Z = true) (wc : (Jvm.Cond.code y bytes maxL ret).before a0 Z = true) (hy : y.cls ≠ "java/lang/invoke/MethodHandle" ∧ y.cls ≠ "java/lang/invoke/VarHandle") (hM : MetFree l y (head1 [Jvm.Cond.code y bytes maxL ret] rm) (fun a U => a = argsL.toArray ∧ Z.Warmed39 U.vm ∧ U.heap = h) (fun _ _ _ _ _ => True) (fun _ U o U' => ∃ v L, o = .returned v ∧ Qc v U'.heap L ∧ FrameEnd U o U' L rm.cells rm.slots)) (hf : rm.frames + 1 ≤ R.frames) (hlo : W + (maxL + 11) + rm.locals ≤ R.locals) (hcl : cells + rm.cells ≤ R.cells) (hsl : slots + rm.slots ≤ R.slots)
    (hlen : ∀ sig, parseMethodDescriptor y.desc = some sig → argsL.length = sig.parameters.length) (hst : st = argsL.reverse ++ rest) (hW : 2 * 0 + (rest.map fun v => v.category).sum ≤ W) (hd : decode c.code pc = .ok (.invokestatic ix, 3)) (hp : pc + 3 = pc') (K : ∀ T' L v, Stand p l e R s m args below meth c T' (locs ++ L) (cells + rm.cells) (slots + rm.slots) → Qc v T'.heap L → own_Ends p e below s Q kc ks T' (mkF m pc' ls (v.toList ++ rest))) : own_Ends p e below s Q kc ks T (mkF m pc ls st) := by
  subst hp
  obtain ⟨v, _, ⟨T1, L1, k1, n1⟩, -, X1, ⟨Lc, hQ, r1, r2, r3⟩, st1⟩ := Jvm.LawKit.callS X hx (y := y) hown (mvT hZ wl) (mvT hZ ws) (mvT hZ wi) (mvT hZ wc) hy (backOf (W := W) hM hZ wc wi hf hlo) (g := mkF m pc ls st) rfl hsz (argsL := argsL) (rest := rest) hlen hst hW hd (fun _ _ => ⟨rfl, eT, hcl, hsl⟩)
  dsimp only [Pt.U, Pt.locs, Pt.cells, Pt.slots] at X1 r1 r2 r3 st1 hQ
  subst r1 r2 r3
  exact own_go (st1) (K T1 Lc v X1 hQ)
theorem own_callC (X : Stand p l e R s m args below meth c T locs cells slots) (hx : p.tables.exec = Jvm.exec) {b : Addr} {Z : State} {a0 : Array Value} {h : Heap} {own : String} {ix : Nat} {y : MethodName} {bytes : ByteArray} {maxL W : Nat} {ret : Option FieldType} {rm : Room} {Qc : Option Value → Heap → List Loc → Prop} {argsL rest : List Value} (hZ : Z.Warmed39 s.vm) (eT : T.heap = h) (hown : s.vm.findClass own = some m.cls) (hsz : ls.size = c.maxLocals) (hret : ret = none) (hinit : y.name = "<init>") (wl : (Jvm.Cond.methodLink own ix y).before a0 Z = true) (wm : (Jvm.Cond.instanceMethod y).before a0 Z = true) (wi : (Jvm.Cond.initialized y.cls).before a0 Z = true) (wc : (Jvm.Cond.code y bytes maxL ret).before a0 Z = true) (hy : y.cls ≠ "java/lang/invoke/MethodHandle" ∧ y.cls ≠ "java/lang/invoke/VarHandle") (hM : MetFree l y (head1 [Jvm.Cond.code y bytes maxL ret] rm) (fun a U => a = (Value.ref b :: argsL).toArray ∧ Z.Warmed39 U.vm ∧ U.heap = h) (fun _ _ _ _ _ => True) (fun _ U o U' => ∃ v L, o = .returned v ∧ Qc v U'.heap L ∧ FrameEnd U o U' L rm.cells rm.slots)) (hf : rm.frames + 1 ≤ R.frames) (hlo : W + (maxL + 11) + rm.locals ≤ R.locals) (hcl : cells + rm.cells ≤ R.cells) (hsl : slots + rm.slots ≤ R.slots)
    (hlen : ∀ sig, parseMethodDescriptor y.desc = some sig → argsL.length = sig.parameters.length) (hst : st = argsL.reverse ++ .ref b :: rest) (hW : 2 * 0 + (rest.map fun v => v.category).sum ≤ W) (hd : decode c.code pc = .ok (.invokespecial ix, 3)) (hp : pc + 3 = pc') (K : ∀ T' L v, Stand p l e R s m args below meth c T' (locs ++ L) (cells + rm.cells) (slots + rm.slots) → Qc v T'.heap L → own_Ends p e below s Q kc ks T' (mkF m pc' ls (v.toList ++ rest))) : own_Ends p e below s Q kc ks T (mkF m pc ls st) := by
  subst hp hret
  obtain ⟨v, _, ⟨T1, L1, k1, n1⟩, -, X1, ⟨Lc, hQ, r1, r2, r3⟩, st1⟩ := X.specialBack hx (y := y) hinit hown (mvT hZ wl) (mvT hZ wm) (mvT hZ wc) hy (backOf (W := W) hM hZ wc wi hf hlo) (g := mkF m pc ls st) rfl hsz (Steps.refl _) (a := b) (argsL := argsL) (rest := rest) hlen hst hW hd (fun _ _ => ⟨rfl, eT, hcl, hsl⟩)
  dsimp only [Pt.U, Pt.locs, Pt.cells, Pt.slots] at X1 r1 r2 r3 st1 hQ
  subst r1 r2 r3
  exact own_go (fun t k => st1.trans k) (K T1 Lc v X1 hQ)
theorem own_callV (X : Stand p l e R s m args below meth c T locs cells slots) (hx : p.tables.exec = Jvm.exec) {b : Addr} {C : String} {Z : State} {a0 : Array Value} {h : Heap} {own : String} {ix : Nat} {y : MethodName} {bytes : ByteArray} {maxL W : Nat} {ret : Option FieldType} {rm : Room} {Qc : Option Value → Heap → List Loc → Prop} {argsL rest : List Value} (hZ : Z.Warmed39 s.vm) (eT : T.heap = h) (hown : s.vm.findClass own = some m.cls) (hsz : ls.size = c.maxLocals) (E : Exa Z h b C) (wl : (Jvm.Cond.methodLink own ix y).before a0 Z = true) (wd : (Jvm.Cond.declares y).before a0 Z = true) (wsel : (Jvm.Cond.selects C y y).before a0 Z = true) (wm : (Jvm.Cond.instanceMethod y).before a0 Z = true) (wi : (Jvm.Cond.initialized y.cls).before a0 Z = true) (wc : (Jvm.Cond.code y bytes maxL ret).before a0 Z = true) (hy : y.cls ≠ "java/lang/invoke/MethodHandle" ∧ y.cls ≠ "java/lang/invoke/VarHandle") (hM : MetFree l y (head1 [Jvm.Cond.code y bytes maxL ret] rm) (fun a U => a = (Value.ref b :: argsL).toArray ∧ Z.Warmed39 U.vm ∧ U.heap = h) (fun _ _ _ _ _ => True) (fun _ U o U' => ∃ v L, o = .returned v ∧ Qc v U'.heap L ∧ FrameEnd U o U' L rm.cells rm.slots)) (hf : rm.frames + 1 ≤ R.frames) (hlo : W + (maxL + 11) + rm.locals ≤ R.locals) (hcl : cells + rm.cells ≤ R.cells) (hsl : slots + rm.slots ≤ R.slots)
    (hlen : ∀ sig, parseMethodDescriptor y.desc = some sig → argsL.length = sig.parameters.length) (hst : st = argsL.reverse ++ .ref b :: rest) (hW : 2 * 0 + (rest.map fun v => v.category).sum ≤ W) (hd : decode c.code pc = .ok (.invokevirtual ix, 3)) (hp : pc + 3 = pc') (K : ∀ T' L v, Stand p l e R s m args below meth c T' (locs ++ L) (cells + rm.cells) (slots + rm.slots) → Qc v T'.heap L → own_Ends p e below s Q kc ks T' (mkF m pc' ls (v.toList ++ rest))) : own_Ends p e below s Q kc ks T (mkF m pc ls st) := by
  subst hp
  obtain ⟨cq, kq, qa, qb, qc⟩ := isOf hZ eT E
  obtain ⟨v, _, ⟨T1, L1, k1, n1⟩, -, X1, ⟨Lc, hQ, r1, r2, r3⟩, st1⟩ := X.virtualBack hx (y := y) (z := y) hown (mvT hZ wl) (mvT hZ wd) (notFace_of_selects (args := #[]) (mvT hZ wsel)) (mvT hZ wsel) (mvT hZ wm) hy (backOf (W := W) hM hZ wc wi hf hlo) qa qc (g := mkF m pc ls st) rfl hsz (Steps.refl _) (argsL := argsL) (rest := rest) hlen hst hW hd (fun _ _ => ⟨rfl, eT, hcl, hsl⟩)
  dsimp only [Pt.U, Pt.locs, Pt.cells, Pt.slots] at X1 r1 r2 r3 st1 hQ
  subst r1 r2 r3
  exact own_go (fun t k => st1.trans k) (K T1 Lc v X1 hQ)
theorem own_callP (X : Stand p l e R s m args below meth c T locs cells slots) (hx : p.tables.exec = Jvm.exec) {b : Addr} {C : String} {Z : State} {a0 : Array Value} {h : Heap} {own : String} {ix : Nat} {y : MethodName} {bytes : ByteArray} {maxL W : Nat} {ret : Option FieldType} {rm : Room} {Qc : Option Value → Heap → List Loc → Prop} {argsL rest : List Value} (hZ : Z.Warmed39 s.vm) (eT : T.heap = h) (hown : s.vm.findClass own = some m.cls) (hsz : ls.size = c.maxLocals) (E : Exa Z h b C) (wl : (Jvm.Cond.methodLink own ix y).before a0 Z = true) (wsel : (Jvm.Cond.selects y.cls y y).before a0 Z = true) (wp : (Jvm.Cond.privateMethod y).before a0 Z = true) (wm : (Jvm.Cond.instanceMethod y).before a0 Z = true) (wi : (Jvm.Cond.initialized y.cls).before a0 Z = true) (wc : (Jvm.Cond.code y bytes maxL ret).before a0 Z = true) (hy : y.cls ≠ "java/lang/invoke/MethodHandle" ∧ y.cls ≠ "java/lang/invoke/VarHandle") (hM : MetFree l y (head1 [Jvm.Cond.code y bytes maxL ret] rm) (fun a U => a = (Value.ref b :: argsL).toArray ∧ Z.Warmed39 U.vm ∧ U.heap = h) (fun _ _ _ _ _ => True) (fun _ U o U' => ∃ v L, o = .returned v ∧ Qc v U'.heap L ∧ FrameEnd U o U' L rm.cells rm.slots)) (hf : rm.frames + 1 ≤ R.frames) (hlo : W + (maxL + 11) + rm.locals ≤ R.locals) (hcl : cells + rm.cells ≤ R.cells) (hsl : slots + rm.slots ≤ R.slots)
    (hlen : ∀ sig, parseMethodDescriptor y.desc = some sig → argsL.length = sig.parameters.length) (hst : st = argsL.reverse ++ .ref b :: rest) (hW : 2 * 0 + (rest.map fun v => v.category).sum ≤ W) (hd : decode c.code pc = .ok (.invokevirtual ix, 3)) (hp : pc + 3 = pc') (K : ∀ T' L v, Stand p l e R s m args below meth c T' (locs ++ L) (cells + rm.cells) (slots + rm.slots) → Qc v T'.heap L → own_Ends p e below s Q kc ks T' (mkF m pc' ls (v.toList ++ rest))) : own_Ends p e below s Q kc ks T (mkF m pc ls st) := by
  subst hp
  obtain ⟨cq, qa, qb⟩ := E.cell
  obtain ⟨v, _, ⟨T1, L1, k1, n1⟩, -, X1, ⟨Lc, hQ, r1, r2, r3⟩, st1⟩ := X.privateBack hx (y := y) hown (mvT hZ wl) (mvT hZ wm) (mvT hZ wsel) (Jvm.Cond.privateMethod_at (mvP hZ wp (args := #[]))) (mvT hZ wc) hy (backOf (W := W) hM hZ wc wi hf hlo) (g := mkF m pc ls st) rfl hsz (Steps.refl _) (a := b) (by rw [eT]; exact qa) qb (argsL := argsL) (rest := rest) hlen hst hW hd (fun _ _ => ⟨rfl, eT, hcl, hsl⟩)
  dsimp only [Pt.U, Pt.locs, Pt.cells, Pt.slots] at X1 r1 r2 r3 st1 hQ
  subst r1 r2 r3
  exact own_go (fun t k => st1.trans k) (K T1 Lc v X1 hQ)
theorem own_mvM {Z : State} {a0 args : Array Value} {own host : String} {ix : Nat} {y : MethodName} (hZ : Z.Warmed39 s.vm) (w : (Jvm.Cond.methodLinkNest own ix y host).before a0 Z = true) : (Jvm.Cond.methodLinkNest own ix y host).before args s = true := (Jvm.Cond.methodLinkNest_wide hZ w :)
theorem own_callN (X : Stand p l e R s m args below meth c T locs cells slots) (hx : p.tables.exec = Jvm.exec) {b : Addr} {host : String} {Z : State} {a0 : Array Value} {h : Heap} {own : String} {ix : Nat} {y : MethodName} {bytes : ByteArray} {maxL W : Nat} {ret : Option FieldType} {rm : Room} {Qc : Option Value → Heap → List Loc → Prop} {argsL rest : List Value} (hZ : Z.Warmed39 s.vm) (eT : T.heap = h) (hown : s.vm.findClass own = some m.cls) (hsz : ls.size = c.maxLocals) (hret : ret = none) (hinit : y.name = "<init>") (wl : (Jvm.Cond.methodLinkNest own ix y host).before a0 Z = true) (wm : (Jvm.Cond.instanceMethod y).before a0 Z = true) (wi : (Jvm.Cond.initialized y.cls).before a0 Z = true) (wc : (Jvm.Cond.code y bytes maxL ret).before a0 Z = true) (hy : y.cls ≠ "java/lang/invoke/MethodHandle" ∧ y.cls ≠ "java/lang/invoke/VarHandle") (hM : MetFree l y (head1 [Jvm.Cond.code y bytes maxL ret] rm) (fun a U => a = (Value.ref b :: argsL).toArray ∧ Z.Warmed39 U.vm ∧ U.heap = h) (fun _ _ _ _ _ => True) (fun _ U o U' => ∃ v L, o = .returned v ∧ Qc v U'.heap L ∧ FrameEnd U o U' L rm.cells rm.slots)) (hf : rm.frames + 1 ≤ R.frames) (hlo : W + (maxL + 11) + rm.locals ≤ R.locals) (hcl : cells + rm.cells ≤ R.cells) (hsl : slots + rm.slots ≤ R.slots)
    (hlen : ∀ sig, parseMethodDescriptor y.desc = some sig → argsL.length = sig.parameters.length) (hst : st = argsL.reverse ++ .ref b :: rest) (hW : 2 * 0 + (rest.map fun v => v.category).sum ≤ W) (hd : decode c.code pc = .ok (.invokespecial ix, 3)) (hp : pc + 3 = pc') (K : ∀ T' L v, Stand p l e R s m args below meth c T' (locs ++ L) (cells + rm.cells) (slots + rm.slots) → Qc v T'.heap L → own_Ends p e below s Q kc ks T' (mkF m pc' ls (v.toList ++ rest))) : own_Ends p e below s Q kc ks T (mkF m pc ls st) := by
  subst hp hret
  obtain ⟨v, _, ⟨T1, L1, k1, n1⟩, -, X1, ⟨Lc, hQ, r1, r2, r3⟩, st1⟩ := X.specialBackNest hx (y := y) hinit hown (own_mvM hZ wl) (mvT hZ wm) (mvT hZ wc) hy (backOf (W := W) hM hZ wc wi hf hlo) (g := mkF m pc ls st) rfl hsz (Steps.refl _) (a := b) (argsL := argsL) (rest := rest) hlen hst hW hd (fun _ _ => ⟨rfl, eT, hcl, hsl⟩)
  dsimp only [Pt.U, Pt.locs, Pt.cells, Pt.slots] at X1 r1 r2 r3 st1 hQ
  subst r1 r2 r3
  exact own_go (fun t k => st1.trans k) (K T1 Lc v X1 hQ)
theorem own_anewarr (X : Stand p l e R s m args below meth c T locs cells slots) (hx : p.tables.exec = Jvm.exec) {Z : State} {a0 : Array Value} {h : Heap} {own C : String} {ix : Nat} (hZ : Z.Warmed39 s.vm) (hown : s.vm.findClass own = some m.cls) (w1 : (Jvm.Cond.classLink own ix C).before a0 Z = true) (w2 : (Jvm.Cond.arrayOver (.object C)).before a0 Z = true) (eT : T.heap = h) (hd : decode c.code pc = .ok (.anewarray ix, 3)) (hp : pc + 3 = pc') {n : Int32} (hn : ¬ n < 0) (cap q : Nat) (hcap : n.toNatClampNeg ≤ cap) (hb : cap * 8 ≤ 536870912) (hc : cells + 1 ≤ R.cells) (hl : slots + cap ≤ R.slots) {ad : String} (had : "[" ++ (FieldType.object C).toString = ad)
    (K : ∀ T' h' a k, Stand p l e R s m args below meth c T' locs (cells + 1) (slots + cap) → T'.heap = h' → Ext h h' → a = h.size → Arv Z h' a k (.object C) n (List.replicate q .null) .null → Exa Z h' a ad → Ovr Z k C → own_Ends p e below s Q kc ks T' (mkF m pc' ls (.ref a :: st))) : own_Ends p e below s Q kc ks T (mkF m pc ls (.int n :: st)) := by
  subst hp
  obtain ⟨T1, h1, k1, X1, e1, E1, A1, Z1, O1, st1⟩ := newRE X hx hZ hown w1 w2 eT (g := mkF m pc ls (.int n :: st)) rfl hd rfl hn (cap := cap) hcap hb hc hl had
  exact own_go st1 (K T1 h1 _ k1 X1 e1 E1 rfl ((Arv.new A1 hn).pad (pad_rep [] _ q)) Z1 O1)
theorem own_aastore (X : Stand p l e R s m args below meth c T locs cells slots) (hx : p.tables.exec = Jvm.exec) {Z : State} {h : Heap} {a b : Addr} {k : ClassId} {C D : String} {n j : Int32} {vs : List Value} {d : Value} (hZ : Z.Warmed39 s.vm) (eT : T.heap = h) (V : Arv Z h a k (.object D) n vs d) (O : Ovr Z k C) (I : Ins Z h b C true) (hd : decode c.code pc = .ok (.aastore, 1)) (hp : pc + 1 = pc') (hj : ¬ j < 0 ∧ j < n) (i : Nat) (hi : j.toNatClampNeg = i) (hl : i < vs.length) {n0 : Nat} (N : Fr n0 locs) (ge : n0 ≤ a)
    (K : ∀ T' h' L, Stand p l e R s m args below meth c T' L cells slots → T'.heap = h' → Fr n0 L → Wr h h' a j.toNatClampNeg (.ref b) → Arv Z h' a k (.object D) n (vs.set i (.ref b)) d → own_Ends p e below s Q kc ks T' (mkF m pc' ls st)) : own_Ends p e below s Q kc ks T (mkF m pc ls (.ref b :: .int j :: .ref a :: st)) := by
  subst hp
  obtain ⟨cl, A, q1, S, q2, H, G⟩ := V
  have hin := inb_of S hj
  obtain ⟨T1, h1, X1, e1, W1, st1⟩ := stR X hx hZ eT A (j := j) hin rfl (Sto.ofV A q1 O I) (g := mkF m pc ls (.ref b :: .int j :: .ref a :: st)) rfl rfl hd
  exact own_go st1 (K T1 h1 _ X1 e1 (Fr.snoc X1 N ge) W1 (Arv.set A q1 S q2 H G rfl W1 i hi hl))
theorem own_tswIn (X : Stand p l e R s m args below meth c T locs cells slots) (hx : p.tables.exec = Jvm.exec) {d lo hi o : Int} {offs : Array Int} {len : Nat} {i : Int32} (hd : decode c.code pc = .ok (.tableswitch d lo hi offs, len)) (hin : ¬ (i.toInt < lo ∨ i.toInt > hi)) (hoff : offs[(i.toInt - lo).toNat]? = some o) (ho : 0 ≤ (pc : Int) + o) (hp : ((pc : Int) + o).toNat = pc') (K : own_Ends p e below s Q kc ks T (mkF m pc' ls st)) : own_Ends p e below s Q kc ks T (mkF m pc ls (.int i :: st)) :=
  own_go (fun t k => XS.tswIn X.here hx rfl rfl hd rfl hin hoff ho hp k) K
theorem own_tswOut (X : Stand p l e R s m args below meth c T locs cells slots) (hx : p.tables.exec = Jvm.exec) {d lo hi : Int} {offs : Array Int} {len : Nat} {i : Int32} (hd : decode c.code pc = .ok (.tableswitch d lo hi offs, len)) (hout : i.toInt < lo ∨ i.toInt > hi) (ho : 0 ≤ (pc : Int) + d) (hp : ((pc : Int) + d).toNat = pc') (K : own_Ends p e below s Q kc ks T (mkF m pc' ls st)) : own_Ends p e below s Q kc ks T (mkF m pc ls (.int i :: st)) :=
  own_go (fun t k => XS.tswOut X.here hx rfl rfl hd rfl hout ho hp k) K
theorem own_ext {h h' : Heap} (K : Keep h h' []) : Ext h h' := ⟨K.1, fun a c q => K.2.1 a c q nin0⟩
theorem own_stak {Z : State} {h h' : Heap} {ws : List Addr} {C n d : String} {v : Value} (F : Sta Z h C n d v) (K : Keep h h' ws) (q : ∀ x ∈ ws, ∃ c : Cell, h[x]? = some c ∧ c.vm.isStatics = false) : Sta Z h' C n d v := by
  obtain ⟨cf, i, k, f, st, cell, h1, h2, h3, h4, h5, h6, h7⟩ := F
  refine ⟨cf, i, k, f, st, cell, h1, h2, h3, h4, K.2.1 st cell h5 (fun z => ?_), h6, h7⟩
  obtain ⟨c, q1, q2⟩ := q st z
  cases h5.symm.trans q1
  rw [h6] at q2; cases q2
theorem own_exac {Z : State} {h : Heap} {a : Addr} {C : String} (F : Exa Z h a C) : ∃ c : Cell, h[a]? = some c ∧ c.vm.isStatics = false := by
  obtain ⟨c, _, h1, -, -, h4, -⟩ := F; exact ⟨c, h1, h4⟩
theorem own_arvc {Z : State} {h : Heap} {a : Addr} {k : ClassId} {ty : FieldType} {n : Int32} {vs : List Value} {d : Value} (F : Arv Z h a k ty n vs d) : ∃ c : Cell, h[a]? = some c ∧ c.vm.isStatics = false := by
  obtain ⟨c, A, -⟩ := F; exact ⟨c, A.1, A.plain⟩
end Own
theorem own_w0 {Z : State} {a0 : Array Value} (hw : ∀ d ∈ tables_1, d.before a0 Z = true) : (Jvm.Cond.arrayClass Jvm.ClassFile.FieldType.int).before a0 Z = true := hw _ (List.mem_of_getElem? (i := 0) rfl)
theorem own_w1 {Z : State} {a0 : Array Value} (hw : ∀ d ∈ tables_1, d.before a0 Z = true) : (Jvm.Cond.constant "com/example/evenhand/evenhand/rounding/PackedIntsGetPinLaw" (7 : Nat) (2147483647 : Int32)).before a0 Z = true := hw _ (List.mem_of_getElem? (i := 1) rfl)
theorem own_w2 {Z : State} {a0 : Array Value} (hw : ∀ d ∈ tables_1, d.before a0 Z = true) : (Jvm.Cond.classLink "com/example/evenhand/evenhand/rounding/PackedIntsGetPinLaw" (8 : Nat) "com/example/evenhand/evenhand/rounding/PackedInts").before a0 Z = true := hw _ (List.mem_of_getElem? (i := 2) rfl)
theorem own_w3 {Z : State} {a0 : Array Value} (hw : ∀ d ∈ tables_1, d.before a0 Z = true) : (Jvm.Cond.instantiable "com/example/evenhand/evenhand/rounding/PackedInts" (2 : Nat)).before a0 Z = true := hw _ (List.mem_of_getElem? (i := 3) rfl)
theorem own_w4 {Z : State} {a0 : Array Value} (hw : ∀ d ∈ tables_1, d.before a0 Z = true) : (Jvm.Cond.initialized "com/example/evenhand/evenhand/rounding/PackedInts").before a0 Z = true := hw _ (List.mem_of_getElem? (i := 4) rfl)
theorem own_w5 {Z : State} {a0 : Array Value} (hw : ∀ d ∈ tables_1, d.before a0 Z = true) : (Jvm.Cond.methodLink "com/example/evenhand/evenhand/rounding/PackedIntsGetPinLaw" (10 : Nat) ({ cls := "com/example/evenhand/evenhand/rounding/PackedInts", name := "<init>", desc := "([II)V" } : Jvm.MethodName)).before a0 Z = true := hw _ (List.mem_of_getElem? (i := 5) rfl)
theorem own_w6 {Z : State} {a0 : Array Value} (hw : ∀ d ∈ tables_1, d.before a0 Z = true) : (Jvm.Cond.instanceMethod ({ cls := "com/example/evenhand/evenhand/rounding/PackedInts", name := "<init>", desc := "([II)V" } : Jvm.MethodName)).before a0 Z = true := hw _ (List.mem_of_getElem? (i := 6) rfl)
theorem own_w7 {Z : State} {a0 : Array Value} (hw : ∀ d ∈ tables_1, d.before a0 Z = true) : (Jvm.Cond.code ({ cls := "com/example/evenhand/evenhand/rounding/PackedInts", name := "<init>", desc := "([II)V" } : Jvm.MethodName) prog_56_method_1_code (9 : Nat) (Option.none : Option Jvm.ClassFile.FieldType)).before a0 Z = true := hw _ (List.mem_of_getElem? (i := 7) rfl)
theorem own_w8 {Z : State} {a0 : Array Value} (hw : ∀ d ∈ tables_1, d.before a0 Z = true) : (Jvm.Cond.methodLink "com/example/evenhand/evenhand/rounding/PackedInts" (1 : Nat) ({ cls := "java/lang/Object", name := "<init>", desc := "()V" } : Jvm.MethodName)).before a0 Z = true := hw _ (List.mem_of_getElem? (i := 8) rfl)
theorem own_w9 {Z : State} {a0 : Array Value} (hw : ∀ d ∈ tables_1, d.before a0 Z = true) : (Jvm.Cond.instanceMethod ({ cls := "java/lang/Object", name := "<init>", desc := "()V" } : Jvm.MethodName)).before a0 Z = true := hw _ (List.mem_of_getElem? (i := 9) rfl)
theorem own_w10 {Z : State} {a0 : Array Value} (hw : ∀ d ∈ tables_1, d.before a0 Z = true) : (Jvm.Cond.code ({ cls := "java/lang/Object", name := "<init>", desc := "()V" } : Jvm.MethodName) object_method_1_code (1 : Nat) (Option.none : Option Jvm.ClassFile.FieldType)).before a0 Z = true := hw _ (List.mem_of_getElem? (i := 10) rfl)
theorem own_w11 {Z : State} {a0 : Array Value} (hw : ∀ d ∈ tables_1, d.before a0 Z = true) : (Jvm.Cond.methodLink "com/example/evenhand/evenhand/rounding/PackedInts" (9 : Nat) ({ cls := "java/lang/Integer", name := "numberOfLeadingZeros", desc := "(I)I" } : Jvm.MethodName)).before a0 Z = true := hw _ (List.mem_of_getElem? (i := 11) rfl)
theorem own_w12 {Z : State} {a0 : Array Value} (hw : ∀ d ∈ tables_1, d.before a0 Z = true) : (Jvm.Cond.static ({ cls := "java/lang/Integer", name := "numberOfLeadingZeros", desc := "(I)I" } : Jvm.MethodName)).before a0 Z = true := hw _ (List.mem_of_getElem? (i := 12) rfl)
theorem own_w13 {Z : State} {a0 : Array Value} (hw : ∀ d ∈ tables_1, d.before a0 Z = true) : (Jvm.Cond.initialized "java/lang/Integer").before a0 Z = true := hw _ (List.mem_of_getElem? (i := 13) rfl)
theorem own_w14 {Z : State} {a0 : Array Value} (hw : ∀ d ∈ tables_1, d.before a0 Z = true) : (Jvm.Cond.code ({ cls := "java/lang/Integer", name := "numberOfLeadingZeros", desc := "(I)I" } : Jvm.MethodName) jdk_33_method_47_code (2 : Nat) (Option.some Jvm.ClassFile.FieldType.int)).before a0 Z = true := hw _ (List.mem_of_getElem? (i := 14) rfl)
theorem own_w15 {Z : State} {a0 : Array Value} (hw : ∀ d ∈ tables_1, d.before a0 Z = true) : (Jvm.Cond.methodLink "com/example/evenhand/evenhand/rounding/PackedInts" (13 : Nat) ({ cls := "java/lang/Math", name := "max", desc := "(II)I" } : Jvm.MethodName)).before a0 Z = true := hw _ (List.mem_of_getElem? (i := 15) rfl)
theorem own_w16 {Z : State} {a0 : Array Value} (hw : ∀ d ∈ tables_1, d.before a0 Z = true) : (Jvm.Cond.static ({ cls := "java/lang/Math", name := "max", desc := "(II)I" } : Jvm.MethodName)).before a0 Z = true := hw _ (List.mem_of_getElem? (i := 16) rfl)
theorem own_w17 {Z : State} {a0 : Array Value} (hw : ∀ d ∈ tables_1, d.before a0 Z = true) : (Jvm.Cond.initialized "java/lang/Math").before a0 Z = true := hw _ (List.mem_of_getElem? (i := 17) rfl)
theorem own_w18 {Z : State} {a0 : Array Value} (hw : ∀ d ∈ tables_1, d.before a0 Z = true) : (Jvm.Cond.code ({ cls := "java/lang/Math", name := "max", desc := "(II)I" } : Jvm.MethodName) jdk_29_method_65_code (2 : Nat) (Option.some Jvm.ClassFile.FieldType.int)).before a0 Z = true := hw _ (List.mem_of_getElem? (i := 18) rfl)
theorem own_w19 {Z : State} {a0 : Array Value} (hw : ∀ d ∈ tables_1, d.before a0 Z = true) : (Jvm.Cond.fieldLink "com/example/evenhand/evenhand/rounding/PackedInts" (19 : Nat) "com/example/evenhand/evenhand/rounding/PackedInts" "width" "I").before a0 Z = true := hw _ (List.mem_of_getElem? (i := 19) rfl)
theorem own_w20 {Z : State} {a0 : Array Value} (hw : ∀ d ∈ tables_1, d.before a0 Z = true) : (Jvm.Cond.laysFinal "com/example/evenhand/evenhand/rounding/PackedInts" "com/example/evenhand/evenhand/rounding/PackedInts" "width" "I").before a0 Z = true := hw _ (List.mem_of_getElem? (i := 20) rfl)
theorem own_w21 {Z : State} {a0 : Array Value} (hw : ∀ d ∈ tables_1, d.before a0 Z = true) : (Jvm.Cond.constantLong "com/example/evenhand/evenhand/rounding/PackedInts" (27 : Nat) (64 : Int64)).before a0 Z = true := hw _ (List.mem_of_getElem? (i := 21) rfl)
theorem own_w22 {Z : State} {a0 : Array Value} (hw : ∀ d ∈ tables_1, d.before a0 Z = true) : (Jvm.Cond.arrayClass Jvm.ClassFile.FieldType.long).before a0 Z = true := hw _ (List.mem_of_getElem? (i := 22) rfl)
theorem own_w23 {Z : State} {a0 : Array Value} (hw : ∀ d ∈ tables_1, d.before a0 Z = true) : (Jvm.Cond.fieldLink "com/example/evenhand/evenhand/rounding/PackedInts" (29 : Nat) "com/example/evenhand/evenhand/rounding/PackedInts" "words" "[J").before a0 Z = true := hw _ (List.mem_of_getElem? (i := 23) rfl)
theorem own_w24 {Z : State} {a0 : Array Value} (hw : ∀ d ∈ tables_1, d.before a0 Z = true) : (Jvm.Cond.laysFinal "com/example/evenhand/evenhand/rounding/PackedInts" "com/example/evenhand/evenhand/rounding/PackedInts" "words" "[J").before a0 Z = true := hw _ (List.mem_of_getElem? (i := 24) rfl)
theorem own_w25 {Z : State} {a0 : Array Value} (hw : ∀ d ∈ tables_1, d.before a0 Z = true) : (Jvm.Cond.methodLink "com/example/evenhand/evenhand/rounding/PackedIntsGetPinLaw" (13 : Nat) ({ cls := "com/example/evenhand/evenhand/rounding/PackedInts", name := "get", desc := "(I)I" } : Jvm.MethodName)).before a0 Z = true := hw _ (List.mem_of_getElem? (i := 25) rfl)
theorem own_w26 {Z : State} {a0 : Array Value} (hw : ∀ d ∈ tables_1, d.before a0 Z = true) : (Jvm.Cond.declares ({ cls := "com/example/evenhand/evenhand/rounding/PackedInts", name := "get", desc := "(I)I" } : Jvm.MethodName)).before a0 Z = true := hw _ (List.mem_of_getElem? (i := 26) rfl)
theorem own_w27 {Z : State} {a0 : Array Value} (hw : ∀ d ∈ tables_1, d.before a0 Z = true) : (Jvm.Cond.instanceMethod ({ cls := "com/example/evenhand/evenhand/rounding/PackedInts", name := "get", desc := "(I)I" } : Jvm.MethodName)).before a0 Z = true := hw _ (List.mem_of_getElem? (i := 27) rfl)
theorem own_w28 {Z : State} {a0 : Array Value} (hw : ∀ d ∈ tables_1, d.before a0 Z = true) : (Jvm.Cond.selects "com/example/evenhand/evenhand/rounding/PackedInts" ({ cls := "com/example/evenhand/evenhand/rounding/PackedInts", name := "get", desc := "(I)I" } : Jvm.MethodName) ({ cls := "com/example/evenhand/evenhand/rounding/PackedInts", name := "get", desc := "(I)I" } : Jvm.MethodName)).before a0 Z = true := hw _ (List.mem_of_getElem? (i := 28) rfl)
theorem own_w29 {Z : State} {a0 : Array Value} (hw : ∀ d ∈ tables_1, d.before a0 Z = true) : (Jvm.Cond.code ({ cls := "com/example/evenhand/evenhand/rounding/PackedInts", name := "get", desc := "(I)I" } : Jvm.MethodName) prog_56_method_2_code (8 : Nat) (Option.some Jvm.ClassFile.FieldType.int)).before a0 Z = true := hw _ (List.mem_of_getElem? (i := 29) rfl)
theorem own_w30 {Z : State} {a0 : Array Value} (hw : ∀ d ∈ tables_1, d.before a0 Z = true) : (Jvm.Cond.constant "java/lang/Integer" (264 : Nat) (65536 : Int32)).before a0 Z = true := hw _ (List.mem_of_getElem? (i := 30) rfl)
theorem own_pd0 : parseMethodDescriptor "(I)I" = some ⟨[.int], some .int⟩ := by decide +kernel
theorem own_pd1 : parseMethodDescriptor "(II)I" = some ⟨[.int, .int], some .int⟩ := by decide +kernel
theorem own_pd2 : parseMethodDescriptor "([II)V" = some ⟨[(.array .int), .int], none⟩ := by decide +kernel
theorem own_pn0 : plainName "java/lang/Integer" = true := by first | (simp [plainName, overriddenIn]; done) | decide +kernel
theorem own_pn1 : plainName "com/example/evenhand/evenhand/rounding/PackedInts" = true := by first | (simp [plainName, overriddenIn]; done) | decide +kernel
theorem own_pn2 : plainName "com/example/evenhand/evenhand/rounding/PackedIntsGetPinLaw" = true := by first | (simp [plainName, overriddenIn]; done) | decide +kernel
theorem own_arrat {s : State} {a : Addr} {c : Cell} (h : s.arrayAt? a = some c) : s.heap[a]? = some c := by
  unfold State.arrayAt? at h
  cases q : s.heap[a]? with
  | none => simp [q] at h
  | some d =>
    simp [q] at h
    obtain ⟨k, -, h2⟩ := Option.bind_eq_some_iff.mp h
    split at h2
    · cases h2
    · split at h2
      · exact h2
      · cases h2
theorem own_b1 {x a b : Int32} (h : x < a) (q : ¬ b < a) : x < b := by rw [Int32.lt_iff_toInt_lt] at *; omega
theorem own_b2 {x a b : Int32} (h : ¬ x < a) (q : ¬ a < b) : ¬ x < b := by rw [Int32.lt_iff_toInt_lt] at *; omega
theorem own_b3 {x a b : Int32} (h : a < x) (q : ¬ a < b) : b < x := by rw [Int32.lt_iff_toInt_lt] at *; omega
theorem own_b4 {x a b : Int32} (h : ¬ a < x) (q : ¬ b < a) : ¬ b < x := by rw [Int32.lt_iff_toInt_lt] at *; omega
theorem own_b5 {x a b : Int32} (h : x < a) (q : ¬ b < a - 1 ∧ a - 1 < a) : ¬ b < x := by
  obtain ⟨q1, q2⟩ := q
  have := c_isub a 1; have := rng32 a; have := rng32 (a - 1); have e1 : (1 : Int32).toInt = 1 := rfl
  rw [Int32.lt_iff_toInt_lt] at *; omega
theorem own_b6 {x a b : Int32} (h : ¬ x < a) (q : b < a) : b < x := by rw [Int32.lt_iff_toInt_lt] at *; omega
theorem own_b7 {x a b : Int32} (h : a < x) (q : ¬ a + 1 < b ∧ a < a + 1) : ¬ x < b := by
  obtain ⟨q1, q2⟩ := q
  have := c_iadd a 1; have := rng32 a; have := rng32 (a + 1); have e1 : (1 : Int32).toInt = 1 := rfl
  rw [Int32.lt_iff_toInt_lt] at *; omega
theorem own_b8 {x a b : Int32} (h : ¬ a < x) (q : a < b) : x < b := by rw [Int32.lt_iff_toInt_lt] at *; omega
theorem own_n1 {x b : Int32} (h : x < b) : ¬ x = b := fun q => by subst q; rw [Int32.lt_iff_toInt_lt] at h; omega
theorem own_n2 {x b : Int32} (h : b < x) : ¬ x = b := fun q => by subst q; rw [Int32.lt_iff_toInt_lt] at h; omega
theorem own_i1 {x y : Int32} (h : x < y) : x.toInt < y.toInt := Int32.lt_iff_toInt_lt.mp h
theorem own_i2 {x y : Int32} (h : ¬ x < y) : y.toInt ≤ x.toInt := Int.not_lt.mp fun q => h (Int32.lt_iff_toInt_lt.mpr q)
theorem own_i3 {x y : Int32} (h : x = y) : x.toInt = y.toInt := congrArg Int32.toInt h
theorem own_i4 {x y : Int32} (h : ¬ x = y) : ¬ x.toInt = y.toInt := fun q => h (Int32.toInt_inj.mp q)
theorem own_some {x y : Int32} (h : x = y) : some (Value.int x) = some (Value.int y) := congrArg (fun z => some (Value.int z)) h
theorem own_ae1 {a b : Addr} (h : a = b) : XT.acmp .eq (.ref a) (.ref b) = true ∧ XT.acmp .ne (.ref a) (.ref b) = false := ⟨decide_eq_true (congrArg Value.ref h), decide_eq_false fun q => q (congrArg Value.ref h)⟩
theorem own_ae0 {a b : Addr} (h : ¬ a = b) : XT.acmp .eq (.ref a) (.ref b) = false ∧ XT.acmp .ne (.ref a) (.ref b) = true := ⟨decide_eq_false fun q => h (Value.ref.inj q), decide_eq_true fun q => h (Value.ref.inj q)⟩
theorem own_ann : XT.acmp .eq .null .null = true ∧ XT.acmp .ne .null .null = false := ⟨rfl, rfl⟩
theorem own_anr (b : Addr) : XT.acmp .eq .null (.ref b) = false ∧ XT.acmp .ne .null (.ref b) = true := by constructor <;> first | rfl | (simp [XT.acmp]; done) | decide
theorem own_arn (b : Addr) : XT.acmp .eq (.ref b) .null = false ∧ XT.acmp .ne (.ref b) .null = true := by constructor <;> first | rfl | (simp [XT.acmp]; done) | decide
theorem own_eqi {args : Array Value} {s : State} {t : Term} {k : Int32} (h : (Jvm.Cond.eq t (Term.int k)).value args s none s [] = some true) : t.eval args s none [] s = some (.int k) := by
  obtain ⟨x, y, e1, e2, k1, k2⟩ := cmp_v (Or.inl h)
  obtain rfl : Value.int k = y := Option.some.inj ((Term.int_eval k).symm.trans e2)
  obtain ⟨z, rfl⟩ : ∃ z, x = .int z := k2
  have q : z = k := gotT (Cond.eq_ints e1 (Term.int_eval k)) h
  rw [e1, q]
theorem own_eql {args : Array Value} {s : State} {t : Term} {k : Int64} (h : (Jvm.Cond.eq t (Term.long k)).value args s none s [] = some true) : t.eval args s none [] s = some (.long k) := by
  obtain ⟨x, y, e1, e2, k1, k2⟩ := cmp_v (Or.inl h)
  obtain rfl : Value.long k = y := Option.some.inj ((show (Term.long k).eval args s none [] s = some (.long k) from rfl).symm.trans e2)
  obtain ⟨z, rfl⟩ : ∃ z, x = .long z := k2
  have q : z = k := gotT (eq_L e1 (show (Term.long k).eval args s none [] s = some (.long k) from rfl)) h
  rw [e1, q]
theorem own_len {args : Array Value} {s : State} {t : Term} {k : Int32} {a : Addr} {c : Cell} (h : (Term.length t).eval args s none [] s = some (.int k)) (ht : t.eval args s none [] s = some (.ref a)) (hc : s.heap[a]? = some c) : c.slots.size.toInt32 = k ∧ c.slots.size < 2 ^ 31 := by
  obtain ⟨a', cell, e1, e2, e3⟩ := Term.length_spec h
  cases ht.symm.trans e1
  have e4 : s.heap[a]? = some cell := own_arrat e2
  cases hc.symm.trans e4
  refine ⟨(Value.int.inj e3).symm, ?_⟩
  by_cases q : c.slots.size < 2 ^ 31
  · exact q
  · simp [Term.eval, ht, e2, q] at h
theorem own_nb0 : nar .boolean 0 = 0 := by decide
theorem own_nb1 : nar .boolean 1 = 1 := by decide
def own_ushr (x y : Int32) : Int32 := (x.toUInt32 >>> (y &&& 31).toUInt32).toInt32
def own_ushrL (x : Int64) (y : Int32) : Int64 := (x.toUInt64 >>> (y &&& 0x3f).toInt64.toUInt64).toInt64
theorem own_d1_0 : decode prog_56_method_1_code 0 = .ok (.aload_n 0, 1) := by decide +kernel
theorem own_d1_1 : decode prog_56_method_1_code 1 = .ok (.invokespecial 1, 3) := by decide +kernel
theorem own_d1_4 : decode prog_56_method_1_code 4 = .ok (.iconst 0, 1) := by decide +kernel
theorem own_d1_5 : decode prog_56_method_1_code 5 = .ok (.istore_n 3, 1) := by decide +kernel
theorem own_d1_6 : decode prog_56_method_1_code 6 = .ok (.iconst 0, 1) := by decide +kernel
theorem own_d1_7 : decode prog_56_method_1_code 7 = .ok (.istore 4, 2) := by decide +kernel
theorem own_d1_9 : decode prog_56_method_1_code 9 = .ok (.iload 4, 2) := by decide +kernel
theorem own_d1_11 : decode prog_56_method_1_code 11 = .ok (.iload_n 2, 1) := by decide +kernel
theorem own_d1_12 : decode prog_56_method_1_code 12 = .ok (.if_icmp .ge 16, 3) := by decide +kernel
theorem own_d1_15 : decode prog_56_method_1_code 15 = .ok (.iload_n 3, 1) := by decide +kernel
theorem own_d1_16 : decode prog_56_method_1_code 16 = .ok (.aload_n 1, 1) := by decide +kernel
theorem own_d1_17 : decode prog_56_method_1_code 17 = .ok (.iload 4, 2) := by decide +kernel
theorem own_d1_19 : decode prog_56_method_1_code 19 = .ok (.iaload, 1) := by decide +kernel
theorem own_d1_20 : decode prog_56_method_1_code 20 = .ok (.ior, 1) := by decide +kernel
theorem own_d1_21 : decode prog_56_method_1_code 21 = .ok (.istore_n 3, 1) := by decide +kernel
theorem own_d1_22 : decode prog_56_method_1_code 22 = .ok (.iinc 4 1, 3) := by decide +kernel
theorem own_d1_25 : decode prog_56_method_1_code 25 = .ok (.goto (-16), 3) := by decide +kernel
theorem own_d1_28 : decode prog_56_method_1_code 28 = .ok (.aload_n 0, 1) := by decide +kernel
theorem own_d1_29 : decode prog_56_method_1_code 29 = .ok (.iconst 1, 1) := by decide +kernel
theorem own_d1_30 : decode prog_56_method_1_code 30 = .ok (.bipush 32, 2) := by decide +kernel
theorem own_d1_32 : decode prog_56_method_1_code 32 = .ok (.iload_n 3, 1) := by decide +kernel
theorem own_d1_33 : decode prog_56_method_1_code 33 = .ok (.invokestatic 9, 3) := by decide +kernel
theorem own_d1_36 : decode prog_56_method_1_code 36 = .ok (.isub, 1) := by decide +kernel
theorem own_d1_37 : decode prog_56_method_1_code 37 = .ok (.invokestatic 13, 3) := by decide +kernel
theorem own_d1_40 : decode prog_56_method_1_code 40 = .ok (.putfield 19, 3) := by decide +kernel
theorem own_d1_43 : decode prog_56_method_1_code 43 = .ok (.aload_n 0, 1) := by decide +kernel
theorem own_d1_44 : decode prog_56_method_1_code 44 = .ok (.iload_n 2, 1) := by decide +kernel
theorem own_d1_45 : decode prog_56_method_1_code 45 = .ok (.i2l, 1) := by decide +kernel
theorem own_d1_46 : decode prog_56_method_1_code 46 = .ok (.aload_n 0, 1) := by decide +kernel
theorem own_d1_47 : decode prog_56_method_1_code 47 = .ok (.getfield 19, 3) := by decide +kernel
theorem own_d1_50 : decode prog_56_method_1_code 50 = .ok (.i2l, 1) := by decide +kernel
theorem own_d1_51 : decode prog_56_method_1_code 51 = .ok (.lmul, 1) := by decide +kernel
theorem own_d1_52 : decode prog_56_method_1_code 52 = .ok (.ldc2_w 27, 3) := by decide +kernel
theorem own_d1_55 : decode prog_56_method_1_code 55 = .ok (.ladd, 1) := by decide +kernel
theorem own_d1_56 : decode prog_56_method_1_code 56 = .ok (.lconst 1, 1) := by decide +kernel
theorem own_d1_57 : decode prog_56_method_1_code 57 = .ok (.lsub, 1) := by decide +kernel
theorem own_d1_58 : decode prog_56_method_1_code 58 = .ok (.ldc2_w 27, 3) := by decide +kernel
theorem own_d1_61 : decode prog_56_method_1_code 61 = .ok (.ldiv, 1) := by decide +kernel
theorem own_d1_62 : decode prog_56_method_1_code 62 = .ok (.l2i, 1) := by decide +kernel
theorem own_d1_63 : decode prog_56_method_1_code 63 = .ok (.newarray .long, 2) := by decide +kernel
theorem own_d1_65 : decode prog_56_method_1_code 65 = .ok (.putfield 29, 3) := by decide +kernel
theorem own_d1_68 : decode prog_56_method_1_code 68 = .ok (.iconst 0, 1) := by decide +kernel
theorem own_d1_69 : decode prog_56_method_1_code 69 = .ok (.istore 4, 2) := by decide +kernel
theorem own_d1_71 : decode prog_56_method_1_code 71 = .ok (.iload 4, 2) := by decide +kernel
theorem own_d1_73 : decode prog_56_method_1_code 73 = .ok (.iload_n 2, 1) := by decide +kernel
theorem own_d1_74 : decode prog_56_method_1_code 74 = .ok (.if_icmp .ge 89, 3) := by decide +kernel
theorem own_d1_77 : decode prog_56_method_1_code 77 = .ok (.iload 4, 2) := by decide +kernel
theorem own_d1_79 : decode prog_56_method_1_code 79 = .ok (.i2l, 1) := by decide +kernel
theorem own_d1_80 : decode prog_56_method_1_code 80 = .ok (.aload_n 0, 1) := by decide +kernel
theorem own_d1_81 : decode prog_56_method_1_code 81 = .ok (.getfield 19, 3) := by decide +kernel
theorem own_d1_84 : decode prog_56_method_1_code 84 = .ok (.i2l, 1) := by decide +kernel
theorem own_d1_85 : decode prog_56_method_1_code 85 = .ok (.lmul, 1) := by decide +kernel
theorem own_d1_86 : decode prog_56_method_1_code 86 = .ok (.lstore 5, 2) := by decide +kernel
theorem own_d1_88 : decode prog_56_method_1_code 88 = .ok (.lload 5, 2) := by decide +kernel
theorem own_d1_90 : decode prog_56_method_1_code 90 = .ok (.bipush 6, 2) := by decide +kernel
theorem own_d1_92 : decode prog_56_method_1_code 92 = .ok (.lushr, 1) := by decide +kernel
theorem own_d1_93 : decode prog_56_method_1_code 93 = .ok (.l2i, 1) := by decide +kernel
theorem own_d1_94 : decode prog_56_method_1_code 94 = .ok (.istore 7, 2) := by decide +kernel
theorem own_d1_96 : decode prog_56_method_1_code 96 = .ok (.lload 5, 2) := by decide +kernel
theorem own_d1_98 : decode prog_56_method_1_code 98 = .ok (.l2i, 1) := by decide +kernel
theorem own_d1_99 : decode prog_56_method_1_code 99 = .ok (.bipush 63, 2) := by decide +kernel
theorem own_d1_101 : decode prog_56_method_1_code 101 = .ok (.iand, 1) := by decide +kernel
theorem own_d1_102 : decode prog_56_method_1_code 102 = .ok (.istore 8, 2) := by decide +kernel
theorem own_d1_104 : decode prog_56_method_1_code 104 = .ok (.aload_n 0, 1) := by decide +kernel
theorem own_d1_105 : decode prog_56_method_1_code 105 = .ok (.getfield 29, 3) := by decide +kernel
theorem own_d1_108 : decode prog_56_method_1_code 108 = .ok (.iload 7, 2) := by decide +kernel
theorem own_d1_110 : decode prog_56_method_1_code 110 = .ok (.dup2, 1) := by decide +kernel
theorem own_d1_111 : decode prog_56_method_1_code 111 = .ok (.laload, 1) := by decide +kernel
theorem own_d1_112 : decode prog_56_method_1_code 112 = .ok (.aload_n 1, 1) := by decide +kernel
theorem own_d1_113 : decode prog_56_method_1_code 113 = .ok (.iload 4, 2) := by decide +kernel
theorem own_d1_115 : decode prog_56_method_1_code 115 = .ok (.iaload, 1) := by decide +kernel
theorem own_d1_116 : decode prog_56_method_1_code 116 = .ok (.i2l, 1) := by decide +kernel
theorem own_d1_117 : decode prog_56_method_1_code 117 = .ok (.iload 8, 2) := by decide +kernel
theorem own_d1_119 : decode prog_56_method_1_code 119 = .ok (.lshl, 1) := by decide +kernel
theorem own_d1_120 : decode prog_56_method_1_code 120 = .ok (.lor, 1) := by decide +kernel
theorem own_d1_121 : decode prog_56_method_1_code 121 = .ok (.lastore, 1) := by decide +kernel
theorem own_d1_122 : decode prog_56_method_1_code 122 = .ok (.iload 8, 2) := by decide +kernel
theorem own_d1_124 : decode prog_56_method_1_code 124 = .ok (.aload_n 0, 1) := by decide +kernel
theorem own_d1_125 : decode prog_56_method_1_code 125 = .ok (.getfield 19, 3) := by decide +kernel
theorem own_d1_128 : decode prog_56_method_1_code 128 = .ok (.iadd, 1) := by decide +kernel
theorem own_d1_129 : decode prog_56_method_1_code 129 = .ok (.bipush 64, 2) := by decide +kernel
theorem own_d1_131 : decode prog_56_method_1_code 131 = .ok (.if_icmp .le 26, 3) := by decide +kernel
theorem own_d1_134 : decode prog_56_method_1_code 134 = .ok (.aload_n 0, 1) := by decide +kernel
theorem own_d1_135 : decode prog_56_method_1_code 135 = .ok (.getfield 29, 3) := by decide +kernel
theorem own_d1_138 : decode prog_56_method_1_code 138 = .ok (.iload 7, 2) := by decide +kernel
theorem own_d1_140 : decode prog_56_method_1_code 140 = .ok (.iconst 1, 1) := by decide +kernel
theorem own_d1_141 : decode prog_56_method_1_code 141 = .ok (.iadd, 1) := by decide +kernel
theorem own_d1_142 : decode prog_56_method_1_code 142 = .ok (.dup2, 1) := by decide +kernel
theorem own_d1_143 : decode prog_56_method_1_code 143 = .ok (.laload, 1) := by decide +kernel
theorem own_d1_144 : decode prog_56_method_1_code 144 = .ok (.aload_n 1, 1) := by decide +kernel
theorem own_d1_145 : decode prog_56_method_1_code 145 = .ok (.iload 4, 2) := by decide +kernel
theorem own_d1_147 : decode prog_56_method_1_code 147 = .ok (.iaload, 1) := by decide +kernel
theorem own_d1_148 : decode prog_56_method_1_code 148 = .ok (.i2l, 1) := by decide +kernel
theorem own_d1_149 : decode prog_56_method_1_code 149 = .ok (.bipush 64, 2) := by decide +kernel
theorem own_d1_151 : decode prog_56_method_1_code 151 = .ok (.iload 8, 2) := by decide +kernel
theorem own_d1_153 : decode prog_56_method_1_code 153 = .ok (.isub, 1) := by decide +kernel
theorem own_d1_154 : decode prog_56_method_1_code 154 = .ok (.lushr, 1) := by decide +kernel
theorem own_d1_155 : decode prog_56_method_1_code 155 = .ok (.lor, 1) := by decide +kernel
theorem own_d1_156 : decode prog_56_method_1_code 156 = .ok (.lastore, 1) := by decide +kernel
theorem own_d1_157 : decode prog_56_method_1_code 157 = .ok (.iinc 4 1, 3) := by decide +kernel
theorem own_d1_160 : decode prog_56_method_1_code 160 = .ok (.goto (-89), 3) := by decide +kernel
theorem own_d1_163 : decode prog_56_method_1_code 163 = .ok (.return_, 1) := by decide +kernel
theorem own_d3_0 : decode jdk_33_method_47_code 0 = .ok (.iload_n 0, 1) := by decide +kernel
theorem own_d3_1 : decode jdk_33_method_47_code 1 = .ok (.ifCond .gt 14, 3) := by decide +kernel
theorem own_d3_4 : decode jdk_33_method_47_code 4 = .ok (.iload_n 0, 1) := by decide +kernel
theorem own_d3_5 : decode jdk_33_method_47_code 5 = .ok (.ifCond .ne 8, 3) := by decide +kernel
theorem own_d3_8 : decode jdk_33_method_47_code 8 = .ok (.bipush 32, 2) := by decide +kernel
theorem own_d3_10 : decode jdk_33_method_47_code 10 = .ok (.goto 4, 3) := by decide +kernel
theorem own_d3_13 : decode jdk_33_method_47_code 13 = .ok (.iconst 0, 1) := by decide +kernel
theorem own_d3_14 : decode jdk_33_method_47_code 14 = .ok (.ireturn, 1) := by decide +kernel
theorem own_d3_15 : decode jdk_33_method_47_code 15 = .ok (.bipush 31, 2) := by decide +kernel
theorem own_d3_17 : decode jdk_33_method_47_code 17 = .ok (.istore_n 1, 1) := by decide +kernel
theorem own_d3_18 : decode jdk_33_method_47_code 18 = .ok (.iload_n 0, 1) := by decide +kernel
theorem own_d3_19 : decode jdk_33_method_47_code 19 = .ok (.ldc_w 264, 3) := by decide +kernel
theorem own_d3_22 : decode jdk_33_method_47_code 22 = .ok (.if_icmp .lt 11, 3) := by decide +kernel
theorem own_d3_25 : decode jdk_33_method_47_code 25 = .ok (.iinc 1 (-16), 3) := by decide +kernel
theorem own_d3_28 : decode jdk_33_method_47_code 28 = .ok (.iload_n 0, 1) := by decide +kernel
theorem own_d3_29 : decode jdk_33_method_47_code 29 = .ok (.bipush 16, 2) := by decide +kernel
theorem own_d3_31 : decode jdk_33_method_47_code 31 = .ok (.iushr, 1) := by decide +kernel
theorem own_d3_32 : decode jdk_33_method_47_code 32 = .ok (.istore_n 0, 1) := by decide +kernel
theorem own_d3_33 : decode jdk_33_method_47_code 33 = .ok (.iload_n 0, 1) := by decide +kernel
theorem own_d3_34 : decode jdk_33_method_47_code 34 = .ok (.sipush 256, 3) := by decide +kernel
theorem own_d3_37 : decode jdk_33_method_47_code 37 = .ok (.if_icmp .lt 11, 3) := by decide +kernel
theorem own_d3_40 : decode jdk_33_method_47_code 40 = .ok (.iinc 1 (-8), 3) := by decide +kernel
theorem own_d3_43 : decode jdk_33_method_47_code 43 = .ok (.iload_n 0, 1) := by decide +kernel
theorem own_d3_44 : decode jdk_33_method_47_code 44 = .ok (.bipush 8, 2) := by decide +kernel
theorem own_d3_46 : decode jdk_33_method_47_code 46 = .ok (.iushr, 1) := by decide +kernel
theorem own_d3_47 : decode jdk_33_method_47_code 47 = .ok (.istore_n 0, 1) := by decide +kernel
theorem own_d3_48 : decode jdk_33_method_47_code 48 = .ok (.iload_n 0, 1) := by decide +kernel
theorem own_d3_49 : decode jdk_33_method_47_code 49 = .ok (.bipush 16, 2) := by decide +kernel
theorem own_d3_51 : decode jdk_33_method_47_code 51 = .ok (.if_icmp .lt 10, 3) := by decide +kernel
theorem own_d3_54 : decode jdk_33_method_47_code 54 = .ok (.iinc 1 (-4), 3) := by decide +kernel
theorem own_d3_57 : decode jdk_33_method_47_code 57 = .ok (.iload_n 0, 1) := by decide +kernel
theorem own_d3_58 : decode jdk_33_method_47_code 58 = .ok (.iconst 4, 1) := by decide +kernel
theorem own_d3_59 : decode jdk_33_method_47_code 59 = .ok (.iushr, 1) := by decide +kernel
theorem own_d3_60 : decode jdk_33_method_47_code 60 = .ok (.istore_n 0, 1) := by decide +kernel
theorem own_d3_61 : decode jdk_33_method_47_code 61 = .ok (.iload_n 0, 1) := by decide +kernel
theorem own_d3_62 : decode jdk_33_method_47_code 62 = .ok (.iconst 4, 1) := by decide +kernel
theorem own_d3_63 : decode jdk_33_method_47_code 63 = .ok (.if_icmp .lt 10, 3) := by decide +kernel
theorem own_d3_66 : decode jdk_33_method_47_code 66 = .ok (.iinc 1 (-2), 3) := by decide +kernel
theorem own_d3_69 : decode jdk_33_method_47_code 69 = .ok (.iload_n 0, 1) := by decide +kernel
theorem own_d3_70 : decode jdk_33_method_47_code 70 = .ok (.iconst 2, 1) := by decide +kernel
theorem own_d3_71 : decode jdk_33_method_47_code 71 = .ok (.iushr, 1) := by decide +kernel
theorem own_d3_72 : decode jdk_33_method_47_code 72 = .ok (.istore_n 0, 1) := by decide +kernel
theorem own_d3_73 : decode jdk_33_method_47_code 73 = .ok (.iload_n 1, 1) := by decide +kernel
theorem own_d3_74 : decode jdk_33_method_47_code 74 = .ok (.iload_n 0, 1) := by decide +kernel
theorem own_d3_75 : decode jdk_33_method_47_code 75 = .ok (.iconst 1, 1) := by decide +kernel
theorem own_d3_76 : decode jdk_33_method_47_code 76 = .ok (.iushr, 1) := by decide +kernel
theorem own_d3_77 : decode jdk_33_method_47_code 77 = .ok (.isub, 1) := by decide +kernel
theorem own_d3_78 : decode jdk_33_method_47_code 78 = .ok (.ireturn, 1) := by decide +kernel
theorem own_d4_0 : decode jdk_29_method_65_code 0 = .ok (.iload_n 0, 1) := by decide +kernel
theorem own_d4_1 : decode jdk_29_method_65_code 1 = .ok (.iload_n 1, 1) := by decide +kernel
theorem own_d4_2 : decode jdk_29_method_65_code 2 = .ok (.if_icmp .lt 7, 3) := by decide +kernel
theorem own_d4_5 : decode jdk_29_method_65_code 5 = .ok (.iload_n 0, 1) := by decide +kernel
theorem own_d4_6 : decode jdk_29_method_65_code 6 = .ok (.goto 4, 3) := by decide +kernel
theorem own_d4_9 : decode jdk_29_method_65_code 9 = .ok (.iload_n 1, 1) := by decide +kernel
theorem own_d4_10 : decode jdk_29_method_65_code 10 = .ok (.ireturn, 1) := by decide +kernel
theorem own_d5_0 : decode prog_56_method_2_code 0 = .ok (.iload_n 1, 1) := by decide +kernel
theorem own_d5_1 : decode prog_56_method_2_code 1 = .ok (.i2l, 1) := by decide +kernel
theorem own_d5_2 : decode prog_56_method_2_code 2 = .ok (.aload_n 0, 1) := by decide +kernel
theorem own_d5_3 : decode prog_56_method_2_code 3 = .ok (.getfield 19, 3) := by decide +kernel
theorem own_d5_6 : decode prog_56_method_2_code 6 = .ok (.i2l, 1) := by decide +kernel
theorem own_d5_7 : decode prog_56_method_2_code 7 = .ok (.lmul, 1) := by decide +kernel
theorem own_d5_8 : decode prog_56_method_2_code 8 = .ok (.lstore_n 2, 1) := by decide +kernel
theorem own_d5_9 : decode prog_56_method_2_code 9 = .ok (.lload_n 2, 1) := by decide +kernel
theorem own_d5_10 : decode prog_56_method_2_code 10 = .ok (.bipush 6, 2) := by decide +kernel
theorem own_d5_12 : decode prog_56_method_2_code 12 = .ok (.lushr, 1) := by decide +kernel
theorem own_d5_13 : decode prog_56_method_2_code 13 = .ok (.l2i, 1) := by decide +kernel
theorem own_d5_14 : decode prog_56_method_2_code 14 = .ok (.istore 4, 2) := by decide +kernel
theorem own_d5_16 : decode prog_56_method_2_code 16 = .ok (.lload_n 2, 1) := by decide +kernel
theorem own_d5_17 : decode prog_56_method_2_code 17 = .ok (.l2i, 1) := by decide +kernel
theorem own_d5_18 : decode prog_56_method_2_code 18 = .ok (.bipush 63, 2) := by decide +kernel
theorem own_d5_20 : decode prog_56_method_2_code 20 = .ok (.iand, 1) := by decide +kernel
theorem own_d5_21 : decode prog_56_method_2_code 21 = .ok (.istore 5, 2) := by decide +kernel
theorem own_d5_23 : decode prog_56_method_2_code 23 = .ok (.aload_n 0, 1) := by decide +kernel
theorem own_d5_24 : decode prog_56_method_2_code 24 = .ok (.getfield 29, 3) := by decide +kernel
theorem own_d5_27 : decode prog_56_method_2_code 27 = .ok (.iload 4, 2) := by decide +kernel
theorem own_d5_29 : decode prog_56_method_2_code 29 = .ok (.laload, 1) := by decide +kernel
theorem own_d5_30 : decode prog_56_method_2_code 30 = .ok (.iload 5, 2) := by decide +kernel
theorem own_d5_32 : decode prog_56_method_2_code 32 = .ok (.lushr, 1) := by decide +kernel
theorem own_d5_33 : decode prog_56_method_2_code 33 = .ok (.lstore 6, 2) := by decide +kernel
theorem own_d5_35 : decode prog_56_method_2_code 35 = .ok (.iload 5, 2) := by decide +kernel
theorem own_d5_37 : decode prog_56_method_2_code 37 = .ok (.aload_n 0, 1) := by decide +kernel
theorem own_d5_38 : decode prog_56_method_2_code 38 = .ok (.getfield 19, 3) := by decide +kernel
theorem own_d5_41 : decode prog_56_method_2_code 41 = .ok (.iadd, 1) := by decide +kernel
theorem own_d5_42 : decode prog_56_method_2_code 42 = .ok (.bipush 64, 2) := by decide +kernel
theorem own_d5_44 : decode prog_56_method_2_code 44 = .ok (.if_icmp .le 23, 3) := by decide +kernel
theorem own_d5_47 : decode prog_56_method_2_code 47 = .ok (.lload 6, 2) := by decide +kernel
theorem own_d5_49 : decode prog_56_method_2_code 49 = .ok (.aload_n 0, 1) := by decide +kernel
theorem own_d5_50 : decode prog_56_method_2_code 50 = .ok (.getfield 29, 3) := by decide +kernel
theorem own_d5_53 : decode prog_56_method_2_code 53 = .ok (.iload 4, 2) := by decide +kernel
theorem own_d5_55 : decode prog_56_method_2_code 55 = .ok (.iconst 1, 1) := by decide +kernel
theorem own_d5_56 : decode prog_56_method_2_code 56 = .ok (.iadd, 1) := by decide +kernel
theorem own_d5_57 : decode prog_56_method_2_code 57 = .ok (.laload, 1) := by decide +kernel
theorem own_d5_58 : decode prog_56_method_2_code 58 = .ok (.bipush 64, 2) := by decide +kernel
theorem own_d5_60 : decode prog_56_method_2_code 60 = .ok (.iload 5, 2) := by decide +kernel
theorem own_d5_62 : decode prog_56_method_2_code 62 = .ok (.isub, 1) := by decide +kernel
theorem own_d5_63 : decode prog_56_method_2_code 63 = .ok (.lshl, 1) := by decide +kernel
theorem own_d5_64 : decode prog_56_method_2_code 64 = .ok (.lor, 1) := by decide +kernel
theorem own_d5_65 : decode prog_56_method_2_code 65 = .ok (.lstore 6, 2) := by decide +kernel
theorem own_d5_67 : decode prog_56_method_2_code 67 = .ok (.lload 6, 2) := by decide +kernel
theorem own_d5_69 : decode prog_56_method_2_code 69 = .ok (.l2i, 1) := by decide +kernel
theorem own_d5_70 : decode prog_56_method_2_code 70 = .ok (.lconst 1, 1) := by decide +kernel
theorem own_d5_71 : decode prog_56_method_2_code 71 = .ok (.aload_n 0, 1) := by decide +kernel
theorem own_d5_72 : decode prog_56_method_2_code 72 = .ok (.getfield 19, 3) := by decide +kernel
theorem own_d5_75 : decode prog_56_method_2_code 75 = .ok (.lshl, 1) := by decide +kernel
theorem own_d5_76 : decode prog_56_method_2_code 76 = .ok (.lconst 1, 1) := by decide +kernel
theorem own_d5_77 : decode prog_56_method_2_code 77 = .ok (.lsub, 1) := by decide +kernel
theorem own_d5_78 : decode prog_56_method_2_code 78 = .ok (.l2i, 1) := by decide +kernel
theorem own_d5_79 : decode prog_56_method_2_code 79 = .ok (.iand, 1) := by decide +kernel
theorem own_d5_80 : decode prog_56_method_2_code 80 = .ok (.ireturn, 1) := by decide +kernel
def own_G (W : List Int64) (B : Nat) : Bool := (W.getD (B / 64) 0).toBitVec.getLsbD (B % 64)
theorem own_sA : ∀ s < 64, (((Int32.ofNat s &&& 0x3f).toInt64).toBitVec.smod 64) = BitVec.ofNat 64 s := by decide +kernel
theorem own_sB : ∀ s < 64, ((Int32.ofNat s &&& 0x3f).toInt64.toUInt64.toBitVec % 64) = BitVec.ofNat 64 s := by decide +kernel
theorem own_shl (x : Int64) {s : Nat} (t : Nat) (hs : s < 64) : (x <<< (Int32.ofNat s &&& 0x3f).toInt64).toBitVec.getLsbD t = (decide (t < 64) && (!decide (t < s) && x.toBitVec.getLsbD (t - s))) := by
  rw [Int64.toBitVec_shiftLeft, own_sA s hs, BitVec.shiftLeft_eq', BitVec.getLsbD_shiftLeft]
  have : (BitVec.ofNat 64 s).toNat = s := by simp [BitVec.toNat_ofNat]; omega
  rw [this]
  simp only [Bool.and_assoc]
theorem own_shr (x : Int64) {s : Nat} (t : Nat) (hs : s < 64) : (own_ushrL x (Int32.ofNat s)).toBitVec.getLsbD t = x.toBitVec.getLsbD (s + t) := by
  unfold own_ushrL
  show ((x.toUInt64 >>> _ : UInt64).toBitVec).getLsbD t = _
  rw [UInt64.toBitVec_shiftRight]
  rw [own_sB s hs, BitVec.ushiftRight_eq', BitVec.getLsbD_ushiftRight]
  have : (BitVec.ofNat 64 s).toNat = s := by simp [BitVec.toNat_ofNat]; omega
  rw [this]
  rfl
theorem own_pos : ∀ A < 2304, (own_ushrL (Int64.ofNat A) 6).toInt32 = Int32.ofNat (A / 64) ∧ ((Int64.ofNat A).toInt32 &&& 63) = Int32.ofNat (A % 64) ∧ ((Int64.ofNat A + 64 - 1) / 64).toInt32 = Int32.ofNat ((A + 63) / 64) := by decide +kernel
theorem own_msk : ∀ k < 32, ∀ t < 32, ((((1 : Int64) <<< (Int32.ofNat k &&& 0x3f).toInt64) - 1).toInt32).toBitVec.getLsbD t = decide (t < k) := by decide +kernel
theorem own_v64 {v : Int32} {w : Nat} (hw : w ≤ 31) (hv : ∀ t, w ≤ t → v.toBitVec.getLsbD t = false) (t : Nat) : v.toInt64.toBitVec.getLsbD t = v.toBitVec.getLsbD t := by
  rw [Int32.toBitVec_toInt64, BitVec.getLsbD_signExtend]
  have hm : v.toBitVec.msb = false := by rw [BitVec.msb_eq_getLsbD_last]; exact hv _ (by omega)
  rw [hm]
  by_cases h : t < 32
  · simp [h]; omega
  · have := hv t (by omega)
    simp [h, this]
theorem own_Gset {W : List Int64} {p : Nat} (hp : p < W.length) (y : Int64) (B : Nat) : own_G (W.set p y) B = if B / 64 = p then y.toBitVec.getLsbD (B % 64) else own_G W B := by
  unfold own_G
  simp only [List.getD_eq_getElem?_getD, List.getElem?_set]
  by_cases h : B / 64 = p
  · subst h; simp [hp]
  · rw [if_neg (fun q => h q.symm), if_neg h]
theorem own_lt_mod {A B : Nat} (h : A ≤ B) (q : B / 64 = A / 64) : ¬ B % 64 < A % 64 ∧ B % 64 - A % 64 = B - A := by omega
def own_inv (W : List Int64) (X : List Int32) (w I : Nat) : Prop := ∀ B, own_G W B = (decide (B / w < I) && (X.getD (B / w) 0).toBitVec.getLsbD (B % w))
theorem own_invS {W W' : List Int64} {X : List Int32} {w I : Nat} (hw : 1 ≤ w) (h : own_inv W X w I) (hv : ∀ t, w ≤ t → (X.getD I 0).toBitVec.getLsbD t = false)
    (hG : ∀ B, own_G W' B = (own_G W B || (decide (I * w ≤ B) && (X.getD I 0).toBitVec.getLsbD (B - I * w)))) : own_inv W' X w (I + 1) := by
  intro B
  rw [hG, h B]
  by_cases c1 : B / w < I
  · have e : B < I * w := (Nat.div_lt_iff_lt_mul (by omega)).mp c1
    have c2 : B / w < I + 1 := by omega
    have c3 : ¬ I * w ≤ B := by omega
    simp [c1, c2, c3]
  · have e : I * w ≤ B := (Nat.le_div_iff_mul_le (by omega)).mp (by omega)
    by_cases c2 : B / w = I
    · have q : B - I * w = B % w := by have := Nat.div_add_mod B w; rw [c2, Nat.mul_comm] at this; omega
      have c3 : B / w < I + 1 := by omega
      rw [q, c2]; simp [e]
    · have c3 : ¬ B / w < I + 1 := by omega
      have q : w ≤ B - I * w := by
        have : (I + 1) * w ≤ B := (Nat.le_div_iff_mul_le (by omega)).mp (by omega)
        rw [Nat.add_mul] at this; omega
      rw [hv _ q]; simp [c1, c3]
theorem own_put1 {W : List Int64} {v : Int32} {w A : Nat} (hw : 1 ≤ w) (hw' : w ≤ 31) (hv : ∀ t, w ≤ t → v.toBitVec.getLsbD t = false) (hA : A / 64 < W.length) (hf : A % 64 + w ≤ 64) (B : Nat) :
    own_G (W.set (A / 64) (W.getD (A / 64) 0 ||| v.toInt64 <<< (Int32.ofNat (A % 64) &&& 0x3f).toInt64)) B = (own_G W B || (decide (A ≤ B) && v.toBitVec.getLsbD (B - A))) := by
  rw [own_Gset hA]
  by_cases c : B / 64 = A / 64
  · rw [if_pos c, Int64.toBitVec_or, BitVec.getLsbD_or, own_shl _ _ (by omega), own_v64 hw' hv]
    unfold own_G
    rw [c]
    by_cases d : A ≤ B
    · obtain ⟨q1, q2⟩ := own_lt_mod d c
      have q3 : B % 64 < 64 := by omega
      rw [q2]; simp [d, q1, q3]
    · have q : B % 64 < A % 64 := by omega
      simp [d, q]
  · rw [if_neg c]
    by_cases d : A ≤ B
    · rw [hv (B - A) (by omega)]; simp
    · simp [d]
theorem own_put2 {W : List Int64} {v : Int32} {w A : Nat} (hw : 1 ≤ w) (hw' : w ≤ 31) (hv : ∀ t, w ≤ t → v.toBitVec.getLsbD t = false) (hA : A / 64 + 1 < W.length) (hf : ¬ A % 64 + w ≤ 64) {W1 : List Int64} (h1 : W1 = W.set (A / 64) (W.getD (A / 64) 0 ||| v.toInt64 <<< (Int32.ofNat (A % 64) &&& 0x3f).toInt64)) (B : Nat) :
    own_G (W1.set (A / 64 + 1) (W1.getD (A / 64 + 1) 0 ||| own_ushrL v.toInt64 (Int32.ofNat (64 - A % 64)))) B = (own_G W B || (decide (A ≤ B) && v.toBitVec.getLsbD (B - A))) := by
  have hl : W1.length = W.length := by rw [h1]; simp
  rw [own_Gset (by omega)]
  by_cases c : B / 64 = A / 64 + 1
  · rw [if_pos c, Int64.toBitVec_or, BitVec.getLsbD_or, own_shr _ _ (by omega), own_v64 hw' hv]
    have e : W1.getD (A / 64 + 1) 0 = W.getD (A / 64 + 1) 0 := by
      rw [h1]; simp only [List.getD_eq_getElem?_getD, List.getElem?_set]; rw [if_neg (by omega)]
    rw [e]
    unfold own_G
    rw [c]
    have q : A ≤ B := by omega
    have q2 : 64 - A % 64 + B % 64 = B - A := by omega
    rw [q2]; simp [q]
  · rw [if_neg c, h1, own_Gset (by omega)]
    by_cases c : B / 64 = A / 64
    · rw [if_pos c, Int64.toBitVec_or, BitVec.getLsbD_or, own_shl _ _ (by omega), own_v64 hw' hv]
      unfold own_G
      rw [c]
      by_cases d : A ≤ B
      · obtain ⟨q1, q2⟩ := own_lt_mod d c
        have q3 : B % 64 < 64 := by omega
        rw [q2]; simp [d, q1, q3]
      · have q : B % 64 < A % 64 := by omega
        simp [d, q]
    · rw [if_neg c]
      by_cases d : A ≤ B
      · rw [hv (B - A) (by omega)]; simp
      · simp [d]
theorem own_Gat {W : List Int64} {X : List Int32} {w c I t : Nat} (h : own_inv W X w c) (hI : I < c) (ht : t < w) : own_G W (I * w + t) = (X.getD I 0).toBitVec.getLsbD t := by
  have e1 : (I * w + t) / w = I := by rw [Nat.mul_comm, Nat.mul_add_div (by omega), Nat.div_eq_of_lt ht]; rfl
  have e2 : (I * w + t) % w = t := by rw [Nat.mul_comm, Nat.mul_add_mod, Nat.mod_eq_of_lt ht]
  rw [h, e1, e2]; simp [hI]
theorem own_se (x : BitVec 64) {t : Nat} (ht : t < 32) : (x.signExtend 32).getLsbD t = x.getLsbD t := by
  rw [BitVec.getLsbD_signExtend]; have : t < 64 := by omega
  simp [ht, this]
theorem own_get1 {W : List Int64} {X : List Int32} {w c I A : Nat} (eA : A = I * w) (hw : 1 ≤ w) (hw' : w ≤ 31) (h : own_inv W X w c) (hI : I < c) (hv : ∀ t, w ≤ t → (X.getD I 0).toBitVec.getLsbD t = false) (hf : A % 64 + w ≤ 64) :
    (own_ushrL (W.getD (A / 64) 0) (Int32.ofNat (A % 64))).toInt32 &&& (((1 : Int64) <<< (Int32.ofNat w &&& 0x3f).toInt64) - 1).toInt32 = X.getD I 0 := by
  apply Int32.toBitVec_inj.mp
  apply BitVec.eq_of_getLsbD_eq
  intro t ht
  rw [Int32.toBitVec_and, BitVec.getLsbD_and, own_msk w (by omega) t ht, Int64.toBitVec_toInt32, own_se _ ht, own_shr _ _ (by omega)]
  by_cases d : t < w
  · rw [← own_Gat h hI d, ← eA]
    unfold own_G
    have q1 : (A + t) / 64 = A / 64 := by omega
    have q2 : (A + t) % 64 = A % 64 + t := by omega
    rw [q1, q2]; simp [d, ht]
  · rw [hv t (by omega)]; simp [d]
theorem own_get2 {W : List Int64} {X : List Int32} {w c I A : Nat} (eA : A = I * w) (hw : 1 ≤ w) (hw' : w ≤ 31) (h : own_inv W X w c) (hI : I < c) (hv : ∀ t, w ≤ t → (X.getD I 0).toBitVec.getLsbD t = false) (hf : ¬ A % 64 + w ≤ 64) :
    (own_ushrL (W.getD (A / 64) 0) (Int32.ofNat (A % 64)) ||| W.getD (A / 64 + 1) 0 <<< (Int32.ofNat (64 - A % 64) &&& 0x3f).toInt64).toInt32 &&& (((1 : Int64) <<< (Int32.ofNat w &&& 0x3f).toInt64) - 1).toInt32 = X.getD I 0 := by
  apply Int32.toBitVec_inj.mp
  apply BitVec.eq_of_getLsbD_eq
  intro t ht
  rw [Int32.toBitVec_and, BitVec.getLsbD_and, own_msk w (by omega) t ht, Int64.toBitVec_toInt32, own_se _ ht, Int64.toBitVec_or, BitVec.getLsbD_or, own_shr _ _ (by omega), own_shl _ _ (by omega)]
  by_cases d : t < w
  · rw [← own_Gat h hI d, ← eA]
    unfold own_G
    by_cases f : A % 64 + t < 64
    · have q1 : (A + t) / 64 = A / 64 := by omega
      have q2 : (A + t) % 64 = A % 64 + t := by omega
      have q3 : t < 64 - A % 64 := by omega
      rw [q1, q2]; simp [d, ht, q3]
    · have q1 : (A + t) / 64 = A / 64 + 1 := by omega
      have q2 : (A + t) % 64 = t - (64 - A % 64) := by omega
      have q3 : ¬ t < 64 - A % 64 := by omega
      have q4 : t < 64 := by omega
      have q5 : (W.getD (A / 64) 0).toBitVec.getLsbD (A % 64 + t) = false := BitVec.getLsbD_of_ge _ _ (by omega)
      rw [q1, q2, q5]; simp [d, ht, q3, q4]
  · rw [hv t (by omega)]; simp [d]
theorem own_or {x y : Int32} {t : Nat} (h : (x ||| y).toBitVec.getLsbD t = false) : x.toBitVec.getLsbD t = false ∧ y.toBitVec.getLsbD t = false := by
  rw [Int32.toBitVec_or, BitVec.getLsbD_or, Bool.or_eq_false_iff] at h; exact h
theorem own_hi {x : Int32} {k : Nat} (h0 : 0 ≤ x.toInt) (h : x.toInt < 2 ^ k) (t : Nat) (ht : k ≤ t) : x.toBitVec.getLsbD t = false := by
  have e : x.toInt = x.toBitVec.toInt := rfl
  have q : x.toBitVec.toNat < 2 ^ k := by
    have : (x.toBitVec.toNat : Int) = x.toInt := by
      rw [e]; rw [e] at h0
      rw [BitVec.toInt_eq_toNat_cond] at *
      split at h0 <;> split <;> omega
    have : (x.toBitVec.toNat : Int) < ((2 ^ k : Nat) : Int) := by rw [this]; simpa using h
    omega
  rw [BitVec.getLsbD]; exact Nat.testBit_lt_two_pow (Nat.lt_of_lt_of_le q (Nat.pow_le_pow_right (by decide) ht))
theorem own_mulN : ∀ I < 73, ∀ w < 32, (Int32.ofNat I).toInt64 * (Int32.ofNat w).toInt64 = Int64.ofNat (I * w) := by decide +kernel
theorem own_inc : ∀ I < 100, Int32.ofNat I + 1 = Int32.ofNat (I + 1) := by decide +kernel
theorem own_ltN : ∀ I < 73, ∀ c < 73, (Int32.ofNat I < Int32.ofNat c ↔ I < c) := by decide +kernel
theorem own_sum : ∀ s < 64, ∀ w < 32, (64 < Int32.ofNat s + Int32.ofNat w ↔ 64 < s + w) := by decide +kernel
theorem own_sub64 : ∀ s < 64, (64 : Int32) - Int32.ofNat s = Int32.ofNat (64 - s) := by decide +kernel
theorem own_cl : ∀ k < 100, (Int32.ofNat k).toNatClampNeg = k ∧ ¬ Int32.ofNat k < 0 ∧ (Int32.ofNat k).toInt = k := by decide +kernel
theorem own_k32 : ∀ k < 32, (32 : Int32) - Int32.ofNat (32 - k) = Int32.ofNat k := by decide +kernel
def own_max (x y : Int32) : Int32 := if x < y then y else x
theorem own_mx : ∀ k < 32, own_max 1 (Int32.ofNat k) = Int32.ofNat (max 1 k) := by decide +kernel
theorem own_wd {x : Int32} {k : Nat} (hk : k ≤ 31) (h0 : 0 ≤ x.toInt) (h : x.toInt < 2 ^ k) : ∃ w, 1 ≤ w ∧ w ≤ 31 ∧ own_max 1 (Int32.ofNat k) = Int32.ofNat w ∧ ∀ t, w ≤ t → x.toBitVec.getLsbD t = false :=
  ⟨max 1 k, by omega, by omega, own_mx k (by omega), fun t ht => own_hi h0 h t (by omega)⟩
theorem own_nn {x : Int32} : 0 ≤ x.toInt ↔ x.toBitVec.getLsbD 31 = false := by
  have e : x.toInt = x.toBitVec.toInt := rfl
  have q : x.toBitVec.getLsbD 31 = x.toBitVec.msb := (BitVec.msb_eq_getLsbD_last _).symm
  rw [e, q]
  rw [BitVec.msb_eq_toInt]
  simp
def own_bb (x : Int32) (X : List Int32) (I : Nat) : Prop := 0 ≤ x.toInt ∧ ∀ t j, j < I → x.toBitVec.getLsbD t = false → (X.getD j 0).toBitVec.getLsbD t = false
theorem own_bb0 (X : List Int32) : own_bb 0 X 0 := ⟨by decide, fun t j h => absurd h (Nat.not_lt_zero _)⟩
theorem own_bbS {x : Int32} {X : List Int32} {I : Nat} (h : own_bb x X I) (hn : 0 ≤ (X.getD I 0).toInt) : own_bb (x ||| X.getD I 0) X (I + 1) := by
  refine ⟨?_, fun t j hj ht => ?_⟩
  · rw [own_nn, Int32.toBitVec_or, BitVec.getLsbD_or, own_nn.mp h.1, own_nn.mp hn]; rfl
  · obtain ⟨h1, h2⟩ := own_or ht
    by_cases c : j = I
    · rw [c]; exact h2
    · exact h.2 t j (by omega) h1
theorem own_Aw {I c w : Nat} (h : I < c) : I * w + w ≤ c * w := by
  have : (I + 1) * w ≤ c * w := Nat.mul_le_mul_right w h
  rw [Nat.add_mul] at this; omega
theorem own_cw {c w : Nat} (hc : c ≤ 72) (hw : w ≤ 31) : c * w ≤ 2232 := Nat.mul_le_mul hc hw
theorem own_inv0 (X : List Int32) (w : Nat) : own_inv (List.replicate 35 0) X w 0 := by
  intro B
  have : own_G (List.replicate 35 0) B = false := by
    unfold own_G
    have : (List.replicate 35 (0 : Int64)).getD (B / 64) 0 = 0 := by
      simp only [List.getD_eq_getElem?_getD, List.getElem?_replicate]; split <;> rfl
    rw [this]; simp
  rw [this]; simp
theorem own_setn {X : List Int32} {k : Nat} {v : Int32} (h : ∀ j, 0 ≤ (X.getD j 0).toInt) (hv : 0 ≤ v.toInt) : ∀ j, 0 ≤ ((X.set k v).getD j 0).toInt := by
  intro j
  have := h j
  simp only [List.getD_eq_getElem?_getD, List.getElem?_set] at *
  split
  · split
    · exact hv
    · decide
  · exact this
theorem own_rep (j : Nat) : 0 ≤ ((List.replicate 72 (0 : Int32)).getD j 0).toInt := by
  have : (List.replicate 72 (0 : Int32)).getD j 0 = 0 := by
    simp only [List.getD_eq_getElem?_getD, List.getElem?_replicate]; split <;> rfl
  rw [this]; decide
theorem own_us {x : Int32} {q : Int32} (k : Nat) (hk : q.toBitVec.toNat % 32 = k) (h0 : 0 < k) (hx : 0 ≤ x.toInt) : (own_ushr x q).toInt = x.toInt / ((2 ^ k : Nat) : Int) := by
  have h := c_iushr x q k hk h0
  have r := rng32 x
  unfold own_ushr
  rw [h]
  have e : x.toInt % 4294967296 = x.toInt := Int.emod_eq_of_lt hx (by omega)
  rw [e]
theorem own_eq0 {x : Int32} (h : x.toInt = 0) : x = 0 := Int32.toInt_inj.mp h
theorem own_eq1 {x : Int32} (h : x.toInt = 1) : x = 1 := Int32.toInt_inj.mp h
theorem own_ofN {x : Int32} {k : Nat} (hk : k < 100) (h : x.toInt = k) : x = Int32.ofNat k := Int32.toInt_inj.mp (h.trans (own_cl k hk).2.2.symm)
theorem own_idx {p z : Int32} (h : (p &&& 2147483647) % 72 = z) : ∃ k, k < 72 ∧ z = Int32.ofNat k := by
  have h1 := c_mask p 2147483647 31 (by decide) (by decide)
  have h2 := (c_irem (p &&& 2147483647) 72 72 rfl).1 (by rw [h1]; omega)
  rw [h] at h2
  exact ⟨z.toInt.toNat, by omega, own_ofN (by omega) (by omega)⟩
theorem own_nz {c : Nat} (h : 1 ≤ c) (h' : c ≤ 72) : (Int32.ofNat c) ≠ 0 := fun q => by
  have e := (own_cl c (by omega)).2.2
  rw [q] at e
  have : (0 : Int32).toInt = 0 := rfl
  omega
theorem own_idc {p z : Int32} {c : Nat} (h1c : 1 ≤ c) (hc : c ≤ 72) (h : (p &&& 2147483647) % (Int32.ofNat c) = z) : ∃ k, k < c ∧ z = Int32.ofNat k := by
  have h1 := c_mask p 2147483647 31 (by decide) (by decide)
  have e := (own_cl c (by omega)).2.2
  have h2 := (c_irem (p &&& 2147483647) (Int32.ofNat c) c e).1 (by rw [h1]; omega)
  rw [h] at h2
  have h3 := Int.emod_lt_of_pos (p &&& 2147483647).toInt (show (0 : Int) < (c : Int) by omega)
  have h4 := Int.emod_nonneg (p &&& 2147483647).toInt (show (c : Int) ≠ 0 by omega)
  exact ⟨z.toInt.toNat, by omega, own_ofN (by omega) (by omega)⟩
theorem own_and31 (x : Int32) : 0 ≤ (x &&& 2147483647).toInt := by
  have h1 := c_mask x 2147483647 31 (by decide) (by decide)
  rw [h1]; omega
theorem own_mapL (W : List Int64) (i : Nat) : (W.map Value.long).getD i (.long (0 : Int64)) = .long (W.getD i 0) := by
  simp only [List.getD_eq_getElem?_getD, List.getElem?_map]; cases W[i]? <;> rfl
theorem own_mapI (W : List Int32) (i : Nat) : (W.map Value.int).getD i (.int (0 : Int32)) = .int (W.getD i 0) := by
  simp only [List.getD_eq_getElem?_getD, List.getElem?_map]; cases W[i]? <;> rfl
theorem own_setL (W : List Int64) (i : Nat) (x : Int64) : (W.map Value.long).set i (.long x) = (W.set i x).map Value.long := by rw [List.map_set]
theorem own_setI (W : List Int32) (i : Nat) (x : Int32) : (W.map Value.int).set i (.int x) = (W.set i x).map Value.int := by rw [List.map_set]
theorem own_in {k n : Nat} (hk : k < n) (hn : n < 73) : ¬ Int32.ofNat k < 0 ∧ Int32.ofNat k < Int32.ofNat n := ⟨(own_cl k (by omega)).2.1, (own_ltN k (by omega) n (by omega)).mpr hk⟩
def own_four (a b c d : Slot) : Prop := (a = .unset ∧ b = .unset ∧ c = .unset ∧ d = .unset) ∨ ∃ (z : Int64) (x y : Int32), a = .val (.long z) ∧ b = .second ∧ c = .val (.int x) ∧ d = .val (.int y)
def own_room3 : Room := { frames := 0, cells := 0, slots := 0, locals := 0 }
def own_Q3 (Z : State) (p0 : Int32) (h0 : Heap) (n0 : Nat) (v : Option Value) (h : Heap) (L : List Loc) : Prop := ∃ (k : Nat), v = some (.int (Int32.ofNat (32 - k))) ∧ Fr n0 L ∧ h = h0 ∧ k ≤ 31 ∧ p0.toInt < 2 ^ k
theorem own_ef_rm3 (m : MethodId) (x0 : Int32) : entryFrame m #[(.int x0)] 2 = mkF m 0 #[.val (.int x0), .unset] [] := by first | (simp [entryFrame, mkF, argsToLocals, Value.category]; done) | rfl
set_option maxRecDepth 65536 in
set_option maxHeartbeats 40000000 in
theorem own_rm3 (lch : Launch) (Z : State) (a0 : Array Value) (hw : ∀ d ∈ tables_1, d.before a0 Z = true) (ws : List Jvm.Cond) (p0 : Int32) (h0 : Heap) (n0 : Nat) (hp : 0 ≤ p0.toInt) :
    MetFree lch (⟨"java/lang/Integer", "numberOfLeadingZeros", "(I)I"⟩ : MethodName) (head1 (Jvm.Cond.code (⟨"java/lang/Integer", "numberOfLeadingZeros", "(I)I"⟩ : MethodName) jdk_33_method_47_code 2 (some .int) :: ws) own_room3) (fun zz U => zz = #[(.int p0)] ∧ Z.Warmed39 U.vm ∧ U.heap = h0) (fun _ _ _ _ _ => True) (fun _ U o U' => ∃ v L, o = .returned v ∧ own_Q3 Z p0 h0 n0 v U'.heap L ∧ FrameEnd U o U' L own_room3.cells own_room3.slots) := by
  refine MetFree.of_bodySF (plainFor_of_name own_pn0) hisR ?_
  intro prg e s m args below meth c s₁ Bd hml0 hP hK
  obtain ⟨rfl, hZ, hh⟩ := hP
  have hx := Bd.exec
  have hby := Bd.bytes
  have hml : c.maxLocals = 2 := hml0
  have hown : s.vm.findClass "java/lang/Integer" = some m.cls := findClass_of_methodNamed Bd.named
  have hnm := (name_of_methodNamed Bd.named Bd.method).1
  have hlk : meth.locks = false := BodyLoose.notSynchronized Bd
  have hret := Bd.returns
  have X0 : Stand prg lch e own_room3 s m #[(.int p0)] below meth c s₁ [] 0 0 := Stand.of_body Bd
  have e0 : s₁.heap = h0 := by rw [← hh, Bd.state]; rfl
  have N0 := Fr.nil n0
  show own_Ends prg e below s (own_Q3 Z p0 h0 n0) own_room3.cells own_room3.slots s₁ (entryFrame m #[(.int p0)] 2)
  refine own_cast (own_ef_rm3 m p0) ?_
  refine own_iloadN (pc' := 1) X0 hx (hb hby own_d3_0) rfl rfl ?_
  by_cases hc1_31 : (0 : Int32) < p0
  · refine own_ifYes (pc' := 15) X0 hx (hb hby own_d3_1) (tlt hc1_31).2.2.1 (by decide) (by decide) ?_
    refine own_bipush (pc' := 17) (z := (31 : Int32)) X0 hx (hb hby own_d3_15) rfl rfl ?_
    refine own_istoreN (pc' := 18) (l' := #[.val (.int p0), .val (.int (31 : Int32))]) X0 hx (hb hby own_d3_17) rfl rfl ?_
    refine own_iloadN (pc' := 19) X0 hx (hb hby own_d3_18) rfl rfl ?_
    refine own_ldcwI (pc' := 22) X0 hx hZ hown (own_w30 hw) (hb hby own_d3_19) rfl ?_
    by_cases hc22_32 : p0 < (65536 : Int32)
    · refine own_icmpYes (pc' := 33) X0 hx (hb hby own_d3_22) (tlt hc22_32).1 (by decide) (by decide) ?_
      refine own_iloadN (pc' := 34) X0 hx (hb hby own_d3_33) rfl rfl ?_
      refine own_sipush (pc' := 37) (z := (256 : Int32)) X0 hx (hb hby own_d3_34) rfl rfl ?_
      by_cases hc37_33 : p0 < (256 : Int32)
      · refine own_icmpYes (pc' := 48) X0 hx (hb hby own_d3_37) (tlt hc37_33).1 (by decide) (by decide) ?_
        refine own_iloadN (pc' := 49) X0 hx (hb hby own_d3_48) rfl rfl ?_
        refine own_bipush (pc' := 51) (z := (16 : Int32)) X0 hx (hb hby own_d3_49) rfl rfl ?_
        by_cases hc51_34 : p0 < (16 : Int32)
        · refine own_icmpYes (pc' := 61) X0 hx (hb hby own_d3_51) (tlt hc51_34).1 (by decide) (by decide) ?_
          refine own_iloadN (pc' := 62) X0 hx (hb hby own_d3_61) rfl rfl ?_
          refine own_iconst (pc' := 63) (z := (4 : Int32)) X0 hx (hb hby own_d3_62) rfl rfl ?_
          by_cases hc63_35 : p0 < (4 : Int32)
          · refine own_icmpYes (pc' := 73) X0 hx (hb hby own_d3_63) (tlt hc63_35).1 (by decide) (by decide) ?_
            refine own_iloadN (pc' := 74) X0 hx (hb hby own_d3_73) rfl rfl ?_
            refine own_iloadN (pc' := 75) X0 hx (hb hby own_d3_74) rfl rfl ?_
            refine own_iconst (pc' := 76) (z := (1 : Int32)) X0 hx (hb hby own_d3_75) rfl rfl ?_
            refine own_iushr (pc' := 77) (z := (own_ushr p0 (1 : Int32))) X0 hx (hb hby own_d3_76) rfl rfl ?_
            refine own_isub (pc' := 78) (z := ((31 : Int32) - (own_ushr p0 (1 : Int32)))) X0 hx (hb hby own_d3_77) rfl rfl ?_
            refine own_retI X0 hx hlk hret (hb hby own_d3_78) (by decide) (by decide) ?_
            have i_hc1_31 : 0 < p0.toInt := own_i1 hc1_31
            have i_hc22_32 : p0.toInt < 65536 := own_i1 hc22_32
            have i_hc37_33 : p0.toInt < 256 := own_i1 hc37_33
            have i_hc51_34 : p0.toInt < 16 := own_i1 hc51_34
            have i_hc63_35 : p0.toInt < 4 := own_i1 hc63_35
            have r0 := rng32 p0
            have uz : (own_ushr p0 (1 : Int32)).toInt = p0.toInt / 2 := own_us 1 (by decide) (by decide) (by omega)
            have hz : (own_ushr p0 (1 : Int32)).toInt = 0 ∨ (own_ushr p0 (1 : Int32)).toInt = 1 := by omega
            rcases hz with q | q
            · exact ⟨1, own_some (by rw [own_eq0 q]; decide), N0, e0, by decide, by show p0.toInt < 2; omega⟩
            · exact ⟨2, own_some (by rw [own_eq1 q]; decide), N0, e0, by decide, by show p0.toInt < 4; omega⟩
          · refine own_icmpNo (pc' := 66) X0 hx (hb hby own_d3_63) rfl (flt hc63_35).1 ?_
            refine own_iinc (pc' := 69) (z := (29 : Int32)) (l' := #[.val (.int p0), .val (.int (29 : Int32))]) X0 hx (hb hby own_d3_66) rfl rfl (by decide) rfl ?_
            refine own_iloadN (pc' := 70) X0 hx (hb hby own_d3_69) rfl rfl ?_
            refine own_iconst (pc' := 71) (z := (2 : Int32)) X0 hx (hb hby own_d3_70) rfl rfl ?_
            refine own_iushr (pc' := 72) (z := (own_ushr p0 (2 : Int32))) X0 hx (hb hby own_d3_71) rfl rfl ?_
            refine own_istoreN (pc' := 73) (l' := #[.val (.int (own_ushr p0 (2 : Int32))), .val (.int (29 : Int32))]) X0 hx (hb hby own_d3_72) rfl rfl ?_
            refine own_iloadN (pc' := 74) X0 hx (hb hby own_d3_73) rfl rfl ?_
            refine own_iloadN (pc' := 75) X0 hx (hb hby own_d3_74) rfl rfl ?_
            refine own_iconst (pc' := 76) (z := (1 : Int32)) X0 hx (hb hby own_d3_75) rfl rfl ?_
            refine own_iushr (pc' := 77) (z := (own_ushr (own_ushr p0 (2 : Int32)) (1 : Int32))) X0 hx (hb hby own_d3_76) rfl rfl ?_
            refine own_isub (pc' := 78) (z := ((29 : Int32) - (own_ushr (own_ushr p0 (2 : Int32)) (1 : Int32)))) X0 hx (hb hby own_d3_77) rfl rfl ?_
            refine own_retI X0 hx hlk hret (hb hby own_d3_78) (by decide) (by decide) ?_
            have i_hc1_31 : 0 < p0.toInt := own_i1 hc1_31
            have i_hc22_32 : p0.toInt < 65536 := own_i1 hc22_32
            have i_hc37_33 : p0.toInt < 256 := own_i1 hc37_33
            have i_hc51_34 : p0.toInt < 16 := own_i1 hc51_34
            have i_hc63_35 : 4 ≤ p0.toInt := own_i2 hc63_35
            have r0 := rng32 p0
            have u0 : (own_ushr p0 (2 : Int32)).toInt = p0.toInt / 4 := own_us 2 (by decide) (by decide) (by omega)
            have uz : (own_ushr (own_ushr p0 (2 : Int32)) (1 : Int32)).toInt = (own_ushr p0 (2 : Int32)).toInt / 2 := own_us 1 (by decide) (by decide) (by omega)
            have hz : (own_ushr (own_ushr p0 (2 : Int32)) (1 : Int32)).toInt = 0 ∨ (own_ushr (own_ushr p0 (2 : Int32)) (1 : Int32)).toInt = 1 := by omega
            rcases hz with q | q
            · exact ⟨3, own_some (by rw [own_eq0 q]; decide), N0, e0, by decide, by show p0.toInt < 8; omega⟩
            · exact ⟨4, own_some (by rw [own_eq1 q]; decide), N0, e0, by decide, by show p0.toInt < 16; omega⟩
        · refine own_icmpNo (pc' := 54) X0 hx (hb hby own_d3_51) rfl (flt hc51_34).1 ?_
          refine own_iinc (pc' := 57) (z := (27 : Int32)) (l' := #[.val (.int p0), .val (.int (27 : Int32))]) X0 hx (hb hby own_d3_54) rfl rfl (by decide) rfl ?_
          refine own_iloadN (pc' := 58) X0 hx (hb hby own_d3_57) rfl rfl ?_
          refine own_iconst (pc' := 59) (z := (4 : Int32)) X0 hx (hb hby own_d3_58) rfl rfl ?_
          refine own_iushr (pc' := 60) (z := (own_ushr p0 (4 : Int32))) X0 hx (hb hby own_d3_59) rfl rfl ?_
          refine own_istoreN (pc' := 61) (l' := #[.val (.int (own_ushr p0 (4 : Int32))), .val (.int (27 : Int32))]) X0 hx (hb hby own_d3_60) rfl rfl ?_
          refine own_iloadN (pc' := 62) X0 hx (hb hby own_d3_61) rfl rfl ?_
          refine own_iconst (pc' := 63) (z := (4 : Int32)) X0 hx (hb hby own_d3_62) rfl rfl ?_
          by_cases hc63_36 : (own_ushr p0 (4 : Int32)) < (4 : Int32)
          · refine own_icmpYes (pc' := 73) X0 hx (hb hby own_d3_63) (tlt hc63_36).1 (by decide) (by decide) ?_
            refine own_iloadN (pc' := 74) X0 hx (hb hby own_d3_73) rfl rfl ?_
            refine own_iloadN (pc' := 75) X0 hx (hb hby own_d3_74) rfl rfl ?_
            refine own_iconst (pc' := 76) (z := (1 : Int32)) X0 hx (hb hby own_d3_75) rfl rfl ?_
            refine own_iushr (pc' := 77) (z := (own_ushr (own_ushr p0 (4 : Int32)) (1 : Int32))) X0 hx (hb hby own_d3_76) rfl rfl ?_
            refine own_isub (pc' := 78) (z := ((27 : Int32) - (own_ushr (own_ushr p0 (4 : Int32)) (1 : Int32)))) X0 hx (hb hby own_d3_77) rfl rfl ?_
            refine own_retI X0 hx hlk hret (hb hby own_d3_78) (by decide) (by decide) ?_
            have i_hc1_31 : 0 < p0.toInt := own_i1 hc1_31
            have i_hc22_32 : p0.toInt < 65536 := own_i1 hc22_32
            have i_hc37_33 : p0.toInt < 256 := own_i1 hc37_33
            have i_hc51_34 : 16 ≤ p0.toInt := own_i2 hc51_34
            have i_hc63_36 : (own_ushr p0 (4 : Int32)).toInt < 4 := own_i1 hc63_36
            have r0 := rng32 p0
            have u0 : (own_ushr p0 (4 : Int32)).toInt = p0.toInt / 16 := own_us 4 (by decide) (by decide) (by omega)
            have uz : (own_ushr (own_ushr p0 (4 : Int32)) (1 : Int32)).toInt = (own_ushr p0 (4 : Int32)).toInt / 2 := own_us 1 (by decide) (by decide) (by omega)
            have hz : (own_ushr (own_ushr p0 (4 : Int32)) (1 : Int32)).toInt = 0 ∨ (own_ushr (own_ushr p0 (4 : Int32)) (1 : Int32)).toInt = 1 := by omega
            rcases hz with q | q
            · exact ⟨5, own_some (by rw [own_eq0 q]; decide), N0, e0, by decide, by show p0.toInt < 32; omega⟩
            · exact ⟨6, own_some (by rw [own_eq1 q]; decide), N0, e0, by decide, by show p0.toInt < 64; omega⟩
          · refine own_icmpNo (pc' := 66) X0 hx (hb hby own_d3_63) rfl (flt hc63_36).1 ?_
            refine own_iinc (pc' := 69) (z := (25 : Int32)) (l' := #[.val (.int (own_ushr p0 (4 : Int32))), .val (.int (25 : Int32))]) X0 hx (hb hby own_d3_66) rfl rfl (by decide) rfl ?_
            refine own_iloadN (pc' := 70) X0 hx (hb hby own_d3_69) rfl rfl ?_
            refine own_iconst (pc' := 71) (z := (2 : Int32)) X0 hx (hb hby own_d3_70) rfl rfl ?_
            refine own_iushr (pc' := 72) (z := (own_ushr (own_ushr p0 (4 : Int32)) (2 : Int32))) X0 hx (hb hby own_d3_71) rfl rfl ?_
            refine own_istoreN (pc' := 73) (l' := #[.val (.int (own_ushr (own_ushr p0 (4 : Int32)) (2 : Int32))), .val (.int (25 : Int32))]) X0 hx (hb hby own_d3_72) rfl rfl ?_
            refine own_iloadN (pc' := 74) X0 hx (hb hby own_d3_73) rfl rfl ?_
            refine own_iloadN (pc' := 75) X0 hx (hb hby own_d3_74) rfl rfl ?_
            refine own_iconst (pc' := 76) (z := (1 : Int32)) X0 hx (hb hby own_d3_75) rfl rfl ?_
            refine own_iushr (pc' := 77) (z := (own_ushr (own_ushr (own_ushr p0 (4 : Int32)) (2 : Int32)) (1 : Int32))) X0 hx (hb hby own_d3_76) rfl rfl ?_
            refine own_isub (pc' := 78) (z := ((25 : Int32) - (own_ushr (own_ushr (own_ushr p0 (4 : Int32)) (2 : Int32)) (1 : Int32)))) X0 hx (hb hby own_d3_77) rfl rfl ?_
            refine own_retI X0 hx hlk hret (hb hby own_d3_78) (by decide) (by decide) ?_
            have i_hc1_31 : 0 < p0.toInt := own_i1 hc1_31
            have i_hc22_32 : p0.toInt < 65536 := own_i1 hc22_32
            have i_hc37_33 : p0.toInt < 256 := own_i1 hc37_33
            have i_hc51_34 : 16 ≤ p0.toInt := own_i2 hc51_34
            have i_hc63_36 : 4 ≤ (own_ushr p0 (4 : Int32)).toInt := own_i2 hc63_36
            have r0 := rng32 p0
            have u0 : (own_ushr p0 (4 : Int32)).toInt = p0.toInt / 16 := own_us 4 (by decide) (by decide) (by omega)
            have u4 : (own_ushr (own_ushr p0 (4 : Int32)) (2 : Int32)).toInt = (own_ushr p0 (4 : Int32)).toInt / 4 := own_us 2 (by decide) (by decide) (by omega)
            have uz : (own_ushr (own_ushr (own_ushr p0 (4 : Int32)) (2 : Int32)) (1 : Int32)).toInt = (own_ushr (own_ushr p0 (4 : Int32)) (2 : Int32)).toInt / 2 := own_us 1 (by decide) (by decide) (by omega)
            have hz : (own_ushr (own_ushr (own_ushr p0 (4 : Int32)) (2 : Int32)) (1 : Int32)).toInt = 0 ∨ (own_ushr (own_ushr (own_ushr p0 (4 : Int32)) (2 : Int32)) (1 : Int32)).toInt = 1 := by omega
            rcases hz with q | q
            · exact ⟨7, own_some (by rw [own_eq0 q]; decide), N0, e0, by decide, by show p0.toInt < 128; omega⟩
            · exact ⟨8, own_some (by rw [own_eq1 q]; decide), N0, e0, by decide, by show p0.toInt < 256; omega⟩
      · refine own_icmpNo (pc' := 40) X0 hx (hb hby own_d3_37) rfl (flt hc37_33).1 ?_
        refine own_iinc (pc' := 43) (z := (23 : Int32)) (l' := #[.val (.int p0), .val (.int (23 : Int32))]) X0 hx (hb hby own_d3_40) rfl rfl (by decide) rfl ?_
        refine own_iloadN (pc' := 44) X0 hx (hb hby own_d3_43) rfl rfl ?_
        refine own_bipush (pc' := 46) (z := (8 : Int32)) X0 hx (hb hby own_d3_44) rfl rfl ?_
        refine own_iushr (pc' := 47) (z := (own_ushr p0 (8 : Int32))) X0 hx (hb hby own_d3_46) rfl rfl ?_
        refine own_istoreN (pc' := 48) (l' := #[.val (.int (own_ushr p0 (8 : Int32))), .val (.int (23 : Int32))]) X0 hx (hb hby own_d3_47) rfl rfl ?_
        refine own_iloadN (pc' := 49) X0 hx (hb hby own_d3_48) rfl rfl ?_
        refine own_bipush (pc' := 51) (z := (16 : Int32)) X0 hx (hb hby own_d3_49) rfl rfl ?_
        by_cases hc51_37 : (own_ushr p0 (8 : Int32)) < (16 : Int32)
        · refine own_icmpYes (pc' := 61) X0 hx (hb hby own_d3_51) (tlt hc51_37).1 (by decide) (by decide) ?_
          refine own_iloadN (pc' := 62) X0 hx (hb hby own_d3_61) rfl rfl ?_
          refine own_iconst (pc' := 63) (z := (4 : Int32)) X0 hx (hb hby own_d3_62) rfl rfl ?_
          by_cases hc63_38 : (own_ushr p0 (8 : Int32)) < (4 : Int32)
          · refine own_icmpYes (pc' := 73) X0 hx (hb hby own_d3_63) (tlt hc63_38).1 (by decide) (by decide) ?_
            refine own_iloadN (pc' := 74) X0 hx (hb hby own_d3_73) rfl rfl ?_
            refine own_iloadN (pc' := 75) X0 hx (hb hby own_d3_74) rfl rfl ?_
            refine own_iconst (pc' := 76) (z := (1 : Int32)) X0 hx (hb hby own_d3_75) rfl rfl ?_
            refine own_iushr (pc' := 77) (z := (own_ushr (own_ushr p0 (8 : Int32)) (1 : Int32))) X0 hx (hb hby own_d3_76) rfl rfl ?_
            refine own_isub (pc' := 78) (z := ((23 : Int32) - (own_ushr (own_ushr p0 (8 : Int32)) (1 : Int32)))) X0 hx (hb hby own_d3_77) rfl rfl ?_
            refine own_retI X0 hx hlk hret (hb hby own_d3_78) (by decide) (by decide) ?_
            have i_hc1_31 : 0 < p0.toInt := own_i1 hc1_31
            have i_hc22_32 : p0.toInt < 65536 := own_i1 hc22_32
            have i_hc37_33 : 256 ≤ p0.toInt := own_i2 hc37_33
            have i_hc51_37 : (own_ushr p0 (8 : Int32)).toInt < 16 := own_i1 hc51_37
            have i_hc63_38 : (own_ushr p0 (8 : Int32)).toInt < 4 := own_i1 hc63_38
            have r0 := rng32 p0
            have u0 : (own_ushr p0 (8 : Int32)).toInt = p0.toInt / 256 := own_us 8 (by decide) (by decide) (by omega)
            have uz : (own_ushr (own_ushr p0 (8 : Int32)) (1 : Int32)).toInt = (own_ushr p0 (8 : Int32)).toInt / 2 := own_us 1 (by decide) (by decide) (by omega)
            have hz : (own_ushr (own_ushr p0 (8 : Int32)) (1 : Int32)).toInt = 0 ∨ (own_ushr (own_ushr p0 (8 : Int32)) (1 : Int32)).toInt = 1 := by omega
            rcases hz with q | q
            · exact ⟨9, own_some (by rw [own_eq0 q]; decide), N0, e0, by decide, by show p0.toInt < 512; omega⟩
            · exact ⟨10, own_some (by rw [own_eq1 q]; decide), N0, e0, by decide, by show p0.toInt < 1024; omega⟩
          · refine own_icmpNo (pc' := 66) X0 hx (hb hby own_d3_63) rfl (flt hc63_38).1 ?_
            refine own_iinc (pc' := 69) (z := (21 : Int32)) (l' := #[.val (.int (own_ushr p0 (8 : Int32))), .val (.int (21 : Int32))]) X0 hx (hb hby own_d3_66) rfl rfl (by decide) rfl ?_
            refine own_iloadN (pc' := 70) X0 hx (hb hby own_d3_69) rfl rfl ?_
            refine own_iconst (pc' := 71) (z := (2 : Int32)) X0 hx (hb hby own_d3_70) rfl rfl ?_
            refine own_iushr (pc' := 72) (z := (own_ushr (own_ushr p0 (8 : Int32)) (2 : Int32))) X0 hx (hb hby own_d3_71) rfl rfl ?_
            refine own_istoreN (pc' := 73) (l' := #[.val (.int (own_ushr (own_ushr p0 (8 : Int32)) (2 : Int32))), .val (.int (21 : Int32))]) X0 hx (hb hby own_d3_72) rfl rfl ?_
            refine own_iloadN (pc' := 74) X0 hx (hb hby own_d3_73) rfl rfl ?_
            refine own_iloadN (pc' := 75) X0 hx (hb hby own_d3_74) rfl rfl ?_
            refine own_iconst (pc' := 76) (z := (1 : Int32)) X0 hx (hb hby own_d3_75) rfl rfl ?_
            refine own_iushr (pc' := 77) (z := (own_ushr (own_ushr (own_ushr p0 (8 : Int32)) (2 : Int32)) (1 : Int32))) X0 hx (hb hby own_d3_76) rfl rfl ?_
            refine own_isub (pc' := 78) (z := ((21 : Int32) - (own_ushr (own_ushr (own_ushr p0 (8 : Int32)) (2 : Int32)) (1 : Int32)))) X0 hx (hb hby own_d3_77) rfl rfl ?_
            refine own_retI X0 hx hlk hret (hb hby own_d3_78) (by decide) (by decide) ?_
            have i_hc1_31 : 0 < p0.toInt := own_i1 hc1_31
            have i_hc22_32 : p0.toInt < 65536 := own_i1 hc22_32
            have i_hc37_33 : 256 ≤ p0.toInt := own_i2 hc37_33
            have i_hc51_37 : (own_ushr p0 (8 : Int32)).toInt < 16 := own_i1 hc51_37
            have i_hc63_38 : 4 ≤ (own_ushr p0 (8 : Int32)).toInt := own_i2 hc63_38
            have r0 := rng32 p0
            have u0 : (own_ushr p0 (8 : Int32)).toInt = p0.toInt / 256 := own_us 8 (by decide) (by decide) (by omega)
            have u8 : (own_ushr (own_ushr p0 (8 : Int32)) (2 : Int32)).toInt = (own_ushr p0 (8 : Int32)).toInt / 4 := own_us 2 (by decide) (by decide) (by omega)
            have uz : (own_ushr (own_ushr (own_ushr p0 (8 : Int32)) (2 : Int32)) (1 : Int32)).toInt = (own_ushr (own_ushr p0 (8 : Int32)) (2 : Int32)).toInt / 2 := own_us 1 (by decide) (by decide) (by omega)
            have hz : (own_ushr (own_ushr (own_ushr p0 (8 : Int32)) (2 : Int32)) (1 : Int32)).toInt = 0 ∨ (own_ushr (own_ushr (own_ushr p0 (8 : Int32)) (2 : Int32)) (1 : Int32)).toInt = 1 := by omega
            rcases hz with q | q
            · exact ⟨11, own_some (by rw [own_eq0 q]; decide), N0, e0, by decide, by show p0.toInt < 2048; omega⟩
            · exact ⟨12, own_some (by rw [own_eq1 q]; decide), N0, e0, by decide, by show p0.toInt < 4096; omega⟩
        · refine own_icmpNo (pc' := 54) X0 hx (hb hby own_d3_51) rfl (flt hc51_37).1 ?_
          refine own_iinc (pc' := 57) (z := (19 : Int32)) (l' := #[.val (.int (own_ushr p0 (8 : Int32))), .val (.int (19 : Int32))]) X0 hx (hb hby own_d3_54) rfl rfl (by decide) rfl ?_
          refine own_iloadN (pc' := 58) X0 hx (hb hby own_d3_57) rfl rfl ?_
          refine own_iconst (pc' := 59) (z := (4 : Int32)) X0 hx (hb hby own_d3_58) rfl rfl ?_
          refine own_iushr (pc' := 60) (z := (own_ushr (own_ushr p0 (8 : Int32)) (4 : Int32))) X0 hx (hb hby own_d3_59) rfl rfl ?_
          refine own_istoreN (pc' := 61) (l' := #[.val (.int (own_ushr (own_ushr p0 (8 : Int32)) (4 : Int32))), .val (.int (19 : Int32))]) X0 hx (hb hby own_d3_60) rfl rfl ?_
          refine own_iloadN (pc' := 62) X0 hx (hb hby own_d3_61) rfl rfl ?_
          refine own_iconst (pc' := 63) (z := (4 : Int32)) X0 hx (hb hby own_d3_62) rfl rfl ?_
          by_cases hc63_39 : (own_ushr (own_ushr p0 (8 : Int32)) (4 : Int32)) < (4 : Int32)
          · refine own_icmpYes (pc' := 73) X0 hx (hb hby own_d3_63) (tlt hc63_39).1 (by decide) (by decide) ?_
            refine own_iloadN (pc' := 74) X0 hx (hb hby own_d3_73) rfl rfl ?_
            refine own_iloadN (pc' := 75) X0 hx (hb hby own_d3_74) rfl rfl ?_
            refine own_iconst (pc' := 76) (z := (1 : Int32)) X0 hx (hb hby own_d3_75) rfl rfl ?_
            refine own_iushr (pc' := 77) (z := (own_ushr (own_ushr (own_ushr p0 (8 : Int32)) (4 : Int32)) (1 : Int32))) X0 hx (hb hby own_d3_76) rfl rfl ?_
            refine own_isub (pc' := 78) (z := ((19 : Int32) - (own_ushr (own_ushr (own_ushr p0 (8 : Int32)) (4 : Int32)) (1 : Int32)))) X0 hx (hb hby own_d3_77) rfl rfl ?_
            refine own_retI X0 hx hlk hret (hb hby own_d3_78) (by decide) (by decide) ?_
            have i_hc1_31 : 0 < p0.toInt := own_i1 hc1_31
            have i_hc22_32 : p0.toInt < 65536 := own_i1 hc22_32
            have i_hc37_33 : 256 ≤ p0.toInt := own_i2 hc37_33
            have i_hc51_37 : 16 ≤ (own_ushr p0 (8 : Int32)).toInt := own_i2 hc51_37
            have i_hc63_39 : (own_ushr (own_ushr p0 (8 : Int32)) (4 : Int32)).toInt < 4 := own_i1 hc63_39
            have r0 := rng32 p0
            have u0 : (own_ushr p0 (8 : Int32)).toInt = p0.toInt / 256 := own_us 8 (by decide) (by decide) (by omega)
            have u8 : (own_ushr (own_ushr p0 (8 : Int32)) (4 : Int32)).toInt = (own_ushr p0 (8 : Int32)).toInt / 16 := own_us 4 (by decide) (by decide) (by omega)
            have uz : (own_ushr (own_ushr (own_ushr p0 (8 : Int32)) (4 : Int32)) (1 : Int32)).toInt = (own_ushr (own_ushr p0 (8 : Int32)) (4 : Int32)).toInt / 2 := own_us 1 (by decide) (by decide) (by omega)
            have hz : (own_ushr (own_ushr (own_ushr p0 (8 : Int32)) (4 : Int32)) (1 : Int32)).toInt = 0 ∨ (own_ushr (own_ushr (own_ushr p0 (8 : Int32)) (4 : Int32)) (1 : Int32)).toInt = 1 := by omega
            rcases hz with q | q
            · exact ⟨13, own_some (by rw [own_eq0 q]; decide), N0, e0, by decide, by show p0.toInt < 8192; omega⟩
            · exact ⟨14, own_some (by rw [own_eq1 q]; decide), N0, e0, by decide, by show p0.toInt < 16384; omega⟩
          · refine own_icmpNo (pc' := 66) X0 hx (hb hby own_d3_63) rfl (flt hc63_39).1 ?_
            refine own_iinc (pc' := 69) (z := (17 : Int32)) (l' := #[.val (.int (own_ushr (own_ushr p0 (8 : Int32)) (4 : Int32))), .val (.int (17 : Int32))]) X0 hx (hb hby own_d3_66) rfl rfl (by decide) rfl ?_
            refine own_iloadN (pc' := 70) X0 hx (hb hby own_d3_69) rfl rfl ?_
            refine own_iconst (pc' := 71) (z := (2 : Int32)) X0 hx (hb hby own_d3_70) rfl rfl ?_
            refine own_iushr (pc' := 72) (z := (own_ushr (own_ushr (own_ushr p0 (8 : Int32)) (4 : Int32)) (2 : Int32))) X0 hx (hb hby own_d3_71) rfl rfl ?_
            refine own_istoreN (pc' := 73) (l' := #[.val (.int (own_ushr (own_ushr (own_ushr p0 (8 : Int32)) (4 : Int32)) (2 : Int32))), .val (.int (17 : Int32))]) X0 hx (hb hby own_d3_72) rfl rfl ?_
            refine own_iloadN (pc' := 74) X0 hx (hb hby own_d3_73) rfl rfl ?_
            refine own_iloadN (pc' := 75) X0 hx (hb hby own_d3_74) rfl rfl ?_
            refine own_iconst (pc' := 76) (z := (1 : Int32)) X0 hx (hb hby own_d3_75) rfl rfl ?_
            refine own_iushr (pc' := 77) (z := (own_ushr (own_ushr (own_ushr (own_ushr p0 (8 : Int32)) (4 : Int32)) (2 : Int32)) (1 : Int32))) X0 hx (hb hby own_d3_76) rfl rfl ?_
            refine own_isub (pc' := 78) (z := ((17 : Int32) - (own_ushr (own_ushr (own_ushr (own_ushr p0 (8 : Int32)) (4 : Int32)) (2 : Int32)) (1 : Int32)))) X0 hx (hb hby own_d3_77) rfl rfl ?_
            refine own_retI X0 hx hlk hret (hb hby own_d3_78) (by decide) (by decide) ?_
            have i_hc1_31 : 0 < p0.toInt := own_i1 hc1_31
            have i_hc22_32 : p0.toInt < 65536 := own_i1 hc22_32
            have i_hc37_33 : 256 ≤ p0.toInt := own_i2 hc37_33
            have i_hc51_37 : 16 ≤ (own_ushr p0 (8 : Int32)).toInt := own_i2 hc51_37
            have i_hc63_39 : 4 ≤ (own_ushr (own_ushr p0 (8 : Int32)) (4 : Int32)).toInt := own_i2 hc63_39
            have r0 := rng32 p0
            have u0 : (own_ushr p0 (8 : Int32)).toInt = p0.toInt / 256 := own_us 8 (by decide) (by decide) (by omega)
            have u8 : (own_ushr (own_ushr p0 (8 : Int32)) (4 : Int32)).toInt = (own_ushr p0 (8 : Int32)).toInt / 16 := own_us 4 (by decide) (by decide) (by omega)
            have u12 : (own_ushr (own_ushr (own_ushr p0 (8 : Int32)) (4 : Int32)) (2 : Int32)).toInt = (own_ushr (own_ushr p0 (8 : Int32)) (4 : Int32)).toInt / 4 := own_us 2 (by decide) (by decide) (by omega)
            have uz : (own_ushr (own_ushr (own_ushr (own_ushr p0 (8 : Int32)) (4 : Int32)) (2 : Int32)) (1 : Int32)).toInt = (own_ushr (own_ushr (own_ushr p0 (8 : Int32)) (4 : Int32)) (2 : Int32)).toInt / 2 := own_us 1 (by decide) (by decide) (by omega)
            have hz : (own_ushr (own_ushr (own_ushr (own_ushr p0 (8 : Int32)) (4 : Int32)) (2 : Int32)) (1 : Int32)).toInt = 0 ∨ (own_ushr (own_ushr (own_ushr (own_ushr p0 (8 : Int32)) (4 : Int32)) (2 : Int32)) (1 : Int32)).toInt = 1 := by omega
            rcases hz with q | q
            · exact ⟨15, own_some (by rw [own_eq0 q]; decide), N0, e0, by decide, by show p0.toInt < 32768; omega⟩
            · exact ⟨16, own_some (by rw [own_eq1 q]; decide), N0, e0, by decide, by show p0.toInt < 65536; omega⟩
    · refine own_icmpNo (pc' := 25) X0 hx (hb hby own_d3_22) rfl (flt hc22_32).1 ?_
      refine own_iinc (pc' := 28) (z := (15 : Int32)) (l' := #[.val (.int p0), .val (.int (15 : Int32))]) X0 hx (hb hby own_d3_25) rfl rfl (by decide) rfl ?_
      refine own_iloadN (pc' := 29) X0 hx (hb hby own_d3_28) rfl rfl ?_
      refine own_bipush (pc' := 31) (z := (16 : Int32)) X0 hx (hb hby own_d3_29) rfl rfl ?_
      refine own_iushr (pc' := 32) (z := (own_ushr p0 (16 : Int32))) X0 hx (hb hby own_d3_31) rfl rfl ?_
      refine own_istoreN (pc' := 33) (l' := #[.val (.int (own_ushr p0 (16 : Int32))), .val (.int (15 : Int32))]) X0 hx (hb hby own_d3_32) rfl rfl ?_
      refine own_iloadN (pc' := 34) X0 hx (hb hby own_d3_33) rfl rfl ?_
      refine own_sipush (pc' := 37) (z := (256 : Int32)) X0 hx (hb hby own_d3_34) rfl rfl ?_
      by_cases hc37_40 : (own_ushr p0 (16 : Int32)) < (256 : Int32)
      · refine own_icmpYes (pc' := 48) X0 hx (hb hby own_d3_37) (tlt hc37_40).1 (by decide) (by decide) ?_
        refine own_iloadN (pc' := 49) X0 hx (hb hby own_d3_48) rfl rfl ?_
        refine own_bipush (pc' := 51) (z := (16 : Int32)) X0 hx (hb hby own_d3_49) rfl rfl ?_
        by_cases hc51_41 : (own_ushr p0 (16 : Int32)) < (16 : Int32)
        · refine own_icmpYes (pc' := 61) X0 hx (hb hby own_d3_51) (tlt hc51_41).1 (by decide) (by decide) ?_
          refine own_iloadN (pc' := 62) X0 hx (hb hby own_d3_61) rfl rfl ?_
          refine own_iconst (pc' := 63) (z := (4 : Int32)) X0 hx (hb hby own_d3_62) rfl rfl ?_
          by_cases hc63_42 : (own_ushr p0 (16 : Int32)) < (4 : Int32)
          · refine own_icmpYes (pc' := 73) X0 hx (hb hby own_d3_63) (tlt hc63_42).1 (by decide) (by decide) ?_
            refine own_iloadN (pc' := 74) X0 hx (hb hby own_d3_73) rfl rfl ?_
            refine own_iloadN (pc' := 75) X0 hx (hb hby own_d3_74) rfl rfl ?_
            refine own_iconst (pc' := 76) (z := (1 : Int32)) X0 hx (hb hby own_d3_75) rfl rfl ?_
            refine own_iushr (pc' := 77) (z := (own_ushr (own_ushr p0 (16 : Int32)) (1 : Int32))) X0 hx (hb hby own_d3_76) rfl rfl ?_
            refine own_isub (pc' := 78) (z := ((15 : Int32) - (own_ushr (own_ushr p0 (16 : Int32)) (1 : Int32)))) X0 hx (hb hby own_d3_77) rfl rfl ?_
            refine own_retI X0 hx hlk hret (hb hby own_d3_78) (by decide) (by decide) ?_
            have i_hc1_31 : 0 < p0.toInt := own_i1 hc1_31
            have i_hc22_32 : 65536 ≤ p0.toInt := own_i2 hc22_32
            have i_hc37_40 : (own_ushr p0 (16 : Int32)).toInt < 256 := own_i1 hc37_40
            have i_hc51_41 : (own_ushr p0 (16 : Int32)).toInt < 16 := own_i1 hc51_41
            have i_hc63_42 : (own_ushr p0 (16 : Int32)).toInt < 4 := own_i1 hc63_42
            have r0 := rng32 p0
            have u0 : (own_ushr p0 (16 : Int32)).toInt = p0.toInt / 65536 := own_us 16 (by decide) (by decide) (by omega)
            have uz : (own_ushr (own_ushr p0 (16 : Int32)) (1 : Int32)).toInt = (own_ushr p0 (16 : Int32)).toInt / 2 := own_us 1 (by decide) (by decide) (by omega)
            have hz : (own_ushr (own_ushr p0 (16 : Int32)) (1 : Int32)).toInt = 0 ∨ (own_ushr (own_ushr p0 (16 : Int32)) (1 : Int32)).toInt = 1 := by omega
            rcases hz with q | q
            · exact ⟨17, own_some (by rw [own_eq0 q]; decide), N0, e0, by decide, by show p0.toInt < 131072; omega⟩
            · exact ⟨18, own_some (by rw [own_eq1 q]; decide), N0, e0, by decide, by show p0.toInt < 262144; omega⟩
          · refine own_icmpNo (pc' := 66) X0 hx (hb hby own_d3_63) rfl (flt hc63_42).1 ?_
            refine own_iinc (pc' := 69) (z := (13 : Int32)) (l' := #[.val (.int (own_ushr p0 (16 : Int32))), .val (.int (13 : Int32))]) X0 hx (hb hby own_d3_66) rfl rfl (by decide) rfl ?_
            refine own_iloadN (pc' := 70) X0 hx (hb hby own_d3_69) rfl rfl ?_
            refine own_iconst (pc' := 71) (z := (2 : Int32)) X0 hx (hb hby own_d3_70) rfl rfl ?_
            refine own_iushr (pc' := 72) (z := (own_ushr (own_ushr p0 (16 : Int32)) (2 : Int32))) X0 hx (hb hby own_d3_71) rfl rfl ?_
            refine own_istoreN (pc' := 73) (l' := #[.val (.int (own_ushr (own_ushr p0 (16 : Int32)) (2 : Int32))), .val (.int (13 : Int32))]) X0 hx (hb hby own_d3_72) rfl rfl ?_
            refine own_iloadN (pc' := 74) X0 hx (hb hby own_d3_73) rfl rfl ?_
            refine own_iloadN (pc' := 75) X0 hx (hb hby own_d3_74) rfl rfl ?_
            refine own_iconst (pc' := 76) (z := (1 : Int32)) X0 hx (hb hby own_d3_75) rfl rfl ?_
            refine own_iushr (pc' := 77) (z := (own_ushr (own_ushr (own_ushr p0 (16 : Int32)) (2 : Int32)) (1 : Int32))) X0 hx (hb hby own_d3_76) rfl rfl ?_
            refine own_isub (pc' := 78) (z := ((13 : Int32) - (own_ushr (own_ushr (own_ushr p0 (16 : Int32)) (2 : Int32)) (1 : Int32)))) X0 hx (hb hby own_d3_77) rfl rfl ?_
            refine own_retI X0 hx hlk hret (hb hby own_d3_78) (by decide) (by decide) ?_
            have i_hc1_31 : 0 < p0.toInt := own_i1 hc1_31
            have i_hc22_32 : 65536 ≤ p0.toInt := own_i2 hc22_32
            have i_hc37_40 : (own_ushr p0 (16 : Int32)).toInt < 256 := own_i1 hc37_40
            have i_hc51_41 : (own_ushr p0 (16 : Int32)).toInt < 16 := own_i1 hc51_41
            have i_hc63_42 : 4 ≤ (own_ushr p0 (16 : Int32)).toInt := own_i2 hc63_42
            have r0 := rng32 p0
            have u0 : (own_ushr p0 (16 : Int32)).toInt = p0.toInt / 65536 := own_us 16 (by decide) (by decide) (by omega)
            have u16 : (own_ushr (own_ushr p0 (16 : Int32)) (2 : Int32)).toInt = (own_ushr p0 (16 : Int32)).toInt / 4 := own_us 2 (by decide) (by decide) (by omega)
            have uz : (own_ushr (own_ushr (own_ushr p0 (16 : Int32)) (2 : Int32)) (1 : Int32)).toInt = (own_ushr (own_ushr p0 (16 : Int32)) (2 : Int32)).toInt / 2 := own_us 1 (by decide) (by decide) (by omega)
            have hz : (own_ushr (own_ushr (own_ushr p0 (16 : Int32)) (2 : Int32)) (1 : Int32)).toInt = 0 ∨ (own_ushr (own_ushr (own_ushr p0 (16 : Int32)) (2 : Int32)) (1 : Int32)).toInt = 1 := by omega
            rcases hz with q | q
            · exact ⟨19, own_some (by rw [own_eq0 q]; decide), N0, e0, by decide, by show p0.toInt < 524288; omega⟩
            · exact ⟨20, own_some (by rw [own_eq1 q]; decide), N0, e0, by decide, by show p0.toInt < 1048576; omega⟩
        · refine own_icmpNo (pc' := 54) X0 hx (hb hby own_d3_51) rfl (flt hc51_41).1 ?_
          refine own_iinc (pc' := 57) (z := (11 : Int32)) (l' := #[.val (.int (own_ushr p0 (16 : Int32))), .val (.int (11 : Int32))]) X0 hx (hb hby own_d3_54) rfl rfl (by decide) rfl ?_
          refine own_iloadN (pc' := 58) X0 hx (hb hby own_d3_57) rfl rfl ?_
          refine own_iconst (pc' := 59) (z := (4 : Int32)) X0 hx (hb hby own_d3_58) rfl rfl ?_
          refine own_iushr (pc' := 60) (z := (own_ushr (own_ushr p0 (16 : Int32)) (4 : Int32))) X0 hx (hb hby own_d3_59) rfl rfl ?_
          refine own_istoreN (pc' := 61) (l' := #[.val (.int (own_ushr (own_ushr p0 (16 : Int32)) (4 : Int32))), .val (.int (11 : Int32))]) X0 hx (hb hby own_d3_60) rfl rfl ?_
          refine own_iloadN (pc' := 62) X0 hx (hb hby own_d3_61) rfl rfl ?_
          refine own_iconst (pc' := 63) (z := (4 : Int32)) X0 hx (hb hby own_d3_62) rfl rfl ?_
          by_cases hc63_43 : (own_ushr (own_ushr p0 (16 : Int32)) (4 : Int32)) < (4 : Int32)
          · refine own_icmpYes (pc' := 73) X0 hx (hb hby own_d3_63) (tlt hc63_43).1 (by decide) (by decide) ?_
            refine own_iloadN (pc' := 74) X0 hx (hb hby own_d3_73) rfl rfl ?_
            refine own_iloadN (pc' := 75) X0 hx (hb hby own_d3_74) rfl rfl ?_
            refine own_iconst (pc' := 76) (z := (1 : Int32)) X0 hx (hb hby own_d3_75) rfl rfl ?_
            refine own_iushr (pc' := 77) (z := (own_ushr (own_ushr (own_ushr p0 (16 : Int32)) (4 : Int32)) (1 : Int32))) X0 hx (hb hby own_d3_76) rfl rfl ?_
            refine own_isub (pc' := 78) (z := ((11 : Int32) - (own_ushr (own_ushr (own_ushr p0 (16 : Int32)) (4 : Int32)) (1 : Int32)))) X0 hx (hb hby own_d3_77) rfl rfl ?_
            refine own_retI X0 hx hlk hret (hb hby own_d3_78) (by decide) (by decide) ?_
            have i_hc1_31 : 0 < p0.toInt := own_i1 hc1_31
            have i_hc22_32 : 65536 ≤ p0.toInt := own_i2 hc22_32
            have i_hc37_40 : (own_ushr p0 (16 : Int32)).toInt < 256 := own_i1 hc37_40
            have i_hc51_41 : 16 ≤ (own_ushr p0 (16 : Int32)).toInt := own_i2 hc51_41
            have i_hc63_43 : (own_ushr (own_ushr p0 (16 : Int32)) (4 : Int32)).toInt < 4 := own_i1 hc63_43
            have r0 := rng32 p0
            have u0 : (own_ushr p0 (16 : Int32)).toInt = p0.toInt / 65536 := own_us 16 (by decide) (by decide) (by omega)
            have u16 : (own_ushr (own_ushr p0 (16 : Int32)) (4 : Int32)).toInt = (own_ushr p0 (16 : Int32)).toInt / 16 := own_us 4 (by decide) (by decide) (by omega)
            have uz : (own_ushr (own_ushr (own_ushr p0 (16 : Int32)) (4 : Int32)) (1 : Int32)).toInt = (own_ushr (own_ushr p0 (16 : Int32)) (4 : Int32)).toInt / 2 := own_us 1 (by decide) (by decide) (by omega)
            have hz : (own_ushr (own_ushr (own_ushr p0 (16 : Int32)) (4 : Int32)) (1 : Int32)).toInt = 0 ∨ (own_ushr (own_ushr (own_ushr p0 (16 : Int32)) (4 : Int32)) (1 : Int32)).toInt = 1 := by omega
            rcases hz with q | q
            · exact ⟨21, own_some (by rw [own_eq0 q]; decide), N0, e0, by decide, by show p0.toInt < 2097152; omega⟩
            · exact ⟨22, own_some (by rw [own_eq1 q]; decide), N0, e0, by decide, by show p0.toInt < 4194304; omega⟩
          · refine own_icmpNo (pc' := 66) X0 hx (hb hby own_d3_63) rfl (flt hc63_43).1 ?_
            refine own_iinc (pc' := 69) (z := (9 : Int32)) (l' := #[.val (.int (own_ushr (own_ushr p0 (16 : Int32)) (4 : Int32))), .val (.int (9 : Int32))]) X0 hx (hb hby own_d3_66) rfl rfl (by decide) rfl ?_
            refine own_iloadN (pc' := 70) X0 hx (hb hby own_d3_69) rfl rfl ?_
            refine own_iconst (pc' := 71) (z := (2 : Int32)) X0 hx (hb hby own_d3_70) rfl rfl ?_
            refine own_iushr (pc' := 72) (z := (own_ushr (own_ushr (own_ushr p0 (16 : Int32)) (4 : Int32)) (2 : Int32))) X0 hx (hb hby own_d3_71) rfl rfl ?_
            refine own_istoreN (pc' := 73) (l' := #[.val (.int (own_ushr (own_ushr (own_ushr p0 (16 : Int32)) (4 : Int32)) (2 : Int32))), .val (.int (9 : Int32))]) X0 hx (hb hby own_d3_72) rfl rfl ?_
            refine own_iloadN (pc' := 74) X0 hx (hb hby own_d3_73) rfl rfl ?_
            refine own_iloadN (pc' := 75) X0 hx (hb hby own_d3_74) rfl rfl ?_
            refine own_iconst (pc' := 76) (z := (1 : Int32)) X0 hx (hb hby own_d3_75) rfl rfl ?_
            refine own_iushr (pc' := 77) (z := (own_ushr (own_ushr (own_ushr (own_ushr p0 (16 : Int32)) (4 : Int32)) (2 : Int32)) (1 : Int32))) X0 hx (hb hby own_d3_76) rfl rfl ?_
            refine own_isub (pc' := 78) (z := ((9 : Int32) - (own_ushr (own_ushr (own_ushr (own_ushr p0 (16 : Int32)) (4 : Int32)) (2 : Int32)) (1 : Int32)))) X0 hx (hb hby own_d3_77) rfl rfl ?_
            refine own_retI X0 hx hlk hret (hb hby own_d3_78) (by decide) (by decide) ?_
            have i_hc1_31 : 0 < p0.toInt := own_i1 hc1_31
            have i_hc22_32 : 65536 ≤ p0.toInt := own_i2 hc22_32
            have i_hc37_40 : (own_ushr p0 (16 : Int32)).toInt < 256 := own_i1 hc37_40
            have i_hc51_41 : 16 ≤ (own_ushr p0 (16 : Int32)).toInt := own_i2 hc51_41
            have i_hc63_43 : 4 ≤ (own_ushr (own_ushr p0 (16 : Int32)) (4 : Int32)).toInt := own_i2 hc63_43
            have r0 := rng32 p0
            have u0 : (own_ushr p0 (16 : Int32)).toInt = p0.toInt / 65536 := own_us 16 (by decide) (by decide) (by omega)
            have u16 : (own_ushr (own_ushr p0 (16 : Int32)) (4 : Int32)).toInt = (own_ushr p0 (16 : Int32)).toInt / 16 := own_us 4 (by decide) (by decide) (by omega)
            have u20 : (own_ushr (own_ushr (own_ushr p0 (16 : Int32)) (4 : Int32)) (2 : Int32)).toInt = (own_ushr (own_ushr p0 (16 : Int32)) (4 : Int32)).toInt / 4 := own_us 2 (by decide) (by decide) (by omega)
            have uz : (own_ushr (own_ushr (own_ushr (own_ushr p0 (16 : Int32)) (4 : Int32)) (2 : Int32)) (1 : Int32)).toInt = (own_ushr (own_ushr (own_ushr p0 (16 : Int32)) (4 : Int32)) (2 : Int32)).toInt / 2 := own_us 1 (by decide) (by decide) (by omega)
            have hz : (own_ushr (own_ushr (own_ushr (own_ushr p0 (16 : Int32)) (4 : Int32)) (2 : Int32)) (1 : Int32)).toInt = 0 ∨ (own_ushr (own_ushr (own_ushr (own_ushr p0 (16 : Int32)) (4 : Int32)) (2 : Int32)) (1 : Int32)).toInt = 1 := by omega
            rcases hz with q | q
            · exact ⟨23, own_some (by rw [own_eq0 q]; decide), N0, e0, by decide, by show p0.toInt < 8388608; omega⟩
            · exact ⟨24, own_some (by rw [own_eq1 q]; decide), N0, e0, by decide, by show p0.toInt < 16777216; omega⟩
      · refine own_icmpNo (pc' := 40) X0 hx (hb hby own_d3_37) rfl (flt hc37_40).1 ?_
        refine own_iinc (pc' := 43) (z := (7 : Int32)) (l' := #[.val (.int (own_ushr p0 (16 : Int32))), .val (.int (7 : Int32))]) X0 hx (hb hby own_d3_40) rfl rfl (by decide) rfl ?_
        refine own_iloadN (pc' := 44) X0 hx (hb hby own_d3_43) rfl rfl ?_
        refine own_bipush (pc' := 46) (z := (8 : Int32)) X0 hx (hb hby own_d3_44) rfl rfl ?_
        refine own_iushr (pc' := 47) (z := (own_ushr (own_ushr p0 (16 : Int32)) (8 : Int32))) X0 hx (hb hby own_d3_46) rfl rfl ?_
        refine own_istoreN (pc' := 48) (l' := #[.val (.int (own_ushr (own_ushr p0 (16 : Int32)) (8 : Int32))), .val (.int (7 : Int32))]) X0 hx (hb hby own_d3_47) rfl rfl ?_
        refine own_iloadN (pc' := 49) X0 hx (hb hby own_d3_48) rfl rfl ?_
        refine own_bipush (pc' := 51) (z := (16 : Int32)) X0 hx (hb hby own_d3_49) rfl rfl ?_
        by_cases hc51_44 : (own_ushr (own_ushr p0 (16 : Int32)) (8 : Int32)) < (16 : Int32)
        · refine own_icmpYes (pc' := 61) X0 hx (hb hby own_d3_51) (tlt hc51_44).1 (by decide) (by decide) ?_
          refine own_iloadN (pc' := 62) X0 hx (hb hby own_d3_61) rfl rfl ?_
          refine own_iconst (pc' := 63) (z := (4 : Int32)) X0 hx (hb hby own_d3_62) rfl rfl ?_
          by_cases hc63_45 : (own_ushr (own_ushr p0 (16 : Int32)) (8 : Int32)) < (4 : Int32)
          · refine own_icmpYes (pc' := 73) X0 hx (hb hby own_d3_63) (tlt hc63_45).1 (by decide) (by decide) ?_
            refine own_iloadN (pc' := 74) X0 hx (hb hby own_d3_73) rfl rfl ?_
            refine own_iloadN (pc' := 75) X0 hx (hb hby own_d3_74) rfl rfl ?_
            refine own_iconst (pc' := 76) (z := (1 : Int32)) X0 hx (hb hby own_d3_75) rfl rfl ?_
            refine own_iushr (pc' := 77) (z := (own_ushr (own_ushr (own_ushr p0 (16 : Int32)) (8 : Int32)) (1 : Int32))) X0 hx (hb hby own_d3_76) rfl rfl ?_
            refine own_isub (pc' := 78) (z := ((7 : Int32) - (own_ushr (own_ushr (own_ushr p0 (16 : Int32)) (8 : Int32)) (1 : Int32)))) X0 hx (hb hby own_d3_77) rfl rfl ?_
            refine own_retI X0 hx hlk hret (hb hby own_d3_78) (by decide) (by decide) ?_
            have i_hc1_31 : 0 < p0.toInt := own_i1 hc1_31
            have i_hc22_32 : 65536 ≤ p0.toInt := own_i2 hc22_32
            have i_hc37_40 : 256 ≤ (own_ushr p0 (16 : Int32)).toInt := own_i2 hc37_40
            have i_hc51_44 : (own_ushr (own_ushr p0 (16 : Int32)) (8 : Int32)).toInt < 16 := own_i1 hc51_44
            have i_hc63_45 : (own_ushr (own_ushr p0 (16 : Int32)) (8 : Int32)).toInt < 4 := own_i1 hc63_45
            have r0 := rng32 p0
            have u0 : (own_ushr p0 (16 : Int32)).toInt = p0.toInt / 65536 := own_us 16 (by decide) (by decide) (by omega)
            have u16 : (own_ushr (own_ushr p0 (16 : Int32)) (8 : Int32)).toInt = (own_ushr p0 (16 : Int32)).toInt / 256 := own_us 8 (by decide) (by decide) (by omega)
            have uz : (own_ushr (own_ushr (own_ushr p0 (16 : Int32)) (8 : Int32)) (1 : Int32)).toInt = (own_ushr (own_ushr p0 (16 : Int32)) (8 : Int32)).toInt / 2 := own_us 1 (by decide) (by decide) (by omega)
            have hz : (own_ushr (own_ushr (own_ushr p0 (16 : Int32)) (8 : Int32)) (1 : Int32)).toInt = 0 ∨ (own_ushr (own_ushr (own_ushr p0 (16 : Int32)) (8 : Int32)) (1 : Int32)).toInt = 1 := by omega
            rcases hz with q | q
            · exact ⟨25, own_some (by rw [own_eq0 q]; decide), N0, e0, by decide, by show p0.toInt < 33554432; omega⟩
            · exact ⟨26, own_some (by rw [own_eq1 q]; decide), N0, e0, by decide, by show p0.toInt < 67108864; omega⟩
          · refine own_icmpNo (pc' := 66) X0 hx (hb hby own_d3_63) rfl (flt hc63_45).1 ?_
            refine own_iinc (pc' := 69) (z := (5 : Int32)) (l' := #[.val (.int (own_ushr (own_ushr p0 (16 : Int32)) (8 : Int32))), .val (.int (5 : Int32))]) X0 hx (hb hby own_d3_66) rfl rfl (by decide) rfl ?_
            refine own_iloadN (pc' := 70) X0 hx (hb hby own_d3_69) rfl rfl ?_
            refine own_iconst (pc' := 71) (z := (2 : Int32)) X0 hx (hb hby own_d3_70) rfl rfl ?_
            refine own_iushr (pc' := 72) (z := (own_ushr (own_ushr (own_ushr p0 (16 : Int32)) (8 : Int32)) (2 : Int32))) X0 hx (hb hby own_d3_71) rfl rfl ?_
            refine own_istoreN (pc' := 73) (l' := #[.val (.int (own_ushr (own_ushr (own_ushr p0 (16 : Int32)) (8 : Int32)) (2 : Int32))), .val (.int (5 : Int32))]) X0 hx (hb hby own_d3_72) rfl rfl ?_
            refine own_iloadN (pc' := 74) X0 hx (hb hby own_d3_73) rfl rfl ?_
            refine own_iloadN (pc' := 75) X0 hx (hb hby own_d3_74) rfl rfl ?_
            refine own_iconst (pc' := 76) (z := (1 : Int32)) X0 hx (hb hby own_d3_75) rfl rfl ?_
            refine own_iushr (pc' := 77) (z := (own_ushr (own_ushr (own_ushr (own_ushr p0 (16 : Int32)) (8 : Int32)) (2 : Int32)) (1 : Int32))) X0 hx (hb hby own_d3_76) rfl rfl ?_
            refine own_isub (pc' := 78) (z := ((5 : Int32) - (own_ushr (own_ushr (own_ushr (own_ushr p0 (16 : Int32)) (8 : Int32)) (2 : Int32)) (1 : Int32)))) X0 hx (hb hby own_d3_77) rfl rfl ?_
            refine own_retI X0 hx hlk hret (hb hby own_d3_78) (by decide) (by decide) ?_
            have i_hc1_31 : 0 < p0.toInt := own_i1 hc1_31
            have i_hc22_32 : 65536 ≤ p0.toInt := own_i2 hc22_32
            have i_hc37_40 : 256 ≤ (own_ushr p0 (16 : Int32)).toInt := own_i2 hc37_40
            have i_hc51_44 : (own_ushr (own_ushr p0 (16 : Int32)) (8 : Int32)).toInt < 16 := own_i1 hc51_44
            have i_hc63_45 : 4 ≤ (own_ushr (own_ushr p0 (16 : Int32)) (8 : Int32)).toInt := own_i2 hc63_45
            have r0 := rng32 p0
            have u0 : (own_ushr p0 (16 : Int32)).toInt = p0.toInt / 65536 := own_us 16 (by decide) (by decide) (by omega)
            have u16 : (own_ushr (own_ushr p0 (16 : Int32)) (8 : Int32)).toInt = (own_ushr p0 (16 : Int32)).toInt / 256 := own_us 8 (by decide) (by decide) (by omega)
            have u24 : (own_ushr (own_ushr (own_ushr p0 (16 : Int32)) (8 : Int32)) (2 : Int32)).toInt = (own_ushr (own_ushr p0 (16 : Int32)) (8 : Int32)).toInt / 4 := own_us 2 (by decide) (by decide) (by omega)
            have uz : (own_ushr (own_ushr (own_ushr (own_ushr p0 (16 : Int32)) (8 : Int32)) (2 : Int32)) (1 : Int32)).toInt = (own_ushr (own_ushr (own_ushr p0 (16 : Int32)) (8 : Int32)) (2 : Int32)).toInt / 2 := own_us 1 (by decide) (by decide) (by omega)
            have hz : (own_ushr (own_ushr (own_ushr (own_ushr p0 (16 : Int32)) (8 : Int32)) (2 : Int32)) (1 : Int32)).toInt = 0 ∨ (own_ushr (own_ushr (own_ushr (own_ushr p0 (16 : Int32)) (8 : Int32)) (2 : Int32)) (1 : Int32)).toInt = 1 := by omega
            rcases hz with q | q
            · exact ⟨27, own_some (by rw [own_eq0 q]; decide), N0, e0, by decide, by show p0.toInt < 134217728; omega⟩
            · exact ⟨28, own_some (by rw [own_eq1 q]; decide), N0, e0, by decide, by show p0.toInt < 268435456; omega⟩
        · refine own_icmpNo (pc' := 54) X0 hx (hb hby own_d3_51) rfl (flt hc51_44).1 ?_
          refine own_iinc (pc' := 57) (z := (3 : Int32)) (l' := #[.val (.int (own_ushr (own_ushr p0 (16 : Int32)) (8 : Int32))), .val (.int (3 : Int32))]) X0 hx (hb hby own_d3_54) rfl rfl (by decide) rfl ?_
          refine own_iloadN (pc' := 58) X0 hx (hb hby own_d3_57) rfl rfl ?_
          refine own_iconst (pc' := 59) (z := (4 : Int32)) X0 hx (hb hby own_d3_58) rfl rfl ?_
          refine own_iushr (pc' := 60) (z := (own_ushr (own_ushr (own_ushr p0 (16 : Int32)) (8 : Int32)) (4 : Int32))) X0 hx (hb hby own_d3_59) rfl rfl ?_
          refine own_istoreN (pc' := 61) (l' := #[.val (.int (own_ushr (own_ushr (own_ushr p0 (16 : Int32)) (8 : Int32)) (4 : Int32))), .val (.int (3 : Int32))]) X0 hx (hb hby own_d3_60) rfl rfl ?_
          refine own_iloadN (pc' := 62) X0 hx (hb hby own_d3_61) rfl rfl ?_
          refine own_iconst (pc' := 63) (z := (4 : Int32)) X0 hx (hb hby own_d3_62) rfl rfl ?_
          by_cases hc63_46 : (own_ushr (own_ushr (own_ushr p0 (16 : Int32)) (8 : Int32)) (4 : Int32)) < (4 : Int32)
          · refine own_icmpYes (pc' := 73) X0 hx (hb hby own_d3_63) (tlt hc63_46).1 (by decide) (by decide) ?_
            refine own_iloadN (pc' := 74) X0 hx (hb hby own_d3_73) rfl rfl ?_
            refine own_iloadN (pc' := 75) X0 hx (hb hby own_d3_74) rfl rfl ?_
            refine own_iconst (pc' := 76) (z := (1 : Int32)) X0 hx (hb hby own_d3_75) rfl rfl ?_
            refine own_iushr (pc' := 77) (z := (own_ushr (own_ushr (own_ushr (own_ushr p0 (16 : Int32)) (8 : Int32)) (4 : Int32)) (1 : Int32))) X0 hx (hb hby own_d3_76) rfl rfl ?_
            refine own_isub (pc' := 78) (z := ((3 : Int32) - (own_ushr (own_ushr (own_ushr (own_ushr p0 (16 : Int32)) (8 : Int32)) (4 : Int32)) (1 : Int32)))) X0 hx (hb hby own_d3_77) rfl rfl ?_
            refine own_retI X0 hx hlk hret (hb hby own_d3_78) (by decide) (by decide) ?_
            have i_hc1_31 : 0 < p0.toInt := own_i1 hc1_31
            have i_hc22_32 : 65536 ≤ p0.toInt := own_i2 hc22_32
            have i_hc37_40 : 256 ≤ (own_ushr p0 (16 : Int32)).toInt := own_i2 hc37_40
            have i_hc51_44 : 16 ≤ (own_ushr (own_ushr p0 (16 : Int32)) (8 : Int32)).toInt := own_i2 hc51_44
            have i_hc63_46 : (own_ushr (own_ushr (own_ushr p0 (16 : Int32)) (8 : Int32)) (4 : Int32)).toInt < 4 := own_i1 hc63_46
            have r0 := rng32 p0
            have u0 : (own_ushr p0 (16 : Int32)).toInt = p0.toInt / 65536 := own_us 16 (by decide) (by decide) (by omega)
            have u16 : (own_ushr (own_ushr p0 (16 : Int32)) (8 : Int32)).toInt = (own_ushr p0 (16 : Int32)).toInt / 256 := own_us 8 (by decide) (by decide) (by omega)
            have u24 : (own_ushr (own_ushr (own_ushr p0 (16 : Int32)) (8 : Int32)) (4 : Int32)).toInt = (own_ushr (own_ushr p0 (16 : Int32)) (8 : Int32)).toInt / 16 := own_us 4 (by decide) (by decide) (by omega)
            have uz : (own_ushr (own_ushr (own_ushr (own_ushr p0 (16 : Int32)) (8 : Int32)) (4 : Int32)) (1 : Int32)).toInt = (own_ushr (own_ushr (own_ushr p0 (16 : Int32)) (8 : Int32)) (4 : Int32)).toInt / 2 := own_us 1 (by decide) (by decide) (by omega)
            have hz : (own_ushr (own_ushr (own_ushr (own_ushr p0 (16 : Int32)) (8 : Int32)) (4 : Int32)) (1 : Int32)).toInt = 0 ∨ (own_ushr (own_ushr (own_ushr (own_ushr p0 (16 : Int32)) (8 : Int32)) (4 : Int32)) (1 : Int32)).toInt = 1 := by omega
            rcases hz with q | q
            · exact ⟨29, own_some (by rw [own_eq0 q]; decide), N0, e0, by decide, by show p0.toInt < 536870912; omega⟩
            · exact ⟨30, own_some (by rw [own_eq1 q]; decide), N0, e0, by decide, by show p0.toInt < 1073741824; omega⟩
          · refine own_icmpNo (pc' := 66) X0 hx (hb hby own_d3_63) rfl (flt hc63_46).1 ?_
            refine own_iinc (pc' := 69) (z := (1 : Int32)) (l' := #[.val (.int (own_ushr (own_ushr (own_ushr p0 (16 : Int32)) (8 : Int32)) (4 : Int32))), .val (.int (1 : Int32))]) X0 hx (hb hby own_d3_66) rfl rfl (by decide) rfl ?_
            refine own_iloadN (pc' := 70) X0 hx (hb hby own_d3_69) rfl rfl ?_
            refine own_iconst (pc' := 71) (z := (2 : Int32)) X0 hx (hb hby own_d3_70) rfl rfl ?_
            refine own_iushr (pc' := 72) (z := (own_ushr (own_ushr (own_ushr (own_ushr p0 (16 : Int32)) (8 : Int32)) (4 : Int32)) (2 : Int32))) X0 hx (hb hby own_d3_71) rfl rfl ?_
            refine own_istoreN (pc' := 73) (l' := #[.val (.int (own_ushr (own_ushr (own_ushr (own_ushr p0 (16 : Int32)) (8 : Int32)) (4 : Int32)) (2 : Int32))), .val (.int (1 : Int32))]) X0 hx (hb hby own_d3_72) rfl rfl ?_
            refine own_iloadN (pc' := 74) X0 hx (hb hby own_d3_73) rfl rfl ?_
            refine own_iloadN (pc' := 75) X0 hx (hb hby own_d3_74) rfl rfl ?_
            refine own_iconst (pc' := 76) (z := (1 : Int32)) X0 hx (hb hby own_d3_75) rfl rfl ?_
            refine own_iushr (pc' := 77) (z := (own_ushr (own_ushr (own_ushr (own_ushr (own_ushr p0 (16 : Int32)) (8 : Int32)) (4 : Int32)) (2 : Int32)) (1 : Int32))) X0 hx (hb hby own_d3_76) rfl rfl ?_
            refine own_isub (pc' := 78) (z := ((1 : Int32) - (own_ushr (own_ushr (own_ushr (own_ushr (own_ushr p0 (16 : Int32)) (8 : Int32)) (4 : Int32)) (2 : Int32)) (1 : Int32)))) X0 hx (hb hby own_d3_77) rfl rfl ?_
            refine own_retI X0 hx hlk hret (hb hby own_d3_78) (by decide) (by decide) ?_
            have i_hc1_31 : 0 < p0.toInt := own_i1 hc1_31
            have i_hc22_32 : 65536 ≤ p0.toInt := own_i2 hc22_32
            have i_hc37_40 : 256 ≤ (own_ushr p0 (16 : Int32)).toInt := own_i2 hc37_40
            have i_hc51_44 : 16 ≤ (own_ushr (own_ushr p0 (16 : Int32)) (8 : Int32)).toInt := own_i2 hc51_44
            have i_hc63_46 : 4 ≤ (own_ushr (own_ushr (own_ushr p0 (16 : Int32)) (8 : Int32)) (4 : Int32)).toInt := own_i2 hc63_46
            have r0 := rng32 p0
            have u0 : (own_ushr p0 (16 : Int32)).toInt = p0.toInt / 65536 := own_us 16 (by decide) (by decide) (by omega)
            have u16 : (own_ushr (own_ushr p0 (16 : Int32)) (8 : Int32)).toInt = (own_ushr p0 (16 : Int32)).toInt / 256 := own_us 8 (by decide) (by decide) (by omega)
            have u24 : (own_ushr (own_ushr (own_ushr p0 (16 : Int32)) (8 : Int32)) (4 : Int32)).toInt = (own_ushr (own_ushr p0 (16 : Int32)) (8 : Int32)).toInt / 16 := own_us 4 (by decide) (by decide) (by omega)
            have u28 : (own_ushr (own_ushr (own_ushr (own_ushr p0 (16 : Int32)) (8 : Int32)) (4 : Int32)) (2 : Int32)).toInt = (own_ushr (own_ushr (own_ushr p0 (16 : Int32)) (8 : Int32)) (4 : Int32)).toInt / 4 := own_us 2 (by decide) (by decide) (by omega)
            have uz : (own_ushr (own_ushr (own_ushr (own_ushr (own_ushr p0 (16 : Int32)) (8 : Int32)) (4 : Int32)) (2 : Int32)) (1 : Int32)).toInt = (own_ushr (own_ushr (own_ushr (own_ushr p0 (16 : Int32)) (8 : Int32)) (4 : Int32)) (2 : Int32)).toInt / 2 := own_us 1 (by decide) (by decide) (by omega)
            have hz : (own_ushr (own_ushr (own_ushr (own_ushr (own_ushr p0 (16 : Int32)) (8 : Int32)) (4 : Int32)) (2 : Int32)) (1 : Int32)).toInt = 0 ∨ (own_ushr (own_ushr (own_ushr (own_ushr (own_ushr p0 (16 : Int32)) (8 : Int32)) (4 : Int32)) (2 : Int32)) (1 : Int32)).toInt = 1 := by omega
            rcases hz with q | q
            · exact ⟨31, own_some (by rw [own_eq0 q]; decide), N0, e0, by decide, by show p0.toInt < 2147483648; omega⟩
            · exfalso; omega
  · refine own_ifNo (pc' := 4) X0 hx (hb hby own_d3_1) rfl (flt hc1_31).2.2.1 ?_
    refine own_iloadN (pc' := 5) X0 hx (hb hby own_d3_4) rfl rfl ?_
    by_cases hc5_47 : p0 = (0 : Int32)
    · refine own_ifNo (pc' := 8) X0 hx (hb hby own_d3_5) rfl (teq hc5_47).2 ?_
      refine own_bipush (pc' := 10) (z := (32 : Int32)) X0 hx (hb hby own_d3_8) rfl rfl ?_
      refine own_goto (pc' := 14) X0 hx (hb hby own_d3_10) (by decide) (by decide) ?_
      refine own_retI X0 hx hlk hret (hb hby own_d3_14) (by decide) (by decide) ?_
      have i_hc1_31 : p0.toInt ≤ 0 := own_i2 hc1_31
      have i_hc5_47 : p0.toInt = 0 := own_i3 hc5_47
      exact ⟨0, own_some (by decide), N0, e0, by decide, by show p0.toInt < 1; omega⟩
    · refine own_ifYes (pc' := 13) X0 hx (hb hby own_d3_5) (feq hc5_47).2 (by decide) (by decide) ?_
      refine own_iconst (pc' := 14) (z := (0 : Int32)) X0 hx (hb hby own_d3_13) rfl rfl ?_
      refine own_retI X0 hx hlk hret (hb hby own_d3_14) (by decide) (by decide) ?_
      have i_hc1_31 : p0.toInt ≤ 0 := own_i2 hc1_31
      have i_hc5_47 : ¬ p0.toInt = 0 := own_i4 hc5_47
      exfalso; omega
def own_room4 : Room := { frames := 0, cells := 0, slots := 0, locals := 0 }
def own_Q4 (Z : State) (p0 : Int32) (p1 : Int32) (h0 : Heap) (n0 : Nat) (v : Option Value) (h : Heap) (L : List Loc) : Prop := v = some (.int (own_max p0 p1)) ∧ Fr n0 L ∧ h = h0
theorem own_ef_rm4 (m : MethodId) (x0 : Int32) (x1 : Int32) : entryFrame m #[(.int x0), (.int x1)] 2 = mkF m 0 #[.val (.int x0), .val (.int x1)] [] := by first | (simp [entryFrame, mkF, argsToLocals, Value.category]; done) | rfl
set_option maxRecDepth 65536 in
set_option maxHeartbeats 40000000 in
theorem own_rm4 (lch : Launch) (Z : State) (a0 : Array Value) (hw : ∀ d ∈ tables_1, d.before a0 Z = true) (ws : List Jvm.Cond) (p0 : Int32) (p1 : Int32) (h0 : Heap) (n0 : Nat) :
    MetFree lch (⟨"java/lang/Math", "max", "(II)I"⟩ : MethodName) (head1 (Jvm.Cond.code (⟨"java/lang/Math", "max", "(II)I"⟩ : MethodName) jdk_29_method_65_code 2 (some .int) :: ws) own_room4) (fun zz U => zz = #[(.int p0), (.int p1)] ∧ Z.Warmed39 U.vm ∧ U.heap = h0) (fun _ _ _ _ _ => True) (fun _ U o U' => ∃ v L, o = .returned v ∧ own_Q4 Z p0 p1 h0 n0 v U'.heap L ∧ FrameEnd U o U' L own_room4.cells own_room4.slots) := by
  refine MetFree.of_bodySF (Jvm.Free.JP.mathPlain rfl (by decide +kernel)) hisR ?_
  intro prg e s m args below meth c s₁ Bd hml0 hP hK
  obtain ⟨rfl, hZ, hh⟩ := hP
  have hx := Bd.exec
  have hby := Bd.bytes
  have hml : c.maxLocals = 2 := hml0
  have hown : s.vm.findClass "java/lang/Math" = some m.cls := findClass_of_methodNamed Bd.named
  have hnm := (name_of_methodNamed Bd.named Bd.method).1
  have hlk : meth.locks = false := BodyLoose.notSynchronized Bd
  have hret := Bd.returns
  have X0 : Stand prg lch e own_room4 s m #[(.int p0), (.int p1)] below meth c s₁ [] 0 0 := Stand.of_body Bd
  have e0 : s₁.heap = h0 := by rw [← hh, Bd.state]; rfl
  have N0 := Fr.nil n0
  show own_Ends prg e below s (own_Q4 Z p0 p1 h0 n0) own_room4.cells own_room4.slots s₁ (entryFrame m #[(.int p0), (.int p1)] 2)
  refine own_cast (own_ef_rm4 m p0 p1) ?_
  refine own_iloadN (pc' := 1) X0 hx (hb hby own_d4_0) rfl rfl ?_
  refine own_iloadN (pc' := 2) X0 hx (hb hby own_d4_1) rfl rfl ?_
  by_cases hc2_31 : p0 < p1
  · refine own_icmpYes (pc' := 9) X0 hx (hb hby own_d4_2) (tlt hc2_31).1 (by decide) (by decide) ?_
    refine own_iloadN (pc' := 10) X0 hx (hb hby own_d4_9) rfl rfl ?_
    refine own_retI X0 hx hlk hret (hb hby own_d4_10) (by decide) (by decide) ?_
    exact ⟨own_some (by simp [own_max, hc2_31]), N0, e0⟩
  · refine own_icmpNo (pc' := 5) X0 hx (hb hby own_d4_2) rfl (flt hc2_31).1 ?_
    refine own_iloadN (pc' := 6) X0 hx (hb hby own_d4_5) rfl rfl ?_
    refine own_goto (pc' := 10) X0 hx (hb hby own_d4_6) (by decide) (by decide) ?_
    refine own_retI X0 hx hlk hret (hb hby own_d4_10) (by decide) (by decide) ?_
    exact ⟨own_some (by simp [own_max, hc2_31]), N0, e0⟩
def own_pk (X : List Int32) (cN w N : Nat) (W : List Int64) : Prop := 1 ≤ w ∧ w ≤ 31 ∧ N = (cN * w + 63) / 64 ∧ W.length = 35 ∧ own_inv W X w cN ∧ ∀ j, j < cN → ∀ t, w ≤ t → (X.getD j 0).toBitVec.getLsbD t = false
def own_room1 : Room := { frames := 1, cells := 1, slots := 35, locals := 16 }
def own_Q1 (Z : State) (a : Addr) (b : Addr) (bk : ClassId) (X : List Int32) (u0 : Value) (u1 : Value) (cN : Nat) (h0 : Heap) (n0 : Nat) (v : Option Value) (h : Heap) (L : List Loc) : Prop := ∃ (wa : Addr) (wk : ClassId) (w : Nat) (NN : Nat) (WW : List Int64), v = none ∧ Fr n0 L ∧ Keep h0 h [a] ∧ h0.size ≤ wa ∧ Fld Z h a "com/example/evenhand/evenhand/rounding/PackedInts" "words" "[J" (.ref wa) ∧ Fld Z h a "com/example/evenhand/evenhand/rounding/PackedInts" "width" "I" (.int (Int32.ofNat w)) ∧ Arv Z h wa wk .long (Int32.ofNat NN) (WW.map Value.long) (.long (0 : Int64)) ∧ own_pk X cN w NN WW
theorem own_ef_rm1 (m : MethodId) (x0 : Addr) (x1 : Addr) (x2 : Int32) : entryFrame m #[(.ref x0), (.ref x1), (.int x2)] 9 = mkF m 0 #[.val (.ref x0), .val (.ref x1), .val (.int x2), .unset, .unset, .unset, .unset, .unset, .unset] [] := by first | (simp [entryFrame, mkF, argsToLocals, Value.category]; done) | rfl
set_option maxRecDepth 65536 in
set_option maxHeartbeats 40000000 in
theorem own_rm1 (lch : Launch) (Z : State) (a0 : Array Value) (hw : ∀ d ∈ tables_1, d.before a0 Z = true) (ws : List Jvm.Cond) (a : Addr) (b : Addr) (bk : ClassId) (X : List Int32) (u0 : Value) (u1 : Value) (cN : Nat) (h0 : Heap) (n0 : Nat) (Z0 : n0 ≤ h0.size) (E0 : Exa Z h0 a "com/example/evenhand/evenhand/rounding/PackedInts") (F0 : Fld Z h0 a "com/example/evenhand/evenhand/rounding/PackedInts" "words" "[J" u0) (F1 : Fld Z h0 a "com/example/evenhand/evenhand/rounding/PackedInts" "width" "I" u1) (ge0 : n0 ≤ a) (V0 : Arv Z h0 b bk .int (72 : Int32) (X.map Value.int) (.int (0 : Int32))) (nab : a ≠ b) (hX : ∀ j, 0 ≤ (X.getD j 0).toInt) (hc1 : 1 ≤ cN) (hc : cN ≤ 72) :
    MetFree lch (⟨"com/example/evenhand/evenhand/rounding/PackedInts", "<init>", "([II)V"⟩ : MethodName) (head1 (Jvm.Cond.code (⟨"com/example/evenhand/evenhand/rounding/PackedInts", "<init>", "([II)V"⟩ : MethodName) prog_56_method_1_code 9 none :: ws) own_room1) (fun zz U => zz = #[(.ref a), (.ref b), (.int (Int32.ofNat cN))] ∧ Z.Warmed39 U.vm ∧ U.heap = h0) (fun _ _ _ _ _ => True) (fun _ U o U' => ∃ v L, o = .returned v ∧ own_Q1 Z a b bk X u0 u1 cN h0 n0 v U'.heap L ∧ FrameEnd U o U' L own_room1.cells own_room1.slots) := by
  refine MetFree.of_bodySF (plainFor_of_name own_pn1) hisR ?_
  intro prg e s m args below meth c s₁ Bd hml0 hP hK
  obtain ⟨rfl, hZ, hh⟩ := hP
  have hx := Bd.exec
  have hby := Bd.bytes
  have hml : c.maxLocals = 9 := hml0
  have hown : s.vm.findClass "com/example/evenhand/evenhand/rounding/PackedInts" = some m.cls := findClass_of_methodNamed Bd.named
  have hnm := (name_of_methodNamed Bd.named Bd.method).1
  have hlk : meth.locks = false := BodyLoose.notSynchronized Bd
  have hret := Bd.returns
  have X0 : Stand prg lch e own_room1 s m #[(.ref a), (.ref b), (.int (Int32.ofNat cN))] below meth c s₁ [] 0 0 := Stand.of_body Bd
  have e0 : s₁.heap = h0 := by rw [← hh, Bd.state]; rfl
  have N0 := Fr.nil n0
  show own_Ends prg e below s (own_Q1 Z a b bk X u0 u1 cN h0 n0) own_room1.cells own_room1.slots s₁ (entryFrame m #[(.ref a), (.ref b), (.int (Int32.ofNat cN))] 9)
  refine own_cast (own_ef_rm1 m a b (Int32.ofNat cN)) ?_
  have K0 := Keep.refl h0 ([a] : List Addr)
  refine own_aloadN (pc' := 1) X0 hx (hb hby own_d1_0) rfl rfl rfl ?_
  obtain ⟨T31, X31, e31, st31⟩ := initO X0 hx hZ hown (own_w8 hw) (own_w9 hw) (own_w10 hw) e0 (g := (mkF m 1 #[.val (.ref a), .val (.ref b), .val (.int (Int32.ofNat cN)), .unset, .unset, .unset, .unset, .unset, .unset] [(.ref a)])) rfl (by rw [hml]; rfl) rfl (hb hby own_d1_1) (by decide) (W := 0) (by show 2 * 0 + _ ≤ _; exact Nat.le_of_eq rfl) (by decide)
  refine own_go st31 ?_
  show own_Ends prg e below s _ _ _ T31 (mkF m 4 #[.val (.ref a), .val (.ref b), .val (.int (Int32.ofNat cN)), .unset, .unset, .unset, .unset, .unset, .unset] [])
  refine own_iconst (pc' := 5) (z := (0 : Int32)) X31 hx (hb hby own_d1_4) rfl rfl ?_
  refine own_istoreN (pc' := 6) (l' := #[.val (.ref a), .val (.ref b), .val (.int (Int32.ofNat cN)), .val (.int (0 : Int32)), .unset, .unset, .unset, .unset, .unset]) X31 hx (hb hby own_d1_5) rfl rfl ?_
  refine own_iconst (pc' := 7) (z := (0 : Int32)) X31 hx (hb hby own_d1_6) rfl rfl ?_
  refine own_istore (pc' := 9) (l' := #[.val (.ref a), .val (.ref b), .val (.int (Int32.ofNat cN)), .val (.int (0 : Int32)), .val (.int (0 : Int32)), .unset, .unset, .unset, .unset]) X31 hx (hb hby own_d1_7) rfl rfl ?_
  have loop1 : ∀ (n I : Nat) (x : Int32) (TL : State) (Lo : List Loc), I + n = cN → Stand prg lch e own_room1 s m #[(.ref a), (.ref b), (.int (Int32.ofNat cN))] below meth c TL Lo 0 0 → TL.heap = h0 → Fr n0 Lo → own_bb x X I → own_Ends prg e below s (own_Q1 Z a b bk X u0 u1 cN h0 n0) own_room1.cells own_room1.slots TL (mkF m 9 #[.val (.ref a), .val (.ref b), .val (.int (Int32.ofNat cN)), .val (.int x), .val (.int (Int32.ofNat I)), .unset, .unset, .unset, .unset] []) := by
    intro n
    induction n with
    | zero =>
      intro I x TL Lo hI XL eL NL hbq
      obtain rfl : I = cN := by omega
      refine own_iload (pc' := 11) XL hx (hb hby own_d1_9) rfl rfl ?_
      refine own_iloadN (pc' := 12) XL hx (hb hby own_d1_11) rfl rfl ?_
      refine own_icmpYes (pc' := 28) XL hx (hb hby own_d1_12) (flt (fun q => absurd ((own_ltN I (by omega) I (by omega)).mp q) (Nat.lt_irrefl _))).2.1 (by decide) (by decide) ?_
      refine own_aloadN (pc' := 29) XL hx (hb hby own_d1_28) rfl rfl rfl ?_
      refine own_iconst (pc' := 30) (z := (1 : Int32)) XL hx (hb hby own_d1_29) rfl rfl ?_
      refine own_bipush (pc' := 32) (z := (32 : Int32)) XL hx (hb hby own_d1_30) rfl rfl ?_
      refine own_iloadN (pc' := 33) XL hx (hb hby own_d1_32) rfl rfl ?_
      refine own_callS (pc' := 36) (y := (⟨"java/lang/Integer", "numberOfLeadingZeros", "(I)I"⟩ : MethodName)) (W := 3) (rm := own_room3) (argsL := [(.int x)]) (rest := [(.int (32 : Int32)), (.int (1 : Int32)), (.ref a)]) XL hx hZ eL hown (by rw [hml]; rfl) (own_w11 hw) (own_w12 hw) (own_w13 hw) (own_w14 hw) (by decide) (own_rm3 lch Z a0 hw [] x h0 n0 hbq.1) (by decide) (by decide) (by decide) (by decide) (lenOf own_pd0 rfl) rfl (by exact Nat.le_of_eq rfl) (hb hby own_d1_33) rfl ?_
      intro T32 Lc32 v32 X32 hQ32
      obtain ⟨k32, rfl, Nq32, Kq32, G32_0, G32_1⟩ := hQ32
      have N32 := Fr.app NL Nq32
      show own_Ends prg e below s _ _ _ T32 (mkF m 36 #[.val (.ref a), .val (.ref b), .val (.int (Int32.ofNat I)), .val (.int x), .val (.int (Int32.ofNat I)), .unset, .unset, .unset, .unset] [(.int (Int32.ofNat (32 - k32))), (.int (32 : Int32)), (.int (1 : Int32)), (.ref a)])
      refine own_isub (pc' := 37) (z := (Int32.ofNat k32)) X32 hx (hb hby own_d1_36) rfl (own_k32 k32 (by have := G32_0; omega)) ?_
      refine own_callS (pc' := 40) (y := (⟨"java/lang/Math", "max", "(II)I"⟩ : MethodName)) (W := 1) (rm := own_room4) (argsL := [(.int (1 : Int32)), (.int (Int32.ofNat k32))]) (rest := [(.ref a)]) X32 hx hZ Kq32 hown (by rw [hml]; rfl) (own_w15 hw) (own_w16 hw) (own_w17 hw) (own_w18 hw) (by decide) (own_rm4 lch Z a0 hw [] (1 : Int32) (Int32.ofNat k32) h0 n0) (by decide) (by decide) (by decide) (by decide) (lenOf own_pd1 rfl) rfl (by exact Nat.le_of_eq rfl) (hb hby own_d1_37) rfl ?_
      intro T33 Lc33 v33 X33 hQ33
      obtain ⟨rfl, Nq33, Kq33⟩ := hQ33
      have N33 := Fr.app N32 Nq33
      show own_Ends prg e below s _ _ _ T33 (mkF m 40 #[.val (.ref a), .val (.ref b), .val (.int (Int32.ofNat I)), .val (.int x), .val (.int (Int32.ofNat I)), .unset, .unset, .unset, .unset] [(.int (own_max (1 : Int32) (Int32.ofNat k32))), (.ref a)])
      obtain ⟨w, hw1, hw31, hwe, hwb⟩ := own_wd G32_0 hbq.1 G32_1
      rw [hwe]
      show own_Ends prg e below s _ _ _ T33 (mkF m 40 #[.val (.ref a), .val (.ref b), .val (.int (Int32.ofNat I)), .val (.int x), .val (.int (Int32.ofNat I)), .unset, .unset, .unset, .unset] [(.int (Int32.ofNat w)), (.ref a)])
      have hv : ∀ j, j < I → ∀ t, w ≤ t → (X.getD j 0).toBitVec.getLsbD t = false := fun j hj t ht => hbq.2 t j hj (hwb t ht)
      have hcw := own_cw hc hw31
      obtain ⟨T34, h34, X34, e34, W34, st34⟩ := putF X33 hx hZ hown (host := "") (Or.inl (own_w19 hw)) Via.refl Kq33 F1 E0 (Or.inr ⟨(own_w20 hw), rfl, hnm⟩) (own_w3 hw) (ty := .int) (by decide) rfl rfl (g := (mkF m 40 #[.val (.ref a), .val (.ref b), .val (.int (Int32.ofNat I)), .val (.int x), .val (.int (Int32.ofNat I)), .unset, .unset, .unset, .unset] [(.int (Int32.ofNat w)), (.ref a)])) rfl rfl (hb hby own_d1_40)
      refine own_go st34 ?_
      have Fw34 := F1.same W34
      have N34 := Fr.snoc X34 N33 ge0
      show own_Ends prg e below s _ _ _ T34 (mkF m 43 #[.val (.ref a), .val (.ref b), .val (.int (Int32.ofNat I)), .val (.int x), .val (.int (Int32.ofNat I)), .unset, .unset, .unset, .unset] [])
      refine own_aloadN (pc' := 44) X34 hx (hb hby own_d1_43) rfl rfl rfl ?_
      obtain ⟨N, hN⟩ : ∃ z, z = (I * w + 63) / 64 := ⟨_, rfl⟩
      refine own_iloadN (pc' := 45) X34 hx (hb hby own_d1_44) rfl rfl ?_
      refine own_i2l (pc' := 46) (z := (Int32.ofNat I).toInt64) X34 hx (hb hby own_d1_45) rfl rfl ?_
      refine own_aloadN (pc' := 47) X34 hx (hb hby own_d1_46) rfl rfl rfl ?_
      obtain ⟨T35, X35, e35, st35⟩ := getF X34 hx hZ hown (host := "") (Or.inl (own_w19 hw)) Via.refl e34 Fw34 (g := (mkF m 47 #[.val (.ref a), .val (.ref b), .val (.int (Int32.ofNat I)), .val (.int x), .val (.int (Int32.ofNat I)), .unset, .unset, .unset, .unset] [(.ref a), (.long (Int32.ofNat I).toInt64), (.ref a)])) rfl rfl (hb hby own_d1_47)
      refine own_go st35 ?_
      show own_Ends prg e below s _ _ _ T35 (mkF m 50 #[.val (.ref a), .val (.ref b), .val (.int (Int32.ofNat I)), .val (.int x), .val (.int (Int32.ofNat I)), .unset, .unset, .unset, .unset] [(.int (Int32.ofNat w)), (.long (Int32.ofNat I).toInt64), (.ref a)])
      refine own_i2l (pc' := 51) (z := (Int32.ofNat w).toInt64) X35 hx (hb hby own_d1_50) rfl rfl ?_
      refine own_lmul (pc' := 52) (z := (Int64.ofNat (I * w))) X35 hx (hb hby own_d1_51) rfl (own_mulN I (by omega) w (by omega)) ?_
      refine own_ldc2J (pc' := 55) X35 hx hZ hown (own_w21 hw) (hb hby own_d1_52) rfl ?_
      refine own_ladd (pc' := 56) (z := ((Int64.ofNat (I * w)) + (64 : Int64))) X35 hx (hb hby own_d1_55) rfl rfl ?_
      refine own_lconst (pc' := 57) (z := (1 : Int64)) X35 hx (hb hby own_d1_56) rfl rfl ?_
      refine own_lsub (pc' := 58) (z := (((Int64.ofNat (I * w)) + (64 : Int64)) - (1 : Int64))) X35 hx (hb hby own_d1_57) rfl rfl ?_
      refine own_ldc2J (pc' := 61) X35 hx hZ hown (own_w21 hw) (hb hby own_d1_58) rfl ?_
      refine own_ldiv (pc' := 62) (z := ((((Int64.ofNat (I * w)) + (64 : Int64)) - (1 : Int64)) / (64 : Int64))) X35 hx (hb hby own_d1_61) rfl (by decide) rfl ?_
      refine own_l2i (pc' := 63) (z := (Int32.ofNat N)) X35 hx (hb hby own_d1_62) rfl ((own_pos _ (by omega)).2.2.trans (by rw [hN])) ?_
      refine own_newarr (pc' := 65) (aty := .long) X35 hx hZ (own_w22 hw) e35 (hb hby own_d1_63) rfl (own_cl N (by omega)).2.1 35 35 (by rw [(own_cl N (by omega)).1]; omega) (by decide) (by decide) (by decide) ?_
      intro T36 h36 a36 k36 X36 e36 E36 g36 V36
      replace V36 : Arv Z h36 a36 k36 .long (Int32.ofNat N) [(.long (0 : Int64)), (.long (0 : Int64)), (.long (0 : Int64)), (.long (0 : Int64)), (.long (0 : Int64)), (.long (0 : Int64)), (.long (0 : Int64)), (.long (0 : Int64)), (.long (0 : Int64)), (.long (0 : Int64)), (.long (0 : Int64)), (.long (0 : Int64)), (.long (0 : Int64)), (.long (0 : Int64)), (.long (0 : Int64)), (.long (0 : Int64)), (.long (0 : Int64)), (.long (0 : Int64)), (.long (0 : Int64)), (.long (0 : Int64)), (.long (0 : Int64)), (.long (0 : Int64)), (.long (0 : Int64)), (.long (0 : Int64)), (.long (0 : Int64)), (.long (0 : Int64)), (.long (0 : Int64)), (.long (0 : Int64)), (.long (0 : Int64)), (.long (0 : Int64)), (.long (0 : Int64)), (.long (0 : Int64)), (.long (0 : Int64)), (.long (0 : Int64)), (.long (0 : Int64))] (.long (0 : Int64)) := V36
      have f37 := (Nat.le_trans Z0 (Keep.of_wr W34).1)
      have ge38 : n0 ≤ a36 := by rw [g36]; exact f37
      have f39 := (K0.wr W34 (Or.inl (List.mem_of_getElem? (i := 0) rfl)))
      have sz40 : h0.size ≤ a36 := by rw [g36]; exact f39.1
      have f41 := (E0.wr W34)
      have ne42 : a ≠ a36 := Nat.ne_of_lt (by rw [g36]; exact f41.lt)
      have f43 := (V0.other W34 (Ne.symm nab))
      have ne44 : b ≠ a36 := Nat.ne_of_lt (by rw [g36]; exact f43.lt)
      show own_Ends prg e below s _ _ _ T36 (mkF m 65 #[.val (.ref a), .val (.ref b), .val (.int (Int32.ofNat I)), .val (.int x), .val (.int (Int32.ofNat I)), .unset, .unset, .unset, .unset] [(.ref a36), (.ref a)])
      have Vw45 : Arv Z h36 a36 k36 .long (Int32.ofNat N) ((List.replicate 35 (0 : Int64)).map Value.long) (.long (0 : Int64)) := V36
      have f46 := ((F0.other W34 (Or.inr (slot_ne (Or.inr (own_w24 hw)) (Or.inr (own_w20 hw)) (by decide) (t := (.array .long)) (t' := .int) (by decide) (by decide)))).ext E36)
      have f47 := (f41.ext E36)
      obtain ⟨T48, h48, X48, e48, W48, st48⟩ := putF X36 hx hZ hown (host := "") (Or.inl (own_w23 hw)) Via.refl e36 f46 f47 (Or.inr ⟨(own_w24 hw), rfl, hnm⟩) (own_w3 hw) (ty := (.array .long)) (by decide) rfl rfl (g := (mkF m 65 #[.val (.ref a), .val (.ref b), .val (.int (Int32.ofNat I)), .val (.int x), .val (.int (Int32.ofNat I)), .unset, .unset, .unset, .unset] [(.ref a36), (.ref a)])) rfl rfl (hb hby own_d1_65)
      refine own_go st48 ?_
      have Fw48 := f46.same W48
      have N48 := Fr.snoc X48 N34 ge0
      show own_Ends prg e below s _ _ _ T48 (mkF m 68 #[.val (.ref a), .val (.ref b), .val (.int (Int32.ofNat I)), .val (.int x), .val (.int (Int32.ofNat I)), .unset, .unset, .unset, .unset] [])
      refine own_iconst (pc' := 69) (z := (0 : Int32)) X48 hx (hb hby own_d1_68) rfl rfl ?_
      refine own_istore (pc' := 71) (l' := #[.val (.ref a), .val (.ref b), .val (.int (Int32.ofNat I)), .val (.int x), .val (.int (0 : Int32)), .unset, .unset, .unset, .unset]) X48 hx (hb hby own_d1_69) rfl rfl ?_
      obtain ⟨cN, hcI⟩ : ∃ z, z = I := ⟨_, rfl⟩
      rw [← hcI]
      rw [← hcI] at hv hN hcw hc hc1 hbq
      have loop2 : ∀ (n I : Nat) (s5 s6 s7 s8 : Slot) (W : List Int64) (TL : State) (hL : Heap) (Lo : List Loc), I + n = cN → own_four s5 s6 s7 s8 → Stand prg lch e own_room1 s m #[(.ref a), (.ref b), (.int (Int32.ofNat cN))] below meth c TL Lo 1 35 → TL.heap = hL → Fr n0 Lo → Keep h0 hL [a] → Fld Z hL a "com/example/evenhand/evenhand/rounding/PackedInts" "words" "[J" (.ref a36) → Fld Z hL a "com/example/evenhand/evenhand/rounding/PackedInts" "width" "I" (.int (Int32.ofNat w)) → Arv Z hL b bk .int (72 : Int32) (X.map Value.int) (.int (0 : Int32)) → Arv Z hL a36 k36 .long (Int32.ofNat N) (W.map Value.long) (.long (0 : Int64)) → W.length = 35 → own_inv W X w I → own_Ends prg e below s (own_Q1 Z a b bk X u0 u1 cN h0 n0) own_room1.cells own_room1.slots TL (mkF m 71 #[.val (.ref a), .val (.ref b), .val (.int (Int32.ofNat cN)), .val (.int x), .val (.int (Int32.ofNat I)), s5, s6, s7, s8] []) := by
        intro n
        induction n with
        | zero =>
          intro I s5 s6 s7 s8 W TL hL Lo hI h4 XL eL NL KL F2 F3 Vb Vw lW hinv
          obtain rfl : I = cN := by omega
          refine own_iload (pc' := 73) XL hx (hb hby own_d1_71) rfl rfl ?_
          refine own_iloadN (pc' := 74) XL hx (hb hby own_d1_73) rfl rfl ?_
          refine own_icmpYes (pc' := 163) XL hx (hb hby own_d1_74) (flt (fun q => absurd ((own_ltN I (by omega) I (by omega)).mp q) (Nat.lt_irrefl _))).2.1 (by decide) (by decide) ?_
          refine own_retV XL hx hlk hret (hb hby own_d1_163) (by decide) (by decide) ?_
          rw [eL]; exact ⟨a36, k36, w, N, W, rfl, NL, KL, sz40, F2, F3, Vw, ⟨hw1, hw31, hN, lW, hinv, hv⟩⟩
        | succ n ih =>
          intro I s5 s6 s7 s8 W TL hL Lo hI h4 XL eL NL KL F2 F3 Vb Vw lW hinv
          have hIc : I < cN := by omega
          obtain ⟨A, hA⟩ : ∃ z, z = I * w := ⟨_, rfl⟩
          have hAw := own_Aw (w := w) hIc
          rw [← hA] at hAw
          have hvI := hv I hIc
          have hA4 : A < 2304 := by omega
          rcases h4 with ⟨rfl, rfl, rfl, rfl⟩ | ⟨y5, y7, y8, rfl, rfl, rfl, rfl⟩
          · refine own_iload (pc' := 73) XL hx (hb hby own_d1_71) rfl rfl ?_
            refine own_iloadN (pc' := 74) XL hx (hb hby own_d1_73) rfl rfl ?_
            refine own_icmpNo (pc' := 77) XL hx (hb hby own_d1_74) rfl (tlt ((own_ltN I (by omega) cN (by omega)).mpr hIc)).2.1 ?_
            refine own_iload (pc' := 79) XL hx (hb hby own_d1_77) rfl rfl ?_
            refine own_i2l (pc' := 80) (z := (Int32.ofNat I).toInt64) XL hx (hb hby own_d1_79) rfl rfl ?_
            refine own_aloadN (pc' := 81) XL hx (hb hby own_d1_80) rfl rfl rfl ?_
            obtain ⟨T49, X49, e49, st49⟩ := getF XL hx hZ hown (host := "") (Or.inl (own_w19 hw)) Via.refl eL F3 (g := (mkF m 81 #[.val (.ref a), .val (.ref b), .val (.int (Int32.ofNat cN)), .val (.int x), .val (.int (Int32.ofNat I)), .unset, .unset, .unset, .unset] [(.ref a), (.long (Int32.ofNat I).toInt64)])) rfl rfl (hb hby own_d1_81)
            refine own_go st49 ?_
            show own_Ends prg e below s _ _ _ T49 (mkF m 84 #[.val (.ref a), .val (.ref b), .val (.int (Int32.ofNat cN)), .val (.int x), .val (.int (Int32.ofNat I)), .unset, .unset, .unset, .unset] [(.int (Int32.ofNat w)), (.long (Int32.ofNat I).toInt64)])
            refine own_i2l (pc' := 85) (z := (Int32.ofNat w).toInt64) X49 hx (hb hby own_d1_84) rfl rfl ?_
            refine own_lmul (pc' := 86) (z := (Int64.ofNat A)) X49 hx (hb hby own_d1_85) rfl (by rw [hA]; exact own_mulN I (by omega) w (by omega)) ?_
            refine own_lstore (pc' := 88) (l' := #[.val (.ref a), .val (.ref b), .val (.int (Int32.ofNat cN)), .val (.int x), .val (.int (Int32.ofNat I)), .val (.long (Int64.ofNat A)), .second, .unset, .unset]) X49 hx (hb hby own_d1_86) rfl rfl ?_
            refine own_lload (pc' := 90) X49 hx (hb hby own_d1_88) rfl rfl ?_
            refine own_bipush (pc' := 92) (z := (6 : Int32)) X49 hx (hb hby own_d1_90) rfl rfl ?_
            refine own_lushr (pc' := 93) (z := (own_ushrL (Int64.ofNat A) (6 : Int32))) X49 hx (hb hby own_d1_92) rfl rfl ?_
            refine own_l2i (pc' := 94) (z := (Int32.ofNat (A / 64))) X49 hx (hb hby own_d1_93) rfl (own_pos A hA4).1 ?_
            refine own_istore (pc' := 96) (l' := #[.val (.ref a), .val (.ref b), .val (.int (Int32.ofNat cN)), .val (.int x), .val (.int (Int32.ofNat I)), .val (.long (Int64.ofNat A)), .second, .val (.int (Int32.ofNat (A / 64))), .unset]) X49 hx (hb hby own_d1_94) rfl rfl ?_
            refine own_lload (pc' := 98) X49 hx (hb hby own_d1_96) rfl rfl ?_
            refine own_l2i (pc' := 99) (z := (Int64.ofNat A).toInt32) X49 hx (hb hby own_d1_98) rfl rfl ?_
            refine own_bipush (pc' := 101) (z := (63 : Int32)) X49 hx (hb hby own_d1_99) rfl rfl ?_
            refine own_iand (pc' := 102) (z := (Int32.ofNat (A % 64))) X49 hx (hb hby own_d1_101) rfl (own_pos A hA4).2.1 ?_
            refine own_istore (pc' := 104) (l' := #[.val (.ref a), .val (.ref b), .val (.int (Int32.ofNat cN)), .val (.int x), .val (.int (Int32.ofNat I)), .val (.long (Int64.ofNat A)), .second, .val (.int (Int32.ofNat (A / 64))), .val (.int (Int32.ofNat (A % 64)))]) X49 hx (hb hby own_d1_102) rfl rfl ?_
            refine own_aloadN (pc' := 105) X49 hx (hb hby own_d1_104) rfl rfl rfl ?_
            obtain ⟨T50, X50, e50, st50⟩ := getF X49 hx hZ hown (host := "") (Or.inl (own_w23 hw)) Via.refl e49 F2 (g := (mkF m 105 #[.val (.ref a), .val (.ref b), .val (.int (Int32.ofNat cN)), .val (.int x), .val (.int (Int32.ofNat I)), .val (.long (Int64.ofNat A)), .second, .val (.int (Int32.ofNat (A / 64))), .val (.int (Int32.ofNat (A % 64)))] [(.ref a)])) rfl rfl (hb hby own_d1_105)
            refine own_go st50 ?_
            show own_Ends prg e below s _ _ _ T50 (mkF m 108 #[.val (.ref a), .val (.ref b), .val (.int (Int32.ofNat cN)), .val (.int x), .val (.int (Int32.ofNat I)), .val (.long (Int64.ofNat A)), .second, .val (.int (Int32.ofNat (A / 64))), .val (.int (Int32.ofNat (A % 64)))] [(.ref a36)])
            refine own_iload (pc' := 110) X50 hx (hb hby own_d1_108) rfl rfl ?_
            refine own_dup2 (pc' := 111) X50 hx (hb hby own_d1_110) rfl rfl rfl ?_
            refine own_laload (pc' := 112) (v := (.long (W.getD (A / 64) 0))) X50 hx hZ e50 Vw (hb hby own_d1_111) rfl (own_in (by omega) (by omega)) (by rw [(own_cl (A / 64) (by omega)).1]; exact own_mapL W _) ?_
            refine own_aloadN (pc' := 113) X50 hx (hb hby own_d1_112) rfl rfl rfl ?_
            refine own_iload (pc' := 115) X50 hx (hb hby own_d1_113) rfl rfl ?_
            refine own_iaload (pc' := 116) (v := (.int (X.getD I 0))) X50 hx hZ e50 Vb (hb hby own_d1_115) rfl (own_in (n := 72) (by omega) (by decide)) (by rw [(own_cl I (by omega)).1]; exact own_mapI X _) ?_
            refine own_i2l (pc' := 117) (z := (X.getD I 0).toInt64) X50 hx (hb hby own_d1_116) rfl rfl ?_
            refine own_iload (pc' := 119) X50 hx (hb hby own_d1_117) rfl rfl ?_
            refine own_lshl (pc' := 120) (z := ((X.getD I 0).toInt64 <<< ((Int32.ofNat (A % 64)) &&& 0x3f).toInt64)) X50 hx (hb hby own_d1_119) rfl rfl ?_
            refine own_lor (pc' := 121) (z := ((W.getD (A / 64) 0) ||| ((X.getD I 0).toInt64 <<< ((Int32.ofNat (A % 64)) &&& 0x3f).toInt64))) X50 hx (hb hby own_d1_120) rfl rfl ?_
            refine own_lastore (pc' := 122) X50 hx hZ e50 Vw (hb hby own_d1_121) rfl (own_in (by omega) (by omega)) (A / 64) (own_cl _ (by omega)).1 (by rw [List.length_map]; omega) NL ge38 ?_
            intro T51 h51 L51 X51 e51 N51 W51 V51
            rw [own_setL] at V51
            obtain ⟨W52, hW52⟩ : ∃ z, z = W.set (A / 64) ((W.getD (A / 64) 0) ||| ((X.getD I 0).toInt64 <<< ((Int32.ofNat (A % 64)) &&& 0x3f).toInt64)) := ⟨_, rfl⟩
            rw [← hW52] at V51
            have lW52 : W52.length = 35 := by rw [hW52, List.length_set]; exact lW
            show own_Ends prg e below s _ _ _ T51 (mkF m 122 #[.val (.ref a), .val (.ref b), .val (.int (Int32.ofNat cN)), .val (.int x), .val (.int (Int32.ofNat I)), .val (.long (Int64.ofNat A)), .second, .val (.int (Int32.ofNat (A / 64))), .val (.int (Int32.ofNat (A % 64)))] [])
            refine own_iload (pc' := 124) X51 hx (hb hby own_d1_122) rfl rfl ?_
            refine own_aloadN (pc' := 125) X51 hx (hb hby own_d1_124) rfl rfl rfl ?_
            have f53 := (F3.other W51 (Or.inl ne42))
            obtain ⟨T54, X54, e54, st54⟩ := getF X51 hx hZ hown (host := "") (Or.inl (own_w19 hw)) Via.refl e51 f53 (g := (mkF m 125 #[.val (.ref a), .val (.ref b), .val (.int (Int32.ofNat cN)), .val (.int x), .val (.int (Int32.ofNat I)), .val (.long (Int64.ofNat A)), .second, .val (.int (Int32.ofNat (A / 64))), .val (.int (Int32.ofNat (A % 64)))] [(.ref a), (.int (Int32.ofNat (A % 64)))])) rfl rfl (hb hby own_d1_125)
            refine own_go st54 ?_
            show own_Ends prg e below s _ _ _ T54 (mkF m 128 #[.val (.ref a), .val (.ref b), .val (.int (Int32.ofNat cN)), .val (.int x), .val (.int (Int32.ofNat I)), .val (.long (Int64.ofNat A)), .second, .val (.int (Int32.ofNat (A / 64))), .val (.int (Int32.ofNat (A % 64)))] [(.int (Int32.ofNat w)), (.int (Int32.ofNat (A % 64)))])
            refine own_iadd (pc' := 129) (z := ((Int32.ofNat (A % 64)) + (Int32.ofNat w))) X54 hx (hb hby own_d1_128) rfl rfl ?_
            refine own_bipush (pc' := 131) (z := (64 : Int32)) X54 hx (hb hby own_d1_129) rfl rfl ?_
            by_cases hc131_55 : (64 : Int32) < ((Int32.ofNat (A % 64)) + (Int32.ofNat w))
            · refine own_icmpNo (pc' := 134) X54 hx (hb hby own_d1_131) rfl (tlt hc131_55).2.2.2 ?_
              have hf : ¬ A % 64 + w ≤ 64 := by have := (own_sum (A % 64) (by omega) w (by omega)).mp hc131_55; omega
              refine own_aloadN (pc' := 135) X54 hx (hb hby own_d1_134) rfl rfl rfl ?_
              have f56 := (F2.other W51 (Or.inl ne42))
              obtain ⟨T57, X57, e57, st57⟩ := getF X54 hx hZ hown (host := "") (Or.inl (own_w23 hw)) Via.refl e54 f56 (g := (mkF m 135 #[.val (.ref a), .val (.ref b), .val (.int (Int32.ofNat cN)), .val (.int x), .val (.int (Int32.ofNat I)), .val (.long (Int64.ofNat A)), .second, .val (.int (Int32.ofNat (A / 64))), .val (.int (Int32.ofNat (A % 64)))] [(.ref a)])) rfl rfl (hb hby own_d1_135)
              refine own_go st57 ?_
              show own_Ends prg e below s _ _ _ T57 (mkF m 138 #[.val (.ref a), .val (.ref b), .val (.int (Int32.ofNat cN)), .val (.int x), .val (.int (Int32.ofNat I)), .val (.long (Int64.ofNat A)), .second, .val (.int (Int32.ofNat (A / 64))), .val (.int (Int32.ofNat (A % 64)))] [(.ref a36)])
              refine own_iload (pc' := 140) X57 hx (hb hby own_d1_138) rfl rfl ?_
              refine own_iconst (pc' := 141) (z := (1 : Int32)) X57 hx (hb hby own_d1_140) rfl rfl ?_
              refine own_iadd (pc' := 142) (z := (Int32.ofNat (A / 64 + 1))) X57 hx (hb hby own_d1_141) rfl (own_inc _ (by omega)) ?_
              refine own_dup2 (pc' := 143) X57 hx (hb hby own_d1_142) rfl rfl rfl ?_
              refine own_laload (pc' := 144) (v := (.long (W52.getD (A / 64 + 1) 0))) X57 hx hZ e57 V51 (hb hby own_d1_143) rfl (own_in (by omega) (by omega)) (by rw [(own_cl (A / 64 + 1) (by omega)).1]; exact own_mapL W52 _) ?_
              refine own_aloadN (pc' := 145) X57 hx (hb hby own_d1_144) rfl rfl rfl ?_
              refine own_iload (pc' := 147) X57 hx (hb hby own_d1_145) rfl rfl ?_
              have f58 := (Vb.other W51 ne44)
              refine own_iaload (pc' := 148) (v := (.int (X.getD I 0))) X57 hx hZ e57 f58 (hb hby own_d1_147) rfl (own_in (n := 72) (by omega) (by decide)) (by rw [(own_cl I (by omega)).1]; exact own_mapI X _) ?_
              refine own_i2l (pc' := 149) (z := (X.getD I 0).toInt64) X57 hx (hb hby own_d1_148) rfl rfl ?_
              refine own_bipush (pc' := 151) (z := (64 : Int32)) X57 hx (hb hby own_d1_149) rfl rfl ?_
              refine own_iload (pc' := 153) X57 hx (hb hby own_d1_151) rfl rfl ?_
              refine own_isub (pc' := 154) (z := (Int32.ofNat (64 - A % 64))) X57 hx (hb hby own_d1_153) rfl (own_sub64 _ (by omega)) ?_
              refine own_lushr (pc' := 155) (z := (own_ushrL (X.getD I 0).toInt64 (Int32.ofNat (64 - A % 64)))) X57 hx (hb hby own_d1_154) rfl rfl ?_
              refine own_lor (pc' := 156) (z := ((W52.getD (A / 64 + 1) 0) ||| (own_ushrL (X.getD I 0).toInt64 (Int32.ofNat (64 - A % 64))))) X57 hx (hb hby own_d1_155) rfl rfl ?_
              refine own_lastore (pc' := 157) X57 hx hZ e57 V51 (hb hby own_d1_156) rfl (own_in (by omega) (by omega)) (A / 64 + 1) (own_cl _ (by omega)).1 (by rw [List.length_map]; omega) N51 ge38 ?_
              intro T59 h59 L59 X59 e59 N59 W59 V59
              rw [own_setL] at V59
              obtain ⟨W60, hW60⟩ : ∃ z, z = W52.set (A / 64 + 1) ((W52.getD (A / 64 + 1) 0) ||| (own_ushrL (X.getD I 0).toInt64 (Int32.ofNat (64 - A % 64)))) := ⟨_, rfl⟩
              rw [← hW60] at V59
              have lW60 : W60.length = 35 := by rw [hW60, List.length_set]; exact lW52
              show own_Ends prg e below s _ _ _ T59 (mkF m 157 #[.val (.ref a), .val (.ref b), .val (.int (Int32.ofNat cN)), .val (.int x), .val (.int (Int32.ofNat I)), .val (.long (Int64.ofNat A)), .second, .val (.int (Int32.ofNat (A / 64))), .val (.int (Int32.ofNat (A % 64)))] [])
              refine own_iinc (pc' := 160) (z := (Int32.ofNat (I + 1))) (l' := #[.val (.ref a), .val (.ref b), .val (.int (Int32.ofNat cN)), .val (.int x), .val (.int (Int32.ofNat (I + 1))), .val (.long (Int64.ofNat A)), .second, .val (.int (Int32.ofNat (A / 64))), .val (.int (Int32.ofNat (A % 64)))]) X59 hx (hb hby own_d1_157) rfl rfl (own_inc I (by omega)) rfl ?_
              refine own_goto (pc' := 71) X59 hx (hb hby own_d1_160) (by decide) (by decide) ?_
              have f61 := (f56.other W59 (Or.inl ne42))
              have f62 := (f53.other W59 (Or.inl ne42))
              have f63 := (f58.other W59 ne44)
              have f64 := ((KL.wr W51 (Or.inr sz40)).wr W59 (Or.inr sz40))
              exact ih (I + 1) _ _ _ _ W60 T59 h59 _ (by omega) (Or.inr ⟨_, _, _, rfl, rfl, rfl, rfl⟩) X59 e59 N59 f64 f61 f62 f63 V59 lW60 (by rw [hW60]; exact own_invS hw1 hinv hvI (fun B => by rw [← hA]; exact own_put2 hw1 hw31 hvI (by omega) hf hW52 B))
            · refine own_icmpYes (pc' := 157) X54 hx (hb hby own_d1_131) (flt hc131_55).2.2.2 (by decide) (by decide) ?_
              have hf : A % 64 + w ≤ 64 := by have := mt (own_sum (A % 64) (by omega) w (by omega)).mpr hc131_55; omega
              refine own_iinc (pc' := 160) (z := (Int32.ofNat (I + 1))) (l' := #[.val (.ref a), .val (.ref b), .val (.int (Int32.ofNat cN)), .val (.int x), .val (.int (Int32.ofNat (I + 1))), .val (.long (Int64.ofNat A)), .second, .val (.int (Int32.ofNat (A / 64))), .val (.int (Int32.ofNat (A % 64)))]) X54 hx (hb hby own_d1_157) rfl rfl (own_inc I (by omega)) rfl ?_
              refine own_goto (pc' := 71) X54 hx (hb hby own_d1_160) (by decide) (by decide) ?_
              have f65 := (F2.other W51 (Or.inl ne42))
              have f66 := (Vb.other W51 ne44)
              have f67 := (KL.wr W51 (Or.inr sz40))
              exact ih (I + 1) _ _ _ _ W52 T54 h51 _ (by omega) (Or.inr ⟨_, _, _, rfl, rfl, rfl, rfl⟩) X54 e54 N51 f67 f65 f53 f66 V51 lW52 (by rw [hW52]; exact own_invS hw1 hinv hvI (fun B => by rw [← hA]; exact own_put1 hw1 hw31 hvI (by omega) hf B))
          · refine own_iload (pc' := 73) XL hx (hb hby own_d1_71) rfl rfl ?_
            refine own_iloadN (pc' := 74) XL hx (hb hby own_d1_73) rfl rfl ?_
            refine own_icmpNo (pc' := 77) XL hx (hb hby own_d1_74) rfl (tlt ((own_ltN I (by omega) cN (by omega)).mpr hIc)).2.1 ?_
            refine own_iload (pc' := 79) XL hx (hb hby own_d1_77) rfl rfl ?_
            refine own_i2l (pc' := 80) (z := (Int32.ofNat I).toInt64) XL hx (hb hby own_d1_79) rfl rfl ?_
            refine own_aloadN (pc' := 81) XL hx (hb hby own_d1_80) rfl rfl rfl ?_
            obtain ⟨T68, X68, e68, st68⟩ := getF XL hx hZ hown (host := "") (Or.inl (own_w19 hw)) Via.refl eL F3 (g := (mkF m 81 #[.val (.ref a), .val (.ref b), .val (.int (Int32.ofNat cN)), .val (.int x), .val (.int (Int32.ofNat I)), .val (.long y5), .second, .val (.int y7), .val (.int y8)] [(.ref a), (.long (Int32.ofNat I).toInt64)])) rfl rfl (hb hby own_d1_81)
            refine own_go st68 ?_
            show own_Ends prg e below s _ _ _ T68 (mkF m 84 #[.val (.ref a), .val (.ref b), .val (.int (Int32.ofNat cN)), .val (.int x), .val (.int (Int32.ofNat I)), .val (.long y5), .second, .val (.int y7), .val (.int y8)] [(.int (Int32.ofNat w)), (.long (Int32.ofNat I).toInt64)])
            refine own_i2l (pc' := 85) (z := (Int32.ofNat w).toInt64) X68 hx (hb hby own_d1_84) rfl rfl ?_
            refine own_lmul (pc' := 86) (z := (Int64.ofNat A)) X68 hx (hb hby own_d1_85) rfl (by rw [hA]; exact own_mulN I (by omega) w (by omega)) ?_
            refine own_lstore (pc' := 88) (l' := #[.val (.ref a), .val (.ref b), .val (.int (Int32.ofNat cN)), .val (.int x), .val (.int (Int32.ofNat I)), .val (.long (Int64.ofNat A)), .second, .val (.int y7), .val (.int y8)]) X68 hx (hb hby own_d1_86) rfl rfl ?_
            refine own_lload (pc' := 90) X68 hx (hb hby own_d1_88) rfl rfl ?_
            refine own_bipush (pc' := 92) (z := (6 : Int32)) X68 hx (hb hby own_d1_90) rfl rfl ?_
            refine own_lushr (pc' := 93) (z := (own_ushrL (Int64.ofNat A) (6 : Int32))) X68 hx (hb hby own_d1_92) rfl rfl ?_
            refine own_l2i (pc' := 94) (z := (Int32.ofNat (A / 64))) X68 hx (hb hby own_d1_93) rfl (own_pos A hA4).1 ?_
            refine own_istore (pc' := 96) (l' := #[.val (.ref a), .val (.ref b), .val (.int (Int32.ofNat cN)), .val (.int x), .val (.int (Int32.ofNat I)), .val (.long (Int64.ofNat A)), .second, .val (.int (Int32.ofNat (A / 64))), .val (.int y8)]) X68 hx (hb hby own_d1_94) rfl rfl ?_
            refine own_lload (pc' := 98) X68 hx (hb hby own_d1_96) rfl rfl ?_
            refine own_l2i (pc' := 99) (z := (Int64.ofNat A).toInt32) X68 hx (hb hby own_d1_98) rfl rfl ?_
            refine own_bipush (pc' := 101) (z := (63 : Int32)) X68 hx (hb hby own_d1_99) rfl rfl ?_
            refine own_iand (pc' := 102) (z := (Int32.ofNat (A % 64))) X68 hx (hb hby own_d1_101) rfl (own_pos A hA4).2.1 ?_
            refine own_istore (pc' := 104) (l' := #[.val (.ref a), .val (.ref b), .val (.int (Int32.ofNat cN)), .val (.int x), .val (.int (Int32.ofNat I)), .val (.long (Int64.ofNat A)), .second, .val (.int (Int32.ofNat (A / 64))), .val (.int (Int32.ofNat (A % 64)))]) X68 hx (hb hby own_d1_102) rfl rfl ?_
            refine own_aloadN (pc' := 105) X68 hx (hb hby own_d1_104) rfl rfl rfl ?_
            obtain ⟨T69, X69, e69, st69⟩ := getF X68 hx hZ hown (host := "") (Or.inl (own_w23 hw)) Via.refl e68 F2 (g := (mkF m 105 #[.val (.ref a), .val (.ref b), .val (.int (Int32.ofNat cN)), .val (.int x), .val (.int (Int32.ofNat I)), .val (.long (Int64.ofNat A)), .second, .val (.int (Int32.ofNat (A / 64))), .val (.int (Int32.ofNat (A % 64)))] [(.ref a)])) rfl rfl (hb hby own_d1_105)
            refine own_go st69 ?_
            show own_Ends prg e below s _ _ _ T69 (mkF m 108 #[.val (.ref a), .val (.ref b), .val (.int (Int32.ofNat cN)), .val (.int x), .val (.int (Int32.ofNat I)), .val (.long (Int64.ofNat A)), .second, .val (.int (Int32.ofNat (A / 64))), .val (.int (Int32.ofNat (A % 64)))] [(.ref a36)])
            refine own_iload (pc' := 110) X69 hx (hb hby own_d1_108) rfl rfl ?_
            refine own_dup2 (pc' := 111) X69 hx (hb hby own_d1_110) rfl rfl rfl ?_
            refine own_laload (pc' := 112) (v := (.long (W.getD (A / 64) 0))) X69 hx hZ e69 Vw (hb hby own_d1_111) rfl (own_in (by omega) (by omega)) (by rw [(own_cl (A / 64) (by omega)).1]; exact own_mapL W _) ?_
            refine own_aloadN (pc' := 113) X69 hx (hb hby own_d1_112) rfl rfl rfl ?_
            refine own_iload (pc' := 115) X69 hx (hb hby own_d1_113) rfl rfl ?_
            refine own_iaload (pc' := 116) (v := (.int (X.getD I 0))) X69 hx hZ e69 Vb (hb hby own_d1_115) rfl (own_in (n := 72) (by omega) (by decide)) (by rw [(own_cl I (by omega)).1]; exact own_mapI X _) ?_
            refine own_i2l (pc' := 117) (z := (X.getD I 0).toInt64) X69 hx (hb hby own_d1_116) rfl rfl ?_
            refine own_iload (pc' := 119) X69 hx (hb hby own_d1_117) rfl rfl ?_
            refine own_lshl (pc' := 120) (z := ((X.getD I 0).toInt64 <<< ((Int32.ofNat (A % 64)) &&& 0x3f).toInt64)) X69 hx (hb hby own_d1_119) rfl rfl ?_
            refine own_lor (pc' := 121) (z := ((W.getD (A / 64) 0) ||| ((X.getD I 0).toInt64 <<< ((Int32.ofNat (A % 64)) &&& 0x3f).toInt64))) X69 hx (hb hby own_d1_120) rfl rfl ?_
            refine own_lastore (pc' := 122) X69 hx hZ e69 Vw (hb hby own_d1_121) rfl (own_in (by omega) (by omega)) (A / 64) (own_cl _ (by omega)).1 (by rw [List.length_map]; omega) NL ge38 ?_
            intro T70 h70 L70 X70 e70 N70 W70 V70
            rw [own_setL] at V70
            obtain ⟨W71, hW71⟩ : ∃ z, z = W.set (A / 64) ((W.getD (A / 64) 0) ||| ((X.getD I 0).toInt64 <<< ((Int32.ofNat (A % 64)) &&& 0x3f).toInt64)) := ⟨_, rfl⟩
            rw [← hW71] at V70
            have lW71 : W71.length = 35 := by rw [hW71, List.length_set]; exact lW
            show own_Ends prg e below s _ _ _ T70 (mkF m 122 #[.val (.ref a), .val (.ref b), .val (.int (Int32.ofNat cN)), .val (.int x), .val (.int (Int32.ofNat I)), .val (.long (Int64.ofNat A)), .second, .val (.int (Int32.ofNat (A / 64))), .val (.int (Int32.ofNat (A % 64)))] [])
            refine own_iload (pc' := 124) X70 hx (hb hby own_d1_122) rfl rfl ?_
            refine own_aloadN (pc' := 125) X70 hx (hb hby own_d1_124) rfl rfl rfl ?_
            have f72 := (F3.other W70 (Or.inl ne42))
            obtain ⟨T73, X73, e73, st73⟩ := getF X70 hx hZ hown (host := "") (Or.inl (own_w19 hw)) Via.refl e70 f72 (g := (mkF m 125 #[.val (.ref a), .val (.ref b), .val (.int (Int32.ofNat cN)), .val (.int x), .val (.int (Int32.ofNat I)), .val (.long (Int64.ofNat A)), .second, .val (.int (Int32.ofNat (A / 64))), .val (.int (Int32.ofNat (A % 64)))] [(.ref a), (.int (Int32.ofNat (A % 64)))])) rfl rfl (hb hby own_d1_125)
            refine own_go st73 ?_
            show own_Ends prg e below s _ _ _ T73 (mkF m 128 #[.val (.ref a), .val (.ref b), .val (.int (Int32.ofNat cN)), .val (.int x), .val (.int (Int32.ofNat I)), .val (.long (Int64.ofNat A)), .second, .val (.int (Int32.ofNat (A / 64))), .val (.int (Int32.ofNat (A % 64)))] [(.int (Int32.ofNat w)), (.int (Int32.ofNat (A % 64)))])
            refine own_iadd (pc' := 129) (z := ((Int32.ofNat (A % 64)) + (Int32.ofNat w))) X73 hx (hb hby own_d1_128) rfl rfl ?_
            refine own_bipush (pc' := 131) (z := (64 : Int32)) X73 hx (hb hby own_d1_129) rfl rfl ?_
            by_cases hc131_74 : (64 : Int32) < ((Int32.ofNat (A % 64)) + (Int32.ofNat w))
            · refine own_icmpNo (pc' := 134) X73 hx (hb hby own_d1_131) rfl (tlt hc131_74).2.2.2 ?_
              have hf : ¬ A % 64 + w ≤ 64 := by have := (own_sum (A % 64) (by omega) w (by omega)).mp hc131_74; omega
              refine own_aloadN (pc' := 135) X73 hx (hb hby own_d1_134) rfl rfl rfl ?_
              have f75 := (F2.other W70 (Or.inl ne42))
              obtain ⟨T76, X76, e76, st76⟩ := getF X73 hx hZ hown (host := "") (Or.inl (own_w23 hw)) Via.refl e73 f75 (g := (mkF m 135 #[.val (.ref a), .val (.ref b), .val (.int (Int32.ofNat cN)), .val (.int x), .val (.int (Int32.ofNat I)), .val (.long (Int64.ofNat A)), .second, .val (.int (Int32.ofNat (A / 64))), .val (.int (Int32.ofNat (A % 64)))] [(.ref a)])) rfl rfl (hb hby own_d1_135)
              refine own_go st76 ?_
              show own_Ends prg e below s _ _ _ T76 (mkF m 138 #[.val (.ref a), .val (.ref b), .val (.int (Int32.ofNat cN)), .val (.int x), .val (.int (Int32.ofNat I)), .val (.long (Int64.ofNat A)), .second, .val (.int (Int32.ofNat (A / 64))), .val (.int (Int32.ofNat (A % 64)))] [(.ref a36)])
              refine own_iload (pc' := 140) X76 hx (hb hby own_d1_138) rfl rfl ?_
              refine own_iconst (pc' := 141) (z := (1 : Int32)) X76 hx (hb hby own_d1_140) rfl rfl ?_
              refine own_iadd (pc' := 142) (z := (Int32.ofNat (A / 64 + 1))) X76 hx (hb hby own_d1_141) rfl (own_inc _ (by omega)) ?_
              refine own_dup2 (pc' := 143) X76 hx (hb hby own_d1_142) rfl rfl rfl ?_
              refine own_laload (pc' := 144) (v := (.long (W71.getD (A / 64 + 1) 0))) X76 hx hZ e76 V70 (hb hby own_d1_143) rfl (own_in (by omega) (by omega)) (by rw [(own_cl (A / 64 + 1) (by omega)).1]; exact own_mapL W71 _) ?_
              refine own_aloadN (pc' := 145) X76 hx (hb hby own_d1_144) rfl rfl rfl ?_
              refine own_iload (pc' := 147) X76 hx (hb hby own_d1_145) rfl rfl ?_
              have f77 := (Vb.other W70 ne44)
              refine own_iaload (pc' := 148) (v := (.int (X.getD I 0))) X76 hx hZ e76 f77 (hb hby own_d1_147) rfl (own_in (n := 72) (by omega) (by decide)) (by rw [(own_cl I (by omega)).1]; exact own_mapI X _) ?_
              refine own_i2l (pc' := 149) (z := (X.getD I 0).toInt64) X76 hx (hb hby own_d1_148) rfl rfl ?_
              refine own_bipush (pc' := 151) (z := (64 : Int32)) X76 hx (hb hby own_d1_149) rfl rfl ?_
              refine own_iload (pc' := 153) X76 hx (hb hby own_d1_151) rfl rfl ?_
              refine own_isub (pc' := 154) (z := (Int32.ofNat (64 - A % 64))) X76 hx (hb hby own_d1_153) rfl (own_sub64 _ (by omega)) ?_
              refine own_lushr (pc' := 155) (z := (own_ushrL (X.getD I 0).toInt64 (Int32.ofNat (64 - A % 64)))) X76 hx (hb hby own_d1_154) rfl rfl ?_
              refine own_lor (pc' := 156) (z := ((W71.getD (A / 64 + 1) 0) ||| (own_ushrL (X.getD I 0).toInt64 (Int32.ofNat (64 - A % 64))))) X76 hx (hb hby own_d1_155) rfl rfl ?_
              refine own_lastore (pc' := 157) X76 hx hZ e76 V70 (hb hby own_d1_156) rfl (own_in (by omega) (by omega)) (A / 64 + 1) (own_cl _ (by omega)).1 (by rw [List.length_map]; omega) N70 ge38 ?_
              intro T78 h78 L78 X78 e78 N78 W78 V78
              rw [own_setL] at V78
              obtain ⟨W79, hW79⟩ : ∃ z, z = W71.set (A / 64 + 1) ((W71.getD (A / 64 + 1) 0) ||| (own_ushrL (X.getD I 0).toInt64 (Int32.ofNat (64 - A % 64)))) := ⟨_, rfl⟩
              rw [← hW79] at V78
              have lW79 : W79.length = 35 := by rw [hW79, List.length_set]; exact lW71
              show own_Ends prg e below s _ _ _ T78 (mkF m 157 #[.val (.ref a), .val (.ref b), .val (.int (Int32.ofNat cN)), .val (.int x), .val (.int (Int32.ofNat I)), .val (.long (Int64.ofNat A)), .second, .val (.int (Int32.ofNat (A / 64))), .val (.int (Int32.ofNat (A % 64)))] [])
              refine own_iinc (pc' := 160) (z := (Int32.ofNat (I + 1))) (l' := #[.val (.ref a), .val (.ref b), .val (.int (Int32.ofNat cN)), .val (.int x), .val (.int (Int32.ofNat (I + 1))), .val (.long (Int64.ofNat A)), .second, .val (.int (Int32.ofNat (A / 64))), .val (.int (Int32.ofNat (A % 64)))]) X78 hx (hb hby own_d1_157) rfl rfl (own_inc I (by omega)) rfl ?_
              refine own_goto (pc' := 71) X78 hx (hb hby own_d1_160) (by decide) (by decide) ?_
              have f80 := (f75.other W78 (Or.inl ne42))
              have f81 := (f72.other W78 (Or.inl ne42))
              have f82 := (f77.other W78 ne44)
              have f83 := ((KL.wr W70 (Or.inr sz40)).wr W78 (Or.inr sz40))
              exact ih (I + 1) _ _ _ _ W79 T78 h78 _ (by omega) (Or.inr ⟨_, _, _, rfl, rfl, rfl, rfl⟩) X78 e78 N78 f83 f80 f81 f82 V78 lW79 (by rw [hW79]; exact own_invS hw1 hinv hvI (fun B => by rw [← hA]; exact own_put2 hw1 hw31 hvI (by omega) hf hW71 B))
            · refine own_icmpYes (pc' := 157) X73 hx (hb hby own_d1_131) (flt hc131_74).2.2.2 (by decide) (by decide) ?_
              have hf : A % 64 + w ≤ 64 := by have := mt (own_sum (A % 64) (by omega) w (by omega)).mpr hc131_74; omega
              refine own_iinc (pc' := 160) (z := (Int32.ofNat (I + 1))) (l' := #[.val (.ref a), .val (.ref b), .val (.int (Int32.ofNat cN)), .val (.int x), .val (.int (Int32.ofNat (I + 1))), .val (.long (Int64.ofNat A)), .second, .val (.int (Int32.ofNat (A / 64))), .val (.int (Int32.ofNat (A % 64)))]) X73 hx (hb hby own_d1_157) rfl rfl (own_inc I (by omega)) rfl ?_
              refine own_goto (pc' := 71) X73 hx (hb hby own_d1_160) (by decide) (by decide) ?_
              have f84 := (F2.other W70 (Or.inl ne42))
              have f85 := (Vb.other W70 ne44)
              have f86 := (KL.wr W70 (Or.inr sz40))
              exact ih (I + 1) _ _ _ _ W71 T73 h70 _ (by omega) (Or.inr ⟨_, _, _, rfl, rfl, rfl, rfl⟩) X73 e73 N70 f86 f84 f72 f85 V70 lW71 (by rw [hW71]; exact own_invS hw1 hinv hvI (fun B => by rw [← hA]; exact own_put1 hw1 hw31 hvI (by omega) hf B))
      have f87 := ((Fw34.ext E36).other W48 (Or.inr (slot_ne (Or.inr (own_w20 hw)) (Or.inr (own_w24 hw)) (by decide) (t := .int) (t' := (.array .long)) (by decide) (by decide))))
      have f88 := ((f43.ext E36).other W48 (Ne.symm nab))
      have f89 := (Vw45.other W48 (Ne.symm ne42))
      have f90 := ((f39.ext E36).wr W48 (Or.inl (List.mem_of_getElem? (i := 0) rfl)))
      exact loop2 cN 0 _ _ _ _ _ T48 h48 _ (by omega) (Or.inl ⟨rfl, rfl, rfl, rfl⟩) (by rw [hcI]; exact X48) e48 N48 f90 Fw48 f87 f88 f89 (List.length_replicate ..) (own_inv0 X w)
    | succ n ih =>
      intro I x TL Lo hI XL eL NL hbq
      refine own_iload (pc' := 11) XL hx (hb hby own_d1_9) rfl rfl ?_
      refine own_iloadN (pc' := 12) XL hx (hb hby own_d1_11) rfl rfl ?_
      refine own_icmpNo (pc' := 15) XL hx (hb hby own_d1_12) rfl (tlt ((own_ltN I (by omega) cN (by omega)).mpr (by omega))).2.1 ?_
      refine own_iloadN (pc' := 16) XL hx (hb hby own_d1_15) rfl rfl ?_
      refine own_aloadN (pc' := 17) XL hx (hb hby own_d1_16) rfl rfl rfl ?_
      refine own_iload (pc' := 19) XL hx (hb hby own_d1_17) rfl rfl ?_
      refine own_iaload (pc' := 20) (v := (.int (X.getD I 0))) XL hx hZ eL V0 (hb hby own_d1_19) rfl (own_in (n := 72) (by omega) (by decide)) (by rw [(own_cl I (by omega)).1]; exact own_mapI X _) ?_
      refine own_ior (pc' := 21) (z := (x ||| (X.getD I 0))) XL hx (hb hby own_d1_20) rfl rfl ?_
      refine own_istoreN (pc' := 22) (l' := #[.val (.ref a), .val (.ref b), .val (.int (Int32.ofNat cN)), .val (.int (x ||| (X.getD I 0))), .val (.int (Int32.ofNat I)), .unset, .unset, .unset, .unset]) XL hx (hb hby own_d1_21) rfl rfl ?_
      refine own_iinc (pc' := 25) (z := (Int32.ofNat (I + 1))) (l' := #[.val (.ref a), .val (.ref b), .val (.int (Int32.ofNat cN)), .val (.int (x ||| (X.getD I 0))), .val (.int (Int32.ofNat (I + 1))), .unset, .unset, .unset, .unset]) XL hx (hb hby own_d1_22) rfl rfl (own_inc I (by omega)) rfl ?_
      refine own_goto (pc' := 9) XL hx (hb hby own_d1_25) (by decide) (by decide) ?_
      exact ih (I + 1) _ TL _ (by omega) XL eL NL (own_bbS hbq (hX I))
  exact loop1 cN 0 0 T31 _ (by omega) X31 e31 N0 (own_bb0 X)
def own_room5 : Room := { frames := 0, cells := 0, slots := 0, locals := 0 }
def own_Q5 (Z : State) (a : Addr) (wa : Addr) (wk : ClassId) (w : Nat) (N : Nat) (W : List Int64) (X : List Int32) (cN : Nat) (I : Nat) (h0 : Heap) (n0 : Nat) (v : Option Value) (h : Heap) (L : List Loc) : Prop := v = some (.int (X.getD I 0)) ∧ Fr n0 L ∧ h = h0
theorem own_ef_rm5 (m : MethodId) (x0 : Addr) (x1 : Int32) : entryFrame m #[(.ref x0), (.int x1)] 8 = mkF m 0 #[.val (.ref x0), .val (.int x1), .unset, .unset, .unset, .unset, .unset, .unset] [] := by first | (simp [entryFrame, mkF, argsToLocals, Value.category]; done) | rfl
set_option maxRecDepth 65536 in
set_option maxHeartbeats 40000000 in
theorem own_rm5 (lch : Launch) (Z : State) (a0 : Array Value) (hw : ∀ d ∈ tables_1, d.before a0 Z = true) (ws : List Jvm.Cond) (a : Addr) (wa : Addr) (wk : ClassId) (w : Nat) (N : Nat) (W : List Int64) (X : List Int32) (cN : Nat) (I : Nat) (h0 : Heap) (n0 : Nat) (F0 : Fld Z h0 a "com/example/evenhand/evenhand/rounding/PackedInts" "words" "[J" (.ref wa)) (F1 : Fld Z h0 a "com/example/evenhand/evenhand/rounding/PackedInts" "width" "I" (.int (Int32.ofNat w))) (V0 : Arv Z h0 wa wk .long (Int32.ofNat N) (W.map Value.long) (.long (0 : Int64))) (hpk : own_pk X cN w N W) (hI : I < cN) (hc : cN ≤ 72) :
    MetFree lch (⟨"com/example/evenhand/evenhand/rounding/PackedInts", "get", "(I)I"⟩ : MethodName) (head1 (Jvm.Cond.code (⟨"com/example/evenhand/evenhand/rounding/PackedInts", "get", "(I)I"⟩ : MethodName) prog_56_method_2_code 8 (some .int) :: ws) own_room5) (fun zz U => zz = #[(.ref a), (.int (Int32.ofNat I))] ∧ Z.Warmed39 U.vm ∧ U.heap = h0) (fun _ _ _ _ _ => True) (fun _ U o U' => ∃ v L, o = .returned v ∧ own_Q5 Z a wa wk w N W X cN I h0 n0 v U'.heap L ∧ FrameEnd U o U' L own_room5.cells own_room5.slots) := by
  refine MetFree.of_bodySF (plainFor_of_name own_pn1) hisR ?_
  intro prg e s m args below meth c s₁ Bd hml0 hP hK
  obtain ⟨rfl, hZ, hh⟩ := hP
  have hx := Bd.exec
  have hby := Bd.bytes
  have hml : c.maxLocals = 8 := hml0
  have hown : s.vm.findClass "com/example/evenhand/evenhand/rounding/PackedInts" = some m.cls := findClass_of_methodNamed Bd.named
  have hnm := (name_of_methodNamed Bd.named Bd.method).1
  have hlk : meth.locks = false := BodyLoose.notSynchronized Bd
  have hret := Bd.returns
  have X0 : Stand prg lch e own_room5 s m #[(.ref a), (.int (Int32.ofNat I))] below meth c s₁ [] 0 0 := Stand.of_body Bd
  have e0 : s₁.heap = h0 := by rw [← hh, Bd.state]; rfl
  have N0 := Fr.nil n0
  show own_Ends prg e below s (own_Q5 Z a wa wk w N W X cN I h0 n0) own_room5.cells own_room5.slots s₁ (entryFrame m #[(.ref a), (.int (Int32.ofNat I))] 8)
  refine own_cast (own_ef_rm5 m a (Int32.ofNat I)) ?_
  obtain ⟨hw1, hw31, hN, lW, hinv, hv⟩ := hpk
  obtain ⟨A, hA⟩ : ∃ z, z = I * w := ⟨_, rfl⟩
  have hAw := own_Aw (w := w) hI
  rw [← hA] at hAw
  have hcw := own_cw hc hw31
  have hA4 : A < 2304 := by omega
  have hvI := hv I hI
  refine own_iloadN (pc' := 1) X0 hx (hb hby own_d5_0) rfl rfl ?_
  refine own_i2l (pc' := 2) (z := (Int32.ofNat I).toInt64) X0 hx (hb hby own_d5_1) rfl rfl ?_
  refine own_aloadN (pc' := 3) X0 hx (hb hby own_d5_2) rfl rfl rfl ?_
  obtain ⟨T31, X31, e31, st31⟩ := getF X0 hx hZ hown (host := "") (Or.inl (own_w19 hw)) Via.refl e0 F1 (g := (mkF m 3 #[.val (.ref a), .val (.int (Int32.ofNat I)), .unset, .unset, .unset, .unset, .unset, .unset] [(.ref a), (.long (Int32.ofNat I).toInt64)])) rfl rfl (hb hby own_d5_3)
  refine own_go st31 ?_
  show own_Ends prg e below s _ _ _ T31 (mkF m 6 #[.val (.ref a), .val (.int (Int32.ofNat I)), .unset, .unset, .unset, .unset, .unset, .unset] [(.int (Int32.ofNat w)), (.long (Int32.ofNat I).toInt64)])
  refine own_i2l (pc' := 7) (z := (Int32.ofNat w).toInt64) X31 hx (hb hby own_d5_6) rfl rfl ?_
  refine own_lmul (pc' := 8) (z := (Int64.ofNat A)) X31 hx (hb hby own_d5_7) rfl (by rw [hA]; exact own_mulN I (by omega) w (by omega)) ?_
  refine own_lstoreN (pc' := 9) (l' := #[.val (.ref a), .val (.int (Int32.ofNat I)), .val (.long (Int64.ofNat A)), .second, .unset, .unset, .unset, .unset]) X31 hx (hb hby own_d5_8) rfl rfl ?_
  refine own_lloadN (pc' := 10) X31 hx (hb hby own_d5_9) rfl rfl ?_
  refine own_bipush (pc' := 12) (z := (6 : Int32)) X31 hx (hb hby own_d5_10) rfl rfl ?_
  refine own_lushr (pc' := 13) (z := (own_ushrL (Int64.ofNat A) (6 : Int32))) X31 hx (hb hby own_d5_12) rfl rfl ?_
  refine own_l2i (pc' := 14) (z := (Int32.ofNat (A / 64))) X31 hx (hb hby own_d5_13) rfl (own_pos A hA4).1 ?_
  refine own_istore (pc' := 16) (l' := #[.val (.ref a), .val (.int (Int32.ofNat I)), .val (.long (Int64.ofNat A)), .second, .val (.int (Int32.ofNat (A / 64))), .unset, .unset, .unset]) X31 hx (hb hby own_d5_14) rfl rfl ?_
  refine own_lloadN (pc' := 17) X31 hx (hb hby own_d5_16) rfl rfl ?_
  refine own_l2i (pc' := 18) (z := (Int64.ofNat A).toInt32) X31 hx (hb hby own_d5_17) rfl rfl ?_
  refine own_bipush (pc' := 20) (z := (63 : Int32)) X31 hx (hb hby own_d5_18) rfl rfl ?_
  refine own_iand (pc' := 21) (z := (Int32.ofNat (A % 64))) X31 hx (hb hby own_d5_20) rfl (own_pos A hA4).2.1 ?_
  refine own_istore (pc' := 23) (l' := #[.val (.ref a), .val (.int (Int32.ofNat I)), .val (.long (Int64.ofNat A)), .second, .val (.int (Int32.ofNat (A / 64))), .val (.int (Int32.ofNat (A % 64))), .unset, .unset]) X31 hx (hb hby own_d5_21) rfl rfl ?_
  refine own_aloadN (pc' := 24) X31 hx (hb hby own_d5_23) rfl rfl rfl ?_
  obtain ⟨T32, X32, e32, st32⟩ := getF X31 hx hZ hown (host := "") (Or.inl (own_w23 hw)) Via.refl e31 F0 (g := (mkF m 24 #[.val (.ref a), .val (.int (Int32.ofNat I)), .val (.long (Int64.ofNat A)), .second, .val (.int (Int32.ofNat (A / 64))), .val (.int (Int32.ofNat (A % 64))), .unset, .unset] [(.ref a)])) rfl rfl (hb hby own_d5_24)
  refine own_go st32 ?_
  show own_Ends prg e below s _ _ _ T32 (mkF m 27 #[.val (.ref a), .val (.int (Int32.ofNat I)), .val (.long (Int64.ofNat A)), .second, .val (.int (Int32.ofNat (A / 64))), .val (.int (Int32.ofNat (A % 64))), .unset, .unset] [(.ref wa)])
  refine own_iload (pc' := 29) X32 hx (hb hby own_d5_27) rfl rfl ?_
  refine own_laload (pc' := 30) (v := (.long (W.getD (A / 64) 0))) X32 hx hZ e32 V0 (hb hby own_d5_29) rfl (own_in (by omega) (by omega)) (by rw [(own_cl (A / 64) (by omega)).1]; exact own_mapL W _) ?_
  refine own_iload (pc' := 32) X32 hx (hb hby own_d5_30) rfl rfl ?_
  refine own_lushr (pc' := 33) (z := (own_ushrL (W.getD (A / 64) 0) (Int32.ofNat (A % 64)))) X32 hx (hb hby own_d5_32) rfl rfl ?_
  refine own_lstore (pc' := 35) (l' := #[.val (.ref a), .val (.int (Int32.ofNat I)), .val (.long (Int64.ofNat A)), .second, .val (.int (Int32.ofNat (A / 64))), .val (.int (Int32.ofNat (A % 64))), .val (.long (own_ushrL (W.getD (A / 64) 0) (Int32.ofNat (A % 64)))), .second]) X32 hx (hb hby own_d5_33) rfl rfl ?_
  refine own_iload (pc' := 37) X32 hx (hb hby own_d5_35) rfl rfl ?_
  refine own_aloadN (pc' := 38) X32 hx (hb hby own_d5_37) rfl rfl rfl ?_
  obtain ⟨T33, X33, e33, st33⟩ := getF X32 hx hZ hown (host := "") (Or.inl (own_w19 hw)) Via.refl e32 F1 (g := (mkF m 38 #[.val (.ref a), .val (.int (Int32.ofNat I)), .val (.long (Int64.ofNat A)), .second, .val (.int (Int32.ofNat (A / 64))), .val (.int (Int32.ofNat (A % 64))), .val (.long (own_ushrL (W.getD (A / 64) 0) (Int32.ofNat (A % 64)))), .second] [(.ref a), (.int (Int32.ofNat (A % 64)))])) rfl rfl (hb hby own_d5_38)
  refine own_go st33 ?_
  show own_Ends prg e below s _ _ _ T33 (mkF m 41 #[.val (.ref a), .val (.int (Int32.ofNat I)), .val (.long (Int64.ofNat A)), .second, .val (.int (Int32.ofNat (A / 64))), .val (.int (Int32.ofNat (A % 64))), .val (.long (own_ushrL (W.getD (A / 64) 0) (Int32.ofNat (A % 64)))), .second] [(.int (Int32.ofNat w)), (.int (Int32.ofNat (A % 64)))])
  refine own_iadd (pc' := 42) (z := ((Int32.ofNat (A % 64)) + (Int32.ofNat w))) X33 hx (hb hby own_d5_41) rfl rfl ?_
  refine own_bipush (pc' := 44) (z := (64 : Int32)) X33 hx (hb hby own_d5_42) rfl rfl ?_
  by_cases hc44_34 : (64 : Int32) < ((Int32.ofNat (A % 64)) + (Int32.ofNat w))
  · refine own_icmpNo (pc' := 47) X33 hx (hb hby own_d5_44) rfl (tlt hc44_34).2.2.2 ?_
    have hf : ¬ A % 64 + w ≤ 64 := by have := (own_sum (A % 64) (by omega) w (by omega)).mp hc44_34; omega
    refine own_lload (pc' := 49) X33 hx (hb hby own_d5_47) rfl rfl ?_
    refine own_aloadN (pc' := 50) X33 hx (hb hby own_d5_49) rfl rfl rfl ?_
    obtain ⟨T35, X35, e35, st35⟩ := getF X33 hx hZ hown (host := "") (Or.inl (own_w23 hw)) Via.refl e33 F0 (g := (mkF m 50 #[.val (.ref a), .val (.int (Int32.ofNat I)), .val (.long (Int64.ofNat A)), .second, .val (.int (Int32.ofNat (A / 64))), .val (.int (Int32.ofNat (A % 64))), .val (.long (own_ushrL (W.getD (A / 64) 0) (Int32.ofNat (A % 64)))), .second] [(.ref a), (.long (own_ushrL (W.getD (A / 64) 0) (Int32.ofNat (A % 64))))])) rfl rfl (hb hby own_d5_50)
    refine own_go st35 ?_
    show own_Ends prg e below s _ _ _ T35 (mkF m 53 #[.val (.ref a), .val (.int (Int32.ofNat I)), .val (.long (Int64.ofNat A)), .second, .val (.int (Int32.ofNat (A / 64))), .val (.int (Int32.ofNat (A % 64))), .val (.long (own_ushrL (W.getD (A / 64) 0) (Int32.ofNat (A % 64)))), .second] [(.ref wa), (.long (own_ushrL (W.getD (A / 64) 0) (Int32.ofNat (A % 64))))])
    refine own_iload (pc' := 55) X35 hx (hb hby own_d5_53) rfl rfl ?_
    refine own_iconst (pc' := 56) (z := (1 : Int32)) X35 hx (hb hby own_d5_55) rfl rfl ?_
    refine own_iadd (pc' := 57) (z := (Int32.ofNat (A / 64 + 1))) X35 hx (hb hby own_d5_56) rfl (own_inc _ (by omega)) ?_
    refine own_laload (pc' := 58) (v := (.long (W.getD (A / 64 + 1) 0))) X35 hx hZ e35 V0 (hb hby own_d5_57) rfl (own_in (by omega) (by omega)) (by rw [(own_cl (A / 64 + 1) (by omega)).1]; exact own_mapL W _) ?_
    refine own_bipush (pc' := 60) (z := (64 : Int32)) X35 hx (hb hby own_d5_58) rfl rfl ?_
    refine own_iload (pc' := 62) X35 hx (hb hby own_d5_60) rfl rfl ?_
    refine own_isub (pc' := 63) (z := (Int32.ofNat (64 - A % 64))) X35 hx (hb hby own_d5_62) rfl (own_sub64 _ (by omega)) ?_
    refine own_lshl (pc' := 64) (z := ((W.getD (A / 64 + 1) 0) <<< ((Int32.ofNat (64 - A % 64)) &&& 0x3f).toInt64)) X35 hx (hb hby own_d5_63) rfl rfl ?_
    refine own_lor (pc' := 65) (z := ((own_ushrL (W.getD (A / 64) 0) (Int32.ofNat (A % 64))) ||| ((W.getD (A / 64 + 1) 0) <<< ((Int32.ofNat (64 - A % 64)) &&& 0x3f).toInt64))) X35 hx (hb hby own_d5_64) rfl rfl ?_
    refine own_lstore (pc' := 67) (l' := #[.val (.ref a), .val (.int (Int32.ofNat I)), .val (.long (Int64.ofNat A)), .second, .val (.int (Int32.ofNat (A / 64))), .val (.int (Int32.ofNat (A % 64))), .val (.long ((own_ushrL (W.getD (A / 64) 0) (Int32.ofNat (A % 64))) ||| ((W.getD (A / 64 + 1) 0) <<< ((Int32.ofNat (64 - A % 64)) &&& 0x3f).toInt64))), .second]) X35 hx (hb hby own_d5_65) rfl rfl ?_
    refine own_lload (pc' := 69) X35 hx (hb hby own_d5_67) rfl rfl ?_
    refine own_l2i (pc' := 70) (z := ((own_ushrL (W.getD (A / 64) 0) (Int32.ofNat (A % 64))) ||| ((W.getD (A / 64 + 1) 0) <<< ((Int32.ofNat (64 - A % 64)) &&& 0x3f).toInt64)).toInt32) X35 hx (hb hby own_d5_69) rfl rfl ?_
    refine own_lconst (pc' := 71) (z := (1 : Int64)) X35 hx (hb hby own_d5_70) rfl rfl ?_
    refine own_aloadN (pc' := 72) X35 hx (hb hby own_d5_71) rfl rfl rfl ?_
    obtain ⟨T36, X36, e36, st36⟩ := getF X35 hx hZ hown (host := "") (Or.inl (own_w19 hw)) Via.refl e35 F1 (g := (mkF m 72 #[.val (.ref a), .val (.int (Int32.ofNat I)), .val (.long (Int64.ofNat A)), .second, .val (.int (Int32.ofNat (A / 64))), .val (.int (Int32.ofNat (A % 64))), .val (.long ((own_ushrL (W.getD (A / 64) 0) (Int32.ofNat (A % 64))) ||| ((W.getD (A / 64 + 1) 0) <<< ((Int32.ofNat (64 - A % 64)) &&& 0x3f).toInt64))), .second] [(.ref a), (.long (1 : Int64)), (.int ((own_ushrL (W.getD (A / 64) 0) (Int32.ofNat (A % 64))) ||| ((W.getD (A / 64 + 1) 0) <<< ((Int32.ofNat (64 - A % 64)) &&& 0x3f).toInt64)).toInt32)])) rfl rfl (hb hby own_d5_72)
    refine own_go st36 ?_
    show own_Ends prg e below s _ _ _ T36 (mkF m 75 #[.val (.ref a), .val (.int (Int32.ofNat I)), .val (.long (Int64.ofNat A)), .second, .val (.int (Int32.ofNat (A / 64))), .val (.int (Int32.ofNat (A % 64))), .val (.long ((own_ushrL (W.getD (A / 64) 0) (Int32.ofNat (A % 64))) ||| ((W.getD (A / 64 + 1) 0) <<< ((Int32.ofNat (64 - A % 64)) &&& 0x3f).toInt64))), .second] [(.int (Int32.ofNat w)), (.long (1 : Int64)), (.int ((own_ushrL (W.getD (A / 64) 0) (Int32.ofNat (A % 64))) ||| ((W.getD (A / 64 + 1) 0) <<< ((Int32.ofNat (64 - A % 64)) &&& 0x3f).toInt64)).toInt32)])
    refine own_lshl (pc' := 76) (z := ((1 : Int64) <<< ((Int32.ofNat w) &&& 0x3f).toInt64)) X36 hx (hb hby own_d5_75) rfl rfl ?_
    refine own_lconst (pc' := 77) (z := (1 : Int64)) X36 hx (hb hby own_d5_76) rfl rfl ?_
    refine own_lsub (pc' := 78) (z := (((1 : Int64) <<< ((Int32.ofNat w) &&& 0x3f).toInt64) - (1 : Int64))) X36 hx (hb hby own_d5_77) rfl rfl ?_
    refine own_l2i (pc' := 79) (z := (((1 : Int64) <<< ((Int32.ofNat w) &&& 0x3f).toInt64) - (1 : Int64)).toInt32) X36 hx (hb hby own_d5_78) rfl rfl ?_
    refine own_iand (pc' := 80) (z := (((own_ushrL (W.getD (A / 64) 0) (Int32.ofNat (A % 64))) ||| ((W.getD (A / 64 + 1) 0) <<< ((Int32.ofNat (64 - A % 64)) &&& 0x3f).toInt64)).toInt32 &&& (((1 : Int64) <<< ((Int32.ofNat w) &&& 0x3f).toInt64) - (1 : Int64)).toInt32)) X36 hx (hb hby own_d5_79) rfl rfl ?_
    refine own_retI X36 hx hlk hret (hb hby own_d5_80) (by decide) (by decide) ?_
    exact ⟨own_some (own_get2 hA hw1 hw31 hinv hI hvI hf), N0, e36⟩
  · refine own_icmpYes (pc' := 67) X33 hx (hb hby own_d5_44) (flt hc44_34).2.2.2 (by decide) (by decide) ?_
    have hf : A % 64 + w ≤ 64 := by have := mt (own_sum (A % 64) (by omega) w (by omega)).mpr hc44_34; omega
    refine own_lload (pc' := 69) X33 hx (hb hby own_d5_67) rfl rfl ?_
    refine own_l2i (pc' := 70) (z := (own_ushrL (W.getD (A / 64) 0) (Int32.ofNat (A % 64))).toInt32) X33 hx (hb hby own_d5_69) rfl rfl ?_
    refine own_lconst (pc' := 71) (z := (1 : Int64)) X33 hx (hb hby own_d5_70) rfl rfl ?_
    refine own_aloadN (pc' := 72) X33 hx (hb hby own_d5_71) rfl rfl rfl ?_
    obtain ⟨T37, X37, e37, st37⟩ := getF X33 hx hZ hown (host := "") (Or.inl (own_w19 hw)) Via.refl e33 F1 (g := (mkF m 72 #[.val (.ref a), .val (.int (Int32.ofNat I)), .val (.long (Int64.ofNat A)), .second, .val (.int (Int32.ofNat (A / 64))), .val (.int (Int32.ofNat (A % 64))), .val (.long (own_ushrL (W.getD (A / 64) 0) (Int32.ofNat (A % 64)))), .second] [(.ref a), (.long (1 : Int64)), (.int (own_ushrL (W.getD (A / 64) 0) (Int32.ofNat (A % 64))).toInt32)])) rfl rfl (hb hby own_d5_72)
    refine own_go st37 ?_
    show own_Ends prg e below s _ _ _ T37 (mkF m 75 #[.val (.ref a), .val (.int (Int32.ofNat I)), .val (.long (Int64.ofNat A)), .second, .val (.int (Int32.ofNat (A / 64))), .val (.int (Int32.ofNat (A % 64))), .val (.long (own_ushrL (W.getD (A / 64) 0) (Int32.ofNat (A % 64)))), .second] [(.int (Int32.ofNat w)), (.long (1 : Int64)), (.int (own_ushrL (W.getD (A / 64) 0) (Int32.ofNat (A % 64))).toInt32)])
    refine own_lshl (pc' := 76) (z := ((1 : Int64) <<< ((Int32.ofNat w) &&& 0x3f).toInt64)) X37 hx (hb hby own_d5_75) rfl rfl ?_
    refine own_lconst (pc' := 77) (z := (1 : Int64)) X37 hx (hb hby own_d5_76) rfl rfl ?_
    refine own_lsub (pc' := 78) (z := (((1 : Int64) <<< ((Int32.ofNat w) &&& 0x3f).toInt64) - (1 : Int64))) X37 hx (hb hby own_d5_77) rfl rfl ?_
    refine own_l2i (pc' := 79) (z := (((1 : Int64) <<< ((Int32.ofNat w) &&& 0x3f).toInt64) - (1 : Int64)).toInt32) X37 hx (hb hby own_d5_78) rfl rfl ?_
    refine own_iand (pc' := 80) (z := ((own_ushrL (W.getD (A / 64) 0) (Int32.ofNat (A % 64))).toInt32 &&& (((1 : Int64) <<< ((Int32.ofNat w) &&& 0x3f).toInt64) - (1 : Int64)).toInt32)) X37 hx (hb hby own_d5_79) rfl rfl ?_
    refine own_retI X37 hx hlk hret (hb hby own_d5_80) (by decide) (by decide) ?_
    exact ⟨own_some (own_get1 hA hw1 hw31 hinv hI hvI hf), N0, e37⟩
def own_Q0 (Z : State) (p0 : Int32) (p1 : Int32) (p2 : Int32) (p3 : Int32) (p4 : Int32) (p5 : Int32) (h0 : Heap) (n0 : Nat) (v : Option Value) (h : Heap) (L : List Loc) : Prop := v = some (.int 1) ∧ Fr n0 L
theorem own_ef_rm0 (m : MethodId) (x0 : Int32) (x1 : Int32) (x2 : Int32) (x3 : Int32) (x4 : Int32) (x5 : Int32) : entryFrame m #[(.int x0), (.int x1), (.int x2), (.int x3), (.int x4), (.int x5)] maxLocals = mkF m 0 #[.val (.int x0), .val (.int x1), .val (.int x2), .val (.int x3), .val (.int x4), .val (.int x5), .unset, .unset, .unset, .unset, .unset, .unset, .unset] [] := by first | (simp [entryFrame, mkF, argsToLocals, Value.category, maxLocals]; done) | rfl
set_option maxRecDepth 65536 in
set_option maxHeartbeats 40000000 in
theorem own_rm0 (lch : Launch) (Z : State) (a0 : Array Value) (hw : ∀ d ∈ tables_1, d.before a0 Z = true) (ws : List Jvm.Cond) (p0 : Int32) (p1 : Int32) (p2 : Int32) (p3 : Int32) (p4 : Int32) (p5 : Int32) (h0 : Heap) (n0 : Nat) (Z0 : n0 ≤ h0.size) :
    MetFree lch x (head1 (Jvm.Cond.code x code maxLocals ret :: ws) room_1) (fun zz U => zz = #[(.int p0), (.int p1), (.int p2), (.int p3), (.int p4), (.int p5)] ∧ Z.Warmed39 U.vm ∧ U.heap = h0) (fun _ _ _ _ _ => True) (fun _ U o U' => ∃ v L, o = .returned v ∧ own_Q0 Z p0 p1 p2 p3 p4 p5 h0 n0 v U'.heap L ∧ FrameEnd U o U' L 16 320) := by
  refine MetFree.of_bodySF (plainFor_of_name own_pn2) hisR ?_
  intro prg e s m args below meth c s₁ Bd hml0 hP hK
  obtain ⟨rfl, hZ, hh⟩ := hP
  have hx := Bd.exec
  have hby := Bd.bytes
  have hml : c.maxLocals = 13 := hml0
  have hown : s.vm.findClass "com/example/evenhand/evenhand/rounding/PackedIntsGetPinLaw" = some m.cls := findClass_of_methodNamed Bd.named
  have hnm := (name_of_methodNamed Bd.named Bd.method).1
  have hlk : meth.locks = false := BodyLoose.notSynchronized Bd
  have hret := Bd.returns
  have X0 : Stand prg lch e room_1 s m #[(.int p0), (.int p1), (.int p2), (.int p3), (.int p4), (.int p5)] below meth c s₁ [] 0 0 := Stand.of_body Bd
  have e0 : s₁.heap = h0 := by rw [← hh, Bd.state]; rfl
  have N0 := Fr.nil n0
  show own_Ends prg e below s (own_Q0 Z p0 p1 p2 p3 p4 p5 h0 n0) 16 320 s₁ (entryFrame m #[(.int p0), (.int p1), (.int p2), (.int p3), (.int p4), (.int p5)] maxLocals)
  refine own_cast (own_ef_rm0 m p0 p1 p2 p3 p4 p5) ?_
  refine own_bipush (pc' := 2) (z := (72 : Int32)) X0 hx (hb hby at_0) rfl rfl ?_
  refine own_newarr (pc' := 4) (aty := .int) X0 hx hZ (own_w0 hw) e0 (hb hby at_2) rfl (by decide) 72 72 (by decide) (by decide) (by decide) (by decide) ?_
  intro T31 h31 a31 k31 X31 e31 E31 g31 V31
  replace V31 : Arv Z h31 a31 k31 .int (72 : Int32) [(.int (0 : Int32)), (.int (0 : Int32)), (.int (0 : Int32)), (.int (0 : Int32)), (.int (0 : Int32)), (.int (0 : Int32)), (.int (0 : Int32)), (.int (0 : Int32)), (.int (0 : Int32)), (.int (0 : Int32)), (.int (0 : Int32)), (.int (0 : Int32)), (.int (0 : Int32)), (.int (0 : Int32)), (.int (0 : Int32)), (.int (0 : Int32)), (.int (0 : Int32)), (.int (0 : Int32)), (.int (0 : Int32)), (.int (0 : Int32)), (.int (0 : Int32)), (.int (0 : Int32)), (.int (0 : Int32)), (.int (0 : Int32)), (.int (0 : Int32)), (.int (0 : Int32)), (.int (0 : Int32)), (.int (0 : Int32)), (.int (0 : Int32)), (.int (0 : Int32)), (.int (0 : Int32)), (.int (0 : Int32)), (.int (0 : Int32)), (.int (0 : Int32)), (.int (0 : Int32)), (.int (0 : Int32)), (.int (0 : Int32)), (.int (0 : Int32)), (.int (0 : Int32)), (.int (0 : Int32)), (.int (0 : Int32)), (.int (0 : Int32)), (.int (0 : Int32)), (.int (0 : Int32)), (.int (0 : Int32)), (.int (0 : Int32)), (.int (0 : Int32)), (.int (0 : Int32)), (.int (0 : Int32)), (.int (0 : Int32)), (.int (0 : Int32)), (.int (0 : Int32)), (.int (0 : Int32)), (.int (0 : Int32)), (.int (0 : Int32)), (.int (0 : Int32)), (.int (0 : Int32)), (.int (0 : Int32)), (.int (0 : Int32)), (.int (0 : Int32)), (.int (0 : Int32)), (.int (0 : Int32)), (.int (0 : Int32)), (.int (0 : Int32)), (.int (0 : Int32)), (.int (0 : Int32)), (.int (0 : Int32)), (.int (0 : Int32)), (.int (0 : Int32)), (.int (0 : Int32)), (.int (0 : Int32)), (.int (0 : Int32))] (.int (0 : Int32)) := V31
  have ge32 : n0 ≤ a31 := by rw [g31]; exact Z0
  show own_Ends prg e below s _ _ _ T31 (mkF m 4 #[.val (.int p0), .val (.int p1), .val (.int p2), .val (.int p3), .val (.int p4), .val (.int p5), .unset, .unset, .unset, .unset, .unset, .unset, .unset] [(.ref a31)])
  have Vx33 : Arv Z h31 a31 k31 .int (72 : Int32) ((List.replicate 72 (0 : Int32)).map Value.int) (.int (0 : Int32)) := V31
  refine own_astore (pc' := 6) (l' := #[.val (.int p0), .val (.int p1), .val (.int p2), .val (.int p3), .val (.int p4), .val (.int p5), .val (.ref a31), .unset, .unset, .unset, .unset, .unset, .unset]) X31 hx (hb hby at_4) rfl rfl rfl ?_
  refine own_iloadN (pc' := 7) X31 hx (hb hby at_6) rfl rfl ?_
  refine own_ldcI (pc' := 9) X31 hx hZ hown (own_w1 hw) (hb hby at_7) rfl ?_
  refine own_iand (pc' := 10) (z := (p2 &&& (2147483647 : Int32))) X31 hx (hb hby at_9) rfl rfl ?_
  refine own_bipush (pc' := 12) (z := (72 : Int32)) X31 hx (hb hby at_10) rfl rfl ?_
  obtain ⟨z34, hz34⟩ : ∃ z, ((p2 &&& (2147483647 : Int32)) % (72 : Int32)) = z := ⟨_, rfl⟩
  refine own_irem (pc' := 13) (z := z34) X31 hx (hb hby at_12) rfl (by decide) hz34 ?_
  obtain ⟨ka, hka, qka⟩ := own_idx hz34
  rw [qka]
  show own_Ends prg e below s _ _ _ T31 (mkF m 13 #[.val (.int p0), .val (.int p1), .val (.int p2), .val (.int p3), .val (.int p4), .val (.int p5), .val (.ref a31), .unset, .unset, .unset, .unset, .unset, .unset] [(.int (Int32.ofNat ka))])
  refine own_istore (pc' := 15) (l' := #[.val (.int p0), .val (.int p1), .val (.int p2), .val (.int p3), .val (.int p4), .val (.int p5), .val (.ref a31), .val (.int (Int32.ofNat ka)), .unset, .unset, .unset, .unset, .unset]) X31 hx (hb hby at_13) rfl rfl ?_
  refine own_iloadN (pc' := 16) X31 hx (hb hby at_15) rfl rfl ?_
  refine own_ldcI (pc' := 18) X31 hx hZ hown (own_w1 hw) (hb hby at_16) rfl ?_
  refine own_iand (pc' := 19) (z := (p3 &&& (2147483647 : Int32))) X31 hx (hb hby at_18) rfl rfl ?_
  refine own_bipush (pc' := 21) (z := (72 : Int32)) X31 hx (hb hby at_19) rfl rfl ?_
  obtain ⟨z35, hz35⟩ : ∃ z, ((p3 &&& (2147483647 : Int32)) % (72 : Int32)) = z := ⟨_, rfl⟩
  refine own_irem (pc' := 22) (z := z35) X31 hx (hb hby at_21) rfl (by decide) hz35 ?_
  obtain ⟨kb, hkb, qkb⟩ := own_idx hz35
  rw [qkb]
  show own_Ends prg e below s _ _ _ T31 (mkF m 22 #[.val (.int p0), .val (.int p1), .val (.int p2), .val (.int p3), .val (.int p4), .val (.int p5), .val (.ref a31), .val (.int (Int32.ofNat ka)), .unset, .unset, .unset, .unset, .unset] [(.int (Int32.ofNat kb))])
  refine own_istore (pc' := 24) (l' := #[.val (.int p0), .val (.int p1), .val (.int p2), .val (.int p3), .val (.int p4), .val (.int p5), .val (.ref a31), .val (.int (Int32.ofNat ka)), .val (.int (Int32.ofNat kb)), .unset, .unset, .unset, .unset]) X31 hx (hb hby at_22) rfl rfl ?_
  refine own_aload (pc' := 26) X31 hx (hb hby at_24) rfl rfl rfl ?_
  refine own_iload (pc' := 28) X31 hx (hb hby at_26) rfl rfl ?_
  refine own_iloadN (pc' := 29) X31 hx (hb hby at_28) rfl rfl ?_
  refine own_ldcI (pc' := 31) X31 hx hZ hown (own_w1 hw) (hb hby at_29) rfl ?_
  obtain ⟨a36, ha36⟩ : ∃ z, (p0 &&& (2147483647 : Int32)) = z := ⟨_, rfl⟩
  refine own_iand (pc' := 32) (z := a36) X31 hx (hb hby at_31) rfl ha36 ?_
  refine own_iastore (pc' := 33) X31 hx hZ e31 Vx33 (hb hby at_32) rfl (own_in (n := 72) (by omega) (by decide)) ka (own_cl _ (by omega)).1 (by rw [List.length_map, List.length_replicate]; omega) N0 ge32 ?_
  intro T37 h37 L37 X37 e37 N37 W37 V37
  rw [own_setI] at V37
  obtain ⟨X1, eX1⟩ : ∃ z, z = (List.replicate 72 (0 : Int32)).set ka a36 := ⟨_, rfl⟩
  rw [← eX1] at V37
  have lX1 : X1.length = 72 := by rw [eX1, List.length_set]; exact List.length_replicate ..
  have nX1 : ∀ j, 0 ≤ (X1.getD j 0).toInt := by rw [eX1]; exact own_setn own_rep (by rw [← ha36]; exact own_and31 _)
  show own_Ends prg e below s _ _ _ T37 (mkF m 33 #[.val (.int p0), .val (.int p1), .val (.int p2), .val (.int p3), .val (.int p4), .val (.int p5), .val (.ref a31), .val (.int (Int32.ofNat ka)), .val (.int (Int32.ofNat kb)), .unset, .unset, .unset, .unset] [])
  refine own_aload (pc' := 35) X37 hx (hb hby at_33) rfl rfl rfl ?_
  refine own_iload (pc' := 37) X37 hx (hb hby at_35) rfl rfl ?_
  refine own_iloadN (pc' := 38) X37 hx (hb hby at_37) rfl rfl ?_
  refine own_ldcI (pc' := 40) X37 hx hZ hown (own_w1 hw) (hb hby at_38) rfl ?_
  obtain ⟨b38, hb38⟩ : ∃ z, (p1 &&& (2147483647 : Int32)) = z := ⟨_, rfl⟩
  refine own_iand (pc' := 41) (z := b38) X37 hx (hb hby at_40) rfl hb38 ?_
  refine own_iastore (pc' := 42) X37 hx hZ e37 V37 (hb hby at_41) rfl (own_in (n := 72) (by omega) (by decide)) kb (own_cl _ (by omega)).1 (by rw [List.length_map, lX1]; omega) N37 ge32 ?_
  intro T39 h39 L39 X39 e39 N39 W39 V39
  rw [own_setI] at V39
  obtain ⟨X2, eX2⟩ : ∃ z, z = X1.set kb b38 := ⟨_, rfl⟩
  rw [← eX2] at V39
  have lX2 : X2.length = 72 := by rw [eX2, List.length_set]; exact lX1
  have nX2 : ∀ j, 0 ≤ (X2.getD j 0).toInt := by rw [eX2]; exact own_setn nX1 (by rw [← hb38]; exact own_and31 _)
  show own_Ends prg e below s _ _ _ T39 (mkF m 42 #[.val (.int p0), .val (.int p1), .val (.int p2), .val (.int p3), .val (.int p4), .val (.int p5), .val (.ref a31), .val (.int (Int32.ofNat ka)), .val (.int (Int32.ofNat kb)), .unset, .unset, .unset, .unset] [])
  refine own_iload (pc' := 44) X39 hx (hb hby at_42) rfl rfl ?_
  refine own_ldcI (pc' := 46) X39 hx hZ hown (own_w1 hw) (hb hby at_44) rfl ?_
  refine own_iand (pc' := 47) (z := (p4 &&& (2147483647 : Int32))) X39 hx (hb hby at_46) rfl rfl ?_
  refine own_bipush (pc' := 49) (z := (72 : Int32)) X39 hx (hb hby at_47) rfl rfl ?_
  obtain ⟨z40, hz40⟩ : ∃ z, ((p4 &&& (2147483647 : Int32)) % (72 : Int32)) = z := ⟨_, rfl⟩
  refine own_irem (pc' := 50) (z := z40) X39 hx (hb hby at_49) rfl (by decide) hz40 ?_
  obtain ⟨kc, hkc, qkc⟩ := own_idx hz40
  rw [qkc]
  show own_Ends prg e below s _ _ _ T39 (mkF m 50 #[.val (.int p0), .val (.int p1), .val (.int p2), .val (.int p3), .val (.int p4), .val (.int p5), .val (.ref a31), .val (.int (Int32.ofNat ka)), .val (.int (Int32.ofNat kb)), .unset, .unset, .unset, .unset] [(.int (Int32.ofNat kc))])
  refine own_iconst (pc' := 51) (z := (1 : Int32)) X39 hx (hb hby at_50) rfl rfl ?_
  obtain ⟨cN, hcc⟩ : ∃ z, z = kc + 1 := ⟨_, rfl⟩
  have hc1 : 1 ≤ cN := by omega
  have hc72 : cN ≤ 72 := by omega
  refine own_iadd (pc' := 52) (z := (Int32.ofNat cN)) X39 hx (hb hby at_51) rfl (by rw [hcc]; exact own_inc kc (by omega)) ?_
  refine own_istore (pc' := 54) (l' := #[.val (.int p0), .val (.int p1), .val (.int p2), .val (.int p3), .val (.int p4), .val (.int p5), .val (.ref a31), .val (.int (Int32.ofNat ka)), .val (.int (Int32.ofNat kb)), .val (.int (Int32.ofNat cN)), .unset, .unset, .unset]) X39 hx (hb hby at_52) rfl rfl ?_
  refine own_iload (pc' := 56) X39 hx (hb hby at_54) rfl rfl ?_
  refine own_ldcI (pc' := 58) X39 hx hZ hown (own_w1 hw) (hb hby at_56) rfl ?_
  refine own_iand (pc' := 59) (z := (p5 &&& (2147483647 : Int32))) X39 hx (hb hby at_58) rfl rfl ?_
  refine own_iload (pc' := 61) X39 hx (hb hby at_59) rfl rfl ?_
  obtain ⟨z41, hz41⟩ : ∃ z, ((p5 &&& (2147483647 : Int32)) % (Int32.ofNat cN)) = z := ⟨_, rfl⟩
  refine own_irem (pc' := 62) (z := z41) X39 hx (hb hby at_61) rfl (own_nz hc1 hc72) hz41 ?_
  obtain ⟨ki, hki, qki⟩ := own_idc hc1 hc72 hz41
  rw [qki]
  show own_Ends prg e below s _ _ _ T39 (mkF m 62 #[.val (.int p0), .val (.int p1), .val (.int p2), .val (.int p3), .val (.int p4), .val (.int p5), .val (.ref a31), .val (.int (Int32.ofNat ka)), .val (.int (Int32.ofNat kb)), .val (.int (Int32.ofNat cN)), .unset, .unset, .unset] [(.int (Int32.ofNat ki))])
  refine own_istore (pc' := 64) (l' := #[.val (.int p0), .val (.int p1), .val (.int p2), .val (.int p3), .val (.int p4), .val (.int p5), .val (.ref a31), .val (.int (Int32.ofNat ka)), .val (.int (Int32.ofNat kb)), .val (.int (Int32.ofNat cN)), .val (.int (Int32.ofNat ki)), .unset, .unset]) X39 hx (hb hby at_62) rfl rfl ?_
  obtain ⟨T42, h42, X42, e42, E42, A42, D42, -, st42⟩ := newO X39 hx hZ hown (own_w2 hw) (own_w3 hw) (own_w4 hw) e39 (g := (mkF m 64 #[.val (.int p0), .val (.int p1), .val (.int p2), .val (.int p3), .val (.int p4), .val (.int p5), .val (.ref a31), .val (.int (Int32.ofNat ka)), .val (.int (Int32.ofNat kb)), .val (.int (Int32.ofNat cN)), .val (.int (Int32.ofNat ki)), .unset, .unset] [])) rfl (hb hby at_64) (by decide) (by decide)
  refine own_go st42 ?_
  obtain ⟨a42, g42⟩ : ∃ z, z = h39.size := ⟨_, rfl⟩
  rw [← g42] at A42 D42
  have f43 := (Nat.le_trans (Nat.le_trans (Nat.le_trans Z0 E31.1) (Keep.of_wr W37).1) (Keep.of_wr W39).1)
  have ge44 : n0 ≤ a42 := by rw [g42]; exact f43
  have ne45 : a31 ≠ a42 := Nat.ne_of_lt (by rw [g42]; exact V39.lt)
  have F46 : Fld Z h42 a42 "com/example/evenhand/evenhand/rounding/PackedInts" "width" "I" (.int (0 : Int32)) := D42 (Or.inr (own_w20 hw)) (ty := .int) (by decide)
  have F47 : Fld Z h42 a42 "com/example/evenhand/evenhand/rounding/PackedInts" "words" "[J" .null := D42 (Or.inr (own_w24 hw)) (ty := (.array .long)) (by decide)
  show own_Ends prg e below s _ _ _ T42 (mkF m 67 #[.val (.int p0), .val (.int p1), .val (.int p2), .val (.int p3), .val (.int p4), .val (.int p5), .val (.ref a31), .val (.int (Int32.ofNat ka)), .val (.int (Int32.ofNat kb)), .val (.int (Int32.ofNat cN)), .val (.int (Int32.ofNat ki)), .unset, .unset] [(.ref h39.size)])
  rw [← g42]
  refine own_dup (pc' := 68) X42 hx (hb hby at_67) rfl rfl ?_
  refine own_aload (pc' := 70) X42 hx (hb hby at_68) rfl rfl rfl ?_
  refine own_iload (pc' := 72) X42 hx (hb hby at_70) rfl rfl ?_
  have f48 := (V39.ext E42)
  have f49 := (Nat.le_trans f43 E42.1)
  refine own_callC (pc' := 75) (y := (⟨"com/example/evenhand/evenhand/rounding/PackedInts", "<init>", "([II)V"⟩ : MethodName)) (W := 1) (rm := own_room1) (argsL := [(.ref a31), (.int (Int32.ofNat cN))]) (rest := [(.ref a42)]) (b := a42) X42 hx hZ e42 hown (by rw [hml]; rfl) rfl rfl (own_w5 hw) (own_w6 hw) (own_w4 hw) (own_w7 hw) (by decide) (own_rm1 lch Z a0 hw [] a42 a31 k31 X2 _ _ cN h42 n0 f49 A42 F47 F46 ge44 f48 (Ne.symm ne45) nX2 hc1 hc72) (by decide) (by decide) (by decide) (by decide) (lenOf own_pd2 rfl) rfl (by exact Nat.le_of_eq rfl) (hb hby at_72) rfl ?_
  intro T50 Lc50 v50 X50 hQ50
  obtain ⟨wa50, wk50, w50, NN50, WW50, rfl, Nq50, Kq50, G50_0, G50_1, G50_2, G50_3, G50_4⟩ := hQ50
  have N50 := Fr.app N39 Nq50
  have ge51 : n0 ≤ wa50 := Nat.le_trans f49 G50_0
  have ne52 : a31 ≠ wa50 := Nat.ne_of_lt (Nat.lt_of_lt_of_le f48.lt G50_0)
  have ne53 : a42 ≠ wa50 := Nat.ne_of_lt (Nat.lt_of_lt_of_le A42.lt G50_0)
  show own_Ends prg e below s _ _ _ T50 (mkF m 75 #[.val (.int p0), .val (.int p1), .val (.int p2), .val (.int p3), .val (.int p4), .val (.int p5), .val (.ref a31), .val (.int (Int32.ofNat ka)), .val (.int (Int32.ofNat kb)), .val (.int (Int32.ofNat cN)), .val (.int (Int32.ofNat ki)), .unset, .unset] [(.ref a42)])
  refine own_astore (pc' := 77) (l' := #[.val (.int p0), .val (.int p1), .val (.int p2), .val (.int p3), .val (.int p4), .val (.int p5), .val (.ref a31), .val (.int (Int32.ofNat ka)), .val (.int (Int32.ofNat kb)), .val (.int (Int32.ofNat cN)), .val (.int (Int32.ofNat ki)), .val (.ref a42), .unset]) X50 hx (hb hby at_75) rfl rfl rfl ?_
  refine own_aload (pc' := 79) X50 hx (hb hby at_77) rfl rfl rfl ?_
  refine own_iload (pc' := 81) X50 hx (hb hby at_79) rfl rfl ?_
  have f55 := (A42.keep Kq50)
  refine own_callV (pc' := 84) (y := (⟨"com/example/evenhand/evenhand/rounding/PackedInts", "get", "(I)I"⟩ : MethodName)) (W := 0) (rm := own_room5) (argsL := [(.int (Int32.ofNat ki))]) (rest := []) (b := a42) (C := "com/example/evenhand/evenhand/rounding/PackedInts") X50 hx hZ rfl hown (by rw [hml]; rfl) f55 (own_w25 hw) (own_w26 hw) (own_w28 hw) (own_w27 hw) (own_w4 hw) (own_w29 hw) (by decide) (own_rm5 lch Z a0 hw [] a42 wa50 wk50 w50 NN50 WW50 X2 cN ki T50.heap n0 G50_1 G50_2 G50_3 G50_4 hki hc72) (by decide) (by decide) (by decide) (by decide) (lenOf own_pd0 rfl) rfl (by exact Nat.le_of_eq rfl) (hb hby at_81) rfl ?_
  intro T54 Lc54 v54 X54 hQ54
  obtain ⟨rfl, Nq54, Kq54⟩ := hQ54
  have N54 := Fr.app N50 Nq54
  show own_Ends prg e below s _ _ _ T54 (mkF m 84 #[.val (.int p0), .val (.int p1), .val (.int p2), .val (.int p3), .val (.int p4), .val (.int p5), .val (.ref a31), .val (.int (Int32.ofNat ka)), .val (.int (Int32.ofNat kb)), .val (.int (Int32.ofNat cN)), .val (.int (Int32.ofNat ki)), .val (.ref a42), .unset] [(.int (X2.getD ki 0))])
  refine own_aload (pc' := 86) X54 hx (hb hby at_84) rfl rfl rfl ?_
  refine own_iload (pc' := 88) X54 hx (hb hby at_86) rfl rfl ?_
  have f56 := (f48.keep Kq50 (ninS ne45 nin0))
  refine own_iaload (pc' := 89) (v := (.int (X2.getD ki 0))) X54 hx hZ Kq54 f56 (hb hby at_88) rfl (own_in (n := 72) (by omega) (by decide)) (by rw [(own_cl ki (by omega)).1]; exact own_mapI X2 _) ?_
  refine own_icmpNo (pc' := 92) X54 hx (hb hby at_89) rfl (teq rfl).2 ?_
  refine own_iconst (pc' := 93) (z := (1 : Int32)) X54 hx (hb hby at_92) rfl rfl ?_
  refine own_goto (pc' := 97) X54 hx (hb hby at_93) (by decide) (by decide) ?_
  refine own_istore (pc' := 99) (l' := #[.val (.int p0), .val (.int p1), .val (.int p2), .val (.int p3), .val (.int p4), .val (.int p5), .val (.ref a31), .val (.int (Int32.ofNat ka)), .val (.int (Int32.ofNat kb)), .val (.int (Int32.ofNat cN)), .val (.int (Int32.ofNat ki)), .val (.ref a42), .val (.int (1 : Int32))]) X54 hx (hb hby at_97) rfl rfl ?_
  refine own_iload (pc' := 101) X54 hx (hb hby at_99) rfl rfl ?_
  refine own_iload (pc' := 103) X54 hx (hb hby at_101) rfl rfl ?_
  by_cases hc103_57 : (Int32.ofNat ka) < (Int32.ofNat cN)
  · refine own_icmpNo (pc' := 106) X54 hx (hb hby at_103) rfl (tlt hc103_57).2.1 ?_
    refine own_iload (pc' := 108) X54 hx (hb hby at_106) rfl rfl ?_
    refine own_ifNo (pc' := 111) X54 hx (hb hby at_108) rfl (feq (by decide)).1 ?_
    refine own_aload (pc' := 113) X54 hx (hb hby at_111) rfl rfl rfl ?_
    refine own_iload (pc' := 115) X54 hx (hb hby at_113) rfl rfl ?_
    refine own_callV (pc' := 118) (y := (⟨"com/example/evenhand/evenhand/rounding/PackedInts", "get", "(I)I"⟩ : MethodName)) (W := 0) (rm := own_room5) (argsL := [(.int (Int32.ofNat ka))]) (rest := []) (b := a42) (C := "com/example/evenhand/evenhand/rounding/PackedInts") X54 hx hZ Kq54 hown (by rw [hml]; rfl) f55 (own_w25 hw) (own_w26 hw) (own_w28 hw) (own_w27 hw) (own_w4 hw) (own_w29 hw) (by decide) (own_rm5 lch Z a0 hw [] a42 wa50 wk50 w50 NN50 WW50 X2 cN ka T50.heap n0 G50_1 G50_2 G50_3 G50_4 ((own_ltN _ (by omega) _ (by omega)).mp hc103_57) hc72) (by decide) (by decide) (by decide) (by decide) (lenOf own_pd0 rfl) rfl (by exact Nat.le_of_eq rfl) (hb hby at_115) rfl ?_
    intro T58 Lc58 v58 X58 hQ58
    obtain ⟨rfl, Nq58, Kq58⟩ := hQ58
    have N58 := Fr.app N54 Nq58
    show own_Ends prg e below s _ _ _ T58 (mkF m 118 #[.val (.int p0), .val (.int p1), .val (.int p2), .val (.int p3), .val (.int p4), .val (.int p5), .val (.ref a31), .val (.int (Int32.ofNat ka)), .val (.int (Int32.ofNat kb)), .val (.int (Int32.ofNat cN)), .val (.int (Int32.ofNat ki)), .val (.ref a42), .val (.int (1 : Int32))] [(.int (X2.getD ka 0))])
    refine own_aload (pc' := 120) X58 hx (hb hby at_118) rfl rfl rfl ?_
    refine own_iload (pc' := 122) X58 hx (hb hby at_120) rfl rfl ?_
    refine own_iaload (pc' := 123) (v := (.int (X2.getD ka 0))) X58 hx hZ Kq58 f56 (hb hby at_122) rfl (own_in (n := 72) (by omega) (by decide)) (by rw [(own_cl ka (by omega)).1]; exact own_mapI X2 _) ?_
    refine own_icmpNo (pc' := 126) X58 hx (hb hby at_123) rfl (teq rfl).2 ?_
    refine own_iconst (pc' := 127) (z := (1 : Int32)) X58 hx (hb hby at_126) rfl rfl ?_
    refine own_goto (pc' := 131) X58 hx (hb hby at_127) (by decide) (by decide) ?_
    refine own_istore (pc' := 133) (l' := #[.val (.int p0), .val (.int p1), .val (.int p2), .val (.int p3), .val (.int p4), .val (.int p5), .val (.ref a31), .val (.int (Int32.ofNat ka)), .val (.int (Int32.ofNat kb)), .val (.int (Int32.ofNat cN)), .val (.int (Int32.ofNat ki)), .val (.ref a42), .val (.int (1 : Int32))]) X58 hx (hb hby at_131) rfl rfl ?_
    refine own_iload (pc' := 135) X58 hx (hb hby at_133) rfl rfl ?_
    refine own_iload (pc' := 137) X58 hx (hb hby at_135) rfl rfl ?_
    by_cases hc137_59 : (Int32.ofNat kb) < (Int32.ofNat cN)
    · refine own_icmpNo (pc' := 140) X58 hx (hb hby at_137) rfl (tlt hc137_59).2.1 ?_
      refine own_iload (pc' := 142) X58 hx (hb hby at_140) rfl rfl ?_
      refine own_ifNo (pc' := 145) X58 hx (hb hby at_142) rfl (feq (by decide)).1 ?_
      refine own_aload (pc' := 147) X58 hx (hb hby at_145) rfl rfl rfl ?_
      refine own_iload (pc' := 149) X58 hx (hb hby at_147) rfl rfl ?_
      refine own_callV (pc' := 152) (y := (⟨"com/example/evenhand/evenhand/rounding/PackedInts", "get", "(I)I"⟩ : MethodName)) (W := 0) (rm := own_room5) (argsL := [(.int (Int32.ofNat kb))]) (rest := []) (b := a42) (C := "com/example/evenhand/evenhand/rounding/PackedInts") X58 hx hZ Kq58 hown (by rw [hml]; rfl) f55 (own_w25 hw) (own_w26 hw) (own_w28 hw) (own_w27 hw) (own_w4 hw) (own_w29 hw) (by decide) (own_rm5 lch Z a0 hw [] a42 wa50 wk50 w50 NN50 WW50 X2 cN kb T50.heap n0 G50_1 G50_2 G50_3 G50_4 ((own_ltN _ (by omega) _ (by omega)).mp hc137_59) hc72) (by decide) (by decide) (by decide) (by decide) (lenOf own_pd0 rfl) rfl (by exact Nat.le_of_eq rfl) (hb hby at_149) rfl ?_
      intro T60 Lc60 v60 X60 hQ60
      obtain ⟨rfl, Nq60, Kq60⟩ := hQ60
      have N60 := Fr.app N58 Nq60
      show own_Ends prg e below s _ _ _ T60 (mkF m 152 #[.val (.int p0), .val (.int p1), .val (.int p2), .val (.int p3), .val (.int p4), .val (.int p5), .val (.ref a31), .val (.int (Int32.ofNat ka)), .val (.int (Int32.ofNat kb)), .val (.int (Int32.ofNat cN)), .val (.int (Int32.ofNat ki)), .val (.ref a42), .val (.int (1 : Int32))] [(.int (X2.getD kb 0))])
      refine own_aload (pc' := 154) X60 hx (hb hby at_152) rfl rfl rfl ?_
      refine own_iload (pc' := 156) X60 hx (hb hby at_154) rfl rfl ?_
      refine own_iaload (pc' := 157) (v := (.int (X2.getD kb 0))) X60 hx hZ Kq60 f56 (hb hby at_156) rfl (own_in (n := 72) (by omega) (by decide)) (by rw [(own_cl kb (by omega)).1]; exact own_mapI X2 _) ?_
      refine own_icmpNo (pc' := 160) X60 hx (hb hby at_157) rfl (teq rfl).2 ?_
      refine own_iconst (pc' := 161) (z := (1 : Int32)) X60 hx (hb hby at_160) rfl rfl ?_
      refine own_goto (pc' := 165) X60 hx (hb hby at_161) (by decide) (by decide) ?_
      refine own_istore (pc' := 167) (l' := #[.val (.int p0), .val (.int p1), .val (.int p2), .val (.int p3), .val (.int p4), .val (.int p5), .val (.ref a31), .val (.int (Int32.ofNat ka)), .val (.int (Int32.ofNat kb)), .val (.int (Int32.ofNat cN)), .val (.int (Int32.ofNat ki)), .val (.ref a42), .val (.int (1 : Int32))]) X60 hx (hb hby at_165) rfl rfl ?_
      refine own_iload (pc' := 169) X60 hx (hb hby at_167) rfl rfl ?_
      refine own_retN X60 hx hlk hret (by simp) (hb hby at_169) (by decide) (by decide) ?_
      exact ⟨rfl, N60⟩
    · refine own_icmpYes (pc' := 167) X58 hx (hb hby at_137) (flt hc137_59).2.1 (by decide) (by decide) ?_
      refine own_iload (pc' := 169) X58 hx (hb hby at_167) rfl rfl ?_
      refine own_retN X58 hx hlk hret (by simp) (hb hby at_169) (by decide) (by decide) ?_
      exact ⟨rfl, N58⟩
  · refine own_icmpYes (pc' := 133) X54 hx (hb hby at_103) (flt hc103_57).2.1 (by decide) (by decide) ?_
    refine own_iload (pc' := 135) X54 hx (hb hby at_133) rfl rfl ?_
    refine own_iload (pc' := 137) X54 hx (hb hby at_135) rfl rfl ?_
    by_cases hc137_61 : (Int32.ofNat kb) < (Int32.ofNat cN)
    · refine own_icmpNo (pc' := 140) X54 hx (hb hby at_137) rfl (tlt hc137_61).2.1 ?_
      refine own_iload (pc' := 142) X54 hx (hb hby at_140) rfl rfl ?_
      refine own_ifNo (pc' := 145) X54 hx (hb hby at_142) rfl (feq (by decide)).1 ?_
      refine own_aload (pc' := 147) X54 hx (hb hby at_145) rfl rfl rfl ?_
      refine own_iload (pc' := 149) X54 hx (hb hby at_147) rfl rfl ?_
      refine own_callV (pc' := 152) (y := (⟨"com/example/evenhand/evenhand/rounding/PackedInts", "get", "(I)I"⟩ : MethodName)) (W := 0) (rm := own_room5) (argsL := [(.int (Int32.ofNat kb))]) (rest := []) (b := a42) (C := "com/example/evenhand/evenhand/rounding/PackedInts") X54 hx hZ Kq54 hown (by rw [hml]; rfl) f55 (own_w25 hw) (own_w26 hw) (own_w28 hw) (own_w27 hw) (own_w4 hw) (own_w29 hw) (by decide) (own_rm5 lch Z a0 hw [] a42 wa50 wk50 w50 NN50 WW50 X2 cN kb T50.heap n0 G50_1 G50_2 G50_3 G50_4 ((own_ltN _ (by omega) _ (by omega)).mp hc137_61) hc72) (by decide) (by decide) (by decide) (by decide) (lenOf own_pd0 rfl) rfl (by exact Nat.le_of_eq rfl) (hb hby at_149) rfl ?_
      intro T62 Lc62 v62 X62 hQ62
      obtain ⟨rfl, Nq62, Kq62⟩ := hQ62
      have N62 := Fr.app N54 Nq62
      show own_Ends prg e below s _ _ _ T62 (mkF m 152 #[.val (.int p0), .val (.int p1), .val (.int p2), .val (.int p3), .val (.int p4), .val (.int p5), .val (.ref a31), .val (.int (Int32.ofNat ka)), .val (.int (Int32.ofNat kb)), .val (.int (Int32.ofNat cN)), .val (.int (Int32.ofNat ki)), .val (.ref a42), .val (.int (1 : Int32))] [(.int (X2.getD kb 0))])
      refine own_aload (pc' := 154) X62 hx (hb hby at_152) rfl rfl rfl ?_
      refine own_iload (pc' := 156) X62 hx (hb hby at_154) rfl rfl ?_
      refine own_iaload (pc' := 157) (v := (.int (X2.getD kb 0))) X62 hx hZ Kq62 f56 (hb hby at_156) rfl (own_in (n := 72) (by omega) (by decide)) (by rw [(own_cl kb (by omega)).1]; exact own_mapI X2 _) ?_
      refine own_icmpNo (pc' := 160) X62 hx (hb hby at_157) rfl (teq rfl).2 ?_
      refine own_iconst (pc' := 161) (z := (1 : Int32)) X62 hx (hb hby at_160) rfl rfl ?_
      refine own_goto (pc' := 165) X62 hx (hb hby at_161) (by decide) (by decide) ?_
      refine own_istore (pc' := 167) (l' := #[.val (.int p0), .val (.int p1), .val (.int p2), .val (.int p3), .val (.int p4), .val (.int p5), .val (.ref a31), .val (.int (Int32.ofNat ka)), .val (.int (Int32.ofNat kb)), .val (.int (Int32.ofNat cN)), .val (.int (Int32.ofNat ki)), .val (.ref a42), .val (.int (1 : Int32))]) X62 hx (hb hby at_165) rfl rfl ?_
      refine own_iload (pc' := 169) X62 hx (hb hby at_167) rfl rfl ?_
      refine own_retN X62 hx hlk hret (by simp) (hb hby at_169) (by decide) (by decide) ?_
      exact ⟨rfl, N62⟩
    · refine own_icmpYes (pc' := 167) X54 hx (hb hby at_137) (flt hc137_61).2.1 (by decide) (by decide) ?_
      refine own_iload (pc' := 169) X54 hx (hb hby at_167) rfl rfl ?_
      refine own_retN X54 hx hlk hret (by simp) (hb hby at_169) (by decide) (by decide) ?_
      exact ⟨rfl, N54⟩
set_option maxRecDepth 65536 in
set_option maxHeartbeats 40000000 in
theorem own_comes {Post : Tables → Env → Array Value → State → Outcome → State → Prop} (hpost : ∀ tb e args s v u, (limb_1_1.after args s (.returned v) u = true ∧ limb_1_2.after args s (.returned v) u = true ∧ True) → FrameEnd s (.returned v) u (Jvm.fieldLocs frame_1_writes args s ++ Jvm.arrayLocs frame_1_arrays args s ++ Jvm.staticLocs frame_1_statics s) 16 320 → Post tb e args s (.returned v) u) :
    ArmFor flags0 classFile x code maxLocals ret World_1 tables_1 room_1 Calls_1 rest_1 Pre_1 Post := by
  intro l hfl _ _ p e ha hc hk s m args below hf hA hF happ hP
  obtain ⟨hcalls, hrest, hpre⟩ := hP
  obtain ⟨-, -, -, hnamed, -, -, -, hat⟩ := (Spec.applies_iff hf).mp happ
  obtain ⟨hg, hn⟩ := and_e (Cond.before_iff.mp (show (Jvm.Cond.and given_1 narrow_1).before args s = true from hpre))
  obtain ⟨g1, g2⟩ := and_e hg
  obtain ⟨g3, g4⟩ := and_e g2
  obtain ⟨g5, g6⟩ := and_e g4
  obtain ⟨g7, g8⟩ := and_e g6
  obtain ⟨g9, g10⟩ := and_e g8
  obtain ⟨g11, g12⟩ := and_e g10
  obtain ⟨w0, w1, w2, w3, w4, w5, rfl⟩ : ∃ w0 w1 w2 w3 w4 w5 : Value, args = #[w0, w1, w2, w3, w4, w5] := by
    have hs : args.size = 6 := by simpa [Cond.value, given_1] using g1
    obtain ⟨L⟩ := args
    match L, hs with
    | [w0, w1, w2, w3, w4, w5], _ => exact ⟨w0, w1, w2, w3, w4, w5, rfl⟩
  have hw := fun d (hd : d ∈ tables_1) => atoms_spec (ws := Jvm.Cond.code x code maxLocals ret :: tables_1) hat d (List.mem_cons_of_mem _ hd)
  have hfit : Fit s := fun {y c} hc i hi => by
    obtain ⟨ha, rfl⟩ := Array.getElem?_eq_some_iff.mp hc
    have q := List.all_eq_true.mp ((Array.all_eq_true_iff_forall_mem.mp hF) _ (Array.getElem_mem ha)) i (List.mem_range.mpr hi)
    simpa [Array.getElem?_eq_getElem hi] using q
  obtain ⟨i0, ei0⟩ := is_v g3
  obtain rfl : w0 = (.int i0) := Option.some.inj ei0
  obtain ⟨i1, ei1⟩ := is_v g5
  obtain rfl : w1 = (.int i1) := Option.some.inj ei1
  obtain ⟨i2, ei2⟩ := is_v g7
  obtain rfl : w2 = (.int i2) := Option.some.inj ei2
  obtain ⟨i3, ei3⟩ := is_v g9
  obtain rfl : w3 = (.int i3) := Option.some.inj ei3
  obtain ⟨i4, ei4⟩ := is_v g11
  obtain rfl : w4 = (.int i4) := Option.some.inj ei4
  obtain ⟨i5, ei5⟩ := is_v g12
  obtain rfl : w5 = (.int i5) := Option.some.inj ei5
  obtain ⟨n, o, h1, h2, h3, _, L, rfl, ⟨rfl, N⟩, hq⟩ := own_rm0 l s _ hw tables_1 i0 i1 i2 i3 i4 i5 s.heap s.heap.size (Nat.le_refl _) p e ha hc hk s m _ below hf ((Spec.applies_iff_loose hf).mp happ).1 ⟨rfl, State.Warmed39.refl s, rfl⟩ trivial
  refine ⟨n, _, h1, h2, h3, hpost _ _ _ _ _ _ ⟨Cond.after_iff.mpr rfl, Cond.after_iff.mpr (eq_i res_at (Term.int_eval (1)) rfl), trivial⟩ ⟨hq.1, hq.2.1, (hq.2.2.sift fun y hy => Or.inr (N y hy)).mono (by decide) (by decide)⟩⟩
theorem main_1_1 : Claimed_1_1 := own_comes fun _ _ _ _ _ _ h hF => ⟨h.1, hF⟩
theorem main_1_2 : Claimed_1_2 := own_comes fun _ _ _ _ _ _ h hF => ⟨h.2.1, hF⟩
end Jvm.Pilot.@@N@@
namespace Jvm.Pilot.@@N@@
open Jvm Jvm.ClassFile Sem Op Lib Jvm.Free Jvm.Stand Jvm.Pilot.@@N@@.Jvm.D
/-! MADE BY PROGRAM (witnessworld.py) out of the Statement's table words and the real class files: 17 classes; the members and pool entries that the words name. The judged class is class 1, her method 1. -/
namespace start1
open Jvm.ClassFile
def u (s : String) : CpInfo := .utf8 (stringToUtf16 s)
/-- a pool by its gaps: so many unusable entries, then the entry; so many at the end -/
def gap : Nat → List CpInfo → List CpInfo
  | 0, r => r
  | n + 1, r => .unusable :: gap n r
def poolList (es : List (Nat × CpInfo)) (last : Nat) : List CpInfo := es.foldr (fun e r => gap e.1 (e.2 :: r)) (gap last [])
def pool (es : List (Nat × CpInfo)) (last : Nat) : Array CpInfo := ⟨poolList es last⟩
def fileOf (pool : Array CpInfo) (this : Nat) (attrs : Array Attribute := #[]) (ms : Array MethodInfo := #[]) (fl : Nat := 33) (sup : Nat := 0) (ifs : Array Nat := #[]) (fds : Array FieldInfo := #[]) : ClassFile where
  minorVersion := 0
  majorVersion := 65
  constantPool := pool
  accessFlags := fl
  thisClass := this
  superClass := sup
  interfaces := ifs
  fields := fds
  methods := ms
  attributes := attrs
def plain (name : String) (sup : Option ClassId) : Class where
  name := name
  kind := .ordinary
  loader := none
  accessFlags := 33
  super := sup
  interfaces := #[]
  cf := none
  fields := #[]
  methods := #[]
  instanceTypes := #[]
  staticTypes := #[]
  resolved := #[]
  callSites := []
  init := .initialized
  statics := none
  mirror := none

def pool0 : Array CpInfo := pool [(5, u "<init>"), (0, u "()V"), (1, .class_ 10), (1, u "java/lang/Object")] 113

def k0c0 : Code := { maxStack := 0, maxLocals := 1, code := object_method_1_code, exceptionTable := #[], attributes := #[] }
def k0m0 : Method := { name := "<init>", desc := "()V", sig := { parameters := [], returnType := none }, accessFlags := 1, code := some k0c0 }
/-- java/lang/Object -/
def k0 : Class := { plain "java/lang/Object" none with
  accessFlags := 33
  interfaces := #[]
  cf := some (fileOf pool0 8 #[] #[{ accessFlags := 1, nameIndex := 5, descriptorIndex := 6, attributes := #[] }] 33 0 #[] #[])
  fields := #[]
  methods := #[k0m0]
  instanceTypes := #[]
  staticTypes := #[]
  resolved := Array.replicate 124 none
  statics := none }

def pool1 : Array CpInfo := pool [(2, .class_ 4), (1, u "java/lang/Object"), (0, u "<init>"), (0, u "()V"), (0, .integer 2147483647), (0, .class_ 9), (0, u "com/example/evenhand/evenhand/rounding/PackedInts"), (0, .methodref 8 11), (0, .nameAndType 5 12), (0, u "([II)V"), (0, .methodref 8 14), (0, .nameAndType 15 16), (0, u "get"), (0, u "(I)I"), (0, .class_ 18), (0, u "com/example/evenhand/evenhand/rounding/PackedIntsGetPinLaw"), (2, u "law"), (0, u "(IIIIII)Z")] 5

def k1m0 : Method := { name := "<init>", desc := "()V", sig := { parameters := [], returnType := none }, accessFlags := 1, code := none }
def k1c1 : Code := { maxStack := 4, maxLocals := 13, code := code, exceptionTable := #[], attributes := #[] }
def k1m1 : Method := { name := "law", desc := "(IIIIII)Z", sig := { parameters := [.int, .int, .int, .int, .int, .int], returnType := some .boolean }, accessFlags := 9, code := some k1c1 }
/-- com/example/evenhand/evenhand/rounding/PackedIntsGetPinLaw -/
def k1 : Class := { plain "com/example/evenhand/evenhand/rounding/PackedIntsGetPinLaw" (some 0) with
  accessFlags := 49
  interfaces := #[]
  cf := some (fileOf pool1 17 #[] #[{ accessFlags := 1, nameIndex := 5, descriptorIndex := 6, attributes := #[] }, { accessFlags := 9, nameIndex := 21, descriptorIndex := 22, attributes := #[] }] 49 2 #[] #[])
  fields := #[]
  methods := #[k1m0, k1m1]
  instanceTypes := #[]
  staticTypes := #[]
  resolved := Array.replicate 28 none
  statics := none }

def pool2 : Array CpInfo := pool [(1, .methodref 2 3), (0, .class_ 4), (0, .nameAndType 5 6), (0, u "java/lang/Object"), (0, u "<init>"), (0, u "()V"), (0, .class_ 8), (0, u "java/lang/Integer"), (0, .methodref 7 10), (0, .nameAndType 11 12), (0, u "numberOfLeadingZeros"), (0, u "(I)I"), (0, .methodref 14 15), (0, .class_ 16), (0, .nameAndType 17 18), (0, u "java/lang/Math"), (0, u "max"), (0, u "(II)I"), (0, .fieldref 20 21), (0, .class_ 22), (0, .nameAndType 23 24), (0, u "com/example/evenhand/evenhand/rounding/PackedInts"), (0, u "width"), (0, u "I"), (2, .long 64), (1, .fieldref 20 30), (0, .nameAndType 31 32), (0, u "words"), (0, u "[J"), (0, u "([II)V"), (5, u "get")] 2

def k2c0 : Code := { maxStack := 8, maxLocals := 9, code := prog_56_method_1_code, exceptionTable := #[], attributes := #[] }
def k2m0 : Method := { name := "<init>", desc := "([II)V", sig := { parameters := [(.array .int), .int], returnType := none }, accessFlags := 0, code := some k2c0 }
def k2c1 : Code := { maxStack := 6, maxLocals := 8, code := prog_56_method_2_code, exceptionTable := #[], attributes := #[] }
def k2m1 : Method := { name := "get", desc := "(I)I", sig := { parameters := [.int], returnType := some .int }, accessFlags := 0, code := some k2c1 }
/-- com/example/evenhand/evenhand/rounding/PackedInts -/
def k2 : Class := { plain "com/example/evenhand/evenhand/rounding/PackedInts" (some 0) with
  accessFlags := 48
  interfaces := #[]
  cf := some (fileOf pool2 20 #[] #[{ accessFlags := 0, nameIndex := 5, descriptorIndex := 33, attributes := #[] }, { accessFlags := 0, nameIndex := 39, descriptorIndex := 12, attributes := #[] }] 48 2 #[] #[{ accessFlags := 18, nameIndex := 31, descriptorIndex := 32, attributes := #[] }, { accessFlags := 18, nameIndex := 23, descriptorIndex := 24, attributes := #[] }])
  fields := #[{ name := "words", type := (.array .long), accessFlags := 18, slot := 0, constantValue := 0 }, { name := "width", type := .int, accessFlags := 18, slot := 1, constantValue := 0 }]
  methods := #[k2m0, k2m1]
  instanceTypes := #[(.array .long), .int]
  staticTypes := #[]
  resolved := Array.replicate 42 none
  statics := none }

def pool3 : Array CpInfo := pool [(1, .class_ 2), (0, u "java/io/Serializable"), (0, .class_ 4), (0, u "java/lang/Object")] 2

/-- java/io/Serializable -/
def k3 : Class := { plain "java/io/Serializable" (some 0) with
  accessFlags := 1537
  interfaces := #[]
  cf := some (fileOf pool3 1 #[] #[] 1537 3 #[] #[])
  fields := #[]
  methods := #[]
  instanceTypes := #[]
  staticTypes := #[]
  resolved := Array.replicate 7 none
  statics := none }

def pool4 : Array CpInfo := pool [(2, .class_ 4), (1, u "java/lang/Object"), (0, u "<init>"), (0, u "()V"), (1, .class_ 10), (1, u "java/lang/Number"), (2, .class_ 14), (0, u "java/io/Serializable"), (0, u "serialVersionUID"), (0, u "J")] 20

def k4m0 : Method := { name := "<init>", desc := "()V", sig := { parameters := [], returnType := none }, accessFlags := 1, code := none }
/-- java/lang/Number -/
def k4 : Class := { plain "java/lang/Number" (some 0) with
  accessFlags := 1057
  interfaces := #[3]
  cf := some (fileOf pool4 8 #[] #[{ accessFlags := 1, nameIndex := 5, descriptorIndex := 6, attributes := #[] }] 1057 2 #[13] #[{ accessFlags := 26, nameIndex := 15, descriptorIndex := 16, attributes := #[] }])
  fields := #[{ name := "serialVersionUID", type := .long, accessFlags := 26, slot := 0, constantValue := 0 }]
  methods := #[k4m0]
  instanceTypes := #[]
  staticTypes := #[.long]
  resolved := Array.replicate 37 none
  statics := none }

def pool5 : Array CpInfo := pool [(1, .class_ 2), (0, u "java/lang/Comparable"), (0, .class_ 4), (0, u "java/lang/Object")] 7

/-- java/lang/Comparable -/
def k5 : Class := { plain "java/lang/Comparable" (some 0) with
  accessFlags := 1537
  interfaces := #[]
  cf := some (fileOf pool5 1 #[] #[] 1537 3 #[] #[])
  fields := #[]
  methods := #[]
  instanceTypes := #[]
  staticTypes := #[]
  resolved := Array.replicate 12 none
  statics := none }

def pool6 : Array CpInfo := pool [(1, .class_ 2), (0, u "java/lang/constant/Constable"), (0, .class_ 4), (0, u "java/lang/Object")] 6

/-- java/lang/constant/Constable -/
def k6 : Class := { plain "java/lang/constant/Constable" (some 0) with
  accessFlags := 1537
  interfaces := #[]
  cf := some (fileOf pool6 1 #[] #[] 1537 3 #[] #[])
  fields := #[]
  methods := #[]
  instanceTypes := #[]
  staticTypes := #[]
  resolved := Array.replicate 11 none
  statics := none }

def pool7 : Array CpInfo := pool [(1, .class_ 2), (0, u "java/lang/constant/ConstantDesc"), (0, .class_ 4), (0, u "java/lang/Object")] 32

/-- java/lang/constant/ConstantDesc -/
def k7 : Class := { plain "java/lang/constant/ConstantDesc" (some 0) with
  accessFlags := 1537
  interfaces := #[]
  cf := some (fileOf pool7 1 #[] #[] 1537 3 #[] #[])
  fields := #[]
  methods := #[]
  instanceTypes := #[]
  staticTypes := #[]
  resolved := Array.replicate 37 none
  statics := none }

def pool8 : Array CpInfo := pool [(1, .class_ 2), (0, u "java/lang/Integer"), (16, u "digits"), (0, u "[C"), (32, u "numberOfLeadingZeros"), (0, u "(I)I"), (30, u "DigitOnes"), (0, u "[B"), (2, u "DigitTens"), (99, .class_ 190), (0, u "java/lang/Integer$IntegerCache"), (3, u "I"), (8, .class_ 204), (0, u "java/lang/Number"), (2, u "value"), (56, .integer 65536), (37, u "TYPE"), (0, u "Ljava/lang/Class;"), (0, .class_ 305), (0, u "java/lang/Comparable"), (0, .class_ 307), (0, u "java/lang/constant/Constable"), (0, .class_ 309), (0, u "java/lang/constant/ConstantDesc"), (0, u "MIN_VALUE"), (1, u "MAX_VALUE"), (3, u "SIZE"), (1, u "BYTES"), (1, u "serialVersionUID"), (0, u "J")] 131

def k8c0 : Code := { maxStack := 3, maxLocals := 2, code := jdk_33_method_47_code, exceptionTable := #[], attributes := #[] }
def k8m0 : Method := { name := "numberOfLeadingZeros", desc := "(I)I", sig := { parameters := [.int], returnType := some .int }, accessFlags := 9, code := some k8c0 }
/-- java/lang/Integer -/
def k8 : Class := { plain "java/lang/Integer" (some 4) with
  accessFlags := 49
  interfaces := #[5, 6, 7]
  cf := some (fileOf pool8 1 #[.nestMembers #[189]] #[{ accessFlags := 9, nameIndex := 53, descriptorIndex := 54, attributes := #[] }] 49 203 #[304, 306, 308] #[{ accessFlags := 25, nameIndex := 310, descriptorIndex := 194, attributes := #[] }, { accessFlags := 25, nameIndex := 312, descriptorIndex := 194, attributes := #[] }, { accessFlags := 25, nameIndex := 302, descriptorIndex := 303, attributes := #[] }, { accessFlags := 24, nameIndex := 19, descriptorIndex := 20, attributes := #[] }, { accessFlags := 24, nameIndex := 89, descriptorIndex := 86, attributes := #[] }, { accessFlags := 24, nameIndex := 85, descriptorIndex := 86, attributes := #[] }, { accessFlags := 18, nameIndex := 207, descriptorIndex := 194, attributes := #[] }, { accessFlags := 25, nameIndex := 316, descriptorIndex := 194, attributes := #[] }, { accessFlags := 25, nameIndex := 318, descriptorIndex := 194, attributes := #[] }, { accessFlags := 26, nameIndex := 320, descriptorIndex := 321, attributes := #[] }])
  fields := #[{ name := "MIN_VALUE", type := .int, accessFlags := 25, slot := 0, constantValue := 0 }, { name := "MAX_VALUE", type := .int, accessFlags := 25, slot := 1, constantValue := 0 }, { name := "TYPE", type := (.object "java/lang/Class"), accessFlags := 25, slot := 2, constantValue := 0 }, { name := "digits", type := (.array .char), accessFlags := 24, slot := 3, constantValue := 0 }, { name := "DigitTens", type := (.array .byte), accessFlags := 24, slot := 4, constantValue := 0 }, { name := "DigitOnes", type := (.array .byte), accessFlags := 24, slot := 5, constantValue := 0 }, { name := "value", type := .int, accessFlags := 18, slot := 0, constantValue := 0 }, { name := "SIZE", type := .int, accessFlags := 25, slot := 6, constantValue := 0 }, { name := "BYTES", type := .int, accessFlags := 25, slot := 7, constantValue := 0 }, { name := "serialVersionUID", type := .long, accessFlags := 26, slot := 8, constantValue := 0 }]
  methods := #[k8m0]
  instanceTypes := #[.int]
  staticTypes := #[.int, .int, (.object "java/lang/Class"), (.array .char), (.array .byte), (.array .byte), .int, .int, .long]
  resolved := Array.replicate 453 none
  statics := none }

def pool9 : Array CpInfo := pool [(1, .class_ 2), (0, u "java/lang/Math"), (1, .class_ 6), (1, u "java/lang/Object"), (0, u "<init>"), (0, u "()V"), (89, .class_ 100), (1, u "java/lang/Math$RandomNumberGeneratorHolder"), (71, u "negativeZeroFloatBits"), (0, u "J"), (2, u "negativeZeroDoubleBits"), (21, u "max"), (46, u "$assertionsDisabled"), (0, u "Z"), (88, u "(II)I"), (2, u "twoToTheDoubleScaleDown"), (0, u "D"), (4, u "twoToTheDoubleScaleUp"), (9, u "E"), (3, u "PI"), (2, u "TAU"), (2, u "DEGREES_TO_RADIANS"), (0, u "RADIANS_TO_DEGREES")] 94

def k9m0 : Method := { name := "<init>", desc := "()V", sig := { parameters := [], returnType := none }, accessFlags := 2, code := none }
def k9c1 : Code := { maxStack := 2, maxLocals := 2, code := jdk_29_method_65_code, exceptionTable := #[], attributes := #[] }
def k9m1 : Method := { name := "max", desc := "(II)I", sig := { parameters := [.int, .int], returnType := some .int }, accessFlags := 9, code := some k9c1 }
/-- java/lang/Math -/
def k9 : Class := { plain "java/lang/Math" (some 0) with
  accessFlags := 49
  interfaces := #[]
  cf := some (fileOf pool9 1 #[.nestMembers #[98]] #[{ accessFlags := 2, nameIndex := 7, descriptorIndex := 8, attributes := #[] }, { accessFlags := 9, nameIndex := 198, descriptorIndex := 335, attributes := #[] }] 49 4 #[] #[{ accessFlags := 25, nameIndex := 354, descriptorIndex := 339, attributes := #[] }, { accessFlags := 25, nameIndex := 358, descriptorIndex := 339, attributes := #[] }, { accessFlags := 25, nameIndex := 361, descriptorIndex := 339, attributes := #[] }, { accessFlags := 26, nameIndex := 364, descriptorIndex := 339, attributes := #[] }, { accessFlags := 26, nameIndex := 365, descriptorIndex := 339, attributes := #[] }, { accessFlags := 26, nameIndex := 172, descriptorIndex := 173, attributes := #[] }, { accessFlags := 26, nameIndex := 176, descriptorIndex := 173, attributes := #[] }, { accessFlags := 8, nameIndex := 344, descriptorIndex := 339, attributes := #[] }, { accessFlags := 8, nameIndex := 338, descriptorIndex := 339, attributes := #[] }, { accessFlags := 4120, nameIndex := 245, descriptorIndex := 246, attributes := #[] }])
  fields := #[{ name := "E", type := .double, accessFlags := 25, slot := 0, constantValue := 0 }, { name := "PI", type := .double, accessFlags := 25, slot := 1, constantValue := 0 }, { name := "TAU", type := .double, accessFlags := 25, slot := 2, constantValue := 0 }, { name := "DEGREES_TO_RADIANS", type := .double, accessFlags := 26, slot := 3, constantValue := 0 }, { name := "RADIANS_TO_DEGREES", type := .double, accessFlags := 26, slot := 4, constantValue := 0 }, { name := "negativeZeroFloatBits", type := .long, accessFlags := 26, slot := 5, constantValue := 0 }, { name := "negativeZeroDoubleBits", type := .long, accessFlags := 26, slot := 6, constantValue := 0 }, { name := "twoToTheDoubleScaleUp", type := .double, accessFlags := 8, slot := 7, constantValue := 0 }, { name := "twoToTheDoubleScaleDown", type := .double, accessFlags := 8, slot := 8, constantValue := 0 }, { name := "$assertionsDisabled", type := .boolean, accessFlags := 4120, slot := 9, constantValue := 0 }]
  methods := #[k9m0, k9m1]
  instanceTypes := #[]
  staticTypes := #[.double, .double, .double, .double, .double, .long, .long, .double, .double, .boolean]
  resolved := Array.replicate 460 none
  statics := none }

def pool10 : Array CpInfo := pool [(1, u "java/lang/Cloneable"), (0, .class_ 1), (0, u "java/lang/Object"), (0, .class_ 3)] 3

/-- java/lang/Cloneable -/
def k10 : Class := { plain "java/lang/Cloneable" (some 0) with
  accessFlags := 1537
  interfaces := #[]
  cf := some (fileOf pool10 2 #[] #[] 1537 4 #[] #[])
  fields := #[]
  methods := #[]
  instanceTypes := #[]
  staticTypes := #[]
  resolved := Array.replicate 8 none
  statics := none }

/-- the primitive byte -/
def k11 : Class := { plain "byte" none with kind := .primitive 'B', accessFlags := 0x411 }
/-- [B -/
def k12 : Class := { plain "[B" (some 0) with kind := .array 11 .byte, interfaces := #[10, 3], accessFlags := 1041 }

/-- the primitive int -/
def k13 : Class := { plain "int" none with kind := .primitive 'I', accessFlags := 0x411 }
/-- [I -/
def k14 : Class := { plain "[I" (some 0) with kind := .array 13 .int, interfaces := #[10, 3], accessFlags := 1041 }

/-- the primitive long -/
def k15 : Class := { plain "long" none with kind := .primitive 'J', accessFlags := 0x411 }
/-- [J -/
def k16 : Class := { plain "[J" (some 0) with kind := .array 15 .long, interfaces := #[10, 3], accessFlags := 1041 }

def heap : Heap := #[]
def classes : Array Class := #[k0, k1, k2, k3, k4, k5, k6, k7, k8, k9, k10, k11, k12, k13, k14, k15, k16]
def interned : List (Array UInt16 × Addr) := []
def slotsUsed : Nat := 0
def theMethod : MethodId := ⟨1, 1⟩
def args0 : Array Value := #[.int 5, .int 5, .int 5, .int 5, .int 5, .int 5]
def aboutOver (below : List Frame) : State where
  vm := { classes := classes, interned := interned.toArray }
  heap := heap
  slotsUsed := slotsUsed
  threads := #[{ frames := .invoking theMethod args0 :: below }]
def below0 : List Frame := [.native { method := ⟨0, 0⟩, args := #[] }]
def about1 : State := aboutOver below0
def p0 : Program := .bare "" "" ""
def e0 : Env := launch0.env 0 0 0
theorem w_frames : about1.frames = Frame.invoking theMethod args0 :: below0 := rfl
set_option maxRecDepth 65536 in
theorem w_args : argsFit about1.vm theMethod args0 = true := by decide +kernel
set_option maxRecDepth 65536 in
theorem w_heap : heapFits about1 = true := by decide +kernel
set_option maxRecDepth 65536 in
theorem w_runnable : about1.curStatus? = some .runnable := by decide +kernel
set_option maxRecDepth 65536 in
theorem w_alone : about1.alone = true := by decide +kernel
set_option maxRecDepth 65536 in
theorem w_named : about1.methodNamed? x = some theMethod := by decide +kernel
set_option maxRecDepth 65536 in
theorem w_hears : about1.hears theMethod below0 = true := by decide +kernel
set_option maxRecDepth 65536 in
theorem w_ripe : about1.ripe theMethod args0 below0 = true := by decide +kernel
theorem w_running : about1.status = .running := rfl
set_option maxRecDepth 65536 in
theorem w_room : about1.hasRoom e0.platform room_1 = true :=
  launch0.hasRoom_least _ room_1 (by decide +kernel) (by decide +kernel) (by decide +kernel) (by decide +kernel) (by decide +kernel) (by decide +kernel)
theorem allAtoms_all (ts : List Jvm.Cond) (a : Array Jvm.Value) (st : Jvm.State) : (allAtoms ts).before a st = ts.all (fun c => c.before a st) := by
  induction ts with
  | nil => rfl
  | cons c t ih =>
    show (Jvm.Cond.and c (allAtoms t)).before a st = _
    rw [Jvm.Cond.before_and, ih, List.all_cons]
def words1 : List Jvm.Cond := Jvm.Cond.code x code maxLocals ret :: tables_1
/-- a 'code' word, met by the world's own term for the bytes: nothing is compared byte by byte -/
theorem code_word {y : MethodName} {bytes : ByteArray} {mx : Nat} {rt : Option FieldType} {a : Array Value} {s : State} {m : MethodId} {meth : Method} {c : Code} (h1 : s.methodNamed? y = some m) (h2 : s.vm.method? m = some meth) (h3 : meth.code = some c) (h4 : c.code = bytes)
    (h5 : (c.maxLocals == mx && c.exceptionTable.isEmpty && decide (c.maxStack ≤ mostOperands) && decide (meth.sig.returnType = rt) && !meth.locks && decide (parseMethodDescriptor y.desc = some meth.sig)) = true) : (Jvm.Cond.code y bytes mx rt).before a s = true := by
  simp only [Bool.and_eq_true, beq_iff_eq, Bool.not_eq_true', decide_eq_true_eq] at h5
  obtain ⟨⟨⟨⟨⟨g1, g2⟩, g3⟩, g4⟩, g5⟩, g6⟩ := h5
  simp [Cond.before, Cond.holds, Cond.value, h1, h2, h3, h4, g1, g2, g3, g4, g5, g6]
def isCode : Jvm.Cond → Bool
  | .code _ _ _ _ => true
  | _ => false
theorem all_split {L : List Jvm.Cond} {P : Jvm.Cond → Bool} (h1 : L.all (fun c => isCode c || P c) = true) (h2 : ∀ c ∈ L.filter isCode, P c = true) : L.all P = true := by
  refine List.all_eq_true.mpr fun c hc => ?_
  have h := List.all_eq_true.mp h1 c hc
  rcases Bool.eq_false_or_eq_true (isCode c) with hi | hi
  · exact h2 c (List.mem_filter.mpr ⟨hc, hi⟩)
  · simpa [hi] using h
set_option maxRecDepth 65536 in
theorem w_c0 : (Jvm.Cond.code x code maxLocals ret).before args0 about1 = true := code_word (m := ⟨1, 1⟩) (meth := k1m1) (c := k1c1) (by decide +kernel) rfl rfl rfl (by decide +kernel)
set_option maxRecDepth 65536 in
theorem w_c1 : (Jvm.Cond.code ({ cls := "com/example/evenhand/evenhand/rounding/PackedInts", name := "<init>", desc := "([II)V" } : Jvm.MethodName) prog_56_method_1_code (9 : Nat) (Option.none : Option Jvm.ClassFile.FieldType)).before args0 about1 = true := code_word (m := ⟨2, 0⟩) (meth := k2m0) (c := k2c0) (by decide +kernel) rfl rfl rfl (by decide +kernel)
set_option maxRecDepth 65536 in
theorem w_c2 : (Jvm.Cond.code ({ cls := "java/lang/Object", name := "<init>", desc := "()V" } : Jvm.MethodName) object_method_1_code (1 : Nat) (Option.none : Option Jvm.ClassFile.FieldType)).before args0 about1 = true := code_word (m := ⟨0, 0⟩) (meth := k0m0) (c := k0c0) (by decide +kernel) rfl rfl rfl (by decide +kernel)
set_option maxRecDepth 65536 in
theorem w_c3 : (Jvm.Cond.code ({ cls := "java/lang/Integer", name := "numberOfLeadingZeros", desc := "(I)I" } : Jvm.MethodName) jdk_33_method_47_code (2 : Nat) (Option.some Jvm.ClassFile.FieldType.int)).before args0 about1 = true := code_word (m := ⟨8, 0⟩) (meth := k8m0) (c := k8c0) (by decide +kernel) rfl rfl rfl (by decide +kernel)
set_option maxRecDepth 65536 in
theorem w_c4 : (Jvm.Cond.code ({ cls := "java/lang/Math", name := "max", desc := "(II)I" } : Jvm.MethodName) jdk_29_method_65_code (2 : Nat) (Option.some Jvm.ClassFile.FieldType.int)).before args0 about1 = true := code_word (m := ⟨9, 1⟩) (meth := k9m1) (c := k9c1) (by decide +kernel) rfl rfl rfl (by decide +kernel)
set_option maxRecDepth 65536 in
theorem w_c5 : (Jvm.Cond.code ({ cls := "com/example/evenhand/evenhand/rounding/PackedInts", name := "get", desc := "(I)I" } : Jvm.MethodName) prog_56_method_2_code (8 : Nat) (Option.some Jvm.ClassFile.FieldType.int)).before args0 about1 = true := code_word (m := ⟨2, 1⟩) (meth := k2m1) (c := k2c1) (by decide +kernel) rfl rfl rfl (by decide +kernel)
def codes1 : List Jvm.Cond := [Jvm.Cond.code x code maxLocals ret, Jvm.Cond.code ({ cls := "com/example/evenhand/evenhand/rounding/PackedInts", name := "<init>", desc := "([II)V" } : Jvm.MethodName) prog_56_method_1_code (9 : Nat) (Option.none : Option Jvm.ClassFile.FieldType), Jvm.Cond.code ({ cls := "java/lang/Object", name := "<init>", desc := "()V" } : Jvm.MethodName) object_method_1_code (1 : Nat) (Option.none : Option Jvm.ClassFile.FieldType), Jvm.Cond.code ({ cls := "java/lang/Integer", name := "numberOfLeadingZeros", desc := "(I)I" } : Jvm.MethodName) jdk_33_method_47_code (2 : Nat) (Option.some Jvm.ClassFile.FieldType.int), Jvm.Cond.code ({ cls := "java/lang/Math", name := "max", desc := "(II)I" } : Jvm.MethodName) jdk_29_method_65_code (2 : Nat) (Option.some Jvm.ClassFile.FieldType.int), Jvm.Cond.code ({ cls := "com/example/evenhand/evenhand/rounding/PackedInts", name := "get", desc := "(I)I" } : Jvm.MethodName) prog_56_method_2_code (8 : Nat) (Option.some Jvm.ClassFile.FieldType.int)]
set_option maxRecDepth 65536 in
theorem codes_eq : words1.filter isCode = codes1 := rfl
theorem w_codes : ∀ c ∈ words1.filter isCode, c.before args0 about1 = true := by
  rw [codes_eq]
  intro c hc
  simp only [codes1, List.mem_cons, List.not_mem_nil, or_false] at hc
  rcases hc with rfl | rfl | rfl | rfl | rfl | rfl
  · exact w_c0
  · exact w_c1
  · exact w_c2
  · exact w_c3
  · exact w_c4
  · exact w_c5
set_option maxRecDepth 65536 in
theorem w_t1 : (words1.take 24).all (fun c => isCode c || c.before args0 about1) = true := by decide +kernel
set_option maxRecDepth 65536 in
theorem w_t2 : (words1.drop 24).all (fun c => isCode c || c.before args0 about1) = true := by decide +kernel
theorem w_tables : (allAtoms (Jvm.Cond.code x code maxLocals ret :: tables_1)).before args0 about1 = true := by
  rw [allAtoms_all]
  show words1.all (fun c => c.before args0 about1) = true
  refine all_split ?_ w_codes
  rw [← List.take_append_drop 24 words1, List.all_append, w_t1, w_t2]
  rfl
set_option maxRecDepth 65536 in
theorem w_case : (Jvm.Cond.and given_1 narrow_1).before args0 about1 = true := by decide +kernel
theorem w_applies : (headSpec (Jvm.Cond.code x code maxLocals ret :: tables_1) room_1).applies x e0.platform about1 = true :=
  (Spec.applies_iff w_frames).mpr ⟨w_running, w_runnable, w_alone, w_named, w_hears, w_ripe, w_room, w_tables⟩
theorem atStart : AtStart classFile x code maxLocals ret World_1 tables_1 room_1 Calls_1 rest_1 Pre_1 launch0 p0 e0 about1 theMethod args0 below0 :=
  ⟨lists_1, trivial, launch0.admits_env _ _ _, launch0.least_env, fairChoices_fair.cas, fairChoices_fair.clock, w_frames, w_args, w_heap, w_applies, trivial, trivial, w_case⟩
end start1
theorem witness_1 : WitnessClaimed_1 := ⟨start1.p0, start1.e0, start1.about1, start1.theMethod, start1.args0, start1.below0, start1.atStart⟩
end Jvm.Pilot.@@N@@
