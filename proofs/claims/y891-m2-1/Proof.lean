import JvmDerived
import JvmDerived.Pilot.@@N@@Statement
import JvmDerived.Pilot.@@N@@Code
set_option linter.unusedVariables false
set_option linter.unusedSimpArgs false
namespace Jvm.RoadKit
open Sem ClassFile Op Lib Jvm.Stand Jvm.Free Jvm.LawKit
section New
variable {p : Program} {l : Launch} {e : Env} {R : Room} {s : State} {m : MethodId} {args : Array Value} {below : List Frame} {meth : Method} {c : Code} {T : State} {locs : List Loc} {cells slots : Nat}
theorem retI (X : Stand p l e R s m args below meth c T locs cells slots) (hx : p.tables.exec = Jvm.exec) {pc : Nat} {Ls : Array Slot} {z : Int32} {rest : List Value} (hret : meth.sig.returnType = some .int) (hd : decode c.code pc = .ok (.ireturn, 1)) {fs : List Frame}
    (hl : ∀ (f : JFrame) (acts : List Action), f.method = m → f.locked = none → f.entered = [] → (doReturn e (T.setTop f) acts (some (.int z))).1 = T.setFrames fs) : Steps p.tables e below (T.setTop (mkF m pc Ls (.int z :: rest))) (T.setFrames fs) := by
  have hm' : T.vm.method? m = some meth := X.method'
  have hn : narrow .int (.int z) = .int z := rfl
  show Steps p.tables e below (T.setTop { method := m, pc := pc, locals := Ls, stack := _ :: rest, locked := none }) _
  jvm_step X.here [X.here.top, hx, hd, hm', hret, hn]
  first | (intro acts; rw [hl _ acts rfl rfl rfl]) | rw [hl _ _ rfl rfl rfl]
  exact Steps.refl _
end New
end Jvm.RoadKit
namespace Jvm.Pilot.@@N@@
open Jvm Jvm.ClassFile Sem Op Lib Jvm.Free Jvm.Stand Jvm.LawKit Jvm.RoadKit Bundle Jvm.Pilot.@@N@@.Jvm.D
section Own
variable {p : Program} {l : Launch} {e : Env} {R : Room} {s : State} {m : MethodId} {args : Array Value} {below : List Frame} {meth : Method} {c : Code} {T T' : State} {locs : List Loc} {cells slots : Nat} {Q : Option Value → Heap → List Loc → Prop} {kc ks : Nat} {pc pc' : Nat} {ls : Array Slot} {st : List Value}
/-- from T with the frame g on top the run comes to its end, as Q asks -/
def own_Ends (p : Program) (e : Env) (below : List Frame) (s : State) (Q : Option Value → Heap → List Loc → Prop) (kc ks : Nat) (T : State) (g : JFrame) : Prop :=
  ∃ s₂ o, Steps p.tables e below (T.setTop g) s₂ ∧ s₂.status = .running ∧ Ended s₂ below o ∧ ∃ v L, o = .returned v ∧ Q v s₂.heap L ∧ FrameEnd s o s₂ L kc ks
theorem own_go {g g' : JFrame} (h : ∀ t, Steps p.tables e below (T'.setTop g') t → Steps p.tables e below (T.setTop g) t) (K : own_Ends p e below s Q kc ks T' g') : own_Ends p e below s Q kc ks T g := by
  obtain ⟨s2, o, h1, r⟩ := K
  exact ⟨s2, o, h _ h1, r⟩
theorem own_cast {g g' : JFrame} (q : g = g') (K : own_Ends p e below s Q kc ks T g') : own_Ends p e below s Q kc ks T g := q ▸ K
theorem own_leave {v : Option Value} {g : JFrame} (X : Stand p l e R s m args below meth c T locs cells slots) (hlk : meth.locks = false) (hv : meth.sig.returnType = none → v = none)
    (hs : ∀ fs, (∀ (f : JFrame) (acts : List Action), f.method = m → f.locked = none → f.entered = [] → (doReturn e (T.setTop f) acts v).1 = T.setFrames fs) → Steps p.tables e below (T.setTop g) (T.setFrames fs)) (hc : cells ≤ kc) (hn : slots ≤ ks) (hQ : Q v T.heap locs) : own_Ends p e below s Q kc ks T g := by
  obtain ⟨fs, hr, hrun, hended, hW, hsame⟩ := X.leave (v := v) hv hlk
  exact ⟨_, _, hs fs hr, hrun, hended, _, _, rfl, hQ, ⟨_, rfl⟩, hW, hsame.mono hc hn⟩
theorem own_retI (X : Stand p l e R s m args below meth c T locs cells slots) (hx : p.tables.exec = Jvm.exec) (hlk : meth.locks = false) {z : Int32} (hret : meth.sig.returnType = some .int) (hd : decode c.code pc = .ok (.ireturn, 1)) (hc : cells ≤ kc) (hn : slots ≤ ks) (hQ : Q (some (.int z)) T.heap locs) : own_Ends p e below s Q kc ks T (mkF m pc ls (.int z :: st)) :=
  own_leave X hlk (fun h => by rw [hret] at h; cases h) (fun fs hr => retI X hx hret hd hr) hc hn hQ
theorem own_retN (X : Stand p l e R s m args below meth c T locs cells slots) (hx : p.tables.exec = Jvm.exec) (hlk : meth.locks = false) {z : Int32} {ty : FieldType} (hret : meth.sig.returnType = some ty) (ht : ty = .boolean ∨ ty = .byte ∨ ty = .char ∨ ty = .short) (hd : decode c.code pc = .ok (.ireturn, 1)) (hc : cells ≤ kc) (hn : slots ≤ ks) (hQ : Q (some (.int (nar ty z))) T.heap locs) : own_Ends p e below s Q kc ks T (mkF m pc ls (.int z :: st)) :=
  own_leave X hlk (fun h => by rw [hret] at h; cases h) (fun fs hr => retN X hx (t := ty) hret ht hd hr) hc hn hQ
theorem own_retL (X : Stand p l e R s m args below meth c T locs cells slots) (hx : p.tables.exec = Jvm.exec) (hlk : meth.locks = false) {z : Int64} (hret : meth.sig.returnType = some .long) (hd : decode c.code pc = .ok (.lreturn, 1)) (hc : cells ≤ kc) (hn : slots ≤ ks) (hQ : Q (some (.long z)) T.heap locs) : own_Ends p e below s Q kc ks T (mkF m pc ls [.long z]) :=
  own_leave X hlk (fun h => by rw [hret] at h; cases h) (fun fs hr => retOut X hx (t := .long) hret rfl (Or.inr (Or.inl ⟨rfl, rfl, _, rfl⟩)) hd hr) hc hn hQ
theorem own_retD (X : Stand p l e R s m args below meth c T locs cells slots) (hx : p.tables.exec = Jvm.exec) (hlk : meth.locks = false) {z : UInt64} (hret : meth.sig.returnType = some .double) (hd : decode c.code pc = .ok (.dreturn, 1)) (hc : cells ≤ kc) (hn : slots ≤ ks) (hQ : Q (some (.double z)) T.heap locs) : own_Ends p e below s Q kc ks T (mkF m pc ls [.double z]) :=
  own_leave X hlk (fun h => by rw [hret] at h; cases h) (fun fs hr => retOut X hx (t := .double) hret rfl (Or.inr (Or.inr (Or.inl ⟨rfl, rfl, _, rfl⟩))) hd hr) hc hn hQ
theorem own_retA (X : Stand p l e R s m args below meth c T locs cells slots) (hx : p.tables.exec = Jvm.exec) (hlk : meth.locks = false) {w : Value} {ty : FieldType} (hret : meth.sig.returnType = some ty) (ht : ty.isReference = true) (hw : w.isRef = true) (hn1 : narrow ty w = w) (hd : decode c.code pc = .ok (.areturn, 1)) (hc : cells ≤ kc) (hn : slots ≤ ks) (hQ : Q (some w) T.heap locs) : own_Ends p e below s Q kc ks T (mkF m pc ls (w :: st)) :=
  own_leave X hlk (fun h => by rw [hret] at h; cases h) (fun fs hr => retOut X hx (t := ty) hret hn1 (Or.inr (Or.inr (Or.inr (Or.inr ⟨rfl, ht, hw⟩)))) hd hr) hc hn hQ
theorem own_retV (X : Stand p l e R s m args below meth c T locs cells slots) (hx : p.tables.exec = Jvm.exec) (hlk : meth.locks = false) (hret : meth.sig.returnType = none) (hd : decode c.code pc = .ok (.return_, 1)) (hc : cells ≤ kc) (hn : slots ≤ ks) (hQ : Q none T.heap locs) : own_Ends p e below s Q kc ks T (mkF m pc ls []) :=
  own_leave X hlk (fun _ => rfl) (fun fs hr => X.returnOut hx hret hd hr) hc hn hQ
theorem own_iloadN (X : Stand p l e R s m args below meth c T locs cells slots) (hx : p.tables.exec = Jvm.exec) {k : Fin 4} {v : Int32} (hd : decode c.code pc = .ok (.iload_n k, 1)) (hp : pc + 1 = pc') (hl : ls[k.val]? = some (.val (.int v))) (K : own_Ends p e below s Q kc ks T (mkF m pc' ls (.int v :: st))) : own_Ends p e below s Q kc ks T (mkF m pc ls st) := by
  subst hp
  exact own_go (fun t k => XS.iloadN X.here hx rfl hd hl k) K
theorem own_iload (X : Stand p l e R s m args below meth c T locs cells slots) (hx : p.tables.exec = Jvm.exec) {k : Nat} {v : Int32} (hd : decode c.code pc = .ok (.iload k, 2)) (hp : pc + 2 = pc') (hl : ls[k]? = some (.val (.int v))) (K : own_Ends p e below s Q kc ks T (mkF m pc' ls (.int v :: st))) : own_Ends p e below s Q kc ks T (mkF m pc ls st) := by
  subst hp
  exact own_go (fun t k => XS.iload X.here hx rfl hd hl k) K
theorem own_istoreN (X : Stand p l e R s m args below meth c T locs cells slots) (hx : p.tables.exec = Jvm.exec) {k : Fin 4} {v : Int32} {l' : Array Slot} (hd : decode c.code pc = .ok (.istore_n k, 1)) (hp : pc + 1 = pc') (hl : storeLocals ls k.val (.int v) = some l') (K : own_Ends p e below s Q kc ks T (mkF m pc' l' st)) : own_Ends p e below s Q kc ks T (mkF m pc ls (.int v :: st)) := by
  subst hp
  exact own_go (fun t k => XS.istoreN X.here hx rfl hd rfl hl k) K
theorem own_istore (X : Stand p l e R s m args below meth c T locs cells slots) (hx : p.tables.exec = Jvm.exec) {k : Nat} {v : Int32} {l' : Array Slot} (hd : decode c.code pc = .ok (.istore k, 2)) (hp : pc + 2 = pc') (hl : storeLocals ls k (.int v) = some l') (K : own_Ends p e below s Q kc ks T (mkF m pc' l' st)) : own_Ends p e below s Q kc ks T (mkF m pc ls (.int v :: st)) := by
  subst hp
  exact own_go (fun t k => XS.istore X.here hx rfl hd rfl hl k) K
theorem own_lloadN (X : Stand p l e R s m args below meth c T locs cells slots) (hx : p.tables.exec = Jvm.exec) {k : Fin 4} {v : Int64} (hd : decode c.code pc = .ok (.lload_n k, 1)) (hp : pc + 1 = pc') (hl : ls[k.val]? = some (.val (.long v))) (K : own_Ends p e below s Q kc ks T (mkF m pc' ls (.long v :: st))) : own_Ends p e below s Q kc ks T (mkF m pc ls st) := by
  subst hp
  exact own_go (fun t k => XS.lloadN X.here hx rfl hd hl k) K
theorem own_lload (X : Stand p l e R s m args below meth c T locs cells slots) (hx : p.tables.exec = Jvm.exec) {k : Nat} {v : Int64} (hd : decode c.code pc = .ok (.lload k, 2)) (hp : pc + 2 = pc') (hl : ls[k]? = some (.val (.long v))) (K : own_Ends p e below s Q kc ks T (mkF m pc' ls (.long v :: st))) : own_Ends p e below s Q kc ks T (mkF m pc ls st) := by
  subst hp
  exact own_go (fun t k => XS.lload X.here hx rfl hd hl k) K
theorem own_lstoreN (X : Stand p l e R s m args below meth c T locs cells slots) (hx : p.tables.exec = Jvm.exec) {k : Fin 4} {v : Int64} {l' : Array Slot} (hd : decode c.code pc = .ok (.lstore_n k, 1)) (hp : pc + 1 = pc') (hl : storeLocals ls k.val (.long v) = some l') (K : own_Ends p e below s Q kc ks T (mkF m pc' l' st)) : own_Ends p e below s Q kc ks T (mkF m pc ls (.long v :: st)) := by
  subst hp
  exact own_go (fun t k => XS.lstoreN X.here hx rfl hd rfl hl k) K
theorem own_lstore (X : Stand p l e R s m args below meth c T locs cells slots) (hx : p.tables.exec = Jvm.exec) {k : Nat} {v : Int64} {l' : Array Slot} (hd : decode c.code pc = .ok (.lstore k, 2)) (hp : pc + 2 = pc') (hl : storeLocals ls k (.long v) = some l') (K : own_Ends p e below s Q kc ks T (mkF m pc' l' st)) : own_Ends p e below s Q kc ks T (mkF m pc ls (.long v :: st)) := by
  subst hp
  exact own_go (fun t k => XS.lstore X.here hx rfl hd rfl hl k) K
theorem own_dloadN (X : Stand p l e R s m args below meth c T locs cells slots) (hx : p.tables.exec = Jvm.exec) {k : Fin 4} {v : UInt64} (hd : decode c.code pc = .ok (.dload_n k, 1)) (hp : pc + 1 = pc') (hl : ls[k.val]? = some (.val (.double v))) (K : own_Ends p e below s Q kc ks T (mkF m pc' ls (.double v :: st))) : own_Ends p e below s Q kc ks T (mkF m pc ls st) := by
  subst hp
  exact own_go (fun t k => XS.dloadN X.here hx rfl hd hl k) K
theorem own_dload (X : Stand p l e R s m args below meth c T locs cells slots) (hx : p.tables.exec = Jvm.exec) {k : Nat} {v : UInt64} (hd : decode c.code pc = .ok (.dload k, 2)) (hp : pc + 2 = pc') (hl : ls[k]? = some (.val (.double v))) (K : own_Ends p e below s Q kc ks T (mkF m pc' ls (.double v :: st))) : own_Ends p e below s Q kc ks T (mkF m pc ls st) := by
  subst hp
  exact own_go (fun t k => XS.dload X.here hx rfl hd hl k) K
theorem own_dstoreN (X : Stand p l e R s m args below meth c T locs cells slots) (hx : p.tables.exec = Jvm.exec) {k : Fin 4} {v : UInt64} {l' : Array Slot} (hd : decode c.code pc = .ok (.dstore_n k, 1)) (hp : pc + 1 = pc') (hl : storeLocals ls k.val (.double v) = some l') (K : own_Ends p e below s Q kc ks T (mkF m pc' l' st)) : own_Ends p e below s Q kc ks T (mkF m pc ls (.double v :: st)) := by
  subst hp
  exact own_go (fun t k => XS.dstoreN X.here hx rfl hd rfl hl k) K
theorem own_dstore (X : Stand p l e R s m args below meth c T locs cells slots) (hx : p.tables.exec = Jvm.exec) {k : Nat} {v : UInt64} {l' : Array Slot} (hd : decode c.code pc = .ok (.dstore k, 2)) (hp : pc + 2 = pc') (hl : storeLocals ls k (.double v) = some l') (K : own_Ends p e below s Q kc ks T (mkF m pc' l' st)) : own_Ends p e below s Q kc ks T (mkF m pc ls (.double v :: st)) := by
  subst hp
  exact own_go (fun t k => XS.dstore X.here hx rfl hd rfl hl k) K
theorem own_aloadN (X : Stand p l e R s m args below meth c T locs cells slots) (hx : p.tables.exec = Jvm.exec) {k : Fin 4} {v : Value} (hd : decode c.code pc = .ok (.aload_n k, 1)) (hp : pc + 1 = pc') (hl : ls[k.val]? = some (.val v)) (hv : v.isRef = true) (K : own_Ends p e below s Q kc ks T (mkF m pc' ls (v :: st))) : own_Ends p e below s Q kc ks T (mkF m pc ls st) := by
  subst hp
  exact own_go (fun t k => XS.aloadN X.here hx rfl hd hl hv k) K
theorem own_aload (X : Stand p l e R s m args below meth c T locs cells slots) (hx : p.tables.exec = Jvm.exec) {k : Nat} {v : Value} (hd : decode c.code pc = .ok (.aload k, 2)) (hp : pc + 2 = pc') (hl : ls[k]? = some (.val v)) (hv : v.isRef = true) (K : own_Ends p e below s Q kc ks T (mkF m pc' ls (v :: st))) : own_Ends p e below s Q kc ks T (mkF m pc ls st) := by
  subst hp
  exact own_go (fun t k => XS.aload X.here hx rfl hd hl hv k) K
theorem own_astoreN (X : Stand p l e R s m args below meth c T locs cells slots) (hx : p.tables.exec = Jvm.exec) {k : Fin 4} {v : Value} {l' : Array Slot} (hd : decode c.code pc = .ok (.astore_n k, 1)) (hp : pc + 1 = pc') (hv : v.isRef = true) (hl : storeLocals ls k.val v = some l') (K : own_Ends p e below s Q kc ks T (mkF m pc' l' st)) : own_Ends p e below s Q kc ks T (mkF m pc ls (v :: st)) := by
  subst hp
  exact own_go (fun t k => XS.astoreN X.here hx rfl hd rfl hv hl k) K
theorem own_astore (X : Stand p l e R s m args below meth c T locs cells slots) (hx : p.tables.exec = Jvm.exec) {k : Nat} {v : Value} {l' : Array Slot} (hd : decode c.code pc = .ok (.astore k, 2)) (hp : pc + 2 = pc') (hv : v.isRef = true) (hl : storeLocals ls k v = some l') (K : own_Ends p e below s Q kc ks T (mkF m pc' l' st)) : own_Ends p e below s Q kc ks T (mkF m pc ls (v :: st)) := by
  subst hp
  exact own_go (fun t k => XS.astore X.here hx rfl hd rfl hv hl k) K
theorem own_iconst (X : Stand p l e R s m args below meth c T locs cells slots) (hx : p.tables.exec = Jvm.exec) {i : Int} {z : Int32} (hd : decode c.code pc = .ok (.iconst i, 1)) (hp : pc + 1 = pc') (hz : Int32.ofInt i = z) (K : own_Ends p e below s Q kc ks T (mkF m pc' ls (.int z :: st))) : own_Ends p e below s Q kc ks T (mkF m pc ls st) := by
  subst hp hz
  exact own_go (fun t k => XS.iconst X.here hx rfl hd k) K
theorem own_bipush (X : Stand p l e R s m args below meth c T locs cells slots) (hx : p.tables.exec = Jvm.exec) {i : Int} {z : Int32} (hd : decode c.code pc = .ok (.bipush i, 2)) (hp : pc + 2 = pc') (hz : (Int8.ofInt i).toInt32 = z) (K : own_Ends p e below s Q kc ks T (mkF m pc' ls (.int z :: st))) : own_Ends p e below s Q kc ks T (mkF m pc ls st) := by
  subst hp hz
  exact own_go (fun t k => XS.bipush X.here hx rfl hd k) K
theorem own_sipush (X : Stand p l e R s m args below meth c T locs cells slots) (hx : p.tables.exec = Jvm.exec) {i : Int} {z : Int32} (hd : decode c.code pc = .ok (.sipush i, 3)) (hp : pc + 3 = pc') (hz : (Int16.ofInt i).toInt32 = z) (K : own_Ends p e below s Q kc ks T (mkF m pc' ls (.int z :: st))) : own_Ends p e below s Q kc ks T (mkF m pc ls st) := by
  subst hp hz
  exact own_go (fun t k => XS.sipush X.here hx rfl hd k) K
theorem own_lconst (X : Stand p l e R s m args below meth c T locs cells slots) (hx : p.tables.exec = Jvm.exec) {k : Fin 2} {z : Int64} (hd : decode c.code pc = .ok (.lconst k, 1)) (hp : pc + 1 = pc') (hz : Int64.ofNat k = z) (K : own_Ends p e below s Q kc ks T (mkF m pc' ls (.long z :: st))) : own_Ends p e below s Q kc ks T (mkF m pc ls st) := by
  subst hp hz
  exact own_go (fun t k => XS.lconst X.here hx rfl hd k) K
theorem own_anull (X : Stand p l e R s m args below meth c T locs cells slots) (hx : p.tables.exec = Jvm.exec) (hd : decode c.code pc = .ok (.aconst_null, 1)) (hp : pc + 1 = pc')  (K : own_Ends p e below s Q kc ks T (mkF m pc' ls (.null :: st))) : own_Ends p e below s Q kc ks T (mkF m pc ls st) := by
  subst hp
  exact own_go (fun t k => XS.aconstNull X.here hx rfl hd k) K
theorem own_iadd (X : Stand p l e R s m args below meth c T locs cells slots) (hx : p.tables.exec = Jvm.exec) {x y z : Int32} (hd : decode c.code pc = .ok (.iadd, 1)) (hp : pc + 1 = pc') (hz : x + y = z) (K : own_Ends p e below s Q kc ks T (mkF m pc' ls (.int z :: st))) : own_Ends p e below s Q kc ks T (mkF m pc ls (.int y :: .int x :: st)) := by
  subst hp hz
  exact own_go (fun t k => XS.iadd X.here hx rfl hd rfl k) K
theorem own_ladd (X : Stand p l e R s m args below meth c T locs cells slots) (hx : p.tables.exec = Jvm.exec) {x y z : Int64} (hd : decode c.code pc = .ok (.ladd, 1)) (hp : pc + 1 = pc') (hz : x + y = z) (K : own_Ends p e below s Q kc ks T (mkF m pc' ls (.long z :: st))) : own_Ends p e below s Q kc ks T (mkF m pc ls (.long y :: .long x :: st)) := by
  subst hp hz
  exact own_go (fun t k => XS.ladd X.here hx rfl hd rfl k) K
theorem own_isub (X : Stand p l e R s m args below meth c T locs cells slots) (hx : p.tables.exec = Jvm.exec) {x y z : Int32} (hd : decode c.code pc = .ok (.isub, 1)) (hp : pc + 1 = pc') (hz : x - y = z) (K : own_Ends p e below s Q kc ks T (mkF m pc' ls (.int z :: st))) : own_Ends p e below s Q kc ks T (mkF m pc ls (.int y :: .int x :: st)) := by
  subst hp hz
  exact own_go (fun t k => XS.isub X.here hx rfl hd rfl k) K
theorem own_lsub (X : Stand p l e R s m args below meth c T locs cells slots) (hx : p.tables.exec = Jvm.exec) {x y z : Int64} (hd : decode c.code pc = .ok (.lsub, 1)) (hp : pc + 1 = pc') (hz : x - y = z) (K : own_Ends p e below s Q kc ks T (mkF m pc' ls (.long z :: st))) : own_Ends p e below s Q kc ks T (mkF m pc ls (.long y :: .long x :: st)) := by
  subst hp hz
  exact own_go (fun t k => XS.lsub X.here hx rfl hd rfl k) K
theorem own_imul (X : Stand p l e R s m args below meth c T locs cells slots) (hx : p.tables.exec = Jvm.exec) {x y z : Int32} (hd : decode c.code pc = .ok (.imul, 1)) (hp : pc + 1 = pc') (hz : x * y = z) (K : own_Ends p e below s Q kc ks T (mkF m pc' ls (.int z :: st))) : own_Ends p e below s Q kc ks T (mkF m pc ls (.int y :: .int x :: st)) := by
  subst hp hz
  exact own_go (fun t k => XS.imul X.here hx rfl hd rfl k) K
theorem own_lmul (X : Stand p l e R s m args below meth c T locs cells slots) (hx : p.tables.exec = Jvm.exec) {x y z : Int64} (hd : decode c.code pc = .ok (.lmul, 1)) (hp : pc + 1 = pc') (hz : x * y = z) (K : own_Ends p e below s Q kc ks T (mkF m pc' ls (.long z :: st))) : own_Ends p e below s Q kc ks T (mkF m pc ls (.long y :: .long x :: st)) := by
  subst hp hz
  exact own_go (fun t k => XS.lmul X.here hx rfl hd rfl k) K
theorem own_iand (X : Stand p l e R s m args below meth c T locs cells slots) (hx : p.tables.exec = Jvm.exec) {x y z : Int32} (hd : decode c.code pc = .ok (.iand, 1)) (hp : pc + 1 = pc') (hz : x &&& y = z) (K : own_Ends p e below s Q kc ks T (mkF m pc' ls (.int z :: st))) : own_Ends p e below s Q kc ks T (mkF m pc ls (.int y :: .int x :: st)) := by
  subst hp hz
  exact own_go (fun t k => XS.iand X.here hx rfl hd rfl k) K
theorem own_land (X : Stand p l e R s m args below meth c T locs cells slots) (hx : p.tables.exec = Jvm.exec) {x y z : Int64} (hd : decode c.code pc = .ok (.land, 1)) (hp : pc + 1 = pc') (hz : x &&& y = z) (K : own_Ends p e below s Q kc ks T (mkF m pc' ls (.long z :: st))) : own_Ends p e below s Q kc ks T (mkF m pc ls (.long y :: .long x :: st)) := by
  subst hp hz
  exact own_go (fun t k => XS.land X.here hx rfl hd rfl k) K
theorem own_ior (X : Stand p l e R s m args below meth c T locs cells slots) (hx : p.tables.exec = Jvm.exec) {x y z : Int32} (hd : decode c.code pc = .ok (.ior, 1)) (hp : pc + 1 = pc') (hz : x ||| y = z) (K : own_Ends p e below s Q kc ks T (mkF m pc' ls (.int z :: st))) : own_Ends p e below s Q kc ks T (mkF m pc ls (.int y :: .int x :: st)) := by
  subst hp hz
  exact own_go (fun t k => XS.ior X.here hx rfl hd rfl k) K
theorem own_lor (X : Stand p l e R s m args below meth c T locs cells slots) (hx : p.tables.exec = Jvm.exec) {x y z : Int64} (hd : decode c.code pc = .ok (.lor, 1)) (hp : pc + 1 = pc') (hz : x ||| y = z) (K : own_Ends p e below s Q kc ks T (mkF m pc' ls (.long z :: st))) : own_Ends p e below s Q kc ks T (mkF m pc ls (.long y :: .long x :: st)) := by
  subst hp hz
  exact own_go (fun t k => XS.lor X.here hx rfl hd rfl k) K
theorem own_ixor (X : Stand p l e R s m args below meth c T locs cells slots) (hx : p.tables.exec = Jvm.exec) {x y z : Int32} (hd : decode c.code pc = .ok (.ixor, 1)) (hp : pc + 1 = pc') (hz : x ^^^ y = z) (K : own_Ends p e below s Q kc ks T (mkF m pc' ls (.int z :: st))) : own_Ends p e below s Q kc ks T (mkF m pc ls (.int y :: .int x :: st)) := by
  subst hp hz
  exact own_go (fun t k => XS.ixor X.here hx rfl hd rfl k) K
theorem own_lxor (X : Stand p l e R s m args below meth c T locs cells slots) (hx : p.tables.exec = Jvm.exec) {x y z : Int64} (hd : decode c.code pc = .ok (.lxor, 1)) (hp : pc + 1 = pc') (hz : x ^^^ y = z) (K : own_Ends p e below s Q kc ks T (mkF m pc' ls (.long z :: st))) : own_Ends p e below s Q kc ks T (mkF m pc ls (.long y :: .long x :: st)) := by
  subst hp hz
  exact own_go (fun t k => XS.lxor X.here hx rfl hd rfl k) K
theorem own_ishl (X : Stand p l e R s m args below meth c T locs cells slots) (hx : p.tables.exec = Jvm.exec) {x y z : Int32} (hd : decode c.code pc = .ok (.ishl, 1)) (hp : pc + 1 = pc') (hz : x <<< (y &&& 31) = z) (K : own_Ends p e below s Q kc ks T (mkF m pc' ls (.int z :: st))) : own_Ends p e below s Q kc ks T (mkF m pc ls (.int y :: .int x :: st)) := by
  subst hp hz
  exact own_go (fun t k => XS.ishl X.here hx rfl hd rfl k) K
theorem own_ishr (X : Stand p l e R s m args below meth c T locs cells slots) (hx : p.tables.exec = Jvm.exec) {x y z : Int32} (hd : decode c.code pc = .ok (.ishr, 1)) (hp : pc + 1 = pc') (hz : x >>> (y &&& 31) = z) (K : own_Ends p e below s Q kc ks T (mkF m pc' ls (.int z :: st))) : own_Ends p e below s Q kc ks T (mkF m pc ls (.int y :: .int x :: st)) := by
  subst hp hz
  exact own_go (fun t k => XS.ishr X.here hx rfl hd rfl k) K
theorem own_iushr (X : Stand p l e R s m args below meth c T locs cells slots) (hx : p.tables.exec = Jvm.exec) {x y z : Int32} (hd : decode c.code pc = .ok (.iushr, 1)) (hp : pc + 1 = pc') (hz : (x.toUInt32 >>> (y &&& 31).toUInt32).toInt32 = z) (K : own_Ends p e below s Q kc ks T (mkF m pc' ls (.int z :: st))) : own_Ends p e below s Q kc ks T (mkF m pc ls (.int y :: .int x :: st)) := by
  subst hp hz
  exact own_go (fun t k => XS.iushr X.here hx rfl hd rfl k) K
theorem own_lshl (X : Stand p l e R s m args below meth c T locs cells slots) (hx : p.tables.exec = Jvm.exec) {x z : Int64} {y : Int32} (hd : decode c.code pc = .ok (.lshl, 1)) (hp : pc + 1 = pc') (hz : x <<< (y &&& 0x3f).toInt64 = z) (K : own_Ends p e below s Q kc ks T (mkF m pc' ls (.long z :: st))) : own_Ends p e below s Q kc ks T (mkF m pc ls (.int y :: .long x :: st)) := by
  subst hp hz
  exact own_go (fun t k => XS.lshl X.here hx rfl hd rfl k) K
theorem own_lshr (X : Stand p l e R s m args below meth c T locs cells slots) (hx : p.tables.exec = Jvm.exec) {x z : Int64} {y : Int32} (hd : decode c.code pc = .ok (.lshr, 1)) (hp : pc + 1 = pc') (hz : x >>> (y &&& 0x3f).toInt64 = z) (K : own_Ends p e below s Q kc ks T (mkF m pc' ls (.long z :: st))) : own_Ends p e below s Q kc ks T (mkF m pc ls (.int y :: .long x :: st)) := by
  subst hp hz
  exact own_go (fun t k => XS.lshr X.here hx rfl hd rfl k) K
theorem own_lushr (X : Stand p l e R s m args below meth c T locs cells slots) (hx : p.tables.exec = Jvm.exec) {x z : Int64} {y : Int32} (hd : decode c.code pc = .ok (.lushr, 1)) (hp : pc + 1 = pc') (hz : (x.toUInt64 >>> (y &&& 0x3f).toInt64.toUInt64).toInt64 = z) (K : own_Ends p e below s Q kc ks T (mkF m pc' ls (.long z :: st))) : own_Ends p e below s Q kc ks T (mkF m pc ls (.int y :: .long x :: st)) := by
  subst hp hz
  exact own_go (fun t k => XS.lushr X.here hx rfl hd rfl k) K
theorem own_idiv (X : Stand p l e R s m args below meth c T locs cells slots) (hx : p.tables.exec = Jvm.exec) {x y z : Int32} (hd : decode c.code pc = .ok (.idiv, 1)) (hp : pc + 1 = pc') (hy : y ≠ 0) (hz : x / y = z) (K : own_Ends p e below s Q kc ks T (mkF m pc' ls (.int z :: st))) : own_Ends p e below s Q kc ks T (mkF m pc ls (.int y :: .int x :: st)) := by
  subst hp hz
  exact own_go (fun t k => XS.idiv X.here hx rfl hd rfl hy k) K
theorem own_irem (X : Stand p l e R s m args below meth c T locs cells slots) (hx : p.tables.exec = Jvm.exec) {x y z : Int32} (hd : decode c.code pc = .ok (.irem, 1)) (hp : pc + 1 = pc') (hy : y ≠ 0) (hz : x % y = z) (K : own_Ends p e below s Q kc ks T (mkF m pc' ls (.int z :: st))) : own_Ends p e below s Q kc ks T (mkF m pc ls (.int y :: .int x :: st)) := by
  subst hp hz
  exact own_go (fun t k => iremM (g := mkF m pc ls (.int y :: .int x :: st)) X hx rfl hd rfl hy k) K
theorem own_ldiv (X : Stand p l e R s m args below meth c T locs cells slots) (hx : p.tables.exec = Jvm.exec) {x y z : Int64} (hd : decode c.code pc = .ok (.ldiv, 1)) (hp : pc + 1 = pc') (hy : y ≠ 0) (hz : x / y = z) (K : own_Ends p e below s Q kc ks T (mkF m pc' ls (.long z :: st))) : own_Ends p e below s Q kc ks T (mkF m pc ls (.long y :: .long x :: st)) := by
  subst hp hz
  exact own_go (fun t k => XS.ldiv X.here hx rfl hd rfl hy k) K
theorem own_lrem (X : Stand p l e R s m args below meth c T locs cells slots) (hx : p.tables.exec = Jvm.exec) {x y z : Int64} (hd : decode c.code pc = .ok (.lrem, 1)) (hp : pc + 1 = pc') (hy : y ≠ 0) (hz : x - (x / y) * y = z) (K : own_Ends p e below s Q kc ks T (mkF m pc' ls (.long z :: st))) : own_Ends p e below s Q kc ks T (mkF m pc ls (.long y :: .long x :: st)) := by
  subst hp hz
  exact own_go (fun t k => XS.lrem X.here hx rfl hd rfl hy k) K
theorem own_ineg (X : Stand p l e R s m args below meth c T locs cells slots) (hx : p.tables.exec = Jvm.exec) {x : Int32} {z : Int32} (hd : decode c.code pc = .ok (.ineg, 1)) (hp : pc + 1 = pc') (hz : -x = z) (K : own_Ends p e below s Q kc ks T (mkF m pc' ls (.int z :: st))) : own_Ends p e below s Q kc ks T (mkF m pc ls (.int x :: st)) := by
  subst hp hz
  exact own_go (fun t k => XS.ineg X.here hx rfl hd rfl k) K
theorem own_lneg (X : Stand p l e R s m args below meth c T locs cells slots) (hx : p.tables.exec = Jvm.exec) {x : Int64} {z : Int64} (hd : decode c.code pc = .ok (.lneg, 1)) (hp : pc + 1 = pc') (hz : -x = z) (K : own_Ends p e below s Q kc ks T (mkF m pc' ls (.long z :: st))) : own_Ends p e below s Q kc ks T (mkF m pc ls (.long x :: st)) := by
  subst hp hz
  exact own_go (fun t k => XS.lneg X.here hx rfl hd rfl k) K
theorem own_i2l (X : Stand p l e R s m args below meth c T locs cells slots) (hx : p.tables.exec = Jvm.exec) {x : Int32} {z : Int64} (hd : decode c.code pc = .ok (.i2l, 1)) (hp : pc + 1 = pc') (hz : x.toInt64 = z) (K : own_Ends p e below s Q kc ks T (mkF m pc' ls (.long z :: st))) : own_Ends p e below s Q kc ks T (mkF m pc ls (.int x :: st)) := by
  subst hp hz
  exact own_go (fun t k => XS.i2l X.here hx rfl hd rfl k) K
theorem own_l2i (X : Stand p l e R s m args below meth c T locs cells slots) (hx : p.tables.exec = Jvm.exec) {x : Int64} {z : Int32} (hd : decode c.code pc = .ok (.l2i, 1)) (hp : pc + 1 = pc') (hz : x.toInt32 = z) (K : own_Ends p e below s Q kc ks T (mkF m pc' ls (.int z :: st))) : own_Ends p e below s Q kc ks T (mkF m pc ls (.long x :: st)) := by
  subst hp hz
  exact own_go (fun t k => XS.l2i X.here hx rfl hd rfl k) K
theorem own_i2b (X : Stand p l e R s m args below meth c T locs cells slots) (hx : p.tables.exec = Jvm.exec) {x : Int32} {z : Int32} (hd : decode c.code pc = .ok (.i2b, 1)) (hp : pc + 1 = pc') (hz : x.toInt8.toInt32 = z) (K : own_Ends p e below s Q kc ks T (mkF m pc' ls (.int z :: st))) : own_Ends p e below s Q kc ks T (mkF m pc ls (.int x :: st)) := by
  subst hp hz
  exact own_go (fun t k => XS.i2b X.here hx rfl hd rfl k) K
theorem own_i2s (X : Stand p l e R s m args below meth c T locs cells slots) (hx : p.tables.exec = Jvm.exec) {x : Int32} {z : Int32} (hd : decode c.code pc = .ok (.i2s, 1)) (hp : pc + 1 = pc') (hz : x.toInt16.toInt32 = z) (K : own_Ends p e below s Q kc ks T (mkF m pc' ls (.int z :: st))) : own_Ends p e below s Q kc ks T (mkF m pc ls (.int x :: st)) := by
  subst hp hz
  exact own_go (fun t k => XS.i2s X.here hx rfl hd rfl k) K
theorem own_i2c (X : Stand p l e R s m args below meth c T locs cells slots) (hx : p.tables.exec = Jvm.exec) {x : Int32} {z : Int32} (hd : decode c.code pc = .ok (.i2c, 1)) (hp : pc + 1 = pc') (hz : x.toUInt32.toUInt16.toUInt32.toInt32 = z) (K : own_Ends p e below s Q kc ks T (mkF m pc' ls (.int z :: st))) : own_Ends p e below s Q kc ks T (mkF m pc ls (.int x :: st)) := by
  subst hp hz
  exact own_go (fun t k => XS.i2c X.here hx rfl hd rfl k) K
theorem own_i2d (X : Stand p l e R s m args below meth c T locs cells slots) (hx : p.tables.exec = Jvm.exec) {x : Int32} {z : UInt64} (hd : decode c.code pc = .ok (.i2d, 1)) (hp : pc + 1 = pc') (hz : FP.i2d x = z) (K : own_Ends p e below s Q kc ks T (mkF m pc' ls (.double z :: st))) : own_Ends p e below s Q kc ks T (mkF m pc ls (.int x :: st)) := by
  subst hp hz
  exact own_go (fun t k => XS.i2dS (g := mkF m pc ls (.int x :: st)) X.here hx rfl hd rfl rfl k) K
theorem own_dadd (X : Stand p l e R s m args below meth c T locs cells slots) (hx : p.tables.exec = Jvm.exec) {x y z : UInt64} (hd : decode c.code pc = .ok (.dadd, 1)) (hp : pc + 1 = pc') (hn : Jvm.Free.Fl.NoNaN64 (FP.dadd x y)) (hz : FP.dadd x y = z) (K : own_Ends p e below s Q kc ks T (mkF m pc' ls (.double z :: st))) : own_Ends p e below s Q kc ks T (mkF m pc ls (.double y :: .double x :: st)) := by
  subst hp hz
  exact own_go (fun t k => XS.daddS (g := mkF m pc ls (.double y :: .double x :: st)) X.here hx rfl hd rfl hn rfl k) K
theorem own_dmul (X : Stand p l e R s m args below meth c T locs cells slots) (hx : p.tables.exec = Jvm.exec) {x y z : UInt64} (hd : decode c.code pc = .ok (.dmul, 1)) (hp : pc + 1 = pc') (hn : Jvm.Free.Fl.NoNaN64 (FP.dmul x y)) (hz : FP.dmul x y = z) (K : own_Ends p e below s Q kc ks T (mkF m pc' ls (.double z :: st))) : own_Ends p e below s Q kc ks T (mkF m pc ls (.double y :: .double x :: st)) := by
  subst hp hz
  exact own_go (fun t k => XS.dmulS (g := mkF m pc ls (.double y :: .double x :: st)) X.here hx rfl hd rfl hn rfl k) K
theorem own_dcmp (X : Stand p l e R s m args below meth c T locs cells slots) (hx : p.tables.exec = Jvm.exec) {o : CmpOp} {x y : UInt64} {z : Int32} (hd : decode c.code pc = .ok (.dcmp o, 1)) (hp : pc + 1 = pc') (hz : cmpValue (FP.dcmp x y) o = z) (K : own_Ends p e below s Q kc ks T (mkF m pc' ls (.int z :: st))) : own_Ends p e below s Q kc ks T (mkF m pc ls (.double y :: .double x :: st)) := by
  subst hp hz
  exact own_go (fun t k => XS.dcmpS (g := mkF m pc ls (.double y :: .double x :: st)) X.here hx rfl hd rfl rfl k) K
theorem own_lcmp (X : Stand p l e R s m args below meth c T locs cells slots) (hx : p.tables.exec = Jvm.exec) {x y : Int64} {z : Int32} (hd : decode c.code pc = .ok (.lcmp, 1)) (hp : pc + 1 = pc') (hz : lcmpW x y = z) (K : own_Ends p e below s Q kc ks T (mkF m pc' ls (.int z :: st))) : own_Ends p e below s Q kc ks T (mkF m pc ls (.long y :: .long x :: st)) := by
  subst hp hz
  exact own_go (fun t k => XS.lcmp X.here hx rfl hd rfl k) K
theorem own_pop (X : Stand p l e R s m args below meth c T locs cells slots) (hx : p.tables.exec = Jvm.exec) {v : Value} (hd : decode c.code pc = .ok (.pop, 1)) (hp : pc + 1 = pc') (hc : v.category = 1) (K : own_Ends p e below s Q kc ks T (mkF m pc' ls st)) : own_Ends p e below s Q kc ks T (mkF m pc ls (v :: st)) := by
  subst hp
  exact own_go (fun t k => XS.pop X.here hx rfl hd rfl hc k) K
theorem own_dup (X : Stand p l e R s m args below meth c T locs cells slots) (hx : p.tables.exec = Jvm.exec) {v : Value} (hd : decode c.code pc = .ok (.dup, 1)) (hp : pc + 1 = pc') (hc : v.category = 1) (K : own_Ends p e below s Q kc ks T (mkF m pc' ls (v :: v :: st))) : own_Ends p e below s Q kc ks T (mkF m pc ls (v :: st)) := by
  subst hp
  exact own_go (fun t k => XS.dup X.here hx rfl hd rfl hc k) K
theorem own_dupX1 (X : Stand p l e R s m args below meth c T locs cells slots) (hx : p.tables.exec = Jvm.exec) {v w : Value} (hd : decode c.code pc = .ok (.dup_x1, 1)) (hp : pc + 1 = pc') (hc : v.category = 1) (hc' : w.category = 1) (K : own_Ends p e below s Q kc ks T (mkF m pc' ls (v :: w :: v :: st))) : own_Ends p e below s Q kc ks T (mkF m pc ls (v :: w :: st)) := by
  subst hp
  exact own_go (fun t k => XS.dupX1 X.here hx rfl hd rfl hc hc' k) K
theorem own_dup2 (X : Stand p l e R s m args below meth c T locs cells slots) (hx : p.tables.exec = Jvm.exec) {v w : Value} (hd : decode c.code pc = .ok (.dup2, 1)) (hp : pc + 1 = pc') (hc : v.category = 1) (hc' : w.category = 1) (K : own_Ends p e below s Q kc ks T (mkF m pc' ls (v :: w :: v :: w :: st))) : own_Ends p e below s Q kc ks T (mkF m pc ls (v :: w :: st)) := by
  subst hp
  exact own_go (fun t k => XT.dup2 X.here hx rfl hd rfl hc hc' k) K
theorem own_dup2L (X : Stand p l e R s m args below meth c T locs cells slots) (hx : p.tables.exec = Jvm.exec) {x : Int64} (hd : decode c.code pc = .ok (.dup2, 1)) (hp : pc + 1 = pc')  (K : own_Ends p e below s Q kc ks T (mkF m pc' ls (.long x :: .long x :: st))) : own_Ends p e below s Q kc ks T (mkF m pc ls (.long x :: st)) := by
  subst hp
  exact own_go (fun t k => XT.dup2L X.here hx rfl hd rfl k) K
theorem own_iinc (X : Stand p l e R s m args below meth c T locs cells slots) (hx : p.tables.exec = Jvm.exec) {k : Nat} {i : Int} {x z : Int32} {l' : Array Slot} (hd : decode c.code pc = .ok (.iinc k i, 3)) (hp : pc + 3 = pc') (hl : ls[k]? = some (.val (.int x))) (hz : x + Int32.ofInt i = z) (hl' : storeLocals ls k (.int z) = some l') (K : own_Ends p e below s Q kc ks T (mkF m pc' l' st)) : own_Ends p e below s Q kc ks T (mkF m pc ls st) := by
  subst hp hz
  exact own_go (fun t k => XS.iinc X.here hx rfl hd hl hl' k) K
theorem own_goto (X : Stand p l e R s m args below meth c T locs cells slots) (hx : p.tables.exec = Jvm.exec) {o : Int} (hd : decode c.code pc = .ok (.goto o, 3)) (ho : 0 ≤ (pc : Int) + o) (hp : ((pc : Int) + o).toNat = pc') (K : own_Ends p e below s Q kc ks T (mkF m pc' ls st)) : own_Ends p e below s Q kc ks T (mkF m pc ls st) :=
  own_go (fun t k => XS.goto X.here hx rfl rfl hd ho hp k) K
theorem own_ifYes (X : Stand p l e R s m args below meth c T locs cells slots) (hx : p.tables.exec = Jvm.exec) {o : Int} {cd : ClassFile.Cond} {x : Int32} (hd : decode c.code pc = .ok (.ifCond cd o, 3)) (hc : if_icmp.holds cd x 0 = true) (ho : 0 ≤ (pc : Int) + o) (hp : ((pc : Int) + o).toNat = pc') (K : own_Ends p e below s Q kc ks T (mkF m pc' ls st)) : own_Ends p e below s Q kc ks T (mkF m pc ls (.int x :: st)) :=
  own_go (fun t k => XS.ifYes X.here hx rfl rfl hd rfl ((if0 _ _).trans hc) ho hp k) K
theorem own_ifNo (X : Stand p l e R s m args below meth c T locs cells slots) (hx : p.tables.exec = Jvm.exec) {o : Int} {cd : ClassFile.Cond} {x : Int32} (hd : decode c.code pc = .ok (.ifCond cd o, 3)) (hp : pc + 3 = pc') (hc : if_icmp.holds cd x 0 = false) (K : own_Ends p e below s Q kc ks T (mkF m pc' ls st)) : own_Ends p e below s Q kc ks T (mkF m pc ls (.int x :: st)) := by
  subst hp
  exact own_go (fun t k => XS.ifNo X.here hx rfl hd rfl ((if0 _ _).trans hc) k) K
theorem own_icmpYes (X : Stand p l e R s m args below meth c T locs cells slots) (hx : p.tables.exec = Jvm.exec) {o : Int} {cd : ClassFile.Cond} {x y : Int32} (hd : decode c.code pc = .ok (.if_icmp cd o, 3)) (hc : if_icmp.holds cd x y = true) (ho : 0 ≤ (pc : Int) + o) (hp : ((pc : Int) + o).toNat = pc') (K : own_Ends p e below s Q kc ks T (mkF m pc' ls st)) : own_Ends p e below s Q kc ks T (mkF m pc ls (.int y :: .int x :: st)) :=
  own_go (fun t k => XS.icmpYes X.here hx rfl rfl hd rfl hc ho hp k) K
theorem own_icmpNo (X : Stand p l e R s m args below meth c T locs cells slots) (hx : p.tables.exec = Jvm.exec) {o : Int} {cd : ClassFile.Cond} {x y : Int32} (hd : decode c.code pc = .ok (.if_icmp cd o, 3)) (hp : pc + 3 = pc') (hc : if_icmp.holds cd x y = false) (K : own_Ends p e below s Q kc ks T (mkF m pc' ls st)) : own_Ends p e below s Q kc ks T (mkF m pc ls (.int y :: .int x :: st)) := by
  subst hp
  exact own_go (fun t k => XS.icmpNo X.here hx rfl hd rfl hc k) K
theorem own_ifnullYes (X : Stand p l e R s m args below meth c T locs cells slots) (hx : p.tables.exec = Jvm.exec) {o : Int} (hd : decode c.code pc = .ok (.ifnull o, 3)) (ho : 0 ≤ (pc : Int) + o) (hp : ((pc : Int) + o).toNat = pc') (K : own_Ends p e below s Q kc ks T (mkF m pc' ls st)) : own_Ends p e below s Q kc ks T (mkF m pc ls (.null :: st)) :=
  own_go (fun t k => XS.ifnullYes X.here hx rfl rfl hd rfl ho hp k) K
theorem own_ifnullNo (X : Stand p l e R s m args below meth c T locs cells slots) (hx : p.tables.exec = Jvm.exec) {o : Int} {b : Addr} (hd : decode c.code pc = .ok (.ifnull o, 3)) (hp : pc + 3 = pc')  (K : own_Ends p e below s Q kc ks T (mkF m pc' ls st)) : own_Ends p e below s Q kc ks T (mkF m pc ls (.ref b :: st)) := by
  subst hp
  exact own_go (fun t k => XS.ifnullNo X.here hx rfl hd rfl k) K
theorem own_ifnonnullYes (X : Stand p l e R s m args below meth c T locs cells slots) (hx : p.tables.exec = Jvm.exec) {o : Int} {b : Addr} (hd : decode c.code pc = .ok (.ifnonnull o, 3)) (ho : 0 ≤ (pc : Int) + o) (hp : ((pc : Int) + o).toNat = pc') (K : own_Ends p e below s Q kc ks T (mkF m pc' ls st)) : own_Ends p e below s Q kc ks T (mkF m pc ls (.ref b :: st)) :=
  own_go (fun t k => XS.ifnonnullYes X.here hx rfl rfl hd rfl ho hp k) K
theorem own_ifnonnullNo (X : Stand p l e R s m args below meth c T locs cells slots) (hx : p.tables.exec = Jvm.exec) {o : Int} (hd : decode c.code pc = .ok (.ifnonnull o, 3)) (hp : pc + 3 = pc')  (K : own_Ends p e below s Q kc ks T (mkF m pc' ls st)) : own_Ends p e below s Q kc ks T (mkF m pc ls (.null :: st)) := by
  subst hp
  exact own_go (fun t k => XS.ifnonnullNo X.here hx rfl hd rfl k) K
theorem own_acmpYes (X : Stand p l e R s m args below meth c T locs cells slots) (hx : p.tables.exec = Jvm.exec) {o : Int} {cd : ACond} {v w : Value} (hd : decode c.code pc = .ok (.if_acmp cd o, 3)) (h1 : v.isRef = true) (h2 : w.isRef = true) (hc : XT.acmp cd v w = true) (ho : 0 ≤ (pc : Int) + o) (hp : ((pc : Int) + o).toNat = pc') (K : own_Ends p e below s Q kc ks T (mkF m pc' ls st)) : own_Ends p e below s Q kc ks T (mkF m pc ls (w :: v :: st)) :=
  own_go (fun t k => XT.acmpYes X.here hx rfl rfl hd rfl h1 h2 hc ho hp k) K
theorem own_acmpNo (X : Stand p l e R s m args below meth c T locs cells slots) (hx : p.tables.exec = Jvm.exec) {o : Int} {cd : ACond} {v w : Value} (hd : decode c.code pc = .ok (.if_acmp cd o, 3)) (hp : pc + 3 = pc') (h1 : v.isRef = true) (h2 : w.isRef = true) (hc : XT.acmp cd v w = false) (K : own_Ends p e below s Q kc ks T (mkF m pc' ls st)) : own_Ends p e below s Q kc ks T (mkF m pc ls (w :: v :: st)) := by
  subst hp
  exact own_go (fun t k => XT.acmpNo X.here hx rfl hd rfl h1 h2 hc k) K
theorem own_ldcI (X : Stand p l e R s m args below meth c T locs cells slots) (hx : p.tables.exec = Jvm.exec) {own : String} {ix : Nat} {v : Int32} {Z : State} {a0 : Array Value} (hZ : Z.Warmed39 s.vm) (hown : s.vm.findClass own = some m.cls) (w : (Jvm.Cond.constant own ix v).before a0 Z = true) (hd : decode c.code pc = .ok (.ldc ix, 2)) (hp : pc + 2 = pc')  (K : own_Ends p e below s Q kc ks T (mkF m pc' ls (.int v :: st))) : own_Ends p e below s Q kc ks T (mkF m pc ls st) := by
  subst hp
  exact own_go (fun t k => X.ldcInt hx hown (mvT hZ w) (g := mkF m pc ls st) rfl hd t k) K
theorem own_ldcwI (X : Stand p l e R s m args below meth c T locs cells slots) (hx : p.tables.exec = Jvm.exec) {own : String} {ix : Nat} {v : Int32} {Z : State} {a0 : Array Value} (hZ : Z.Warmed39 s.vm) (hown : s.vm.findClass own = some m.cls) (w : (Jvm.Cond.constant own ix v).before a0 Z = true) (hd : decode c.code pc = .ok (.ldc_w ix, 3)) (hp : pc + 3 = pc')  (K : own_Ends p e below s Q kc ks T (mkF m pc' ls (.int v :: st))) : own_Ends p e below s Q kc ks T (mkF m pc ls st) := by
  subst hp
  exact own_go (fun t k => X.ldcwInt hx hown (mvT hZ w) (g := mkF m pc ls st) rfl hd t k) K
theorem own_ldc2J (X : Stand p l e R s m args below meth c T locs cells slots) (hx : p.tables.exec = Jvm.exec) {own : String} {ix : Nat} {v : Int64} {Z : State} {a0 : Array Value} (hZ : Z.Warmed39 s.vm) (hown : s.vm.findClass own = some m.cls) (w : (Jvm.Cond.constantLong own ix v).before a0 Z = true) (hd : decode c.code pc = .ok (.ldc2_w ix, 3)) (hp : pc + 3 = pc')  (K : own_Ends p e below s Q kc ks T (mkF m pc' ls (.long v :: st))) : own_Ends p e below s Q kc ks T (mkF m pc ls st) := by
  subst hp
  exact own_go (fun t k => X.ldc2Long hx hown (mvT hZ w) (g := mkF m pc ls st) rfl hd t k) K
theorem own_iaload (X : Stand p l e R s m args below meth c T locs cells slots) (hx : p.tables.exec = Jvm.exec) {Z : State} {h : Heap} {a : Addr} {k : ClassId} {n j : Int32} {vs : List Value} {d v : Value} (hZ : Z.Warmed39 s.vm) (eT : T.heap = h) (V : Arv Z h a k .int n vs d) (hd : decode c.code pc = .ok (.iaload, 1)) (hp : pc + 1 = pc') (hj : ¬ j < 0 ∧ j < n) (hv : vs.getD j.toNatClampNeg d = v) (K : own_Ends p e below s Q kc ks T (mkF m pc' ls (v :: st))) : own_Ends p e below s Q kc ks T (mkF m pc ls (.int j :: .ref a :: st)) := by
  subst hp
  obtain ⟨cl, A, q1, S, q2, H, G⟩ := V
  have hin := inb_of S hj
  exact own_go (fun t k => X.iaload hx (by rw [eT]; exact A.1) (State.isArrayOf_alike hZ.alike A.2.1) A.2.2 hin (H.at hin hv) (g := mkF m pc ls (.int j :: .ref a :: st)) rfl rfl hd t k) K
theorem own_laload (X : Stand p l e R s m args below meth c T locs cells slots) (hx : p.tables.exec = Jvm.exec) {Z : State} {h : Heap} {a : Addr} {k : ClassId} {n j : Int32} {vs : List Value} {d v : Value} (hZ : Z.Warmed39 s.vm) (eT : T.heap = h) (V : Arv Z h a k .long n vs d) (hd : decode c.code pc = .ok (.laload, 1)) (hp : pc + 1 = pc') (hj : ¬ j < 0 ∧ j < n) (hv : vs.getD j.toNatClampNeg d = v) (K : own_Ends p e below s Q kc ks T (mkF m pc' ls (v :: st))) : own_Ends p e below s Q kc ks T (mkF m pc ls (.int j :: .ref a :: st)) := by
  subst hp
  obtain ⟨cl, A, q1, S, q2, H, G⟩ := V
  have hin := inb_of S hj
  exact own_go (fun t k => X.laload hx (by rw [eT]; exact A.1) (State.isArrayOf_alike hZ.alike A.2.1) A.2.2 hin (H.at hin hv) (g := mkF m pc ls (.int j :: .ref a :: st)) rfl rfl hd t k) K
theorem own_caload (X : Stand p l e R s m args below meth c T locs cells slots) (hx : p.tables.exec = Jvm.exec) {Z : State} {h : Heap} {a : Addr} {k : ClassId} {n j : Int32} {vs : List Value} {d v : Value} (hZ : Z.Warmed39 s.vm) (eT : T.heap = h) (V : Arv Z h a k .char n vs d) (hd : decode c.code pc = .ok (.caload, 1)) (hp : pc + 1 = pc') (hj : ¬ j < 0 ∧ j < n) (hv : vs.getD j.toNatClampNeg d = v) (K : own_Ends p e below s Q kc ks T (mkF m pc' ls (v :: st))) : own_Ends p e below s Q kc ks T (mkF m pc ls (.int j :: .ref a :: st)) := by
  subst hp
  obtain ⟨cl, A, q1, S, q2, H, G⟩ := V
  have hin := inb_of S hj
  exact own_go (fun t k => X.caload hx (by rw [eT]; exact A.1) (State.isArrayOf_alike hZ.alike A.2.1) A.2.2 hin (H.at hin hv) (g := mkF m pc ls (.int j :: .ref a :: st)) rfl rfl hd t k) K
theorem own_baload (X : Stand p l e R s m args below meth c T locs cells slots) (hx : p.tables.exec = Jvm.exec) {Z : State} {h : Heap} {a : Addr} {k : ClassId} {n j : Int32} {vs : List Value} {d v : Value} (hZ : Z.Warmed39 s.vm) (eT : T.heap = h) (V : Arv Z h a k .byte n vs d) (hd : decode c.code pc = .ok (.baload, 1)) (hp : pc + 1 = pc') (hj : ¬ j < 0 ∧ j < n) (hv : vs.getD j.toNatClampNeg d = v) (K : own_Ends p e below s Q kc ks T (mkF m pc' ls (v :: st))) : own_Ends p e below s Q kc ks T (mkF m pc ls (.int j :: .ref a :: st)) := by
  subst hp
  obtain ⟨cl, A, q1, S, q2, H, G⟩ := V
  have hin := inb_of S hj
  exact own_go (fun t k => X.baloadBytes hx (by rw [eT]; exact A.1) (State.isArrayOf_alike hZ.alike A.2.1) A.2.2 hin (H.at hin hv) (g := mkF m pc ls (.int j :: .ref a :: st)) rfl rfl hd t k) K
theorem own_zaload (X : Stand p l e R s m args below meth c T locs cells slots) (hx : p.tables.exec = Jvm.exec) {Z : State} {h : Heap} {a : Addr} {k : ClassId} {n j : Int32} {vs : List Value} {d v : Value} (hZ : Z.Warmed39 s.vm) (eT : T.heap = h) (V : Arv Z h a k .boolean n vs d) (hd : decode c.code pc = .ok (.baload, 1)) (hp : pc + 1 = pc') (hj : ¬ j < 0 ∧ j < n) (hv : vs.getD j.toNatClampNeg d = v) (K : own_Ends p e below s Q kc ks T (mkF m pc' ls (v :: st))) : own_Ends p e below s Q kc ks T (mkF m pc ls (.int j :: .ref a :: st)) := by
  subst hp
  obtain ⟨cl, A, q1, S, q2, H, G⟩ := V
  have hin := inb_of S hj
  exact own_go (fun t k => X.baloadBooleans hx (by rw [eT]; exact A.1) (State.isArrayOf_alike hZ.alike A.2.1) A.2.2 hin (H.at hin hv) (g := mkF m pc ls (.int j :: .ref a :: st)) rfl rfl hd t k) K
theorem own_daload (X : Stand p l e R s m args below meth c T locs cells slots) (hx : p.tables.exec = Jvm.exec) {Z : State} {h : Heap} {a : Addr} {k : ClassId} {n j : Int32} {vs : List Value} {d v : Value} (hZ : Z.Warmed39 s.vm) (eT : T.heap = h) (V : Arv Z h a k .double n vs d) (hd : decode c.code pc = .ok (.daload, 1)) (hp : pc + 1 = pc') (hj : ¬ j < 0 ∧ j < n) (hv : vs.getD j.toNatClampNeg d = v) (K : own_Ends p e below s Q kc ks T (mkF m pc' ls (v :: st))) : own_Ends p e below s Q kc ks T (mkF m pc ls (.int j :: .ref a :: st)) := by
  subst hp
  obtain ⟨cl, A, q1, S, q2, H, G⟩ := V
  have hin := inb_of S hj
  exact own_go (fun t k => X.daload hx (by rw [eT]; exact A.1) (State.isArrayOf_alike hZ.alike A.2.1) A.2.2 hin (H.at hin hv) (g := mkF m pc ls (.int j :: .ref a :: st)) rfl rfl hd t k) K
theorem own_alen (X : Stand p l e R s m args below meth c T locs cells slots) (hx : p.tables.exec = Jvm.exec) {Z : State} {h : Heap} {a : Addr} {k : ClassId} {ty : FieldType} {n : Int32} {vs : List Value} {d : Value} (hZ : Z.Warmed39 s.vm) (eT : T.heap = h) (V : Arv Z h a k ty n vs d) (hd : decode c.code pc = .ok (.arraylength, 1)) (hp : pc + 1 = pc')  (K : own_Ends p e below s Q kc ks T (mkF m pc' ls (.int n :: st))) : own_Ends p e below s Q kc ks T (mkF m pc ls (.ref a :: st)) := by
  subst hp
  obtain ⟨cl, A, q1, S, q2, H, G⟩ := V
  rw [← len_of S q2] at K
  exact own_go (fun t k => X.arraylength hx (by rw [eT]; exact A.1) (State.isArrayOf_alike hZ.alike A.2.1) (g := mkF m pc ls (.ref a :: st)) rfl rfl hd t k) K
theorem own_iastore (X : Stand p l e R s m args below meth c T locs cells slots) (hx : p.tables.exec = Jvm.exec) {Z : State} {h : Heap} {a : Addr} {k : ClassId} {n j : Int32} {vs : List Value} {d : Value} {x : Int32} (hZ : Z.Warmed39 s.vm) (eT : T.heap = h) (V : Arv Z h a k .int n vs d) (hd : decode c.code pc = .ok (.iastore, 1)) (hp : pc + 1 = pc') (hj : ¬ j < 0 ∧ j < n) (i : Nat) (hi : j.toNatClampNeg = i) (hl : i < vs.length) {n0 : Nat} (N : Fr n0 locs) (ge : n0 ≤ a)
    (K : ∀ T' h' L, Stand p l e R s m args below meth c T' L cells slots → T'.heap = h' → Fr n0 L → Wr h h' a j.toNatClampNeg (.int x) → Arv Z h' a k .int n (vs.set i (.int x)) d → own_Ends p e below s Q kc ks T' (mkF m pc' ls st)) : own_Ends p e below s Q kc ks T (mkF m pc ls (.int x :: .int j :: .ref a :: st)) := by
  subst hp
  obtain ⟨cl, A, q1, S, q2, H, G⟩ := V
  have hin := inb_of S hj
  obtain ⟨T1, h1, X1, e1, W1, st1⟩ := stI X hx hZ eT A (j := j) hin (g := mkF m pc ls (.int x :: .int j :: .ref a :: st)) rfl rfl hd
  exact own_go st1 (K T1 h1 _ X1 e1 (Fr.snoc X1 N ge) W1 (Arv.set A q1 S q2 H G rfl W1 i hi hl))
theorem own_lastore (X : Stand p l e R s m args below meth c T locs cells slots) (hx : p.tables.exec = Jvm.exec) {Z : State} {h : Heap} {a : Addr} {k : ClassId} {n j : Int32} {vs : List Value} {d : Value} {x : Int64} (hZ : Z.Warmed39 s.vm) (eT : T.heap = h) (V : Arv Z h a k .long n vs d) (hd : decode c.code pc = .ok (.lastore, 1)) (hp : pc + 1 = pc') (hj : ¬ j < 0 ∧ j < n) (i : Nat) (hi : j.toNatClampNeg = i) (hl : i < vs.length) {n0 : Nat} (N : Fr n0 locs) (ge : n0 ≤ a)
    (K : ∀ T' h' L, Stand p l e R s m args below meth c T' L cells slots → T'.heap = h' → Fr n0 L → Wr h h' a j.toNatClampNeg (.long x) → Arv Z h' a k .long n (vs.set i (.long x)) d → own_Ends p e below s Q kc ks T' (mkF m pc' ls st)) : own_Ends p e below s Q kc ks T (mkF m pc ls (.long x :: .int j :: .ref a :: st)) := by
  subst hp
  obtain ⟨cl, A, q1, S, q2, H, G⟩ := V
  have hin := inb_of S hj
  obtain ⟨T1, h1, X1, e1, W1, st1⟩ := stJ X hx hZ eT A (j := j) hin (g := mkF m pc ls (.long x :: .int j :: .ref a :: st)) rfl rfl hd
  exact own_go st1 (K T1 h1 _ X1 e1 (Fr.snoc X1 N ge) W1 (Arv.set A q1 S q2 H G rfl W1 i hi hl))
theorem own_dastore (X : Stand p l e R s m args below meth c T locs cells slots) (hx : p.tables.exec = Jvm.exec) {Z : State} {h : Heap} {a : Addr} {k : ClassId} {n j : Int32} {vs : List Value} {d : Value} {x : UInt64} (hZ : Z.Warmed39 s.vm) (eT : T.heap = h) (V : Arv Z h a k .double n vs d) (hd : decode c.code pc = .ok (.dastore, 1)) (hp : pc + 1 = pc') (hj : ¬ j < 0 ∧ j < n) (i : Nat) (hi : j.toNatClampNeg = i) (hl : i < vs.length) {n0 : Nat} (N : Fr n0 locs) (ge : n0 ≤ a)
    (K : ∀ T' h' L, Stand p l e R s m args below meth c T' L cells slots → T'.heap = h' → Fr n0 L → Wr h h' a j.toNatClampNeg (.double x) → Arv Z h' a k .double n (vs.set i (.double x)) d → own_Ends p e below s Q kc ks T' (mkF m pc' ls st)) : own_Ends p e below s Q kc ks T (mkF m pc ls (.double x :: .int j :: .ref a :: st)) := by
  subst hp
  obtain ⟨cl, A, q1, S, q2, H, G⟩ := V
  have hin := inb_of S hj
  obtain ⟨T1, h1, X1, e1, W1, st1⟩ := stD X hx hZ eT A (j := j) hin (g := mkF m pc ls (.double x :: .int j :: .ref a :: st)) rfl rfl hd
  exact own_go st1 (K T1 h1 _ X1 e1 (Fr.snoc X1 N ge) W1 (Arv.set A q1 S q2 H G rfl W1 i hi hl))
theorem own_castore (X : Stand p l e R s m args below meth c T locs cells slots) (hx : p.tables.exec = Jvm.exec) {Z : State} {h : Heap} {a : Addr} {k : ClassId} {n j : Int32} {vs : List Value} {d : Value} {x : Int32} (hZ : Z.Warmed39 s.vm) (eT : T.heap = h) (V : Arv Z h a k .char n vs d) (hd : decode c.code pc = .ok (.castore, 1)) (hp : pc + 1 = pc') (hj : ¬ j < 0 ∧ j < n) (i : Nat) (hi : j.toNatClampNeg = i) (hl : i < vs.length) {n0 : Nat} (N : Fr n0 locs) (ge : n0 ≤ a)
    (K : ∀ T' h' L, Stand p l e R s m args below meth c T' L cells slots → T'.heap = h' → Fr n0 L → Wr h h' a j.toNatClampNeg (.int (nar .char x)) → Arv Z h' a k .char n (vs.set i (.int (nar .char x))) d → own_Ends p e below s Q kc ks T' (mkF m pc' ls st)) : own_Ends p e below s Q kc ks T (mkF m pc ls (.int x :: .int j :: .ref a :: st)) := by
  subst hp
  obtain ⟨cl, A, q1, S, q2, H, G⟩ := V
  have hin := inb_of S hj
  obtain ⟨T1, h1, X1, e1, W1, st1⟩ := stC X hx hZ eT A (j := j) hin (g := mkF m pc ls (.int x :: .int j :: .ref a :: st)) rfl rfl hd
  exact own_go st1 (K T1 h1 _ X1 e1 (Fr.snoc X1 N ge) W1 (Arv.set A q1 S q2 H G (fits_nar_char _) W1 i hi hl))
theorem own_bastore (X : Stand p l e R s m args below meth c T locs cells slots) (hx : p.tables.exec = Jvm.exec) {Z : State} {h : Heap} {a : Addr} {k : ClassId} {n j : Int32} {vs : List Value} {d : Value} {x : Int32} (hZ : Z.Warmed39 s.vm) (eT : T.heap = h) (V : Arv Z h a k .byte n vs d) (hd : decode c.code pc = .ok (.bastore, 1)) (hp : pc + 1 = pc') (hj : ¬ j < 0 ∧ j < n) (i : Nat) (hi : j.toNatClampNeg = i) (hl : i < vs.length) {n0 : Nat} (N : Fr n0 locs) (ge : n0 ≤ a)
    (K : ∀ T' h' L, Stand p l e R s m args below meth c T' L cells slots → T'.heap = h' → Fr n0 L → Wr h h' a j.toNatClampNeg (.int (nar .byte x)) → Arv Z h' a k .byte n (vs.set i (.int (nar .byte x))) d → own_Ends p e below s Q kc ks T' (mkF m pc' ls st)) : own_Ends p e below s Q kc ks T (mkF m pc ls (.int x :: .int j :: .ref a :: st)) := by
  subst hp
  obtain ⟨cl, A, q1, S, q2, H, G⟩ := V
  have hin := inb_of S hj
  obtain ⟨T1, h1, X1, e1, W1, st1⟩ := stB X hx hZ eT A (j := j) hin (g := mkF m pc ls (.int x :: .int j :: .ref a :: st)) rfl rfl hd
  exact own_go st1 (K T1 h1 _ X1 e1 (Fr.snoc X1 N ge) W1 (Arv.set A q1 S q2 H G (fits_nar_byte _) W1 i hi hl))
theorem own_zastore (X : Stand p l e R s m args below meth c T locs cells slots) (hx : p.tables.exec = Jvm.exec) {Z : State} {h : Heap} {a : Addr} {k : ClassId} {n j : Int32} {vs : List Value} {d : Value} {x : Int32} (hZ : Z.Warmed39 s.vm) (eT : T.heap = h) (V : Arv Z h a k .boolean n vs d) (hd : decode c.code pc = .ok (.bastore, 1)) (hp : pc + 1 = pc') (hj : ¬ j < 0 ∧ j < n) (i : Nat) (hi : j.toNatClampNeg = i) (hl : i < vs.length) {n0 : Nat} (N : Fr n0 locs) (ge : n0 ≤ a)
    (K : ∀ T' h' L, Stand p l e R s m args below meth c T' L cells slots → T'.heap = h' → Fr n0 L → Wr h h' a j.toNatClampNeg (.int (nar .boolean x)) → Arv Z h' a k .boolean n (vs.set i (.int (nar .boolean x))) d → own_Ends p e below s Q kc ks T' (mkF m pc' ls st)) : own_Ends p e below s Q kc ks T (mkF m pc ls (.int x :: .int j :: .ref a :: st)) := by
  subst hp
  obtain ⟨cl, A, q1, S, q2, H, G⟩ := V
  have hin := inb_of S hj
  obtain ⟨T1, h1, X1, e1, W1, st1⟩ := stZ X hx hZ eT A (j := j) hin (g := mkF m pc ls (.int x :: .int j :: .ref a :: st)) rfl rfl hd
  exact own_go st1 (K T1 h1 _ X1 e1 (Fr.snoc X1 N ge) W1 (Arv.set A q1 S q2 H G (fits_nar_bool _) W1 i hi hl))
theorem own_newarr (X : Stand p l e R s m args below meth c T locs cells slots) (hx : p.tables.exec = Jvm.exec) {Z : State} {a0 : Array Value} {h : Heap} {aty : ArrayType} (hZ : Z.Warmed39 s.vm) (w : (Jvm.Cond.arrayClass (newarray.typeOf aty)).before a0 Z = true) (eT : T.heap = h) (hd : decode c.code pc = .ok (.newarray aty, 2)) (hp : pc + 2 = pc') {n : Int32} (hn : ¬ n < 0) (cap q : Nat) (hcap : n.toNatClampNeg ≤ cap) (hb : cap * 8 ≤ 536870912) (hc : cells + 1 ≤ R.cells) (hl : slots + cap ≤ R.slots)
    (K : ∀ T' h' a k, Stand p l e R s m args below meth c T' locs (cells + 1) (slots + cap) → T'.heap = h' → Ext h h' → a = h.size → Arv Z h' a k (newarray.typeOf aty) n (List.replicate q (defaultValue (newarray.typeOf aty))) (defaultValue (newarray.typeOf aty)) → own_Ends p e below s Q kc ks T' (mkF m pc' ls (.ref a :: st))) : own_Ends p e below s Q kc ks T (mkF m pc ls (.int n :: st)) := by
  subst hp
  obtain ⟨T1, h1, k1, X1, e1, E1, A1, st1⟩ := newP X hx hZ w eT (g := mkF m pc ls (.int n :: st)) rfl hd rfl hn (cap := cap) hcap hb hc hl
  exact own_go st1 (K T1 h1 _ k1 X1 e1 E1 rfl ((Arv.new A1 hn).pad (pad_rep [] _ q)))
theorem own_newarrE (X : Stand p l e R s m args below meth c T locs cells slots) (hx : p.tables.exec = Jvm.exec) {Z : State} {a0 : Array Value} {h : Heap} {aty : ArrayType} (hZ : Z.Warmed39 s.vm) (w : (Jvm.Cond.arrayClass (newarray.typeOf aty)).before a0 Z = true) (eT : T.heap = h) (hd : decode c.code pc = .ok (.newarray aty, 2)) (hp : pc + 2 = pc') {n : Int32} (hn : ¬ n < 0) (cap q : Nat) (hcap : n.toNatClampNeg ≤ cap) (hb : cap * 8 ≤ 536870912) (hc : cells + 1 ≤ R.cells) (hl : slots + cap ≤ R.slots) {ad : String} (had : "[" ++ (newarray.typeOf aty).toString = ad)
    (K : ∀ T' h' a k, Stand p l e R s m args below meth c T' locs (cells + 1) (slots + cap) → T'.heap = h' → Ext h h' → a = h.size → Arv Z h' a k (newarray.typeOf aty) n (List.replicate q (defaultValue (newarray.typeOf aty))) (defaultValue (newarray.typeOf aty)) → Exa Z h' a ad → own_Ends p e below s Q kc ks T' (mkF m pc' ls (.ref a :: st))) : own_Ends p e below s Q kc ks T (mkF m pc ls (.int n :: st)) := by
  subst hp
  obtain ⟨T1, h1, k1, X1, e1, E1, A1, Z1, st1⟩ := newPE X hx hZ w eT (g := mkF m pc ls (.int n :: st)) rfl hd rfl hn (cap := cap) hcap hb hc hl had
  exact own_go st1 (K T1 h1 _ k1 X1 e1 E1 rfl ((Arv.new A1 hn).pad (pad_rep [] _ q)) Z1)
theorem own_callS (X : Stand p l e R s m args below meth c T locs cells slots) (hx : p.tables.exec = Jvm.exec) {Z : State} {a0 : Array Value} {h : Heap} {own : String} {ix : Nat} {y : MethodName} {bytes : ByteArray} {maxL W : Nat} {ret : Option FieldType} {rm : Room} {Qc : Option Value → Heap → List Loc → Prop} {argsL rest : List Value} (hZ : Z.Warmed39 s.vm) (eT : T.heap = h) (hown : s.vm.findClass own = some m.cls) (hsz : ls.size = c.maxLocals) (wl : (Jvm.Cond.methodLink own ix y).before a0 Z = true) (ws : (Jvm.Cond.static y).before a0 Z = true) (wi : (Jvm.Cond.initialized y.cls).before a0 Z = true) (wc : (Jvm.Cond.code y bytes maxL ret).before a0 Z = true) (hy : y.cls ≠ "java/lang/invoke/MethodHandle" ∧ y.cls ≠ "java/lang/invoke/VarHandle") (hM : MetFree l y (head1 [Jvm.Cond.code y bytes maxL ret] rm) (fun a U => a = argsL.toArray ∧ Z.Warmed39 U.vm ∧ U.heap = h) (fun _ _ _ _ _ => True) (fun _ U o U' => ∃ v L, o = .returned v ∧ Qc v U'.heap L ∧ FrameEnd U o U' L rm.cells rm.slots)) (hf : rm.frames + 1 ≤ R.frames) (hlo : W + (maxL + 11) + rm.locals ≤ R.locals) (hcl : cells + rm.cells ≤ R.cells) (hsl : slots + rm.slots ≤ R.slots)
    (hlen : ∀ sig, parseMethodDescriptor y.desc = some sig → argsL.length = sig.parameters.length) (hst : st = argsL.reverse ++ rest) (hW : 2 * 0 + (rest.map fun v => v.category).sum ≤ W) (hd : decode c.code pc = .ok (.invokestatic ix, 3)) (hp : pc + 3 = pc') (K : ∀ T' L v, Stand p l e R s m args below meth c T' (locs ++ L) (cells + rm.cells) (slots + rm.slots) → Qc v T'.heap L → own_Ends p e below s Q kc ks T' (mkF m pc' ls (v.toList ++ rest))) : own_Ends p e below s Q kc ks T (mkF m pc ls st) := by
  subst hp
  obtain ⟨v, _, ⟨T1, L1, k1, n1⟩, -, X1, ⟨Lc, hQ, r1, r2, r3⟩, st1⟩ := Jvm.LawKit.callS X hx (y := y) hown (mvT hZ wl) (mvT hZ ws) (mvT hZ wi) (mvT hZ wc) hy (backOf (W := W) hM hZ wc wi hf hlo) (g := mkF m pc ls st) rfl hsz (argsL := argsL) (rest := rest) hlen hst hW hd (fun _ _ => ⟨rfl, eT, hcl, hsl⟩)
  dsimp only [Pt.U, Pt.locs, Pt.cells, Pt.slots] at X1 r1 r2 r3 st1 hQ
  subst r1 r2 r3
  exact own_go (st1) (K T1 Lc v X1 hQ)
theorem own_callC (X : Stand p l e R s m args below meth c T locs cells slots) (hx : p.tables.exec = Jvm.exec) {b : Addr} {Z : State} {a0 : Array Value} {h : Heap} {own : String} {ix : Nat} {y : MethodName} {bytes : ByteArray} {maxL W : Nat} {ret : Option FieldType} {rm : Room} {Qc : Option Value → Heap → List Loc → Prop} {argsL rest : List Value} (hZ : Z.Warmed39 s.vm) (eT : T.heap = h) (hown : s.vm.findClass own = some m.cls) (hsz : ls.size = c.maxLocals) (hret : ret = none) (hinit : y.name = "<init>") (wl : (Jvm.Cond.methodLink own ix y).before a0 Z = true) (wm : (Jvm.Cond.instanceMethod y).before a0 Z = true) (wi : (Jvm.Cond.initialized y.cls).before a0 Z = true) (wc : (Jvm.Cond.code y bytes maxL ret).before a0 Z = true) (hy : y.cls ≠ "java/lang/invoke/MethodHandle" ∧ y.cls ≠ "java/lang/invoke/VarHandle") (hM : MetFree l y (head1 [Jvm.Cond.code y bytes maxL ret] rm) (fun a U => a = (Value.ref b :: argsL).toArray ∧ Z.Warmed39 U.vm ∧ U.heap = h) (fun _ _ _ _ _ => True) (fun _ U o U' => ∃ v L, o = .returned v ∧ Qc v U'.heap L ∧ FrameEnd U o U' L rm.cells rm.slots)) (hf : rm.frames + 1 ≤ R.frames) (hlo : W + (maxL + 11) + rm.locals ≤ R.locals) (hcl : cells + rm.cells ≤ R.cells) (hsl : slots + rm.slots ≤ R.slots)
    (hlen : ∀ sig, parseMethodDescriptor y.desc = some sig → argsL.length = sig.parameters.length) (hst : st = argsL.reverse ++ .ref b :: rest) (hW : 2 * 0 + (rest.map fun v => v.category).sum ≤ W) (hd : decode c.code pc = .ok (.invokespecial ix, 3)) (hp : pc + 3 = pc') (K : ∀ T' L v, Stand p l e R s m args below meth c T' (locs ++ L) (cells + rm.cells) (slots + rm.slots) → Qc v T'.heap L → own_Ends p e below s Q kc ks T' (mkF m pc' ls (v.toList ++ rest))) : own_Ends p e below s Q kc ks T (mkF m pc ls st) := by
  subst hp hret
  obtain ⟨v, _, ⟨T1, L1, k1, n1⟩, -, X1, ⟨Lc, hQ, r1, r2, r3⟩, st1⟩ := X.specialBack hx (y := y) hinit hown (mvT hZ wl) (mvT hZ wm) (mvT hZ wc) hy (backOf (W := W) hM hZ wc wi hf hlo) (g := mkF m pc ls st) rfl hsz (Steps.refl _) (a := b) (argsL := argsL) (rest := rest) hlen hst hW hd (fun _ _ => ⟨rfl, eT, hcl, hsl⟩)
  dsimp only [Pt.U, Pt.locs, Pt.cells, Pt.slots] at X1 r1 r2 r3 st1 hQ
  subst r1 r2 r3
  exact own_go (fun t k => st1.trans k) (K T1 Lc v X1 hQ)
theorem own_callV (X : Stand p l e R s m args below meth c T locs cells slots) (hx : p.tables.exec = Jvm.exec) {b : Addr} {C : String} {Z : State} {a0 : Array Value} {h : Heap} {own : String} {ix : Nat} {y : MethodName} {bytes : ByteArray} {maxL W : Nat} {ret : Option FieldType} {rm : Room} {Qc : Option Value → Heap → List Loc → Prop} {argsL rest : List Value} (hZ : Z.Warmed39 s.vm) (eT : T.heap = h) (hown : s.vm.findClass own = some m.cls) (hsz : ls.size = c.maxLocals) (E : Exa Z h b C) (wl : (Jvm.Cond.methodLink own ix y).before a0 Z = true) (wd : (Jvm.Cond.declares y).before a0 Z = true) (wsel : (Jvm.Cond.selects C y y).before a0 Z = true) (wm : (Jvm.Cond.instanceMethod y).before a0 Z = true) (wi : (Jvm.Cond.initialized y.cls).before a0 Z = true) (wc : (Jvm.Cond.code y bytes maxL ret).before a0 Z = true) (hy : y.cls ≠ "java/lang/invoke/MethodHandle" ∧ y.cls ≠ "java/lang/invoke/VarHandle") (hM : MetFree l y (head1 [Jvm.Cond.code y bytes maxL ret] rm) (fun a U => a = (Value.ref b :: argsL).toArray ∧ Z.Warmed39 U.vm ∧ U.heap = h) (fun _ _ _ _ _ => True) (fun _ U o U' => ∃ v L, o = .returned v ∧ Qc v U'.heap L ∧ FrameEnd U o U' L rm.cells rm.slots)) (hf : rm.frames + 1 ≤ R.frames) (hlo : W + (maxL + 11) + rm.locals ≤ R.locals) (hcl : cells + rm.cells ≤ R.cells) (hsl : slots + rm.slots ≤ R.slots)
    (hlen : ∀ sig, parseMethodDescriptor y.desc = some sig → argsL.length = sig.parameters.length) (hst : st = argsL.reverse ++ .ref b :: rest) (hW : 2 * 0 + (rest.map fun v => v.category).sum ≤ W) (hd : decode c.code pc = .ok (.invokevirtual ix, 3)) (hp : pc + 3 = pc') (K : ∀ T' L v, Stand p l e R s m args below meth c T' (locs ++ L) (cells + rm.cells) (slots + rm.slots) → Qc v T'.heap L → own_Ends p e below s Q kc ks T' (mkF m pc' ls (v.toList ++ rest))) : own_Ends p e below s Q kc ks T (mkF m pc ls st) := by
  subst hp
  obtain ⟨cq, kq, qa, qb, qc⟩ := isOf hZ eT E
  obtain ⟨v, _, ⟨T1, L1, k1, n1⟩, -, X1, ⟨Lc, hQ, r1, r2, r3⟩, st1⟩ := X.virtualBack hx (y := y) (z := y) hown (mvT hZ wl) (mvT hZ wd) (notFace_of_selects (args := #[]) (mvT hZ wsel)) (mvT hZ wsel) (mvT hZ wm) hy (backOf (W := W) hM hZ wc wi hf hlo) qa qc (g := mkF m pc ls st) rfl hsz (Steps.refl _) (argsL := argsL) (rest := rest) hlen hst hW hd (fun _ _ => ⟨rfl, eT, hcl, hsl⟩)
  dsimp only [Pt.U, Pt.locs, Pt.cells, Pt.slots] at X1 r1 r2 r3 st1 hQ
  subst r1 r2 r3
  exact own_go (fun t k => st1.trans k) (K T1 Lc v X1 hQ)
theorem own_callP (X : Stand p l e R s m args below meth c T locs cells slots) (hx : p.tables.exec = Jvm.exec) {b : Addr} {C : String} {Z : State} {a0 : Array Value} {h : Heap} {own : String} {ix : Nat} {y : MethodName} {bytes : ByteArray} {maxL W : Nat} {ret : Option FieldType} {rm : Room} {Qc : Option Value → Heap → List Loc → Prop} {argsL rest : List Value} (hZ : Z.Warmed39 s.vm) (eT : T.heap = h) (hown : s.vm.findClass own = some m.cls) (hsz : ls.size = c.maxLocals) (E : Exa Z h b C) (wl : (Jvm.Cond.methodLink own ix y).before a0 Z = true) (wsel : (Jvm.Cond.selects y.cls y y).before a0 Z = true) (wp : (Jvm.Cond.privateMethod y).before a0 Z = true) (wm : (Jvm.Cond.instanceMethod y).before a0 Z = true) (wi : (Jvm.Cond.initialized y.cls).before a0 Z = true) (wc : (Jvm.Cond.code y bytes maxL ret).before a0 Z = true) (hy : y.cls ≠ "java/lang/invoke/MethodHandle" ∧ y.cls ≠ "java/lang/invoke/VarHandle") (hM : MetFree l y (head1 [Jvm.Cond.code y bytes maxL ret] rm) (fun a U => a = (Value.ref b :: argsL).toArray ∧ Z.Warmed39 U.vm ∧ U.heap = h) (fun _ _ _ _ _ => True) (fun _ U o U' => ∃ v L, o = .returned v ∧ Qc v U'.heap L ∧ FrameEnd U o U' L rm.cells rm.slots)) (hf : rm.frames + 1 ≤ R.frames) (hlo : W + (maxL + 11) + rm.locals ≤ R.locals) (hcl : cells + rm.cells ≤ R.cells) (hsl : slots + rm.slots ≤ R.slots)
    (hlen : ∀ sig, parseMethodDescriptor y.desc = some sig → argsL.length = sig.parameters.length) (hst : st = argsL.reverse ++ .ref b :: rest) (hW : 2 * 0 + (rest.map fun v => v.category).sum ≤ W) (hd : decode c.code pc = .ok (.invokevirtual ix, 3)) (hp : pc + 3 = pc') (K : ∀ T' L v, Stand p l e R s m args below meth c T' (locs ++ L) (cells + rm.cells) (slots + rm.slots) → Qc v T'.heap L → own_Ends p e below s Q kc ks T' (mkF m pc' ls (v.toList ++ rest))) : own_Ends p e below s Q kc ks T (mkF m pc ls st) := by
  subst hp
  obtain ⟨cq, qa, qb⟩ := E.cell
  obtain ⟨v, _, ⟨T1, L1, k1, n1⟩, -, X1, ⟨Lc, hQ, r1, r2, r3⟩, st1⟩ := X.privateBack hx (y := y) hown (mvT hZ wl) (mvT hZ wm) (mvT hZ wsel) (Jvm.Cond.privateMethod_at (mvP hZ wp (args := #[]))) (mvT hZ wc) hy (backOf (W := W) hM hZ wc wi hf hlo) (g := mkF m pc ls st) rfl hsz (Steps.refl _) (a := b) (by rw [eT]; exact qa) qb (argsL := argsL) (rest := rest) hlen hst hW hd (fun _ _ => ⟨rfl, eT, hcl, hsl⟩)
  dsimp only [Pt.U, Pt.locs, Pt.cells, Pt.slots] at X1 r1 r2 r3 st1 hQ
  subst r1 r2 r3
  exact own_go (fun t k => st1.trans k) (K T1 Lc v X1 hQ)
theorem own_mvM {Z : State} {a0 args : Array Value} {own host : String} {ix : Nat} {y : MethodName} (hZ : Z.Warmed39 s.vm) (w : (Jvm.Cond.methodLinkNest own ix y host).before a0 Z = true) : (Jvm.Cond.methodLinkNest own ix y host).before args s = true := (Jvm.Cond.methodLinkNest_wide hZ w :)
theorem own_callN (X : Stand p l e R s m args below meth c T locs cells slots) (hx : p.tables.exec = Jvm.exec) {b : Addr} {host : String} {Z : State} {a0 : Array Value} {h : Heap} {own : String} {ix : Nat} {y : MethodName} {bytes : ByteArray} {maxL W : Nat} {ret : Option FieldType} {rm : Room} {Qc : Option Value → Heap → List Loc → Prop} {argsL rest : List Value} (hZ : Z.Warmed39 s.vm) (eT : T.heap = h) (hown : s.vm.findClass own = some m.cls) (hsz : ls.size = c.maxLocals) (hret : ret = none) (hinit : y.name = "<init>") (wl : (Jvm.Cond.methodLinkNest own ix y host).before a0 Z = true) (wm : (Jvm.Cond.instanceMethod y).before a0 Z = true) (wi : (Jvm.Cond.initialized y.cls).before a0 Z = true) (wc : (Jvm.Cond.code y bytes maxL ret).before a0 Z = true) (hy : y.cls ≠ "java/lang/invoke/MethodHandle" ∧ y.cls ≠ "java/lang/invoke/VarHandle") (hM : MetFree l y (head1 [Jvm.Cond.code y bytes maxL ret] rm) (fun a U => a = (Value.ref b :: argsL).toArray ∧ Z.Warmed39 U.vm ∧ U.heap = h) (fun _ _ _ _ _ => True) (fun _ U o U' => ∃ v L, o = .returned v ∧ Qc v U'.heap L ∧ FrameEnd U o U' L rm.cells rm.slots)) (hf : rm.frames + 1 ≤ R.frames) (hlo : W + (maxL + 11) + rm.locals ≤ R.locals) (hcl : cells + rm.cells ≤ R.cells) (hsl : slots + rm.slots ≤ R.slots)
    (hlen : ∀ sig, parseMethodDescriptor y.desc = some sig → argsL.length = sig.parameters.length) (hst : st = argsL.reverse ++ .ref b :: rest) (hW : 2 * 0 + (rest.map fun v => v.category).sum ≤ W) (hd : decode c.code pc = .ok (.invokespecial ix, 3)) (hp : pc + 3 = pc') (K : ∀ T' L v, Stand p l e R s m args below meth c T' (locs ++ L) (cells + rm.cells) (slots + rm.slots) → Qc v T'.heap L → own_Ends p e below s Q kc ks T' (mkF m pc' ls (v.toList ++ rest))) : own_Ends p e below s Q kc ks T (mkF m pc ls st) := by
  subst hp hret
  obtain ⟨v, _, ⟨T1, L1, k1, n1⟩, -, X1, ⟨Lc, hQ, r1, r2, r3⟩, st1⟩ := X.specialBackNest hx (y := y) hinit hown (own_mvM hZ wl) (mvT hZ wm) (mvT hZ wc) hy (backOf (W := W) hM hZ wc wi hf hlo) (g := mkF m pc ls st) rfl hsz (Steps.refl _) (a := b) (argsL := argsL) (rest := rest) hlen hst hW hd (fun _ _ => ⟨rfl, eT, hcl, hsl⟩)
  dsimp only [Pt.U, Pt.locs, Pt.cells, Pt.slots] at X1 r1 r2 r3 st1 hQ
  subst r1 r2 r3
  exact own_go (fun t k => st1.trans k) (K T1 Lc v X1 hQ)
theorem own_anewarr (X : Stand p l e R s m args below meth c T locs cells slots) (hx : p.tables.exec = Jvm.exec) {Z : State} {a0 : Array Value} {h : Heap} {own C : String} {ix : Nat} (hZ : Z.Warmed39 s.vm) (hown : s.vm.findClass own = some m.cls) (w1 : (Jvm.Cond.classLink own ix C).before a0 Z = true) (w2 : (Jvm.Cond.arrayOver (.object C)).before a0 Z = true) (eT : T.heap = h) (hd : decode c.code pc = .ok (.anewarray ix, 3)) (hp : pc + 3 = pc') {n : Int32} (hn : ¬ n < 0) (cap q : Nat) (hcap : n.toNatClampNeg ≤ cap) (hb : cap * 8 ≤ 536870912) (hc : cells + 1 ≤ R.cells) (hl : slots + cap ≤ R.slots) {ad : String} (had : "[" ++ (FieldType.object C).toString = ad)
    (K : ∀ T' h' a k, Stand p l e R s m args below meth c T' locs (cells + 1) (slots + cap) → T'.heap = h' → Ext h h' → a = h.size → Arv Z h' a k (.object C) n (List.replicate q .null) .null → Exa Z h' a ad → Ovr Z k C → own_Ends p e below s Q kc ks T' (mkF m pc' ls (.ref a :: st))) : own_Ends p e below s Q kc ks T (mkF m pc ls (.int n :: st)) := by
  subst hp
  obtain ⟨T1, h1, k1, X1, e1, E1, A1, Z1, O1, st1⟩ := newRE X hx hZ hown w1 w2 eT (g := mkF m pc ls (.int n :: st)) rfl hd rfl hn (cap := cap) hcap hb hc hl had
  exact own_go st1 (K T1 h1 _ k1 X1 e1 E1 rfl ((Arv.new A1 hn).pad (pad_rep [] _ q)) Z1 O1)
theorem own_aastore (X : Stand p l e R s m args below meth c T locs cells slots) (hx : p.tables.exec = Jvm.exec) {Z : State} {h : Heap} {a b : Addr} {k : ClassId} {C D : String} {n j : Int32} {vs : List Value} {d : Value} (hZ : Z.Warmed39 s.vm) (eT : T.heap = h) (V : Arv Z h a k (.object D) n vs d) (O : Ovr Z k C) (I : Ins Z h b C true) (hd : decode c.code pc = .ok (.aastore, 1)) (hp : pc + 1 = pc') (hj : ¬ j < 0 ∧ j < n) (i : Nat) (hi : j.toNatClampNeg = i) (hl : i < vs.length) {n0 : Nat} (N : Fr n0 locs) (ge : n0 ≤ a)
    (K : ∀ T' h' L, Stand p l e R s m args below meth c T' L cells slots → T'.heap = h' → Fr n0 L → Wr h h' a j.toNatClampNeg (.ref b) → Arv Z h' a k (.object D) n (vs.set i (.ref b)) d → own_Ends p e below s Q kc ks T' (mkF m pc' ls st)) : own_Ends p e below s Q kc ks T (mkF m pc ls (.ref b :: .int j :: .ref a :: st)) := by
  subst hp
  obtain ⟨cl, A, q1, S, q2, H, G⟩ := V
  have hin := inb_of S hj
  obtain ⟨T1, h1, X1, e1, W1, st1⟩ := stR X hx hZ eT A (j := j) hin rfl (Sto.ofV A q1 O I) (g := mkF m pc ls (.ref b :: .int j :: .ref a :: st)) rfl rfl hd
  exact own_go st1 (K T1 h1 _ X1 e1 (Fr.snoc X1 N ge) W1 (Arv.set A q1 S q2 H G rfl W1 i hi hl))
theorem own_tswIn (X : Stand p l e R s m args below meth c T locs cells slots) (hx : p.tables.exec = Jvm.exec) {d lo hi o : Int} {offs : Array Int} {len : Nat} {i : Int32} (hd : decode c.code pc = .ok (.tableswitch d lo hi offs, len)) (hin : ¬ (i.toInt < lo ∨ i.toInt > hi)) (hoff : offs[(i.toInt - lo).toNat]? = some o) (ho : 0 ≤ (pc : Int) + o) (hp : ((pc : Int) + o).toNat = pc') (K : own_Ends p e below s Q kc ks T (mkF m pc' ls st)) : own_Ends p e below s Q kc ks T (mkF m pc ls (.int i :: st)) :=
  own_go (fun t k => XS.tswIn X.here hx rfl rfl hd rfl hin hoff ho hp k) K
theorem own_tswOut (X : Stand p l e R s m args below meth c T locs cells slots) (hx : p.tables.exec = Jvm.exec) {d lo hi : Int} {offs : Array Int} {len : Nat} {i : Int32} (hd : decode c.code pc = .ok (.tableswitch d lo hi offs, len)) (hout : i.toInt < lo ∨ i.toInt > hi) (ho : 0 ≤ (pc : Int) + d) (hp : ((pc : Int) + d).toNat = pc') (K : own_Ends p e below s Q kc ks T (mkF m pc' ls st)) : own_Ends p e below s Q kc ks T (mkF m pc ls (.int i :: st)) :=
  own_go (fun t k => XS.tswOut X.here hx rfl rfl hd rfl hout ho hp k) K
theorem own_ext {h h' : Heap} (K : Keep h h' []) : Ext h h' := ⟨K.1, fun a c q => K.2.1 a c q nin0⟩
theorem own_stak {Z : State} {h h' : Heap} {ws : List Addr} {C n d : String} {v : Value} (F : Sta Z h C n d v) (K : Keep h h' ws) (q : ∀ x ∈ ws, ∃ c : Cell, h[x]? = some c ∧ c.vm.isStatics = false) : Sta Z h' C n d v := by
  obtain ⟨cf, i, k, f, st, cell, h1, h2, h3, h4, h5, h6, h7⟩ := F
  refine ⟨cf, i, k, f, st, cell, h1, h2, h3, h4, K.2.1 st cell h5 (fun z => ?_), h6, h7⟩
  obtain ⟨c, q1, q2⟩ := q st z
  cases h5.symm.trans q1
  rw [h6] at q2; cases q2
theorem own_exac {Z : State} {h : Heap} {a : Addr} {C : String} (F : Exa Z h a C) : ∃ c : Cell, h[a]? = some c ∧ c.vm.isStatics = false := by
  obtain ⟨c, _, h1, -, -, h4, -⟩ := F; exact ⟨c, h1, h4⟩
theorem own_arvc {Z : State} {h : Heap} {a : Addr} {k : ClassId} {ty : FieldType} {n : Int32} {vs : List Value} {d : Value} (F : Arv Z h a k ty n vs d) : ∃ c : Cell, h[a]? = some c ∧ c.vm.isStatics = false := by
  obtain ⟨c, A, -⟩ := F; exact ⟨c, A.1, A.plain⟩
end Own
theorem own_w0 {Z : State} {a0 : Array Value} (hw : ∀ d ∈ tables_1, d.before a0 Z = true) : (Jvm.Cond.constantLong "com/example/evenhand/evenhand/rounding/WholeNumbersGcdPinLaw" (13 : Nat) (9223372036854775807 : Int64)).before a0 Z = true := hw _ (List.mem_of_getElem? (i := 0) rfl)
theorem own_w1 {Z : State} {a0 : Array Value} (hw : ∀ d ∈ tables_1, d.before a0 Z = true) : (Jvm.Cond.methodLink "com/example/evenhand/evenhand/rounding/WholeNumbersGcdPinLaw" (15 : Nat) ({ cls := "com/example/evenhand/evenhand/rounding/WholeNumbers", name := "gcd", desc := "(JJ)J" } : Jvm.MethodName)).before a0 Z = true := hw _ (List.mem_of_getElem? (i := 1) rfl)
theorem own_w2 {Z : State} {a0 : Array Value} (hw : ∀ d ∈ tables_1, d.before a0 Z = true) : (Jvm.Cond.static ({ cls := "com/example/evenhand/evenhand/rounding/WholeNumbers", name := "gcd", desc := "(JJ)J" } : Jvm.MethodName)).before a0 Z = true := hw _ (List.mem_of_getElem? (i := 2) rfl)
theorem own_w3 {Z : State} {a0 : Array Value} (hw : ∀ d ∈ tables_1, d.before a0 Z = true) : (Jvm.Cond.initialized "com/example/evenhand/evenhand/rounding/WholeNumbers").before a0 Z = true := hw _ (List.mem_of_getElem? (i := 3) rfl)
theorem own_w4 {Z : State} {a0 : Array Value} (hw : ∀ d ∈ tables_1, d.before a0 Z = true) : (Jvm.Cond.code ({ cls := "com/example/evenhand/evenhand/rounding/WholeNumbers", name := "gcd", desc := "(JJ)J" } : Jvm.MethodName) prog_69_method_2_code (11 : Nat) (Option.some Jvm.ClassFile.FieldType.long)).before a0 Z = true := hw _ (List.mem_of_getElem? (i := 4) rfl)
theorem own_w5 {Z : State} {a0 : Array Value} (hw : ∀ d ∈ tables_1, d.before a0 Z = true) : (Jvm.Cond.methodLink "com/example/evenhand/evenhand/rounding/WholeNumbers" (16 : Nat) ({ cls := "java/lang/Long", name := "numberOfTrailingZeros", desc := "(J)I" } : Jvm.MethodName)).before a0 Z = true := hw _ (List.mem_of_getElem? (i := 5) rfl)
theorem own_w6 {Z : State} {a0 : Array Value} (hw : ∀ d ∈ tables_1, d.before a0 Z = true) : (Jvm.Cond.static ({ cls := "java/lang/Long", name := "numberOfTrailingZeros", desc := "(J)I" } : Jvm.MethodName)).before a0 Z = true := hw _ (List.mem_of_getElem? (i := 6) rfl)
theorem own_w7 {Z : State} {a0 : Array Value} (hw : ∀ d ∈ tables_1, d.before a0 Z = true) : (Jvm.Cond.initialized "java/lang/Long").before a0 Z = true := hw _ (List.mem_of_getElem? (i := 7) rfl)
theorem own_w8 {Z : State} {a0 : Array Value} (hw : ∀ d ∈ tables_1, d.before a0 Z = true) : (Jvm.Cond.code ({ cls := "java/lang/Long", name := "numberOfTrailingZeros", desc := "(J)I" } : Jvm.MethodName) jdk_35_method_49_code (3 : Nat) (Option.some Jvm.ClassFile.FieldType.int)).before a0 Z = true := hw _ (List.mem_of_getElem? (i := 8) rfl)
theorem own_w9 {Z : State} {a0 : Array Value} (hw : ∀ d ∈ tables_1, d.before a0 Z = true) : (Jvm.Cond.methodLink "java/lang/Long" (311 : Nat) ({ cls := "java/lang/Integer", name := "numberOfTrailingZeros", desc := "(I)I" } : Jvm.MethodName)).before a0 Z = true := hw _ (List.mem_of_getElem? (i := 9) rfl)
theorem own_w10 {Z : State} {a0 : Array Value} (hw : ∀ d ∈ tables_1, d.before a0 Z = true) : (Jvm.Cond.static ({ cls := "java/lang/Integer", name := "numberOfTrailingZeros", desc := "(I)I" } : Jvm.MethodName)).before a0 Z = true := hw _ (List.mem_of_getElem? (i := 10) rfl)
theorem own_w11 {Z : State} {a0 : Array Value} (hw : ∀ d ∈ tables_1, d.before a0 Z = true) : (Jvm.Cond.initialized "java/lang/Integer").before a0 Z = true := hw _ (List.mem_of_getElem? (i := 11) rfl)
theorem own_w12 {Z : State} {a0 : Array Value} (hw : ∀ d ∈ tables_1, d.before a0 Z = true) : (Jvm.Cond.code ({ cls := "java/lang/Integer", name := "numberOfTrailingZeros", desc := "(I)I" } : Jvm.MethodName) jdk_33_method_48_code (2 : Nat) (Option.some Jvm.ClassFile.FieldType.int)).before a0 Z = true := hw _ (List.mem_of_getElem? (i := 12) rfl)
theorem own_w13 {Z : State} {a0 : Array Value} (hw : ∀ d ∈ tables_1, d.before a0 Z = true) : (Jvm.Cond.constant "java/lang/Integer" (264 : Nat) (65536 : Int32)).before a0 Z = true := hw _ (List.mem_of_getElem? (i := 13) rfl)
theorem own_w14 {Z : State} {a0 : Array Value} (hw : ∀ d ∈ tables_1, d.before a0 Z = true) : (Jvm.Cond.constantLong "com/example/evenhand/evenhand/rounding/WholeNumbersGcdPinLaw" (7 : Nat) (2147483647 : Int64)).before a0 Z = true := hw _ (List.mem_of_getElem? (i := 14) rfl)
theorem own_w15 {Z : State} {a0 : Array Value} (hw : ∀ d ∈ tables_1, d.before a0 Z = true) : (Jvm.Cond.constantLong "com/example/evenhand/evenhand/rounding/WholeNumbersGcdPinLaw" (9 : Nat) (4294967295 : Int64)).before a0 Z = true := hw _ (List.mem_of_getElem? (i := 15) rfl)
theorem own_pd0 : parseMethodDescriptor "(I)I" = some ⟨[.int], some .int⟩ := by decide +kernel
theorem own_pd1 : parseMethodDescriptor "(J)I" = some ⟨[.long], some .int⟩ := by decide +kernel
theorem own_pd2 : parseMethodDescriptor "(JJ)J" = some ⟨[.long, .long], some .long⟩ := by decide +kernel
theorem own_pn0 : plainName "java/lang/Integer" = true := by first | (simp [plainName, overriddenIn]; done) | decide +kernel
theorem own_pn1 : plainName "java/lang/Long" = true := by first | (simp [plainName, overriddenIn]; done) | decide +kernel
theorem own_pn2 : plainName "com/example/evenhand/evenhand/rounding/WholeNumbers" = true := by first | (simp [plainName, overriddenIn]; done) | decide +kernel
theorem own_pn3 : plainName "com/example/evenhand/evenhand/rounding/WholeNumbersGcdPinLaw" = true := by first | (simp [plainName, overriddenIn]; done) | decide +kernel
theorem own_arrat {s : State} {a : Addr} {c : Cell} (h : s.arrayAt? a = some c) : s.heap[a]? = some c := by
  unfold State.arrayAt? at h
  cases q : s.heap[a]? with
  | none => simp [q] at h
  | some d =>
    simp [q] at h
    obtain ⟨k, -, h2⟩ := Option.bind_eq_some_iff.mp h
    split at h2
    · cases h2
    · split at h2
      · exact h2
      · cases h2
theorem own_b1 {x a b : Int32} (h : x < a) (q : ¬ b < a) : x < b := by rw [Int32.lt_iff_toInt_lt] at *; omega
theorem own_b2 {x a b : Int32} (h : ¬ x < a) (q : ¬ a < b) : ¬ x < b := by rw [Int32.lt_iff_toInt_lt] at *; omega
theorem own_b3 {x a b : Int32} (h : a < x) (q : ¬ a < b) : b < x := by rw [Int32.lt_iff_toInt_lt] at *; omega
theorem own_b4 {x a b : Int32} (h : ¬ a < x) (q : ¬ b < a) : ¬ b < x := by rw [Int32.lt_iff_toInt_lt] at *; omega
theorem own_b5 {x a b : Int32} (h : x < a) (q : ¬ b < a - 1 ∧ a - 1 < a) : ¬ b < x := by
  obtain ⟨q1, q2⟩ := q
  have := c_isub a 1; have := rng32 a; have := rng32 (a - 1); have e1 : (1 : Int32).toInt = 1 := rfl
  rw [Int32.lt_iff_toInt_lt] at *; omega
theorem own_b6 {x a b : Int32} (h : ¬ x < a) (q : b < a) : b < x := by rw [Int32.lt_iff_toInt_lt] at *; omega
theorem own_b7 {x a b : Int32} (h : a < x) (q : ¬ a + 1 < b ∧ a < a + 1) : ¬ x < b := by
  obtain ⟨q1, q2⟩ := q
  have := c_iadd a 1; have := rng32 a; have := rng32 (a + 1); have e1 : (1 : Int32).toInt = 1 := rfl
  rw [Int32.lt_iff_toInt_lt] at *; omega
theorem own_b8 {x a b : Int32} (h : ¬ a < x) (q : a < b) : x < b := by rw [Int32.lt_iff_toInt_lt] at *; omega
theorem own_n1 {x b : Int32} (h : x < b) : ¬ x = b := fun q => by subst q; rw [Int32.lt_iff_toInt_lt] at h; omega
theorem own_n2 {x b : Int32} (h : b < x) : ¬ x = b := fun q => by subst q; rw [Int32.lt_iff_toInt_lt] at h; omega
theorem own_i1 {x y : Int32} (h : x < y) : x.toInt < y.toInt := Int32.lt_iff_toInt_lt.mp h
theorem own_i2 {x y : Int32} (h : ¬ x < y) : y.toInt ≤ x.toInt := Int.not_lt.mp fun q => h (Int32.lt_iff_toInt_lt.mpr q)
theorem own_i3 {x y : Int32} (h : x = y) : x.toInt = y.toInt := congrArg Int32.toInt h
theorem own_i4 {x y : Int32} (h : ¬ x = y) : ¬ x.toInt = y.toInt := fun q => h (Int32.toInt_inj.mp q)
theorem own_some {x y : Int32} (h : x = y) : some (Value.int x) = some (Value.int y) := congrArg (fun z => some (Value.int z)) h
theorem own_ae1 {a b : Addr} (h : a = b) : XT.acmp .eq (.ref a) (.ref b) = true ∧ XT.acmp .ne (.ref a) (.ref b) = false := ⟨decide_eq_true (congrArg Value.ref h), decide_eq_false fun q => q (congrArg Value.ref h)⟩
theorem own_ae0 {a b : Addr} (h : ¬ a = b) : XT.acmp .eq (.ref a) (.ref b) = false ∧ XT.acmp .ne (.ref a) (.ref b) = true := ⟨decide_eq_false fun q => h (Value.ref.inj q), decide_eq_true fun q => h (Value.ref.inj q)⟩
theorem own_ann : XT.acmp .eq .null .null = true ∧ XT.acmp .ne .null .null = false := ⟨rfl, rfl⟩
theorem own_anr (b : Addr) : XT.acmp .eq .null (.ref b) = false ∧ XT.acmp .ne .null (.ref b) = true := by constructor <;> first | rfl | (simp [XT.acmp]; done) | decide
theorem own_arn (b : Addr) : XT.acmp .eq (.ref b) .null = false ∧ XT.acmp .ne (.ref b) .null = true := by constructor <;> first | rfl | (simp [XT.acmp]; done) | decide
theorem own_eqi {args : Array Value} {s : State} {t : Term} {k : Int32} (h : (Jvm.Cond.eq t (Term.int k)).value args s none s [] = some true) : t.eval args s none [] s = some (.int k) := by
  obtain ⟨x, y, e1, e2, k1, k2⟩ := cmp_v (Or.inl h)
  obtain rfl : Value.int k = y := Option.some.inj ((Term.int_eval k).symm.trans e2)
  obtain ⟨z, rfl⟩ : ∃ z, x = .int z := k2
  have q : z = k := gotT (Cond.eq_ints e1 (Term.int_eval k)) h
  rw [e1, q]
theorem own_eql {args : Array Value} {s : State} {t : Term} {k : Int64} (h : (Jvm.Cond.eq t (Term.long k)).value args s none s [] = some true) : t.eval args s none [] s = some (.long k) := by
  obtain ⟨x, y, e1, e2, k1, k2⟩ := cmp_v (Or.inl h)
  obtain rfl : Value.long k = y := Option.some.inj ((show (Term.long k).eval args s none [] s = some (.long k) from rfl).symm.trans e2)
  obtain ⟨z, rfl⟩ : ∃ z, x = .long z := k2
  have q : z = k := gotT (eq_L e1 (show (Term.long k).eval args s none [] s = some (.long k) from rfl)) h
  rw [e1, q]
theorem own_len {args : Array Value} {s : State} {t : Term} {k : Int32} {a : Addr} {c : Cell} (h : (Term.length t).eval args s none [] s = some (.int k)) (ht : t.eval args s none [] s = some (.ref a)) (hc : s.heap[a]? = some c) : c.slots.size.toInt32 = k ∧ c.slots.size < 2 ^ 31 := by
  obtain ⟨a', cell, e1, e2, e3⟩ := Term.length_spec h
  cases ht.symm.trans e1
  have e4 : s.heap[a]? = some cell := own_arrat e2
  cases hc.symm.trans e4
  refine ⟨(Value.int.inj e3).symm, ?_⟩
  by_cases q : c.slots.size < 2 ^ 31
  · exact q
  · simp [Term.eval, ht, e2, q] at h
theorem own_nb0 : nar .boolean 0 = 0 := by decide
theorem own_nb1 : nar .boolean 1 = 1 := by decide
def own_ushr (x y : Int32) : Int32 := (x.toUInt32 >>> (y &&& 31).toUInt32).toInt32
def own_ushrL (x : Int64) (y : Int32) : Int64 := (x.toUInt64 >>> (y &&& 0x3f).toInt64.toUInt64).toInt64
theorem own_d1_0 : decode prog_69_method_2_code 0 = .ok (.lload_n 0, 1) := by decide +kernel
theorem own_d1_1 : decode prog_69_method_2_code 1 = .ok (.lload_n 2, 1) := by decide +kernel
theorem own_d1_2 : decode prog_69_method_2_code 2 = .ok (.lor, 1) := by decide +kernel
theorem own_d1_3 : decode prog_69_method_2_code 3 = .ok (.lconst 0, 1) := by decide +kernel
theorem own_d1_4 : decode prog_69_method_2_code 4 = .ok (.lcmp, 1) := by decide +kernel
theorem own_d1_5 : decode prog_69_method_2_code 5 = .ok (.ifCond .ge 18, 3) := by decide +kernel
theorem own_d1_8 : decode prog_69_method_2_code 8 = .ok (.new 7, 3) := by decide +kernel
theorem own_d1_11 : decode prog_69_method_2_code 11 = .ok (.dup, 1) := by decide +kernel
theorem own_d1_12 : decode prog_69_method_2_code 12 = .ok (.lload_n 0, 1) := by decide +kernel
theorem own_d1_13 : decode prog_69_method_2_code 13 = .ok (.lload_n 2, 1) := by decide +kernel
theorem own_d1_14 : decode prog_69_method_2_code 14 = .ok (.invokedynamic 9, 5) := by decide +kernel
theorem own_d1_19 : decode prog_69_method_2_code 19 = .ok (.invokespecial 13, 3) := by decide +kernel
theorem own_d1_22 : decode prog_69_method_2_code 22 = .ok (.athrow, 1) := by decide +kernel
theorem own_d1_23 : decode prog_69_method_2_code 23 = .ok (.lload_n 0, 1) := by decide +kernel
theorem own_d1_24 : decode prog_69_method_2_code 24 = .ok (.lconst 0, 1) := by decide +kernel
theorem own_d1_25 : decode prog_69_method_2_code 25 = .ok (.lcmp, 1) := by decide +kernel
theorem own_d1_26 : decode prog_69_method_2_code 26 = .ok (.ifCond .eq 9, 3) := by decide +kernel
theorem own_d1_29 : decode prog_69_method_2_code 29 = .ok (.lload_n 2, 1) := by decide +kernel
theorem own_d1_30 : decode prog_69_method_2_code 30 = .ok (.lconst 0, 1) := by decide +kernel
theorem own_d1_31 : decode prog_69_method_2_code 31 = .ok (.lcmp, 1) := by decide +kernel
theorem own_d1_32 : decode prog_69_method_2_code 32 = .ok (.ifCond .ne 7, 3) := by decide +kernel
theorem own_d1_35 : decode prog_69_method_2_code 35 = .ok (.lload_n 0, 1) := by decide +kernel
theorem own_d1_36 : decode prog_69_method_2_code 36 = .ok (.lload_n 2, 1) := by decide +kernel
theorem own_d1_37 : decode prog_69_method_2_code 37 = .ok (.lor, 1) := by decide +kernel
theorem own_d1_38 : decode prog_69_method_2_code 38 = .ok (.lreturn, 1) := by decide +kernel
theorem own_d1_39 : decode prog_69_method_2_code 39 = .ok (.lload_n 0, 1) := by decide +kernel
theorem own_d1_40 : decode prog_69_method_2_code 40 = .ok (.lload_n 2, 1) := by decide +kernel
theorem own_d1_41 : decode prog_69_method_2_code 41 = .ok (.lor, 1) := by decide +kernel
theorem own_d1_42 : decode prog_69_method_2_code 42 = .ok (.invokestatic 16, 3) := by decide +kernel
theorem own_d1_45 : decode prog_69_method_2_code 45 = .ok (.istore 4, 2) := by decide +kernel
theorem own_d1_47 : decode prog_69_method_2_code 47 = .ok (.lload_n 0, 1) := by decide +kernel
theorem own_d1_48 : decode prog_69_method_2_code 48 = .ok (.lload_n 0, 1) := by decide +kernel
theorem own_d1_49 : decode prog_69_method_2_code 49 = .ok (.invokestatic 16, 3) := by decide +kernel
theorem own_d1_52 : decode prog_69_method_2_code 52 = .ok (.lushr, 1) := by decide +kernel
theorem own_d1_53 : decode prog_69_method_2_code 53 = .ok (.lstore 5, 2) := by decide +kernel
theorem own_d1_55 : decode prog_69_method_2_code 55 = .ok (.lload_n 2, 1) := by decide +kernel
theorem own_d1_56 : decode prog_69_method_2_code 56 = .ok (.lstore 7, 2) := by decide +kernel
theorem own_d1_58 : decode prog_69_method_2_code 58 = .ok (.lload 7, 2) := by decide +kernel
theorem own_d1_60 : decode prog_69_method_2_code 60 = .ok (.lconst 0, 1) := by decide +kernel
theorem own_d1_61 : decode prog_69_method_2_code 61 = .ok (.lcmp, 1) := by decide +kernel
theorem own_d1_62 : decode prog_69_method_2_code 62 = .ok (.ifCond .eq 43, 3) := by decide +kernel
theorem own_d1_65 : decode prog_69_method_2_code 65 = .ok (.lload 7, 2) := by decide +kernel
theorem own_d1_67 : decode prog_69_method_2_code 67 = .ok (.lload 7, 2) := by decide +kernel
theorem own_d1_69 : decode prog_69_method_2_code 69 = .ok (.invokestatic 16, 3) := by decide +kernel
theorem own_d1_72 : decode prog_69_method_2_code 72 = .ok (.lushr, 1) := by decide +kernel
theorem own_d1_73 : decode prog_69_method_2_code 73 = .ok (.lstore 7, 2) := by decide +kernel
theorem own_d1_75 : decode prog_69_method_2_code 75 = .ok (.lload 5, 2) := by decide +kernel
theorem own_d1_77 : decode prog_69_method_2_code 77 = .ok (.lload 7, 2) := by decide +kernel
theorem own_d1_79 : decode prog_69_method_2_code 79 = .ok (.lcmp, 1) := by decide +kernel
theorem own_d1_80 : decode prog_69_method_2_code 80 = .ok (.ifCond .le 15, 3) := by decide +kernel
theorem own_d1_83 : decode prog_69_method_2_code 83 = .ok (.lload 5, 2) := by decide +kernel
theorem own_d1_85 : decode prog_69_method_2_code 85 = .ok (.lstore 9, 2) := by decide +kernel
theorem own_d1_87 : decode prog_69_method_2_code 87 = .ok (.lload 7, 2) := by decide +kernel
theorem own_d1_89 : decode prog_69_method_2_code 89 = .ok (.lstore 5, 2) := by decide +kernel
theorem own_d1_91 : decode prog_69_method_2_code 91 = .ok (.lload 9, 2) := by decide +kernel
theorem own_d1_93 : decode prog_69_method_2_code 93 = .ok (.lstore 7, 2) := by decide +kernel
theorem own_d1_95 : decode prog_69_method_2_code 95 = .ok (.lload 7, 2) := by decide +kernel
theorem own_d1_97 : decode prog_69_method_2_code 97 = .ok (.lload 5, 2) := by decide +kernel
theorem own_d1_99 : decode prog_69_method_2_code 99 = .ok (.lsub, 1) := by decide +kernel
theorem own_d1_100 : decode prog_69_method_2_code 100 = .ok (.lstore 7, 2) := by decide +kernel
theorem own_d1_102 : decode prog_69_method_2_code 102 = .ok (.goto (-44), 3) := by decide +kernel
theorem own_d1_105 : decode prog_69_method_2_code 105 = .ok (.lload 5, 2) := by decide +kernel
theorem own_d1_107 : decode prog_69_method_2_code 107 = .ok (.iload 4, 2) := by decide +kernel
theorem own_d1_109 : decode prog_69_method_2_code 109 = .ok (.lshl, 1) := by decide +kernel
theorem own_d1_110 : decode prog_69_method_2_code 110 = .ok (.lreturn, 1) := by decide +kernel
theorem own_d2_0 : decode jdk_35_method_49_code 0 = .ok (.lload_n 0, 1) := by decide +kernel
theorem own_d2_1 : decode jdk_35_method_49_code 1 = .ok (.l2i, 1) := by decide +kernel
theorem own_d2_2 : decode jdk_35_method_49_code 2 = .ok (.istore_n 2, 1) := by decide +kernel
theorem own_d2_3 : decode jdk_35_method_49_code 3 = .ok (.iload_n 2, 1) := by decide +kernel
theorem own_d2_4 : decode jdk_35_method_49_code 4 = .ok (.ifCond .ne 17, 3) := by decide +kernel
theorem own_d2_7 : decode jdk_35_method_49_code 7 = .ok (.bipush 32, 2) := by decide +kernel
theorem own_d2_9 : decode jdk_35_method_49_code 9 = .ok (.lload_n 0, 1) := by decide +kernel
theorem own_d2_10 : decode jdk_35_method_49_code 10 = .ok (.bipush 32, 2) := by decide +kernel
theorem own_d2_12 : decode jdk_35_method_49_code 12 = .ok (.lushr, 1) := by decide +kernel
theorem own_d2_13 : decode jdk_35_method_49_code 13 = .ok (.l2i, 1) := by decide +kernel
theorem own_d2_14 : decode jdk_35_method_49_code 14 = .ok (.invokestatic 311, 3) := by decide +kernel
theorem own_d2_17 : decode jdk_35_method_49_code 17 = .ok (.iadd, 1) := by decide +kernel
theorem own_d2_18 : decode jdk_35_method_49_code 18 = .ok (.goto 7, 3) := by decide +kernel
theorem own_d2_21 : decode jdk_35_method_49_code 21 = .ok (.iload_n 2, 1) := by decide +kernel
theorem own_d2_22 : decode jdk_35_method_49_code 22 = .ok (.invokestatic 311, 3) := by decide +kernel
theorem own_d2_25 : decode jdk_35_method_49_code 25 = .ok (.ireturn, 1) := by decide +kernel
theorem own_d3_0 : decode jdk_33_method_48_code 0 = .ok (.iload_n 0, 1) := by decide +kernel
theorem own_d3_1 : decode jdk_33_method_48_code 1 = .ok (.iconst (-1), 1) := by decide +kernel
theorem own_d3_2 : decode jdk_33_method_48_code 2 = .ok (.ixor, 1) := by decide +kernel
theorem own_d3_3 : decode jdk_33_method_48_code 3 = .ok (.iload_n 0, 1) := by decide +kernel
theorem own_d3_4 : decode jdk_33_method_48_code 4 = .ok (.iconst 1, 1) := by decide +kernel
theorem own_d3_5 : decode jdk_33_method_48_code 5 = .ok (.isub, 1) := by decide +kernel
theorem own_d3_6 : decode jdk_33_method_48_code 6 = .ok (.iand, 1) := by decide +kernel
theorem own_d3_7 : decode jdk_33_method_48_code 7 = .ok (.istore_n 0, 1) := by decide +kernel
theorem own_d3_8 : decode jdk_33_method_48_code 8 = .ok (.iload_n 0, 1) := by decide +kernel
theorem own_d3_9 : decode jdk_33_method_48_code 9 = .ok (.ifCond .gt 8, 3) := by decide +kernel
theorem own_d3_12 : decode jdk_33_method_48_code 12 = .ok (.iload_n 0, 1) := by decide +kernel
theorem own_d3_13 : decode jdk_33_method_48_code 13 = .ok (.bipush 32, 2) := by decide +kernel
theorem own_d3_15 : decode jdk_33_method_48_code 15 = .ok (.iand, 1) := by decide +kernel
theorem own_d3_16 : decode jdk_33_method_48_code 16 = .ok (.ireturn, 1) := by decide +kernel
theorem own_d3_17 : decode jdk_33_method_48_code 17 = .ok (.iconst 1, 1) := by decide +kernel
theorem own_d3_18 : decode jdk_33_method_48_code 18 = .ok (.istore_n 1, 1) := by decide +kernel
theorem own_d3_19 : decode jdk_33_method_48_code 19 = .ok (.iload_n 0, 1) := by decide +kernel
theorem own_d3_20 : decode jdk_33_method_48_code 20 = .ok (.ldc_w 264, 3) := by decide +kernel
theorem own_d3_23 : decode jdk_33_method_48_code 23 = .ok (.if_icmp .le 11, 3) := by decide +kernel
theorem own_d3_26 : decode jdk_33_method_48_code 26 = .ok (.iinc 1 16, 3) := by decide +kernel
theorem own_d3_29 : decode jdk_33_method_48_code 29 = .ok (.iload_n 0, 1) := by decide +kernel
theorem own_d3_30 : decode jdk_33_method_48_code 30 = .ok (.bipush 16, 2) := by decide +kernel
theorem own_d3_32 : decode jdk_33_method_48_code 32 = .ok (.iushr, 1) := by decide +kernel
theorem own_d3_33 : decode jdk_33_method_48_code 33 = .ok (.istore_n 0, 1) := by decide +kernel
theorem own_d3_34 : decode jdk_33_method_48_code 34 = .ok (.iload_n 0, 1) := by decide +kernel
theorem own_d3_35 : decode jdk_33_method_48_code 35 = .ok (.sipush 256, 3) := by decide +kernel
theorem own_d3_38 : decode jdk_33_method_48_code 38 = .ok (.if_icmp .le 11, 3) := by decide +kernel
theorem own_d3_41 : decode jdk_33_method_48_code 41 = .ok (.iinc 1 8, 3) := by decide +kernel
theorem own_d3_44 : decode jdk_33_method_48_code 44 = .ok (.iload_n 0, 1) := by decide +kernel
theorem own_d3_45 : decode jdk_33_method_48_code 45 = .ok (.bipush 8, 2) := by decide +kernel
theorem own_d3_47 : decode jdk_33_method_48_code 47 = .ok (.iushr, 1) := by decide +kernel
theorem own_d3_48 : decode jdk_33_method_48_code 48 = .ok (.istore_n 0, 1) := by decide +kernel
theorem own_d3_49 : decode jdk_33_method_48_code 49 = .ok (.iload_n 0, 1) := by decide +kernel
theorem own_d3_50 : decode jdk_33_method_48_code 50 = .ok (.bipush 16, 2) := by decide +kernel
theorem own_d3_52 : decode jdk_33_method_48_code 52 = .ok (.if_icmp .le 10, 3) := by decide +kernel
theorem own_d3_55 : decode jdk_33_method_48_code 55 = .ok (.iinc 1 4, 3) := by decide +kernel
theorem own_d3_58 : decode jdk_33_method_48_code 58 = .ok (.iload_n 0, 1) := by decide +kernel
theorem own_d3_59 : decode jdk_33_method_48_code 59 = .ok (.iconst 4, 1) := by decide +kernel
theorem own_d3_60 : decode jdk_33_method_48_code 60 = .ok (.iushr, 1) := by decide +kernel
theorem own_d3_61 : decode jdk_33_method_48_code 61 = .ok (.istore_n 0, 1) := by decide +kernel
theorem own_d3_62 : decode jdk_33_method_48_code 62 = .ok (.iload_n 0, 1) := by decide +kernel
theorem own_d3_63 : decode jdk_33_method_48_code 63 = .ok (.iconst 4, 1) := by decide +kernel
theorem own_d3_64 : decode jdk_33_method_48_code 64 = .ok (.if_icmp .le 10, 3) := by decide +kernel
theorem own_d3_67 : decode jdk_33_method_48_code 67 = .ok (.iinc 1 2, 3) := by decide +kernel
theorem own_d3_70 : decode jdk_33_method_48_code 70 = .ok (.iload_n 0, 1) := by decide +kernel
theorem own_d3_71 : decode jdk_33_method_48_code 71 = .ok (.iconst 2, 1) := by decide +kernel
theorem own_d3_72 : decode jdk_33_method_48_code 72 = .ok (.iushr, 1) := by decide +kernel
theorem own_d3_73 : decode jdk_33_method_48_code 73 = .ok (.istore_n 0, 1) := by decide +kernel
theorem own_d3_74 : decode jdk_33_method_48_code 74 = .ok (.iload_n 1, 1) := by decide +kernel
theorem own_d3_75 : decode jdk_33_method_48_code 75 = .ok (.iload_n 0, 1) := by decide +kernel
theorem own_d3_76 : decode jdk_33_method_48_code 76 = .ok (.iconst 1, 1) := by decide +kernel
theorem own_d3_77 : decode jdk_33_method_48_code 77 = .ok (.iushr, 1) := by decide +kernel
theorem own_d3_78 : decode jdk_33_method_48_code 78 = .ok (.iadd, 1) := by decide +kernel
theorem own_d3_79 : decode jdk_33_method_48_code 79 = .ok (.ireturn, 1) := by decide +kernel
theorem own_odd2 {u : Nat} (h : u % 2 = 1) : Nat.Coprime 2 u := by
  show Nat.gcd 2 u = 1
  rw [Nat.gcd_rec, h]; rfl
theorem own_gcd_pow {u : Nat} (t n : Nat) (h : u % 2 = 1) : u.gcd (2 ^ t * n) = u.gcd n := Nat.Coprime.gcd_mul_left_cancel_right n ((own_odd2 h).pow_left t)
def own_tz (n t : Nat) : Prop := ∃ m, n = 2 ^ t * (2 * m + 1)
theorem own_tz_ex (n : Nat) (h : 0 < n) : ∃ t, own_tz n t := by
  induction n using Nat.strongRecOn with
  | ind n ih =>
    by_cases q : n % 2 = 1
    · exact ⟨0, n / 2, by omega⟩
    · obtain ⟨t, m, e⟩ := ih (n / 2) (by omega) (by omega)
      refine ⟨t + 1, m, ?_⟩
      have : n = 2 * (n / 2) := by omega
      rw [this, e, Nat.pow_succ, Nat.mul_comm (2 ^ t) 2, Nat.mul_assoc]
theorem own_tz_lt {n t k : Nat} (h : own_tz n t) (q : n < 2 ^ k) : t < k := by
  obtain ⟨m, e⟩ := h
  by_cases hk : t < k
  · exact hk
  · exfalso
    have h1 : 2 ^ k ≤ 2 ^ t := Nat.pow_le_pow_right (by omega) (by omega)
    have h2 : 2 ^ t * 1 ≤ 2 ^ t * (2 * m + 1) := Nat.mul_le_mul_left _ (by omega)
    omega
theorem own_maskB {n t : Nat} (h : own_tz n t) (q : n < 2 ^ 32) : (2 ^ 32 - 1 - n) &&& (n - 1) = 2 ^ t - 1 := by
  have ht := own_tz_lt h q
  obtain ⟨m, e⟩ := h
  have hp : 0 < 2 ^ t := Nat.pow_pos (by omega)
  have e1 : n - 1 = 2 ^ t * (2 * m) + (2 ^ t - 1) := by rw [e, Nat.mul_add]; omega
  have e2 : n = 2 ^ t * (2 * m + 1) + 0 := by omega
  apply Nat.eq_of_testBit_eq
  intro j
  rw [Nat.testBit_and, Nat.sub_sub, Nat.add_comm 1 n, Nat.testBit_two_pow_sub_succ q, Nat.testBit_two_pow_sub_one, e1, Nat.testBit_two_pow_mul_add _ (by omega), e2, Nat.testBit_two_pow_mul_add _ hp]
  by_cases hj : j < t
  · simp [hj, Nat.testBit_two_pow_sub_one]; omega
  · simp only [hj, if_false, decide_false]
    cases hs : j - t with
    | zero => simp
    | succ s =>
      rw [Nat.testBit_succ, Nat.testBit_succ]
      have : (2 * m + 1) / 2 = m := by omega
      rw [this]
      have : 2 * m / 2 = m := by omega
      rw [this]
      cases m.testBit s <;> simp
theorem own_mask32 {x : Int32} {t : Nat} (h : own_tz x.toBitVec.toNat t) : ((x ^^^ (-1)) &&& (x - 1)).toBitVec.toNat = 2 ^ t - 1 := by
  have hp : 0 < x.toBitVec.toNat := by obtain ⟨m, e⟩ := h; rw [e]; exact Nat.mul_pos (Nat.pow_pos (by omega)) (by omega)
  have hl : x.toBitVec.toNat < 2 ^ 32 := x.toBitVec.isLt
  rw [← own_maskB h hl]
  rw [Int32.toBitVec_and, Int32.toBitVec_xor, Int32.toBitVec_sub]
  rw [show (-1 : Int32).toBitVec = BitVec.allOnes 32 from by decide, BitVec.xor_allOnes, BitVec.toNat_and, BitVec.toNat_not, BitVec.toNat_sub]
  congr 1
  rw [show (1 : Int32).toBitVec.toNat = 1 from by decide]
  omega
theorem own_gcd_step {u v1 : Nat} (h : u ≤ v1) : u.gcd (v1 - u) = u.gcd v1 := Nat.gcd_sub_self_right h
theorem own_gcd_fin {A B ta t0 : Nat} {mo : Nat} (hA : A = 2 ^ ta * (2 * mo + 1)) (hB : 0 < B) (h0 : own_tz (A ||| B) t0) : 2 ^ t0 * (2 * mo + 1).gcd B = A.gcd B := by
  obtain ⟨m, e⟩ := h0
  have bits : ∀ j, j < t0 → A.testBit j = false ∧ B.testBit j = false := fun j hj => by
    have : (A ||| B).testBit j = false := by rw [e, Nat.testBit_two_pow_mul]; simp; omega
    rw [Nat.testBit_or] at this
    simpa using this
  have top : (A.testBit t0 || B.testBit t0) = true := by
    rw [← Nat.testBit_or, e, Nat.testBit_two_pow_mul]; simp
  have dv : ∀ n : Nat, (∀ j, j < t0 → n.testBit j = false) → n = 2 ^ t0 * (n / 2 ^ t0) := fun n hn => by
    have : n % 2 ^ t0 = 0 := by
      apply Nat.eq_of_testBit_eq
      intro j
      rw [Nat.testBit_mod_two_pow]
      by_cases q : j < t0
      · simp [hn j q]
      · simp [q]
    have := Nat.div_add_mod n (2 ^ t0)
    omega
  have dA := dv A (fun j hj => (bits j hj).1)
  have dB := dv B (fun j hj => (bits j hj).2)
  have tA : A.testBit t0 = decide ((A / 2 ^ t0) % 2 = 1) := by rw [Nat.testBit_eq_decide_div_mod_eq]
  have tB : B.testBit t0 = decide ((B / 2 ^ t0) % 2 = 1) := by rw [Nat.testBit_eq_decide_div_mod_eq]
  rw [tA, tB] at top
  have podd : (2 * mo + 1) % 2 = 1 := by omega
  generalize hA' : A / 2 ^ t0 = A' at *
  generalize hB' : B / 2 ^ t0 = B' at *
  have g1 : A.gcd B = 2 ^ t0 * A'.gcd B' := by rw [dA, dB, Nat.gcd_mul_left]
  have g2 : (2 * mo + 1).gcd B = (2 * mo + 1).gcd B' := by rw [dB, own_gcd_pow _ _ podd]
  rw [g1, g2]
  congr 1
  -- A' = 2^(ta - t0) * (2 mo + 1)
  have hle : t0 ≤ ta := by
    by_cases q : t0 ≤ ta
    · exact q
    · exfalso
      have := (bits ta (by omega)).1
      rw [hA, Nat.testBit_two_pow_mul] at this
      simp at this
  have hA2 : A' = 2 ^ (ta - t0) * (2 * mo + 1) := by
    have hp : 0 < 2 ^ t0 := Nat.pow_pos (by omega)
    apply Nat.eq_of_mul_eq_mul_left hp
    rw [← dA, hA, ← Nat.mul_assoc, ← Nat.pow_add]
    congr 2
    omega
  by_cases q : B' % 2 = 1
  · rw [hA2, Nat.gcd_comm (2 ^ (ta - t0) * (2 * mo + 1)) B', own_gcd_pow _ _ q, Nat.gcd_comm]
  · have a1 : A' % 2 = 1 := by simpa [q] using top
    have : ta - t0 = 0 := by
      cases hd : ta - t0 with
      | zero => rfl
      | succ d => rw [hA2, hd, Nat.pow_succ] at a1; exfalso; rw [Nat.mul_comm (2 ^ d) 2, Nat.mul_assoc] at a1; omega
    rw [hA2, this]; simp

theorem own_ushrL_bv (x : Int64) (y : Int32) (k : Nat) (hy : ((y &&& 0x3f).toInt64.toUInt64.toBitVec % 64).toNat = k) : (own_ushrL x y).toBitVec = x.toBitVec >>> k := by
  show x.toBitVec >>> ((y &&& 0x3f).toInt64.toUInt64.toBitVec % 64) = _
  rw [← hy]; rfl
theorem own_sh64 : ∀ t : Fin 64, (((Int32.ofNat t.1) &&& 0x3f).toInt64.toUInt64.toBitVec % 64).toNat = t.1 ∧ (Int32.ofNat t.1).toBitVec.toNat % 64 = t.1 := by decide
def own_N (x : Int64) : Nat := x.toBitVec.toNat
theorem own_NI {x : Int64} (h : 0 ≤ x.toInt) : x.toInt = own_N x := by
  have e : x.toInt = x.toBitVec.toInt := rfl
  rw [e] at h ⊢
  rw [BitVec.toInt_eq_toNat_cond] at h ⊢
  have := x.toBitVec.isLt
  unfold own_N
  split <;> omega
theorem own_NI2 {x : Int64} (h : own_N x < 2 ^ 63) : x.toInt = own_N x := by
  have e : x.toInt = x.toBitVec.toInt := rfl
  rw [e, BitVec.toInt_eq_toNat_cond]
  unfold own_N at *
  split <;> omega
theorem own_N0 {x : Int64} : own_N x = 0 ↔ x = 0 := by
  unfold own_N
  constructor
  · intro h; apply Int64.toBitVec_inj.mp; apply BitVec.eq_of_toNat_eq; rw [h]; rfl
  · intro h; rw [h]; rfl
theorem own_Nsh (x : Int64) {t : Nat} (ht : t < 64) : own_N (own_ushrL x (Int32.ofNat t)) = own_N x / 2 ^ t := by
  unfold own_N
  rw [own_ushrL_bv x _ t (own_sh64 ⟨t, ht⟩).1, BitVec.toNat_ushiftRight, Nat.shiftRight_eq_div_pow]
theorem own_Nor (x y : Int64) : own_N (x ||| y) = own_N x ||| own_N y := by
  unfold own_N; rw [Int64.toBitVec_or, BitVec.toNat_or]
theorem own_l2iN (x : Int64) : x.toInt32.toBitVec.toNat = own_N x % 2 ^ 32 := by
  unfold own_N
  rw [Int64.toBitVec_toInt32]
  simp [BitVec.signExtend_eq_setWidth_of_le]
def own_tz32 (x : Int32) (t : Nat) : Prop := (x = 0 ∧ t = 32) ∨ (t < 32 ∧ own_tz x.toBitVec.toNat t)
def own_tz64 (x : Int64) (t : Nat) : Prop := (x = 0 ∧ t = 64) ∨ (t < 64 ∧ own_tz (own_N x) t)
theorem own_tzL {x : Int64} {t : Nat} (h : own_tz32 x.toInt32 t) (h0 : ¬ x.toInt32 = 0) : own_tz64 x t := by
  rcases h with ⟨q, -⟩ | ⟨ht, m, e⟩
  · exact absurd q h0
  · refine Or.inr ⟨by omega, 2 ^ (31 - t) * (own_N x / 2 ^ 32) + m, ?_⟩
    rw [own_l2iN] at e
    have hd := Nat.div_add_mod (own_N x) (2 ^ 32)
    have p : 2 ^ 32 = 2 ^ t * (2 * 2 ^ (31 - t)) := by
      rw [← Nat.pow_succ', ← Nat.pow_add]
      congr 1
      omega
    obtain ⟨hi, ehi⟩ : ∃ z, z = own_N x / 2 ^ 32 := ⟨_, rfl⟩
    rw [← ehi] at hd ⊢
    rw [e, p, Nat.mul_assoc, ← Nat.mul_add, Nat.mul_assoc] at hd
    rw [← hd]
    congr 1
    generalize 2 ^ (31 - t) * hi = z
    omega
theorem own_tzH {x : Int64} {t : Nat} (h0 : x.toInt32 = 0) (h : own_tz32 (own_ushrL x 32).toInt32 t) : own_tz64 x (32 + t) := by
  have e0 : own_N x % 2 ^ 32 = 0 := by rw [← own_l2iN, h0]; rfl
  have e1 : (own_ushrL x 32).toInt32.toBitVec.toNat = own_N x / 2 ^ 32 := by
    have : own_N (own_ushrL x 32) = own_N x / 2 ^ 32 := own_Nsh x (t := 32) (by omega)
    rw [own_l2iN, this]
    have := x.toBitVec.isLt
    unfold own_N
    omega
  rcases h with ⟨q, rfl⟩ | ⟨ht, m, e⟩
  · refine Or.inl ⟨?_, rfl⟩
    rw [← own_N0]
    have : own_N x / 2 ^ 32 = 0 := by rw [← e1, q]; rfl
    omega
  · refine Or.inr ⟨by omega, m, ?_⟩
    rw [e1] at e
    rw [Nat.pow_add, Nat.mul_assoc, ← e]
    omega

theorem own_add32 (t : Nat) : (32 : Int32) + Int32.ofNat t = Int32.ofNat (32 + t) := by rw [Int32.ofNat_add]; rfl
theorem own_Nmod (x : Int64) : (x.toInt - (own_N x : Int)) % 18446744073709551616 = 0 := by
  have e : x.toInt = x.toBitVec.toInt := rfl
  rw [e, BitVec.toInt_eq_toNat_cond]
  unfold own_N
  split <;> omega
theorem own_Nlt (x : Int64) : own_N x < 2 ^ 64 := x.toBitVec.isLt
theorem own_tzne {v : Int64} {t : Nat} (h : own_tz64 v t) (h0 : ¬ v = 0) : t < 64 ∧ ∃ m, own_N v = 2 ^ t * (2 * m + 1) := by
  rcases h with ⟨q, -⟩ | ⟨q, m, e⟩
  · exact absurd q h0
  · exact ⟨q, m, e⟩
theorem own_divp {n t m : Nat} (h : n = 2 ^ t * (2 * m + 1)) : n / 2 ^ t = 2 * m + 1 ∧ 2 * m + 1 ≤ n := by
  have hp : 0 < 2 ^ t := Nat.pow_pos (by omega)
  rw [h]
  refine ⟨Nat.mul_div_cancel_left _ hp, ?_⟩
  exact Nat.le_mul_of_pos_left _ hp
theorem own_msk {x i : Int32} (h : (x ^^^ (-1 : Int32)) &&& (x - (1 : Int32)) = i) : (i = (0 : Int32) ∧ own_tz32 x 0) ∨ (i = (1 : Int32) ∧ own_tz32 x 1) ∨ (i = (3 : Int32) ∧ own_tz32 x 2) ∨ (i = (7 : Int32) ∧ own_tz32 x 3) ∨ (i = (15 : Int32) ∧ own_tz32 x 4) ∨ (i = (31 : Int32) ∧ own_tz32 x 5) ∨ (i = (63 : Int32) ∧ own_tz32 x 6) ∨ (i = (127 : Int32) ∧ own_tz32 x 7) ∨ (i = (255 : Int32) ∧ own_tz32 x 8) ∨ (i = (511 : Int32) ∧ own_tz32 x 9) ∨ (i = (1023 : Int32) ∧ own_tz32 x 10) ∨ (i = (2047 : Int32) ∧ own_tz32 x 11) ∨ (i = (4095 : Int32) ∧ own_tz32 x 12) ∨ (i = (8191 : Int32) ∧ own_tz32 x 13) ∨ (i = (16383 : Int32) ∧ own_tz32 x 14) ∨ (i = (32767 : Int32) ∧ own_tz32 x 15) ∨ (i = (65535 : Int32) ∧ own_tz32 x 16) ∨ (i = (131071 : Int32) ∧ own_tz32 x 17) ∨ (i = (262143 : Int32) ∧ own_tz32 x 18) ∨ (i = (524287 : Int32) ∧ own_tz32 x 19) ∨ (i = (1048575 : Int32) ∧ own_tz32 x 20) ∨ (i = (2097151 : Int32) ∧ own_tz32 x 21) ∨ (i = (4194303 : Int32) ∧ own_tz32 x 22) ∨ (i = (8388607 : Int32) ∧ own_tz32 x 23) ∨ (i = (16777215 : Int32) ∧ own_tz32 x 24) ∨ (i = (33554431 : Int32) ∧ own_tz32 x 25) ∨ (i = (67108863 : Int32) ∧ own_tz32 x 26) ∨ (i = (134217727 : Int32) ∧ own_tz32 x 27) ∨ (i = (268435455 : Int32) ∧ own_tz32 x 28) ∨ (i = (536870911 : Int32) ∧ own_tz32 x 29) ∨ (i = (1073741823 : Int32) ∧ own_tz32 x 30) ∨ (i = (2147483647 : Int32) ∧ own_tz32 x 31) ∨ (i = (-1 : Int32) ∧ own_tz32 x 32) := by
  by_cases h0 : x = 0
  · refine Or.inr (Or.inr (Or.inr (Or.inr (Or.inr (Or.inr (Or.inr (Or.inr (Or.inr (Or.inr (Or.inr (Or.inr (Or.inr (Or.inr (Or.inr (Or.inr (Or.inr (Or.inr (Or.inr (Or.inr (Or.inr (Or.inr (Or.inr (Or.inr (Or.inr (Or.inr (Or.inr (Or.inr (Or.inr (Or.inr (Or.inr (Or.inr ((?_)))))))))))))))))))))))))))))))))
    exact ⟨by rw [← h, h0]; decide, Or.inl ⟨h0, rfl⟩⟩
  · have hp : 0 < x.toBitVec.toNat := by
      apply Nat.pos_of_ne_zero
      intro q
      apply h0
      apply Int32.toBitVec_inj.mp
      apply BitVec.eq_of_toNat_eq
      rw [q]; rfl
    obtain ⟨t, ht⟩ := own_tz_ex _ hp
    have hl := own_tz_lt ht x.toBitVec.isLt
    have hi := own_mask32 ht
    rw [h] at hi
    have key : ∀ k : Int32, k.toBitVec.toNat = 2 ^ t - 1 → i = k := fun k hk => by
      apply Int32.toBitVec_inj.mp
      apply BitVec.eq_of_toNat_eq
      rw [hi, hk]
    have : t = 0 ∨ t = 1 ∨ t = 2 ∨ t = 3 ∨ t = 4 ∨ t = 5 ∨ t = 6 ∨ t = 7 ∨ t = 8 ∨ t = 9 ∨ t = 10 ∨ t = 11 ∨ t = 12 ∨ t = 13 ∨ t = 14 ∨ t = 15 ∨ t = 16 ∨ t = 17 ∨ t = 18 ∨ t = 19 ∨ t = 20 ∨ t = 21 ∨ t = 22 ∨ t = 23 ∨ t = 24 ∨ t = 25 ∨ t = 26 ∨ t = 27 ∨ t = 28 ∨ t = 29 ∨ t = 30 ∨ t = 31 := by omega
    rcases this with rfl | rfl | rfl | rfl | rfl | rfl | rfl | rfl | rfl | rfl | rfl | rfl | rfl | rfl | rfl | rfl | rfl | rfl | rfl | rfl | rfl | rfl | rfl | rfl | rfl | rfl | rfl | rfl | rfl | rfl | rfl | rfl
    · exact Or.inl (⟨key 0 (by decide), Or.inr ⟨hl, ht⟩⟩)
    · exact Or.inr (Or.inl (⟨key 1 (by decide), Or.inr ⟨hl, ht⟩⟩))
    · exact Or.inr (Or.inr (Or.inl (⟨key 3 (by decide), Or.inr ⟨hl, ht⟩⟩)))
    · exact Or.inr (Or.inr (Or.inr (Or.inl (⟨key 7 (by decide), Or.inr ⟨hl, ht⟩⟩))))
    · exact Or.inr (Or.inr (Or.inr (Or.inr (Or.inl (⟨key 15 (by decide), Or.inr ⟨hl, ht⟩⟩)))))
    · exact Or.inr (Or.inr (Or.inr (Or.inr (Or.inr (Or.inl (⟨key 31 (by decide), Or.inr ⟨hl, ht⟩⟩))))))
    · exact Or.inr (Or.inr (Or.inr (Or.inr (Or.inr (Or.inr (Or.inl (⟨key 63 (by decide), Or.inr ⟨hl, ht⟩⟩)))))))
    · exact Or.inr (Or.inr (Or.inr (Or.inr (Or.inr (Or.inr (Or.inr (Or.inl (⟨key 127 (by decide), Or.inr ⟨hl, ht⟩⟩))))))))
    · exact Or.inr (Or.inr (Or.inr (Or.inr (Or.inr (Or.inr (Or.inr (Or.inr (Or.inl (⟨key 255 (by decide), Or.inr ⟨hl, ht⟩⟩)))))))))
    · exact Or.inr (Or.inr (Or.inr (Or.inr (Or.inr (Or.inr (Or.inr (Or.inr (Or.inr (Or.inl (⟨key 511 (by decide), Or.inr ⟨hl, ht⟩⟩))))))))))
    · exact Or.inr (Or.inr (Or.inr (Or.inr (Or.inr (Or.inr (Or.inr (Or.inr (Or.inr (Or.inr (Or.inl (⟨key 1023 (by decide), Or.inr ⟨hl, ht⟩⟩)))))))))))
    · exact Or.inr (Or.inr (Or.inr (Or.inr (Or.inr (Or.inr (Or.inr (Or.inr (Or.inr (Or.inr (Or.inr (Or.inl (⟨key 2047 (by decide), Or.inr ⟨hl, ht⟩⟩))))))))))))
    · exact Or.inr (Or.inr (Or.inr (Or.inr (Or.inr (Or.inr (Or.inr (Or.inr (Or.inr (Or.inr (Or.inr (Or.inr (Or.inl (⟨key 4095 (by decide), Or.inr ⟨hl, ht⟩⟩)))))))))))))
    · exact Or.inr (Or.inr (Or.inr (Or.inr (Or.inr (Or.inr (Or.inr (Or.inr (Or.inr (Or.inr (Or.inr (Or.inr (Or.inr (Or.inl (⟨key 8191 (by decide), Or.inr ⟨hl, ht⟩⟩))))))))))))))
    · exact Or.inr (Or.inr (Or.inr (Or.inr (Or.inr (Or.inr (Or.inr (Or.inr (Or.inr (Or.inr (Or.inr (Or.inr (Or.inr (Or.inr (Or.inl (⟨key 16383 (by decide), Or.inr ⟨hl, ht⟩⟩)))))))))))))))
    · exact Or.inr (Or.inr (Or.inr (Or.inr (Or.inr (Or.inr (Or.inr (Or.inr (Or.inr (Or.inr (Or.inr (Or.inr (Or.inr (Or.inr (Or.inr (Or.inl (⟨key 32767 (by decide), Or.inr ⟨hl, ht⟩⟩))))))))))))))))
    · exact Or.inr (Or.inr (Or.inr (Or.inr (Or.inr (Or.inr (Or.inr (Or.inr (Or.inr (Or.inr (Or.inr (Or.inr (Or.inr (Or.inr (Or.inr (Or.inr (Or.inl (⟨key 65535 (by decide), Or.inr ⟨hl, ht⟩⟩)))))))))))))))))
    · exact Or.inr (Or.inr (Or.inr (Or.inr (Or.inr (Or.inr (Or.inr (Or.inr (Or.inr (Or.inr (Or.inr (Or.inr (Or.inr (Or.inr (Or.inr (Or.inr (Or.inr (Or.inl (⟨key 131071 (by decide), Or.inr ⟨hl, ht⟩⟩))))))))))))))))))
    · exact Or.inr (Or.inr (Or.inr (Or.inr (Or.inr (Or.inr (Or.inr (Or.inr (Or.inr (Or.inr (Or.inr (Or.inr (Or.inr (Or.inr (Or.inr (Or.inr (Or.inr (Or.inr (Or.inl (⟨key 262143 (by decide), Or.inr ⟨hl, ht⟩⟩)))))))))))))))))))
    · exact Or.inr (Or.inr (Or.inr (Or.inr (Or.inr (Or.inr (Or.inr (Or.inr (Or.inr (Or.inr (Or.inr (Or.inr (Or.inr (Or.inr (Or.inr (Or.inr (Or.inr (Or.inr (Or.inr (Or.inl (⟨key 524287 (by decide), Or.inr ⟨hl, ht⟩⟩))))))))))))))))))))
    · exact Or.inr (Or.inr (Or.inr (Or.inr (Or.inr (Or.inr (Or.inr (Or.inr (Or.inr (Or.inr (Or.inr (Or.inr (Or.inr (Or.inr (Or.inr (Or.inr (Or.inr (Or.inr (Or.inr (Or.inr (Or.inl (⟨key 1048575 (by decide), Or.inr ⟨hl, ht⟩⟩)))))))))))))))))))))
    · exact Or.inr (Or.inr (Or.inr (Or.inr (Or.inr (Or.inr (Or.inr (Or.inr (Or.inr (Or.inr (Or.inr (Or.inr (Or.inr (Or.inr (Or.inr (Or.inr (Or.inr (Or.inr (Or.inr (Or.inr (Or.inr (Or.inl (⟨key 2097151 (by decide), Or.inr ⟨hl, ht⟩⟩))))))))))))))))))))))
    · exact Or.inr (Or.inr (Or.inr (Or.inr (Or.inr (Or.inr (Or.inr (Or.inr (Or.inr (Or.inr (Or.inr (Or.inr (Or.inr (Or.inr (Or.inr (Or.inr (Or.inr (Or.inr (Or.inr (Or.inr (Or.inr (Or.inr (Or.inl (⟨key 4194303 (by decide), Or.inr ⟨hl, ht⟩⟩)))))))))))))))))))))))
    · exact Or.inr (Or.inr (Or.inr (Or.inr (Or.inr (Or.inr (Or.inr (Or.inr (Or.inr (Or.inr (Or.inr (Or.inr (Or.inr (Or.inr (Or.inr (Or.inr (Or.inr (Or.inr (Or.inr (Or.inr (Or.inr (Or.inr (Or.inr (Or.inl (⟨key 8388607 (by decide), Or.inr ⟨hl, ht⟩⟩))))))))))))))))))))))))
    · exact Or.inr (Or.inr (Or.inr (Or.inr (Or.inr (Or.inr (Or.inr (Or.inr (Or.inr (Or.inr (Or.inr (Or.inr (Or.inr (Or.inr (Or.inr (Or.inr (Or.inr (Or.inr (Or.inr (Or.inr (Or.inr (Or.inr (Or.inr (Or.inr (Or.inl (⟨key 16777215 (by decide), Or.inr ⟨hl, ht⟩⟩)))))))))))))))))))))))))
    · exact Or.inr (Or.inr (Or.inr (Or.inr (Or.inr (Or.inr (Or.inr (Or.inr (Or.inr (Or.inr (Or.inr (Or.inr (Or.inr (Or.inr (Or.inr (Or.inr (Or.inr (Or.inr (Or.inr (Or.inr (Or.inr (Or.inr (Or.inr (Or.inr (Or.inr (Or.inl (⟨key 33554431 (by decide), Or.inr ⟨hl, ht⟩⟩))))))))))))))))))))))))))
    · exact Or.inr (Or.inr (Or.inr (Or.inr (Or.inr (Or.inr (Or.inr (Or.inr (Or.inr (Or.inr (Or.inr (Or.inr (Or.inr (Or.inr (Or.inr (Or.inr (Or.inr (Or.inr (Or.inr (Or.inr (Or.inr (Or.inr (Or.inr (Or.inr (Or.inr (Or.inr (Or.inl (⟨key 67108863 (by decide), Or.inr ⟨hl, ht⟩⟩)))))))))))))))))))))))))))
    · exact Or.inr (Or.inr (Or.inr (Or.inr (Or.inr (Or.inr (Or.inr (Or.inr (Or.inr (Or.inr (Or.inr (Or.inr (Or.inr (Or.inr (Or.inr (Or.inr (Or.inr (Or.inr (Or.inr (Or.inr (Or.inr (Or.inr (Or.inr (Or.inr (Or.inr (Or.inr (Or.inr (Or.inl (⟨key 134217727 (by decide), Or.inr ⟨hl, ht⟩⟩))))))))))))))))))))))))))))
    · exact Or.inr (Or.inr (Or.inr (Or.inr (Or.inr (Or.inr (Or.inr (Or.inr (Or.inr (Or.inr (Or.inr (Or.inr (Or.inr (Or.inr (Or.inr (Or.inr (Or.inr (Or.inr (Or.inr (Or.inr (Or.inr (Or.inr (Or.inr (Or.inr (Or.inr (Or.inr (Or.inr (Or.inr (Or.inl (⟨key 268435455 (by decide), Or.inr ⟨hl, ht⟩⟩)))))))))))))))))))))))))))))
    · exact Or.inr (Or.inr (Or.inr (Or.inr (Or.inr (Or.inr (Or.inr (Or.inr (Or.inr (Or.inr (Or.inr (Or.inr (Or.inr (Or.inr (Or.inr (Or.inr (Or.inr (Or.inr (Or.inr (Or.inr (Or.inr (Or.inr (Or.inr (Or.inr (Or.inr (Or.inr (Or.inr (Or.inr (Or.inr (Or.inl (⟨key 536870911 (by decide), Or.inr ⟨hl, ht⟩⟩))))))))))))))))))))))))))))))
    · exact Or.inr (Or.inr (Or.inr (Or.inr (Or.inr (Or.inr (Or.inr (Or.inr (Or.inr (Or.inr (Or.inr (Or.inr (Or.inr (Or.inr (Or.inr (Or.inr (Or.inr (Or.inr (Or.inr (Or.inr (Or.inr (Or.inr (Or.inr (Or.inr (Or.inr (Or.inr (Or.inr (Or.inr (Or.inr (Or.inr (Or.inl (⟨key 1073741823 (by decide), Or.inr ⟨hl, ht⟩⟩)))))))))))))))))))))))))))))))
    · exact Or.inr (Or.inr (Or.inr (Or.inr (Or.inr (Or.inr (Or.inr (Or.inr (Or.inr (Or.inr (Or.inr (Or.inr (Or.inr (Or.inr (Or.inr (Or.inr (Or.inr (Or.inr (Or.inr (Or.inr (Or.inr (Or.inr (Or.inr (Or.inr (Or.inr (Or.inr (Or.inr (Or.inr (Or.inr (Or.inr (Or.inr (Or.inl (⟨key 2147483647 (by decide), Or.inr ⟨hl, ht⟩⟩))))))))))))))))))))))))))))))))
theorem own_orn {a b : Int64} (ha : 0 ≤ a.toInt) (hbq : 0 ≤ b.toInt) : ¬ (a ||| b) < 0 := by
  have h := (c_orSL a b).1 ha hbq
  have e0 : (0 : Int64).toInt = 0 := rfl
  rw [Int64.lt_iff_toInt_lt, e0]; omega
theorem own_g0 {a b : Int64} (h : a = 0 ∨ b = 0) : own_N (a ||| b) = (own_N a).gcd (own_N b) := by
  rw [own_Nor]
  rcases h with rfl | rfl
  · rw [show own_N 0 = 0 from rfl, Nat.zero_or, Nat.gcd_zero_left]
  · rw [show own_N 0 = 0 from rfl, Nat.or_zero, Nat.gcd_zero_right]
def own_two (a b : Slot) : Prop := (a = .unset ∧ b = .unset) ∨ ∃ z : Int64, a = .val (.long z) ∧ b = .second
theorem own_63 {a : Int64} (h : 0 ≤ a.toInt) : own_N a < 2 ^ 63 := by
  have h1 := own_NI h
  have := rng64 a
  omega
theorem own_ltN {a b : Int64} (ha : own_N a < 2 ^ 63) (hbq : own_N b < 2 ^ 63) : a < b ↔ own_N a < own_N b := by
  rw [Int64.lt_iff_toInt_lt, own_NI2 ha, own_NI2 hbq]; omega
theorem own_Nsub {a b : Int64} (ha : own_N a < 2 ^ 63) (h : own_N b ≤ own_N a) : own_N (a - b) = own_N a - own_N b := by
  have h1 := own_NI2 ha
  have h2 := own_NI2 (x := b) (by omega)
  have h3 := c_lsub a b
  have h4 := own_Nmod (a - b)
  have h5 := own_Nlt (a - b)
  omega
theorem own_exit {u : Int64} {t : Nat} (ht : t < 64) (h : 2 ^ t * own_N u < 2 ^ 63) : own_N (u <<< (Int32.ofNat t &&& 0x3f).toInt64) = 2 ^ t * own_N u := by
  have hp : 1 ≤ 2 ^ t := Nat.pow_pos (by omega)
  have hle : own_N u ≤ 2 ^ t * own_N u := Nat.le_mul_of_pos_left _ hp
  have h1 := own_NI2 (x := u) (by omega)
  have h3 := c_lshl u (Int32.ofNat t) t (own_sh64 ⟨t, ht⟩).2
  have h4 := own_Nmod (u <<< (Int32.ofNat t &&& 0x3f).toInt64)
  have h5 := own_Nlt (u <<< (Int32.ofNat t &&& 0x3f).toInt64)
  rw [h1] at h3
  have e : (own_N u : Int) * ((2 ^ t : Nat) : Int) = ((2 ^ t * own_N u : Nat) : Int) := by rw [Int.natCast_mul, Int.mul_comm]
  rw [e] at h3
  generalize 2 ^ t * own_N u = z at *
  omega
theorem own_fin {a b u : Int64} {t0 ta : Nat} (ha : 0 ≤ a.toInt) (ha0 : ¬ a = 0) (hb0 : ¬ b = 0) (h0 : own_tz64 (a ||| b) t0) (h1 : own_tz64 a ta) (hu : own_N u = (own_N (own_ushrL a (Int32.ofNat ta))).gcd (own_N b)) : own_N (u <<< (Int32.ofNat t0 &&& 0x3f).toInt64) = (own_N a).gcd (own_N b) := by
  obtain ⟨ta64, mo, hA⟩ := own_tzne h1 ha0
  have hor : ¬ (a ||| b) = 0 := fun q => by
    rw [← own_N0, own_Nor] at q
    apply ha0
    rw [← own_N0]
    exact (Nat.or_eq_zero_iff.mp q).1
  obtain ⟨t64, m0, h0'⟩ := own_tzne h0 hor
  rw [own_Nor] at h0'
  have hB : 0 < own_N b := Nat.pos_of_ne_zero fun q => hb0 (own_N0.mp q)
  rw [own_Nsh a ta64, (own_divp hA).1] at hu
  have key := own_gcd_fin hA hB ⟨m0, h0'⟩
  rw [← hu] at key
  have hle : (own_N a).gcd (own_N b) ≤ own_N a := Nat.gcd_le_left _ (by
    apply Nat.pos_of_ne_zero; intro q; exact ha0 (own_N0.mp q))
  have := own_63 ha
  rw [← key]
  exact own_exit t64 (by omega)
def own_room3 : Room := { frames := 0, cells := 0, slots := 0, locals := 0 }
def own_Q3 (Z : State) (p0 : Int32) (h0 : Heap) (n0 : Nat) (v : Option Value) (h : Heap) (L : List Loc) : Prop := ∃ (t : Nat), v = some (.int (Int32.ofNat t)) ∧ Fr n0 L ∧ h = h0 ∧ own_tz32 p0 t
theorem own_ef_rm3 (m : MethodId) (x0 : Int32) : entryFrame m #[(.int x0)] 2 = mkF m 0 #[.val (.int x0), .unset] [] := by first | (simp [entryFrame, mkF, argsToLocals, Value.category]; done) | rfl
set_option maxRecDepth 65536 in
set_option maxHeartbeats 40000000 in
theorem own_rm3 (l : Launch) (Z : State) (a0 : Array Value) (hw : ∀ d ∈ tables_1, d.before a0 Z = true) (ws : List Jvm.Cond) (p0 : Int32) (h0 : Heap) (n0 : Nat) :
    MetFree l (⟨"java/lang/Integer", "numberOfTrailingZeros", "(I)I"⟩ : MethodName) (head1 (Jvm.Cond.code (⟨"java/lang/Integer", "numberOfTrailingZeros", "(I)I"⟩ : MethodName) jdk_33_method_48_code 2 (some .int) :: ws) own_room3) (fun zz U => zz = #[(.int p0)] ∧ Z.Warmed39 U.vm ∧ U.heap = h0) (fun _ _ _ _ _ => True) (fun _ U o U' => ∃ v L, o = .returned v ∧ own_Q3 Z p0 h0 n0 v U'.heap L ∧ FrameEnd U o U' L own_room3.cells own_room3.slots) := by
  refine MetFree.of_bodySF (plainFor_of_name own_pn0) hisR ?_
  intro p e s m args below meth c s₁ Bd hml0 hP hK
  obtain ⟨rfl, hZ, hh⟩ := hP
  have hx := Bd.exec
  have hby := Bd.bytes
  have hml : c.maxLocals = 2 := hml0
  have hown : s.vm.findClass "java/lang/Integer" = some m.cls := findClass_of_methodNamed Bd.named
  have hnm := (name_of_methodNamed Bd.named Bd.method).1
  have hlk : meth.locks = false := BodyLoose.notSynchronized Bd
  have hret := Bd.returns
  have X0 : Stand p l e own_room3 s m #[(.int p0)] below meth c s₁ [] 0 0 := Stand.of_body Bd
  have e0 : s₁.heap = h0 := by rw [← hh, Bd.state]; rfl
  have N0 := Fr.nil n0
  show own_Ends p e below s (own_Q3 Z p0 h0 n0) own_room3.cells own_room3.slots s₁ (entryFrame m #[(.int p0)] 2)
  refine own_cast (own_ef_rm3 m p0) ?_
  refine own_iloadN (pc' := 1) X0 hx (hb hby own_d3_0) rfl rfl ?_
  refine own_iconst (pc' := 2) (z := (-1 : Int32)) X0 hx (hb hby own_d3_1) rfl rfl ?_
  refine own_ixor (pc' := 3) (z := (p0 ^^^ (-1 : Int32))) X0 hx (hb hby own_d3_2) rfl rfl ?_
  refine own_iloadN (pc' := 4) X0 hx (hb hby own_d3_3) rfl rfl ?_
  refine own_iconst (pc' := 5) (z := (1 : Int32)) X0 hx (hb hby own_d3_4) rfl rfl ?_
  refine own_isub (pc' := 6) (z := (p0 - (1 : Int32))) X0 hx (hb hby own_d3_5) rfl rfl ?_
  obtain ⟨i31, hi31⟩ : ∃ z, ((p0 ^^^ (-1 : Int32)) &&& (p0 - (1 : Int32))) = z := ⟨_, rfl⟩
  refine own_iand (pc' := 7) (z := i31) X0 hx (hb hby own_d3_6) rfl hi31 ?_
  rcases own_msk hi31 with ⟨rfl, q⟩ | ⟨rfl, q⟩ | ⟨rfl, q⟩ | ⟨rfl, q⟩ | ⟨rfl, q⟩ | ⟨rfl, q⟩ | ⟨rfl, q⟩ | ⟨rfl, q⟩ | ⟨rfl, q⟩ | ⟨rfl, q⟩ | ⟨rfl, q⟩ | ⟨rfl, q⟩ | ⟨rfl, q⟩ | ⟨rfl, q⟩ | ⟨rfl, q⟩ | ⟨rfl, q⟩ | ⟨rfl, q⟩ | ⟨rfl, q⟩ | ⟨rfl, q⟩ | ⟨rfl, q⟩ | ⟨rfl, q⟩ | ⟨rfl, q⟩ | ⟨rfl, q⟩ | ⟨rfl, q⟩ | ⟨rfl, q⟩ | ⟨rfl, q⟩ | ⟨rfl, q⟩ | ⟨rfl, q⟩ | ⟨rfl, q⟩ | ⟨rfl, q⟩ | ⟨rfl, q⟩ | ⟨rfl, q⟩ | ⟨rfl, q⟩
  · refine own_istoreN (pc' := 8) (l' := #[.val (.int (0 : Int32)), .unset]) X0 hx (hb hby own_d3_7) rfl rfl ?_
    refine own_iloadN (pc' := 9) X0 hx (hb hby own_d3_8) rfl rfl ?_
    refine own_ifNo (pc' := 12) X0 hx (hb hby own_d3_9) rfl (flt (by decide)).2.2.1 ?_
    refine own_iloadN (pc' := 13) X0 hx (hb hby own_d3_12) rfl rfl ?_
    refine own_bipush (pc' := 15) (z := (32 : Int32)) X0 hx (hb hby own_d3_13) rfl rfl ?_
    refine own_iand (pc' := 16) (z := (0 : Int32)) X0 hx (hb hby own_d3_15) rfl (by decide) ?_
    refine own_retI X0 hx hlk hret (hb hby own_d3_16) (by decide) (by decide) ?_
    exact ⟨0, rfl, N0, e0, q⟩
  · refine own_istoreN (pc' := 8) (l' := #[.val (.int (1 : Int32)), .unset]) X0 hx (hb hby own_d3_7) rfl rfl ?_
    refine own_iloadN (pc' := 9) X0 hx (hb hby own_d3_8) rfl rfl ?_
    refine own_ifYes (pc' := 17) X0 hx (hb hby own_d3_9) (tlt (by decide)).2.2.1 (by decide) (by decide) ?_
    refine own_iconst (pc' := 18) (z := (1 : Int32)) X0 hx (hb hby own_d3_17) rfl rfl ?_
    refine own_istoreN (pc' := 19) (l' := #[.val (.int (1 : Int32)), .val (.int (1 : Int32))]) X0 hx (hb hby own_d3_18) rfl rfl ?_
    refine own_iloadN (pc' := 20) X0 hx (hb hby own_d3_19) rfl rfl ?_
    refine own_ldcwI (pc' := 23) X0 hx hZ hown (own_w13 hw) (hb hby own_d3_20) rfl ?_
    refine own_icmpYes (pc' := 34) X0 hx (hb hby own_d3_23) (flt (by decide)).2.2.2 (by decide) (by decide) ?_
    refine own_iloadN (pc' := 35) X0 hx (hb hby own_d3_34) rfl rfl ?_
    refine own_sipush (pc' := 38) (z := (256 : Int32)) X0 hx (hb hby own_d3_35) rfl rfl ?_
    refine own_icmpYes (pc' := 49) X0 hx (hb hby own_d3_38) (flt (by decide)).2.2.2 (by decide) (by decide) ?_
    refine own_iloadN (pc' := 50) X0 hx (hb hby own_d3_49) rfl rfl ?_
    refine own_bipush (pc' := 52) (z := (16 : Int32)) X0 hx (hb hby own_d3_50) rfl rfl ?_
    refine own_icmpYes (pc' := 62) X0 hx (hb hby own_d3_52) (flt (by decide)).2.2.2 (by decide) (by decide) ?_
    refine own_iloadN (pc' := 63) X0 hx (hb hby own_d3_62) rfl rfl ?_
    refine own_iconst (pc' := 64) (z := (4 : Int32)) X0 hx (hb hby own_d3_63) rfl rfl ?_
    refine own_icmpYes (pc' := 74) X0 hx (hb hby own_d3_64) (flt (by decide)).2.2.2 (by decide) (by decide) ?_
    refine own_iloadN (pc' := 75) X0 hx (hb hby own_d3_74) rfl rfl ?_
    refine own_iloadN (pc' := 76) X0 hx (hb hby own_d3_75) rfl rfl ?_
    refine own_iconst (pc' := 77) (z := (1 : Int32)) X0 hx (hb hby own_d3_76) rfl rfl ?_
    refine own_iushr (pc' := 78) (z := (0 : Int32)) X0 hx (hb hby own_d3_77) rfl (by decide) ?_
    refine own_iadd (pc' := 79) (z := (1 : Int32)) X0 hx (hb hby own_d3_78) rfl (by decide) ?_
    refine own_retI X0 hx hlk hret (hb hby own_d3_79) (by decide) (by decide) ?_
    exact ⟨1, rfl, N0, e0, q⟩
  · refine own_istoreN (pc' := 8) (l' := #[.val (.int (3 : Int32)), .unset]) X0 hx (hb hby own_d3_7) rfl rfl ?_
    refine own_iloadN (pc' := 9) X0 hx (hb hby own_d3_8) rfl rfl ?_
    refine own_ifYes (pc' := 17) X0 hx (hb hby own_d3_9) (tlt (by decide)).2.2.1 (by decide) (by decide) ?_
    refine own_iconst (pc' := 18) (z := (1 : Int32)) X0 hx (hb hby own_d3_17) rfl rfl ?_
    refine own_istoreN (pc' := 19) (l' := #[.val (.int (3 : Int32)), .val (.int (1 : Int32))]) X0 hx (hb hby own_d3_18) rfl rfl ?_
    refine own_iloadN (pc' := 20) X0 hx (hb hby own_d3_19) rfl rfl ?_
    refine own_ldcwI (pc' := 23) X0 hx hZ hown (own_w13 hw) (hb hby own_d3_20) rfl ?_
    refine own_icmpYes (pc' := 34) X0 hx (hb hby own_d3_23) (flt (by decide)).2.2.2 (by decide) (by decide) ?_
    refine own_iloadN (pc' := 35) X0 hx (hb hby own_d3_34) rfl rfl ?_
    refine own_sipush (pc' := 38) (z := (256 : Int32)) X0 hx (hb hby own_d3_35) rfl rfl ?_
    refine own_icmpYes (pc' := 49) X0 hx (hb hby own_d3_38) (flt (by decide)).2.2.2 (by decide) (by decide) ?_
    refine own_iloadN (pc' := 50) X0 hx (hb hby own_d3_49) rfl rfl ?_
    refine own_bipush (pc' := 52) (z := (16 : Int32)) X0 hx (hb hby own_d3_50) rfl rfl ?_
    refine own_icmpYes (pc' := 62) X0 hx (hb hby own_d3_52) (flt (by decide)).2.2.2 (by decide) (by decide) ?_
    refine own_iloadN (pc' := 63) X0 hx (hb hby own_d3_62) rfl rfl ?_
    refine own_iconst (pc' := 64) (z := (4 : Int32)) X0 hx (hb hby own_d3_63) rfl rfl ?_
    refine own_icmpYes (pc' := 74) X0 hx (hb hby own_d3_64) (flt (by decide)).2.2.2 (by decide) (by decide) ?_
    refine own_iloadN (pc' := 75) X0 hx (hb hby own_d3_74) rfl rfl ?_
    refine own_iloadN (pc' := 76) X0 hx (hb hby own_d3_75) rfl rfl ?_
    refine own_iconst (pc' := 77) (z := (1 : Int32)) X0 hx (hb hby own_d3_76) rfl rfl ?_
    refine own_iushr (pc' := 78) (z := (1 : Int32)) X0 hx (hb hby own_d3_77) rfl (by decide) ?_
    refine own_iadd (pc' := 79) (z := (2 : Int32)) X0 hx (hb hby own_d3_78) rfl (by decide) ?_
    refine own_retI X0 hx hlk hret (hb hby own_d3_79) (by decide) (by decide) ?_
    exact ⟨2, rfl, N0, e0, q⟩
  · refine own_istoreN (pc' := 8) (l' := #[.val (.int (7 : Int32)), .unset]) X0 hx (hb hby own_d3_7) rfl rfl ?_
    refine own_iloadN (pc' := 9) X0 hx (hb hby own_d3_8) rfl rfl ?_
    refine own_ifYes (pc' := 17) X0 hx (hb hby own_d3_9) (tlt (by decide)).2.2.1 (by decide) (by decide) ?_
    refine own_iconst (pc' := 18) (z := (1 : Int32)) X0 hx (hb hby own_d3_17) rfl rfl ?_
    refine own_istoreN (pc' := 19) (l' := #[.val (.int (7 : Int32)), .val (.int (1 : Int32))]) X0 hx (hb hby own_d3_18) rfl rfl ?_
    refine own_iloadN (pc' := 20) X0 hx (hb hby own_d3_19) rfl rfl ?_
    refine own_ldcwI (pc' := 23) X0 hx hZ hown (own_w13 hw) (hb hby own_d3_20) rfl ?_
    refine own_icmpYes (pc' := 34) X0 hx (hb hby own_d3_23) (flt (by decide)).2.2.2 (by decide) (by decide) ?_
    refine own_iloadN (pc' := 35) X0 hx (hb hby own_d3_34) rfl rfl ?_
    refine own_sipush (pc' := 38) (z := (256 : Int32)) X0 hx (hb hby own_d3_35) rfl rfl ?_
    refine own_icmpYes (pc' := 49) X0 hx (hb hby own_d3_38) (flt (by decide)).2.2.2 (by decide) (by decide) ?_
    refine own_iloadN (pc' := 50) X0 hx (hb hby own_d3_49) rfl rfl ?_
    refine own_bipush (pc' := 52) (z := (16 : Int32)) X0 hx (hb hby own_d3_50) rfl rfl ?_
    refine own_icmpYes (pc' := 62) X0 hx (hb hby own_d3_52) (flt (by decide)).2.2.2 (by decide) (by decide) ?_
    refine own_iloadN (pc' := 63) X0 hx (hb hby own_d3_62) rfl rfl ?_
    refine own_iconst (pc' := 64) (z := (4 : Int32)) X0 hx (hb hby own_d3_63) rfl rfl ?_
    refine own_icmpNo (pc' := 67) X0 hx (hb hby own_d3_64) rfl (tlt (by decide)).2.2.2 ?_
    refine own_iinc (pc' := 70) (z := (3 : Int32)) (l' := #[.val (.int (7 : Int32)), .val (.int (3 : Int32))]) X0 hx (hb hby own_d3_67) rfl rfl (by decide) rfl ?_
    refine own_iloadN (pc' := 71) X0 hx (hb hby own_d3_70) rfl rfl ?_
    refine own_iconst (pc' := 72) (z := (2 : Int32)) X0 hx (hb hby own_d3_71) rfl rfl ?_
    refine own_iushr (pc' := 73) (z := (1 : Int32)) X0 hx (hb hby own_d3_72) rfl (by decide) ?_
    refine own_istoreN (pc' := 74) (l' := #[.val (.int (1 : Int32)), .val (.int (3 : Int32))]) X0 hx (hb hby own_d3_73) rfl rfl ?_
    refine own_iloadN (pc' := 75) X0 hx (hb hby own_d3_74) rfl rfl ?_
    refine own_iloadN (pc' := 76) X0 hx (hb hby own_d3_75) rfl rfl ?_
    refine own_iconst (pc' := 77) (z := (1 : Int32)) X0 hx (hb hby own_d3_76) rfl rfl ?_
    refine own_iushr (pc' := 78) (z := (0 : Int32)) X0 hx (hb hby own_d3_77) rfl (by decide) ?_
    refine own_iadd (pc' := 79) (z := (3 : Int32)) X0 hx (hb hby own_d3_78) rfl (by decide) ?_
    refine own_retI X0 hx hlk hret (hb hby own_d3_79) (by decide) (by decide) ?_
    exact ⟨3, rfl, N0, e0, q⟩
  · refine own_istoreN (pc' := 8) (l' := #[.val (.int (15 : Int32)), .unset]) X0 hx (hb hby own_d3_7) rfl rfl ?_
    refine own_iloadN (pc' := 9) X0 hx (hb hby own_d3_8) rfl rfl ?_
    refine own_ifYes (pc' := 17) X0 hx (hb hby own_d3_9) (tlt (by decide)).2.2.1 (by decide) (by decide) ?_
    refine own_iconst (pc' := 18) (z := (1 : Int32)) X0 hx (hb hby own_d3_17) rfl rfl ?_
    refine own_istoreN (pc' := 19) (l' := #[.val (.int (15 : Int32)), .val (.int (1 : Int32))]) X0 hx (hb hby own_d3_18) rfl rfl ?_
    refine own_iloadN (pc' := 20) X0 hx (hb hby own_d3_19) rfl rfl ?_
    refine own_ldcwI (pc' := 23) X0 hx hZ hown (own_w13 hw) (hb hby own_d3_20) rfl ?_
    refine own_icmpYes (pc' := 34) X0 hx (hb hby own_d3_23) (flt (by decide)).2.2.2 (by decide) (by decide) ?_
    refine own_iloadN (pc' := 35) X0 hx (hb hby own_d3_34) rfl rfl ?_
    refine own_sipush (pc' := 38) (z := (256 : Int32)) X0 hx (hb hby own_d3_35) rfl rfl ?_
    refine own_icmpYes (pc' := 49) X0 hx (hb hby own_d3_38) (flt (by decide)).2.2.2 (by decide) (by decide) ?_
    refine own_iloadN (pc' := 50) X0 hx (hb hby own_d3_49) rfl rfl ?_
    refine own_bipush (pc' := 52) (z := (16 : Int32)) X0 hx (hb hby own_d3_50) rfl rfl ?_
    refine own_icmpYes (pc' := 62) X0 hx (hb hby own_d3_52) (flt (by decide)).2.2.2 (by decide) (by decide) ?_
    refine own_iloadN (pc' := 63) X0 hx (hb hby own_d3_62) rfl rfl ?_
    refine own_iconst (pc' := 64) (z := (4 : Int32)) X0 hx (hb hby own_d3_63) rfl rfl ?_
    refine own_icmpNo (pc' := 67) X0 hx (hb hby own_d3_64) rfl (tlt (by decide)).2.2.2 ?_
    refine own_iinc (pc' := 70) (z := (3 : Int32)) (l' := #[.val (.int (15 : Int32)), .val (.int (3 : Int32))]) X0 hx (hb hby own_d3_67) rfl rfl (by decide) rfl ?_
    refine own_iloadN (pc' := 71) X0 hx (hb hby own_d3_70) rfl rfl ?_
    refine own_iconst (pc' := 72) (z := (2 : Int32)) X0 hx (hb hby own_d3_71) rfl rfl ?_
    refine own_iushr (pc' := 73) (z := (3 : Int32)) X0 hx (hb hby own_d3_72) rfl (by decide) ?_
    refine own_istoreN (pc' := 74) (l' := #[.val (.int (3 : Int32)), .val (.int (3 : Int32))]) X0 hx (hb hby own_d3_73) rfl rfl ?_
    refine own_iloadN (pc' := 75) X0 hx (hb hby own_d3_74) rfl rfl ?_
    refine own_iloadN (pc' := 76) X0 hx (hb hby own_d3_75) rfl rfl ?_
    refine own_iconst (pc' := 77) (z := (1 : Int32)) X0 hx (hb hby own_d3_76) rfl rfl ?_
    refine own_iushr (pc' := 78) (z := (1 : Int32)) X0 hx (hb hby own_d3_77) rfl (by decide) ?_
    refine own_iadd (pc' := 79) (z := (4 : Int32)) X0 hx (hb hby own_d3_78) rfl (by decide) ?_
    refine own_retI X0 hx hlk hret (hb hby own_d3_79) (by decide) (by decide) ?_
    exact ⟨4, rfl, N0, e0, q⟩
  · refine own_istoreN (pc' := 8) (l' := #[.val (.int (31 : Int32)), .unset]) X0 hx (hb hby own_d3_7) rfl rfl ?_
    refine own_iloadN (pc' := 9) X0 hx (hb hby own_d3_8) rfl rfl ?_
    refine own_ifYes (pc' := 17) X0 hx (hb hby own_d3_9) (tlt (by decide)).2.2.1 (by decide) (by decide) ?_
    refine own_iconst (pc' := 18) (z := (1 : Int32)) X0 hx (hb hby own_d3_17) rfl rfl ?_
    refine own_istoreN (pc' := 19) (l' := #[.val (.int (31 : Int32)), .val (.int (1 : Int32))]) X0 hx (hb hby own_d3_18) rfl rfl ?_
    refine own_iloadN (pc' := 20) X0 hx (hb hby own_d3_19) rfl rfl ?_
    refine own_ldcwI (pc' := 23) X0 hx hZ hown (own_w13 hw) (hb hby own_d3_20) rfl ?_
    refine own_icmpYes (pc' := 34) X0 hx (hb hby own_d3_23) (flt (by decide)).2.2.2 (by decide) (by decide) ?_
    refine own_iloadN (pc' := 35) X0 hx (hb hby own_d3_34) rfl rfl ?_
    refine own_sipush (pc' := 38) (z := (256 : Int32)) X0 hx (hb hby own_d3_35) rfl rfl ?_
    refine own_icmpYes (pc' := 49) X0 hx (hb hby own_d3_38) (flt (by decide)).2.2.2 (by decide) (by decide) ?_
    refine own_iloadN (pc' := 50) X0 hx (hb hby own_d3_49) rfl rfl ?_
    refine own_bipush (pc' := 52) (z := (16 : Int32)) X0 hx (hb hby own_d3_50) rfl rfl ?_
    refine own_icmpNo (pc' := 55) X0 hx (hb hby own_d3_52) rfl (tlt (by decide)).2.2.2 ?_
    refine own_iinc (pc' := 58) (z := (5 : Int32)) (l' := #[.val (.int (31 : Int32)), .val (.int (5 : Int32))]) X0 hx (hb hby own_d3_55) rfl rfl (by decide) rfl ?_
    refine own_iloadN (pc' := 59) X0 hx (hb hby own_d3_58) rfl rfl ?_
    refine own_iconst (pc' := 60) (z := (4 : Int32)) X0 hx (hb hby own_d3_59) rfl rfl ?_
    refine own_iushr (pc' := 61) (z := (1 : Int32)) X0 hx (hb hby own_d3_60) rfl (by decide) ?_
    refine own_istoreN (pc' := 62) (l' := #[.val (.int (1 : Int32)), .val (.int (5 : Int32))]) X0 hx (hb hby own_d3_61) rfl rfl ?_
    refine own_iloadN (pc' := 63) X0 hx (hb hby own_d3_62) rfl rfl ?_
    refine own_iconst (pc' := 64) (z := (4 : Int32)) X0 hx (hb hby own_d3_63) rfl rfl ?_
    refine own_icmpYes (pc' := 74) X0 hx (hb hby own_d3_64) (flt (by decide)).2.2.2 (by decide) (by decide) ?_
    refine own_iloadN (pc' := 75) X0 hx (hb hby own_d3_74) rfl rfl ?_
    refine own_iloadN (pc' := 76) X0 hx (hb hby own_d3_75) rfl rfl ?_
    refine own_iconst (pc' := 77) (z := (1 : Int32)) X0 hx (hb hby own_d3_76) rfl rfl ?_
    refine own_iushr (pc' := 78) (z := (0 : Int32)) X0 hx (hb hby own_d3_77) rfl (by decide) ?_
    refine own_iadd (pc' := 79) (z := (5 : Int32)) X0 hx (hb hby own_d3_78) rfl (by decide) ?_
    refine own_retI X0 hx hlk hret (hb hby own_d3_79) (by decide) (by decide) ?_
    exact ⟨5, rfl, N0, e0, q⟩
  · refine own_istoreN (pc' := 8) (l' := #[.val (.int (63 : Int32)), .unset]) X0 hx (hb hby own_d3_7) rfl rfl ?_
    refine own_iloadN (pc' := 9) X0 hx (hb hby own_d3_8) rfl rfl ?_
    refine own_ifYes (pc' := 17) X0 hx (hb hby own_d3_9) (tlt (by decide)).2.2.1 (by decide) (by decide) ?_
    refine own_iconst (pc' := 18) (z := (1 : Int32)) X0 hx (hb hby own_d3_17) rfl rfl ?_
    refine own_istoreN (pc' := 19) (l' := #[.val (.int (63 : Int32)), .val (.int (1 : Int32))]) X0 hx (hb hby own_d3_18) rfl rfl ?_
    refine own_iloadN (pc' := 20) X0 hx (hb hby own_d3_19) rfl rfl ?_
    refine own_ldcwI (pc' := 23) X0 hx hZ hown (own_w13 hw) (hb hby own_d3_20) rfl ?_
    refine own_icmpYes (pc' := 34) X0 hx (hb hby own_d3_23) (flt (by decide)).2.2.2 (by decide) (by decide) ?_
    refine own_iloadN (pc' := 35) X0 hx (hb hby own_d3_34) rfl rfl ?_
    refine own_sipush (pc' := 38) (z := (256 : Int32)) X0 hx (hb hby own_d3_35) rfl rfl ?_
    refine own_icmpYes (pc' := 49) X0 hx (hb hby own_d3_38) (flt (by decide)).2.2.2 (by decide) (by decide) ?_
    refine own_iloadN (pc' := 50) X0 hx (hb hby own_d3_49) rfl rfl ?_
    refine own_bipush (pc' := 52) (z := (16 : Int32)) X0 hx (hb hby own_d3_50) rfl rfl ?_
    refine own_icmpNo (pc' := 55) X0 hx (hb hby own_d3_52) rfl (tlt (by decide)).2.2.2 ?_
    refine own_iinc (pc' := 58) (z := (5 : Int32)) (l' := #[.val (.int (63 : Int32)), .val (.int (5 : Int32))]) X0 hx (hb hby own_d3_55) rfl rfl (by decide) rfl ?_
    refine own_iloadN (pc' := 59) X0 hx (hb hby own_d3_58) rfl rfl ?_
    refine own_iconst (pc' := 60) (z := (4 : Int32)) X0 hx (hb hby own_d3_59) rfl rfl ?_
    refine own_iushr (pc' := 61) (z := (3 : Int32)) X0 hx (hb hby own_d3_60) rfl (by decide) ?_
    refine own_istoreN (pc' := 62) (l' := #[.val (.int (3 : Int32)), .val (.int (5 : Int32))]) X0 hx (hb hby own_d3_61) rfl rfl ?_
    refine own_iloadN (pc' := 63) X0 hx (hb hby own_d3_62) rfl rfl ?_
    refine own_iconst (pc' := 64) (z := (4 : Int32)) X0 hx (hb hby own_d3_63) rfl rfl ?_
    refine own_icmpYes (pc' := 74) X0 hx (hb hby own_d3_64) (flt (by decide)).2.2.2 (by decide) (by decide) ?_
    refine own_iloadN (pc' := 75) X0 hx (hb hby own_d3_74) rfl rfl ?_
    refine own_iloadN (pc' := 76) X0 hx (hb hby own_d3_75) rfl rfl ?_
    refine own_iconst (pc' := 77) (z := (1 : Int32)) X0 hx (hb hby own_d3_76) rfl rfl ?_
    refine own_iushr (pc' := 78) (z := (1 : Int32)) X0 hx (hb hby own_d3_77) rfl (by decide) ?_
    refine own_iadd (pc' := 79) (z := (6 : Int32)) X0 hx (hb hby own_d3_78) rfl (by decide) ?_
    refine own_retI X0 hx hlk hret (hb hby own_d3_79) (by decide) (by decide) ?_
    exact ⟨6, rfl, N0, e0, q⟩
  · refine own_istoreN (pc' := 8) (l' := #[.val (.int (127 : Int32)), .unset]) X0 hx (hb hby own_d3_7) rfl rfl ?_
    refine own_iloadN (pc' := 9) X0 hx (hb hby own_d3_8) rfl rfl ?_
    refine own_ifYes (pc' := 17) X0 hx (hb hby own_d3_9) (tlt (by decide)).2.2.1 (by decide) (by decide) ?_
    refine own_iconst (pc' := 18) (z := (1 : Int32)) X0 hx (hb hby own_d3_17) rfl rfl ?_
    refine own_istoreN (pc' := 19) (l' := #[.val (.int (127 : Int32)), .val (.int (1 : Int32))]) X0 hx (hb hby own_d3_18) rfl rfl ?_
    refine own_iloadN (pc' := 20) X0 hx (hb hby own_d3_19) rfl rfl ?_
    refine own_ldcwI (pc' := 23) X0 hx hZ hown (own_w13 hw) (hb hby own_d3_20) rfl ?_
    refine own_icmpYes (pc' := 34) X0 hx (hb hby own_d3_23) (flt (by decide)).2.2.2 (by decide) (by decide) ?_
    refine own_iloadN (pc' := 35) X0 hx (hb hby own_d3_34) rfl rfl ?_
    refine own_sipush (pc' := 38) (z := (256 : Int32)) X0 hx (hb hby own_d3_35) rfl rfl ?_
    refine own_icmpYes (pc' := 49) X0 hx (hb hby own_d3_38) (flt (by decide)).2.2.2 (by decide) (by decide) ?_
    refine own_iloadN (pc' := 50) X0 hx (hb hby own_d3_49) rfl rfl ?_
    refine own_bipush (pc' := 52) (z := (16 : Int32)) X0 hx (hb hby own_d3_50) rfl rfl ?_
    refine own_icmpNo (pc' := 55) X0 hx (hb hby own_d3_52) rfl (tlt (by decide)).2.2.2 ?_
    refine own_iinc (pc' := 58) (z := (5 : Int32)) (l' := #[.val (.int (127 : Int32)), .val (.int (5 : Int32))]) X0 hx (hb hby own_d3_55) rfl rfl (by decide) rfl ?_
    refine own_iloadN (pc' := 59) X0 hx (hb hby own_d3_58) rfl rfl ?_
    refine own_iconst (pc' := 60) (z := (4 : Int32)) X0 hx (hb hby own_d3_59) rfl rfl ?_
    refine own_iushr (pc' := 61) (z := (7 : Int32)) X0 hx (hb hby own_d3_60) rfl (by decide) ?_
    refine own_istoreN (pc' := 62) (l' := #[.val (.int (7 : Int32)), .val (.int (5 : Int32))]) X0 hx (hb hby own_d3_61) rfl rfl ?_
    refine own_iloadN (pc' := 63) X0 hx (hb hby own_d3_62) rfl rfl ?_
    refine own_iconst (pc' := 64) (z := (4 : Int32)) X0 hx (hb hby own_d3_63) rfl rfl ?_
    refine own_icmpNo (pc' := 67) X0 hx (hb hby own_d3_64) rfl (tlt (by decide)).2.2.2 ?_
    refine own_iinc (pc' := 70) (z := (7 : Int32)) (l' := #[.val (.int (7 : Int32)), .val (.int (7 : Int32))]) X0 hx (hb hby own_d3_67) rfl rfl (by decide) rfl ?_
    refine own_iloadN (pc' := 71) X0 hx (hb hby own_d3_70) rfl rfl ?_
    refine own_iconst (pc' := 72) (z := (2 : Int32)) X0 hx (hb hby own_d3_71) rfl rfl ?_
    refine own_iushr (pc' := 73) (z := (1 : Int32)) X0 hx (hb hby own_d3_72) rfl (by decide) ?_
    refine own_istoreN (pc' := 74) (l' := #[.val (.int (1 : Int32)), .val (.int (7 : Int32))]) X0 hx (hb hby own_d3_73) rfl rfl ?_
    refine own_iloadN (pc' := 75) X0 hx (hb hby own_d3_74) rfl rfl ?_
    refine own_iloadN (pc' := 76) X0 hx (hb hby own_d3_75) rfl rfl ?_
    refine own_iconst (pc' := 77) (z := (1 : Int32)) X0 hx (hb hby own_d3_76) rfl rfl ?_
    refine own_iushr (pc' := 78) (z := (0 : Int32)) X0 hx (hb hby own_d3_77) rfl (by decide) ?_
    refine own_iadd (pc' := 79) (z := (7 : Int32)) X0 hx (hb hby own_d3_78) rfl (by decide) ?_
    refine own_retI X0 hx hlk hret (hb hby own_d3_79) (by decide) (by decide) ?_
    exact ⟨7, rfl, N0, e0, q⟩
  · refine own_istoreN (pc' := 8) (l' := #[.val (.int (255 : Int32)), .unset]) X0 hx (hb hby own_d3_7) rfl rfl ?_
    refine own_iloadN (pc' := 9) X0 hx (hb hby own_d3_8) rfl rfl ?_
    refine own_ifYes (pc' := 17) X0 hx (hb hby own_d3_9) (tlt (by decide)).2.2.1 (by decide) (by decide) ?_
    refine own_iconst (pc' := 18) (z := (1 : Int32)) X0 hx (hb hby own_d3_17) rfl rfl ?_
    refine own_istoreN (pc' := 19) (l' := #[.val (.int (255 : Int32)), .val (.int (1 : Int32))]) X0 hx (hb hby own_d3_18) rfl rfl ?_
    refine own_iloadN (pc' := 20) X0 hx (hb hby own_d3_19) rfl rfl ?_
    refine own_ldcwI (pc' := 23) X0 hx hZ hown (own_w13 hw) (hb hby own_d3_20) rfl ?_
    refine own_icmpYes (pc' := 34) X0 hx (hb hby own_d3_23) (flt (by decide)).2.2.2 (by decide) (by decide) ?_
    refine own_iloadN (pc' := 35) X0 hx (hb hby own_d3_34) rfl rfl ?_
    refine own_sipush (pc' := 38) (z := (256 : Int32)) X0 hx (hb hby own_d3_35) rfl rfl ?_
    refine own_icmpYes (pc' := 49) X0 hx (hb hby own_d3_38) (flt (by decide)).2.2.2 (by decide) (by decide) ?_
    refine own_iloadN (pc' := 50) X0 hx (hb hby own_d3_49) rfl rfl ?_
    refine own_bipush (pc' := 52) (z := (16 : Int32)) X0 hx (hb hby own_d3_50) rfl rfl ?_
    refine own_icmpNo (pc' := 55) X0 hx (hb hby own_d3_52) rfl (tlt (by decide)).2.2.2 ?_
    refine own_iinc (pc' := 58) (z := (5 : Int32)) (l' := #[.val (.int (255 : Int32)), .val (.int (5 : Int32))]) X0 hx (hb hby own_d3_55) rfl rfl (by decide) rfl ?_
    refine own_iloadN (pc' := 59) X0 hx (hb hby own_d3_58) rfl rfl ?_
    refine own_iconst (pc' := 60) (z := (4 : Int32)) X0 hx (hb hby own_d3_59) rfl rfl ?_
    refine own_iushr (pc' := 61) (z := (15 : Int32)) X0 hx (hb hby own_d3_60) rfl (by decide) ?_
    refine own_istoreN (pc' := 62) (l' := #[.val (.int (15 : Int32)), .val (.int (5 : Int32))]) X0 hx (hb hby own_d3_61) rfl rfl ?_
    refine own_iloadN (pc' := 63) X0 hx (hb hby own_d3_62) rfl rfl ?_
    refine own_iconst (pc' := 64) (z := (4 : Int32)) X0 hx (hb hby own_d3_63) rfl rfl ?_
    refine own_icmpNo (pc' := 67) X0 hx (hb hby own_d3_64) rfl (tlt (by decide)).2.2.2 ?_
    refine own_iinc (pc' := 70) (z := (7 : Int32)) (l' := #[.val (.int (15 : Int32)), .val (.int (7 : Int32))]) X0 hx (hb hby own_d3_67) rfl rfl (by decide) rfl ?_
    refine own_iloadN (pc' := 71) X0 hx (hb hby own_d3_70) rfl rfl ?_
    refine own_iconst (pc' := 72) (z := (2 : Int32)) X0 hx (hb hby own_d3_71) rfl rfl ?_
    refine own_iushr (pc' := 73) (z := (3 : Int32)) X0 hx (hb hby own_d3_72) rfl (by decide) ?_
    refine own_istoreN (pc' := 74) (l' := #[.val (.int (3 : Int32)), .val (.int (7 : Int32))]) X0 hx (hb hby own_d3_73) rfl rfl ?_
    refine own_iloadN (pc' := 75) X0 hx (hb hby own_d3_74) rfl rfl ?_
    refine own_iloadN (pc' := 76) X0 hx (hb hby own_d3_75) rfl rfl ?_
    refine own_iconst (pc' := 77) (z := (1 : Int32)) X0 hx (hb hby own_d3_76) rfl rfl ?_
    refine own_iushr (pc' := 78) (z := (1 : Int32)) X0 hx (hb hby own_d3_77) rfl (by decide) ?_
    refine own_iadd (pc' := 79) (z := (8 : Int32)) X0 hx (hb hby own_d3_78) rfl (by decide) ?_
    refine own_retI X0 hx hlk hret (hb hby own_d3_79) (by decide) (by decide) ?_
    exact ⟨8, rfl, N0, e0, q⟩
  · refine own_istoreN (pc' := 8) (l' := #[.val (.int (511 : Int32)), .unset]) X0 hx (hb hby own_d3_7) rfl rfl ?_
    refine own_iloadN (pc' := 9) X0 hx (hb hby own_d3_8) rfl rfl ?_
    refine own_ifYes (pc' := 17) X0 hx (hb hby own_d3_9) (tlt (by decide)).2.2.1 (by decide) (by decide) ?_
    refine own_iconst (pc' := 18) (z := (1 : Int32)) X0 hx (hb hby own_d3_17) rfl rfl ?_
    refine own_istoreN (pc' := 19) (l' := #[.val (.int (511 : Int32)), .val (.int (1 : Int32))]) X0 hx (hb hby own_d3_18) rfl rfl ?_
    refine own_iloadN (pc' := 20) X0 hx (hb hby own_d3_19) rfl rfl ?_
    refine own_ldcwI (pc' := 23) X0 hx hZ hown (own_w13 hw) (hb hby own_d3_20) rfl ?_
    refine own_icmpYes (pc' := 34) X0 hx (hb hby own_d3_23) (flt (by decide)).2.2.2 (by decide) (by decide) ?_
    refine own_iloadN (pc' := 35) X0 hx (hb hby own_d3_34) rfl rfl ?_
    refine own_sipush (pc' := 38) (z := (256 : Int32)) X0 hx (hb hby own_d3_35) rfl rfl ?_
    refine own_icmpNo (pc' := 41) X0 hx (hb hby own_d3_38) rfl (tlt (by decide)).2.2.2 ?_
    refine own_iinc (pc' := 44) (z := (9 : Int32)) (l' := #[.val (.int (511 : Int32)), .val (.int (9 : Int32))]) X0 hx (hb hby own_d3_41) rfl rfl (by decide) rfl ?_
    refine own_iloadN (pc' := 45) X0 hx (hb hby own_d3_44) rfl rfl ?_
    refine own_bipush (pc' := 47) (z := (8 : Int32)) X0 hx (hb hby own_d3_45) rfl rfl ?_
    refine own_iushr (pc' := 48) (z := (1 : Int32)) X0 hx (hb hby own_d3_47) rfl (by decide) ?_
    refine own_istoreN (pc' := 49) (l' := #[.val (.int (1 : Int32)), .val (.int (9 : Int32))]) X0 hx (hb hby own_d3_48) rfl rfl ?_
    refine own_iloadN (pc' := 50) X0 hx (hb hby own_d3_49) rfl rfl ?_
    refine own_bipush (pc' := 52) (z := (16 : Int32)) X0 hx (hb hby own_d3_50) rfl rfl ?_
    refine own_icmpYes (pc' := 62) X0 hx (hb hby own_d3_52) (flt (by decide)).2.2.2 (by decide) (by decide) ?_
    refine own_iloadN (pc' := 63) X0 hx (hb hby own_d3_62) rfl rfl ?_
    refine own_iconst (pc' := 64) (z := (4 : Int32)) X0 hx (hb hby own_d3_63) rfl rfl ?_
    refine own_icmpYes (pc' := 74) X0 hx (hb hby own_d3_64) (flt (by decide)).2.2.2 (by decide) (by decide) ?_
    refine own_iloadN (pc' := 75) X0 hx (hb hby own_d3_74) rfl rfl ?_
    refine own_iloadN (pc' := 76) X0 hx (hb hby own_d3_75) rfl rfl ?_
    refine own_iconst (pc' := 77) (z := (1 : Int32)) X0 hx (hb hby own_d3_76) rfl rfl ?_
    refine own_iushr (pc' := 78) (z := (0 : Int32)) X0 hx (hb hby own_d3_77) rfl (by decide) ?_
    refine own_iadd (pc' := 79) (z := (9 : Int32)) X0 hx (hb hby own_d3_78) rfl (by decide) ?_
    refine own_retI X0 hx hlk hret (hb hby own_d3_79) (by decide) (by decide) ?_
    exact ⟨9, rfl, N0, e0, q⟩
  · refine own_istoreN (pc' := 8) (l' := #[.val (.int (1023 : Int32)), .unset]) X0 hx (hb hby own_d3_7) rfl rfl ?_
    refine own_iloadN (pc' := 9) X0 hx (hb hby own_d3_8) rfl rfl ?_
    refine own_ifYes (pc' := 17) X0 hx (hb hby own_d3_9) (tlt (by decide)).2.2.1 (by decide) (by decide) ?_
    refine own_iconst (pc' := 18) (z := (1 : Int32)) X0 hx (hb hby own_d3_17) rfl rfl ?_
    refine own_istoreN (pc' := 19) (l' := #[.val (.int (1023 : Int32)), .val (.int (1 : Int32))]) X0 hx (hb hby own_d3_18) rfl rfl ?_
    refine own_iloadN (pc' := 20) X0 hx (hb hby own_d3_19) rfl rfl ?_
    refine own_ldcwI (pc' := 23) X0 hx hZ hown (own_w13 hw) (hb hby own_d3_20) rfl ?_
    refine own_icmpYes (pc' := 34) X0 hx (hb hby own_d3_23) (flt (by decide)).2.2.2 (by decide) (by decide) ?_
    refine own_iloadN (pc' := 35) X0 hx (hb hby own_d3_34) rfl rfl ?_
    refine own_sipush (pc' := 38) (z := (256 : Int32)) X0 hx (hb hby own_d3_35) rfl rfl ?_
    refine own_icmpNo (pc' := 41) X0 hx (hb hby own_d3_38) rfl (tlt (by decide)).2.2.2 ?_
    refine own_iinc (pc' := 44) (z := (9 : Int32)) (l' := #[.val (.int (1023 : Int32)), .val (.int (9 : Int32))]) X0 hx (hb hby own_d3_41) rfl rfl (by decide) rfl ?_
    refine own_iloadN (pc' := 45) X0 hx (hb hby own_d3_44) rfl rfl ?_
    refine own_bipush (pc' := 47) (z := (8 : Int32)) X0 hx (hb hby own_d3_45) rfl rfl ?_
    refine own_iushr (pc' := 48) (z := (3 : Int32)) X0 hx (hb hby own_d3_47) rfl (by decide) ?_
    refine own_istoreN (pc' := 49) (l' := #[.val (.int (3 : Int32)), .val (.int (9 : Int32))]) X0 hx (hb hby own_d3_48) rfl rfl ?_
    refine own_iloadN (pc' := 50) X0 hx (hb hby own_d3_49) rfl rfl ?_
    refine own_bipush (pc' := 52) (z := (16 : Int32)) X0 hx (hb hby own_d3_50) rfl rfl ?_
    refine own_icmpYes (pc' := 62) X0 hx (hb hby own_d3_52) (flt (by decide)).2.2.2 (by decide) (by decide) ?_
    refine own_iloadN (pc' := 63) X0 hx (hb hby own_d3_62) rfl rfl ?_
    refine own_iconst (pc' := 64) (z := (4 : Int32)) X0 hx (hb hby own_d3_63) rfl rfl ?_
    refine own_icmpYes (pc' := 74) X0 hx (hb hby own_d3_64) (flt (by decide)).2.2.2 (by decide) (by decide) ?_
    refine own_iloadN (pc' := 75) X0 hx (hb hby own_d3_74) rfl rfl ?_
    refine own_iloadN (pc' := 76) X0 hx (hb hby own_d3_75) rfl rfl ?_
    refine own_iconst (pc' := 77) (z := (1 : Int32)) X0 hx (hb hby own_d3_76) rfl rfl ?_
    refine own_iushr (pc' := 78) (z := (1 : Int32)) X0 hx (hb hby own_d3_77) rfl (by decide) ?_
    refine own_iadd (pc' := 79) (z := (10 : Int32)) X0 hx (hb hby own_d3_78) rfl (by decide) ?_
    refine own_retI X0 hx hlk hret (hb hby own_d3_79) (by decide) (by decide) ?_
    exact ⟨10, rfl, N0, e0, q⟩
  · refine own_istoreN (pc' := 8) (l' := #[.val (.int (2047 : Int32)), .unset]) X0 hx (hb hby own_d3_7) rfl rfl ?_
    refine own_iloadN (pc' := 9) X0 hx (hb hby own_d3_8) rfl rfl ?_
    refine own_ifYes (pc' := 17) X0 hx (hb hby own_d3_9) (tlt (by decide)).2.2.1 (by decide) (by decide) ?_
    refine own_iconst (pc' := 18) (z := (1 : Int32)) X0 hx (hb hby own_d3_17) rfl rfl ?_
    refine own_istoreN (pc' := 19) (l' := #[.val (.int (2047 : Int32)), .val (.int (1 : Int32))]) X0 hx (hb hby own_d3_18) rfl rfl ?_
    refine own_iloadN (pc' := 20) X0 hx (hb hby own_d3_19) rfl rfl ?_
    refine own_ldcwI (pc' := 23) X0 hx hZ hown (own_w13 hw) (hb hby own_d3_20) rfl ?_
    refine own_icmpYes (pc' := 34) X0 hx (hb hby own_d3_23) (flt (by decide)).2.2.2 (by decide) (by decide) ?_
    refine own_iloadN (pc' := 35) X0 hx (hb hby own_d3_34) rfl rfl ?_
    refine own_sipush (pc' := 38) (z := (256 : Int32)) X0 hx (hb hby own_d3_35) rfl rfl ?_
    refine own_icmpNo (pc' := 41) X0 hx (hb hby own_d3_38) rfl (tlt (by decide)).2.2.2 ?_
    refine own_iinc (pc' := 44) (z := (9 : Int32)) (l' := #[.val (.int (2047 : Int32)), .val (.int (9 : Int32))]) X0 hx (hb hby own_d3_41) rfl rfl (by decide) rfl ?_
    refine own_iloadN (pc' := 45) X0 hx (hb hby own_d3_44) rfl rfl ?_
    refine own_bipush (pc' := 47) (z := (8 : Int32)) X0 hx (hb hby own_d3_45) rfl rfl ?_
    refine own_iushr (pc' := 48) (z := (7 : Int32)) X0 hx (hb hby own_d3_47) rfl (by decide) ?_
    refine own_istoreN (pc' := 49) (l' := #[.val (.int (7 : Int32)), .val (.int (9 : Int32))]) X0 hx (hb hby own_d3_48) rfl rfl ?_
    refine own_iloadN (pc' := 50) X0 hx (hb hby own_d3_49) rfl rfl ?_
    refine own_bipush (pc' := 52) (z := (16 : Int32)) X0 hx (hb hby own_d3_50) rfl rfl ?_
    refine own_icmpYes (pc' := 62) X0 hx (hb hby own_d3_52) (flt (by decide)).2.2.2 (by decide) (by decide) ?_
    refine own_iloadN (pc' := 63) X0 hx (hb hby own_d3_62) rfl rfl ?_
    refine own_iconst (pc' := 64) (z := (4 : Int32)) X0 hx (hb hby own_d3_63) rfl rfl ?_
    refine own_icmpNo (pc' := 67) X0 hx (hb hby own_d3_64) rfl (tlt (by decide)).2.2.2 ?_
    refine own_iinc (pc' := 70) (z := (11 : Int32)) (l' := #[.val (.int (7 : Int32)), .val (.int (11 : Int32))]) X0 hx (hb hby own_d3_67) rfl rfl (by decide) rfl ?_
    refine own_iloadN (pc' := 71) X0 hx (hb hby own_d3_70) rfl rfl ?_
    refine own_iconst (pc' := 72) (z := (2 : Int32)) X0 hx (hb hby own_d3_71) rfl rfl ?_
    refine own_iushr (pc' := 73) (z := (1 : Int32)) X0 hx (hb hby own_d3_72) rfl (by decide) ?_
    refine own_istoreN (pc' := 74) (l' := #[.val (.int (1 : Int32)), .val (.int (11 : Int32))]) X0 hx (hb hby own_d3_73) rfl rfl ?_
    refine own_iloadN (pc' := 75) X0 hx (hb hby own_d3_74) rfl rfl ?_
    refine own_iloadN (pc' := 76) X0 hx (hb hby own_d3_75) rfl rfl ?_
    refine own_iconst (pc' := 77) (z := (1 : Int32)) X0 hx (hb hby own_d3_76) rfl rfl ?_
    refine own_iushr (pc' := 78) (z := (0 : Int32)) X0 hx (hb hby own_d3_77) rfl (by decide) ?_
    refine own_iadd (pc' := 79) (z := (11 : Int32)) X0 hx (hb hby own_d3_78) rfl (by decide) ?_
    refine own_retI X0 hx hlk hret (hb hby own_d3_79) (by decide) (by decide) ?_
    exact ⟨11, rfl, N0, e0, q⟩
  · refine own_istoreN (pc' := 8) (l' := #[.val (.int (4095 : Int32)), .unset]) X0 hx (hb hby own_d3_7) rfl rfl ?_
    refine own_iloadN (pc' := 9) X0 hx (hb hby own_d3_8) rfl rfl ?_
    refine own_ifYes (pc' := 17) X0 hx (hb hby own_d3_9) (tlt (by decide)).2.2.1 (by decide) (by decide) ?_
    refine own_iconst (pc' := 18) (z := (1 : Int32)) X0 hx (hb hby own_d3_17) rfl rfl ?_
    refine own_istoreN (pc' := 19) (l' := #[.val (.int (4095 : Int32)), .val (.int (1 : Int32))]) X0 hx (hb hby own_d3_18) rfl rfl ?_
    refine own_iloadN (pc' := 20) X0 hx (hb hby own_d3_19) rfl rfl ?_
    refine own_ldcwI (pc' := 23) X0 hx hZ hown (own_w13 hw) (hb hby own_d3_20) rfl ?_
    refine own_icmpYes (pc' := 34) X0 hx (hb hby own_d3_23) (flt (by decide)).2.2.2 (by decide) (by decide) ?_
    refine own_iloadN (pc' := 35) X0 hx (hb hby own_d3_34) rfl rfl ?_
    refine own_sipush (pc' := 38) (z := (256 : Int32)) X0 hx (hb hby own_d3_35) rfl rfl ?_
    refine own_icmpNo (pc' := 41) X0 hx (hb hby own_d3_38) rfl (tlt (by decide)).2.2.2 ?_
    refine own_iinc (pc' := 44) (z := (9 : Int32)) (l' := #[.val (.int (4095 : Int32)), .val (.int (9 : Int32))]) X0 hx (hb hby own_d3_41) rfl rfl (by decide) rfl ?_
    refine own_iloadN (pc' := 45) X0 hx (hb hby own_d3_44) rfl rfl ?_
    refine own_bipush (pc' := 47) (z := (8 : Int32)) X0 hx (hb hby own_d3_45) rfl rfl ?_
    refine own_iushr (pc' := 48) (z := (15 : Int32)) X0 hx (hb hby own_d3_47) rfl (by decide) ?_
    refine own_istoreN (pc' := 49) (l' := #[.val (.int (15 : Int32)), .val (.int (9 : Int32))]) X0 hx (hb hby own_d3_48) rfl rfl ?_
    refine own_iloadN (pc' := 50) X0 hx (hb hby own_d3_49) rfl rfl ?_
    refine own_bipush (pc' := 52) (z := (16 : Int32)) X0 hx (hb hby own_d3_50) rfl rfl ?_
    refine own_icmpYes (pc' := 62) X0 hx (hb hby own_d3_52) (flt (by decide)).2.2.2 (by decide) (by decide) ?_
    refine own_iloadN (pc' := 63) X0 hx (hb hby own_d3_62) rfl rfl ?_
    refine own_iconst (pc' := 64) (z := (4 : Int32)) X0 hx (hb hby own_d3_63) rfl rfl ?_
    refine own_icmpNo (pc' := 67) X0 hx (hb hby own_d3_64) rfl (tlt (by decide)).2.2.2 ?_
    refine own_iinc (pc' := 70) (z := (11 : Int32)) (l' := #[.val (.int (15 : Int32)), .val (.int (11 : Int32))]) X0 hx (hb hby own_d3_67) rfl rfl (by decide) rfl ?_
    refine own_iloadN (pc' := 71) X0 hx (hb hby own_d3_70) rfl rfl ?_
    refine own_iconst (pc' := 72) (z := (2 : Int32)) X0 hx (hb hby own_d3_71) rfl rfl ?_
    refine own_iushr (pc' := 73) (z := (3 : Int32)) X0 hx (hb hby own_d3_72) rfl (by decide) ?_
    refine own_istoreN (pc' := 74) (l' := #[.val (.int (3 : Int32)), .val (.int (11 : Int32))]) X0 hx (hb hby own_d3_73) rfl rfl ?_
    refine own_iloadN (pc' := 75) X0 hx (hb hby own_d3_74) rfl rfl ?_
    refine own_iloadN (pc' := 76) X0 hx (hb hby own_d3_75) rfl rfl ?_
    refine own_iconst (pc' := 77) (z := (1 : Int32)) X0 hx (hb hby own_d3_76) rfl rfl ?_
    refine own_iushr (pc' := 78) (z := (1 : Int32)) X0 hx (hb hby own_d3_77) rfl (by decide) ?_
    refine own_iadd (pc' := 79) (z := (12 : Int32)) X0 hx (hb hby own_d3_78) rfl (by decide) ?_
    refine own_retI X0 hx hlk hret (hb hby own_d3_79) (by decide) (by decide) ?_
    exact ⟨12, rfl, N0, e0, q⟩
  · refine own_istoreN (pc' := 8) (l' := #[.val (.int (8191 : Int32)), .unset]) X0 hx (hb hby own_d3_7) rfl rfl ?_
    refine own_iloadN (pc' := 9) X0 hx (hb hby own_d3_8) rfl rfl ?_
    refine own_ifYes (pc' := 17) X0 hx (hb hby own_d3_9) (tlt (by decide)).2.2.1 (by decide) (by decide) ?_
    refine own_iconst (pc' := 18) (z := (1 : Int32)) X0 hx (hb hby own_d3_17) rfl rfl ?_
    refine own_istoreN (pc' := 19) (l' := #[.val (.int (8191 : Int32)), .val (.int (1 : Int32))]) X0 hx (hb hby own_d3_18) rfl rfl ?_
    refine own_iloadN (pc' := 20) X0 hx (hb hby own_d3_19) rfl rfl ?_
    refine own_ldcwI (pc' := 23) X0 hx hZ hown (own_w13 hw) (hb hby own_d3_20) rfl ?_
    refine own_icmpYes (pc' := 34) X0 hx (hb hby own_d3_23) (flt (by decide)).2.2.2 (by decide) (by decide) ?_
    refine own_iloadN (pc' := 35) X0 hx (hb hby own_d3_34) rfl rfl ?_
    refine own_sipush (pc' := 38) (z := (256 : Int32)) X0 hx (hb hby own_d3_35) rfl rfl ?_
    refine own_icmpNo (pc' := 41) X0 hx (hb hby own_d3_38) rfl (tlt (by decide)).2.2.2 ?_
    refine own_iinc (pc' := 44) (z := (9 : Int32)) (l' := #[.val (.int (8191 : Int32)), .val (.int (9 : Int32))]) X0 hx (hb hby own_d3_41) rfl rfl (by decide) rfl ?_
    refine own_iloadN (pc' := 45) X0 hx (hb hby own_d3_44) rfl rfl ?_
    refine own_bipush (pc' := 47) (z := (8 : Int32)) X0 hx (hb hby own_d3_45) rfl rfl ?_
    refine own_iushr (pc' := 48) (z := (31 : Int32)) X0 hx (hb hby own_d3_47) rfl (by decide) ?_
    refine own_istoreN (pc' := 49) (l' := #[.val (.int (31 : Int32)), .val (.int (9 : Int32))]) X0 hx (hb hby own_d3_48) rfl rfl ?_
    refine own_iloadN (pc' := 50) X0 hx (hb hby own_d3_49) rfl rfl ?_
    refine own_bipush (pc' := 52) (z := (16 : Int32)) X0 hx (hb hby own_d3_50) rfl rfl ?_
    refine own_icmpNo (pc' := 55) X0 hx (hb hby own_d3_52) rfl (tlt (by decide)).2.2.2 ?_
    refine own_iinc (pc' := 58) (z := (13 : Int32)) (l' := #[.val (.int (31 : Int32)), .val (.int (13 : Int32))]) X0 hx (hb hby own_d3_55) rfl rfl (by decide) rfl ?_
    refine own_iloadN (pc' := 59) X0 hx (hb hby own_d3_58) rfl rfl ?_
    refine own_iconst (pc' := 60) (z := (4 : Int32)) X0 hx (hb hby own_d3_59) rfl rfl ?_
    refine own_iushr (pc' := 61) (z := (1 : Int32)) X0 hx (hb hby own_d3_60) rfl (by decide) ?_
    refine own_istoreN (pc' := 62) (l' := #[.val (.int (1 : Int32)), .val (.int (13 : Int32))]) X0 hx (hb hby own_d3_61) rfl rfl ?_
    refine own_iloadN (pc' := 63) X0 hx (hb hby own_d3_62) rfl rfl ?_
    refine own_iconst (pc' := 64) (z := (4 : Int32)) X0 hx (hb hby own_d3_63) rfl rfl ?_
    refine own_icmpYes (pc' := 74) X0 hx (hb hby own_d3_64) (flt (by decide)).2.2.2 (by decide) (by decide) ?_
    refine own_iloadN (pc' := 75) X0 hx (hb hby own_d3_74) rfl rfl ?_
    refine own_iloadN (pc' := 76) X0 hx (hb hby own_d3_75) rfl rfl ?_
    refine own_iconst (pc' := 77) (z := (1 : Int32)) X0 hx (hb hby own_d3_76) rfl rfl ?_
    refine own_iushr (pc' := 78) (z := (0 : Int32)) X0 hx (hb hby own_d3_77) rfl (by decide) ?_
    refine own_iadd (pc' := 79) (z := (13 : Int32)) X0 hx (hb hby own_d3_78) rfl (by decide) ?_
    refine own_retI X0 hx hlk hret (hb hby own_d3_79) (by decide) (by decide) ?_
    exact ⟨13, rfl, N0, e0, q⟩
  · refine own_istoreN (pc' := 8) (l' := #[.val (.int (16383 : Int32)), .unset]) X0 hx (hb hby own_d3_7) rfl rfl ?_
    refine own_iloadN (pc' := 9) X0 hx (hb hby own_d3_8) rfl rfl ?_
    refine own_ifYes (pc' := 17) X0 hx (hb hby own_d3_9) (tlt (by decide)).2.2.1 (by decide) (by decide) ?_
    refine own_iconst (pc' := 18) (z := (1 : Int32)) X0 hx (hb hby own_d3_17) rfl rfl ?_
    refine own_istoreN (pc' := 19) (l' := #[.val (.int (16383 : Int32)), .val (.int (1 : Int32))]) X0 hx (hb hby own_d3_18) rfl rfl ?_
    refine own_iloadN (pc' := 20) X0 hx (hb hby own_d3_19) rfl rfl ?_
    refine own_ldcwI (pc' := 23) X0 hx hZ hown (own_w13 hw) (hb hby own_d3_20) rfl ?_
    refine own_icmpYes (pc' := 34) X0 hx (hb hby own_d3_23) (flt (by decide)).2.2.2 (by decide) (by decide) ?_
    refine own_iloadN (pc' := 35) X0 hx (hb hby own_d3_34) rfl rfl ?_
    refine own_sipush (pc' := 38) (z := (256 : Int32)) X0 hx (hb hby own_d3_35) rfl rfl ?_
    refine own_icmpNo (pc' := 41) X0 hx (hb hby own_d3_38) rfl (tlt (by decide)).2.2.2 ?_
    refine own_iinc (pc' := 44) (z := (9 : Int32)) (l' := #[.val (.int (16383 : Int32)), .val (.int (9 : Int32))]) X0 hx (hb hby own_d3_41) rfl rfl (by decide) rfl ?_
    refine own_iloadN (pc' := 45) X0 hx (hb hby own_d3_44) rfl rfl ?_
    refine own_bipush (pc' := 47) (z := (8 : Int32)) X0 hx (hb hby own_d3_45) rfl rfl ?_
    refine own_iushr (pc' := 48) (z := (63 : Int32)) X0 hx (hb hby own_d3_47) rfl (by decide) ?_
    refine own_istoreN (pc' := 49) (l' := #[.val (.int (63 : Int32)), .val (.int (9 : Int32))]) X0 hx (hb hby own_d3_48) rfl rfl ?_
    refine own_iloadN (pc' := 50) X0 hx (hb hby own_d3_49) rfl rfl ?_
    refine own_bipush (pc' := 52) (z := (16 : Int32)) X0 hx (hb hby own_d3_50) rfl rfl ?_
    refine own_icmpNo (pc' := 55) X0 hx (hb hby own_d3_52) rfl (tlt (by decide)).2.2.2 ?_
    refine own_iinc (pc' := 58) (z := (13 : Int32)) (l' := #[.val (.int (63 : Int32)), .val (.int (13 : Int32))]) X0 hx (hb hby own_d3_55) rfl rfl (by decide) rfl ?_
    refine own_iloadN (pc' := 59) X0 hx (hb hby own_d3_58) rfl rfl ?_
    refine own_iconst (pc' := 60) (z := (4 : Int32)) X0 hx (hb hby own_d3_59) rfl rfl ?_
    refine own_iushr (pc' := 61) (z := (3 : Int32)) X0 hx (hb hby own_d3_60) rfl (by decide) ?_
    refine own_istoreN (pc' := 62) (l' := #[.val (.int (3 : Int32)), .val (.int (13 : Int32))]) X0 hx (hb hby own_d3_61) rfl rfl ?_
    refine own_iloadN (pc' := 63) X0 hx (hb hby own_d3_62) rfl rfl ?_
    refine own_iconst (pc' := 64) (z := (4 : Int32)) X0 hx (hb hby own_d3_63) rfl rfl ?_
    refine own_icmpYes (pc' := 74) X0 hx (hb hby own_d3_64) (flt (by decide)).2.2.2 (by decide) (by decide) ?_
    refine own_iloadN (pc' := 75) X0 hx (hb hby own_d3_74) rfl rfl ?_
    refine own_iloadN (pc' := 76) X0 hx (hb hby own_d3_75) rfl rfl ?_
    refine own_iconst (pc' := 77) (z := (1 : Int32)) X0 hx (hb hby own_d3_76) rfl rfl ?_
    refine own_iushr (pc' := 78) (z := (1 : Int32)) X0 hx (hb hby own_d3_77) rfl (by decide) ?_
    refine own_iadd (pc' := 79) (z := (14 : Int32)) X0 hx (hb hby own_d3_78) rfl (by decide) ?_
    refine own_retI X0 hx hlk hret (hb hby own_d3_79) (by decide) (by decide) ?_
    exact ⟨14, rfl, N0, e0, q⟩
  · refine own_istoreN (pc' := 8) (l' := #[.val (.int (32767 : Int32)), .unset]) X0 hx (hb hby own_d3_7) rfl rfl ?_
    refine own_iloadN (pc' := 9) X0 hx (hb hby own_d3_8) rfl rfl ?_
    refine own_ifYes (pc' := 17) X0 hx (hb hby own_d3_9) (tlt (by decide)).2.2.1 (by decide) (by decide) ?_
    refine own_iconst (pc' := 18) (z := (1 : Int32)) X0 hx (hb hby own_d3_17) rfl rfl ?_
    refine own_istoreN (pc' := 19) (l' := #[.val (.int (32767 : Int32)), .val (.int (1 : Int32))]) X0 hx (hb hby own_d3_18) rfl rfl ?_
    refine own_iloadN (pc' := 20) X0 hx (hb hby own_d3_19) rfl rfl ?_
    refine own_ldcwI (pc' := 23) X0 hx hZ hown (own_w13 hw) (hb hby own_d3_20) rfl ?_
    refine own_icmpYes (pc' := 34) X0 hx (hb hby own_d3_23) (flt (by decide)).2.2.2 (by decide) (by decide) ?_
    refine own_iloadN (pc' := 35) X0 hx (hb hby own_d3_34) rfl rfl ?_
    refine own_sipush (pc' := 38) (z := (256 : Int32)) X0 hx (hb hby own_d3_35) rfl rfl ?_
    refine own_icmpNo (pc' := 41) X0 hx (hb hby own_d3_38) rfl (tlt (by decide)).2.2.2 ?_
    refine own_iinc (pc' := 44) (z := (9 : Int32)) (l' := #[.val (.int (32767 : Int32)), .val (.int (9 : Int32))]) X0 hx (hb hby own_d3_41) rfl rfl (by decide) rfl ?_
    refine own_iloadN (pc' := 45) X0 hx (hb hby own_d3_44) rfl rfl ?_
    refine own_bipush (pc' := 47) (z := (8 : Int32)) X0 hx (hb hby own_d3_45) rfl rfl ?_
    refine own_iushr (pc' := 48) (z := (127 : Int32)) X0 hx (hb hby own_d3_47) rfl (by decide) ?_
    refine own_istoreN (pc' := 49) (l' := #[.val (.int (127 : Int32)), .val (.int (9 : Int32))]) X0 hx (hb hby own_d3_48) rfl rfl ?_
    refine own_iloadN (pc' := 50) X0 hx (hb hby own_d3_49) rfl rfl ?_
    refine own_bipush (pc' := 52) (z := (16 : Int32)) X0 hx (hb hby own_d3_50) rfl rfl ?_
    refine own_icmpNo (pc' := 55) X0 hx (hb hby own_d3_52) rfl (tlt (by decide)).2.2.2 ?_
    refine own_iinc (pc' := 58) (z := (13 : Int32)) (l' := #[.val (.int (127 : Int32)), .val (.int (13 : Int32))]) X0 hx (hb hby own_d3_55) rfl rfl (by decide) rfl ?_
    refine own_iloadN (pc' := 59) X0 hx (hb hby own_d3_58) rfl rfl ?_
    refine own_iconst (pc' := 60) (z := (4 : Int32)) X0 hx (hb hby own_d3_59) rfl rfl ?_
    refine own_iushr (pc' := 61) (z := (7 : Int32)) X0 hx (hb hby own_d3_60) rfl (by decide) ?_
    refine own_istoreN (pc' := 62) (l' := #[.val (.int (7 : Int32)), .val (.int (13 : Int32))]) X0 hx (hb hby own_d3_61) rfl rfl ?_
    refine own_iloadN (pc' := 63) X0 hx (hb hby own_d3_62) rfl rfl ?_
    refine own_iconst (pc' := 64) (z := (4 : Int32)) X0 hx (hb hby own_d3_63) rfl rfl ?_
    refine own_icmpNo (pc' := 67) X0 hx (hb hby own_d3_64) rfl (tlt (by decide)).2.2.2 ?_
    refine own_iinc (pc' := 70) (z := (15 : Int32)) (l' := #[.val (.int (7 : Int32)), .val (.int (15 : Int32))]) X0 hx (hb hby own_d3_67) rfl rfl (by decide) rfl ?_
    refine own_iloadN (pc' := 71) X0 hx (hb hby own_d3_70) rfl rfl ?_
    refine own_iconst (pc' := 72) (z := (2 : Int32)) X0 hx (hb hby own_d3_71) rfl rfl ?_
    refine own_iushr (pc' := 73) (z := (1 : Int32)) X0 hx (hb hby own_d3_72) rfl (by decide) ?_
    refine own_istoreN (pc' := 74) (l' := #[.val (.int (1 : Int32)), .val (.int (15 : Int32))]) X0 hx (hb hby own_d3_73) rfl rfl ?_
    refine own_iloadN (pc' := 75) X0 hx (hb hby own_d3_74) rfl rfl ?_
    refine own_iloadN (pc' := 76) X0 hx (hb hby own_d3_75) rfl rfl ?_
    refine own_iconst (pc' := 77) (z := (1 : Int32)) X0 hx (hb hby own_d3_76) rfl rfl ?_
    refine own_iushr (pc' := 78) (z := (0 : Int32)) X0 hx (hb hby own_d3_77) rfl (by decide) ?_
    refine own_iadd (pc' := 79) (z := (15 : Int32)) X0 hx (hb hby own_d3_78) rfl (by decide) ?_
    refine own_retI X0 hx hlk hret (hb hby own_d3_79) (by decide) (by decide) ?_
    exact ⟨15, rfl, N0, e0, q⟩
  · refine own_istoreN (pc' := 8) (l' := #[.val (.int (65535 : Int32)), .unset]) X0 hx (hb hby own_d3_7) rfl rfl ?_
    refine own_iloadN (pc' := 9) X0 hx (hb hby own_d3_8) rfl rfl ?_
    refine own_ifYes (pc' := 17) X0 hx (hb hby own_d3_9) (tlt (by decide)).2.2.1 (by decide) (by decide) ?_
    refine own_iconst (pc' := 18) (z := (1 : Int32)) X0 hx (hb hby own_d3_17) rfl rfl ?_
    refine own_istoreN (pc' := 19) (l' := #[.val (.int (65535 : Int32)), .val (.int (1 : Int32))]) X0 hx (hb hby own_d3_18) rfl rfl ?_
    refine own_iloadN (pc' := 20) X0 hx (hb hby own_d3_19) rfl rfl ?_
    refine own_ldcwI (pc' := 23) X0 hx hZ hown (own_w13 hw) (hb hby own_d3_20) rfl ?_
    refine own_icmpYes (pc' := 34) X0 hx (hb hby own_d3_23) (flt (by decide)).2.2.2 (by decide) (by decide) ?_
    refine own_iloadN (pc' := 35) X0 hx (hb hby own_d3_34) rfl rfl ?_
    refine own_sipush (pc' := 38) (z := (256 : Int32)) X0 hx (hb hby own_d3_35) rfl rfl ?_
    refine own_icmpNo (pc' := 41) X0 hx (hb hby own_d3_38) rfl (tlt (by decide)).2.2.2 ?_
    refine own_iinc (pc' := 44) (z := (9 : Int32)) (l' := #[.val (.int (65535 : Int32)), .val (.int (9 : Int32))]) X0 hx (hb hby own_d3_41) rfl rfl (by decide) rfl ?_
    refine own_iloadN (pc' := 45) X0 hx (hb hby own_d3_44) rfl rfl ?_
    refine own_bipush (pc' := 47) (z := (8 : Int32)) X0 hx (hb hby own_d3_45) rfl rfl ?_
    refine own_iushr (pc' := 48) (z := (255 : Int32)) X0 hx (hb hby own_d3_47) rfl (by decide) ?_
    refine own_istoreN (pc' := 49) (l' := #[.val (.int (255 : Int32)), .val (.int (9 : Int32))]) X0 hx (hb hby own_d3_48) rfl rfl ?_
    refine own_iloadN (pc' := 50) X0 hx (hb hby own_d3_49) rfl rfl ?_
    refine own_bipush (pc' := 52) (z := (16 : Int32)) X0 hx (hb hby own_d3_50) rfl rfl ?_
    refine own_icmpNo (pc' := 55) X0 hx (hb hby own_d3_52) rfl (tlt (by decide)).2.2.2 ?_
    refine own_iinc (pc' := 58) (z := (13 : Int32)) (l' := #[.val (.int (255 : Int32)), .val (.int (13 : Int32))]) X0 hx (hb hby own_d3_55) rfl rfl (by decide) rfl ?_
    refine own_iloadN (pc' := 59) X0 hx (hb hby own_d3_58) rfl rfl ?_
    refine own_iconst (pc' := 60) (z := (4 : Int32)) X0 hx (hb hby own_d3_59) rfl rfl ?_
    refine own_iushr (pc' := 61) (z := (15 : Int32)) X0 hx (hb hby own_d3_60) rfl (by decide) ?_
    refine own_istoreN (pc' := 62) (l' := #[.val (.int (15 : Int32)), .val (.int (13 : Int32))]) X0 hx (hb hby own_d3_61) rfl rfl ?_
    refine own_iloadN (pc' := 63) X0 hx (hb hby own_d3_62) rfl rfl ?_
    refine own_iconst (pc' := 64) (z := (4 : Int32)) X0 hx (hb hby own_d3_63) rfl rfl ?_
    refine own_icmpNo (pc' := 67) X0 hx (hb hby own_d3_64) rfl (tlt (by decide)).2.2.2 ?_
    refine own_iinc (pc' := 70) (z := (15 : Int32)) (l' := #[.val (.int (15 : Int32)), .val (.int (15 : Int32))]) X0 hx (hb hby own_d3_67) rfl rfl (by decide) rfl ?_
    refine own_iloadN (pc' := 71) X0 hx (hb hby own_d3_70) rfl rfl ?_
    refine own_iconst (pc' := 72) (z := (2 : Int32)) X0 hx (hb hby own_d3_71) rfl rfl ?_
    refine own_iushr (pc' := 73) (z := (3 : Int32)) X0 hx (hb hby own_d3_72) rfl (by decide) ?_
    refine own_istoreN (pc' := 74) (l' := #[.val (.int (3 : Int32)), .val (.int (15 : Int32))]) X0 hx (hb hby own_d3_73) rfl rfl ?_
    refine own_iloadN (pc' := 75) X0 hx (hb hby own_d3_74) rfl rfl ?_
    refine own_iloadN (pc' := 76) X0 hx (hb hby own_d3_75) rfl rfl ?_
    refine own_iconst (pc' := 77) (z := (1 : Int32)) X0 hx (hb hby own_d3_76) rfl rfl ?_
    refine own_iushr (pc' := 78) (z := (1 : Int32)) X0 hx (hb hby own_d3_77) rfl (by decide) ?_
    refine own_iadd (pc' := 79) (z := (16 : Int32)) X0 hx (hb hby own_d3_78) rfl (by decide) ?_
    refine own_retI X0 hx hlk hret (hb hby own_d3_79) (by decide) (by decide) ?_
    exact ⟨16, rfl, N0, e0, q⟩
  · refine own_istoreN (pc' := 8) (l' := #[.val (.int (131071 : Int32)), .unset]) X0 hx (hb hby own_d3_7) rfl rfl ?_
    refine own_iloadN (pc' := 9) X0 hx (hb hby own_d3_8) rfl rfl ?_
    refine own_ifYes (pc' := 17) X0 hx (hb hby own_d3_9) (tlt (by decide)).2.2.1 (by decide) (by decide) ?_
    refine own_iconst (pc' := 18) (z := (1 : Int32)) X0 hx (hb hby own_d3_17) rfl rfl ?_
    refine own_istoreN (pc' := 19) (l' := #[.val (.int (131071 : Int32)), .val (.int (1 : Int32))]) X0 hx (hb hby own_d3_18) rfl rfl ?_
    refine own_iloadN (pc' := 20) X0 hx (hb hby own_d3_19) rfl rfl ?_
    refine own_ldcwI (pc' := 23) X0 hx hZ hown (own_w13 hw) (hb hby own_d3_20) rfl ?_
    refine own_icmpNo (pc' := 26) X0 hx (hb hby own_d3_23) rfl (tlt (by decide)).2.2.2 ?_
    refine own_iinc (pc' := 29) (z := (17 : Int32)) (l' := #[.val (.int (131071 : Int32)), .val (.int (17 : Int32))]) X0 hx (hb hby own_d3_26) rfl rfl (by decide) rfl ?_
    refine own_iloadN (pc' := 30) X0 hx (hb hby own_d3_29) rfl rfl ?_
    refine own_bipush (pc' := 32) (z := (16 : Int32)) X0 hx (hb hby own_d3_30) rfl rfl ?_
    refine own_iushr (pc' := 33) (z := (1 : Int32)) X0 hx (hb hby own_d3_32) rfl (by decide) ?_
    refine own_istoreN (pc' := 34) (l' := #[.val (.int (1 : Int32)), .val (.int (17 : Int32))]) X0 hx (hb hby own_d3_33) rfl rfl ?_
    refine own_iloadN (pc' := 35) X0 hx (hb hby own_d3_34) rfl rfl ?_
    refine own_sipush (pc' := 38) (z := (256 : Int32)) X0 hx (hb hby own_d3_35) rfl rfl ?_
    refine own_icmpYes (pc' := 49) X0 hx (hb hby own_d3_38) (flt (by decide)).2.2.2 (by decide) (by decide) ?_
    refine own_iloadN (pc' := 50) X0 hx (hb hby own_d3_49) rfl rfl ?_
    refine own_bipush (pc' := 52) (z := (16 : Int32)) X0 hx (hb hby own_d3_50) rfl rfl ?_
    refine own_icmpYes (pc' := 62) X0 hx (hb hby own_d3_52) (flt (by decide)).2.2.2 (by decide) (by decide) ?_
    refine own_iloadN (pc' := 63) X0 hx (hb hby own_d3_62) rfl rfl ?_
    refine own_iconst (pc' := 64) (z := (4 : Int32)) X0 hx (hb hby own_d3_63) rfl rfl ?_
    refine own_icmpYes (pc' := 74) X0 hx (hb hby own_d3_64) (flt (by decide)).2.2.2 (by decide) (by decide) ?_
    refine own_iloadN (pc' := 75) X0 hx (hb hby own_d3_74) rfl rfl ?_
    refine own_iloadN (pc' := 76) X0 hx (hb hby own_d3_75) rfl rfl ?_
    refine own_iconst (pc' := 77) (z := (1 : Int32)) X0 hx (hb hby own_d3_76) rfl rfl ?_
    refine own_iushr (pc' := 78) (z := (0 : Int32)) X0 hx (hb hby own_d3_77) rfl (by decide) ?_
    refine own_iadd (pc' := 79) (z := (17 : Int32)) X0 hx (hb hby own_d3_78) rfl (by decide) ?_
    refine own_retI X0 hx hlk hret (hb hby own_d3_79) (by decide) (by decide) ?_
    exact ⟨17, rfl, N0, e0, q⟩
  · refine own_istoreN (pc' := 8) (l' := #[.val (.int (262143 : Int32)), .unset]) X0 hx (hb hby own_d3_7) rfl rfl ?_
    refine own_iloadN (pc' := 9) X0 hx (hb hby own_d3_8) rfl rfl ?_
    refine own_ifYes (pc' := 17) X0 hx (hb hby own_d3_9) (tlt (by decide)).2.2.1 (by decide) (by decide) ?_
    refine own_iconst (pc' := 18) (z := (1 : Int32)) X0 hx (hb hby own_d3_17) rfl rfl ?_
    refine own_istoreN (pc' := 19) (l' := #[.val (.int (262143 : Int32)), .val (.int (1 : Int32))]) X0 hx (hb hby own_d3_18) rfl rfl ?_
    refine own_iloadN (pc' := 20) X0 hx (hb hby own_d3_19) rfl rfl ?_
    refine own_ldcwI (pc' := 23) X0 hx hZ hown (own_w13 hw) (hb hby own_d3_20) rfl ?_
    refine own_icmpNo (pc' := 26) X0 hx (hb hby own_d3_23) rfl (tlt (by decide)).2.2.2 ?_
    refine own_iinc (pc' := 29) (z := (17 : Int32)) (l' := #[.val (.int (262143 : Int32)), .val (.int (17 : Int32))]) X0 hx (hb hby own_d3_26) rfl rfl (by decide) rfl ?_
    refine own_iloadN (pc' := 30) X0 hx (hb hby own_d3_29) rfl rfl ?_
    refine own_bipush (pc' := 32) (z := (16 : Int32)) X0 hx (hb hby own_d3_30) rfl rfl ?_
    refine own_iushr (pc' := 33) (z := (3 : Int32)) X0 hx (hb hby own_d3_32) rfl (by decide) ?_
    refine own_istoreN (pc' := 34) (l' := #[.val (.int (3 : Int32)), .val (.int (17 : Int32))]) X0 hx (hb hby own_d3_33) rfl rfl ?_
    refine own_iloadN (pc' := 35) X0 hx (hb hby own_d3_34) rfl rfl ?_
    refine own_sipush (pc' := 38) (z := (256 : Int32)) X0 hx (hb hby own_d3_35) rfl rfl ?_
    refine own_icmpYes (pc' := 49) X0 hx (hb hby own_d3_38) (flt (by decide)).2.2.2 (by decide) (by decide) ?_
    refine own_iloadN (pc' := 50) X0 hx (hb hby own_d3_49) rfl rfl ?_
    refine own_bipush (pc' := 52) (z := (16 : Int32)) X0 hx (hb hby own_d3_50) rfl rfl ?_
    refine own_icmpYes (pc' := 62) X0 hx (hb hby own_d3_52) (flt (by decide)).2.2.2 (by decide) (by decide) ?_
    refine own_iloadN (pc' := 63) X0 hx (hb hby own_d3_62) rfl rfl ?_
    refine own_iconst (pc' := 64) (z := (4 : Int32)) X0 hx (hb hby own_d3_63) rfl rfl ?_
    refine own_icmpYes (pc' := 74) X0 hx (hb hby own_d3_64) (flt (by decide)).2.2.2 (by decide) (by decide) ?_
    refine own_iloadN (pc' := 75) X0 hx (hb hby own_d3_74) rfl rfl ?_
    refine own_iloadN (pc' := 76) X0 hx (hb hby own_d3_75) rfl rfl ?_
    refine own_iconst (pc' := 77) (z := (1 : Int32)) X0 hx (hb hby own_d3_76) rfl rfl ?_
    refine own_iushr (pc' := 78) (z := (1 : Int32)) X0 hx (hb hby own_d3_77) rfl (by decide) ?_
    refine own_iadd (pc' := 79) (z := (18 : Int32)) X0 hx (hb hby own_d3_78) rfl (by decide) ?_
    refine own_retI X0 hx hlk hret (hb hby own_d3_79) (by decide) (by decide) ?_
    exact ⟨18, rfl, N0, e0, q⟩
  · refine own_istoreN (pc' := 8) (l' := #[.val (.int (524287 : Int32)), .unset]) X0 hx (hb hby own_d3_7) rfl rfl ?_
    refine own_iloadN (pc' := 9) X0 hx (hb hby own_d3_8) rfl rfl ?_
    refine own_ifYes (pc' := 17) X0 hx (hb hby own_d3_9) (tlt (by decide)).2.2.1 (by decide) (by decide) ?_
    refine own_iconst (pc' := 18) (z := (1 : Int32)) X0 hx (hb hby own_d3_17) rfl rfl ?_
    refine own_istoreN (pc' := 19) (l' := #[.val (.int (524287 : Int32)), .val (.int (1 : Int32))]) X0 hx (hb hby own_d3_18) rfl rfl ?_
    refine own_iloadN (pc' := 20) X0 hx (hb hby own_d3_19) rfl rfl ?_
    refine own_ldcwI (pc' := 23) X0 hx hZ hown (own_w13 hw) (hb hby own_d3_20) rfl ?_
    refine own_icmpNo (pc' := 26) X0 hx (hb hby own_d3_23) rfl (tlt (by decide)).2.2.2 ?_
    refine own_iinc (pc' := 29) (z := (17 : Int32)) (l' := #[.val (.int (524287 : Int32)), .val (.int (17 : Int32))]) X0 hx (hb hby own_d3_26) rfl rfl (by decide) rfl ?_
    refine own_iloadN (pc' := 30) X0 hx (hb hby own_d3_29) rfl rfl ?_
    refine own_bipush (pc' := 32) (z := (16 : Int32)) X0 hx (hb hby own_d3_30) rfl rfl ?_
    refine own_iushr (pc' := 33) (z := (7 : Int32)) X0 hx (hb hby own_d3_32) rfl (by decide) ?_
    refine own_istoreN (pc' := 34) (l' := #[.val (.int (7 : Int32)), .val (.int (17 : Int32))]) X0 hx (hb hby own_d3_33) rfl rfl ?_
    refine own_iloadN (pc' := 35) X0 hx (hb hby own_d3_34) rfl rfl ?_
    refine own_sipush (pc' := 38) (z := (256 : Int32)) X0 hx (hb hby own_d3_35) rfl rfl ?_
    refine own_icmpYes (pc' := 49) X0 hx (hb hby own_d3_38) (flt (by decide)).2.2.2 (by decide) (by decide) ?_
    refine own_iloadN (pc' := 50) X0 hx (hb hby own_d3_49) rfl rfl ?_
    refine own_bipush (pc' := 52) (z := (16 : Int32)) X0 hx (hb hby own_d3_50) rfl rfl ?_
    refine own_icmpYes (pc' := 62) X0 hx (hb hby own_d3_52) (flt (by decide)).2.2.2 (by decide) (by decide) ?_
    refine own_iloadN (pc' := 63) X0 hx (hb hby own_d3_62) rfl rfl ?_
    refine own_iconst (pc' := 64) (z := (4 : Int32)) X0 hx (hb hby own_d3_63) rfl rfl ?_
    refine own_icmpNo (pc' := 67) X0 hx (hb hby own_d3_64) rfl (tlt (by decide)).2.2.2 ?_
    refine own_iinc (pc' := 70) (z := (19 : Int32)) (l' := #[.val (.int (7 : Int32)), .val (.int (19 : Int32))]) X0 hx (hb hby own_d3_67) rfl rfl (by decide) rfl ?_
    refine own_iloadN (pc' := 71) X0 hx (hb hby own_d3_70) rfl rfl ?_
    refine own_iconst (pc' := 72) (z := (2 : Int32)) X0 hx (hb hby own_d3_71) rfl rfl ?_
    refine own_iushr (pc' := 73) (z := (1 : Int32)) X0 hx (hb hby own_d3_72) rfl (by decide) ?_
    refine own_istoreN (pc' := 74) (l' := #[.val (.int (1 : Int32)), .val (.int (19 : Int32))]) X0 hx (hb hby own_d3_73) rfl rfl ?_
    refine own_iloadN (pc' := 75) X0 hx (hb hby own_d3_74) rfl rfl ?_
    refine own_iloadN (pc' := 76) X0 hx (hb hby own_d3_75) rfl rfl ?_
    refine own_iconst (pc' := 77) (z := (1 : Int32)) X0 hx (hb hby own_d3_76) rfl rfl ?_
    refine own_iushr (pc' := 78) (z := (0 : Int32)) X0 hx (hb hby own_d3_77) rfl (by decide) ?_
    refine own_iadd (pc' := 79) (z := (19 : Int32)) X0 hx (hb hby own_d3_78) rfl (by decide) ?_
    refine own_retI X0 hx hlk hret (hb hby own_d3_79) (by decide) (by decide) ?_
    exact ⟨19, rfl, N0, e0, q⟩
  · refine own_istoreN (pc' := 8) (l' := #[.val (.int (1048575 : Int32)), .unset]) X0 hx (hb hby own_d3_7) rfl rfl ?_
    refine own_iloadN (pc' := 9) X0 hx (hb hby own_d3_8) rfl rfl ?_
    refine own_ifYes (pc' := 17) X0 hx (hb hby own_d3_9) (tlt (by decide)).2.2.1 (by decide) (by decide) ?_
    refine own_iconst (pc' := 18) (z := (1 : Int32)) X0 hx (hb hby own_d3_17) rfl rfl ?_
    refine own_istoreN (pc' := 19) (l' := #[.val (.int (1048575 : Int32)), .val (.int (1 : Int32))]) X0 hx (hb hby own_d3_18) rfl rfl ?_
    refine own_iloadN (pc' := 20) X0 hx (hb hby own_d3_19) rfl rfl ?_
    refine own_ldcwI (pc' := 23) X0 hx hZ hown (own_w13 hw) (hb hby own_d3_20) rfl ?_
    refine own_icmpNo (pc' := 26) X0 hx (hb hby own_d3_23) rfl (tlt (by decide)).2.2.2 ?_
    refine own_iinc (pc' := 29) (z := (17 : Int32)) (l' := #[.val (.int (1048575 : Int32)), .val (.int (17 : Int32))]) X0 hx (hb hby own_d3_26) rfl rfl (by decide) rfl ?_
    refine own_iloadN (pc' := 30) X0 hx (hb hby own_d3_29) rfl rfl ?_
    refine own_bipush (pc' := 32) (z := (16 : Int32)) X0 hx (hb hby own_d3_30) rfl rfl ?_
    refine own_iushr (pc' := 33) (z := (15 : Int32)) X0 hx (hb hby own_d3_32) rfl (by decide) ?_
    refine own_istoreN (pc' := 34) (l' := #[.val (.int (15 : Int32)), .val (.int (17 : Int32))]) X0 hx (hb hby own_d3_33) rfl rfl ?_
    refine own_iloadN (pc' := 35) X0 hx (hb hby own_d3_34) rfl rfl ?_
    refine own_sipush (pc' := 38) (z := (256 : Int32)) X0 hx (hb hby own_d3_35) rfl rfl ?_
    refine own_icmpYes (pc' := 49) X0 hx (hb hby own_d3_38) (flt (by decide)).2.2.2 (by decide) (by decide) ?_
    refine own_iloadN (pc' := 50) X0 hx (hb hby own_d3_49) rfl rfl ?_
    refine own_bipush (pc' := 52) (z := (16 : Int32)) X0 hx (hb hby own_d3_50) rfl rfl ?_
    refine own_icmpYes (pc' := 62) X0 hx (hb hby own_d3_52) (flt (by decide)).2.2.2 (by decide) (by decide) ?_
    refine own_iloadN (pc' := 63) X0 hx (hb hby own_d3_62) rfl rfl ?_
    refine own_iconst (pc' := 64) (z := (4 : Int32)) X0 hx (hb hby own_d3_63) rfl rfl ?_
    refine own_icmpNo (pc' := 67) X0 hx (hb hby own_d3_64) rfl (tlt (by decide)).2.2.2 ?_
    refine own_iinc (pc' := 70) (z := (19 : Int32)) (l' := #[.val (.int (15 : Int32)), .val (.int (19 : Int32))]) X0 hx (hb hby own_d3_67) rfl rfl (by decide) rfl ?_
    refine own_iloadN (pc' := 71) X0 hx (hb hby own_d3_70) rfl rfl ?_
    refine own_iconst (pc' := 72) (z := (2 : Int32)) X0 hx (hb hby own_d3_71) rfl rfl ?_
    refine own_iushr (pc' := 73) (z := (3 : Int32)) X0 hx (hb hby own_d3_72) rfl (by decide) ?_
    refine own_istoreN (pc' := 74) (l' := #[.val (.int (3 : Int32)), .val (.int (19 : Int32))]) X0 hx (hb hby own_d3_73) rfl rfl ?_
    refine own_iloadN (pc' := 75) X0 hx (hb hby own_d3_74) rfl rfl ?_
    refine own_iloadN (pc' := 76) X0 hx (hb hby own_d3_75) rfl rfl ?_
    refine own_iconst (pc' := 77) (z := (1 : Int32)) X0 hx (hb hby own_d3_76) rfl rfl ?_
    refine own_iushr (pc' := 78) (z := (1 : Int32)) X0 hx (hb hby own_d3_77) rfl (by decide) ?_
    refine own_iadd (pc' := 79) (z := (20 : Int32)) X0 hx (hb hby own_d3_78) rfl (by decide) ?_
    refine own_retI X0 hx hlk hret (hb hby own_d3_79) (by decide) (by decide) ?_
    exact ⟨20, rfl, N0, e0, q⟩
  · refine own_istoreN (pc' := 8) (l' := #[.val (.int (2097151 : Int32)), .unset]) X0 hx (hb hby own_d3_7) rfl rfl ?_
    refine own_iloadN (pc' := 9) X0 hx (hb hby own_d3_8) rfl rfl ?_
    refine own_ifYes (pc' := 17) X0 hx (hb hby own_d3_9) (tlt (by decide)).2.2.1 (by decide) (by decide) ?_
    refine own_iconst (pc' := 18) (z := (1 : Int32)) X0 hx (hb hby own_d3_17) rfl rfl ?_
    refine own_istoreN (pc' := 19) (l' := #[.val (.int (2097151 : Int32)), .val (.int (1 : Int32))]) X0 hx (hb hby own_d3_18) rfl rfl ?_
    refine own_iloadN (pc' := 20) X0 hx (hb hby own_d3_19) rfl rfl ?_
    refine own_ldcwI (pc' := 23) X0 hx hZ hown (own_w13 hw) (hb hby own_d3_20) rfl ?_
    refine own_icmpNo (pc' := 26) X0 hx (hb hby own_d3_23) rfl (tlt (by decide)).2.2.2 ?_
    refine own_iinc (pc' := 29) (z := (17 : Int32)) (l' := #[.val (.int (2097151 : Int32)), .val (.int (17 : Int32))]) X0 hx (hb hby own_d3_26) rfl rfl (by decide) rfl ?_
    refine own_iloadN (pc' := 30) X0 hx (hb hby own_d3_29) rfl rfl ?_
    refine own_bipush (pc' := 32) (z := (16 : Int32)) X0 hx (hb hby own_d3_30) rfl rfl ?_
    refine own_iushr (pc' := 33) (z := (31 : Int32)) X0 hx (hb hby own_d3_32) rfl (by decide) ?_
    refine own_istoreN (pc' := 34) (l' := #[.val (.int (31 : Int32)), .val (.int (17 : Int32))]) X0 hx (hb hby own_d3_33) rfl rfl ?_
    refine own_iloadN (pc' := 35) X0 hx (hb hby own_d3_34) rfl rfl ?_
    refine own_sipush (pc' := 38) (z := (256 : Int32)) X0 hx (hb hby own_d3_35) rfl rfl ?_
    refine own_icmpYes (pc' := 49) X0 hx (hb hby own_d3_38) (flt (by decide)).2.2.2 (by decide) (by decide) ?_
    refine own_iloadN (pc' := 50) X0 hx (hb hby own_d3_49) rfl rfl ?_
    refine own_bipush (pc' := 52) (z := (16 : Int32)) X0 hx (hb hby own_d3_50) rfl rfl ?_
    refine own_icmpNo (pc' := 55) X0 hx (hb hby own_d3_52) rfl (tlt (by decide)).2.2.2 ?_
    refine own_iinc (pc' := 58) (z := (21 : Int32)) (l' := #[.val (.int (31 : Int32)), .val (.int (21 : Int32))]) X0 hx (hb hby own_d3_55) rfl rfl (by decide) rfl ?_
    refine own_iloadN (pc' := 59) X0 hx (hb hby own_d3_58) rfl rfl ?_
    refine own_iconst (pc' := 60) (z := (4 : Int32)) X0 hx (hb hby own_d3_59) rfl rfl ?_
    refine own_iushr (pc' := 61) (z := (1 : Int32)) X0 hx (hb hby own_d3_60) rfl (by decide) ?_
    refine own_istoreN (pc' := 62) (l' := #[.val (.int (1 : Int32)), .val (.int (21 : Int32))]) X0 hx (hb hby own_d3_61) rfl rfl ?_
    refine own_iloadN (pc' := 63) X0 hx (hb hby own_d3_62) rfl rfl ?_
    refine own_iconst (pc' := 64) (z := (4 : Int32)) X0 hx (hb hby own_d3_63) rfl rfl ?_
    refine own_icmpYes (pc' := 74) X0 hx (hb hby own_d3_64) (flt (by decide)).2.2.2 (by decide) (by decide) ?_
    refine own_iloadN (pc' := 75) X0 hx (hb hby own_d3_74) rfl rfl ?_
    refine own_iloadN (pc' := 76) X0 hx (hb hby own_d3_75) rfl rfl ?_
    refine own_iconst (pc' := 77) (z := (1 : Int32)) X0 hx (hb hby own_d3_76) rfl rfl ?_
    refine own_iushr (pc' := 78) (z := (0 : Int32)) X0 hx (hb hby own_d3_77) rfl (by decide) ?_
    refine own_iadd (pc' := 79) (z := (21 : Int32)) X0 hx (hb hby own_d3_78) rfl (by decide) ?_
    refine own_retI X0 hx hlk hret (hb hby own_d3_79) (by decide) (by decide) ?_
    exact ⟨21, rfl, N0, e0, q⟩
  · refine own_istoreN (pc' := 8) (l' := #[.val (.int (4194303 : Int32)), .unset]) X0 hx (hb hby own_d3_7) rfl rfl ?_
    refine own_iloadN (pc' := 9) X0 hx (hb hby own_d3_8) rfl rfl ?_
    refine own_ifYes (pc' := 17) X0 hx (hb hby own_d3_9) (tlt (by decide)).2.2.1 (by decide) (by decide) ?_
    refine own_iconst (pc' := 18) (z := (1 : Int32)) X0 hx (hb hby own_d3_17) rfl rfl ?_
    refine own_istoreN (pc' := 19) (l' := #[.val (.int (4194303 : Int32)), .val (.int (1 : Int32))]) X0 hx (hb hby own_d3_18) rfl rfl ?_
    refine own_iloadN (pc' := 20) X0 hx (hb hby own_d3_19) rfl rfl ?_
    refine own_ldcwI (pc' := 23) X0 hx hZ hown (own_w13 hw) (hb hby own_d3_20) rfl ?_
    refine own_icmpNo (pc' := 26) X0 hx (hb hby own_d3_23) rfl (tlt (by decide)).2.2.2 ?_
    refine own_iinc (pc' := 29) (z := (17 : Int32)) (l' := #[.val (.int (4194303 : Int32)), .val (.int (17 : Int32))]) X0 hx (hb hby own_d3_26) rfl rfl (by decide) rfl ?_
    refine own_iloadN (pc' := 30) X0 hx (hb hby own_d3_29) rfl rfl ?_
    refine own_bipush (pc' := 32) (z := (16 : Int32)) X0 hx (hb hby own_d3_30) rfl rfl ?_
    refine own_iushr (pc' := 33) (z := (63 : Int32)) X0 hx (hb hby own_d3_32) rfl (by decide) ?_
    refine own_istoreN (pc' := 34) (l' := #[.val (.int (63 : Int32)), .val (.int (17 : Int32))]) X0 hx (hb hby own_d3_33) rfl rfl ?_
    refine own_iloadN (pc' := 35) X0 hx (hb hby own_d3_34) rfl rfl ?_
    refine own_sipush (pc' := 38) (z := (256 : Int32)) X0 hx (hb hby own_d3_35) rfl rfl ?_
    refine own_icmpYes (pc' := 49) X0 hx (hb hby own_d3_38) (flt (by decide)).2.2.2 (by decide) (by decide) ?_
    refine own_iloadN (pc' := 50) X0 hx (hb hby own_d3_49) rfl rfl ?_
    refine own_bipush (pc' := 52) (z := (16 : Int32)) X0 hx (hb hby own_d3_50) rfl rfl ?_
    refine own_icmpNo (pc' := 55) X0 hx (hb hby own_d3_52) rfl (tlt (by decide)).2.2.2 ?_
    refine own_iinc (pc' := 58) (z := (21 : Int32)) (l' := #[.val (.int (63 : Int32)), .val (.int (21 : Int32))]) X0 hx (hb hby own_d3_55) rfl rfl (by decide) rfl ?_
    refine own_iloadN (pc' := 59) X0 hx (hb hby own_d3_58) rfl rfl ?_
    refine own_iconst (pc' := 60) (z := (4 : Int32)) X0 hx (hb hby own_d3_59) rfl rfl ?_
    refine own_iushr (pc' := 61) (z := (3 : Int32)) X0 hx (hb hby own_d3_60) rfl (by decide) ?_
    refine own_istoreN (pc' := 62) (l' := #[.val (.int (3 : Int32)), .val (.int (21 : Int32))]) X0 hx (hb hby own_d3_61) rfl rfl ?_
    refine own_iloadN (pc' := 63) X0 hx (hb hby own_d3_62) rfl rfl ?_
    refine own_iconst (pc' := 64) (z := (4 : Int32)) X0 hx (hb hby own_d3_63) rfl rfl ?_
    refine own_icmpYes (pc' := 74) X0 hx (hb hby own_d3_64) (flt (by decide)).2.2.2 (by decide) (by decide) ?_
    refine own_iloadN (pc' := 75) X0 hx (hb hby own_d3_74) rfl rfl ?_
    refine own_iloadN (pc' := 76) X0 hx (hb hby own_d3_75) rfl rfl ?_
    refine own_iconst (pc' := 77) (z := (1 : Int32)) X0 hx (hb hby own_d3_76) rfl rfl ?_
    refine own_iushr (pc' := 78) (z := (1 : Int32)) X0 hx (hb hby own_d3_77) rfl (by decide) ?_
    refine own_iadd (pc' := 79) (z := (22 : Int32)) X0 hx (hb hby own_d3_78) rfl (by decide) ?_
    refine own_retI X0 hx hlk hret (hb hby own_d3_79) (by decide) (by decide) ?_
    exact ⟨22, rfl, N0, e0, q⟩
  · refine own_istoreN (pc' := 8) (l' := #[.val (.int (8388607 : Int32)), .unset]) X0 hx (hb hby own_d3_7) rfl rfl ?_
    refine own_iloadN (pc' := 9) X0 hx (hb hby own_d3_8) rfl rfl ?_
    refine own_ifYes (pc' := 17) X0 hx (hb hby own_d3_9) (tlt (by decide)).2.2.1 (by decide) (by decide) ?_
    refine own_iconst (pc' := 18) (z := (1 : Int32)) X0 hx (hb hby own_d3_17) rfl rfl ?_
    refine own_istoreN (pc' := 19) (l' := #[.val (.int (8388607 : Int32)), .val (.int (1 : Int32))]) X0 hx (hb hby own_d3_18) rfl rfl ?_
    refine own_iloadN (pc' := 20) X0 hx (hb hby own_d3_19) rfl rfl ?_
    refine own_ldcwI (pc' := 23) X0 hx hZ hown (own_w13 hw) (hb hby own_d3_20) rfl ?_
    refine own_icmpNo (pc' := 26) X0 hx (hb hby own_d3_23) rfl (tlt (by decide)).2.2.2 ?_
    refine own_iinc (pc' := 29) (z := (17 : Int32)) (l' := #[.val (.int (8388607 : Int32)), .val (.int (17 : Int32))]) X0 hx (hb hby own_d3_26) rfl rfl (by decide) rfl ?_
    refine own_iloadN (pc' := 30) X0 hx (hb hby own_d3_29) rfl rfl ?_
    refine own_bipush (pc' := 32) (z := (16 : Int32)) X0 hx (hb hby own_d3_30) rfl rfl ?_
    refine own_iushr (pc' := 33) (z := (127 : Int32)) X0 hx (hb hby own_d3_32) rfl (by decide) ?_
    refine own_istoreN (pc' := 34) (l' := #[.val (.int (127 : Int32)), .val (.int (17 : Int32))]) X0 hx (hb hby own_d3_33) rfl rfl ?_
    refine own_iloadN (pc' := 35) X0 hx (hb hby own_d3_34) rfl rfl ?_
    refine own_sipush (pc' := 38) (z := (256 : Int32)) X0 hx (hb hby own_d3_35) rfl rfl ?_
    refine own_icmpYes (pc' := 49) X0 hx (hb hby own_d3_38) (flt (by decide)).2.2.2 (by decide) (by decide) ?_
    refine own_iloadN (pc' := 50) X0 hx (hb hby own_d3_49) rfl rfl ?_
    refine own_bipush (pc' := 52) (z := (16 : Int32)) X0 hx (hb hby own_d3_50) rfl rfl ?_
    refine own_icmpNo (pc' := 55) X0 hx (hb hby own_d3_52) rfl (tlt (by decide)).2.2.2 ?_
    refine own_iinc (pc' := 58) (z := (21 : Int32)) (l' := #[.val (.int (127 : Int32)), .val (.int (21 : Int32))]) X0 hx (hb hby own_d3_55) rfl rfl (by decide) rfl ?_
    refine own_iloadN (pc' := 59) X0 hx (hb hby own_d3_58) rfl rfl ?_
    refine own_iconst (pc' := 60) (z := (4 : Int32)) X0 hx (hb hby own_d3_59) rfl rfl ?_
    refine own_iushr (pc' := 61) (z := (7 : Int32)) X0 hx (hb hby own_d3_60) rfl (by decide) ?_
    refine own_istoreN (pc' := 62) (l' := #[.val (.int (7 : Int32)), .val (.int (21 : Int32))]) X0 hx (hb hby own_d3_61) rfl rfl ?_
    refine own_iloadN (pc' := 63) X0 hx (hb hby own_d3_62) rfl rfl ?_
    refine own_iconst (pc' := 64) (z := (4 : Int32)) X0 hx (hb hby own_d3_63) rfl rfl ?_
    refine own_icmpNo (pc' := 67) X0 hx (hb hby own_d3_64) rfl (tlt (by decide)).2.2.2 ?_
    refine own_iinc (pc' := 70) (z := (23 : Int32)) (l' := #[.val (.int (7 : Int32)), .val (.int (23 : Int32))]) X0 hx (hb hby own_d3_67) rfl rfl (by decide) rfl ?_
    refine own_iloadN (pc' := 71) X0 hx (hb hby own_d3_70) rfl rfl ?_
    refine own_iconst (pc' := 72) (z := (2 : Int32)) X0 hx (hb hby own_d3_71) rfl rfl ?_
    refine own_iushr (pc' := 73) (z := (1 : Int32)) X0 hx (hb hby own_d3_72) rfl (by decide) ?_
    refine own_istoreN (pc' := 74) (l' := #[.val (.int (1 : Int32)), .val (.int (23 : Int32))]) X0 hx (hb hby own_d3_73) rfl rfl ?_
    refine own_iloadN (pc' := 75) X0 hx (hb hby own_d3_74) rfl rfl ?_
    refine own_iloadN (pc' := 76) X0 hx (hb hby own_d3_75) rfl rfl ?_
    refine own_iconst (pc' := 77) (z := (1 : Int32)) X0 hx (hb hby own_d3_76) rfl rfl ?_
    refine own_iushr (pc' := 78) (z := (0 : Int32)) X0 hx (hb hby own_d3_77) rfl (by decide) ?_
    refine own_iadd (pc' := 79) (z := (23 : Int32)) X0 hx (hb hby own_d3_78) rfl (by decide) ?_
    refine own_retI X0 hx hlk hret (hb hby own_d3_79) (by decide) (by decide) ?_
    exact ⟨23, rfl, N0, e0, q⟩
  · refine own_istoreN (pc' := 8) (l' := #[.val (.int (16777215 : Int32)), .unset]) X0 hx (hb hby own_d3_7) rfl rfl ?_
    refine own_iloadN (pc' := 9) X0 hx (hb hby own_d3_8) rfl rfl ?_
    refine own_ifYes (pc' := 17) X0 hx (hb hby own_d3_9) (tlt (by decide)).2.2.1 (by decide) (by decide) ?_
    refine own_iconst (pc' := 18) (z := (1 : Int32)) X0 hx (hb hby own_d3_17) rfl rfl ?_
    refine own_istoreN (pc' := 19) (l' := #[.val (.int (16777215 : Int32)), .val (.int (1 : Int32))]) X0 hx (hb hby own_d3_18) rfl rfl ?_
    refine own_iloadN (pc' := 20) X0 hx (hb hby own_d3_19) rfl rfl ?_
    refine own_ldcwI (pc' := 23) X0 hx hZ hown (own_w13 hw) (hb hby own_d3_20) rfl ?_
    refine own_icmpNo (pc' := 26) X0 hx (hb hby own_d3_23) rfl (tlt (by decide)).2.2.2 ?_
    refine own_iinc (pc' := 29) (z := (17 : Int32)) (l' := #[.val (.int (16777215 : Int32)), .val (.int (17 : Int32))]) X0 hx (hb hby own_d3_26) rfl rfl (by decide) rfl ?_
    refine own_iloadN (pc' := 30) X0 hx (hb hby own_d3_29) rfl rfl ?_
    refine own_bipush (pc' := 32) (z := (16 : Int32)) X0 hx (hb hby own_d3_30) rfl rfl ?_
    refine own_iushr (pc' := 33) (z := (255 : Int32)) X0 hx (hb hby own_d3_32) rfl (by decide) ?_
    refine own_istoreN (pc' := 34) (l' := #[.val (.int (255 : Int32)), .val (.int (17 : Int32))]) X0 hx (hb hby own_d3_33) rfl rfl ?_
    refine own_iloadN (pc' := 35) X0 hx (hb hby own_d3_34) rfl rfl ?_
    refine own_sipush (pc' := 38) (z := (256 : Int32)) X0 hx (hb hby own_d3_35) rfl rfl ?_
    refine own_icmpYes (pc' := 49) X0 hx (hb hby own_d3_38) (flt (by decide)).2.2.2 (by decide) (by decide) ?_
    refine own_iloadN (pc' := 50) X0 hx (hb hby own_d3_49) rfl rfl ?_
    refine own_bipush (pc' := 52) (z := (16 : Int32)) X0 hx (hb hby own_d3_50) rfl rfl ?_
    refine own_icmpNo (pc' := 55) X0 hx (hb hby own_d3_52) rfl (tlt (by decide)).2.2.2 ?_
    refine own_iinc (pc' := 58) (z := (21 : Int32)) (l' := #[.val (.int (255 : Int32)), .val (.int (21 : Int32))]) X0 hx (hb hby own_d3_55) rfl rfl (by decide) rfl ?_
    refine own_iloadN (pc' := 59) X0 hx (hb hby own_d3_58) rfl rfl ?_
    refine own_iconst (pc' := 60) (z := (4 : Int32)) X0 hx (hb hby own_d3_59) rfl rfl ?_
    refine own_iushr (pc' := 61) (z := (15 : Int32)) X0 hx (hb hby own_d3_60) rfl (by decide) ?_
    refine own_istoreN (pc' := 62) (l' := #[.val (.int (15 : Int32)), .val (.int (21 : Int32))]) X0 hx (hb hby own_d3_61) rfl rfl ?_
    refine own_iloadN (pc' := 63) X0 hx (hb hby own_d3_62) rfl rfl ?_
    refine own_iconst (pc' := 64) (z := (4 : Int32)) X0 hx (hb hby own_d3_63) rfl rfl ?_
    refine own_icmpNo (pc' := 67) X0 hx (hb hby own_d3_64) rfl (tlt (by decide)).2.2.2 ?_
    refine own_iinc (pc' := 70) (z := (23 : Int32)) (l' := #[.val (.int (15 : Int32)), .val (.int (23 : Int32))]) X0 hx (hb hby own_d3_67) rfl rfl (by decide) rfl ?_
    refine own_iloadN (pc' := 71) X0 hx (hb hby own_d3_70) rfl rfl ?_
    refine own_iconst (pc' := 72) (z := (2 : Int32)) X0 hx (hb hby own_d3_71) rfl rfl ?_
    refine own_iushr (pc' := 73) (z := (3 : Int32)) X0 hx (hb hby own_d3_72) rfl (by decide) ?_
    refine own_istoreN (pc' := 74) (l' := #[.val (.int (3 : Int32)), .val (.int (23 : Int32))]) X0 hx (hb hby own_d3_73) rfl rfl ?_
    refine own_iloadN (pc' := 75) X0 hx (hb hby own_d3_74) rfl rfl ?_
    refine own_iloadN (pc' := 76) X0 hx (hb hby own_d3_75) rfl rfl ?_
    refine own_iconst (pc' := 77) (z := (1 : Int32)) X0 hx (hb hby own_d3_76) rfl rfl ?_
    refine own_iushr (pc' := 78) (z := (1 : Int32)) X0 hx (hb hby own_d3_77) rfl (by decide) ?_
    refine own_iadd (pc' := 79) (z := (24 : Int32)) X0 hx (hb hby own_d3_78) rfl (by decide) ?_
    refine own_retI X0 hx hlk hret (hb hby own_d3_79) (by decide) (by decide) ?_
    exact ⟨24, rfl, N0, e0, q⟩
  · refine own_istoreN (pc' := 8) (l' := #[.val (.int (33554431 : Int32)), .unset]) X0 hx (hb hby own_d3_7) rfl rfl ?_
    refine own_iloadN (pc' := 9) X0 hx (hb hby own_d3_8) rfl rfl ?_
    refine own_ifYes (pc' := 17) X0 hx (hb hby own_d3_9) (tlt (by decide)).2.2.1 (by decide) (by decide) ?_
    refine own_iconst (pc' := 18) (z := (1 : Int32)) X0 hx (hb hby own_d3_17) rfl rfl ?_
    refine own_istoreN (pc' := 19) (l' := #[.val (.int (33554431 : Int32)), .val (.int (1 : Int32))]) X0 hx (hb hby own_d3_18) rfl rfl ?_
    refine own_iloadN (pc' := 20) X0 hx (hb hby own_d3_19) rfl rfl ?_
    refine own_ldcwI (pc' := 23) X0 hx hZ hown (own_w13 hw) (hb hby own_d3_20) rfl ?_
    refine own_icmpNo (pc' := 26) X0 hx (hb hby own_d3_23) rfl (tlt (by decide)).2.2.2 ?_
    refine own_iinc (pc' := 29) (z := (17 : Int32)) (l' := #[.val (.int (33554431 : Int32)), .val (.int (17 : Int32))]) X0 hx (hb hby own_d3_26) rfl rfl (by decide) rfl ?_
    refine own_iloadN (pc' := 30) X0 hx (hb hby own_d3_29) rfl rfl ?_
    refine own_bipush (pc' := 32) (z := (16 : Int32)) X0 hx (hb hby own_d3_30) rfl rfl ?_
    refine own_iushr (pc' := 33) (z := (511 : Int32)) X0 hx (hb hby own_d3_32) rfl (by decide) ?_
    refine own_istoreN (pc' := 34) (l' := #[.val (.int (511 : Int32)), .val (.int (17 : Int32))]) X0 hx (hb hby own_d3_33) rfl rfl ?_
    refine own_iloadN (pc' := 35) X0 hx (hb hby own_d3_34) rfl rfl ?_
    refine own_sipush (pc' := 38) (z := (256 : Int32)) X0 hx (hb hby own_d3_35) rfl rfl ?_
    refine own_icmpNo (pc' := 41) X0 hx (hb hby own_d3_38) rfl (tlt (by decide)).2.2.2 ?_
    refine own_iinc (pc' := 44) (z := (25 : Int32)) (l' := #[.val (.int (511 : Int32)), .val (.int (25 : Int32))]) X0 hx (hb hby own_d3_41) rfl rfl (by decide) rfl ?_
    refine own_iloadN (pc' := 45) X0 hx (hb hby own_d3_44) rfl rfl ?_
    refine own_bipush (pc' := 47) (z := (8 : Int32)) X0 hx (hb hby own_d3_45) rfl rfl ?_
    refine own_iushr (pc' := 48) (z := (1 : Int32)) X0 hx (hb hby own_d3_47) rfl (by decide) ?_
    refine own_istoreN (pc' := 49) (l' := #[.val (.int (1 : Int32)), .val (.int (25 : Int32))]) X0 hx (hb hby own_d3_48) rfl rfl ?_
    refine own_iloadN (pc' := 50) X0 hx (hb hby own_d3_49) rfl rfl ?_
    refine own_bipush (pc' := 52) (z := (16 : Int32)) X0 hx (hb hby own_d3_50) rfl rfl ?_
    refine own_icmpYes (pc' := 62) X0 hx (hb hby own_d3_52) (flt (by decide)).2.2.2 (by decide) (by decide) ?_
    refine own_iloadN (pc' := 63) X0 hx (hb hby own_d3_62) rfl rfl ?_
    refine own_iconst (pc' := 64) (z := (4 : Int32)) X0 hx (hb hby own_d3_63) rfl rfl ?_
    refine own_icmpYes (pc' := 74) X0 hx (hb hby own_d3_64) (flt (by decide)).2.2.2 (by decide) (by decide) ?_
    refine own_iloadN (pc' := 75) X0 hx (hb hby own_d3_74) rfl rfl ?_
    refine own_iloadN (pc' := 76) X0 hx (hb hby own_d3_75) rfl rfl ?_
    refine own_iconst (pc' := 77) (z := (1 : Int32)) X0 hx (hb hby own_d3_76) rfl rfl ?_
    refine own_iushr (pc' := 78) (z := (0 : Int32)) X0 hx (hb hby own_d3_77) rfl (by decide) ?_
    refine own_iadd (pc' := 79) (z := (25 : Int32)) X0 hx (hb hby own_d3_78) rfl (by decide) ?_
    refine own_retI X0 hx hlk hret (hb hby own_d3_79) (by decide) (by decide) ?_
    exact ⟨25, rfl, N0, e0, q⟩
  · refine own_istoreN (pc' := 8) (l' := #[.val (.int (67108863 : Int32)), .unset]) X0 hx (hb hby own_d3_7) rfl rfl ?_
    refine own_iloadN (pc' := 9) X0 hx (hb hby own_d3_8) rfl rfl ?_
    refine own_ifYes (pc' := 17) X0 hx (hb hby own_d3_9) (tlt (by decide)).2.2.1 (by decide) (by decide) ?_
    refine own_iconst (pc' := 18) (z := (1 : Int32)) X0 hx (hb hby own_d3_17) rfl rfl ?_
    refine own_istoreN (pc' := 19) (l' := #[.val (.int (67108863 : Int32)), .val (.int (1 : Int32))]) X0 hx (hb hby own_d3_18) rfl rfl ?_
    refine own_iloadN (pc' := 20) X0 hx (hb hby own_d3_19) rfl rfl ?_
    refine own_ldcwI (pc' := 23) X0 hx hZ hown (own_w13 hw) (hb hby own_d3_20) rfl ?_
    refine own_icmpNo (pc' := 26) X0 hx (hb hby own_d3_23) rfl (tlt (by decide)).2.2.2 ?_
    refine own_iinc (pc' := 29) (z := (17 : Int32)) (l' := #[.val (.int (67108863 : Int32)), .val (.int (17 : Int32))]) X0 hx (hb hby own_d3_26) rfl rfl (by decide) rfl ?_
    refine own_iloadN (pc' := 30) X0 hx (hb hby own_d3_29) rfl rfl ?_
    refine own_bipush (pc' := 32) (z := (16 : Int32)) X0 hx (hb hby own_d3_30) rfl rfl ?_
    refine own_iushr (pc' := 33) (z := (1023 : Int32)) X0 hx (hb hby own_d3_32) rfl (by decide) ?_
    refine own_istoreN (pc' := 34) (l' := #[.val (.int (1023 : Int32)), .val (.int (17 : Int32))]) X0 hx (hb hby own_d3_33) rfl rfl ?_
    refine own_iloadN (pc' := 35) X0 hx (hb hby own_d3_34) rfl rfl ?_
    refine own_sipush (pc' := 38) (z := (256 : Int32)) X0 hx (hb hby own_d3_35) rfl rfl ?_
    refine own_icmpNo (pc' := 41) X0 hx (hb hby own_d3_38) rfl (tlt (by decide)).2.2.2 ?_
    refine own_iinc (pc' := 44) (z := (25 : Int32)) (l' := #[.val (.int (1023 : Int32)), .val (.int (25 : Int32))]) X0 hx (hb hby own_d3_41) rfl rfl (by decide) rfl ?_
    refine own_iloadN (pc' := 45) X0 hx (hb hby own_d3_44) rfl rfl ?_
    refine own_bipush (pc' := 47) (z := (8 : Int32)) X0 hx (hb hby own_d3_45) rfl rfl ?_
    refine own_iushr (pc' := 48) (z := (3 : Int32)) X0 hx (hb hby own_d3_47) rfl (by decide) ?_
    refine own_istoreN (pc' := 49) (l' := #[.val (.int (3 : Int32)), .val (.int (25 : Int32))]) X0 hx (hb hby own_d3_48) rfl rfl ?_
    refine own_iloadN (pc' := 50) X0 hx (hb hby own_d3_49) rfl rfl ?_
    refine own_bipush (pc' := 52) (z := (16 : Int32)) X0 hx (hb hby own_d3_50) rfl rfl ?_
    refine own_icmpYes (pc' := 62) X0 hx (hb hby own_d3_52) (flt (by decide)).2.2.2 (by decide) (by decide) ?_
    refine own_iloadN (pc' := 63) X0 hx (hb hby own_d3_62) rfl rfl ?_
    refine own_iconst (pc' := 64) (z := (4 : Int32)) X0 hx (hb hby own_d3_63) rfl rfl ?_
    refine own_icmpYes (pc' := 74) X0 hx (hb hby own_d3_64) (flt (by decide)).2.2.2 (by decide) (by decide) ?_
    refine own_iloadN (pc' := 75) X0 hx (hb hby own_d3_74) rfl rfl ?_
    refine own_iloadN (pc' := 76) X0 hx (hb hby own_d3_75) rfl rfl ?_
    refine own_iconst (pc' := 77) (z := (1 : Int32)) X0 hx (hb hby own_d3_76) rfl rfl ?_
    refine own_iushr (pc' := 78) (z := (1 : Int32)) X0 hx (hb hby own_d3_77) rfl (by decide) ?_
    refine own_iadd (pc' := 79) (z := (26 : Int32)) X0 hx (hb hby own_d3_78) rfl (by decide) ?_
    refine own_retI X0 hx hlk hret (hb hby own_d3_79) (by decide) (by decide) ?_
    exact ⟨26, rfl, N0, e0, q⟩
  · refine own_istoreN (pc' := 8) (l' := #[.val (.int (134217727 : Int32)), .unset]) X0 hx (hb hby own_d3_7) rfl rfl ?_
    refine own_iloadN (pc' := 9) X0 hx (hb hby own_d3_8) rfl rfl ?_
    refine own_ifYes (pc' := 17) X0 hx (hb hby own_d3_9) (tlt (by decide)).2.2.1 (by decide) (by decide) ?_
    refine own_iconst (pc' := 18) (z := (1 : Int32)) X0 hx (hb hby own_d3_17) rfl rfl ?_
    refine own_istoreN (pc' := 19) (l' := #[.val (.int (134217727 : Int32)), .val (.int (1 : Int32))]) X0 hx (hb hby own_d3_18) rfl rfl ?_
    refine own_iloadN (pc' := 20) X0 hx (hb hby own_d3_19) rfl rfl ?_
    refine own_ldcwI (pc' := 23) X0 hx hZ hown (own_w13 hw) (hb hby own_d3_20) rfl ?_
    refine own_icmpNo (pc' := 26) X0 hx (hb hby own_d3_23) rfl (tlt (by decide)).2.2.2 ?_
    refine own_iinc (pc' := 29) (z := (17 : Int32)) (l' := #[.val (.int (134217727 : Int32)), .val (.int (17 : Int32))]) X0 hx (hb hby own_d3_26) rfl rfl (by decide) rfl ?_
    refine own_iloadN (pc' := 30) X0 hx (hb hby own_d3_29) rfl rfl ?_
    refine own_bipush (pc' := 32) (z := (16 : Int32)) X0 hx (hb hby own_d3_30) rfl rfl ?_
    refine own_iushr (pc' := 33) (z := (2047 : Int32)) X0 hx (hb hby own_d3_32) rfl (by decide) ?_
    refine own_istoreN (pc' := 34) (l' := #[.val (.int (2047 : Int32)), .val (.int (17 : Int32))]) X0 hx (hb hby own_d3_33) rfl rfl ?_
    refine own_iloadN (pc' := 35) X0 hx (hb hby own_d3_34) rfl rfl ?_
    refine own_sipush (pc' := 38) (z := (256 : Int32)) X0 hx (hb hby own_d3_35) rfl rfl ?_
    refine own_icmpNo (pc' := 41) X0 hx (hb hby own_d3_38) rfl (tlt (by decide)).2.2.2 ?_
    refine own_iinc (pc' := 44) (z := (25 : Int32)) (l' := #[.val (.int (2047 : Int32)), .val (.int (25 : Int32))]) X0 hx (hb hby own_d3_41) rfl rfl (by decide) rfl ?_
    refine own_iloadN (pc' := 45) X0 hx (hb hby own_d3_44) rfl rfl ?_
    refine own_bipush (pc' := 47) (z := (8 : Int32)) X0 hx (hb hby own_d3_45) rfl rfl ?_
    refine own_iushr (pc' := 48) (z := (7 : Int32)) X0 hx (hb hby own_d3_47) rfl (by decide) ?_
    refine own_istoreN (pc' := 49) (l' := #[.val (.int (7 : Int32)), .val (.int (25 : Int32))]) X0 hx (hb hby own_d3_48) rfl rfl ?_
    refine own_iloadN (pc' := 50) X0 hx (hb hby own_d3_49) rfl rfl ?_
    refine own_bipush (pc' := 52) (z := (16 : Int32)) X0 hx (hb hby own_d3_50) rfl rfl ?_
    refine own_icmpYes (pc' := 62) X0 hx (hb hby own_d3_52) (flt (by decide)).2.2.2 (by decide) (by decide) ?_
    refine own_iloadN (pc' := 63) X0 hx (hb hby own_d3_62) rfl rfl ?_
    refine own_iconst (pc' := 64) (z := (4 : Int32)) X0 hx (hb hby own_d3_63) rfl rfl ?_
    refine own_icmpNo (pc' := 67) X0 hx (hb hby own_d3_64) rfl (tlt (by decide)).2.2.2 ?_
    refine own_iinc (pc' := 70) (z := (27 : Int32)) (l' := #[.val (.int (7 : Int32)), .val (.int (27 : Int32))]) X0 hx (hb hby own_d3_67) rfl rfl (by decide) rfl ?_
    refine own_iloadN (pc' := 71) X0 hx (hb hby own_d3_70) rfl rfl ?_
    refine own_iconst (pc' := 72) (z := (2 : Int32)) X0 hx (hb hby own_d3_71) rfl rfl ?_
    refine own_iushr (pc' := 73) (z := (1 : Int32)) X0 hx (hb hby own_d3_72) rfl (by decide) ?_
    refine own_istoreN (pc' := 74) (l' := #[.val (.int (1 : Int32)), .val (.int (27 : Int32))]) X0 hx (hb hby own_d3_73) rfl rfl ?_
    refine own_iloadN (pc' := 75) X0 hx (hb hby own_d3_74) rfl rfl ?_
    refine own_iloadN (pc' := 76) X0 hx (hb hby own_d3_75) rfl rfl ?_
    refine own_iconst (pc' := 77) (z := (1 : Int32)) X0 hx (hb hby own_d3_76) rfl rfl ?_
    refine own_iushr (pc' := 78) (z := (0 : Int32)) X0 hx (hb hby own_d3_77) rfl (by decide) ?_
    refine own_iadd (pc' := 79) (z := (27 : Int32)) X0 hx (hb hby own_d3_78) rfl (by decide) ?_
    refine own_retI X0 hx hlk hret (hb hby own_d3_79) (by decide) (by decide) ?_
    exact ⟨27, rfl, N0, e0, q⟩
  · refine own_istoreN (pc' := 8) (l' := #[.val (.int (268435455 : Int32)), .unset]) X0 hx (hb hby own_d3_7) rfl rfl ?_
    refine own_iloadN (pc' := 9) X0 hx (hb hby own_d3_8) rfl rfl ?_
    refine own_ifYes (pc' := 17) X0 hx (hb hby own_d3_9) (tlt (by decide)).2.2.1 (by decide) (by decide) ?_
    refine own_iconst (pc' := 18) (z := (1 : Int32)) X0 hx (hb hby own_d3_17) rfl rfl ?_
    refine own_istoreN (pc' := 19) (l' := #[.val (.int (268435455 : Int32)), .val (.int (1 : Int32))]) X0 hx (hb hby own_d3_18) rfl rfl ?_
    refine own_iloadN (pc' := 20) X0 hx (hb hby own_d3_19) rfl rfl ?_
    refine own_ldcwI (pc' := 23) X0 hx hZ hown (own_w13 hw) (hb hby own_d3_20) rfl ?_
    refine own_icmpNo (pc' := 26) X0 hx (hb hby own_d3_23) rfl (tlt (by decide)).2.2.2 ?_
    refine own_iinc (pc' := 29) (z := (17 : Int32)) (l' := #[.val (.int (268435455 : Int32)), .val (.int (17 : Int32))]) X0 hx (hb hby own_d3_26) rfl rfl (by decide) rfl ?_
    refine own_iloadN (pc' := 30) X0 hx (hb hby own_d3_29) rfl rfl ?_
    refine own_bipush (pc' := 32) (z := (16 : Int32)) X0 hx (hb hby own_d3_30) rfl rfl ?_
    refine own_iushr (pc' := 33) (z := (4095 : Int32)) X0 hx (hb hby own_d3_32) rfl (by decide) ?_
    refine own_istoreN (pc' := 34) (l' := #[.val (.int (4095 : Int32)), .val (.int (17 : Int32))]) X0 hx (hb hby own_d3_33) rfl rfl ?_
    refine own_iloadN (pc' := 35) X0 hx (hb hby own_d3_34) rfl rfl ?_
    refine own_sipush (pc' := 38) (z := (256 : Int32)) X0 hx (hb hby own_d3_35) rfl rfl ?_
    refine own_icmpNo (pc' := 41) X0 hx (hb hby own_d3_38) rfl (tlt (by decide)).2.2.2 ?_
    refine own_iinc (pc' := 44) (z := (25 : Int32)) (l' := #[.val (.int (4095 : Int32)), .val (.int (25 : Int32))]) X0 hx (hb hby own_d3_41) rfl rfl (by decide) rfl ?_
    refine own_iloadN (pc' := 45) X0 hx (hb hby own_d3_44) rfl rfl ?_
    refine own_bipush (pc' := 47) (z := (8 : Int32)) X0 hx (hb hby own_d3_45) rfl rfl ?_
    refine own_iushr (pc' := 48) (z := (15 : Int32)) X0 hx (hb hby own_d3_47) rfl (by decide) ?_
    refine own_istoreN (pc' := 49) (l' := #[.val (.int (15 : Int32)), .val (.int (25 : Int32))]) X0 hx (hb hby own_d3_48) rfl rfl ?_
    refine own_iloadN (pc' := 50) X0 hx (hb hby own_d3_49) rfl rfl ?_
    refine own_bipush (pc' := 52) (z := (16 : Int32)) X0 hx (hb hby own_d3_50) rfl rfl ?_
    refine own_icmpYes (pc' := 62) X0 hx (hb hby own_d3_52) (flt (by decide)).2.2.2 (by decide) (by decide) ?_
    refine own_iloadN (pc' := 63) X0 hx (hb hby own_d3_62) rfl rfl ?_
    refine own_iconst (pc' := 64) (z := (4 : Int32)) X0 hx (hb hby own_d3_63) rfl rfl ?_
    refine own_icmpNo (pc' := 67) X0 hx (hb hby own_d3_64) rfl (tlt (by decide)).2.2.2 ?_
    refine own_iinc (pc' := 70) (z := (27 : Int32)) (l' := #[.val (.int (15 : Int32)), .val (.int (27 : Int32))]) X0 hx (hb hby own_d3_67) rfl rfl (by decide) rfl ?_
    refine own_iloadN (pc' := 71) X0 hx (hb hby own_d3_70) rfl rfl ?_
    refine own_iconst (pc' := 72) (z := (2 : Int32)) X0 hx (hb hby own_d3_71) rfl rfl ?_
    refine own_iushr (pc' := 73) (z := (3 : Int32)) X0 hx (hb hby own_d3_72) rfl (by decide) ?_
    refine own_istoreN (pc' := 74) (l' := #[.val (.int (3 : Int32)), .val (.int (27 : Int32))]) X0 hx (hb hby own_d3_73) rfl rfl ?_
    refine own_iloadN (pc' := 75) X0 hx (hb hby own_d3_74) rfl rfl ?_
    refine own_iloadN (pc' := 76) X0 hx (hb hby own_d3_75) rfl rfl ?_
    refine own_iconst (pc' := 77) (z := (1 : Int32)) X0 hx (hb hby own_d3_76) rfl rfl ?_
    refine own_iushr (pc' := 78) (z := (1 : Int32)) X0 hx (hb hby own_d3_77) rfl (by decide) ?_
    refine own_iadd (pc' := 79) (z := (28 : Int32)) X0 hx (hb hby own_d3_78) rfl (by decide) ?_
    refine own_retI X0 hx hlk hret (hb hby own_d3_79) (by decide) (by decide) ?_
    exact ⟨28, rfl, N0, e0, q⟩
  · refine own_istoreN (pc' := 8) (l' := #[.val (.int (536870911 : Int32)), .unset]) X0 hx (hb hby own_d3_7) rfl rfl ?_
    refine own_iloadN (pc' := 9) X0 hx (hb hby own_d3_8) rfl rfl ?_
    refine own_ifYes (pc' := 17) X0 hx (hb hby own_d3_9) (tlt (by decide)).2.2.1 (by decide) (by decide) ?_
    refine own_iconst (pc' := 18) (z := (1 : Int32)) X0 hx (hb hby own_d3_17) rfl rfl ?_
    refine own_istoreN (pc' := 19) (l' := #[.val (.int (536870911 : Int32)), .val (.int (1 : Int32))]) X0 hx (hb hby own_d3_18) rfl rfl ?_
    refine own_iloadN (pc' := 20) X0 hx (hb hby own_d3_19) rfl rfl ?_
    refine own_ldcwI (pc' := 23) X0 hx hZ hown (own_w13 hw) (hb hby own_d3_20) rfl ?_
    refine own_icmpNo (pc' := 26) X0 hx (hb hby own_d3_23) rfl (tlt (by decide)).2.2.2 ?_
    refine own_iinc (pc' := 29) (z := (17 : Int32)) (l' := #[.val (.int (536870911 : Int32)), .val (.int (17 : Int32))]) X0 hx (hb hby own_d3_26) rfl rfl (by decide) rfl ?_
    refine own_iloadN (pc' := 30) X0 hx (hb hby own_d3_29) rfl rfl ?_
    refine own_bipush (pc' := 32) (z := (16 : Int32)) X0 hx (hb hby own_d3_30) rfl rfl ?_
    refine own_iushr (pc' := 33) (z := (8191 : Int32)) X0 hx (hb hby own_d3_32) rfl (by decide) ?_
    refine own_istoreN (pc' := 34) (l' := #[.val (.int (8191 : Int32)), .val (.int (17 : Int32))]) X0 hx (hb hby own_d3_33) rfl rfl ?_
    refine own_iloadN (pc' := 35) X0 hx (hb hby own_d3_34) rfl rfl ?_
    refine own_sipush (pc' := 38) (z := (256 : Int32)) X0 hx (hb hby own_d3_35) rfl rfl ?_
    refine own_icmpNo (pc' := 41) X0 hx (hb hby own_d3_38) rfl (tlt (by decide)).2.2.2 ?_
    refine own_iinc (pc' := 44) (z := (25 : Int32)) (l' := #[.val (.int (8191 : Int32)), .val (.int (25 : Int32))]) X0 hx (hb hby own_d3_41) rfl rfl (by decide) rfl ?_
    refine own_iloadN (pc' := 45) X0 hx (hb hby own_d3_44) rfl rfl ?_
    refine own_bipush (pc' := 47) (z := (8 : Int32)) X0 hx (hb hby own_d3_45) rfl rfl ?_
    refine own_iushr (pc' := 48) (z := (31 : Int32)) X0 hx (hb hby own_d3_47) rfl (by decide) ?_
    refine own_istoreN (pc' := 49) (l' := #[.val (.int (31 : Int32)), .val (.int (25 : Int32))]) X0 hx (hb hby own_d3_48) rfl rfl ?_
    refine own_iloadN (pc' := 50) X0 hx (hb hby own_d3_49) rfl rfl ?_
    refine own_bipush (pc' := 52) (z := (16 : Int32)) X0 hx (hb hby own_d3_50) rfl rfl ?_
    refine own_icmpNo (pc' := 55) X0 hx (hb hby own_d3_52) rfl (tlt (by decide)).2.2.2 ?_
    refine own_iinc (pc' := 58) (z := (29 : Int32)) (l' := #[.val (.int (31 : Int32)), .val (.int (29 : Int32))]) X0 hx (hb hby own_d3_55) rfl rfl (by decide) rfl ?_
    refine own_iloadN (pc' := 59) X0 hx (hb hby own_d3_58) rfl rfl ?_
    refine own_iconst (pc' := 60) (z := (4 : Int32)) X0 hx (hb hby own_d3_59) rfl rfl ?_
    refine own_iushr (pc' := 61) (z := (1 : Int32)) X0 hx (hb hby own_d3_60) rfl (by decide) ?_
    refine own_istoreN (pc' := 62) (l' := #[.val (.int (1 : Int32)), .val (.int (29 : Int32))]) X0 hx (hb hby own_d3_61) rfl rfl ?_
    refine own_iloadN (pc' := 63) X0 hx (hb hby own_d3_62) rfl rfl ?_
    refine own_iconst (pc' := 64) (z := (4 : Int32)) X0 hx (hb hby own_d3_63) rfl rfl ?_
    refine own_icmpYes (pc' := 74) X0 hx (hb hby own_d3_64) (flt (by decide)).2.2.2 (by decide) (by decide) ?_
    refine own_iloadN (pc' := 75) X0 hx (hb hby own_d3_74) rfl rfl ?_
    refine own_iloadN (pc' := 76) X0 hx (hb hby own_d3_75) rfl rfl ?_
    refine own_iconst (pc' := 77) (z := (1 : Int32)) X0 hx (hb hby own_d3_76) rfl rfl ?_
    refine own_iushr (pc' := 78) (z := (0 : Int32)) X0 hx (hb hby own_d3_77) rfl (by decide) ?_
    refine own_iadd (pc' := 79) (z := (29 : Int32)) X0 hx (hb hby own_d3_78) rfl (by decide) ?_
    refine own_retI X0 hx hlk hret (hb hby own_d3_79) (by decide) (by decide) ?_
    exact ⟨29, rfl, N0, e0, q⟩
  · refine own_istoreN (pc' := 8) (l' := #[.val (.int (1073741823 : Int32)), .unset]) X0 hx (hb hby own_d3_7) rfl rfl ?_
    refine own_iloadN (pc' := 9) X0 hx (hb hby own_d3_8) rfl rfl ?_
    refine own_ifYes (pc' := 17) X0 hx (hb hby own_d3_9) (tlt (by decide)).2.2.1 (by decide) (by decide) ?_
    refine own_iconst (pc' := 18) (z := (1 : Int32)) X0 hx (hb hby own_d3_17) rfl rfl ?_
    refine own_istoreN (pc' := 19) (l' := #[.val (.int (1073741823 : Int32)), .val (.int (1 : Int32))]) X0 hx (hb hby own_d3_18) rfl rfl ?_
    refine own_iloadN (pc' := 20) X0 hx (hb hby own_d3_19) rfl rfl ?_
    refine own_ldcwI (pc' := 23) X0 hx hZ hown (own_w13 hw) (hb hby own_d3_20) rfl ?_
    refine own_icmpNo (pc' := 26) X0 hx (hb hby own_d3_23) rfl (tlt (by decide)).2.2.2 ?_
    refine own_iinc (pc' := 29) (z := (17 : Int32)) (l' := #[.val (.int (1073741823 : Int32)), .val (.int (17 : Int32))]) X0 hx (hb hby own_d3_26) rfl rfl (by decide) rfl ?_
    refine own_iloadN (pc' := 30) X0 hx (hb hby own_d3_29) rfl rfl ?_
    refine own_bipush (pc' := 32) (z := (16 : Int32)) X0 hx (hb hby own_d3_30) rfl rfl ?_
    refine own_iushr (pc' := 33) (z := (16383 : Int32)) X0 hx (hb hby own_d3_32) rfl (by decide) ?_
    refine own_istoreN (pc' := 34) (l' := #[.val (.int (16383 : Int32)), .val (.int (17 : Int32))]) X0 hx (hb hby own_d3_33) rfl rfl ?_
    refine own_iloadN (pc' := 35) X0 hx (hb hby own_d3_34) rfl rfl ?_
    refine own_sipush (pc' := 38) (z := (256 : Int32)) X0 hx (hb hby own_d3_35) rfl rfl ?_
    refine own_icmpNo (pc' := 41) X0 hx (hb hby own_d3_38) rfl (tlt (by decide)).2.2.2 ?_
    refine own_iinc (pc' := 44) (z := (25 : Int32)) (l' := #[.val (.int (16383 : Int32)), .val (.int (25 : Int32))]) X0 hx (hb hby own_d3_41) rfl rfl (by decide) rfl ?_
    refine own_iloadN (pc' := 45) X0 hx (hb hby own_d3_44) rfl rfl ?_
    refine own_bipush (pc' := 47) (z := (8 : Int32)) X0 hx (hb hby own_d3_45) rfl rfl ?_
    refine own_iushr (pc' := 48) (z := (63 : Int32)) X0 hx (hb hby own_d3_47) rfl (by decide) ?_
    refine own_istoreN (pc' := 49) (l' := #[.val (.int (63 : Int32)), .val (.int (25 : Int32))]) X0 hx (hb hby own_d3_48) rfl rfl ?_
    refine own_iloadN (pc' := 50) X0 hx (hb hby own_d3_49) rfl rfl ?_
    refine own_bipush (pc' := 52) (z := (16 : Int32)) X0 hx (hb hby own_d3_50) rfl rfl ?_
    refine own_icmpNo (pc' := 55) X0 hx (hb hby own_d3_52) rfl (tlt (by decide)).2.2.2 ?_
    refine own_iinc (pc' := 58) (z := (29 : Int32)) (l' := #[.val (.int (63 : Int32)), .val (.int (29 : Int32))]) X0 hx (hb hby own_d3_55) rfl rfl (by decide) rfl ?_
    refine own_iloadN (pc' := 59) X0 hx (hb hby own_d3_58) rfl rfl ?_
    refine own_iconst (pc' := 60) (z := (4 : Int32)) X0 hx (hb hby own_d3_59) rfl rfl ?_
    refine own_iushr (pc' := 61) (z := (3 : Int32)) X0 hx (hb hby own_d3_60) rfl (by decide) ?_
    refine own_istoreN (pc' := 62) (l' := #[.val (.int (3 : Int32)), .val (.int (29 : Int32))]) X0 hx (hb hby own_d3_61) rfl rfl ?_
    refine own_iloadN (pc' := 63) X0 hx (hb hby own_d3_62) rfl rfl ?_
    refine own_iconst (pc' := 64) (z := (4 : Int32)) X0 hx (hb hby own_d3_63) rfl rfl ?_
    refine own_icmpYes (pc' := 74) X0 hx (hb hby own_d3_64) (flt (by decide)).2.2.2 (by decide) (by decide) ?_
    refine own_iloadN (pc' := 75) X0 hx (hb hby own_d3_74) rfl rfl ?_
    refine own_iloadN (pc' := 76) X0 hx (hb hby own_d3_75) rfl rfl ?_
    refine own_iconst (pc' := 77) (z := (1 : Int32)) X0 hx (hb hby own_d3_76) rfl rfl ?_
    refine own_iushr (pc' := 78) (z := (1 : Int32)) X0 hx (hb hby own_d3_77) rfl (by decide) ?_
    refine own_iadd (pc' := 79) (z := (30 : Int32)) X0 hx (hb hby own_d3_78) rfl (by decide) ?_
    refine own_retI X0 hx hlk hret (hb hby own_d3_79) (by decide) (by decide) ?_
    exact ⟨30, rfl, N0, e0, q⟩
  · refine own_istoreN (pc' := 8) (l' := #[.val (.int (2147483647 : Int32)), .unset]) X0 hx (hb hby own_d3_7) rfl rfl ?_
    refine own_iloadN (pc' := 9) X0 hx (hb hby own_d3_8) rfl rfl ?_
    refine own_ifYes (pc' := 17) X0 hx (hb hby own_d3_9) (tlt (by decide)).2.2.1 (by decide) (by decide) ?_
    refine own_iconst (pc' := 18) (z := (1 : Int32)) X0 hx (hb hby own_d3_17) rfl rfl ?_
    refine own_istoreN (pc' := 19) (l' := #[.val (.int (2147483647 : Int32)), .val (.int (1 : Int32))]) X0 hx (hb hby own_d3_18) rfl rfl ?_
    refine own_iloadN (pc' := 20) X0 hx (hb hby own_d3_19) rfl rfl ?_
    refine own_ldcwI (pc' := 23) X0 hx hZ hown (own_w13 hw) (hb hby own_d3_20) rfl ?_
    refine own_icmpNo (pc' := 26) X0 hx (hb hby own_d3_23) rfl (tlt (by decide)).2.2.2 ?_
    refine own_iinc (pc' := 29) (z := (17 : Int32)) (l' := #[.val (.int (2147483647 : Int32)), .val (.int (17 : Int32))]) X0 hx (hb hby own_d3_26) rfl rfl (by decide) rfl ?_
    refine own_iloadN (pc' := 30) X0 hx (hb hby own_d3_29) rfl rfl ?_
    refine own_bipush (pc' := 32) (z := (16 : Int32)) X0 hx (hb hby own_d3_30) rfl rfl ?_
    refine own_iushr (pc' := 33) (z := (32767 : Int32)) X0 hx (hb hby own_d3_32) rfl (by decide) ?_
    refine own_istoreN (pc' := 34) (l' := #[.val (.int (32767 : Int32)), .val (.int (17 : Int32))]) X0 hx (hb hby own_d3_33) rfl rfl ?_
    refine own_iloadN (pc' := 35) X0 hx (hb hby own_d3_34) rfl rfl ?_
    refine own_sipush (pc' := 38) (z := (256 : Int32)) X0 hx (hb hby own_d3_35) rfl rfl ?_
    refine own_icmpNo (pc' := 41) X0 hx (hb hby own_d3_38) rfl (tlt (by decide)).2.2.2 ?_
    refine own_iinc (pc' := 44) (z := (25 : Int32)) (l' := #[.val (.int (32767 : Int32)), .val (.int (25 : Int32))]) X0 hx (hb hby own_d3_41) rfl rfl (by decide) rfl ?_
    refine own_iloadN (pc' := 45) X0 hx (hb hby own_d3_44) rfl rfl ?_
    refine own_bipush (pc' := 47) (z := (8 : Int32)) X0 hx (hb hby own_d3_45) rfl rfl ?_
    refine own_iushr (pc' := 48) (z := (127 : Int32)) X0 hx (hb hby own_d3_47) rfl (by decide) ?_
    refine own_istoreN (pc' := 49) (l' := #[.val (.int (127 : Int32)), .val (.int (25 : Int32))]) X0 hx (hb hby own_d3_48) rfl rfl ?_
    refine own_iloadN (pc' := 50) X0 hx (hb hby own_d3_49) rfl rfl ?_
    refine own_bipush (pc' := 52) (z := (16 : Int32)) X0 hx (hb hby own_d3_50) rfl rfl ?_
    refine own_icmpNo (pc' := 55) X0 hx (hb hby own_d3_52) rfl (tlt (by decide)).2.2.2 ?_
    refine own_iinc (pc' := 58) (z := (29 : Int32)) (l' := #[.val (.int (127 : Int32)), .val (.int (29 : Int32))]) X0 hx (hb hby own_d3_55) rfl rfl (by decide) rfl ?_
    refine own_iloadN (pc' := 59) X0 hx (hb hby own_d3_58) rfl rfl ?_
    refine own_iconst (pc' := 60) (z := (4 : Int32)) X0 hx (hb hby own_d3_59) rfl rfl ?_
    refine own_iushr (pc' := 61) (z := (7 : Int32)) X0 hx (hb hby own_d3_60) rfl (by decide) ?_
    refine own_istoreN (pc' := 62) (l' := #[.val (.int (7 : Int32)), .val (.int (29 : Int32))]) X0 hx (hb hby own_d3_61) rfl rfl ?_
    refine own_iloadN (pc' := 63) X0 hx (hb hby own_d3_62) rfl rfl ?_
    refine own_iconst (pc' := 64) (z := (4 : Int32)) X0 hx (hb hby own_d3_63) rfl rfl ?_
    refine own_icmpNo (pc' := 67) X0 hx (hb hby own_d3_64) rfl (tlt (by decide)).2.2.2 ?_
    refine own_iinc (pc' := 70) (z := (31 : Int32)) (l' := #[.val (.int (7 : Int32)), .val (.int (31 : Int32))]) X0 hx (hb hby own_d3_67) rfl rfl (by decide) rfl ?_
    refine own_iloadN (pc' := 71) X0 hx (hb hby own_d3_70) rfl rfl ?_
    refine own_iconst (pc' := 72) (z := (2 : Int32)) X0 hx (hb hby own_d3_71) rfl rfl ?_
    refine own_iushr (pc' := 73) (z := (1 : Int32)) X0 hx (hb hby own_d3_72) rfl (by decide) ?_
    refine own_istoreN (pc' := 74) (l' := #[.val (.int (1 : Int32)), .val (.int (31 : Int32))]) X0 hx (hb hby own_d3_73) rfl rfl ?_
    refine own_iloadN (pc' := 75) X0 hx (hb hby own_d3_74) rfl rfl ?_
    refine own_iloadN (pc' := 76) X0 hx (hb hby own_d3_75) rfl rfl ?_
    refine own_iconst (pc' := 77) (z := (1 : Int32)) X0 hx (hb hby own_d3_76) rfl rfl ?_
    refine own_iushr (pc' := 78) (z := (0 : Int32)) X0 hx (hb hby own_d3_77) rfl (by decide) ?_
    refine own_iadd (pc' := 79) (z := (31 : Int32)) X0 hx (hb hby own_d3_78) rfl (by decide) ?_
    refine own_retI X0 hx hlk hret (hb hby own_d3_79) (by decide) (by decide) ?_
    exact ⟨31, rfl, N0, e0, q⟩
  · refine own_istoreN (pc' := 8) (l' := #[.val (.int (-1 : Int32)), .unset]) X0 hx (hb hby own_d3_7) rfl rfl ?_
    refine own_iloadN (pc' := 9) X0 hx (hb hby own_d3_8) rfl rfl ?_
    refine own_ifNo (pc' := 12) X0 hx (hb hby own_d3_9) rfl (flt (by decide)).2.2.1 ?_
    refine own_iloadN (pc' := 13) X0 hx (hb hby own_d3_12) rfl rfl ?_
    refine own_bipush (pc' := 15) (z := (32 : Int32)) X0 hx (hb hby own_d3_13) rfl rfl ?_
    refine own_iand (pc' := 16) (z := (32 : Int32)) X0 hx (hb hby own_d3_15) rfl (by decide) ?_
    refine own_retI X0 hx hlk hret (hb hby own_d3_16) (by decide) (by decide) ?_
    exact ⟨32, rfl, N0, e0, q⟩
def own_room2 : Room := { frames := 1, cells := 0, slots := 0, locals := 14 }
def own_Q2 (Z : State) (q0 : Int64) (h0 : Heap) (n0 : Nat) (v : Option Value) (h : Heap) (L : List Loc) : Prop := ∃ (t : Nat), v = some (.int (Int32.ofNat t)) ∧ Fr n0 L ∧ h = h0 ∧ own_tz64 q0 t
theorem own_ef_rm2 (m : MethodId) (x0 : Int64) : entryFrame m #[(.long x0)] 3 = mkF m 0 #[.val (.long x0), .second, .unset] [] := by first | (simp [entryFrame, mkF, argsToLocals, Value.category]; done) | rfl
set_option maxRecDepth 65536 in
set_option maxHeartbeats 40000000 in
theorem own_rm2 (l : Launch) (Z : State) (a0 : Array Value) (hw : ∀ d ∈ tables_1, d.before a0 Z = true) (ws : List Jvm.Cond) (q0 : Int64) (h0 : Heap) (n0 : Nat) :
    MetFree l (⟨"java/lang/Long", "numberOfTrailingZeros", "(J)I"⟩ : MethodName) (head1 (Jvm.Cond.code (⟨"java/lang/Long", "numberOfTrailingZeros", "(J)I"⟩ : MethodName) jdk_35_method_49_code 3 (some .int) :: ws) own_room2) (fun zz U => zz = #[(.long q0)] ∧ Z.Warmed39 U.vm ∧ U.heap = h0) (fun _ _ _ _ _ => True) (fun _ U o U' => ∃ v L, o = .returned v ∧ own_Q2 Z q0 h0 n0 v U'.heap L ∧ FrameEnd U o U' L own_room2.cells own_room2.slots) := by
  refine MetFree.of_bodySF (plainFor_of_name own_pn1) hisR ?_
  intro p e s m args below meth c s₁ Bd hml0 hP hK
  obtain ⟨rfl, hZ, hh⟩ := hP
  have hx := Bd.exec
  have hby := Bd.bytes
  have hml : c.maxLocals = 3 := hml0
  have hown : s.vm.findClass "java/lang/Long" = some m.cls := findClass_of_methodNamed Bd.named
  have hnm := (name_of_methodNamed Bd.named Bd.method).1
  have hlk : meth.locks = false := BodyLoose.notSynchronized Bd
  have hret := Bd.returns
  have X0 : Stand p l e own_room2 s m #[(.long q0)] below meth c s₁ [] 0 0 := Stand.of_body Bd
  have e0 : s₁.heap = h0 := by rw [← hh, Bd.state]; rfl
  have N0 := Fr.nil n0
  show own_Ends p e below s (own_Q2 Z q0 h0 n0) own_room2.cells own_room2.slots s₁ (entryFrame m #[(.long q0)] 3)
  refine own_cast (own_ef_rm2 m q0) ?_
  refine own_lloadN (pc' := 1) X0 hx (hb hby own_d2_0) rfl rfl ?_
  refine own_l2i (pc' := 2) (z := q0.toInt32) X0 hx (hb hby own_d2_1) rfl rfl ?_
  refine own_istoreN (pc' := 3) (l' := #[.val (.long q0), .second, .val (.int q0.toInt32)]) X0 hx (hb hby own_d2_2) rfl rfl ?_
  refine own_iloadN (pc' := 4) X0 hx (hb hby own_d2_3) rfl rfl ?_
  by_cases hc4_31 : q0.toInt32 = (0 : Int32)
  · refine own_ifNo (pc' := 7) X0 hx (hb hby own_d2_4) rfl (teq hc4_31).2 ?_
    refine own_bipush (pc' := 9) (z := (32 : Int32)) X0 hx (hb hby own_d2_7) rfl rfl ?_
    refine own_lloadN (pc' := 10) X0 hx (hb hby own_d2_9) rfl rfl ?_
    refine own_bipush (pc' := 12) (z := (32 : Int32)) X0 hx (hb hby own_d2_10) rfl rfl ?_
    refine own_lushr (pc' := 13) (z := (own_ushrL q0 (32 : Int32))) X0 hx (hb hby own_d2_12) rfl rfl ?_
    refine own_l2i (pc' := 14) (z := (own_ushrL q0 (32 : Int32)).toInt32) X0 hx (hb hby own_d2_13) rfl rfl ?_
    refine own_callS (pc' := 17) (y := (⟨"java/lang/Integer", "numberOfTrailingZeros", "(I)I"⟩ : MethodName)) (W := 1) (rm := own_room3) (argsL := [(.int (own_ushrL q0 (32 : Int32)).toInt32)]) (rest := [(.int (32 : Int32))]) X0 hx hZ e0 hown (by rw [hml]; rfl) (own_w9 hw) (own_w10 hw) (own_w11 hw) (own_w12 hw) (by decide) (own_rm3 l Z a0 hw [] (own_ushrL q0 (32 : Int32)).toInt32 h0 n0) (by decide) (by decide) (by decide) (by decide) (lenOf own_pd0 rfl) rfl (by exact Nat.le_of_eq rfl) (hb hby own_d2_14) rfl ?_
    intro T32 Lc32 v32 X32 hQ32
    obtain ⟨t32, rfl, Nq32, Kq32, G32_0⟩ := hQ32
    have N32 := Fr.app N0 Nq32
    show own_Ends p e below s _ _ _ T32 (mkF m 17 #[.val (.long q0), .second, .val (.int q0.toInt32)] [(.int (Int32.ofNat t32)), (.int (32 : Int32))])
    refine own_iadd (pc' := 18) (z := ((32 : Int32) + (Int32.ofNat t32))) X32 hx (hb hby own_d2_17) rfl rfl ?_
    refine own_goto (pc' := 25) X32 hx (hb hby own_d2_18) (by decide) (by decide) ?_
    refine own_retI X32 hx hlk hret (hb hby own_d2_25) (by decide) (by decide) ?_
    exact ⟨32 + t32, own_some (own_add32 _), N32, Kq32, own_tzH hc4_31 G32_0⟩
  · refine own_ifYes (pc' := 21) X0 hx (hb hby own_d2_4) (feq hc4_31).2 (by decide) (by decide) ?_
    refine own_iloadN (pc' := 22) X0 hx (hb hby own_d2_21) rfl rfl ?_
    refine own_callS (pc' := 25) (y := (⟨"java/lang/Integer", "numberOfTrailingZeros", "(I)I"⟩ : MethodName)) (W := 0) (rm := own_room3) (argsL := [(.int q0.toInt32)]) (rest := []) X0 hx hZ e0 hown (by rw [hml]; rfl) (own_w9 hw) (own_w10 hw) (own_w11 hw) (own_w12 hw) (by decide) (own_rm3 l Z a0 hw [] q0.toInt32 h0 n0) (by decide) (by decide) (by decide) (by decide) (lenOf own_pd0 rfl) rfl (by exact Nat.le_of_eq rfl) (hb hby own_d2_22) rfl ?_
    intro T33 Lc33 v33 X33 hQ33
    obtain ⟨t33, rfl, Nq33, Kq33, G33_0⟩ := hQ33
    have N33 := Fr.app N0 Nq33
    show own_Ends p e below s _ _ _ T33 (mkF m 25 #[.val (.long q0), .second, .val (.int q0.toInt32)] [(.int (Int32.ofNat t33))])
    refine own_retI X33 hx hlk hret (hb hby own_d2_25) (by decide) (by decide) ?_
    exact ⟨t33, rfl, N33, Kq33, own_tzL G33_0 hc4_31⟩
def own_room1 : Room := { frames := 2, cells := 0, slots := 0, locals := 30 }
def own_Q1 (Z : State) (q0 : Int64) (q1 : Int64) (h0 : Heap) (n0 : Nat) (v : Option Value) (h : Heap) (L : List Loc) : Prop := ∃ (r : Int64), v = some (.long r) ∧ Fr n0 L ∧ h = h0 ∧ own_N r = (own_N q0).gcd (own_N q1)
theorem own_ef_rm1 (m : MethodId) (x0 : Int64) (x1 : Int64) : entryFrame m #[(.long x0), (.long x1)] 11 = mkF m 0 #[.val (.long x0), .second, .val (.long x1), .second, .unset, .unset, .unset, .unset, .unset, .unset, .unset] [] := by first | (simp [entryFrame, mkF, argsToLocals, Value.category]; done) | rfl
set_option maxRecDepth 65536 in
set_option maxHeartbeats 40000000 in
theorem own_rm1 (l : Launch) (Z : State) (a0 : Array Value) (hw : ∀ d ∈ tables_1, d.before a0 Z = true) (ws : List Jvm.Cond) (q0 : Int64) (q1 : Int64) (h0 : Heap) (n0 : Nat) (ha : 0 ≤ q0.toInt) (hbq : 0 ≤ q1.toInt) :
    MetFree l (⟨"com/example/evenhand/evenhand/rounding/WholeNumbers", "gcd", "(JJ)J"⟩ : MethodName) (head1 (Jvm.Cond.code (⟨"com/example/evenhand/evenhand/rounding/WholeNumbers", "gcd", "(JJ)J"⟩ : MethodName) prog_69_method_2_code 11 (some .long) :: ws) own_room1) (fun zz U => zz = #[(.long q0), (.long q1)] ∧ Z.Warmed39 U.vm ∧ U.heap = h0) (fun _ _ _ _ _ => True) (fun _ U o U' => ∃ v L, o = .returned v ∧ own_Q1 Z q0 q1 h0 n0 v U'.heap L ∧ FrameEnd U o U' L own_room1.cells own_room1.slots) := by
  refine MetFree.of_bodySF (plainFor_of_name own_pn2) hisR ?_
  intro p e s m args below meth c s₁ Bd hml0 hP hK
  obtain ⟨rfl, hZ, hh⟩ := hP
  have hx := Bd.exec
  have hby := Bd.bytes
  have hml : c.maxLocals = 11 := hml0
  have hown : s.vm.findClass "com/example/evenhand/evenhand/rounding/WholeNumbers" = some m.cls := findClass_of_methodNamed Bd.named
  have hnm := (name_of_methodNamed Bd.named Bd.method).1
  have hlk : meth.locks = false := BodyLoose.notSynchronized Bd
  have hret := Bd.returns
  have X0 : Stand p l e own_room1 s m #[(.long q0), (.long q1)] below meth c s₁ [] 0 0 := Stand.of_body Bd
  have e0 : s₁.heap = h0 := by rw [← hh, Bd.state]; rfl
  have N0 := Fr.nil n0
  show own_Ends p e below s (own_Q1 Z q0 q1 h0 n0) own_room1.cells own_room1.slots s₁ (entryFrame m #[(.long q0), (.long q1)] 11)
  refine own_cast (own_ef_rm1 m q0 q1) ?_
  refine own_lloadN (pc' := 1) X0 hx (hb hby own_d1_0) rfl rfl ?_
  refine own_lloadN (pc' := 2) X0 hx (hb hby own_d1_1) rfl rfl ?_
  refine own_lor (pc' := 3) (z := (q0 ||| q1)) X0 hx (hb hby own_d1_2) rfl rfl ?_
  refine own_lconst (pc' := 4) (z := (0 : Int64)) X0 hx (hb hby own_d1_3) rfl rfl ?_
  refine own_lcmp (pc' := 5) (z := (lcmpW (q0 ||| q1) (0 : Int64))) X0 hx (hb hby own_d1_4) rfl rfl ?_
  refine own_ifYes (pc' := 23) X0 hx (hb hby own_d1_5) (flt (fun q => (own_orn ha hbq) ((lw_lt _ _).mp q))).2.1 (by decide) (by decide) ?_
  refine own_lloadN (pc' := 24) X0 hx (hb hby own_d1_23) rfl rfl ?_
  refine own_lconst (pc' := 25) (z := (0 : Int64)) X0 hx (hb hby own_d1_24) rfl rfl ?_
  refine own_lcmp (pc' := 26) (z := (lcmpW q0 (0 : Int64))) X0 hx (hb hby own_d1_25) rfl rfl ?_
  by_cases hc26_31 : q0 = (0 : Int64)
  · refine own_ifYes (pc' := 35) X0 hx (hb hby own_d1_26) (teq ((lw_eq _ _).mpr hc26_31)).1 (by decide) (by decide) ?_
    refine own_lloadN (pc' := 36) X0 hx (hb hby own_d1_35) rfl rfl ?_
    refine own_lloadN (pc' := 37) X0 hx (hb hby own_d1_36) rfl rfl ?_
    refine own_lor (pc' := 38) (z := (q0 ||| q1)) X0 hx (hb hby own_d1_37) rfl rfl ?_
    refine own_retL X0 hx hlk hret (hb hby own_d1_38) (by decide) (by decide) ?_
    exact ⟨_, rfl, N0, e0, own_g0 (Or.inl hc26_31)⟩
  · refine own_ifNo (pc' := 29) X0 hx (hb hby own_d1_26) rfl (feq (fun q => hc26_31 ((lw_eq _ _).mp q))).1 ?_
    refine own_lloadN (pc' := 30) X0 hx (hb hby own_d1_29) rfl rfl ?_
    refine own_lconst (pc' := 31) (z := (0 : Int64)) X0 hx (hb hby own_d1_30) rfl rfl ?_
    refine own_lcmp (pc' := 32) (z := (lcmpW q1 (0 : Int64))) X0 hx (hb hby own_d1_31) rfl rfl ?_
    by_cases hc32_32 : q1 = (0 : Int64)
    · refine own_ifNo (pc' := 35) X0 hx (hb hby own_d1_32) rfl (teq ((lw_eq _ _).mpr hc32_32)).2 ?_
      refine own_lloadN (pc' := 36) X0 hx (hb hby own_d1_35) rfl rfl ?_
      refine own_lloadN (pc' := 37) X0 hx (hb hby own_d1_36) rfl rfl ?_
      refine own_lor (pc' := 38) (z := (q0 ||| q1)) X0 hx (hb hby own_d1_37) rfl rfl ?_
      refine own_retL X0 hx hlk hret (hb hby own_d1_38) (by decide) (by decide) ?_
      exact ⟨_, rfl, N0, e0, own_g0 (Or.inr hc32_32)⟩
    · refine own_ifYes (pc' := 39) X0 hx (hb hby own_d1_32) (feq (fun q => hc32_32 ((lw_eq _ _).mp q))).2 (by decide) (by decide) ?_
      refine own_lloadN (pc' := 40) X0 hx (hb hby own_d1_39) rfl rfl ?_
      refine own_lloadN (pc' := 41) X0 hx (hb hby own_d1_40) rfl rfl ?_
      refine own_lor (pc' := 42) (z := (q0 ||| q1)) X0 hx (hb hby own_d1_41) rfl rfl ?_
      refine own_callS (pc' := 45) (y := (⟨"java/lang/Long", "numberOfTrailingZeros", "(J)I"⟩ : MethodName)) (W := 0) (rm := own_room2) (argsL := [(.long (q0 ||| q1))]) (rest := []) X0 hx hZ e0 hown (by rw [hml]; rfl) (own_w5 hw) (own_w6 hw) (own_w7 hw) (own_w8 hw) (by decide) (own_rm2 l Z a0 hw [] (q0 ||| q1) h0 n0) (by decide) (by decide) (by decide) (by decide) (lenOf own_pd1 rfl) rfl (by exact Nat.le_of_eq rfl) (hb hby own_d1_42) rfl ?_
      intro T33 Lc33 v33 X33 hQ33
      obtain ⟨t33, rfl, Nq33, Kq33, G33_0⟩ := hQ33
      have N33 := Fr.app N0 Nq33
      show own_Ends p e below s _ _ _ T33 (mkF m 45 #[.val (.long q0), .second, .val (.long q1), .second, .unset, .unset, .unset, .unset, .unset, .unset, .unset] [(.int (Int32.ofNat t33))])
      refine own_istore (pc' := 47) (l' := #[.val (.long q0), .second, .val (.long q1), .second, .val (.int (Int32.ofNat t33)), .unset, .unset, .unset, .unset, .unset, .unset]) X33 hx (hb hby own_d1_45) rfl rfl ?_
      refine own_lloadN (pc' := 48) X33 hx (hb hby own_d1_47) rfl rfl ?_
      refine own_lloadN (pc' := 49) X33 hx (hb hby own_d1_48) rfl rfl ?_
      refine own_callS (pc' := 52) (y := (⟨"java/lang/Long", "numberOfTrailingZeros", "(J)I"⟩ : MethodName)) (W := 2) (rm := own_room2) (argsL := [(.long q0)]) (rest := [(.long q0)]) X33 hx hZ Kq33 hown (by rw [hml]; rfl) (own_w5 hw) (own_w6 hw) (own_w7 hw) (own_w8 hw) (by decide) (own_rm2 l Z a0 hw [] q0 h0 n0) (by decide) (by decide) (by decide) (by decide) (lenOf own_pd1 rfl) rfl (by exact Nat.le_of_eq rfl) (hb hby own_d1_49) rfl ?_
      intro T34 Lc34 v34 X34 hQ34
      obtain ⟨t34, rfl, Nq34, Kq34, G34_0⟩ := hQ34
      have N34 := Fr.app N33 Nq34
      show own_Ends p e below s _ _ _ T34 (mkF m 52 #[.val (.long q0), .second, .val (.long q1), .second, .val (.int (Int32.ofNat t33)), .unset, .unset, .unset, .unset, .unset, .unset] [(.int (Int32.ofNat t34)), (.long q0)])
      obtain ⟨u35, hu35⟩ : ∃ z, (own_ushrL q0 (Int32.ofNat t34)) = z := ⟨_, rfl⟩
      refine own_lushr (pc' := 53) (z := u35) X34 hx (hb hby own_d1_52) rfl hu35 ?_
      refine own_lstore (pc' := 55) (l' := #[.val (.long q0), .second, .val (.long q1), .second, .val (.int (Int32.ofNat t33)), .val (.long u35), .second, .unset, .unset, .unset, .unset]) X34 hx (hb hby own_d1_53) rfl rfl ?_
      refine own_lloadN (pc' := 56) X34 hx (hb hby own_d1_55) rfl rfl ?_
      refine own_lstore (pc' := 58) (l' := #[.val (.long q0), .second, .val (.long q1), .second, .val (.int (Int32.ofNat t33)), .val (.long u35), .second, .val (.long q1), .second, .unset, .unset]) X34 hx (hb hby own_d1_56) rfl rfl ?_
      obtain ⟨ta64, mo, hA⟩ := own_tzne G34_0 hc26_31
      have hu0 : own_N u35 = 2 * mo + 1 := by rw [← hu35, own_Nsh _ ta64, (own_divp hA).1]
      have hu63 : own_N u35 < 2 ^ 63 := by have := (own_divp hA).2; have := own_63 ha; omega
      obtain ⟨G, hG0⟩ : ∃ z, z = (own_N u35).gcd (own_N q1) := ⟨_, rfl⟩
      have loop : ∀ (n : Nat) (u v : Int64) (s9 s10 : Slot) (TL : State) (Lo : List Loc), Stand p l e own_room1 s m #[(.long q0), (.long q1)] below meth c TL Lo 0 0 → TL.heap = h0 → Fr n0 Lo → own_two s9 s10 → own_N u % 2 = 1 → own_N u < 2 ^ 63 → own_N v < 2 ^ 63 → (own_N u).gcd (own_N v) = G → own_N u + own_N v ≤ n → own_Ends p e below s (own_Q1 Z q0 q1 h0 n0) own_room1.cells own_room1.slots TL (mkF m 58 #[.val (.long q0), .second, .val (.long q1), .second, .val (.int (Int32.ofNat t33)), .val (.long u), .second, .val (.long v), .second, s9, s10] []) := by
        intro n
        induction n with
        | zero => intro u v s9 s10 TL Lo XL eL NL hs hodd hu hv hG hn; exfalso; omega
        | succ n ih =>
          intro u v s9 s10 TL Lo XL eL NL hs hodd hu hv hG hn
          refine own_lload (pc' := 60) XL hx (hb hby own_d1_58) rfl rfl ?_
          refine own_lconst (pc' := 61) (z := (0 : Int64)) XL hx (hb hby own_d1_60) rfl rfl ?_
          refine own_lcmp (pc' := 62) (z := (lcmpW v (0 : Int64))) XL hx (hb hby own_d1_61) rfl rfl ?_
          by_cases hc62_36 : v = (0 : Int64)
          · refine own_ifYes (pc' := 105) XL hx (hb hby own_d1_62) (teq ((lw_eq _ _).mpr hc62_36)).1 (by decide) (by decide) ?_
            refine own_lload (pc' := 107) XL hx (hb hby own_d1_105) rfl rfl ?_
            refine own_iload (pc' := 109) XL hx (hb hby own_d1_107) rfl rfl ?_
            refine own_lshl (pc' := 110) (z := (u <<< ((Int32.ofNat t33) &&& 0x3f).toInt64)) XL hx (hb hby own_d1_109) rfl rfl ?_
            refine own_retL XL hx hlk hret (hb hby own_d1_110) (by decide) (by decide) ?_
            have hfin : own_N u = (own_N (own_ushrL q0 (Int32.ofNat t34))).gcd (own_N q1) := by
              rw [hu35, ← hG0, ← hG, hc62_36, show own_N 0 = 0 from rfl, Nat.gcd_zero_right]
            exact ⟨_, rfl, NL, eL, own_fin ha hc26_31 hc32_32 G33_0 G34_0 hfin⟩
          · refine own_ifNo (pc' := 65) XL hx (hb hby own_d1_62) rfl (feq (fun q => hc62_36 ((lw_eq _ _).mp q))).1 ?_
            refine own_lload (pc' := 67) XL hx (hb hby own_d1_65) rfl rfl ?_
            refine own_lload (pc' := 69) XL hx (hb hby own_d1_67) rfl rfl ?_
            refine own_callS (pc' := 72) (y := (⟨"java/lang/Long", "numberOfTrailingZeros", "(J)I"⟩ : MethodName)) (W := 2) (rm := own_room2) (argsL := [(.long v)]) (rest := [(.long v)]) XL hx hZ eL hown (by rw [hml]; rfl) (own_w5 hw) (own_w6 hw) (own_w7 hw) (own_w8 hw) (by decide) (own_rm2 l Z a0 hw [] v h0 n0) (by decide) (by decide) (by decide) (by decide) (lenOf own_pd1 rfl) rfl (by exact Nat.le_of_eq rfl) (hb hby own_d1_69) rfl ?_
            intro T37 Lc37 v37 X37 hQ37
            obtain ⟨t37, rfl, Nq37, Kq37, G37_0⟩ := hQ37
            have N37 := Fr.app NL Nq37
            show own_Ends p e below s _ _ _ T37 (mkF m 72 #[.val (.long q0), .second, .val (.long q1), .second, .val (.int (Int32.ofNat t33)), .val (.long u), .second, .val (.long v), .second, s9, s10] [(.int (Int32.ofNat t37)), (.long v)])
            obtain ⟨w38, hw38⟩ : ∃ z, (own_ushrL v (Int32.ofNat t37)) = z := ⟨_, rfl⟩
            refine own_lushr (pc' := 73) (z := w38) X37 hx (hb hby own_d1_72) rfl hw38 ?_
            obtain ⟨tv, mm, hvm⟩ := own_tzne G37_0 hc62_36
            have hv1 : own_N w38 = 2 * mm + 1 := by rw [← hw38, own_Nsh _ tv, (own_divp hvm).1]
            have hv2 := (own_divp hvm).2
            have hlt := own_ltN (a := w38) (b := u) (by omega) hu
            refine own_lstore (pc' := 75) (l' := #[.val (.long q0), .second, .val (.long q1), .second, .val (.int (Int32.ofNat t33)), .val (.long u), .second, .val (.long w38), .second, s9, s10]) X37 hx (hb hby own_d1_73) rfl rfl ?_
            refine own_lload (pc' := 77) X37 hx (hb hby own_d1_75) rfl rfl ?_
            refine own_lload (pc' := 79) X37 hx (hb hby own_d1_77) rfl rfl ?_
            refine own_lcmp (pc' := 80) (z := (lcmpW u w38)) X37 hx (hb hby own_d1_79) rfl rfl ?_
            by_cases hc80_39 : w38 < u
            · refine own_ifNo (pc' := 83) X37 hx (hb hby own_d1_80) rfl (tlt ((lw_gt _ _).mpr hc80_39)).2.2.2 ?_
              refine own_lload (pc' := 85) X37 hx (hb hby own_d1_83) rfl rfl ?_
              have hc := hlt.mp hc80_39
              rcases hs with ⟨rfl, rfl⟩ | ⟨z9, rfl, rfl⟩
              · refine own_lstore (pc' := 87) (l' := #[.val (.long q0), .second, .val (.long q1), .second, .val (.int (Int32.ofNat t33)), .val (.long u), .second, .val (.long w38), .second, .val (.long u), .second]) X37 hx (hb hby own_d1_85) rfl rfl ?_
                refine own_lload (pc' := 89) X37 hx (hb hby own_d1_87) rfl rfl ?_
                refine own_lstore (pc' := 91) (l' := #[.val (.long q0), .second, .val (.long q1), .second, .val (.int (Int32.ofNat t33)), .val (.long w38), .second, .val (.long w38), .second, .val (.long u), .second]) X37 hx (hb hby own_d1_89) rfl rfl ?_
                refine own_lload (pc' := 93) X37 hx (hb hby own_d1_91) rfl rfl ?_
                refine own_lstore (pc' := 95) (l' := #[.val (.long q0), .second, .val (.long q1), .second, .val (.int (Int32.ofNat t33)), .val (.long w38), .second, .val (.long u), .second, .val (.long u), .second]) X37 hx (hb hby own_d1_93) rfl rfl ?_
                refine own_lload (pc' := 97) X37 hx (hb hby own_d1_95) rfl rfl ?_
                refine own_lload (pc' := 99) X37 hx (hb hby own_d1_97) rfl rfl ?_
                refine own_lsub (pc' := 100) (z := (u - w38)) X37 hx (hb hby own_d1_99) rfl rfl ?_
                refine own_lstore (pc' := 102) (l' := #[.val (.long q0), .second, .val (.long q1), .second, .val (.int (Int32.ofNat t33)), .val (.long w38), .second, .val (.long (u - w38)), .second, .val (.long u), .second]) X37 hx (hb hby own_d1_100) rfl rfl ?_
                refine own_goto (pc' := 58) X37 hx (hb hby own_d1_102) (by decide) (by decide) ?_
                have hsb := own_Nsub (a := u) (b := w38) (by omega) (by omega)
                have hg : (own_N w38).gcd (own_N (u - w38)) = G := by
                  rw [hsb, own_gcd_step (by omega), Nat.gcd_comm, ← hG, hvm, own_gcd_pow _ _ hodd, ← hv1]
                exact ih w38 (u - w38) (.val (.long u)) (.second) T37 _ X37 Kq37 N37 (Or.inr ⟨_, rfl, rfl⟩) (by omega) (by omega) (by omega) hg (by omega)
              · refine own_lstore (pc' := 87) (l' := #[.val (.long q0), .second, .val (.long q1), .second, .val (.int (Int32.ofNat t33)), .val (.long u), .second, .val (.long w38), .second, .val (.long u), .second]) X37 hx (hb hby own_d1_85) rfl rfl ?_
                refine own_lload (pc' := 89) X37 hx (hb hby own_d1_87) rfl rfl ?_
                refine own_lstore (pc' := 91) (l' := #[.val (.long q0), .second, .val (.long q1), .second, .val (.int (Int32.ofNat t33)), .val (.long w38), .second, .val (.long w38), .second, .val (.long u), .second]) X37 hx (hb hby own_d1_89) rfl rfl ?_
                refine own_lload (pc' := 93) X37 hx (hb hby own_d1_91) rfl rfl ?_
                refine own_lstore (pc' := 95) (l' := #[.val (.long q0), .second, .val (.long q1), .second, .val (.int (Int32.ofNat t33)), .val (.long w38), .second, .val (.long u), .second, .val (.long u), .second]) X37 hx (hb hby own_d1_93) rfl rfl ?_
                refine own_lload (pc' := 97) X37 hx (hb hby own_d1_95) rfl rfl ?_
                refine own_lload (pc' := 99) X37 hx (hb hby own_d1_97) rfl rfl ?_
                refine own_lsub (pc' := 100) (z := (u - w38)) X37 hx (hb hby own_d1_99) rfl rfl ?_
                refine own_lstore (pc' := 102) (l' := #[.val (.long q0), .second, .val (.long q1), .second, .val (.int (Int32.ofNat t33)), .val (.long w38), .second, .val (.long (u - w38)), .second, .val (.long u), .second]) X37 hx (hb hby own_d1_100) rfl rfl ?_
                refine own_goto (pc' := 58) X37 hx (hb hby own_d1_102) (by decide) (by decide) ?_
                have hsb := own_Nsub (a := u) (b := w38) (by omega) (by omega)
                have hg : (own_N w38).gcd (own_N (u - w38)) = G := by
                  rw [hsb, own_gcd_step (by omega), Nat.gcd_comm, ← hG, hvm, own_gcd_pow _ _ hodd, ← hv1]
                exact ih w38 (u - w38) (.val (.long u)) (.second) T37 _ X37 Kq37 N37 (Or.inr ⟨_, rfl, rfl⟩) (by omega) (by omega) (by omega) hg (by omega)
            · refine own_ifYes (pc' := 95) X37 hx (hb hby own_d1_80) (flt (fun q => hc80_39 ((lw_gt _ _).mp q))).2.2.2 (by decide) (by decide) ?_
              have hc : ¬ own_N w38 < own_N u := fun q => hc80_39 (hlt.mpr q)
              refine own_lload (pc' := 97) X37 hx (hb hby own_d1_95) rfl rfl ?_
              refine own_lload (pc' := 99) X37 hx (hb hby own_d1_97) rfl rfl ?_
              refine own_lsub (pc' := 100) (z := (w38 - u)) X37 hx (hb hby own_d1_99) rfl rfl ?_
              refine own_lstore (pc' := 102) (l' := #[.val (.long q0), .second, .val (.long q1), .second, .val (.int (Int32.ofNat t33)), .val (.long u), .second, .val (.long (w38 - u)), .second, s9, s10]) X37 hx (hb hby own_d1_100) rfl rfl ?_
              refine own_goto (pc' := 58) X37 hx (hb hby own_d1_102) (by decide) (by decide) ?_
              have hsb := own_Nsub (a := w38) (b := u) (by omega) (by omega)
              have hg : (own_N u).gcd (own_N (w38 - u)) = G := by
                rw [hsb, own_gcd_step (by omega), ← hG, hvm, own_gcd_pow _ _ hodd, ← hv1]
              exact ih u (w38 - u) (s9) (s10) T37 _ X37 Kq37 N37 hs (by omega) (by omega) (by omega) hg (by omega)
      exact loop _ u35 q1 _ _ T34 _ X34 Kq34 N34 (Or.inl ⟨rfl, rfl⟩) (by omega) hu63 (own_63 hbq) hG0.symm (Nat.le_refl _)
theorem own_mulnn {d x : Int64} : 0 ≤ ((d &&& (2147483647 : Int64)) * (x &&& (4294967295 : Int64))).toInt := by
  have h1 := c_maskL d 2147483647 31 (by decide) (by decide)
  have h2 := c_maskL x 4294967295 32 (by decide) (by decide)
  have h3 := c_lmul (d &&& 2147483647) (x &&& 4294967295)
  have a1 : 0 ≤ (d &&& 2147483647).toInt ∧ (d &&& 2147483647).toInt ≤ 2147483647 := by omega
  have a2 : 0 ≤ (x &&& 4294967295).toInt ∧ (x &&& 4294967295).toInt ≤ 4294967295 := by omega
  have m := mc a1.1 a1.2 a2.1 a2.2
  have := rng64 ((d &&& 2147483647) * (x &&& 4294967295))
  generalize (d &&& (2147483647 : Int64)).toInt * (x &&& (4294967295 : Int64)).toInt = z at *
  omega
theorem own_mxnn {x : Int64} : 0 ≤ (x &&& (9223372036854775807 : Int64)).toInt := by
  have h2 := c_maskL x 9223372036854775807 63 (by decide) (by decide)
  omega
theorem own_r0 {a b r : Int64} (h : own_N r = (own_N a).gcd (own_N b)) (ha : a = 0) (hbq : b = 0) : r = 0 := by
  rw [← own_N0, h, ha, hbq]; decide
theorem own_Npos {a : Int64} (h : 0 ≤ a.toInt) : own_N a < 2 ^ 63 := own_63 h
theorem own_rpos {a b r : Int64} (h : own_N r = (own_N a).gcd (own_N b)) (ha : 0 ≤ a.toInt) (hbq : 0 ≤ b.toInt) (hz : ¬ (a = 0 ∧ b = 0)) : own_N r < 2 ^ 63 ∧ 0 < own_N r := by
  have h1 := own_63 ha
  have h2 := own_63 hbq
  by_cases q : a = 0
  · have qb : ¬ b = 0 := fun y => hz ⟨q, y⟩
    have pb : 0 < own_N b := Nat.pos_of_ne_zero fun y => qb (own_N0.mp y)
    have := Nat.gcd_le_right (own_N a) pb
    have := Nat.gcd_pos_of_pos_right (own_N a) pb
    omega
  · have pa : 0 < own_N a := Nat.pos_of_ne_zero fun y => q (own_N0.mp y)
    have := Nat.gcd_le_left (own_N b) pa
    have := Nat.gcd_pos_of_pos_left (own_N b) pa
    omega
theorem own_gt0 {r : Int64} (h : own_N r < 2 ^ 63 ∧ 0 < own_N r) : 0 < r := by
  rw [Int64.lt_iff_toInt_lt, own_NI2 h.1]
  have e0 : (0 : Int64).toInt = 0 := rfl
  omega
theorem own_nz {r : Int64} (h : 0 < r) : r ≠ 0 := fun q => by rw [q] at h; exact absurd h (by decide)
theorem own_rem0 {x y : Int64} (hx : 0 ≤ x.toInt) (hy : own_N y < 2 ^ 63) : x - x / y * y = 0 ↔ own_N x % own_N y = 0 := by
  have h1 := (c_lrem x y y.toInt rfl).1 hx
  rw [own_NI2 hy, own_NI hx] at h1
  constructor
  · intro q; rw [q] at h1
    have e0 : (0 : Int64).toInt = 0 := rfl
    rw [e0] at h1
    have : ((own_N x % own_N y : Nat) : Int) = 0 := by rw [Int.natCast_emod]; exact h1.symm
    exact Int.ofNat.inj this
  · intro q
    have : (x - x / y * y).toInt = 0 := by rw [h1, ← Int.natCast_emod, q]; rfl
    exact Int64.toInt_inj.mp this
theorem own_dva {a b r : Int64} (h : own_N r = (own_N a).gcd (own_N b)) : own_N a % own_N r = 0 ∧ own_N b % own_N r = 0 := by
  rw [h]; exact ⟨Nat.mod_eq_zero_of_dvd (Nat.gcd_dvd_left _ _), Nat.mod_eq_zero_of_dvd (Nat.gcd_dvd_right _ _)⟩
theorem own_dvd {a b r : Int64} {d : Nat} (h : own_N r = (own_N a).gcd (own_N b)) (ha : own_N a % d = 0) (hbq : own_N b % d = 0) : own_N r % d = 0 := by
  rw [h]; exact Nat.mod_eq_zero_of_dvd (Nat.dvd_gcd (Nat.dvd_of_mod_eq_zero ha) (Nat.dvd_of_mod_eq_zero hbq))
theorem own_d63 {d : Int64} (h : 0 < d) : own_N d < 2 ^ 63 := own_63 (by rw [Int64.lt_iff_toInt_lt] at h; have e0 : (0 : Int64).toInt = 0 := rfl; omega)
def own_Q0 (Z : State) (q0 : Int64) (q1 : Int64) (q2 : Int64) (p3 : Int32) (h0 : Heap) (n0 : Nat) (v : Option Value) (h : Heap) (L : List Loc) : Prop := v = some (.int 1) ∧ Fr n0 L
theorem own_ef_rm0 (m : MethodId) (x0 : Int64) (x1 : Int64) (x2 : Int64) (x3 : Int32) : entryFrame m #[(.long x0), (.long x1), (.long x2), (.int x3)] maxLocals = mkF m 0 #[.val (.long x0), .second, .val (.long x1), .second, .val (.long x2), .second, .val (.int x3), .unset, .unset, .unset, .unset, .unset, .unset, .unset, .unset] [] := by first | (simp [entryFrame, mkF, argsToLocals, Value.category, maxLocals]; done) | rfl
set_option maxRecDepth 65536 in
set_option maxHeartbeats 40000000 in
theorem own_rm0 (l : Launch) (Z : State) (a0 : Array Value) (hw : ∀ d ∈ tables_1, d.before a0 Z = true) (ws : List Jvm.Cond) (q0 : Int64) (q1 : Int64) (q2 : Int64) (p3 : Int32) (h0 : Heap) (n0 : Nat) (Z0 : n0 ≤ h0.size) :
    MetFree l x (head1 (Jvm.Cond.code x code maxLocals ret :: ws) room_1) (fun zz U => zz = #[(.long q0), (.long q1), (.long q2), (.int p3)] ∧ Z.Warmed39 U.vm ∧ U.heap = h0) (fun _ _ _ _ _ => True) (fun _ U o U' => ∃ v L, o = .returned v ∧ own_Q0 Z q0 q1 q2 p3 h0 n0 v U'.heap L ∧ FrameEnd U o U' L 0 0) := by
  refine MetFree.of_bodySF (plainFor_of_name own_pn3) hisR ?_
  intro p e s m args below meth c s₁ Bd hml0 hP hK
  obtain ⟨rfl, hZ, hh⟩ := hP
  have hx := Bd.exec
  have hby := Bd.bytes
  have hml : c.maxLocals = 15 := hml0
  have hown : s.vm.findClass "com/example/evenhand/evenhand/rounding/WholeNumbersGcdPinLaw" = some m.cls := findClass_of_methodNamed Bd.named
  have hnm := (name_of_methodNamed Bd.named Bd.method).1
  have hlk : meth.locks = false := BodyLoose.notSynchronized Bd
  have hret := Bd.returns
  have X0 : Stand p l e room_1 s m #[(.long q0), (.long q1), (.long q2), (.int p3)] below meth c s₁ [] 0 0 := Stand.of_body Bd
  have e0 : s₁.heap = h0 := by rw [← hh, Bd.state]; rfl
  have N0 := Fr.nil n0
  show own_Ends p e below s (own_Q0 Z q0 q1 q2 p3 h0 n0) 0 0 s₁ (entryFrame m #[(.long q0), (.long q1), (.long q2), (.int p3)] maxLocals)
  refine own_cast (own_ef_rm0 m q0 q1 q2 p3) ?_
  refine own_iload (pc' := 2) X0 hx (hb hby at_0) rfl rfl ?_
  refine own_iconst (pc' := 3) (z := (1 : Int32)) X0 hx (hb hby at_2) rfl rfl ?_
  refine own_iand (pc' := 4) (z := (p3 &&& (1 : Int32))) X0 hx (hb hby at_3) rfl rfl ?_
  by_cases hc4_31 : (p3 &&& (1 : Int32)) = (0 : Int32)
  · refine own_ifYes (pc' := 38) X0 hx (hb hby at_4) (teq hc4_31).1 (by decide) (by decide) ?_
    refine own_lload (pc' := 40) X0 hx (hb hby at_38) rfl rfl ?_
    refine own_ldc2J (pc' := 43) X0 hx hZ hown (own_w0 hw) (hb hby at_40) rfl ?_
    obtain ⟨d32, hd32⟩ : ∃ z, (q2 &&& (9223372036854775807 : Int64)) = z := ⟨_, rfl⟩
    refine own_land (pc' := 44) (z := d32) X0 hx (hb hby at_43) rfl hd32 ?_
    refine own_lstore (pc' := 46) (l' := #[.val (.long q0), .second, .val (.long q1), .second, .val (.long q2), .second, .val (.int p3), .unset, .unset, .unset, .unset, .val (.long d32), .second, .unset, .unset]) X0 hx (hb hby at_44) rfl rfl ?_
    refine own_lloadN (pc' := 47) X0 hx (hb hby at_46) rfl rfl ?_
    refine own_ldc2J (pc' := 50) X0 hx hZ hown (own_w0 hw) (hb hby at_47) rfl ?_
    obtain ⟨a33, ha33⟩ : ∃ z, (q0 &&& (9223372036854775807 : Int64)) = z := ⟨_, rfl⟩
    refine own_land (pc' := 51) (z := a33) X0 hx (hb hby at_50) rfl ha33 ?_
    have nn34 : 0 ≤ a33.toInt := by rw [← ha33]; exact own_mxnn
    refine own_lstore (pc' := 53) (l' := #[.val (.long q0), .second, .val (.long q1), .second, .val (.long q2), .second, .val (.int p3), .val (.long a33), .second, .unset, .unset, .val (.long d32), .second, .unset, .unset]) X0 hx (hb hby at_51) rfl rfl ?_
    refine own_lloadN (pc' := 54) X0 hx (hb hby at_53) rfl rfl ?_
    refine own_ldc2J (pc' := 57) X0 hx hZ hown (own_w0 hw) (hb hby at_54) rfl ?_
    obtain ⟨b35, hb35⟩ : ∃ z, (q1 &&& (9223372036854775807 : Int64)) = z := ⟨_, rfl⟩
    refine own_land (pc' := 58) (z := b35) X0 hx (hb hby at_57) rfl hb35 ?_
    have nn36 : 0 ≤ b35.toInt := by rw [← hb35]; exact own_mxnn
    refine own_lstore (pc' := 60) (l' := #[.val (.long q0), .second, .val (.long q1), .second, .val (.long q2), .second, .val (.int p3), .val (.long a33), .second, .val (.long b35), .second, .val (.long d32), .second, .unset, .unset]) X0 hx (hb hby at_58) rfl rfl ?_
    refine own_lload (pc' := 62) X0 hx (hb hby at_60) rfl rfl ?_
    refine own_lload (pc' := 64) X0 hx (hb hby at_62) rfl rfl ?_
    refine own_callS (pc' := 67) (y := (⟨"com/example/evenhand/evenhand/rounding/WholeNumbers", "gcd", "(JJ)J"⟩ : MethodName)) (W := 0) (rm := own_room1) (argsL := [(.long a33), (.long b35)]) (rest := []) X0 hx hZ e0 hown (by rw [hml]; rfl) (own_w1 hw) (own_w2 hw) (own_w3 hw) (own_w4 hw) (by decide) (own_rm1 l Z a0 hw [] a33 b35 h0 n0 nn34 nn36) (by decide) (by decide) (by decide) (by decide) (lenOf own_pd2 rfl) rfl (by exact Nat.le_of_eq rfl) (hb hby at_64) rfl ?_
    intro T37 Lc37 v37 X37 hQ37
    obtain ⟨r37, rfl, Nq37, Kq37, G37_0⟩ := hQ37
    have N37 := Fr.app N0 Nq37
    show own_Ends p e below s _ _ _ T37 (mkF m 67 #[.val (.long q0), .second, .val (.long q1), .second, .val (.long q2), .second, .val (.int p3), .val (.long a33), .second, .val (.long b35), .second, .val (.long d32), .second, .unset, .unset] [(.long r37)])
    refine own_lstore (pc' := 69) (l' := #[.val (.long q0), .second, .val (.long q1), .second, .val (.long q2), .second, .val (.int p3), .val (.long a33), .second, .val (.long b35), .second, .val (.long d32), .second, .val (.long r37), .second]) X37 hx (hb hby at_67) rfl rfl ?_
    refine own_lload (pc' := 71) X37 hx (hb hby at_69) rfl rfl ?_
    refine own_lconst (pc' := 72) (z := (0 : Int64)) X37 hx (hb hby at_71) rfl rfl ?_
    refine own_lcmp (pc' := 73) (z := (lcmpW a33 (0 : Int64))) X37 hx (hb hby at_72) rfl rfl ?_
    by_cases hc73_38 : a33 = (0 : Int64)
    · refine own_ifNo (pc' := 76) X37 hx (hb hby at_73) rfl (teq ((lw_eq _ _).mpr hc73_38)).2 ?_
      refine own_lload (pc' := 78) X37 hx (hb hby at_76) rfl rfl ?_
      refine own_lconst (pc' := 79) (z := (0 : Int64)) X37 hx (hb hby at_78) rfl rfl ?_
      refine own_lcmp (pc' := 80) (z := (lcmpW b35 (0 : Int64))) X37 hx (hb hby at_79) rfl rfl ?_
      by_cases hc80_39 : b35 = (0 : Int64)
      · refine own_ifNo (pc' := 83) X37 hx (hb hby at_80) rfl (teq ((lw_eq _ _).mpr hc80_39)).2 ?_
        refine own_lload (pc' := 85) X37 hx (hb hby at_83) rfl rfl ?_
        refine own_lconst (pc' := 86) (z := (0 : Int64)) X37 hx (hb hby at_85) rfl rfl ?_
        refine own_lcmp (pc' := 87) (z := (lcmpW r37 (0 : Int64))) X37 hx (hb hby at_86) rfl rfl ?_
        refine own_ifNo (pc' := 90) X37 hx (hb hby at_87) rfl (teq ((lw_eq _ _).mpr (own_r0 G37_0 hc73_38 hc80_39))).2 ?_
        refine own_iconst (pc' := 91) (z := (1 : Int32)) X37 hx (hb hby at_90) rfl rfl ?_
        refine own_goto (pc' := 95) X37 hx (hb hby at_91) (by decide) (by decide) ?_
        refine own_retN X37 hx hlk hret (by simp) (hb hby at_95) (by decide) (by decide) ?_
        exact ⟨rfl, N37⟩
      · refine own_ifYes (pc' := 96) X37 hx (hb hby at_80) (feq (fun q => hc80_39 ((lw_eq _ _).mp q))).2 (by decide) (by decide) ?_
        refine own_lload (pc' := 98) X37 hx (hb hby at_96) rfl rfl ?_
        refine own_lconst (pc' := 99) (z := (0 : Int64)) X37 hx (hb hby at_98) rfl rfl ?_
        refine own_lcmp (pc' := 100) (z := (lcmpW r37 (0 : Int64))) X37 hx (hb hby at_99) rfl rfl ?_
        have rp40 := own_rpos G37_0 nn34 nn36 (fun q => hc80_39 q.2)
        refine own_ifYes (pc' := 105) X37 hx (hb hby at_100) (tlt ((lw_gt _ _).mpr (own_gt0 rp40))).2.2.1 (by decide) (by decide) ?_
        refine own_lload (pc' := 107) X37 hx (hb hby at_105) rfl rfl ?_
        refine own_lload (pc' := 109) X37 hx (hb hby at_107) rfl rfl ?_
        refine own_lrem (pc' := 110) (z := (a33 - (a33 / r37) * r37)) X37 hx (hb hby at_109) rfl (own_nz (own_gt0 rp40)) rfl ?_
        refine own_lconst (pc' := 111) (z := (0 : Int64)) X37 hx (hb hby at_110) rfl rfl ?_
        refine own_lcmp (pc' := 112) (z := (lcmpW (a33 - (a33 / r37) * r37) (0 : Int64))) X37 hx (hb hby at_111) rfl rfl ?_
        refine own_ifNo (pc' := 115) X37 hx (hb hby at_112) rfl (teq ((lw_eq _ _).mpr ((own_rem0 nn34 rp40.1).mpr (own_dva G37_0).1))).2 ?_
        refine own_lload (pc' := 117) X37 hx (hb hby at_115) rfl rfl ?_
        refine own_lload (pc' := 119) X37 hx (hb hby at_117) rfl rfl ?_
        refine own_lrem (pc' := 120) (z := (b35 - (b35 / r37) * r37)) X37 hx (hb hby at_119) rfl (own_nz (own_gt0 rp40)) rfl ?_
        refine own_lconst (pc' := 121) (z := (0 : Int64)) X37 hx (hb hby at_120) rfl rfl ?_
        refine own_lcmp (pc' := 122) (z := (lcmpW (b35 - (b35 / r37) * r37) (0 : Int64))) X37 hx (hb hby at_121) rfl rfl ?_
        refine own_ifYes (pc' := 127) X37 hx (hb hby at_122) (teq ((lw_eq _ _).mpr ((own_rem0 nn36 rp40.1).mpr (own_dva G37_0).2))).1 (by decide) (by decide) ?_
        refine own_lload (pc' := 129) X37 hx (hb hby at_127) rfl rfl ?_
        refine own_lconst (pc' := 130) (z := (0 : Int64)) X37 hx (hb hby at_129) rfl rfl ?_
        refine own_lcmp (pc' := 131) (z := (lcmpW d32 (0 : Int64))) X37 hx (hb hby at_130) rfl rfl ?_
        by_cases hc131_41 : (0 : Int64) < d32
        · refine own_ifNo (pc' := 134) X37 hx (hb hby at_131) rfl (tlt ((lw_gt _ _).mpr hc131_41)).2.2.2 ?_
          refine own_lload (pc' := 136) X37 hx (hb hby at_134) rfl rfl ?_
          refine own_lload (pc' := 138) X37 hx (hb hby at_136) rfl rfl ?_
          refine own_lrem (pc' := 139) (z := (a33 - (a33 / d32) * d32)) X37 hx (hb hby at_138) rfl (own_nz hc131_41) rfl ?_
          refine own_lconst (pc' := 140) (z := (0 : Int64)) X37 hx (hb hby at_139) rfl rfl ?_
          refine own_lcmp (pc' := 141) (z := (lcmpW (a33 - (a33 / d32) * d32) (0 : Int64))) X37 hx (hb hby at_140) rfl rfl ?_
          by_cases hc141_42 : (a33 - (a33 / d32) * d32) = (0 : Int64)
          · refine own_ifNo (pc' := 144) X37 hx (hb hby at_141) rfl (teq ((lw_eq _ _).mpr hc141_42)).2 ?_
            refine own_lload (pc' := 146) X37 hx (hb hby at_144) rfl rfl ?_
            refine own_lload (pc' := 148) X37 hx (hb hby at_146) rfl rfl ?_
            refine own_lrem (pc' := 149) (z := (b35 - (b35 / d32) * d32)) X37 hx (hb hby at_148) rfl (own_nz hc131_41) rfl ?_
            refine own_lconst (pc' := 150) (z := (0 : Int64)) X37 hx (hb hby at_149) rfl rfl ?_
            refine own_lcmp (pc' := 151) (z := (lcmpW (b35 - (b35 / d32) * d32) (0 : Int64))) X37 hx (hb hby at_150) rfl rfl ?_
            by_cases hc151_43 : (b35 - (b35 / d32) * d32) = (0 : Int64)
            · refine own_ifNo (pc' := 154) X37 hx (hb hby at_151) rfl (teq ((lw_eq _ _).mpr hc151_43)).2 ?_
              refine own_lload (pc' := 156) X37 hx (hb hby at_154) rfl rfl ?_
              refine own_lload (pc' := 158) X37 hx (hb hby at_156) rfl rfl ?_
              refine own_lrem (pc' := 159) (z := (r37 - (r37 / d32) * d32)) X37 hx (hb hby at_158) rfl (own_nz hc131_41) rfl ?_
              refine own_lconst (pc' := 160) (z := (0 : Int64)) X37 hx (hb hby at_159) rfl rfl ?_
              refine own_lcmp (pc' := 161) (z := (lcmpW (r37 - (r37 / d32) * d32) (0 : Int64))) X37 hx (hb hby at_160) rfl rfl ?_
              refine own_ifYes (pc' := 166) X37 hx (hb hby at_161) (teq ((lw_eq _ _).mpr ((own_rem0 (by rw [own_NI2 rp40.1]; omega) (own_d63 hc131_41)).mpr (own_dvd G37_0 ((own_rem0 nn34 (own_d63 hc131_41)).mp hc141_42) ((own_rem0 nn36 (own_d63 hc131_41)).mp hc151_43))))).1 (by decide) (by decide) ?_
              refine own_iconst (pc' := 167) (z := (1 : Int32)) X37 hx (hb hby at_166) rfl rfl ?_
              refine own_retN X37 hx hlk hret (by simp) (hb hby at_167) (by decide) (by decide) ?_
              exact ⟨rfl, N37⟩
            · refine own_ifYes (pc' := 166) X37 hx (hb hby at_151) (feq (fun q => hc151_43 ((lw_eq _ _).mp q))).2 (by decide) (by decide) ?_
              refine own_iconst (pc' := 167) (z := (1 : Int32)) X37 hx (hb hby at_166) rfl rfl ?_
              refine own_retN X37 hx hlk hret (by simp) (hb hby at_167) (by decide) (by decide) ?_
              exact ⟨rfl, N37⟩
          · refine own_ifYes (pc' := 166) X37 hx (hb hby at_141) (feq (fun q => hc141_42 ((lw_eq _ _).mp q))).2 (by decide) (by decide) ?_
            refine own_iconst (pc' := 167) (z := (1 : Int32)) X37 hx (hb hby at_166) rfl rfl ?_
            refine own_retN X37 hx hlk hret (by simp) (hb hby at_167) (by decide) (by decide) ?_
            exact ⟨rfl, N37⟩
        · refine own_ifYes (pc' := 166) X37 hx (hb hby at_131) (flt (fun q => hc131_41 ((lw_gt _ _).mp q))).2.2.2 (by decide) (by decide) ?_
          refine own_iconst (pc' := 167) (z := (1 : Int32)) X37 hx (hb hby at_166) rfl rfl ?_
          refine own_retN X37 hx hlk hret (by simp) (hb hby at_167) (by decide) (by decide) ?_
          exact ⟨rfl, N37⟩
    · refine own_ifYes (pc' := 96) X37 hx (hb hby at_73) (feq (fun q => hc73_38 ((lw_eq _ _).mp q))).2 (by decide) (by decide) ?_
      refine own_lload (pc' := 98) X37 hx (hb hby at_96) rfl rfl ?_
      refine own_lconst (pc' := 99) (z := (0 : Int64)) X37 hx (hb hby at_98) rfl rfl ?_
      refine own_lcmp (pc' := 100) (z := (lcmpW r37 (0 : Int64))) X37 hx (hb hby at_99) rfl rfl ?_
      have rp44 := own_rpos G37_0 nn34 nn36 (fun q => hc73_38 q.1)
      refine own_ifYes (pc' := 105) X37 hx (hb hby at_100) (tlt ((lw_gt _ _).mpr (own_gt0 rp44))).2.2.1 (by decide) (by decide) ?_
      refine own_lload (pc' := 107) X37 hx (hb hby at_105) rfl rfl ?_
      refine own_lload (pc' := 109) X37 hx (hb hby at_107) rfl rfl ?_
      refine own_lrem (pc' := 110) (z := (a33 - (a33 / r37) * r37)) X37 hx (hb hby at_109) rfl (own_nz (own_gt0 rp44)) rfl ?_
      refine own_lconst (pc' := 111) (z := (0 : Int64)) X37 hx (hb hby at_110) rfl rfl ?_
      refine own_lcmp (pc' := 112) (z := (lcmpW (a33 - (a33 / r37) * r37) (0 : Int64))) X37 hx (hb hby at_111) rfl rfl ?_
      refine own_ifNo (pc' := 115) X37 hx (hb hby at_112) rfl (teq ((lw_eq _ _).mpr ((own_rem0 nn34 rp44.1).mpr (own_dva G37_0).1))).2 ?_
      refine own_lload (pc' := 117) X37 hx (hb hby at_115) rfl rfl ?_
      refine own_lload (pc' := 119) X37 hx (hb hby at_117) rfl rfl ?_
      refine own_lrem (pc' := 120) (z := (b35 - (b35 / r37) * r37)) X37 hx (hb hby at_119) rfl (own_nz (own_gt0 rp44)) rfl ?_
      refine own_lconst (pc' := 121) (z := (0 : Int64)) X37 hx (hb hby at_120) rfl rfl ?_
      refine own_lcmp (pc' := 122) (z := (lcmpW (b35 - (b35 / r37) * r37) (0 : Int64))) X37 hx (hb hby at_121) rfl rfl ?_
      refine own_ifYes (pc' := 127) X37 hx (hb hby at_122) (teq ((lw_eq _ _).mpr ((own_rem0 nn36 rp44.1).mpr (own_dva G37_0).2))).1 (by decide) (by decide) ?_
      refine own_lload (pc' := 129) X37 hx (hb hby at_127) rfl rfl ?_
      refine own_lconst (pc' := 130) (z := (0 : Int64)) X37 hx (hb hby at_129) rfl rfl ?_
      refine own_lcmp (pc' := 131) (z := (lcmpW d32 (0 : Int64))) X37 hx (hb hby at_130) rfl rfl ?_
      by_cases hc131_45 : (0 : Int64) < d32
      · refine own_ifNo (pc' := 134) X37 hx (hb hby at_131) rfl (tlt ((lw_gt _ _).mpr hc131_45)).2.2.2 ?_
        refine own_lload (pc' := 136) X37 hx (hb hby at_134) rfl rfl ?_
        refine own_lload (pc' := 138) X37 hx (hb hby at_136) rfl rfl ?_
        refine own_lrem (pc' := 139) (z := (a33 - (a33 / d32) * d32)) X37 hx (hb hby at_138) rfl (own_nz hc131_45) rfl ?_
        refine own_lconst (pc' := 140) (z := (0 : Int64)) X37 hx (hb hby at_139) rfl rfl ?_
        refine own_lcmp (pc' := 141) (z := (lcmpW (a33 - (a33 / d32) * d32) (0 : Int64))) X37 hx (hb hby at_140) rfl rfl ?_
        by_cases hc141_46 : (a33 - (a33 / d32) * d32) = (0 : Int64)
        · refine own_ifNo (pc' := 144) X37 hx (hb hby at_141) rfl (teq ((lw_eq _ _).mpr hc141_46)).2 ?_
          refine own_lload (pc' := 146) X37 hx (hb hby at_144) rfl rfl ?_
          refine own_lload (pc' := 148) X37 hx (hb hby at_146) rfl rfl ?_
          refine own_lrem (pc' := 149) (z := (b35 - (b35 / d32) * d32)) X37 hx (hb hby at_148) rfl (own_nz hc131_45) rfl ?_
          refine own_lconst (pc' := 150) (z := (0 : Int64)) X37 hx (hb hby at_149) rfl rfl ?_
          refine own_lcmp (pc' := 151) (z := (lcmpW (b35 - (b35 / d32) * d32) (0 : Int64))) X37 hx (hb hby at_150) rfl rfl ?_
          by_cases hc151_47 : (b35 - (b35 / d32) * d32) = (0 : Int64)
          · refine own_ifNo (pc' := 154) X37 hx (hb hby at_151) rfl (teq ((lw_eq _ _).mpr hc151_47)).2 ?_
            refine own_lload (pc' := 156) X37 hx (hb hby at_154) rfl rfl ?_
            refine own_lload (pc' := 158) X37 hx (hb hby at_156) rfl rfl ?_
            refine own_lrem (pc' := 159) (z := (r37 - (r37 / d32) * d32)) X37 hx (hb hby at_158) rfl (own_nz hc131_45) rfl ?_
            refine own_lconst (pc' := 160) (z := (0 : Int64)) X37 hx (hb hby at_159) rfl rfl ?_
            refine own_lcmp (pc' := 161) (z := (lcmpW (r37 - (r37 / d32) * d32) (0 : Int64))) X37 hx (hb hby at_160) rfl rfl ?_
            refine own_ifYes (pc' := 166) X37 hx (hb hby at_161) (teq ((lw_eq _ _).mpr ((own_rem0 (by rw [own_NI2 rp44.1]; omega) (own_d63 hc131_45)).mpr (own_dvd G37_0 ((own_rem0 nn34 (own_d63 hc131_45)).mp hc141_46) ((own_rem0 nn36 (own_d63 hc131_45)).mp hc151_47))))).1 (by decide) (by decide) ?_
            refine own_iconst (pc' := 167) (z := (1 : Int32)) X37 hx (hb hby at_166) rfl rfl ?_
            refine own_retN X37 hx hlk hret (by simp) (hb hby at_167) (by decide) (by decide) ?_
            exact ⟨rfl, N37⟩
          · refine own_ifYes (pc' := 166) X37 hx (hb hby at_151) (feq (fun q => hc151_47 ((lw_eq _ _).mp q))).2 (by decide) (by decide) ?_
            refine own_iconst (pc' := 167) (z := (1 : Int32)) X37 hx (hb hby at_166) rfl rfl ?_
            refine own_retN X37 hx hlk hret (by simp) (hb hby at_167) (by decide) (by decide) ?_
            exact ⟨rfl, N37⟩
        · refine own_ifYes (pc' := 166) X37 hx (hb hby at_141) (feq (fun q => hc141_46 ((lw_eq _ _).mp q))).2 (by decide) (by decide) ?_
          refine own_iconst (pc' := 167) (z := (1 : Int32)) X37 hx (hb hby at_166) rfl rfl ?_
          refine own_retN X37 hx hlk hret (by simp) (hb hby at_167) (by decide) (by decide) ?_
          exact ⟨rfl, N37⟩
      · refine own_ifYes (pc' := 166) X37 hx (hb hby at_131) (flt (fun q => hc131_45 ((lw_gt _ _).mp q))).2.2.2 (by decide) (by decide) ?_
        refine own_iconst (pc' := 167) (z := (1 : Int32)) X37 hx (hb hby at_166) rfl rfl ?_
        refine own_retN X37 hx hlk hret (by simp) (hb hby at_167) (by decide) (by decide) ?_
        exact ⟨rfl, N37⟩
  · refine own_ifNo (pc' := 7) X0 hx (hb hby at_4) rfl (feq hc4_31).1 ?_
    refine own_lload (pc' := 9) X0 hx (hb hby at_7) rfl rfl ?_
    refine own_ldc2J (pc' := 12) X0 hx hZ hown (own_w14 hw) (hb hby at_9) rfl ?_
    obtain ⟨d48, hd48⟩ : ∃ z, (q2 &&& (2147483647 : Int64)) = z := ⟨_, rfl⟩
    refine own_land (pc' := 13) (z := d48) X0 hx (hb hby at_12) rfl hd48 ?_
    refine own_lstore (pc' := 15) (l' := #[.val (.long q0), .second, .val (.long q1), .second, .val (.long q2), .second, .val (.int p3), .unset, .unset, .unset, .unset, .val (.long d48), .second, .unset, .unset]) X0 hx (hb hby at_13) rfl rfl ?_
    refine own_lload (pc' := 17) X0 hx (hb hby at_15) rfl rfl ?_
    refine own_lloadN (pc' := 18) X0 hx (hb hby at_17) rfl rfl ?_
    refine own_ldc2J (pc' := 21) X0 hx hZ hown (own_w15 hw) (hb hby at_18) rfl ?_
    refine own_land (pc' := 22) (z := (q0 &&& (4294967295 : Int64))) X0 hx (hb hby at_21) rfl rfl ?_
    obtain ⟨a49, ha49⟩ : ∃ z, (d48 * (q0 &&& (4294967295 : Int64))) = z := ⟨_, rfl⟩
    refine own_lmul (pc' := 23) (z := a49) X0 hx (hb hby at_22) rfl ha49 ?_
    have nn50 : 0 ≤ a49.toInt := by rw [← ha49, ← hd48]; exact own_mulnn
    refine own_lstore (pc' := 25) (l' := #[.val (.long q0), .second, .val (.long q1), .second, .val (.long q2), .second, .val (.int p3), .val (.long a49), .second, .unset, .unset, .val (.long d48), .second, .unset, .unset]) X0 hx (hb hby at_23) rfl rfl ?_
    refine own_lload (pc' := 27) X0 hx (hb hby at_25) rfl rfl ?_
    refine own_lloadN (pc' := 28) X0 hx (hb hby at_27) rfl rfl ?_
    refine own_ldc2J (pc' := 31) X0 hx hZ hown (own_w15 hw) (hb hby at_28) rfl ?_
    refine own_land (pc' := 32) (z := (q1 &&& (4294967295 : Int64))) X0 hx (hb hby at_31) rfl rfl ?_
    obtain ⟨b51, hb51⟩ : ∃ z, (d48 * (q1 &&& (4294967295 : Int64))) = z := ⟨_, rfl⟩
    refine own_lmul (pc' := 33) (z := b51) X0 hx (hb hby at_32) rfl hb51 ?_
    have nn52 : 0 ≤ b51.toInt := by rw [← hb51, ← hd48]; exact own_mulnn
    refine own_lstore (pc' := 35) (l' := #[.val (.long q0), .second, .val (.long q1), .second, .val (.long q2), .second, .val (.int p3), .val (.long a49), .second, .val (.long b51), .second, .val (.long d48), .second, .unset, .unset]) X0 hx (hb hby at_33) rfl rfl ?_
    refine own_goto (pc' := 60) X0 hx (hb hby at_35) (by decide) (by decide) ?_
    refine own_lload (pc' := 62) X0 hx (hb hby at_60) rfl rfl ?_
    refine own_lload (pc' := 64) X0 hx (hb hby at_62) rfl rfl ?_
    refine own_callS (pc' := 67) (y := (⟨"com/example/evenhand/evenhand/rounding/WholeNumbers", "gcd", "(JJ)J"⟩ : MethodName)) (W := 0) (rm := own_room1) (argsL := [(.long a49), (.long b51)]) (rest := []) X0 hx hZ e0 hown (by rw [hml]; rfl) (own_w1 hw) (own_w2 hw) (own_w3 hw) (own_w4 hw) (by decide) (own_rm1 l Z a0 hw [] a49 b51 h0 n0 nn50 nn52) (by decide) (by decide) (by decide) (by decide) (lenOf own_pd2 rfl) rfl (by exact Nat.le_of_eq rfl) (hb hby at_64) rfl ?_
    intro T53 Lc53 v53 X53 hQ53
    obtain ⟨r53, rfl, Nq53, Kq53, G53_0⟩ := hQ53
    have N53 := Fr.app N0 Nq53
    show own_Ends p e below s _ _ _ T53 (mkF m 67 #[.val (.long q0), .second, .val (.long q1), .second, .val (.long q2), .second, .val (.int p3), .val (.long a49), .second, .val (.long b51), .second, .val (.long d48), .second, .unset, .unset] [(.long r53)])
    refine own_lstore (pc' := 69) (l' := #[.val (.long q0), .second, .val (.long q1), .second, .val (.long q2), .second, .val (.int p3), .val (.long a49), .second, .val (.long b51), .second, .val (.long d48), .second, .val (.long r53), .second]) X53 hx (hb hby at_67) rfl rfl ?_
    refine own_lload (pc' := 71) X53 hx (hb hby at_69) rfl rfl ?_
    refine own_lconst (pc' := 72) (z := (0 : Int64)) X53 hx (hb hby at_71) rfl rfl ?_
    refine own_lcmp (pc' := 73) (z := (lcmpW a49 (0 : Int64))) X53 hx (hb hby at_72) rfl rfl ?_
    by_cases hc73_54 : a49 = (0 : Int64)
    · refine own_ifNo (pc' := 76) X53 hx (hb hby at_73) rfl (teq ((lw_eq _ _).mpr hc73_54)).2 ?_
      refine own_lload (pc' := 78) X53 hx (hb hby at_76) rfl rfl ?_
      refine own_lconst (pc' := 79) (z := (0 : Int64)) X53 hx (hb hby at_78) rfl rfl ?_
      refine own_lcmp (pc' := 80) (z := (lcmpW b51 (0 : Int64))) X53 hx (hb hby at_79) rfl rfl ?_
      by_cases hc80_55 : b51 = (0 : Int64)
      · refine own_ifNo (pc' := 83) X53 hx (hb hby at_80) rfl (teq ((lw_eq _ _).mpr hc80_55)).2 ?_
        refine own_lload (pc' := 85) X53 hx (hb hby at_83) rfl rfl ?_
        refine own_lconst (pc' := 86) (z := (0 : Int64)) X53 hx (hb hby at_85) rfl rfl ?_
        refine own_lcmp (pc' := 87) (z := (lcmpW r53 (0 : Int64))) X53 hx (hb hby at_86) rfl rfl ?_
        refine own_ifNo (pc' := 90) X53 hx (hb hby at_87) rfl (teq ((lw_eq _ _).mpr (own_r0 G53_0 hc73_54 hc80_55))).2 ?_
        refine own_iconst (pc' := 91) (z := (1 : Int32)) X53 hx (hb hby at_90) rfl rfl ?_
        refine own_goto (pc' := 95) X53 hx (hb hby at_91) (by decide) (by decide) ?_
        refine own_retN X53 hx hlk hret (by simp) (hb hby at_95) (by decide) (by decide) ?_
        exact ⟨rfl, N53⟩
      · refine own_ifYes (pc' := 96) X53 hx (hb hby at_80) (feq (fun q => hc80_55 ((lw_eq _ _).mp q))).2 (by decide) (by decide) ?_
        refine own_lload (pc' := 98) X53 hx (hb hby at_96) rfl rfl ?_
        refine own_lconst (pc' := 99) (z := (0 : Int64)) X53 hx (hb hby at_98) rfl rfl ?_
        refine own_lcmp (pc' := 100) (z := (lcmpW r53 (0 : Int64))) X53 hx (hb hby at_99) rfl rfl ?_
        have rp56 := own_rpos G53_0 nn50 nn52 (fun q => hc80_55 q.2)
        refine own_ifYes (pc' := 105) X53 hx (hb hby at_100) (tlt ((lw_gt _ _).mpr (own_gt0 rp56))).2.2.1 (by decide) (by decide) ?_
        refine own_lload (pc' := 107) X53 hx (hb hby at_105) rfl rfl ?_
        refine own_lload (pc' := 109) X53 hx (hb hby at_107) rfl rfl ?_
        refine own_lrem (pc' := 110) (z := (a49 - (a49 / r53) * r53)) X53 hx (hb hby at_109) rfl (own_nz (own_gt0 rp56)) rfl ?_
        refine own_lconst (pc' := 111) (z := (0 : Int64)) X53 hx (hb hby at_110) rfl rfl ?_
        refine own_lcmp (pc' := 112) (z := (lcmpW (a49 - (a49 / r53) * r53) (0 : Int64))) X53 hx (hb hby at_111) rfl rfl ?_
        refine own_ifNo (pc' := 115) X53 hx (hb hby at_112) rfl (teq ((lw_eq _ _).mpr ((own_rem0 nn50 rp56.1).mpr (own_dva G53_0).1))).2 ?_
        refine own_lload (pc' := 117) X53 hx (hb hby at_115) rfl rfl ?_
        refine own_lload (pc' := 119) X53 hx (hb hby at_117) rfl rfl ?_
        refine own_lrem (pc' := 120) (z := (b51 - (b51 / r53) * r53)) X53 hx (hb hby at_119) rfl (own_nz (own_gt0 rp56)) rfl ?_
        refine own_lconst (pc' := 121) (z := (0 : Int64)) X53 hx (hb hby at_120) rfl rfl ?_
        refine own_lcmp (pc' := 122) (z := (lcmpW (b51 - (b51 / r53) * r53) (0 : Int64))) X53 hx (hb hby at_121) rfl rfl ?_
        refine own_ifYes (pc' := 127) X53 hx (hb hby at_122) (teq ((lw_eq _ _).mpr ((own_rem0 nn52 rp56.1).mpr (own_dva G53_0).2))).1 (by decide) (by decide) ?_
        refine own_lload (pc' := 129) X53 hx (hb hby at_127) rfl rfl ?_
        refine own_lconst (pc' := 130) (z := (0 : Int64)) X53 hx (hb hby at_129) rfl rfl ?_
        refine own_lcmp (pc' := 131) (z := (lcmpW d48 (0 : Int64))) X53 hx (hb hby at_130) rfl rfl ?_
        by_cases hc131_57 : (0 : Int64) < d48
        · refine own_ifNo (pc' := 134) X53 hx (hb hby at_131) rfl (tlt ((lw_gt _ _).mpr hc131_57)).2.2.2 ?_
          refine own_lload (pc' := 136) X53 hx (hb hby at_134) rfl rfl ?_
          refine own_lload (pc' := 138) X53 hx (hb hby at_136) rfl rfl ?_
          refine own_lrem (pc' := 139) (z := (a49 - (a49 / d48) * d48)) X53 hx (hb hby at_138) rfl (own_nz hc131_57) rfl ?_
          refine own_lconst (pc' := 140) (z := (0 : Int64)) X53 hx (hb hby at_139) rfl rfl ?_
          refine own_lcmp (pc' := 141) (z := (lcmpW (a49 - (a49 / d48) * d48) (0 : Int64))) X53 hx (hb hby at_140) rfl rfl ?_
          by_cases hc141_58 : (a49 - (a49 / d48) * d48) = (0 : Int64)
          · refine own_ifNo (pc' := 144) X53 hx (hb hby at_141) rfl (teq ((lw_eq _ _).mpr hc141_58)).2 ?_
            refine own_lload (pc' := 146) X53 hx (hb hby at_144) rfl rfl ?_
            refine own_lload (pc' := 148) X53 hx (hb hby at_146) rfl rfl ?_
            refine own_lrem (pc' := 149) (z := (b51 - (b51 / d48) * d48)) X53 hx (hb hby at_148) rfl (own_nz hc131_57) rfl ?_
            refine own_lconst (pc' := 150) (z := (0 : Int64)) X53 hx (hb hby at_149) rfl rfl ?_
            refine own_lcmp (pc' := 151) (z := (lcmpW (b51 - (b51 / d48) * d48) (0 : Int64))) X53 hx (hb hby at_150) rfl rfl ?_
            by_cases hc151_59 : (b51 - (b51 / d48) * d48) = (0 : Int64)
            · refine own_ifNo (pc' := 154) X53 hx (hb hby at_151) rfl (teq ((lw_eq _ _).mpr hc151_59)).2 ?_
              refine own_lload (pc' := 156) X53 hx (hb hby at_154) rfl rfl ?_
              refine own_lload (pc' := 158) X53 hx (hb hby at_156) rfl rfl ?_
              refine own_lrem (pc' := 159) (z := (r53 - (r53 / d48) * d48)) X53 hx (hb hby at_158) rfl (own_nz hc131_57) rfl ?_
              refine own_lconst (pc' := 160) (z := (0 : Int64)) X53 hx (hb hby at_159) rfl rfl ?_
              refine own_lcmp (pc' := 161) (z := (lcmpW (r53 - (r53 / d48) * d48) (0 : Int64))) X53 hx (hb hby at_160) rfl rfl ?_
              refine own_ifYes (pc' := 166) X53 hx (hb hby at_161) (teq ((lw_eq _ _).mpr ((own_rem0 (by rw [own_NI2 rp56.1]; omega) (own_d63 hc131_57)).mpr (own_dvd G53_0 ((own_rem0 nn50 (own_d63 hc131_57)).mp hc141_58) ((own_rem0 nn52 (own_d63 hc131_57)).mp hc151_59))))).1 (by decide) (by decide) ?_
              refine own_iconst (pc' := 167) (z := (1 : Int32)) X53 hx (hb hby at_166) rfl rfl ?_
              refine own_retN X53 hx hlk hret (by simp) (hb hby at_167) (by decide) (by decide) ?_
              exact ⟨rfl, N53⟩
            · refine own_ifYes (pc' := 166) X53 hx (hb hby at_151) (feq (fun q => hc151_59 ((lw_eq _ _).mp q))).2 (by decide) (by decide) ?_
              refine own_iconst (pc' := 167) (z := (1 : Int32)) X53 hx (hb hby at_166) rfl rfl ?_
              refine own_retN X53 hx hlk hret (by simp) (hb hby at_167) (by decide) (by decide) ?_
              exact ⟨rfl, N53⟩
          · refine own_ifYes (pc' := 166) X53 hx (hb hby at_141) (feq (fun q => hc141_58 ((lw_eq _ _).mp q))).2 (by decide) (by decide) ?_
            refine own_iconst (pc' := 167) (z := (1 : Int32)) X53 hx (hb hby at_166) rfl rfl ?_
            refine own_retN X53 hx hlk hret (by simp) (hb hby at_167) (by decide) (by decide) ?_
            exact ⟨rfl, N53⟩
        · refine own_ifYes (pc' := 166) X53 hx (hb hby at_131) (flt (fun q => hc131_57 ((lw_gt _ _).mp q))).2.2.2 (by decide) (by decide) ?_
          refine own_iconst (pc' := 167) (z := (1 : Int32)) X53 hx (hb hby at_166) rfl rfl ?_
          refine own_retN X53 hx hlk hret (by simp) (hb hby at_167) (by decide) (by decide) ?_
          exact ⟨rfl, N53⟩
    · refine own_ifYes (pc' := 96) X53 hx (hb hby at_73) (feq (fun q => hc73_54 ((lw_eq _ _).mp q))).2 (by decide) (by decide) ?_
      refine own_lload (pc' := 98) X53 hx (hb hby at_96) rfl rfl ?_
      refine own_lconst (pc' := 99) (z := (0 : Int64)) X53 hx (hb hby at_98) rfl rfl ?_
      refine own_lcmp (pc' := 100) (z := (lcmpW r53 (0 : Int64))) X53 hx (hb hby at_99) rfl rfl ?_
      have rp60 := own_rpos G53_0 nn50 nn52 (fun q => hc73_54 q.1)
      refine own_ifYes (pc' := 105) X53 hx (hb hby at_100) (tlt ((lw_gt _ _).mpr (own_gt0 rp60))).2.2.1 (by decide) (by decide) ?_
      refine own_lload (pc' := 107) X53 hx (hb hby at_105) rfl rfl ?_
      refine own_lload (pc' := 109) X53 hx (hb hby at_107) rfl rfl ?_
      refine own_lrem (pc' := 110) (z := (a49 - (a49 / r53) * r53)) X53 hx (hb hby at_109) rfl (own_nz (own_gt0 rp60)) rfl ?_
      refine own_lconst (pc' := 111) (z := (0 : Int64)) X53 hx (hb hby at_110) rfl rfl ?_
      refine own_lcmp (pc' := 112) (z := (lcmpW (a49 - (a49 / r53) * r53) (0 : Int64))) X53 hx (hb hby at_111) rfl rfl ?_
      refine own_ifNo (pc' := 115) X53 hx (hb hby at_112) rfl (teq ((lw_eq _ _).mpr ((own_rem0 nn50 rp60.1).mpr (own_dva G53_0).1))).2 ?_
      refine own_lload (pc' := 117) X53 hx (hb hby at_115) rfl rfl ?_
      refine own_lload (pc' := 119) X53 hx (hb hby at_117) rfl rfl ?_
      refine own_lrem (pc' := 120) (z := (b51 - (b51 / r53) * r53)) X53 hx (hb hby at_119) rfl (own_nz (own_gt0 rp60)) rfl ?_
      refine own_lconst (pc' := 121) (z := (0 : Int64)) X53 hx (hb hby at_120) rfl rfl ?_
      refine own_lcmp (pc' := 122) (z := (lcmpW (b51 - (b51 / r53) * r53) (0 : Int64))) X53 hx (hb hby at_121) rfl rfl ?_
      refine own_ifYes (pc' := 127) X53 hx (hb hby at_122) (teq ((lw_eq _ _).mpr ((own_rem0 nn52 rp60.1).mpr (own_dva G53_0).2))).1 (by decide) (by decide) ?_
      refine own_lload (pc' := 129) X53 hx (hb hby at_127) rfl rfl ?_
      refine own_lconst (pc' := 130) (z := (0 : Int64)) X53 hx (hb hby at_129) rfl rfl ?_
      refine own_lcmp (pc' := 131) (z := (lcmpW d48 (0 : Int64))) X53 hx (hb hby at_130) rfl rfl ?_
      by_cases hc131_61 : (0 : Int64) < d48
      · refine own_ifNo (pc' := 134) X53 hx (hb hby at_131) rfl (tlt ((lw_gt _ _).mpr hc131_61)).2.2.2 ?_
        refine own_lload (pc' := 136) X53 hx (hb hby at_134) rfl rfl ?_
        refine own_lload (pc' := 138) X53 hx (hb hby at_136) rfl rfl ?_
        refine own_lrem (pc' := 139) (z := (a49 - (a49 / d48) * d48)) X53 hx (hb hby at_138) rfl (own_nz hc131_61) rfl ?_
        refine own_lconst (pc' := 140) (z := (0 : Int64)) X53 hx (hb hby at_139) rfl rfl ?_
        refine own_lcmp (pc' := 141) (z := (lcmpW (a49 - (a49 / d48) * d48) (0 : Int64))) X53 hx (hb hby at_140) rfl rfl ?_
        by_cases hc141_62 : (a49 - (a49 / d48) * d48) = (0 : Int64)
        · refine own_ifNo (pc' := 144) X53 hx (hb hby at_141) rfl (teq ((lw_eq _ _).mpr hc141_62)).2 ?_
          refine own_lload (pc' := 146) X53 hx (hb hby at_144) rfl rfl ?_
          refine own_lload (pc' := 148) X53 hx (hb hby at_146) rfl rfl ?_
          refine own_lrem (pc' := 149) (z := (b51 - (b51 / d48) * d48)) X53 hx (hb hby at_148) rfl (own_nz hc131_61) rfl ?_
          refine own_lconst (pc' := 150) (z := (0 : Int64)) X53 hx (hb hby at_149) rfl rfl ?_
          refine own_lcmp (pc' := 151) (z := (lcmpW (b51 - (b51 / d48) * d48) (0 : Int64))) X53 hx (hb hby at_150) rfl rfl ?_
          by_cases hc151_63 : (b51 - (b51 / d48) * d48) = (0 : Int64)
          · refine own_ifNo (pc' := 154) X53 hx (hb hby at_151) rfl (teq ((lw_eq _ _).mpr hc151_63)).2 ?_
            refine own_lload (pc' := 156) X53 hx (hb hby at_154) rfl rfl ?_
            refine own_lload (pc' := 158) X53 hx (hb hby at_156) rfl rfl ?_
            refine own_lrem (pc' := 159) (z := (r53 - (r53 / d48) * d48)) X53 hx (hb hby at_158) rfl (own_nz hc131_61) rfl ?_
            refine own_lconst (pc' := 160) (z := (0 : Int64)) X53 hx (hb hby at_159) rfl rfl ?_
            refine own_lcmp (pc' := 161) (z := (lcmpW (r53 - (r53 / d48) * d48) (0 : Int64))) X53 hx (hb hby at_160) rfl rfl ?_
            refine own_ifYes (pc' := 166) X53 hx (hb hby at_161) (teq ((lw_eq _ _).mpr ((own_rem0 (by rw [own_NI2 rp60.1]; omega) (own_d63 hc131_61)).mpr (own_dvd G53_0 ((own_rem0 nn50 (own_d63 hc131_61)).mp hc141_62) ((own_rem0 nn52 (own_d63 hc131_61)).mp hc151_63))))).1 (by decide) (by decide) ?_
            refine own_iconst (pc' := 167) (z := (1 : Int32)) X53 hx (hb hby at_166) rfl rfl ?_
            refine own_retN X53 hx hlk hret (by simp) (hb hby at_167) (by decide) (by decide) ?_
            exact ⟨rfl, N53⟩
          · refine own_ifYes (pc' := 166) X53 hx (hb hby at_151) (feq (fun q => hc151_63 ((lw_eq _ _).mp q))).2 (by decide) (by decide) ?_
            refine own_iconst (pc' := 167) (z := (1 : Int32)) X53 hx (hb hby at_166) rfl rfl ?_
            refine own_retN X53 hx hlk hret (by simp) (hb hby at_167) (by decide) (by decide) ?_
            exact ⟨rfl, N53⟩
        · refine own_ifYes (pc' := 166) X53 hx (hb hby at_141) (feq (fun q => hc141_62 ((lw_eq _ _).mp q))).2 (by decide) (by decide) ?_
          refine own_iconst (pc' := 167) (z := (1 : Int32)) X53 hx (hb hby at_166) rfl rfl ?_
          refine own_retN X53 hx hlk hret (by simp) (hb hby at_167) (by decide) (by decide) ?_
          exact ⟨rfl, N53⟩
      · refine own_ifYes (pc' := 166) X53 hx (hb hby at_131) (flt (fun q => hc131_61 ((lw_gt _ _).mp q))).2.2.2 (by decide) (by decide) ?_
        refine own_iconst (pc' := 167) (z := (1 : Int32)) X53 hx (hb hby at_166) rfl rfl ?_
        refine own_retN X53 hx hlk hret (by simp) (hb hby at_167) (by decide) (by decide) ?_
        exact ⟨rfl, N53⟩
set_option maxRecDepth 65536 in
set_option maxHeartbeats 40000000 in
theorem own_comes {Post : Tables → Env → Array Value → State → Outcome → State → Prop} (hpost : ∀ tb e args s v u, (limb_1_1.after args s (.returned v) u = true ∧ limb_1_2.after args s (.returned v) u = true ∧ True) → FrameEnd s (.returned v) u (Jvm.fieldLocs frame_1_writes args s ++ Jvm.arrayLocs frame_1_arrays args s ++ Jvm.staticLocs frame_1_statics s) 0 0 → Post tb e args s (.returned v) u) :
    ArmFor flags0 classFile x code maxLocals ret World_1 tables_1 room_1 Calls_1 rest_1 Pre_1 Post := by
  intro l hfl _ _ p e ha hc hk s m args below hf hA hF happ hP
  obtain ⟨hcalls, hrest, hpre⟩ := hP
  obtain ⟨-, -, -, hnamed, -, -, -, hat⟩ := (Spec.applies_iff hf).mp happ
  obtain ⟨hg, hn⟩ := and_e (Cond.before_iff.mp (show (Jvm.Cond.and given_1 narrow_1).before args s = true from hpre))
  obtain ⟨g1, g2⟩ := and_e hg
  obtain ⟨g3, g4⟩ := and_e g2
  obtain ⟨g5, g6⟩ := and_e g4
  obtain ⟨g7, g8⟩ := and_e g6
  obtain ⟨w0, w1, w2, w3, rfl⟩ : ∃ w0 w1 w2 w3 : Value, args = #[w0, w1, w2, w3] := by
    have hs : args.size = 4 := by simpa [Cond.value, given_1] using g1
    obtain ⟨L⟩ := args
    match L, hs with
    | [w0, w1, w2, w3], _ => exact ⟨w0, w1, w2, w3, rfl⟩
  have hw := fun d (hd : d ∈ tables_1) => atoms_spec (ws := Jvm.Cond.code x code maxLocals ret :: tables_1) hat d (List.mem_cons_of_mem _ hd)
  have hfit : Fit s := fun {y c} hc i hi => by
    obtain ⟨ha, rfl⟩ := Array.getElem?_eq_some_iff.mp hc
    have q := List.all_eq_true.mp ((Array.all_eq_true_iff_forall_mem.mp hF) _ (Array.getElem_mem ha)) i (List.mem_range.mpr hi)
    simpa [Array.getElem?_eq_getElem hi] using q
  obtain ⟨i0, ei0⟩ := isL_v g3
  obtain rfl : w0 = (.long i0) := Option.some.inj ei0
  obtain ⟨i1, ei1⟩ := isL_v g5
  obtain rfl : w1 = (.long i1) := Option.some.inj ei1
  obtain ⟨i2, ei2⟩ := isL_v g7
  obtain rfl : w2 = (.long i2) := Option.some.inj ei2
  obtain ⟨i3, ei3⟩ := is_v g8
  obtain rfl : w3 = (.int i3) := Option.some.inj ei3
  obtain ⟨n, o, h1, h2, h3, _, L, rfl, ⟨rfl, N⟩, hq⟩ := own_rm0 l s _ hw tables_1 i0 i1 i2 i3 s.heap s.heap.size (Nat.le_refl _) p e ha hc hk s m _ below hf ((Spec.applies_iff_loose hf).mp happ).1 ⟨rfl, State.Warmed39.refl s, rfl⟩ trivial
  refine ⟨n, _, h1, h2, h3, hpost _ _ _ _ _ _ ⟨Cond.after_iff.mpr rfl, Cond.after_iff.mpr (eq_i res_at (Term.int_eval (1)) rfl), trivial⟩ ⟨hq.1, hq.2.1, (hq.2.2.sift fun y hy => Or.inr (N y hy)).mono (by decide) (by decide)⟩⟩
theorem main_1_1 : Claimed_1_1 := own_comes fun _ _ _ _ _ _ h hF => ⟨h.1, hF⟩
theorem main_1_2 : Claimed_1_2 := own_comes fun _ _ _ _ _ _ h hF => ⟨h.2.1, hF⟩
end Jvm.Pilot.@@N@@
namespace Jvm.Pilot.@@N@@
open Jvm Jvm.ClassFile Sem Op Lib Jvm.Free Jvm.Stand Jvm.Pilot.@@N@@.Jvm.D
/-! MADE BY PROGRAM (witnessworld.py) out of the Statement's table words and the real class files: 15 classes; the members and pool entries that the words name. The judged class is class 1, her method 1. -/
namespace start1
open Jvm.ClassFile
def u (s : String) : CpInfo := .utf8 (stringToUtf16 s)
/-- a pool by its gaps: so many unusable entries, then the entry; so many at the end -/
def gap : Nat → List CpInfo → List CpInfo
  | 0, r => r
  | n + 1, r => .unusable :: gap n r
def poolList (es : List (Nat × CpInfo)) (last : Nat) : List CpInfo := es.foldr (fun e r => gap e.1 (e.2 :: r)) (gap last [])
def pool (es : List (Nat × CpInfo)) (last : Nat) : Array CpInfo := ⟨poolList es last⟩
def fileOf (pool : Array CpInfo) (this : Nat) (attrs : Array Attribute := #[]) (ms : Array MethodInfo := #[]) (fl : Nat := 33) (sup : Nat := 0) (ifs : Array Nat := #[]) (fds : Array FieldInfo := #[]) : ClassFile where
  minorVersion := 0
  majorVersion := 65
  constantPool := pool
  accessFlags := fl
  thisClass := this
  superClass := sup
  interfaces := ifs
  fields := fds
  methods := ms
  attributes := attrs
def plain (name : String) (sup : Option ClassId) : Class where
  name := name
  kind := .ordinary
  loader := none
  accessFlags := 33
  super := sup
  interfaces := #[]
  cf := none
  fields := #[]
  methods := #[]
  instanceTypes := #[]
  staticTypes := #[]
  resolved := #[]
  callSites := []
  init := .initialized
  statics := none
  mirror := none

def pool0 : Array CpInfo := pool [(5, u "<init>"), (0, u "()V"), (1, .class_ 10), (1, u "java/lang/Object")] 113

def k0m0 : Method := { name := "<init>", desc := "()V", sig := { parameters := [], returnType := none }, accessFlags := 1, code := none }
/-- java/lang/Object -/
def k0 : Class := { plain "java/lang/Object" none with
  accessFlags := 33
  interfaces := #[]
  cf := some (fileOf pool0 8 #[] #[{ accessFlags := 1, nameIndex := 5, descriptorIndex := 6, attributes := #[] }] 33 0 #[] #[])
  fields := #[]
  methods := #[k0m0]
  instanceTypes := #[]
  staticTypes := #[]
  resolved := Array.replicate 124 none
  statics := none }

def pool1 : Array CpInfo := pool [(2, .class_ 4), (1, u "java/lang/Object"), (0, u "<init>"), (0, u "()V"), (0, .long 2147483647), (1, .long 4294967295), (3, .long 9223372036854775807), (1, .methodref 16 17), (0, .class_ 18), (0, .nameAndType 19 20), (0, u "com/example/evenhand/evenhand/rounding/WholeNumbers"), (0, u "gcd"), (0, u "(JJ)J"), (0, .class_ 22), (0, u "com/example/evenhand/evenhand/rounding/WholeNumbersGcdPinLaw"), (2, u "law"), (0, u "(JJJI)Z")] 3

def k1m0 : Method := { name := "<init>", desc := "()V", sig := { parameters := [], returnType := none }, accessFlags := 2, code := none }
def k1c1 : Code := { maxStack := 6, maxLocals := 15, code := code, exceptionTable := #[], attributes := #[] }
def k1m1 : Method := { name := "law", desc := "(JJJI)Z", sig := { parameters := [.long, .long, .long, .int], returnType := some .boolean }, accessFlags := 9, code := some k1c1 }
/-- com/example/evenhand/evenhand/rounding/WholeNumbersGcdPinLaw -/
def k1 : Class := { plain "com/example/evenhand/evenhand/rounding/WholeNumbersGcdPinLaw" (some 0) with
  accessFlags := 49
  interfaces := #[]
  cf := some (fileOf pool1 21 #[] #[{ accessFlags := 2, nameIndex := 5, descriptorIndex := 6, attributes := #[] }, { accessFlags := 9, nameIndex := 25, descriptorIndex := 26, attributes := #[] }] 49 2 #[] #[])
  fields := #[]
  methods := #[k1m0, k1m1]
  instanceTypes := #[]
  staticTypes := #[]
  resolved := Array.replicate 30 none
  statics := none }

def pool2 : Array CpInfo := pool [(2, .class_ 4), (1, u "java/lang/Object"), (0, u "<init>"), (0, u "()V"), (9, .methodref 17 18), (0, .class_ 19), (0, .nameAndType 20 21), (0, u "java/lang/Long"), (0, u "numberOfTrailingZeros"), (0, u "(J)I"), (0, .class_ 23), (0, u "com/example/evenhand/evenhand/rounding/WholeNumbers"), (2, u "gcd"), (0, u "(JJ)J")] 18

def k2m0 : Method := { name := "<init>", desc := "()V", sig := { parameters := [], returnType := none }, accessFlags := 2, code := none }
def k2c1 : Code := { maxStack := 6, maxLocals := 11, code := prog_69_method_2_code, exceptionTable := #[], attributes := #[] }
def k2m1 : Method := { name := "gcd", desc := "(JJ)J", sig := { parameters := [.long, .long], returnType := some .long }, accessFlags := 9, code := some k2c1 }
/-- com/example/evenhand/evenhand/rounding/WholeNumbers -/
def k2 : Class := { plain "com/example/evenhand/evenhand/rounding/WholeNumbers" (some 0) with
  accessFlags := 49
  interfaces := #[]
  cf := some (fileOf pool2 22 #[] #[{ accessFlags := 2, nameIndex := 5, descriptorIndex := 6, attributes := #[] }, { accessFlags := 9, nameIndex := 26, descriptorIndex := 27, attributes := #[] }] 49 2 #[] #[])
  fields := #[]
  methods := #[k2m0, k2m1]
  instanceTypes := #[]
  staticTypes := #[]
  resolved := Array.replicate 46 none
  statics := none }

def pool3 : Array CpInfo := pool [(1, .class_ 2), (0, u "java/io/Serializable"), (0, .class_ 4), (0, u "java/lang/Object")] 2

/-- java/io/Serializable -/
def k3 : Class := { plain "java/io/Serializable" (some 0) with
  accessFlags := 1537
  interfaces := #[]
  cf := some (fileOf pool3 1 #[] #[] 1537 3 #[] #[])
  fields := #[]
  methods := #[]
  instanceTypes := #[]
  staticTypes := #[]
  resolved := Array.replicate 7 none
  statics := none }

def pool4 : Array CpInfo := pool [(2, .class_ 4), (1, u "java/lang/Object"), (0, u "<init>"), (0, u "()V"), (1, .class_ 10), (1, u "java/lang/Number"), (2, .class_ 14), (0, u "java/io/Serializable"), (0, u "serialVersionUID"), (0, u "J")] 20

def k4m0 : Method := { name := "<init>", desc := "()V", sig := { parameters := [], returnType := none }, accessFlags := 1, code := none }
/-- java/lang/Number -/
def k4 : Class := { plain "java/lang/Number" (some 0) with
  accessFlags := 1057
  interfaces := #[3]
  cf := some (fileOf pool4 8 #[] #[{ accessFlags := 1, nameIndex := 5, descriptorIndex := 6, attributes := #[] }] 1057 2 #[13] #[{ accessFlags := 26, nameIndex := 15, descriptorIndex := 16, attributes := #[] }])
  fields := #[{ name := "serialVersionUID", type := .long, accessFlags := 26, slot := 0, constantValue := 0 }]
  methods := #[k4m0]
  instanceTypes := #[]
  staticTypes := #[.long]
  resolved := Array.replicate 37 none
  statics := none }

def pool5 : Array CpInfo := pool [(1, .class_ 2), (0, u "java/lang/Comparable"), (0, .class_ 4), (0, u "java/lang/Object")] 7

/-- java/lang/Comparable -/
def k5 : Class := { plain "java/lang/Comparable" (some 0) with
  accessFlags := 1537
  interfaces := #[]
  cf := some (fileOf pool5 1 #[] #[] 1537 3 #[] #[])
  fields := #[]
  methods := #[]
  instanceTypes := #[]
  staticTypes := #[]
  resolved := Array.replicate 12 none
  statics := none }

def pool6 : Array CpInfo := pool [(1, .class_ 2), (0, u "java/lang/constant/Constable"), (0, .class_ 4), (0, u "java/lang/Object")] 6

/-- java/lang/constant/Constable -/
def k6 : Class := { plain "java/lang/constant/Constable" (some 0) with
  accessFlags := 1537
  interfaces := #[]
  cf := some (fileOf pool6 1 #[] #[] 1537 3 #[] #[])
  fields := #[]
  methods := #[]
  instanceTypes := #[]
  staticTypes := #[]
  resolved := Array.replicate 11 none
  statics := none }

def pool7 : Array CpInfo := pool [(1, .class_ 2), (0, u "java/lang/constant/ConstantDesc"), (0, .class_ 4), (0, u "java/lang/Object")] 32

/-- java/lang/constant/ConstantDesc -/
def k7 : Class := { plain "java/lang/constant/ConstantDesc" (some 0) with
  accessFlags := 1537
  interfaces := #[]
  cf := some (fileOf pool7 1 #[] #[] 1537 3 #[] #[])
  fields := #[]
  methods := #[]
  instanceTypes := #[]
  staticTypes := #[]
  resolved := Array.replicate 37 none
  statics := none }

def pool8 : Array CpInfo := pool [(1, .class_ 2), (0, u "java/lang/Long"), (15, .class_ 20), (1, u "java/lang/Integer"), (80, u "(J)I"), (133, .class_ 237), (1, u "java/lang/Long$LongCache"), (33, .class_ 272), (0, u "java/lang/Number"), (2, u "value"), (0, u "J"), (33, u "(I)I"), (0, .methodref 18 312), (0, .nameAndType 313 310), (0, u "numberOfTrailingZeros"), (47, u "TYPE"), (0, u "Ljava/lang/Class;"), (0, .class_ 364), (0, u "java/lang/Comparable"), (0, .class_ 366), (0, u "java/lang/constant/Constable"), (0, .class_ 368), (0, u "java/lang/constant/ConstantDesc"), (0, u "MIN_VALUE"), (1, u "MAX_VALUE"), (4, u "SIZE"), (0, u "I"), (1, u "BYTES"), (1, u "serialVersionUID")] 142

def k8c0 : Code := { maxStack := 4, maxLocals := 3, code := jdk_35_method_49_code, exceptionTable := #[], attributes := #[] }
def k8m0 : Method := { name := "numberOfTrailingZeros", desc := "(J)I", sig := { parameters := [.long], returnType := some .int }, accessFlags := 9, code := some k8c0 }
/-- java/lang/Long -/
def k8 : Class := { plain "java/lang/Long" (some 4) with
  accessFlags := 49
  interfaces := #[5, 6, 7]
  cf := some (fileOf pool8 1 #[.nestMembers #[235]] #[{ accessFlags := 9, nameIndex := 313, descriptorIndex := 101, attributes := #[] }] 49 271 #[363, 365, 367] #[{ accessFlags := 25, nameIndex := 369, descriptorIndex := 276, attributes := #[] }, { accessFlags := 25, nameIndex := 371, descriptorIndex := 276, attributes := #[] }, { accessFlags := 25, nameIndex := 361, descriptorIndex := 362, attributes := #[] }, { accessFlags := 18, nameIndex := 275, descriptorIndex := 276, attributes := #[] }, { accessFlags := 25, nameIndex := 376, descriptorIndex := 377, attributes := #[] }, { accessFlags := 25, nameIndex := 379, descriptorIndex := 377, attributes := #[] }, { accessFlags := 26, nameIndex := 381, descriptorIndex := 276, attributes := #[] }])
  fields := #[{ name := "MIN_VALUE", type := .long, accessFlags := 25, slot := 0, constantValue := 0 }, { name := "MAX_VALUE", type := .long, accessFlags := 25, slot := 1, constantValue := 0 }, { name := "TYPE", type := (.object "java/lang/Class"), accessFlags := 25, slot := 2, constantValue := 0 }, { name := "value", type := .long, accessFlags := 18, slot := 0, constantValue := 0 }, { name := "SIZE", type := .int, accessFlags := 25, slot := 3, constantValue := 0 }, { name := "BYTES", type := .int, accessFlags := 25, slot := 4, constantValue := 0 }, { name := "serialVersionUID", type := .long, accessFlags := 26, slot := 5, constantValue := 0 }]
  methods := #[k8m0]
  instanceTypes := #[.long]
  staticTypes := #[.long, .long, (.object "java/lang/Class"), .int, .int, .long]
  resolved := Array.replicate 524 none
  statics := none }

def pool9 : Array CpInfo := pool [(1, .class_ 2), (0, u "java/lang/Integer"), (16, u "digits"), (0, u "[C"), (33, u "(I)I"), (30, u "DigitOnes"), (0, u "[B"), (2, u "DigitTens"), (99, .class_ 190), (0, u "java/lang/Integer$IntegerCache"), (3, u "I"), (8, .class_ 204), (0, u "java/lang/Number"), (2, u "value"), (56, .integer 65536), (37, u "TYPE"), (0, u "Ljava/lang/Class;"), (0, .class_ 305), (0, u "java/lang/Comparable"), (0, .class_ 307), (0, u "java/lang/constant/Constable"), (0, .class_ 309), (0, u "java/lang/constant/ConstantDesc"), (0, u "MIN_VALUE"), (1, u "MAX_VALUE"), (3, u "SIZE"), (1, u "BYTES"), (1, u "serialVersionUID"), (0, u "J"), (84, u "numberOfTrailingZeros")] 46

def k9c0 : Code := { maxStack := 3, maxLocals := 2, code := jdk_33_method_48_code, exceptionTable := #[], attributes := #[] }
def k9m0 : Method := { name := "numberOfTrailingZeros", desc := "(I)I", sig := { parameters := [.int], returnType := some .int }, accessFlags := 9, code := some k9c0 }
/-- java/lang/Integer -/
def k9 : Class := { plain "java/lang/Integer" (some 4) with
  accessFlags := 49
  interfaces := #[5, 6, 7]
  cf := some (fileOf pool9 1 #[.nestMembers #[189]] #[{ accessFlags := 9, nameIndex := 406, descriptorIndex := 54, attributes := #[] }] 49 203 #[304, 306, 308] #[{ accessFlags := 25, nameIndex := 310, descriptorIndex := 194, attributes := #[] }, { accessFlags := 25, nameIndex := 312, descriptorIndex := 194, attributes := #[] }, { accessFlags := 25, nameIndex := 302, descriptorIndex := 303, attributes := #[] }, { accessFlags := 24, nameIndex := 19, descriptorIndex := 20, attributes := #[] }, { accessFlags := 24, nameIndex := 89, descriptorIndex := 86, attributes := #[] }, { accessFlags := 24, nameIndex := 85, descriptorIndex := 86, attributes := #[] }, { accessFlags := 18, nameIndex := 207, descriptorIndex := 194, attributes := #[] }, { accessFlags := 25, nameIndex := 316, descriptorIndex := 194, attributes := #[] }, { accessFlags := 25, nameIndex := 318, descriptorIndex := 194, attributes := #[] }, { accessFlags := 26, nameIndex := 320, descriptorIndex := 321, attributes := #[] }])
  fields := #[{ name := "MIN_VALUE", type := .int, accessFlags := 25, slot := 0, constantValue := 0 }, { name := "MAX_VALUE", type := .int, accessFlags := 25, slot := 1, constantValue := 0 }, { name := "TYPE", type := (.object "java/lang/Class"), accessFlags := 25, slot := 2, constantValue := 0 }, { name := "digits", type := (.array .char), accessFlags := 24, slot := 3, constantValue := 0 }, { name := "DigitTens", type := (.array .byte), accessFlags := 24, slot := 4, constantValue := 0 }, { name := "DigitOnes", type := (.array .byte), accessFlags := 24, slot := 5, constantValue := 0 }, { name := "value", type := .int, accessFlags := 18, slot := 0, constantValue := 0 }, { name := "SIZE", type := .int, accessFlags := 25, slot := 6, constantValue := 0 }, { name := "BYTES", type := .int, accessFlags := 25, slot := 7, constantValue := 0 }, { name := "serialVersionUID", type := .long, accessFlags := 26, slot := 8, constantValue := 0 }]
  methods := #[k9m0]
  instanceTypes := #[.int]
  staticTypes := #[.int, .int, (.object "java/lang/Class"), (.array .char), (.array .byte), (.array .byte), .int, .int, .long]
  resolved := Array.replicate 453 none
  statics := none }

def pool10 : Array CpInfo := pool [(1, u "java/lang/Cloneable"), (0, .class_ 1), (0, u "java/lang/Object"), (0, .class_ 3)] 3

/-- java/lang/Cloneable -/
def k10 : Class := { plain "java/lang/Cloneable" (some 0) with
  accessFlags := 1537
  interfaces := #[]
  cf := some (fileOf pool10 2 #[] #[] 1537 4 #[] #[])
  fields := #[]
  methods := #[]
  instanceTypes := #[]
  staticTypes := #[]
  resolved := Array.replicate 8 none
  statics := none }

/-- the primitive byte -/
def k11 : Class := { plain "byte" none with kind := .primitive 'B', accessFlags := 0x411 }
/-- [B -/
def k12 : Class := { plain "[B" (some 0) with kind := .array 11 .byte, interfaces := #[10, 3], accessFlags := 1041 }

/-- the primitive int -/
def k13 : Class := { plain "int" none with kind := .primitive 'I', accessFlags := 0x411 }
/-- [I -/
def k14 : Class := { plain "[I" (some 0) with kind := .array 13 .int, interfaces := #[10, 3], accessFlags := 1041 }

def heap : Heap := #[]
def classes : Array Class := #[k0, k1, k2, k3, k4, k5, k6, k7, k8, k9, k10, k11, k12, k13, k14]
def interned : List (Array UInt16 × Addr) := []
def slotsUsed : Nat := 0
def theMethod : MethodId := ⟨1, 1⟩
def args0 : Array Value := #[.long 12, .long 18, .long 6, .int 5]
def aboutOver (below : List Frame) : State where
  vm := { classes := classes, interned := interned.toArray }
  heap := heap
  slotsUsed := slotsUsed
  threads := #[{ frames := .invoking theMethod args0 :: below }]
def below0 : List Frame := [.native { method := ⟨0, 0⟩, args := #[] }]
def about1 : State := aboutOver below0
def p0 : Program := .bare "" "" ""
def e0 : Env := launch0.env 0 0 0
theorem w_frames : about1.frames = Frame.invoking theMethod args0 :: below0 := rfl
set_option maxRecDepth 65536 in
theorem w_args : argsFit about1.vm theMethod args0 = true := by decide +kernel
set_option maxRecDepth 65536 in
theorem w_heap : heapFits about1 = true := by decide +kernel
set_option maxRecDepth 65536 in
theorem w_runnable : about1.curStatus? = some .runnable := by decide +kernel
set_option maxRecDepth 65536 in
theorem w_alone : about1.alone = true := by decide +kernel
set_option maxRecDepth 65536 in
theorem w_named : about1.methodNamed? x = some theMethod := by decide +kernel
set_option maxRecDepth 65536 in
theorem w_hears : about1.hears theMethod below0 = true := by decide +kernel
set_option maxRecDepth 65536 in
theorem w_ripe : about1.ripe theMethod args0 below0 = true := by decide +kernel
theorem w_running : about1.status = .running := rfl
set_option maxRecDepth 65536 in
theorem w_room : about1.hasRoom e0.platform room_1 = true :=
  launch0.hasRoom_least _ room_1 (by decide +kernel) (by decide +kernel) (by decide +kernel) (by decide +kernel) (by decide +kernel) (by decide +kernel)
theorem allAtoms_all (ts : List Jvm.Cond) (a : Array Jvm.Value) (st : Jvm.State) : (allAtoms ts).before a st = ts.all (fun c => c.before a st) := by
  induction ts with
  | nil => rfl
  | cons c t ih =>
    show (Jvm.Cond.and c (allAtoms t)).before a st = _
    rw [Jvm.Cond.before_and, ih, List.all_cons]
def words1 : List Jvm.Cond := Jvm.Cond.code x code maxLocals ret :: tables_1
/-- a 'code' word, met by the world's own term for the bytes: nothing is compared byte by byte -/
theorem code_word {y : MethodName} {bytes : ByteArray} {mx : Nat} {rt : Option FieldType} {a : Array Value} {s : State} {m : MethodId} {meth : Method} {c : Code} (h1 : s.methodNamed? y = some m) (h2 : s.vm.method? m = some meth) (h3 : meth.code = some c) (h4 : c.code = bytes)
    (h5 : (c.maxLocals == mx && c.exceptionTable.isEmpty && decide (c.maxStack ≤ mostOperands) && decide (meth.sig.returnType = rt) && !meth.locks && decide (parseMethodDescriptor y.desc = some meth.sig)) = true) : (Jvm.Cond.code y bytes mx rt).before a s = true := by
  simp only [Bool.and_eq_true, beq_iff_eq, Bool.not_eq_true', decide_eq_true_eq] at h5
  obtain ⟨⟨⟨⟨⟨g1, g2⟩, g3⟩, g4⟩, g5⟩, g6⟩ := h5
  simp [Cond.before, Cond.holds, Cond.value, h1, h2, h3, h4, g1, g2, g3, g4, g5, g6]
def isCode : Jvm.Cond → Bool
  | .code _ _ _ _ => true
  | _ => false
theorem all_split {L : List Jvm.Cond} {P : Jvm.Cond → Bool} (h1 : L.all (fun c => isCode c || P c) = true) (h2 : ∀ c ∈ L.filter isCode, P c = true) : L.all P = true := by
  refine List.all_eq_true.mpr fun c hc => ?_
  have h := List.all_eq_true.mp h1 c hc
  rcases Bool.eq_false_or_eq_true (isCode c) with hi | hi
  · exact h2 c (List.mem_filter.mpr ⟨hc, hi⟩)
  · simpa [hi] using h
set_option maxRecDepth 65536 in
theorem w_c0 : (Jvm.Cond.code x code maxLocals ret).before args0 about1 = true := code_word (m := ⟨1, 1⟩) (meth := k1m1) (c := k1c1) (by decide +kernel) rfl rfl rfl (by decide +kernel)
set_option maxRecDepth 65536 in
theorem w_c1 : (Jvm.Cond.code ({ cls := "com/example/evenhand/evenhand/rounding/WholeNumbers", name := "gcd", desc := "(JJ)J" } : Jvm.MethodName) prog_69_method_2_code (11 : Nat) (Option.some Jvm.ClassFile.FieldType.long)).before args0 about1 = true := code_word (m := ⟨2, 1⟩) (meth := k2m1) (c := k2c1) (by decide +kernel) rfl rfl rfl (by decide +kernel)
set_option maxRecDepth 65536 in
theorem w_c2 : (Jvm.Cond.code ({ cls := "java/lang/Long", name := "numberOfTrailingZeros", desc := "(J)I" } : Jvm.MethodName) jdk_35_method_49_code (3 : Nat) (Option.some Jvm.ClassFile.FieldType.int)).before args0 about1 = true := code_word (m := ⟨8, 0⟩) (meth := k8m0) (c := k8c0) (by decide +kernel) rfl rfl rfl (by decide +kernel)
set_option maxRecDepth 65536 in
theorem w_c3 : (Jvm.Cond.code ({ cls := "java/lang/Integer", name := "numberOfTrailingZeros", desc := "(I)I" } : Jvm.MethodName) jdk_33_method_48_code (2 : Nat) (Option.some Jvm.ClassFile.FieldType.int)).before args0 about1 = true := code_word (m := ⟨9, 0⟩) (meth := k9m0) (c := k9c0) (by decide +kernel) rfl rfl rfl (by decide +kernel)
def codes1 : List Jvm.Cond := [Jvm.Cond.code x code maxLocals ret, Jvm.Cond.code ({ cls := "com/example/evenhand/evenhand/rounding/WholeNumbers", name := "gcd", desc := "(JJ)J" } : Jvm.MethodName) prog_69_method_2_code (11 : Nat) (Option.some Jvm.ClassFile.FieldType.long), Jvm.Cond.code ({ cls := "java/lang/Long", name := "numberOfTrailingZeros", desc := "(J)I" } : Jvm.MethodName) jdk_35_method_49_code (3 : Nat) (Option.some Jvm.ClassFile.FieldType.int), Jvm.Cond.code ({ cls := "java/lang/Integer", name := "numberOfTrailingZeros", desc := "(I)I" } : Jvm.MethodName) jdk_33_method_48_code (2 : Nat) (Option.some Jvm.ClassFile.FieldType.int)]
set_option maxRecDepth 65536 in
theorem codes_eq : words1.filter isCode = codes1 := rfl
theorem w_codes : ∀ c ∈ words1.filter isCode, c.before args0 about1 = true := by
  rw [codes_eq]
  intro c hc
  simp only [codes1, List.mem_cons, List.not_mem_nil, or_false] at hc
  rcases hc with rfl | rfl | rfl | rfl
  · exact w_c0
  · exact w_c1
  · exact w_c2
  · exact w_c3
set_option maxRecDepth 65536 in
theorem w_t1 : words1.all (fun c => isCode c || c.before args0 about1) = true := by decide +kernel
theorem w_tables : (allAtoms (Jvm.Cond.code x code maxLocals ret :: tables_1)).before args0 about1 = true := by
  rw [allAtoms_all]
  show words1.all (fun c => c.before args0 about1) = true
  refine all_split ?_ w_codes
  rw [w_t1]
set_option maxRecDepth 65536 in
theorem w_case : (Jvm.Cond.and given_1 narrow_1).before args0 about1 = true := by decide +kernel
theorem w_applies : (headSpec (Jvm.Cond.code x code maxLocals ret :: tables_1) room_1).applies x e0.platform about1 = true :=
  (Spec.applies_iff w_frames).mpr ⟨w_running, w_runnable, w_alone, w_named, w_hears, w_ripe, w_room, w_tables⟩
theorem atStart : AtStart classFile x code maxLocals ret World_1 tables_1 room_1 Calls_1 rest_1 Pre_1 launch0 p0 e0 about1 theMethod args0 below0 :=
  ⟨lists_1, trivial, launch0.admits_env _ _ _, launch0.least_env, fairChoices_fair.cas, fairChoices_fair.clock, w_frames, w_args, w_heap, w_applies, trivial, trivial, w_case⟩
end start1
theorem witness_1 : WitnessClaimed_1 := ⟨start1.p0, start1.e0, start1.about1, start1.theMethod, start1.args0, start1.below0, start1.atStart⟩
end Jvm.Pilot.@@N@@
