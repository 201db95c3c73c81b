import JvmDerived
import JvmDerived.Pilot.@@N@@Statement
import JvmDerived.Pilot.@@N@@Code
set_option linter.unusedVariables false
set_option linter.unusedSimpArgs false
namespace Jvm.RoadKit
open Sem ClassFile Op Lib Jvm.Stand Jvm.Free Jvm.LawKit
section New
variable {p : Program} {l : Launch} {e : Env} {R : Room} {s : State} {m : MethodId} {args : Array Value} {below : List Frame} {meth : Method} {c : Code} {T : State} {locs : List Loc} {cells slots : Nat}
theorem retI (X : Stand p l e R s m args below meth c T locs cells slots) (hx : p.tables.exec = Jvm.exec) {pc : Nat} {Ls : Array Slot} {z : Int32} {rest : List Value} (hret : meth.sig.returnType = some .int) (hd : decode c.code pc = .ok (.ireturn, 1)) {fs : List Frame}
    (hl : ∀ (f : JFrame) (acts : List Action), f.method = m → f.locked = none → f.entered = [] → (doReturn e (T.setTop f) acts (some (.int z))).1 = T.setFrames fs) : Steps p.tables e below (T.setTop (mkF m pc Ls (.int z :: rest))) (T.setFrames fs) := by
  have hm' : T.vm.method? m = some meth := X.method'
  have hn : narrow .int (.int z) = .int z := rfl
  show Steps p.tables e below (T.setTop { method := m, pc := pc, locals := Ls, stack := _ :: rest, locked := none }) _
  jvm_step X.here [X.here.top, hx, hd, hm', hret, hn]
  first | (intro acts; rw [hl _ acts rfl rfl rfl]) | rw [hl _ _ rfl rfl rfl]
  exact Steps.refl _
end New
end Jvm.RoadKit
namespace Jvm.Pilot.@@N@@
open Jvm Jvm.ClassFile Sem Op Lib Jvm.Free Jvm.Stand Jvm.LawKit Jvm.RoadKit Bundle Jvm.Pilot.@@N@@.Jvm.D
section Own
variable {p : Program} {l : Launch} {e : Env} {R : Room} {s : State} {m : MethodId} {args : Array Value} {below : List Frame} {meth : Method} {c : Code} {T T' : State} {locs : List Loc} {cells slots : Nat} {Q : Option Value → Heap → List Loc → Prop} {kc ks : Nat} {pc pc' : Nat} {ls : Array Slot} {st : List Value}
/-- from T with the frame g on top the run comes to its end, as Q asks -/
def own_Ends (p : Program) (e : Env) (below : List Frame) (s : State) (Q : Option Value → Heap → List Loc → Prop) (kc ks : Nat) (T : State) (g : JFrame) : Prop :=
  ∃ s₂ o, Steps p.tables e below (T.setTop g) s₂ ∧ s₂.status = .running ∧ Ended s₂ below o ∧ ∃ v L, o = .returned v ∧ Q v s₂.heap L ∧ FrameEnd s o s₂ L kc ks
theorem own_go {g g' : JFrame} (h : ∀ t, Steps p.tables e below (T'.setTop g') t → Steps p.tables e below (T.setTop g) t) (K : own_Ends p e below s Q kc ks T' g') : own_Ends p e below s Q kc ks T g := by
  obtain ⟨s2, o, h1, r⟩ := K
  exact ⟨s2, o, h _ h1, r⟩
theorem own_cast {g g' : JFrame} (q : g = g') (K : own_Ends p e below s Q kc ks T g') : own_Ends p e below s Q kc ks T g := q ▸ K
theorem own_leave {v : Option Value} {g : JFrame} (X : Stand p l e R s m args below meth c T locs cells slots) (hlk : meth.locks = false) (hv : meth.sig.returnType = none → v = none)
    (hs : ∀ fs, (∀ (f : JFrame) (acts : List Action), f.method = m → f.locked = none → f.entered = [] → (doReturn e (T.setTop f) acts v).1 = T.setFrames fs) → Steps p.tables e below (T.setTop g) (T.setFrames fs)) (hc : cells ≤ kc) (hn : slots ≤ ks) (hQ : Q v T.heap locs) : own_Ends p e below s Q kc ks T g := by
  obtain ⟨fs, hr, hrun, hended, hW, hsame⟩ := X.leave (v := v) hv hlk
  exact ⟨_, _, hs fs hr, hrun, hended, _, _, rfl, hQ, ⟨_, rfl⟩, hW, hsame.mono hc hn⟩
theorem own_retI (X : Stand p l e R s m args below meth c T locs cells slots) (hx : p.tables.exec = Jvm.exec) (hlk : meth.locks = false) {z : Int32} (hret : meth.sig.returnType = some .int) (hd : decode c.code pc = .ok (.ireturn, 1)) (hc : cells ≤ kc) (hn : slots ≤ ks) (hQ : Q (some (.int z)) T.heap locs) : own_Ends p e below s Q kc ks T (mkF m pc ls (.int z :: st)) :=
  own_leave X hlk (fun h => by rw [hret] at h; cases h) (fun fs hr => retI X hx hret hd hr) hc hn hQ
theorem own_retN (X : Stand p l e R s m args below meth c T locs cells slots) (hx : p.tables.exec = Jvm.exec) (hlk : meth.locks = false) {z : Int32} {ty : FieldType} (hret : meth.sig.returnType = some ty) (ht : ty = .boolean ∨ ty = .byte ∨ ty = .char ∨ ty = .short) (hd : decode c.code pc = .ok (.ireturn, 1)) (hc : cells ≤ kc) (hn : slots ≤ ks) (hQ : Q (some (.int (nar ty z))) T.heap locs) : own_Ends p e below s Q kc ks T (mkF m pc ls (.int z :: st)) :=
  own_leave X hlk (fun h => by rw [hret] at h; cases h) (fun fs hr => retN X hx (t := ty) hret ht hd hr) hc hn hQ
theorem own_retL (X : Stand p l e R s m args below meth c T locs cells slots) (hx : p.tables.exec = Jvm.exec) (hlk : meth.locks = false) {z : Int64} (hret : meth.sig.returnType = some .long) (hd : decode c.code pc = .ok (.lreturn, 1)) (hc : cells ≤ kc) (hn : slots ≤ ks) (hQ : Q (some (.long z)) T.heap locs) : own_Ends p e below s Q kc ks T (mkF m pc ls [.long z]) :=
  own_leave X hlk (fun h => by rw [hret] at h; cases h) (fun fs hr => retOut X hx (t := .long) hret rfl (Or.inr (Or.inl ⟨rfl, rfl, _, rfl⟩)) hd hr) hc hn hQ
theorem own_retD (X : Stand p l e R s m args below meth c T locs cells slots) (hx : p.tables.exec = Jvm.exec) (hlk : meth.locks = false) {z : UInt64} (hret : meth.sig.returnType = some .double) (hd : decode c.code pc = .ok (.dreturn, 1)) (hc : cells ≤ kc) (hn : slots ≤ ks) (hQ : Q (some (.double z)) T.heap locs) : own_Ends p e below s Q kc ks T (mkF m pc ls [.double z]) :=
  own_leave X hlk (fun h => by rw [hret] at h; cases h) (fun fs hr => retOut X hx (t := .double) hret rfl (Or.inr (Or.inr (Or.inl ⟨rfl, rfl, _, rfl⟩))) hd hr) hc hn hQ
theorem own_retA (X : Stand p l e R s m args below meth c T locs cells slots) (hx : p.tables.exec = Jvm.exec) (hlk : meth.locks = false) {w : Value} {ty : FieldType} (hret : meth.sig.returnType = some ty) (ht : ty.isReference = true) (hw : w.isRef = true) (hn1 : narrow ty w = w) (hd : decode c.code pc = .ok (.areturn, 1)) (hc : cells ≤ kc) (hn : slots ≤ ks) (hQ : Q (some w) T.heap locs) : own_Ends p e below s Q kc ks T (mkF m pc ls (w :: st)) :=
  own_leave X hlk (fun h => by rw [hret] at h; cases h) (fun fs hr => retOut X hx (t := ty) hret hn1 (Or.inr (Or.inr (Or.inr (Or.inr ⟨rfl, ht, hw⟩)))) hd hr) hc hn hQ
theorem own_retV (X : Stand p l e R s m args below meth c T locs cells slots) (hx : p.tables.exec = Jvm.exec) (hlk : meth.locks = false) (hret : meth.sig.returnType = none) (hd : decode c.code pc = .ok (.return_, 1)) (hc : cells ≤ kc) (hn : slots ≤ ks) (hQ : Q none T.heap locs) : own_Ends p e below s Q kc ks T (mkF m pc ls []) :=
  own_leave X hlk (fun _ => rfl) (fun fs hr => X.returnOut hx hret hd hr) hc hn hQ
theorem own_iloadN (X : Stand p l e R s m args below meth c T locs cells slots) (hx : p.tables.exec = Jvm.exec) {k : Fin 4} {v : Int32} (hd : decode c.code pc = .ok (.iload_n k, 1)) (hp : pc + 1 = pc') (hl : ls[k.val]? = some (.val (.int v))) (K : own_Ends p e below s Q kc ks T (mkF m pc' ls (.int v :: st))) : own_Ends p e below s Q kc ks T (mkF m pc ls st) := by
  subst hp
  exact own_go (fun t k => XS.iloadN X.here hx rfl hd hl k) K
theorem own_iload (X : Stand p l e R s m args below meth c T locs cells slots) (hx : p.tables.exec = Jvm.exec) {k : Nat} {v : Int32} (hd : decode c.code pc = .ok (.iload k, 2)) (hp : pc + 2 = pc') (hl : ls[k]? = some (.val (.int v))) (K : own_Ends p e below s Q kc ks T (mkF m pc' ls (.int v :: st))) : own_Ends p e below s Q kc ks T (mkF m pc ls st) := by
  subst hp
  exact own_go (fun t k => XS.iload X.here hx rfl hd hl k) K
theorem own_istoreN (X : Stand p l e R s m args below meth c T locs cells slots) (hx : p.tables.exec = Jvm.exec) {k : Fin 4} {v : Int32} {l' : Array Slot} (hd : decode c.code pc = .ok (.istore_n k, 1)) (hp : pc + 1 = pc') (hl : storeLocals ls k.val (.int v) = some l') (K : own_Ends p e below s Q kc ks T (mkF m pc' l' st)) : own_Ends p e below s Q kc ks T (mkF m pc ls (.int v :: st)) := by
  subst hp
  exact own_go (fun t k => XS.istoreN X.here hx rfl hd rfl hl k) K
theorem own_istore (X : Stand p l e R s m args below meth c T locs cells slots) (hx : p.tables.exec = Jvm.exec) {k : Nat} {v : Int32} {l' : Array Slot} (hd : decode c.code pc = .ok (.istore k, 2)) (hp : pc + 2 = pc') (hl : storeLocals ls k (.int v) = some l') (K : own_Ends p e below s Q kc ks T (mkF m pc' l' st)) : own_Ends p e below s Q kc ks T (mkF m pc ls (.int v :: st)) := by
  subst hp
  exact own_go (fun t k => XS.istore X.here hx rfl hd rfl hl k) K
theorem own_lloadN (X : Stand p l e R s m args below meth c T locs cells slots) (hx : p.tables.exec = Jvm.exec) {k : Fin 4} {v : Int64} (hd : decode c.code pc = .ok (.lload_n k, 1)) (hp : pc + 1 = pc') (hl : ls[k.val]? = some (.val (.long v))) (K : own_Ends p e below s Q kc ks T (mkF m pc' ls (.long v :: st))) : own_Ends p e below s Q kc ks T (mkF m pc ls st) := by
  subst hp
  exact own_go (fun t k => XS.lloadN X.here hx rfl hd hl k) K
theorem own_lload (X : Stand p l e R s m args below meth c T locs cells slots) (hx : p.tables.exec = Jvm.exec) {k : Nat} {v : Int64} (hd : decode c.code pc = .ok (.lload k, 2)) (hp : pc + 2 = pc') (hl : ls[k]? = some (.val (.long v))) (K : own_Ends p e below s Q kc ks T (mkF m pc' ls (.long v :: st))) : own_Ends p e below s Q kc ks T (mkF m pc ls st) := by
  subst hp
  exact own_go (fun t k => XS.lload X.here hx rfl hd hl k) K
theorem own_lstoreN (X : Stand p l e R s m args below meth c T locs cells slots) (hx : p.tables.exec = Jvm.exec) {k : Fin 4} {v : Int64} {l' : Array Slot} (hd : decode c.code pc = .ok (.lstore_n k, 1)) (hp : pc + 1 = pc') (hl : storeLocals ls k.val (.long v) = some l') (K : own_Ends p e below s Q kc ks T (mkF m pc' l' st)) : own_Ends p e below s Q kc ks T (mkF m pc ls (.long v :: st)) := by
  subst hp
  exact own_go (fun t k => XS.lstoreN X.here hx rfl hd rfl hl k) K
theorem own_lstore (X : Stand p l e R s m args below meth c T locs cells slots) (hx : p.tables.exec = Jvm.exec) {k : Nat} {v : Int64} {l' : Array Slot} (hd : decode c.code pc = .ok (.lstore k, 2)) (hp : pc + 2 = pc') (hl : storeLocals ls k (.long v) = some l') (K : own_Ends p e below s Q kc ks T (mkF m pc' l' st)) : own_Ends p e below s Q kc ks T (mkF m pc ls (.long v :: st)) := by
  subst hp
  exact own_go (fun t k => XS.lstore X.here hx rfl hd rfl hl k) K
theorem own_dloadN (X : Stand p l e R s m args below meth c T locs cells slots) (hx : p.tables.exec = Jvm.exec) {k : Fin 4} {v : UInt64} (hd : decode c.code pc = .ok (.dload_n k, 1)) (hp : pc + 1 = pc') (hl : ls[k.val]? = some (.val (.double v))) (K : own_Ends p e below s Q kc ks T (mkF m pc' ls (.double v :: st))) : own_Ends p e below s Q kc ks T (mkF m pc ls st) := by
  subst hp
  exact own_go (fun t k => XS.dloadN X.here hx rfl hd hl k) K
theorem own_dload (X : Stand p l e R s m args below meth c T locs cells slots) (hx : p.tables.exec = Jvm.exec) {k : Nat} {v : UInt64} (hd : decode c.code pc = .ok (.dload k, 2)) (hp : pc + 2 = pc') (hl : ls[k]? = some (.val (.double v))) (K : own_Ends p e below s Q kc ks T (mkF m pc' ls (.double v :: st))) : own_Ends p e below s Q kc ks T (mkF m pc ls st) := by
  subst hp
  exact own_go (fun t k => XS.dload X.here hx rfl hd hl k) K
theorem own_dstoreN (X : Stand p l e R s m args below meth c T locs cells slots) (hx : p.tables.exec = Jvm.exec) {k : Fin 4} {v : UInt64} {l' : Array Slot} (hd : decode c.code pc = .ok (.dstore_n k, 1)) (hp : pc + 1 = pc') (hl : storeLocals ls k.val (.double v) = some l') (K : own_Ends p e below s Q kc ks T (mkF m pc' l' st)) : own_Ends p e below s Q kc ks T (mkF m pc ls (.double v :: st)) := by
  subst hp
  exact own_go (fun t k => XS.dstoreN X.here hx rfl hd rfl hl k) K
theorem own_dstore (X : Stand p l e R s m args below meth c T locs cells slots) (hx : p.tables.exec = Jvm.exec) {k : Nat} {v : UInt64} {l' : Array Slot} (hd : decode c.code pc = .ok (.dstore k, 2)) (hp : pc + 2 = pc') (hl : storeLocals ls k (.double v) = some l') (K : own_Ends p e below s Q kc ks T (mkF m pc' l' st)) : own_Ends p e below s Q kc ks T (mkF m pc ls (.double v :: st)) := by
  subst hp
  exact own_go (fun t k => XS.dstore X.here hx rfl hd rfl hl k) K
theorem own_aloadN (X : Stand p l e R s m args below meth c T locs cells slots) (hx : p.tables.exec = Jvm.exec) {k : Fin 4} {v : Value} (hd : decode c.code pc = .ok (.aload_n k, 1)) (hp : pc + 1 = pc') (hl : ls[k.val]? = some (.val v)) (hv : v.isRef = true) (K : own_Ends p e below s Q kc ks T (mkF m pc' ls (v :: st))) : own_Ends p e below s Q kc ks T (mkF m pc ls st) := by
  subst hp
  exact own_go (fun t k => XS.aloadN X.here hx rfl hd hl hv k) K
theorem own_aload (X : Stand p l e R s m args below meth c T locs cells slots) (hx : p.tables.exec = Jvm.exec) {k : Nat} {v : Value} (hd : decode c.code pc = .ok (.aload k, 2)) (hp : pc + 2 = pc') (hl : ls[k]? = some (.val v)) (hv : v.isRef = true) (K : own_Ends p e below s Q kc ks T (mkF m pc' ls (v :: st))) : own_Ends p e below s Q kc ks T (mkF m pc ls st) := by
  subst hp
  exact own_go (fun t k => XS.aload X.here hx rfl hd hl hv k) K
theorem own_astoreN (X : Stand p l e R s m args below meth c T locs cells slots) (hx : p.tables.exec = Jvm.exec) {k : Fin 4} {v : Value} {l' : Array Slot} (hd : decode c.code pc = .ok (.astore_n k, 1)) (hp : pc + 1 = pc') (hv : v.isRef = true) (hl : storeLocals ls k.val v = some l') (K : own_Ends p e below s Q kc ks T (mkF m pc' l' st)) : own_Ends p e below s Q kc ks T (mkF m pc ls (v :: st)) := by
  subst hp
  exact own_go (fun t k => XS.astoreN X.here hx rfl hd rfl hv hl k) K
theorem own_astore (X : Stand p l e R s m args below meth c T locs cells slots) (hx : p.tables.exec = Jvm.exec) {k : Nat} {v : Value} {l' : Array Slot} (hd : decode c.code pc = .ok (.astore k, 2)) (hp : pc + 2 = pc') (hv : v.isRef = true) (hl : storeLocals ls k v = some l') (K : own_Ends p e below s Q kc ks T (mkF m pc' l' st)) : own_Ends p e below s Q kc ks T (mkF m pc ls (v :: st)) := by
  subst hp
  exact own_go (fun t k => XS.astore X.here hx rfl hd rfl hv hl k) K
theorem own_iconst (X : Stand p l e R s m args below meth c T locs cells slots) (hx : p.tables.exec = Jvm.exec) {i : Int} {z : Int32} (hd : decode c.code pc = .ok (.iconst i, 1)) (hp : pc + 1 = pc') (hz : Int32.ofInt i = z) (K : own_Ends p e below s Q kc ks T (mkF m pc' ls (.int z :: st))) : own_Ends p e below s Q kc ks T (mkF m pc ls st) := by
  subst hp hz
  exact own_go (fun t k => XS.iconst X.here hx rfl hd k) K
theorem own_bipush (X : Stand p l e R s m args below meth c T locs cells slots) (hx : p.tables.exec = Jvm.exec) {i : Int} {z : Int32} (hd : decode c.code pc = .ok (.bipush i, 2)) (hp : pc + 2 = pc') (hz : (Int8.ofInt i).toInt32 = z) (K : own_Ends p e below s Q kc ks T (mkF m pc' ls (.int z :: st))) : own_Ends p e below s Q kc ks T (mkF m pc ls st) := by
  subst hp hz
  exact own_go (fun t k => XS.bipush X.here hx rfl hd k) K
theorem own_sipush (X : Stand p l e R s m args below meth c T locs cells slots) (hx : p.tables.exec = Jvm.exec) {i : Int} {z : Int32} (hd : decode c.code pc = .ok (.sipush i, 3)) (hp : pc + 3 = pc') (hz : (Int16.ofInt i).toInt32 = z) (K : own_Ends p e below s Q kc ks T (mkF m pc' ls (.int z :: st))) : own_Ends p e below s Q kc ks T (mkF m pc ls st) := by
  subst hp hz
  exact own_go (fun t k => XS.sipush X.here hx rfl hd k) K
theorem own_lconst (X : Stand p l e R s m args below meth c T locs cells slots) (hx : p.tables.exec = Jvm.exec) {k : Fin 2} {z : Int64} (hd : decode c.code pc = .ok (.lconst k, 1)) (hp : pc + 1 = pc') (hz : Int64.ofNat k = z) (K : own_Ends p e below s Q kc ks T (mkF m pc' ls (.long z :: st))) : own_Ends p e below s Q kc ks T (mkF m pc ls st) := by
  subst hp hz
  exact own_go (fun t k => XS.lconst X.here hx rfl hd k) K
theorem own_anull (X : Stand p l e R s m args below meth c T locs cells slots) (hx : p.tables.exec = Jvm.exec) (hd : decode c.code pc = .ok (.aconst_null, 1)) (hp : pc + 1 = pc')  (K : own_Ends p e below s Q kc ks T (mkF m pc' ls (.null :: st))) : own_Ends p e below s Q kc ks T (mkF m pc ls st) := by
  subst hp
  exact own_go (fun t k => XS.aconstNull X.here hx rfl hd k) K
theorem own_iadd (X : Stand p l e R s m args below meth c T locs cells slots) (hx : p.tables.exec = Jvm.exec) {x y z : Int32} (hd : decode c.code pc = .ok (.iadd, 1)) (hp : pc + 1 = pc') (hz : x + y = z) (K : own_Ends p e below s Q kc ks T (mkF m pc' ls (.int z :: st))) : own_Ends p e below s Q kc ks T (mkF m pc ls (.int y :: .int x :: st)) := by
  subst hp hz
  exact own_go (fun t k => XS.iadd X.here hx rfl hd rfl k) K
theorem own_ladd (X : Stand p l e R s m args below meth c T locs cells slots) (hx : p.tables.exec = Jvm.exec) {x y z : Int64} (hd : decode c.code pc = .ok (.ladd, 1)) (hp : pc + 1 = pc') (hz : x + y = z) (K : own_Ends p e below s Q kc ks T (mkF m pc' ls (.long z :: st))) : own_Ends p e below s Q kc ks T (mkF m pc ls (.long y :: .long x :: st)) := by
  subst hp hz
  exact own_go (fun t k => XS.ladd X.here hx rfl hd rfl k) K
theorem own_isub (X : Stand p l e R s m args below meth c T locs cells slots) (hx : p.tables.exec = Jvm.exec) {x y z : Int32} (hd : decode c.code pc = .ok (.isub, 1)) (hp : pc + 1 = pc') (hz : x - y = z) (K : own_Ends p e below s Q kc ks T (mkF m pc' ls (.int z :: st))) : own_Ends p e below s Q kc ks T (mkF m pc ls (.int y :: .int x :: st)) := by
  subst hp hz
  exact own_go (fun t k => XS.isub X.here hx rfl hd rfl k) K
theorem own_lsub (X : Stand p l e R s m args below meth c T locs cells slots) (hx : p.tables.exec = Jvm.exec) {x y z : Int64} (hd : decode c.code pc = .ok (.lsub, 1)) (hp : pc + 1 = pc') (hz : x - y = z) (K : own_Ends p e below s Q kc ks T (mkF m pc' ls (.long z :: st))) : own_Ends p e below s Q kc ks T (mkF m pc ls (.long y :: .long x :: st)) := by
  subst hp hz
  exact own_go (fun t k => XS.lsub X.here hx rfl hd rfl k) K
theorem own_imul (X : Stand p l e R s m args below meth c T locs cells slots) (hx : p.tables.exec = Jvm.exec) {x y z : Int32} (hd : decode c.code pc = .ok (.imul, 1)) (hp : pc + 1 = pc') (hz : x * y = z) (K : own_Ends p e below s Q kc ks T (mkF m pc' ls (.int z :: st))) : own_Ends p e below s Q kc ks T (mkF m pc ls (.int y :: .int x :: st)) := by
  subst hp hz
  exact own_go (fun t k => XS.imul X.here hx rfl hd rfl k) K
theorem own_lmul (X : Stand p l e R s m args below meth c T locs cells slots) (hx : p.tables.exec = Jvm.exec) {x y z : Int64} (hd : decode c.code pc = .ok (.lmul, 1)) (hp : pc + 1 = pc') (hz : x * y = z) (K : own_Ends p e below s Q kc ks T (mkF m pc' ls (.long z :: st))) : own_Ends p e below s Q kc ks T (mkF m pc ls (.long y :: .long x :: st)) := by
  subst hp hz
  exact own_go (fun t k => XS.lmul X.here hx rfl hd rfl k) K
theorem own_iand (X : Stand p l e R s m args below meth c T locs cells slots) (hx : p.tables.exec = Jvm.exec) {x y z : Int32} (hd : decode c.code pc = .ok (.iand, 1)) (hp : pc + 1 = pc') (hz : x &&& y = z) (K : own_Ends p e below s Q kc ks T (mkF m pc' ls (.int z :: st))) : own_Ends p e below s Q kc ks T (mkF m pc ls (.int y :: .int x :: st)) := by
  subst hp hz
  exact own_go (fun t k => XS.iand X.here hx rfl hd rfl k) K
theorem own_land (X : Stand p l e R s m args below meth c T locs cells slots) (hx : p.tables.exec = Jvm.exec) {x y z : Int64} (hd : decode c.code pc = .ok (.land, 1)) (hp : pc + 1 = pc') (hz : x &&& y = z) (K : own_Ends p e below s Q kc ks T (mkF m pc' ls (.long z :: st))) : own_Ends p e below s Q kc ks T (mkF m pc ls (.long y :: .long x :: st)) := by
  subst hp hz
  exact own_go (fun t k => XS.land X.here hx rfl hd rfl k) K
theorem own_ior (X : Stand p l e R s m args below meth c T locs cells slots) (hx : p.tables.exec = Jvm.exec) {x y z : Int32} (hd : decode c.code pc = .ok (.ior, 1)) (hp : pc + 1 = pc') (hz : x ||| y = z) (K : own_Ends p e below s Q kc ks T (mkF m pc' ls (.int z :: st))) : own_Ends p e below s Q kc ks T (mkF m pc ls (.int y :: .int x :: st)) := by
  subst hp hz
  exact own_go (fun t k => XS.ior X.here hx rfl hd rfl k) K
theorem own_lor (X : Stand p l e R s m args below meth c T locs cells slots) (hx : p.tables.exec = Jvm.exec) {x y z : Int64} (hd : decode c.code pc = .ok (.lor, 1)) (hp : pc + 1 = pc') (hz : x ||| y = z) (K : own_Ends p e below s Q kc ks T (mkF m pc' ls (.long z :: st))) : own_Ends p e below s Q kc ks T (mkF m pc ls (.long y :: .long x :: st)) := by
  subst hp hz
  exact own_go (fun t k => XS.lor X.here hx rfl hd rfl k) K
theorem own_ixor (X : Stand p l e R s m args below meth c T locs cells slots) (hx : p.tables.exec = Jvm.exec) {x y z : Int32} (hd : decode c.code pc = .ok (.ixor, 1)) (hp : pc + 1 = pc') (hz : x ^^^ y = z) (K : own_Ends p e below s Q kc ks T (mkF m pc' ls (.int z :: st))) : own_Ends p e below s Q kc ks T (mkF m pc ls (.int y :: .int x :: st)) := by
  subst hp hz
  exact own_go (fun t k => XS.ixor X.here hx rfl hd rfl k) K
theorem own_lxor (X : Stand p l e R s m args below meth c T locs cells slots) (hx : p.tables.exec = Jvm.exec) {x y z : Int64} (hd : decode c.code pc = .ok (.lxor, 1)) (hp : pc + 1 = pc') (hz : x ^^^ y = z) (K : own_Ends p e below s Q kc ks T (mkF m pc' ls (.long z :: st))) : own_Ends p e below s Q kc ks T (mkF m pc ls (.long y :: .long x :: st)) := by
  subst hp hz
  exact own_go (fun t k => XS.lxor X.here hx rfl hd rfl k) K
theorem own_ishl (X : Stand p l e R s m args below meth c T locs cells slots) (hx : p.tables.exec = Jvm.exec) {x y z : Int32} (hd : decode c.code pc = .ok (.ishl, 1)) (hp : pc + 1 = pc') (hz : x <<< (y &&& 31) = z) (K : own_Ends p e below s Q kc ks T (mkF m pc' ls (.int z :: st))) : own_Ends p e below s Q kc ks T (mkF m pc ls (.int y :: .int x :: st)) := by
  subst hp hz
  exact own_go (fun t k => XS.ishl X.here hx rfl hd rfl k) K
theorem own_ishr (X : Stand p l e R s m args below meth c T locs cells slots) (hx : p.tables.exec = Jvm.exec) {x y z : Int32} (hd : decode c.code pc = .ok (.ishr, 1)) (hp : pc + 1 = pc') (hz : x >>> (y &&& 31) = z) (K : own_Ends p e below s Q kc ks T (mkF m pc' ls (.int z :: st))) : own_Ends p e below s Q kc ks T (mkF m pc ls (.int y :: .int x :: st)) := by
  subst hp hz
  exact own_go (fun t k => XS.ishr X.here hx rfl hd rfl k) K
theorem own_iushr (X : Stand p l e R s m args below meth c T locs cells slots) (hx : p.tables.exec = Jvm.exec) {x y z : Int32} (hd : decode c.code pc = .ok (.iushr, 1)) (hp : pc + 1 = pc') (hz : (x.toUInt32 >>> (y &&& 31).toUInt32).toInt32 = z) (K : own_Ends p e below s Q kc ks T (mkF m pc' ls (.int z :: st))) : own_Ends p e below s Q kc ks T (mkF m pc ls (.int y :: .int x :: st)) := by
  subst hp hz
  exact own_go (fun t k => XS.iushr X.here hx rfl hd rfl k) K
theorem own_lshl (X : Stand p l e R s m args below meth c T locs cells slots) (hx : p.tables.exec = Jvm.exec) {x z : Int64} {y : Int32} (hd : decode c.code pc = .ok (.lshl, 1)) (hp : pc + 1 = pc') (hz : x <<< (y &&& 0x3f).toInt64 = z) (K : own_Ends p e below s Q kc ks T (mkF m pc' ls (.long z :: st))) : own_Ends p e below s Q kc ks T (mkF m pc ls (.int y :: .long x :: st)) := by
  subst hp hz
  exact own_go (fun t k => XS.lshl X.here hx rfl hd rfl k) K
theorem own_lshr (X : Stand p l e R s m args below meth c T locs cells slots) (hx : p.tables.exec = Jvm.exec) {x z : Int64} {y : Int32} (hd : decode c.code pc = .ok (.lshr, 1)) (hp : pc + 1 = pc') (hz : x >>> (y &&& 0x3f).toInt64 = z) (K : own_Ends p e below s Q kc ks T (mkF m pc' ls (.long z :: st))) : own_Ends p e below s Q kc ks T (mkF m pc ls (.int y :: .long x :: st)) := by
  subst hp hz
  exact own_go (fun t k => XS.lshr X.here hx rfl hd rfl k) K
theorem own_lushr (X : Stand p l e R s m args below meth c T locs cells slots) (hx : p.tables.exec = Jvm.exec) {x z : Int64} {y : Int32} (hd : decode c.code pc = .ok (.lushr, 1)) (hp : pc + 1 = pc') (hz : (x.toUInt64 >>> (y &&& 0x3f).toInt64.toUInt64).toInt64 = z) (K : own_Ends p e below s Q kc ks T (mkF m pc' ls (.long z :: st))) : own_Ends p e below s Q kc ks T (mkF m pc ls (.int y :: .long x :: st)) := by
  subst hp hz
  exact own_go (fun t k => XS.lushr X.here hx rfl hd rfl k) K
theorem own_idiv (X : Stand p l e R s m args below meth c T locs cells slots) (hx : p.tables.exec = Jvm.exec) {x y z : Int32} (hd : decode c.code pc = .ok (.idiv, 1)) (hp : pc + 1 = pc') (hy : y ≠ 0) (hz : x / y = z) (K : own_Ends p e below s Q kc ks T (mkF m pc' ls (.int z :: st))) : own_Ends p e below s Q kc ks T (mkF m pc ls (.int y :: .int x :: st)) := by
  subst hp hz
  exact own_go (fun t k => XS.idiv X.here hx rfl hd rfl hy k) K
theorem own_irem (X : Stand p l e R s m args below meth c T locs cells slots) (hx : p.tables.exec = Jvm.exec) {x y z : Int32} (hd : decode c.code pc = .ok (.irem, 1)) (hp : pc + 1 = pc') (hy : y ≠ 0) (hz : x % y = z) (K : own_Ends p e below s Q kc ks T (mkF m pc' ls (.int z :: st))) : own_Ends p e below s Q kc ks T (mkF m pc ls (.int y :: .int x :: st)) := by
  subst hp hz
  exact own_go (fun t k => iremM (g := mkF m pc ls (.int y :: .int x :: st)) X hx rfl hd rfl hy k) K
theorem own_ldiv (X : Stand p l e R s m args below meth c T locs cells slots) (hx : p.tables.exec = Jvm.exec) {x y z : Int64} (hd : decode c.code pc = .ok (.ldiv, 1)) (hp : pc + 1 = pc') (hy : y ≠ 0) (hz : x / y = z) (K : own_Ends p e below s Q kc ks T (mkF m pc' ls (.long z :: st))) : own_Ends p e below s Q kc ks T (mkF m pc ls (.long y :: .long x :: st)) := by
  subst hp hz
  exact own_go (fun t k => XS.ldiv X.here hx rfl hd rfl hy k) K
theorem own_lrem (X : Stand p l e R s m args below meth c T locs cells slots) (hx : p.tables.exec = Jvm.exec) {x y z : Int64} (hd : decode c.code pc = .ok (.lrem, 1)) (hp : pc + 1 = pc') (hy : y ≠ 0) (hz : x - (x / y) * y = z) (K : own_Ends p e below s Q kc ks T (mkF m pc' ls (.long z :: st))) : own_Ends p e below s Q kc ks T (mkF m pc ls (.long y :: .long x :: st)) := by
  subst hp hz
  exact own_go (fun t k => XS.lrem X.here hx rfl hd rfl hy k) K
theorem own_ineg (X : Stand p l e R s m args below meth c T locs cells slots) (hx : p.tables.exec = Jvm.exec) {x : Int32} {z : Int32} (hd : decode c.code pc = .ok (.ineg, 1)) (hp : pc + 1 = pc') (hz : -x = z) (K : own_Ends p e below s Q kc ks T (mkF m pc' ls (.int z :: st))) : own_Ends p e below s Q kc ks T (mkF m pc ls (.int x :: st)) := by
  subst hp hz
  exact own_go (fun t k => XS.ineg X.here hx rfl hd rfl k) K
theorem own_lneg (X : Stand p l e R s m args below meth c T locs cells slots) (hx : p.tables.exec = Jvm.exec) {x : Int64} {z : Int64} (hd : decode c.code pc = .ok (.lneg, 1)) (hp : pc + 1 = pc') (hz : -x = z) (K : own_Ends p e below s Q kc ks T (mkF m pc' ls (.long z :: st))) : own_Ends p e below s Q kc ks T (mkF m pc ls (.long x :: st)) := by
  subst hp hz
  exact own_go (fun t k => XS.lneg X.here hx rfl hd rfl k) K
theorem own_i2l (X : Stand p l e R s m args below meth c T locs cells slots) (hx : p.tables.exec = Jvm.exec) {x : Int32} {z : Int64} (hd : decode c.code pc = .ok (.i2l, 1)) (hp : pc + 1 = pc') (hz : x.toInt64 = z) (K : own_Ends p e below s Q kc ks T (mkF m pc' ls (.long z :: st))) : own_Ends p e below s Q kc ks T (mkF m pc ls (.int x :: st)) := by
  subst hp hz
  exact own_go (fun t k => XS.i2l X.here hx rfl hd rfl k) K
theorem own_l2i (X : Stand p l e R s m args below meth c T locs cells slots) (hx : p.tables.exec = Jvm.exec) {x : Int64} {z : Int32} (hd : decode c.code pc = .ok (.l2i, 1)) (hp : pc + 1 = pc') (hz : x.toInt32 = z) (K : own_Ends p e below s Q kc ks T (mkF m pc' ls (.int z :: st))) : own_Ends p e below s Q kc ks T (mkF m pc ls (.long x :: st)) := by
  subst hp hz
  exact own_go (fun t k => XS.l2i X.here hx rfl hd rfl k) K
theorem own_i2b (X : Stand p l e R s m args below meth c T locs cells slots) (hx : p.tables.exec = Jvm.exec) {x : Int32} {z : Int32} (hd : decode c.code pc = .ok (.i2b, 1)) (hp : pc + 1 = pc') (hz : x.toInt8.toInt32 = z) (K : own_Ends p e below s Q kc ks T (mkF m pc' ls (.int z :: st))) : own_Ends p e below s Q kc ks T (mkF m pc ls (.int x :: st)) := by
  subst hp hz
  exact own_go (fun t k => XS.i2b X.here hx rfl hd rfl k) K
theorem own_i2s (X : Stand p l e R s m args below meth c T locs cells slots) (hx : p.tables.exec = Jvm.exec) {x : Int32} {z : Int32} (hd : decode c.code pc = .ok (.i2s, 1)) (hp : pc + 1 = pc') (hz : x.toInt16.toInt32 = z) (K : own_Ends p e below s Q kc ks T (mkF m pc' ls (.int z :: st))) : own_Ends p e below s Q kc ks T (mkF m pc ls (.int x :: st)) := by
  subst hp hz
  exact own_go (fun t k => XS.i2s X.here hx rfl hd rfl k) K
theorem own_i2c (X : Stand p l e R s m args below meth c T locs cells slots) (hx : p.tables.exec = Jvm.exec) {x : Int32} {z : Int32} (hd : decode c.code pc = .ok (.i2c, 1)) (hp : pc + 1 = pc') (hz : x.toUInt32.toUInt16.toUInt32.toInt32 = z) (K : own_Ends p e below s Q kc ks T (mkF m pc' ls (.int z :: st))) : own_Ends p e below s Q kc ks T (mkF m pc ls (.int x :: st)) := by
  subst hp hz
  exact own_go (fun t k => XS.i2c X.here hx rfl hd rfl k) K
theorem own_i2d (X : Stand p l e R s m args below meth c T locs cells slots) (hx : p.tables.exec = Jvm.exec) {x : Int32} {z : UInt64} (hd : decode c.code pc = .ok (.i2d, 1)) (hp : pc + 1 = pc') (hz : FP.i2d x = z) (K : own_Ends p e below s Q kc ks T (mkF m pc' ls (.double z :: st))) : own_Ends p e below s Q kc ks T (mkF m pc ls (.int x :: st)) := by
  subst hp hz
  exact own_go (fun t k => XS.i2dS (g := mkF m pc ls (.int x :: st)) X.here hx rfl hd rfl rfl k) K
theorem own_dadd (X : Stand p l e R s m args below meth c T locs cells slots) (hx : p.tables.exec = Jvm.exec) {x y z : UInt64} (hd : decode c.code pc = .ok (.dadd, 1)) (hp : pc + 1 = pc') (hn : Jvm.Free.Fl.NoNaN64 (FP.dadd x y)) (hz : FP.dadd x y = z) (K : own_Ends p e below s Q kc ks T (mkF m pc' ls (.double z :: st))) : own_Ends p e below s Q kc ks T (mkF m pc ls (.double y :: .double x :: st)) := by
  subst hp hz
  exact own_go (fun t k => XS.daddS (g := mkF m pc ls (.double y :: .double x :: st)) X.here hx rfl hd rfl hn rfl k) K
theorem own_dmul (X : Stand p l e R s m args below meth c T locs cells slots) (hx : p.tables.exec = Jvm.exec) {x y z : UInt64} (hd : decode c.code pc = .ok (.dmul, 1)) (hp : pc + 1 = pc') (hn : Jvm.Free.Fl.NoNaN64 (FP.dmul x y)) (hz : FP.dmul x y = z) (K : own_Ends p e below s Q kc ks T (mkF m pc' ls (.double z :: st))) : own_Ends p e below s Q kc ks T (mkF m pc ls (.double y :: .double x :: st)) := by
  subst hp hz
  exact own_go (fun t k => XS.dmulS (g := mkF m pc ls (.double y :: .double x :: st)) X.here hx rfl hd rfl hn rfl k) K
theorem own_dcmp (X : Stand p l e R s m args below meth c T locs cells slots) (hx : p.tables.exec = Jvm.exec) {o : CmpOp} {x y : UInt64} {z : Int32} (hd : decode c.code pc = .ok (.dcmp o, 1)) (hp : pc + 1 = pc') (hz : cmpValue (FP.dcmp x y) o = z) (K : own_Ends p e below s Q kc ks T (mkF m pc' ls (.int z :: st))) : own_Ends p e below s Q kc ks T (mkF m pc ls (.double y :: .double x :: st)) := by
  subst hp hz
  exact own_go (fun t k => XS.dcmpS (g := mkF m pc ls (.double y :: .double x :: st)) X.here hx rfl hd rfl rfl k) K
theorem own_lcmp (X : Stand p l e R s m args below meth c T locs cells slots) (hx : p.tables.exec = Jvm.exec) {x y : Int64} {z : Int32} (hd : decode c.code pc = .ok (.lcmp, 1)) (hp : pc + 1 = pc') (hz : lcmpW x y = z) (K : own_Ends p e below s Q kc ks T (mkF m pc' ls (.int z :: st))) : own_Ends p e below s Q kc ks T (mkF m pc ls (.long y :: .long x :: st)) := by
  subst hp hz
  exact own_go (fun t k => XS.lcmp X.here hx rfl hd rfl k) K
theorem own_pop (X : Stand p l e R s m args below meth c T locs cells slots) (hx : p.tables.exec = Jvm.exec) {v : Value} (hd : decode c.code pc = .ok (.pop, 1)) (hp : pc + 1 = pc') (hc : v.category = 1) (K : own_Ends p e below s Q kc ks T (mkF m pc' ls st)) : own_Ends p e below s Q kc ks T (mkF m pc ls (v :: st)) := by
  subst hp
  exact own_go (fun t k => XS.pop X.here hx rfl hd rfl hc k) K
theorem own_dup (X : Stand p l e R s m args below meth c T locs cells slots) (hx : p.tables.exec = Jvm.exec) {v : Value} (hd : decode c.code pc = .ok (.dup, 1)) (hp : pc + 1 = pc') (hc : v.category = 1) (K : own_Ends p e below s Q kc ks T (mkF m pc' ls (v :: v :: st))) : own_Ends p e below s Q kc ks T (mkF m pc ls (v :: st)) := by
  subst hp
  exact own_go (fun t k => XS.dup X.here hx rfl hd rfl hc k) K
theorem own_dupX1 (X : Stand p l e R s m args below meth c T locs cells slots) (hx : p.tables.exec = Jvm.exec) {v w : Value} (hd : decode c.code pc = .ok (.dup_x1, 1)) (hp : pc + 1 = pc') (hc : v.category = 1) (hc' : w.category = 1) (K : own_Ends p e below s Q kc ks T (mkF m pc' ls (v :: w :: v :: st))) : own_Ends p e below s Q kc ks T (mkF m pc ls (v :: w :: st)) := by
  subst hp
  exact own_go (fun t k => XS.dupX1 X.here hx rfl hd rfl hc hc' k) K
theorem own_dup2 (X : Stand p l e R s m args below meth c T locs cells slots) (hx : p.tables.exec = Jvm.exec) {v w : Value} (hd : decode c.code pc = .ok (.dup2, 1)) (hp : pc + 1 = pc') (hc : v.category = 1) (hc' : w.category = 1) (K : own_Ends p e below s Q kc ks T (mkF m pc' ls (v :: w :: v :: w :: st))) : own_Ends p e below s Q kc ks T (mkF m pc ls (v :: w :: st)) := by
  subst hp
  exact own_go (fun t k => XT.dup2 X.here hx rfl hd rfl hc hc' k) K
theorem own_dup2L (X : Stand p l e R s m args below meth c T locs cells slots) (hx : p.tables.exec = Jvm.exec) {x : Int64} (hd : decode c.code pc = .ok (.dup2, 1)) (hp : pc + 1 = pc')  (K : own_Ends p e below s Q kc ks T (mkF m pc' ls (.long x :: .long x :: st))) : own_Ends p e below s Q kc ks T (mkF m pc ls (.long x :: st)) := by
  subst hp
  exact own_go (fun t k => XT.dup2L X.here hx rfl hd rfl k) K
theorem own_iinc (X : Stand p l e R s m args below meth c T locs cells slots) (hx : p.tables.exec = Jvm.exec) {k : Nat} {i : Int} {x z : Int32} {l' : Array Slot} (hd : decode c.code pc = .ok (.iinc k i, 3)) (hp : pc + 3 = pc') (hl : ls[k]? = some (.val (.int x))) (hz : x + Int32.ofInt i = z) (hl' : storeLocals ls k (.int z) = some l') (K : own_Ends p e below s Q kc ks T (mkF m pc' l' st)) : own_Ends p e below s Q kc ks T (mkF m pc ls st) := by
  subst hp hz
  exact own_go (fun t k => XS.iinc X.here hx rfl hd hl hl' k) K
theorem own_goto (X : Stand p l e R s m args below meth c T locs cells slots) (hx : p.tables.exec = Jvm.exec) {o : Int} (hd : decode c.code pc = .ok (.goto o, 3)) (ho : 0 ≤ (pc : Int) + o) (hp : ((pc : Int) + o).toNat = pc') (K : own_Ends p e below s Q kc ks T (mkF m pc' ls st)) : own_Ends p e below s Q kc ks T (mkF m pc ls st) :=
  own_go (fun t k => XS.goto X.here hx rfl rfl hd ho hp k) K
theorem own_ifYes (X : Stand p l e R s m args below meth c T locs cells slots) (hx : p.tables.exec = Jvm.exec) {o : Int} {cd : ClassFile.Cond} {x : Int32} (hd : decode c.code pc = .ok (.ifCond cd o, 3)) (hc : if_icmp.holds cd x 0 = true) (ho : 0 ≤ (pc : Int) + o) (hp : ((pc : Int) + o).toNat = pc') (K : own_Ends p e below s Q kc ks T (mkF m pc' ls st)) : own_Ends p e below s Q kc ks T (mkF m pc ls (.int x :: st)) :=
  own_go (fun t k => XS.ifYes X.here hx rfl rfl hd rfl ((if0 _ _).trans hc) ho hp k) K
theorem own_ifNo (X : Stand p l e R s m args below meth c T locs cells slots) (hx : p.tables.exec = Jvm.exec) {o : Int} {cd : ClassFile.Cond} {x : Int32} (hd : decode c.code pc = .ok (.ifCond cd o, 3)) (hp : pc + 3 = pc') (hc : if_icmp.holds cd x 0 = false) (K : own_Ends p e below s Q kc ks T (mkF m pc' ls st)) : own_Ends p e below s Q kc ks T (mkF m pc ls (.int x :: st)) := by
  subst hp
  exact own_go (fun t k => XS.ifNo X.here hx rfl hd rfl ((if0 _ _).trans hc) k) K
theorem own_icmpYes (X : Stand p l e R s m args below meth c T locs cells slots) (hx : p.tables.exec = Jvm.exec) {o : Int} {cd : ClassFile.Cond} {x y : Int32} (hd : decode c.code pc = .ok (.if_icmp cd o, 3)) (hc : if_icmp.holds cd x y = true) (ho : 0 ≤ (pc : Int) + o) (hp : ((pc : Int) + o).toNat = pc') (K : own_Ends p e below s Q kc ks T (mkF m pc' ls st)) : own_Ends p e below s Q kc ks T (mkF m pc ls (.int y :: .int x :: st)) :=
  own_go (fun t k => XS.icmpYes X.here hx rfl rfl hd rfl hc ho hp k) K
theorem own_icmpNo (X : Stand p l e R s m args below meth c T locs cells slots) (hx : p.tables.exec = Jvm.exec) {o : Int} {cd : ClassFile.Cond} {x y : Int32} (hd : decode c.code pc = .ok (.if_icmp cd o, 3)) (hp : pc + 3 = pc') (hc : if_icmp.holds cd x y = false) (K : own_Ends p e below s Q kc ks T (mkF m pc' ls st)) : own_Ends p e below s Q kc ks T (mkF m pc ls (.int y :: .int x :: st)) := by
  subst hp
  exact own_go (fun t k => XS.icmpNo X.here hx rfl hd rfl hc k) K
theorem own_ifnullYes (X : Stand p l e R s m args below meth c T locs cells slots) (hx : p.tables.exec = Jvm.exec) {o : Int} (hd : decode c.code pc = .ok (.ifnull o, 3)) (ho : 0 ≤ (pc : Int) + o) (hp : ((pc : Int) + o).toNat = pc') (K : own_Ends p e below s Q kc ks T (mkF m pc' ls st)) : own_Ends p e below s Q kc ks T (mkF m pc ls (.null :: st)) :=
  own_go (fun t k => XS.ifnullYes X.here hx rfl rfl hd rfl ho hp k) K
theorem own_ifnullNo (X : Stand p l e R s m args below meth c T locs cells slots) (hx : p.tables.exec = Jvm.exec) {o : Int} {b : Addr} (hd : decode c.code pc = .ok (.ifnull o, 3)) (hp : pc + 3 = pc')  (K : own_Ends p e below s Q kc ks T (mkF m pc' ls st)) : own_Ends p e below s Q kc ks T (mkF m pc ls (.ref b :: st)) := by
  subst hp
  exact own_go (fun t k => XS.ifnullNo X.here hx rfl hd rfl k) K
theorem own_ifnonnullYes (X : Stand p l e R s m args below meth c T locs cells slots) (hx : p.tables.exec = Jvm.exec) {o : Int} {b : Addr} (hd : decode c.code pc = .ok (.ifnonnull o, 3)) (ho : 0 ≤ (pc : Int) + o) (hp : ((pc : Int) + o).toNat = pc') (K : own_Ends p e below s Q kc ks T (mkF m pc' ls st)) : own_Ends p e below s Q kc ks T (mkF m pc ls (.ref b :: st)) :=
  own_go (fun t k => XS.ifnonnullYes X.here hx rfl rfl hd rfl ho hp k) K
theorem own_ifnonnullNo (X : Stand p l e R s m args below meth c T locs cells slots) (hx : p.tables.exec = Jvm.exec) {o : Int} (hd : decode c.code pc = .ok (.ifnonnull o, 3)) (hp : pc + 3 = pc')  (K : own_Ends p e below s Q kc ks T (mkF m pc' ls st)) : own_Ends p e below s Q kc ks T (mkF m pc ls (.null :: st)) := by
  subst hp
  exact own_go (fun t k => XS.ifnonnullNo X.here hx rfl hd rfl k) K
theorem own_acmpYes (X : Stand p l e R s m args below meth c T locs cells slots) (hx : p.tables.exec = Jvm.exec) {o : Int} {cd : ACond} {v w : Value} (hd : decode c.code pc = .ok (.if_acmp cd o, 3)) (h1 : v.isRef = true) (h2 : w.isRef = true) (hc : XT.acmp cd v w = true) (ho : 0 ≤ (pc : Int) + o) (hp : ((pc : Int) + o).toNat = pc') (K : own_Ends p e below s Q kc ks T (mkF m pc' ls st)) : own_Ends p e below s Q kc ks T (mkF m pc ls (w :: v :: st)) :=
  own_go (fun t k => XT.acmpYes X.here hx rfl rfl hd rfl h1 h2 hc ho hp k) K
theorem own_acmpNo (X : Stand p l e R s m args below meth c T locs cells slots) (hx : p.tables.exec = Jvm.exec) {o : Int} {cd : ACond} {v w : Value} (hd : decode c.code pc = .ok (.if_acmp cd o, 3)) (hp : pc + 3 = pc') (h1 : v.isRef = true) (h2 : w.isRef = true) (hc : XT.acmp cd v w = false) (K : own_Ends p e below s Q kc ks T (mkF m pc' ls st)) : own_Ends p e below s Q kc ks T (mkF m pc ls (w :: v :: st)) := by
  subst hp
  exact own_go (fun t k => XT.acmpNo X.here hx rfl hd rfl h1 h2 hc k) K
theorem own_ldcI (X : Stand p l e R s m args below meth c T locs cells slots) (hx : p.tables.exec = Jvm.exec) {own : String} {ix : Nat} {v : Int32} {Z : State} {a0 : Array Value} (hZ : Z.Warmed39 s.vm) (hown : s.vm.findClass own = some m.cls) (w : (Jvm.Cond.constant own ix v).before a0 Z = true) (hd : decode c.code pc = .ok (.ldc ix, 2)) (hp : pc + 2 = pc')  (K : own_Ends p e below s Q kc ks T (mkF m pc' ls (.int v :: st))) : own_Ends p e below s Q kc ks T (mkF m pc ls st) := by
  subst hp
  exact own_go (fun t k => X.ldcInt hx hown (mvT hZ w) (g := mkF m pc ls st) rfl hd t k) K
theorem own_ldcwI (X : Stand p l e R s m args below meth c T locs cells slots) (hx : p.tables.exec = Jvm.exec) {own : String} {ix : Nat} {v : Int32} {Z : State} {a0 : Array Value} (hZ : Z.Warmed39 s.vm) (hown : s.vm.findClass own = some m.cls) (w : (Jvm.Cond.constant own ix v).before a0 Z = true) (hd : decode c.code pc = .ok (.ldc_w ix, 3)) (hp : pc + 3 = pc')  (K : own_Ends p e below s Q kc ks T (mkF m pc' ls (.int v :: st))) : own_Ends p e below s Q kc ks T (mkF m pc ls st) := by
  subst hp
  exact own_go (fun t k => X.ldcwInt hx hown (mvT hZ w) (g := mkF m pc ls st) rfl hd t k) K
theorem own_ldc2J (X : Stand p l e R s m args below meth c T locs cells slots) (hx : p.tables.exec = Jvm.exec) {own : String} {ix : Nat} {v : Int64} {Z : State} {a0 : Array Value} (hZ : Z.Warmed39 s.vm) (hown : s.vm.findClass own = some m.cls) (w : (Jvm.Cond.constantLong own ix v).before a0 Z = true) (hd : decode c.code pc = .ok (.ldc2_w ix, 3)) (hp : pc + 3 = pc')  (K : own_Ends p e below s Q kc ks T (mkF m pc' ls (.long v :: st))) : own_Ends p e below s Q kc ks T (mkF m pc ls st) := by
  subst hp
  exact own_go (fun t k => X.ldc2Long hx hown (mvT hZ w) (g := mkF m pc ls st) rfl hd t k) K
theorem own_iaload (X : Stand p l e R s m args below meth c T locs cells slots) (hx : p.tables.exec = Jvm.exec) {Z : State} {h : Heap} {a : Addr} {k : ClassId} {n j : Int32} {vs : List Value} {d v : Value} (hZ : Z.Warmed39 s.vm) (eT : T.heap = h) (V : Arv Z h a k .int n vs d) (hd : decode c.code pc = .ok (.iaload, 1)) (hp : pc + 1 = pc') (hj : ¬ j < 0 ∧ j < n) (hv : vs.getD j.toNatClampNeg d = v) (K : own_Ends p e below s Q kc ks T (mkF m pc' ls (v :: st))) : own_Ends p e below s Q kc ks T (mkF m pc ls (.int j :: .ref a :: st)) := by
  subst hp
  obtain ⟨cl, A, q1, S, q2, H, G⟩ := V
  have hin := inb_of S hj
  exact own_go (fun t k => X.iaload hx (by rw [eT]; exact A.1) (State.isArrayOf_alike hZ.alike A.2.1) A.2.2 hin (H.at hin hv) (g := mkF m pc ls (.int j :: .ref a :: st)) rfl rfl hd t k) K
theorem own_laload (X : Stand p l e R s m args below meth c T locs cells slots) (hx : p.tables.exec = Jvm.exec) {Z : State} {h : Heap} {a : Addr} {k : ClassId} {n j : Int32} {vs : List Value} {d v : Value} (hZ : Z.Warmed39 s.vm) (eT : T.heap = h) (V : Arv Z h a k .long n vs d) (hd : decode c.code pc = .ok (.laload, 1)) (hp : pc + 1 = pc') (hj : ¬ j < 0 ∧ j < n) (hv : vs.getD j.toNatClampNeg d = v) (K : own_Ends p e below s Q kc ks T (mkF m pc' ls (v :: st))) : own_Ends p e below s Q kc ks T (mkF m pc ls (.int j :: .ref a :: st)) := by
  subst hp
  obtain ⟨cl, A, q1, S, q2, H, G⟩ := V
  have hin := inb_of S hj
  exact own_go (fun t k => X.laload hx (by rw [eT]; exact A.1) (State.isArrayOf_alike hZ.alike A.2.1) A.2.2 hin (H.at hin hv) (g := mkF m pc ls (.int j :: .ref a :: st)) rfl rfl hd t k) K
theorem own_caload (X : Stand p l e R s m args below meth c T locs cells slots) (hx : p.tables.exec = Jvm.exec) {Z : State} {h : Heap} {a : Addr} {k : ClassId} {n j : Int32} {vs : List Value} {d v : Value} (hZ : Z.Warmed39 s.vm) (eT : T.heap = h) (V : Arv Z h a k .char n vs d) (hd : decode c.code pc = .ok (.caload, 1)) (hp : pc + 1 = pc') (hj : ¬ j < 0 ∧ j < n) (hv : vs.getD j.toNatClampNeg d = v) (K : own_Ends p e below s Q kc ks T (mkF m pc' ls (v :: st))) : own_Ends p e below s Q kc ks T (mkF m pc ls (.int j :: .ref a :: st)) := by
  subst hp
  obtain ⟨cl, A, q1, S, q2, H, G⟩ := V
  have hin := inb_of S hj
  exact own_go (fun t k => X.caload hx (by rw [eT]; exact A.1) (State.isArrayOf_alike hZ.alike A.2.1) A.2.2 hin (H.at hin hv) (g := mkF m pc ls (.int j :: .ref a :: st)) rfl rfl hd t k) K
theorem own_baload (X : Stand p l e R s m args below meth c T locs cells slots) (hx : p.tables.exec = Jvm.exec) {Z : State} {h : Heap} {a : Addr} {k : ClassId} {n j : Int32} {vs : List Value} {d v : Value} (hZ : Z.Warmed39 s.vm) (eT : T.heap = h) (V : Arv Z h a k .byte n vs d) (hd : decode c.code pc = .ok (.baload, 1)) (hp : pc + 1 = pc') (hj : ¬ j < 0 ∧ j < n) (hv : vs.getD j.toNatClampNeg d = v) (K : own_Ends p e below s Q kc ks T (mkF m pc' ls (v :: st))) : own_Ends p e below s Q kc ks T (mkF m pc ls (.int j :: .ref a :: st)) := by
  subst hp
  obtain ⟨cl, A, q1, S, q2, H, G⟩ := V
  have hin := inb_of S hj
  exact own_go (fun t k => X.baloadBytes hx (by rw [eT]; exact A.1) (State.isArrayOf_alike hZ.alike A.2.1) A.2.2 hin (H.at hin hv) (g := mkF m pc ls (.int j :: .ref a :: st)) rfl rfl hd t k) K
theorem own_zaload (X : Stand p l e R s m args below meth c T locs cells slots) (hx : p.tables.exec = Jvm.exec) {Z : State} {h : Heap} {a : Addr} {k : ClassId} {n j : Int32} {vs : List Value} {d v : Value} (hZ : Z.Warmed39 s.vm) (eT : T.heap = h) (V : Arv Z h a k .boolean n vs d) (hd : decode c.code pc = .ok (.baload, 1)) (hp : pc + 1 = pc') (hj : ¬ j < 0 ∧ j < n) (hv : vs.getD j.toNatClampNeg d = v) (K : own_Ends p e below s Q kc ks T (mkF m pc' ls (v :: st))) : own_Ends p e below s Q kc ks T (mkF m pc ls (.int j :: .ref a :: st)) := by
  subst hp
  obtain ⟨cl, A, q1, S, q2, H, G⟩ := V
  have hin := inb_of S hj
  exact own_go (fun t k => X.baloadBooleans hx (by rw [eT]; exact A.1) (State.isArrayOf_alike hZ.alike A.2.1) A.2.2 hin (H.at hin hv) (g := mkF m pc ls (.int j :: .ref a :: st)) rfl rfl hd t k) K
theorem own_daload (X : Stand p l e R s m args below meth c T locs cells slots) (hx : p.tables.exec = Jvm.exec) {Z : State} {h : Heap} {a : Addr} {k : ClassId} {n j : Int32} {vs : List Value} {d v : Value} (hZ : Z.Warmed39 s.vm) (eT : T.heap = h) (V : Arv Z h a k .double n vs d) (hd : decode c.code pc = .ok (.daload, 1)) (hp : pc + 1 = pc') (hj : ¬ j < 0 ∧ j < n) (hv : vs.getD j.toNatClampNeg d = v) (K : own_Ends p e below s Q kc ks T (mkF m pc' ls (v :: st))) : own_Ends p e below s Q kc ks T (mkF m pc ls (.int j :: .ref a :: st)) := by
  subst hp
  obtain ⟨cl, A, q1, S, q2, H, G⟩ := V
  have hin := inb_of S hj
  exact own_go (fun t k => X.daload hx (by rw [eT]; exact A.1) (State.isArrayOf_alike hZ.alike A.2.1) A.2.2 hin (H.at hin hv) (g := mkF m pc ls (.int j :: .ref a :: st)) rfl rfl hd t k) K
theorem own_alen (X : Stand p l e R s m args below meth c T locs cells slots) (hx : p.tables.exec = Jvm.exec) {Z : State} {h : Heap} {a : Addr} {k : ClassId} {ty : FieldType} {n : Int32} {vs : List Value} {d : Value} (hZ : Z.Warmed39 s.vm) (eT : T.heap = h) (V : Arv Z h a k ty n vs d) (hd : decode c.code pc = .ok (.arraylength, 1)) (hp : pc + 1 = pc')  (K : own_Ends p e below s Q kc ks T (mkF m pc' ls (.int n :: st))) : own_Ends p e below s Q kc ks T (mkF m pc ls (.ref a :: st)) := by
  subst hp
  obtain ⟨cl, A, q1, S, q2, H, G⟩ := V
  rw [← len_of S q2] at K
  exact own_go (fun t k => X.arraylength hx (by rw [eT]; exact A.1) (State.isArrayOf_alike hZ.alike A.2.1) (g := mkF m pc ls (.ref a :: st)) rfl rfl hd t k) K
theorem own_iastore (X : Stand p l e R s m args below meth c T locs cells slots) (hx : p.tables.exec = Jvm.exec) {Z : State} {h : Heap} {a : Addr} {k : ClassId} {n j : Int32} {vs : List Value} {d : Value} {x : Int32} (hZ : Z.Warmed39 s.vm) (eT : T.heap = h) (V : Arv Z h a k .int n vs d) (hd : decode c.code pc = .ok (.iastore, 1)) (hp : pc + 1 = pc') (hj : ¬ j < 0 ∧ j < n) (i : Nat) (hi : j.toNatClampNeg = i) (hl : i < vs.length) {n0 : Nat} (N : Fr n0 locs) (ge : n0 ≤ a)
    (K : ∀ T' h' L, Stand p l e R s m args below meth c T' L cells slots → T'.heap = h' → Fr n0 L → Wr h h' a j.toNatClampNeg (.int x) → Arv Z h' a k .int n (vs.set i (.int x)) d → own_Ends p e below s Q kc ks T' (mkF m pc' ls st)) : own_Ends p e below s Q kc ks T (mkF m pc ls (.int x :: .int j :: .ref a :: st)) := by
  subst hp
  obtain ⟨cl, A, q1, S, q2, H, G⟩ := V
  have hin := inb_of S hj
  obtain ⟨T1, h1, X1, e1, W1, st1⟩ := stI X hx hZ eT A (j := j) hin (g := mkF m pc ls (.int x :: .int j :: .ref a :: st)) rfl rfl hd
  exact own_go st1 (K T1 h1 _ X1 e1 (Fr.snoc X1 N ge) W1 (Arv.set A q1 S q2 H G rfl W1 i hi hl))
theorem own_lastore (X : Stand p l e R s m args below meth c T locs cells slots) (hx : p.tables.exec = Jvm.exec) {Z : State} {h : Heap} {a : Addr} {k : ClassId} {n j : Int32} {vs : List Value} {d : Value} {x : Int64} (hZ : Z.Warmed39 s.vm) (eT : T.heap = h) (V : Arv Z h a k .long n vs d) (hd : decode c.code pc = .ok (.lastore, 1)) (hp : pc + 1 = pc') (hj : ¬ j < 0 ∧ j < n) (i : Nat) (hi : j.toNatClampNeg = i) (hl : i < vs.length) {n0 : Nat} (N : Fr n0 locs) (ge : n0 ≤ a)
    (K : ∀ T' h' L, Stand p l e R s m args below meth c T' L cells slots → T'.heap = h' → Fr n0 L → Wr h h' a j.toNatClampNeg (.long x) → Arv Z h' a k .long n (vs.set i (.long x)) d → own_Ends p e below s Q kc ks T' (mkF m pc' ls st)) : own_Ends p e below s Q kc ks T (mkF m pc ls (.long x :: .int j :: .ref a :: st)) := by
  subst hp
  obtain ⟨cl, A, q1, S, q2, H, G⟩ := V
  have hin := inb_of S hj
  obtain ⟨T1, h1, X1, e1, W1, st1⟩ := stJ X hx hZ eT A (j := j) hin (g := mkF m pc ls (.long x :: .int j :: .ref a :: st)) rfl rfl hd
  exact own_go st1 (K T1 h1 _ X1 e1 (Fr.snoc X1 N ge) W1 (Arv.set A q1 S q2 H G rfl W1 i hi hl))
theorem own_dastore (X : Stand p l e R s m args below meth c T locs cells slots) (hx : p.tables.exec = Jvm.exec) {Z : State} {h : Heap} {a : Addr} {k : ClassId} {n j : Int32} {vs : List Value} {d : Value} {x : UInt64} (hZ : Z.Warmed39 s.vm) (eT : T.heap = h) (V : Arv Z h a k .double n vs d) (hd : decode c.code pc = .ok (.dastore, 1)) (hp : pc + 1 = pc') (hj : ¬ j < 0 ∧ j < n) (i : Nat) (hi : j.toNatClampNeg = i) (hl : i < vs.length) {n0 : Nat} (N : Fr n0 locs) (ge : n0 ≤ a)
    (K : ∀ T' h' L, Stand p l e R s m args below meth c T' L cells slots → T'.heap = h' → Fr n0 L → Wr h h' a j.toNatClampNeg (.double x) → Arv Z h' a k .double n (vs.set i (.double x)) d → own_Ends p e below s Q kc ks T' (mkF m pc' ls st)) : own_Ends p e below s Q kc ks T (mkF m pc ls (.double x :: .int j :: .ref a :: st)) := by
  subst hp
  obtain ⟨cl, A, q1, S, q2, H, G⟩ := V
  have hin := inb_of S hj
  obtain ⟨T1, h1, X1, e1, W1, st1⟩ := stD X hx hZ eT A (j := j) hin (g := mkF m pc ls (.double x :: .int j :: .ref a :: st)) rfl rfl hd
  exact own_go st1 (K T1 h1 _ X1 e1 (Fr.snoc X1 N ge) W1 (Arv.set A q1 S q2 H G rfl W1 i hi hl))
theorem own_castore (X : Stand p l e R s m args below meth c T locs cells slots) (hx : p.tables.exec = Jvm.exec) {Z : State} {h : Heap} {a : Addr} {k : ClassId} {n j : Int32} {vs : List Value} {d : Value} {x : Int32} (hZ : Z.Warmed39 s.vm) (eT : T.heap = h) (V : Arv Z h a k .char n vs d) (hd : decode c.code pc = .ok (.castore, 1)) (hp : pc + 1 = pc') (hj : ¬ j < 0 ∧ j < n) (i : Nat) (hi : j.toNatClampNeg = i) (hl : i < vs.length) {n0 : Nat} (N : Fr n0 locs) (ge : n0 ≤ a)
    (K : ∀ T' h' L, Stand p l e R s m args below meth c T' L cells slots → T'.heap = h' → Fr n0 L → Wr h h' a j.toNatClampNeg (.int (nar .char x)) → Arv Z h' a k .char n (vs.set i (.int (nar .char x))) d → own_Ends p e below s Q kc ks T' (mkF m pc' ls st)) : own_Ends p e below s Q kc ks T (mkF m pc ls (.int x :: .int j :: .ref a :: st)) := by
  subst hp
  obtain ⟨cl, A, q1, S, q2, H, G⟩ := V
  have hin := inb_of S hj
  obtain ⟨T1, h1, X1, e1, W1, st1⟩ := stC X hx hZ eT A (j := j) hin (g := mkF m pc ls (.int x :: .int j :: .ref a :: st)) rfl rfl hd
  exact own_go st1 (K T1 h1 _ X1 e1 (Fr.snoc X1 N ge) W1 (Arv.set A q1 S q2 H G (fits_nar_char _) W1 i hi hl))
theorem own_bastore (X : Stand p l e R s m args below meth c T locs cells slots) (hx : p.tables.exec = Jvm.exec) {Z : State} {h : Heap} {a : Addr} {k : ClassId} {n j : Int32} {vs : List Value} {d : Value} {x : Int32} (hZ : Z.Warmed39 s.vm) (eT : T.heap = h) (V : Arv Z h a k .byte n vs d) (hd : decode c.code pc = .ok (.bastore, 1)) (hp : pc + 1 = pc') (hj : ¬ j < 0 ∧ j < n) (i : Nat) (hi : j.toNatClampNeg = i) (hl : i < vs.length) {n0 : Nat} (N : Fr n0 locs) (ge : n0 ≤ a)
    (K : ∀ T' h' L, Stand p l e R s m args below meth c T' L cells slots → T'.heap = h' → Fr n0 L → Wr h h' a j.toNatClampNeg (.int (nar .byte x)) → Arv Z h' a k .byte n (vs.set i (.int (nar .byte x))) d → own_Ends p e below s Q kc ks T' (mkF m pc' ls st)) : own_Ends p e below s Q kc ks T (mkF m pc ls (.int x :: .int j :: .ref a :: st)) := by
  subst hp
  obtain ⟨cl, A, q1, S, q2, H, G⟩ := V
  have hin := inb_of S hj
  obtain ⟨T1, h1, X1, e1, W1, st1⟩ := stB X hx hZ eT A (j := j) hin (g := mkF m pc ls (.int x :: .int j :: .ref a :: st)) rfl rfl hd
  exact own_go st1 (K T1 h1 _ X1 e1 (Fr.snoc X1 N ge) W1 (Arv.set A q1 S q2 H G (fits_nar_byte _) W1 i hi hl))
theorem own_zastore (X : Stand p l e R s m args below meth c T locs cells slots) (hx : p.tables.exec = Jvm.exec) {Z : State} {h : Heap} {a : Addr} {k : ClassId} {n j : Int32} {vs : List Value} {d : Value} {x : Int32} (hZ : Z.Warmed39 s.vm) (eT : T.heap = h) (V : Arv Z h a k .boolean n vs d) (hd : decode c.code pc = .ok (.bastore, 1)) (hp : pc + 1 = pc') (hj : ¬ j < 0 ∧ j < n) (i : Nat) (hi : j.toNatClampNeg = i) (hl : i < vs.length) {n0 : Nat} (N : Fr n0 locs) (ge : n0 ≤ a)
    (K : ∀ T' h' L, Stand p l e R s m args below meth c T' L cells slots → T'.heap = h' → Fr n0 L → Wr h h' a j.toNatClampNeg (.int (nar .boolean x)) → Arv Z h' a k .boolean n (vs.set i (.int (nar .boolean x))) d → own_Ends p e below s Q kc ks T' (mkF m pc' ls st)) : own_Ends p e below s Q kc ks T (mkF m pc ls (.int x :: .int j :: .ref a :: st)) := by
  subst hp
  obtain ⟨cl, A, q1, S, q2, H, G⟩ := V
  have hin := inb_of S hj
  obtain ⟨T1, h1, X1, e1, W1, st1⟩ := stZ X hx hZ eT A (j := j) hin (g := mkF m pc ls (.int x :: .int j :: .ref a :: st)) rfl rfl hd
  exact own_go st1 (K T1 h1 _ X1 e1 (Fr.snoc X1 N ge) W1 (Arv.set A q1 S q2 H G (fits_nar_bool _) W1 i hi hl))
theorem own_newarr (X : Stand p l e R s m args below meth c T locs cells slots) (hx : p.tables.exec = Jvm.exec) {Z : State} {a0 : Array Value} {h : Heap} {aty : ArrayType} (hZ : Z.Warmed39 s.vm) (w : (Jvm.Cond.arrayClass (newarray.typeOf aty)).before a0 Z = true) (eT : T.heap = h) (hd : decode c.code pc = .ok (.newarray aty, 2)) (hp : pc + 2 = pc') {n : Int32} (hn : ¬ n < 0) (cap q : Nat) (hcap : n.toNatClampNeg ≤ cap) (hb : cap * 8 ≤ 536870912) (hc : cells + 1 ≤ R.cells) (hl : slots + cap ≤ R.slots)
    (K : ∀ T' h' a k, Stand p l e R s m args below meth c T' locs (cells + 1) (slots + cap) → T'.heap = h' → Ext h h' → a = h.size → Arv Z h' a k (newarray.typeOf aty) n (List.replicate q (defaultValue (newarray.typeOf aty))) (defaultValue (newarray.typeOf aty)) → own_Ends p e below s Q kc ks T' (mkF m pc' ls (.ref a :: st))) : own_Ends p e below s Q kc ks T (mkF m pc ls (.int n :: st)) := by
  subst hp
  obtain ⟨T1, h1, k1, X1, e1, E1, A1, st1⟩ := newP X hx hZ w eT (g := mkF m pc ls (.int n :: st)) rfl hd rfl hn (cap := cap) hcap hb hc hl
  exact own_go st1 (K T1 h1 _ k1 X1 e1 E1 rfl ((Arv.new A1 hn).pad (pad_rep [] _ q)))
theorem own_newarrE (X : Stand p l e R s m args below meth c T locs cells slots) (hx : p.tables.exec = Jvm.exec) {Z : State} {a0 : Array Value} {h : Heap} {aty : ArrayType} (hZ : Z.Warmed39 s.vm) (w : (Jvm.Cond.arrayClass (newarray.typeOf aty)).before a0 Z = true) (eT : T.heap = h) (hd : decode c.code pc = .ok (.newarray aty, 2)) (hp : pc + 2 = pc') {n : Int32} (hn : ¬ n < 0) (cap q : Nat) (hcap : n.toNatClampNeg ≤ cap) (hb : cap * 8 ≤ 536870912) (hc : cells + 1 ≤ R.cells) (hl : slots + cap ≤ R.slots) {ad : String} (had : "[" ++ (newarray.typeOf aty).toString = ad)
    (K : ∀ T' h' a k, Stand p l e R s m args below meth c T' locs (cells + 1) (slots + cap) → T'.heap = h' → Ext h h' → a = h.size → Arv Z h' a k (newarray.typeOf aty) n (List.replicate q (defaultValue (newarray.typeOf aty))) (defaultValue (newarray.typeOf aty)) → Exa Z h' a ad → own_Ends p e below s Q kc ks T' (mkF m pc' ls (.ref a :: st))) : own_Ends p e below s Q kc ks T (mkF m pc ls (.int n :: st)) := by
  subst hp
  obtain ⟨T1, h1, k1, X1, e1, E1, A1, Z1, st1⟩ := newPE X hx hZ w eT (g := mkF m pc ls (.int n :: st)) rfl hd rfl hn (cap := cap) hcap hb hc hl had
  exact own_go st1 (K T1 h1 _ k1 X1 e1 E1 rfl ((Arv.new A1 hn).pad (pad_rep [] _ q)) Z1)
theorem own_callS (X : Stand p l e R s m args below meth c T locs cells slots) (hx : p.tables.exec = Jvm.exec) {Z : State} {a0 : Array Value} {h : Heap} {own : String} {ix : Nat} {y : MethodName} {bytes : ByteArray} {maxL W : Nat} {ret : Option FieldType} {rm : Room} {Qc : Option Value → Heap → List Loc → Prop} {argsL rest : List Value} (hZ : Z.Warmed39 s.vm) (eT : T.heap = h) (hown : s.vm.findClass own = some m.cls) (hsz : ls.size = c.maxLocals) (wl : (Jvm.Cond.methodLink own ix y).before a0 Z = true) (ws : (Jvm.Cond.static y).before a0 Z = true) (wi : (Jvm.Cond.initialized y.cls).before a0 Z = true) (wc : (Jvm.Cond.code y bytes maxL ret).before a0 Z = true) (hy : y.cls ≠ "java/lang/invoke/MethodHandle" ∧ y.cls ≠ "java/lang/invoke/VarHandle") (hM : MetFree l y (head1 [Jvm.Cond.code y bytes maxL ret] rm) (fun a U => a = argsL.toArray ∧ Z.Warmed39 U.vm ∧ U.heap = h) (fun _ _ _ _ _ => True) (fun _ U o U' => ∃ v L, o = .returned v ∧ Qc v U'.heap L ∧ FrameEnd U o U' L rm.cells rm.slots)) (hf : rm.frames + 1 ≤ R.frames) (hlo : W + (maxL + 11) + rm.locals ≤ R.locals) (hcl : cells + rm.cells ≤ R.cells) (hsl : slots + rm.slots ≤ R.slots)
    (hlen : ∀ sig, parseMethodDescriptor y.desc = some sig → argsL.length = sig.parameters.length) (hst : st = argsL.reverse ++ rest) (hW : 2 * 0 + (rest.map fun v => v.category).sum ≤ W) (hd : decode c.code pc = .ok (.invokestatic ix, 3)) (hp : pc + 3 = pc') (K : ∀ T' L v, Stand p l e R s m args below meth c T' (locs ++ L) (cells + rm.cells) (slots + rm.slots) → Qc v T'.heap L → own_Ends p e below s Q kc ks T' (mkF m pc' ls (v.toList ++ rest))) : own_Ends p e below s Q kc ks T (mkF m pc ls st) := by
  subst hp
  obtain ⟨v, _, ⟨T1, L1, k1, n1⟩, -, X1, ⟨Lc, hQ, r1, r2, r3⟩, st1⟩ := Jvm.LawKit.callS X hx (y := y) hown (mvT hZ wl) (mvT hZ ws) (mvT hZ wi) (mvT hZ wc) hy (backOf (W := W) hM hZ wc wi hf hlo) (g := mkF m pc ls st) rfl hsz (argsL := argsL) (rest := rest) hlen hst hW hd (fun _ _ => ⟨rfl, eT, hcl, hsl⟩)
  dsimp only [Pt.U, Pt.locs, Pt.cells, Pt.slots] at X1 r1 r2 r3 st1 hQ
  subst r1 r2 r3
  exact own_go (st1) (K T1 Lc v X1 hQ)
theorem own_callC (X : Stand p l e R s m args below meth c T locs cells slots) (hx : p.tables.exec = Jvm.exec) {b : Addr} {Z : State} {a0 : Array Value} {h : Heap} {own : String} {ix : Nat} {y : MethodName} {bytes : ByteArray} {maxL W : Nat} {ret : Option FieldType} {rm : Room} {Qc : Option Value → Heap → List Loc → Prop} {argsL rest : List Value} (hZ : Z.Warmed39 s.vm) (eT : T.heap = h) (hown : s.vm.findClass own = some m.cls) (hsz : ls.size = c.maxLocals) (hret : ret = none) (hinit : y.name = "<init>") (wl : (Jvm.Cond.methodLink own ix y).before a0 Z = true) (wm : (Jvm.Cond.instanceMethod y).before a0 Z = true) (wi : (Jvm.Cond.initialized y.cls).before a0 Z = true) (wc : (Jvm.Cond.code y bytes maxL ret).before a0 Z = true) (hy : y.cls ≠ "java/lang/invoke/MethodHandle" ∧ y.cls ≠ "java/lang/invoke/VarHandle") (hM : MetFree l y (head1 [Jvm.Cond.code y bytes maxL ret] rm) (fun a U => a = (Value.ref b :: argsL).toArray ∧ Z.Warmed39 U.vm ∧ U.heap = h) (fun _ _ _ _ _ => True) (fun _ U o U' => ∃ v L, o = .returned v ∧ Qc v U'.heap L ∧ FrameEnd U o U' L rm.cells rm.slots)) (hf : rm.frames + 1 ≤ R.frames) (hlo : W + (maxL + 11) + rm.locals ≤ R.locals) (hcl : cells + rm.cells ≤ R.cells) (hsl : slots + rm.slots ≤ R.slots)
    (hlen : ∀ sig, parseMethodDescriptor y.desc = some sig → argsL.length = sig.parameters.length) (hst : st = argsL.reverse ++ .ref b :: rest) (hW : 2 * 0 + (rest.map fun v => v.category).sum ≤ W) (hd : decode c.code pc = .ok (.invokespecial ix, 3)) (hp : pc + 3 = pc') (K : ∀ T' L v, Stand p l e R s m args below meth c T' (locs ++ L) (cells + rm.cells) (slots + rm.slots) → Qc v T'.heap L → own_Ends p e below s Q kc ks T' (mkF m pc' ls (v.toList ++ rest))) : own_Ends p e below s Q kc ks T (mkF m pc ls st) := by
  subst hp hret
  obtain ⟨v, _, ⟨T1, L1, k1, n1⟩, -, X1, ⟨Lc, hQ, r1, r2, r3⟩, st1⟩ := X.specialBack hx (y := y) hinit hown (mvT hZ wl) (mvT hZ wm) (mvT hZ wc) hy (backOf (W := W) hM hZ wc wi hf hlo) (g := mkF m pc ls st) rfl hsz (Steps.refl _) (a := b) (argsL := argsL) (rest := rest) hlen hst hW hd (fun _ _ => ⟨rfl, eT, hcl, hsl⟩)
  dsimp only [Pt.U, Pt.locs, Pt.cells, Pt.slots] at X1 r1 r2 r3 st1 hQ
  subst r1 r2 r3
  exact own_go (fun t k => st1.trans k) (K T1 Lc v X1 hQ)
theorem own_callV (X : Stand p l e R s m args below meth c T locs cells slots) (hx : p.tables.exec = Jvm.exec) {b : Addr} {C : String} {Z : State} {a0 : Array Value} {h : Heap} {own : String} {ix : Nat} {y : MethodName} {bytes : ByteArray} {maxL W : Nat} {ret : Option FieldType} {rm : Room} {Qc : Option Value → Heap → List Loc → Prop} {argsL rest : List Value} (hZ : Z.Warmed39 s.vm) (eT : T.heap = h) (hown : s.vm.findClass own = some m.cls) (hsz : ls.size = c.maxLocals) (E : Exa Z h b C) (wl : (Jvm.Cond.methodLink own ix y).before a0 Z = true) (wd : (Jvm.Cond.declares y).before a0 Z = true) (wsel : (Jvm.Cond.selects C y y).before a0 Z = true) (wm : (Jvm.Cond.instanceMethod y).before a0 Z = true) (wi : (Jvm.Cond.initialized y.cls).before a0 Z = true) (wc : (Jvm.Cond.code y bytes maxL ret).before a0 Z = true) (hy : y.cls ≠ "java/lang/invoke/MethodHandle" ∧ y.cls ≠ "java/lang/invoke/VarHandle") (hM : MetFree l y (head1 [Jvm.Cond.code y bytes maxL ret] rm) (fun a U => a = (Value.ref b :: argsL).toArray ∧ Z.Warmed39 U.vm ∧ U.heap = h) (fun _ _ _ _ _ => True) (fun _ U o U' => ∃ v L, o = .returned v ∧ Qc v U'.heap L ∧ FrameEnd U o U' L rm.cells rm.slots)) (hf : rm.frames + 1 ≤ R.frames) (hlo : W + (maxL + 11) + rm.locals ≤ R.locals) (hcl : cells + rm.cells ≤ R.cells) (hsl : slots + rm.slots ≤ R.slots)
    (hlen : ∀ sig, parseMethodDescriptor y.desc = some sig → argsL.length = sig.parameters.length) (hst : st = argsL.reverse ++ .ref b :: rest) (hW : 2 * 0 + (rest.map fun v => v.category).sum ≤ W) (hd : decode c.code pc = .ok (.invokevirtual ix, 3)) (hp : pc + 3 = pc') (K : ∀ T' L v, Stand p l e R s m args below meth c T' (locs ++ L) (cells + rm.cells) (slots + rm.slots) → Qc v T'.heap L → own_Ends p e below s Q kc ks T' (mkF m pc' ls (v.toList ++ rest))) : own_Ends p e below s Q kc ks T (mkF m pc ls st) := by
  subst hp
  obtain ⟨cq, kq, qa, qb, qc⟩ := isOf hZ eT E
  obtain ⟨v, _, ⟨T1, L1, k1, n1⟩, -, X1, ⟨Lc, hQ, r1, r2, r3⟩, st1⟩ := X.virtualBack hx (y := y) (z := y) hown (mvT hZ wl) (mvT hZ wd) (notFace_of_selects (args := #[]) (mvT hZ wsel)) (mvT hZ wsel) (mvT hZ wm) hy (backOf (W := W) hM hZ wc wi hf hlo) qa qc (g := mkF m pc ls st) rfl hsz (Steps.refl _) (argsL := argsL) (rest := rest) hlen hst hW hd (fun _ _ => ⟨rfl, eT, hcl, hsl⟩)
  dsimp only [Pt.U, Pt.locs, Pt.cells, Pt.slots] at X1 r1 r2 r3 st1 hQ
  subst r1 r2 r3
  exact own_go (fun t k => st1.trans k) (K T1 Lc v X1 hQ)
theorem own_callP (X : Stand p l e R s m args below meth c T locs cells slots) (hx : p.tables.exec = Jvm.exec) {b : Addr} {C : String} {Z : State} {a0 : Array Value} {h : Heap} {own : String} {ix : Nat} {y : MethodName} {bytes : ByteArray} {maxL W : Nat} {ret : Option FieldType} {rm : Room} {Qc : Option Value → Heap → List Loc → Prop} {argsL rest : List Value} (hZ : Z.Warmed39 s.vm) (eT : T.heap = h) (hown : s.vm.findClass own = some m.cls) (hsz : ls.size = c.maxLocals) (E : Exa Z h b C) (wl : (Jvm.Cond.methodLink own ix y).before a0 Z = true) (wsel : (Jvm.Cond.selects y.cls y y).before a0 Z = true) (wp : (Jvm.Cond.privateMethod y).before a0 Z = true) (wm : (Jvm.Cond.instanceMethod y).before a0 Z = true) (wi : (Jvm.Cond.initialized y.cls).before a0 Z = true) (wc : (Jvm.Cond.code y bytes maxL ret).before a0 Z = true) (hy : y.cls ≠ "java/lang/invoke/MethodHandle" ∧ y.cls ≠ "java/lang/invoke/VarHandle") (hM : MetFree l y (head1 [Jvm.Cond.code y bytes maxL ret] rm) (fun a U => a = (Value.ref b :: argsL).toArray ∧ Z.Warmed39 U.vm ∧ U.heap = h) (fun _ _ _ _ _ => True) (fun _ U o U' => ∃ v L, o = .returned v ∧ Qc v U'.heap L ∧ FrameEnd U o U' L rm.cells rm.slots)) (hf : rm.frames + 1 ≤ R.frames) (hlo : W + (maxL + 11) + rm.locals ≤ R.locals) (hcl : cells + rm.cells ≤ R.cells) (hsl : slots + rm.slots ≤ R.slots)
    (hlen : ∀ sig, parseMethodDescriptor y.desc = some sig → argsL.length = sig.parameters.length) (hst : st = argsL.reverse ++ .ref b :: rest) (hW : 2 * 0 + (rest.map fun v => v.category).sum ≤ W) (hd : decode c.code pc = .ok (.invokevirtual ix, 3)) (hp : pc + 3 = pc') (K : ∀ T' L v, Stand p l e R s m args below meth c T' (locs ++ L) (cells + rm.cells) (slots + rm.slots) → Qc v T'.heap L → own_Ends p e below s Q kc ks T' (mkF m pc' ls (v.toList ++ rest))) : own_Ends p e below s Q kc ks T (mkF m pc ls st) := by
  subst hp
  obtain ⟨cq, qa, qb⟩ := E.cell
  obtain ⟨v, _, ⟨T1, L1, k1, n1⟩, -, X1, ⟨Lc, hQ, r1, r2, r3⟩, st1⟩ := X.privateBack hx (y := y) hown (mvT hZ wl) (mvT hZ wm) (mvT hZ wsel) (Jvm.Cond.privateMethod_at (mvP hZ wp (args := #[]))) (mvT hZ wc) hy (backOf (W := W) hM hZ wc wi hf hlo) (g := mkF m pc ls st) rfl hsz (Steps.refl _) (a := b) (by rw [eT]; exact qa) qb (argsL := argsL) (rest := rest) hlen hst hW hd (fun _ _ => ⟨rfl, eT, hcl, hsl⟩)
  dsimp only [Pt.U, Pt.locs, Pt.cells, Pt.slots] at X1 r1 r2 r3 st1 hQ
  subst r1 r2 r3
  exact own_go (fun t k => st1.trans k) (K T1 Lc v X1 hQ)
theorem own_mvM {Z : State} {a0 args : Array Value} {own host : String} {ix : Nat} {y : MethodName} (hZ : Z.Warmed39 s.vm) (w : (Jvm.Cond.methodLinkNest own ix y host).before a0 Z = true) : (Jvm.Cond.methodLinkNest own ix y host).before args s = true := (Jvm.Cond.methodLinkNest_wide hZ w :)
theorem own_callN (X : Stand p l e R s m args below meth c T locs cells slots) (hx : p.tables.exec = Jvm.exec) {b : Addr} {host : String} {Z : State} {a0 : Array Value} {h : Heap} {own : String} {ix : Nat} {y : MethodName} {bytes : ByteArray} {maxL W : Nat} {ret : Option FieldType} {rm : Room} {Qc : Option Value → Heap → List Loc → Prop} {argsL rest : List Value} (hZ : Z.Warmed39 s.vm) (eT : T.heap = h) (hown : s.vm.findClass own = some m.cls) (hsz : ls.size = c.maxLocals) (hret : ret = none) (hinit : y.name = "<init>") (wl : (Jvm.Cond.methodLinkNest own ix y host).before a0 Z = true) (wm : (Jvm.Cond.instanceMethod y).before a0 Z = true) (wi : (Jvm.Cond.initialized y.cls).before a0 Z = true) (wc : (Jvm.Cond.code y bytes maxL ret).before a0 Z = true) (hy : y.cls ≠ "java/lang/invoke/MethodHandle" ∧ y.cls ≠ "java/lang/invoke/VarHandle") (hM : MetFree l y (head1 [Jvm.Cond.code y bytes maxL ret] rm) (fun a U => a = (Value.ref b :: argsL).toArray ∧ Z.Warmed39 U.vm ∧ U.heap = h) (fun _ _ _ _ _ => True) (fun _ U o U' => ∃ v L, o = .returned v ∧ Qc v U'.heap L ∧ FrameEnd U o U' L rm.cells rm.slots)) (hf : rm.frames + 1 ≤ R.frames) (hlo : W + (maxL + 11) + rm.locals ≤ R.locals) (hcl : cells + rm.cells ≤ R.cells) (hsl : slots + rm.slots ≤ R.slots)
    (hlen : ∀ sig, parseMethodDescriptor y.desc = some sig → argsL.length = sig.parameters.length) (hst : st = argsL.reverse ++ .ref b :: rest) (hW : 2 * 0 + (rest.map fun v => v.category).sum ≤ W) (hd : decode c.code pc = .ok (.invokespecial ix, 3)) (hp : pc + 3 = pc') (K : ∀ T' L v, Stand p l e R s m args below meth c T' (locs ++ L) (cells + rm.cells) (slots + rm.slots) → Qc v T'.heap L → own_Ends p e below s Q kc ks T' (mkF m pc' ls (v.toList ++ rest))) : own_Ends p e below s Q kc ks T (mkF m pc ls st) := by
  subst hp hret
  obtain ⟨v, _, ⟨T1, L1, k1, n1⟩, -, X1, ⟨Lc, hQ, r1, r2, r3⟩, st1⟩ := X.specialBackNest hx (y := y) hinit hown (own_mvM hZ wl) (mvT hZ wm) (mvT hZ wc) hy (backOf (W := W) hM hZ wc wi hf hlo) (g := mkF m pc ls st) rfl hsz (Steps.refl _) (a := b) (argsL := argsL) (rest := rest) hlen hst hW hd (fun _ _ => ⟨rfl, eT, hcl, hsl⟩)
  dsimp only [Pt.U, Pt.locs, Pt.cells, Pt.slots] at X1 r1 r2 r3 st1 hQ
  subst r1 r2 r3
  exact own_go (fun t k => st1.trans k) (K T1 Lc v X1 hQ)
theorem own_anewarr (X : Stand p l e R s m args below meth c T locs cells slots) (hx : p.tables.exec = Jvm.exec) {Z : State} {a0 : Array Value} {h : Heap} {own C : String} {ix : Nat} (hZ : Z.Warmed39 s.vm) (hown : s.vm.findClass own = some m.cls) (w1 : (Jvm.Cond.classLink own ix C).before a0 Z = true) (w2 : (Jvm.Cond.arrayOver (.object C)).before a0 Z = true) (eT : T.heap = h) (hd : decode c.code pc = .ok (.anewarray ix, 3)) (hp : pc + 3 = pc') {n : Int32} (hn : ¬ n < 0) (cap q : Nat) (hcap : n.toNatClampNeg ≤ cap) (hb : cap * 8 ≤ 536870912) (hc : cells + 1 ≤ R.cells) (hl : slots + cap ≤ R.slots) {ad : String} (had : "[" ++ (FieldType.object C).toString = ad)
    (K : ∀ T' h' a k, Stand p l e R s m args below meth c T' locs (cells + 1) (slots + cap) → T'.heap = h' → Ext h h' → a = h.size → Arv Z h' a k (.object C) n (List.replicate q .null) .null → Exa Z h' a ad → Ovr Z k C → own_Ends p e below s Q kc ks T' (mkF m pc' ls (.ref a :: st))) : own_Ends p e below s Q kc ks T (mkF m pc ls (.int n :: st)) := by
  subst hp
  obtain ⟨T1, h1, k1, X1, e1, E1, A1, Z1, O1, st1⟩ := newRE X hx hZ hown w1 w2 eT (g := mkF m pc ls (.int n :: st)) rfl hd rfl hn (cap := cap) hcap hb hc hl had
  exact own_go st1 (K T1 h1 _ k1 X1 e1 E1 rfl ((Arv.new A1 hn).pad (pad_rep [] _ q)) Z1 O1)
theorem own_aastore (X : Stand p l e R s m args below meth c T locs cells slots) (hx : p.tables.exec = Jvm.exec) {Z : State} {h : Heap} {a b : Addr} {k : ClassId} {C D : String} {n j : Int32} {vs : List Value} {d : Value} (hZ : Z.Warmed39 s.vm) (eT : T.heap = h) (V : Arv Z h a k (.object D) n vs d) (O : Ovr Z k C) (I : Ins Z h b C true) (hd : decode c.code pc = .ok (.aastore, 1)) (hp : pc + 1 = pc') (hj : ¬ j < 0 ∧ j < n) (i : Nat) (hi : j.toNatClampNeg = i) (hl : i < vs.length) {n0 : Nat} (N : Fr n0 locs) (ge : n0 ≤ a)
    (K : ∀ T' h' L, Stand p l e R s m args below meth c T' L cells slots → T'.heap = h' → Fr n0 L → Wr h h' a j.toNatClampNeg (.ref b) → Arv Z h' a k (.object D) n (vs.set i (.ref b)) d → own_Ends p e below s Q kc ks T' (mkF m pc' ls st)) : own_Ends p e below s Q kc ks T (mkF m pc ls (.ref b :: .int j :: .ref a :: st)) := by
  subst hp
  obtain ⟨cl, A, q1, S, q2, H, G⟩ := V
  have hin := inb_of S hj
  obtain ⟨T1, h1, X1, e1, W1, st1⟩ := stR X hx hZ eT A (j := j) hin rfl (Sto.ofV A q1 O I) (g := mkF m pc ls (.ref b :: .int j :: .ref a :: st)) rfl rfl hd
  exact own_go st1 (K T1 h1 _ X1 e1 (Fr.snoc X1 N ge) W1 (Arv.set A q1 S q2 H G rfl W1 i hi hl))
theorem own_tswIn (X : Stand p l e R s m args below meth c T locs cells slots) (hx : p.tables.exec = Jvm.exec) {d lo hi o : Int} {offs : Array Int} {len : Nat} {i : Int32} (hd : decode c.code pc = .ok (.tableswitch d lo hi offs, len)) (hin : ¬ (i.toInt < lo ∨ i.toInt > hi)) (hoff : offs[(i.toInt - lo).toNat]? = some o) (ho : 0 ≤ (pc : Int) + o) (hp : ((pc : Int) + o).toNat = pc') (K : own_Ends p e below s Q kc ks T (mkF m pc' ls st)) : own_Ends p e below s Q kc ks T (mkF m pc ls (.int i :: st)) :=
  own_go (fun t k => XS.tswIn X.here hx rfl rfl hd rfl hin hoff ho hp k) K
theorem own_tswOut (X : Stand p l e R s m args below meth c T locs cells slots) (hx : p.tables.exec = Jvm.exec) {d lo hi : Int} {offs : Array Int} {len : Nat} {i : Int32} (hd : decode c.code pc = .ok (.tableswitch d lo hi offs, len)) (hout : i.toInt < lo ∨ i.toInt > hi) (ho : 0 ≤ (pc : Int) + d) (hp : ((pc : Int) + d).toNat = pc') (K : own_Ends p e below s Q kc ks T (mkF m pc' ls st)) : own_Ends p e below s Q kc ks T (mkF m pc ls (.int i :: st)) :=
  own_go (fun t k => XS.tswOut X.here hx rfl rfl hd rfl hout ho hp k) K
theorem own_ext {h h' : Heap} (K : Keep h h' []) : Ext h h' := ⟨K.1, fun a c q => K.2.1 a c q nin0⟩
theorem own_stak {Z : State} {h h' : Heap} {ws : List Addr} {C n d : String} {v : Value} (F : Sta Z h C n d v) (K : Keep h h' ws) (q : ∀ x ∈ ws, ∃ c : Cell, h[x]? = some c ∧ c.vm.isStatics = false) : Sta Z h' C n d v := by
  obtain ⟨cf, i, k, f, st, cell, h1, h2, h3, h4, h5, h6, h7⟩ := F
  refine ⟨cf, i, k, f, st, cell, h1, h2, h3, h4, K.2.1 st cell h5 (fun z => ?_), h6, h7⟩
  obtain ⟨c, q1, q2⟩ := q st z
  cases h5.symm.trans q1
  rw [h6] at q2; cases q2
theorem own_exac {Z : State} {h : Heap} {a : Addr} {C : String} (F : Exa Z h a C) : ∃ c : Cell, h[a]? = some c ∧ c.vm.isStatics = false := by
  obtain ⟨c, _, h1, -, -, h4, -⟩ := F; exact ⟨c, h1, h4⟩
theorem own_arvc {Z : State} {h : Heap} {a : Addr} {k : ClassId} {ty : FieldType} {n : Int32} {vs : List Value} {d : Value} (F : Arv Z h a k ty n vs d) : ∃ c : Cell, h[a]? = some c ∧ c.vm.isStatics = false := by
  obtain ⟨c, A, -⟩ := F; exact ⟨c, A.1, A.plain⟩
end Own
theorem own_w0 {Z : State} {a0 : Array Value} (hw : ∀ d ∈ tables_1, d.before a0 Z = true) : (Jvm.Cond.classLink "com/example/larder/larder/cache/EvictedKeysRecallPinLaw" (7 : Nat) "com/example/larder/larder/cache/EvictedKeys").before a0 Z = true := hw _ (List.mem_of_getElem? (i := 0) rfl)
theorem own_w1 {Z : State} {a0 : Array Value} (hw : ∀ d ∈ tables_1, d.before a0 Z = true) : (Jvm.Cond.instantiable "com/example/larder/larder/cache/EvictedKeys" (3 : Nat)).before a0 Z = true := hw _ (List.mem_of_getElem? (i := 1) rfl)
theorem own_w2 {Z : State} {a0 : Array Value} (hw : ∀ d ∈ tables_1, d.before a0 Z = true) : (Jvm.Cond.initialized "com/example/larder/larder/cache/EvictedKeys").before a0 Z = true := hw _ (List.mem_of_getElem? (i := 2) rfl)
theorem own_w3 {Z : State} {a0 : Array Value} (hw : ∀ d ∈ tables_1, d.before a0 Z = true) : (Jvm.Cond.methodLink "com/example/larder/larder/cache/EvictedKeysRecallPinLaw" (9 : Nat) ({ cls := "com/example/larder/larder/cache/EvictedKeys", name := "<init>", desc := "(J)V" } : Jvm.MethodName)).before a0 Z = true := hw _ (List.mem_of_getElem? (i := 3) rfl)
theorem own_w4 {Z : State} {a0 : Array Value} (hw : ∀ d ∈ tables_1, d.before a0 Z = true) : (Jvm.Cond.instanceMethod ({ cls := "com/example/larder/larder/cache/EvictedKeys", name := "<init>", desc := "(J)V" } : Jvm.MethodName)).before a0 Z = true := hw _ (List.mem_of_getElem? (i := 4) rfl)
theorem own_w5 {Z : State} {a0 : Array Value} (hw : ∀ d ∈ tables_1, d.before a0 Z = true) : (Jvm.Cond.code ({ cls := "com/example/larder/larder/cache/EvictedKeys", name := "<init>", desc := "(J)V" } : Jvm.MethodName) prog_5_method_1_code (3 : Nat) (Option.none : Option Jvm.ClassFile.FieldType)).before a0 Z = true := hw _ (List.mem_of_getElem? (i := 5) rfl)
theorem own_w6 {Z : State} {a0 : Array Value} (hw : ∀ d ∈ tables_1, d.before a0 Z = true) : (Jvm.Cond.methodLink "com/example/larder/larder/cache/EvictedKeys" (1 : Nat) ({ cls := "java/lang/Object", name := "<init>", desc := "()V" } : Jvm.MethodName)).before a0 Z = true := hw _ (List.mem_of_getElem? (i := 6) rfl)
theorem own_w7 {Z : State} {a0 : Array Value} (hw : ∀ d ∈ tables_1, d.before a0 Z = true) : (Jvm.Cond.instanceMethod ({ cls := "java/lang/Object", name := "<init>", desc := "()V" } : Jvm.MethodName)).before a0 Z = true := hw _ (List.mem_of_getElem? (i := 7) rfl)
theorem own_w8 {Z : State} {a0 : Array Value} (hw : ∀ d ∈ tables_1, d.before a0 Z = true) : (Jvm.Cond.code ({ cls := "java/lang/Object", name := "<init>", desc := "()V" } : Jvm.MethodName) object_method_1_code (1 : Nat) (Option.none : Option Jvm.ClassFile.FieldType)).before a0 Z = true := hw _ (List.mem_of_getElem? (i := 8) rfl)
theorem own_w9 {Z : State} {a0 : Array Value} (hw : ∀ d ∈ tables_1, d.before a0 Z = true) : (Jvm.Cond.constantLong "com/example/larder/larder/cache/EvictedKeys" (9 : Nat) (134217728 : Int64)).before a0 Z = true := hw _ (List.mem_of_getElem? (i := 9) rfl)
theorem own_w10 {Z : State} {a0 : Array Value} (hw : ∀ d ∈ tables_1, d.before a0 Z = true) : (Jvm.Cond.methodLink "com/example/larder/larder/cache/EvictedKeys" (11 : Nat) ({ cls := "java/lang/Math", name := "min", desc := "(JJ)J" } : Jvm.MethodName)).before a0 Z = true := hw _ (List.mem_of_getElem? (i := 10) rfl)
theorem own_w11 {Z : State} {a0 : Array Value} (hw : ∀ d ∈ tables_1, d.before a0 Z = true) : (Jvm.Cond.static ({ cls := "java/lang/Math", name := "min", desc := "(JJ)J" } : Jvm.MethodName)).before a0 Z = true := hw _ (List.mem_of_getElem? (i := 11) rfl)
theorem own_w12 {Z : State} {a0 : Array Value} (hw : ∀ d ∈ tables_1, d.before a0 Z = true) : (Jvm.Cond.initialized "java/lang/Math").before a0 Z = true := hw _ (List.mem_of_getElem? (i := 12) rfl)
theorem own_w13 {Z : State} {a0 : Array Value} (hw : ∀ d ∈ tables_1, d.before a0 Z = true) : (Jvm.Cond.code ({ cls := "java/lang/Math", name := "min", desc := "(JJ)J" } : Jvm.MethodName) jdk_29_method_70_code (4 : Nat) (Option.some Jvm.ClassFile.FieldType.long)).before a0 Z = true := hw _ (List.mem_of_getElem? (i := 13) rfl)
theorem own_w14 {Z : State} {a0 : Array Value} (hw : ∀ d ∈ tables_1, d.before a0 Z = true) : (Jvm.Cond.fieldLink "com/example/larder/larder/cache/EvictedKeys" (17 : Nat) "com/example/larder/larder/cache/EvictedKeys" "depth" "I").before a0 Z = true := hw _ (List.mem_of_getElem? (i := 14) rfl)
theorem own_w15 {Z : State} {a0 : Array Value} (hw : ∀ d ∈ tables_1, d.before a0 Z = true) : (Jvm.Cond.laysFinal "com/example/larder/larder/cache/EvictedKeys" "com/example/larder/larder/cache/EvictedKeys" "depth" "I").before a0 Z = true := hw _ (List.mem_of_getElem? (i := 15) rfl)
theorem own_w16 {Z : State} {a0 : Array Value} (hw : ∀ d ∈ tables_1, d.before a0 Z = true) : (Jvm.Cond.methodLink "com/example/larder/larder/cache/EvictedKeysRecallPinLaw" (16 : Nat) ({ cls := "com/example/larder/larder/cache/EvictedKeys", name := "recall", desc := "(I)Z" } : Jvm.MethodName)).before a0 Z = true := hw _ (List.mem_of_getElem? (i := 16) rfl)
theorem own_w17 {Z : State} {a0 : Array Value} (hw : ∀ d ∈ tables_1, d.before a0 Z = true) : (Jvm.Cond.declares ({ cls := "com/example/larder/larder/cache/EvictedKeys", name := "recall", desc := "(I)Z" } : Jvm.MethodName)).before a0 Z = true := hw _ (List.mem_of_getElem? (i := 17) rfl)
theorem own_w18 {Z : State} {a0 : Array Value} (hw : ∀ d ∈ tables_1, d.before a0 Z = true) : (Jvm.Cond.instanceMethod ({ cls := "com/example/larder/larder/cache/EvictedKeys", name := "recall", desc := "(I)Z" } : Jvm.MethodName)).before a0 Z = true := hw _ (List.mem_of_getElem? (i := 18) rfl)
theorem own_w19 {Z : State} {a0 : Array Value} (hw : ∀ d ∈ tables_1, d.before a0 Z = true) : (Jvm.Cond.selects "com/example/larder/larder/cache/EvictedKeys" ({ cls := "com/example/larder/larder/cache/EvictedKeys", name := "recall", desc := "(I)Z" } : Jvm.MethodName) ({ cls := "com/example/larder/larder/cache/EvictedKeys", name := "recall", desc := "(I)Z" } : Jvm.MethodName)).before a0 Z = true := hw _ (List.mem_of_getElem? (i := 19) rfl)
theorem own_w20 {Z : State} {a0 : Array Value} (hw : ∀ d ∈ tables_1, d.before a0 Z = true) : (Jvm.Cond.code ({ cls := "com/example/larder/larder/cache/EvictedKeys", name := "recall", desc := "(I)Z" } : Jvm.MethodName) prog_5_method_3_code (7 : Nat) (Option.some Jvm.ClassFile.FieldType.boolean)).before a0 Z = true := hw _ (List.mem_of_getElem? (i := 20) rfl)
theorem own_w21 {Z : State} {a0 : Array Value} (hw : ∀ d ∈ tables_1, d.before a0 Z = true) : (Jvm.Cond.fieldLink "com/example/larder/larder/cache/EvictedKeys" (21 : Nat) "com/example/larder/larder/cache/EvictedKeys" "slots" "[J").before a0 Z = true := hw _ (List.mem_of_getElem? (i := 21) rfl)
theorem own_w22 {Z : State} {a0 : Array Value} (hw : ∀ d ∈ tables_1, d.before a0 Z = true) : (Jvm.Cond.lays "com/example/larder/larder/cache/EvictedKeys" "com/example/larder/larder/cache/EvictedKeys" "slots" "[J").before a0 Z = true := hw _ (List.mem_of_getElem? (i := 22) rfl)
theorem own_w23 {Z : State} {a0 : Array Value} (hw : ∀ d ∈ tables_1, d.before a0 Z = true) : (Jvm.Cond.methodLink "com/example/larder/larder/cache/EvictedKeysRecallPinLaw" (20 : Nat) ({ cls := "com/example/larder/larder/cache/UseCounts", name := "spread", desc := "(I)I" } : Jvm.MethodName)).before a0 Z = true := hw _ (List.mem_of_getElem? (i := 23) rfl)
theorem own_w24 {Z : State} {a0 : Array Value} (hw : ∀ d ∈ tables_1, d.before a0 Z = true) : (Jvm.Cond.static ({ cls := "com/example/larder/larder/cache/UseCounts", name := "spread", desc := "(I)I" } : Jvm.MethodName)).before a0 Z = true := hw _ (List.mem_of_getElem? (i := 24) rfl)
theorem own_w25 {Z : State} {a0 : Array Value} (hw : ∀ d ∈ tables_1, d.before a0 Z = true) : (Jvm.Cond.initialized "com/example/larder/larder/cache/UseCounts").before a0 Z = true := hw _ (List.mem_of_getElem? (i := 25) rfl)
theorem own_w26 {Z : State} {a0 : Array Value} (hw : ∀ d ∈ tables_1, d.before a0 Z = true) : (Jvm.Cond.code ({ cls := "com/example/larder/larder/cache/UseCounts", name := "spread", desc := "(I)I" } : Jvm.MethodName) prog_12_method_6_code (2 : Nat) (Option.some Jvm.ClassFile.FieldType.int)).before a0 Z = true := hw _ (List.mem_of_getElem? (i := 26) rfl)
theorem own_w27 {Z : State} {a0 : Array Value} (hw : ∀ d ∈ tables_1, d.before a0 Z = true) : (Jvm.Cond.constant "com/example/larder/larder/cache/UseCounts" (51 : Nat) (73244475 : Int32)).before a0 Z = true := hw _ (List.mem_of_getElem? (i := 27) rfl)
theorem own_w28 {Z : State} {a0 : Array Value} (hw : ∀ d ∈ tables_1, d.before a0 Z = true) : (Jvm.Cond.methodLink "com/example/larder/larder/cache/EvictedKeysRecallPinLaw" (12 : Nat) ({ cls := "com/example/larder/larder/cache/EvictedKeys", name := "remember", desc := "(I)V" } : Jvm.MethodName)).before a0 Z = true := hw _ (List.mem_of_getElem? (i := 28) rfl)
theorem own_w29 {Z : State} {a0 : Array Value} (hw : ∀ d ∈ tables_1, d.before a0 Z = true) : (Jvm.Cond.declares ({ cls := "com/example/larder/larder/cache/EvictedKeys", name := "remember", desc := "(I)V" } : Jvm.MethodName)).before a0 Z = true := hw _ (List.mem_of_getElem? (i := 29) rfl)
theorem own_w30 {Z : State} {a0 : Array Value} (hw : ∀ d ∈ tables_1, d.before a0 Z = true) : (Jvm.Cond.instanceMethod ({ cls := "com/example/larder/larder/cache/EvictedKeys", name := "remember", desc := "(I)V" } : Jvm.MethodName)).before a0 Z = true := hw _ (List.mem_of_getElem? (i := 30) rfl)
theorem own_w31 {Z : State} {a0 : Array Value} (hw : ∀ d ∈ tables_1, d.before a0 Z = true) : (Jvm.Cond.selects "com/example/larder/larder/cache/EvictedKeys" ({ cls := "com/example/larder/larder/cache/EvictedKeys", name := "remember", desc := "(I)V" } : Jvm.MethodName) ({ cls := "com/example/larder/larder/cache/EvictedKeys", name := "remember", desc := "(I)V" } : Jvm.MethodName)).before a0 Z = true := hw _ (List.mem_of_getElem? (i := 31) rfl)
theorem own_w32 {Z : State} {a0 : Array Value} (hw : ∀ d ∈ tables_1, d.before a0 Z = true) : (Jvm.Cond.code ({ cls := "com/example/larder/larder/cache/EvictedKeys", name := "remember", desc := "(I)V" } : Jvm.MethodName) prog_5_method_2_code (3 : Nat) (Option.none : Option Jvm.ClassFile.FieldType)).before a0 Z = true := hw _ (List.mem_of_getElem? (i := 32) rfl)
theorem own_w33 {Z : State} {a0 : Array Value} (hw : ∀ d ∈ tables_1, d.before a0 Z = true) : (Jvm.Cond.methodLink "com/example/larder/larder/cache/EvictedKeys" (25 : Nat) ({ cls := "java/lang/Integer", name := "highestOneBit", desc := "(I)I" } : Jvm.MethodName)).before a0 Z = true := hw _ (List.mem_of_getElem? (i := 33) rfl)
theorem own_w34 {Z : State} {a0 : Array Value} (hw : ∀ d ∈ tables_1, d.before a0 Z = true) : (Jvm.Cond.static ({ cls := "java/lang/Integer", name := "highestOneBit", desc := "(I)I" } : Jvm.MethodName)).before a0 Z = true := hw _ (List.mem_of_getElem? (i := 34) rfl)
theorem own_w35 {Z : State} {a0 : Array Value} (hw : ∀ d ∈ tables_1, d.before a0 Z = true) : (Jvm.Cond.initialized "java/lang/Integer").before a0 Z = true := hw _ (List.mem_of_getElem? (i := 35) rfl)
theorem own_w36 {Z : State} {a0 : Array Value} (hw : ∀ d ∈ tables_1, d.before a0 Z = true) : (Jvm.Cond.code ({ cls := "java/lang/Integer", name := "highestOneBit", desc := "(I)I" } : Jvm.MethodName) jdk_33_method_45_code (1 : Nat) (Option.some Jvm.ClassFile.FieldType.int)).before a0 Z = true := hw _ (List.mem_of_getElem? (i := 36) rfl)
theorem own_w37 {Z : State} {a0 : Array Value} (hw : ∀ d ∈ tables_1, d.before a0 Z = true) : (Jvm.Cond.constant "java/lang/Integer" (127 : Nat) (-2147483648 : Int32)).before a0 Z = true := hw _ (List.mem_of_getElem? (i := 37) rfl)
theorem own_w38 {Z : State} {a0 : Array Value} (hw : ∀ d ∈ tables_1, d.before a0 Z = true) : (Jvm.Cond.methodLink "java/lang/Integer" (51 : Nat) ({ cls := "java/lang/Integer", name := "numberOfLeadingZeros", desc := "(I)I" } : Jvm.MethodName)).before a0 Z = true := hw _ (List.mem_of_getElem? (i := 38) rfl)
theorem own_w39 {Z : State} {a0 : Array Value} (hw : ∀ d ∈ tables_1, d.before a0 Z = true) : (Jvm.Cond.static ({ cls := "java/lang/Integer", name := "numberOfLeadingZeros", desc := "(I)I" } : Jvm.MethodName)).before a0 Z = true := hw _ (List.mem_of_getElem? (i := 39) rfl)
theorem own_w40 {Z : State} {a0 : Array Value} (hw : ∀ d ∈ tables_1, d.before a0 Z = true) : (Jvm.Cond.code ({ cls := "java/lang/Integer", name := "numberOfLeadingZeros", desc := "(I)I" } : Jvm.MethodName) jdk_33_method_47_code (2 : Nat) (Option.some Jvm.ClassFile.FieldType.int)).before a0 Z = true := hw _ (List.mem_of_getElem? (i := 40) rfl)
theorem own_w41 {Z : State} {a0 : Array Value} (hw : ∀ d ∈ tables_1, d.before a0 Z = true) : (Jvm.Cond.constant "java/lang/Integer" (264 : Nat) (65536 : Int32)).before a0 Z = true := hw _ (List.mem_of_getElem? (i := 41) rfl)
theorem own_w42 {Z : State} {a0 : Array Value} (hw : ∀ d ∈ tables_1, d.before a0 Z = true) : (Jvm.Cond.arrayClass Jvm.ClassFile.FieldType.long).before a0 Z = true := hw _ (List.mem_of_getElem? (i := 42) rfl)
theorem own_w43 {Z : State} {a0 : Array Value} (hw : ∀ d ∈ tables_1, d.before a0 Z = true) : (Jvm.Cond.methodLink "com/example/larder/larder/cache/EvictedKeys" (31 : Nat) ({ cls := "com/example/larder/larder/cache/UseCounts", name := "spread", desc := "(I)I" } : Jvm.MethodName)).before a0 Z = true := hw _ (List.mem_of_getElem? (i := 43) rfl)
theorem own_w44 {Z : State} {a0 : Array Value} (hw : ∀ d ∈ tables_1, d.before a0 Z = true) : (Jvm.Cond.fieldLink "com/example/larder/larder/cache/EvictedKeys" (36 : Nat) "com/example/larder/larder/cache/EvictedKeys" "remembered" "I").before a0 Z = true := hw _ (List.mem_of_getElem? (i := 44) rfl)
theorem own_w45 {Z : State} {a0 : Array Value} (hw : ∀ d ∈ tables_1, d.before a0 Z = true) : (Jvm.Cond.lays "com/example/larder/larder/cache/EvictedKeys" "com/example/larder/larder/cache/EvictedKeys" "remembered" "I").before a0 Z = true := hw _ (List.mem_of_getElem? (i := 45) rfl)
theorem own_w46 {Z : State} {a0 : Array Value} (hw : ∀ d ∈ tables_1, d.before a0 Z = true) : (Jvm.Cond.constantLong "com/example/larder/larder/cache/EvictedKeys" (39 : Nat) (4294967295 : Int64)).before a0 Z = true := hw _ (List.mem_of_getElem? (i := 46) rfl)
theorem own_pd0 : parseMethodDescriptor "(I)I" = some ⟨[.int], some .int⟩ := by decide +kernel
theorem own_pd1 : parseMethodDescriptor "(JJ)J" = some ⟨[.long, .long], some .long⟩ := by decide +kernel
theorem own_pd2 : parseMethodDescriptor "(J)V" = some ⟨[.long], none⟩ := by decide +kernel
theorem own_pd3 : parseMethodDescriptor "(I)Z" = some ⟨[.int], some .boolean⟩ := by decide +kernel
theorem own_pd4 : parseMethodDescriptor "(I)V" = some ⟨[.int], none⟩ := by decide +kernel
theorem own_pn0 : plainName "com/example/larder/larder/cache/UseCounts" = true := by first | (simp [plainName, overriddenIn]; done) | decide +kernel
theorem own_pn1 : plainName "java/lang/Integer" = true := by first | (simp [plainName, overriddenIn]; done) | decide +kernel
theorem own_pn2 : plainName "com/example/larder/larder/cache/EvictedKeys" = true := by first | (simp [plainName, overriddenIn]; done) | decide +kernel
theorem own_pn3 : plainName "com/example/larder/larder/cache/EvictedKeysRecallPinLaw" = true := by first | (simp [plainName, overriddenIn]; done) | decide +kernel
theorem own_arrat {s : State} {a : Addr} {c : Cell} (h : s.arrayAt? a = some c) : s.heap[a]? = some c := by
  unfold State.arrayAt? at h
  cases q : s.heap[a]? with
  | none => simp [q] at h
  | some d =>
    simp [q] at h
    obtain ⟨k, -, h2⟩ := Option.bind_eq_some_iff.mp h
    split at h2
    · cases h2
    · split at h2
      · exact h2
      · cases h2
theorem own_b1 {x a b : Int32} (h : x < a) (q : ¬ b < a) : x < b := by rw [Int32.lt_iff_toInt_lt] at *; omega
theorem own_b2 {x a b : Int32} (h : ¬ x < a) (q : ¬ a < b) : ¬ x < b := by rw [Int32.lt_iff_toInt_lt] at *; omega
theorem own_b3 {x a b : Int32} (h : a < x) (q : ¬ a < b) : b < x := by rw [Int32.lt_iff_toInt_lt] at *; omega
theorem own_b4 {x a b : Int32} (h : ¬ a < x) (q : ¬ b < a) : ¬ b < x := by rw [Int32.lt_iff_toInt_lt] at *; omega
theorem own_b5 {x a b : Int32} (h : x < a) (q : ¬ b < a - 1 ∧ a - 1 < a) : ¬ b < x := by
  obtain ⟨q1, q2⟩ := q
  have := c_isub a 1; have := rng32 a; have := rng32 (a - 1); have e1 : (1 : Int32).toInt = 1 := rfl
  rw [Int32.lt_iff_toInt_lt] at *; omega
theorem own_b6 {x a b : Int32} (h : ¬ x < a) (q : b < a) : b < x := by rw [Int32.lt_iff_toInt_lt] at *; omega
theorem own_b7 {x a b : Int32} (h : a < x) (q : ¬ a + 1 < b ∧ a < a + 1) : ¬ x < b := by
  obtain ⟨q1, q2⟩ := q
  have := c_iadd a 1; have := rng32 a; have := rng32 (a + 1); have e1 : (1 : Int32).toInt = 1 := rfl
  rw [Int32.lt_iff_toInt_lt] at *; omega
theorem own_b8 {x a b : Int32} (h : ¬ a < x) (q : a < b) : x < b := by rw [Int32.lt_iff_toInt_lt] at *; omega
theorem own_n1 {x b : Int32} (h : x < b) : ¬ x = b := fun q => by subst q; rw [Int32.lt_iff_toInt_lt] at h; omega
theorem own_n2 {x b : Int32} (h : b < x) : ¬ x = b := fun q => by subst q; rw [Int32.lt_iff_toInt_lt] at h; omega
theorem own_i1 {x y : Int32} (h : x < y) : x.toInt < y.toInt := Int32.lt_iff_toInt_lt.mp h
theorem own_i2 {x y : Int32} (h : ¬ x < y) : y.toInt ≤ x.toInt := Int.not_lt.mp fun q => h (Int32.lt_iff_toInt_lt.mpr q)
theorem own_i3 {x y : Int32} (h : x = y) : x.toInt = y.toInt := congrArg Int32.toInt h
theorem own_i4 {x y : Int32} (h : ¬ x = y) : ¬ x.toInt = y.toInt := fun q => h (Int32.toInt_inj.mp q)
theorem own_some {x y : Int32} (h : x = y) : some (Value.int x) = some (Value.int y) := congrArg (fun z => some (Value.int z)) h
theorem own_ae1 {a b : Addr} (h : a = b) : XT.acmp .eq (.ref a) (.ref b) = true ∧ XT.acmp .ne (.ref a) (.ref b) = false := ⟨decide_eq_true (congrArg Value.ref h), decide_eq_false fun q => q (congrArg Value.ref h)⟩
theorem own_ae0 {a b : Addr} (h : ¬ a = b) : XT.acmp .eq (.ref a) (.ref b) = false ∧ XT.acmp .ne (.ref a) (.ref b) = true := ⟨decide_eq_false fun q => h (Value.ref.inj q), decide_eq_true fun q => h (Value.ref.inj q)⟩
theorem own_ann : XT.acmp .eq .null .null = true ∧ XT.acmp .ne .null .null = false := ⟨rfl, rfl⟩
theorem own_anr (b : Addr) : XT.acmp .eq .null (.ref b) = false ∧ XT.acmp .ne .null (.ref b) = true := by constructor <;> first | rfl | (simp [XT.acmp]; done) | decide
theorem own_arn (b : Addr) : XT.acmp .eq (.ref b) .null = false ∧ XT.acmp .ne (.ref b) .null = true := by constructor <;> first | rfl | (simp [XT.acmp]; done) | decide
theorem own_eqi {args : Array Value} {s : State} {t : Term} {k : Int32} (h : (Jvm.Cond.eq t (Term.int k)).value args s none s [] = some true) : t.eval args s none [] s = some (.int k) := by
  obtain ⟨x, y, e1, e2, k1, k2⟩ := cmp_v (Or.inl h)
  obtain rfl : Value.int k = y := Option.some.inj ((Term.int_eval k).symm.trans e2)
  obtain ⟨z, rfl⟩ : ∃ z, x = .int z := k2
  have q : z = k := gotT (Cond.eq_ints e1 (Term.int_eval k)) h
  rw [e1, q]
theorem own_eql {args : Array Value} {s : State} {t : Term} {k : Int64} (h : (Jvm.Cond.eq t (Term.long k)).value args s none s [] = some true) : t.eval args s none [] s = some (.long k) := by
  obtain ⟨x, y, e1, e2, k1, k2⟩ := cmp_v (Or.inl h)
  obtain rfl : Value.long k = y := Option.some.inj ((show (Term.long k).eval args s none [] s = some (.long k) from rfl).symm.trans e2)
  obtain ⟨z, rfl⟩ : ∃ z, x = .long z := k2
  have q : z = k := gotT (eq_L e1 (show (Term.long k).eval args s none [] s = some (.long k) from rfl)) h
  rw [e1, q]
theorem own_len {args : Array Value} {s : State} {t : Term} {k : Int32} {a : Addr} {c : Cell} (h : (Term.length t).eval args s none [] s = some (.int k)) (ht : t.eval args s none [] s = some (.ref a)) (hc : s.heap[a]? = some c) : c.slots.size.toInt32 = k ∧ c.slots.size < 2 ^ 31 := by
  obtain ⟨a', cell, e1, e2, e3⟩ := Term.length_spec h
  cases ht.symm.trans e1
  have e4 : s.heap[a]? = some cell := own_arrat e2
  cases hc.symm.trans e4
  refine ⟨(Value.int.inj e3).symm, ?_⟩
  by_cases q : c.slots.size < 2 ^ 31
  · exact q
  · simp [Term.eval, ht, e2, q] at h
theorem own_nb0 : nar .boolean 0 = 0 := by decide
theorem own_nb1 : nar .boolean 1 = 1 := by decide
def own_ushr (x y : Int32) : Int32 := (x.toUInt32 >>> (y &&& 31).toUInt32).toInt32
def own_ushrL (x : Int64) (y : Int32) : Int64 := (x.toUInt64 >>> (y &&& 0x3f).toInt64.toUInt64).toInt64
theorem own_d1_0 : decode prog_5_method_1_code 0 = .ok (.aload_n 0, 1) := by decide +kernel
theorem own_d1_1 : decode prog_5_method_1_code 1 = .ok (.invokespecial 1, 3) := by decide +kernel
theorem own_d1_4 : decode prog_5_method_1_code 4 = .ok (.aload_n 0, 1) := by decide +kernel
theorem own_d1_5 : decode prog_5_method_1_code 5 = .ok (.ldc2_w 9, 3) := by decide +kernel
theorem own_d1_8 : decode prog_5_method_1_code 8 = .ok (.lload_n 1, 1) := by decide +kernel
theorem own_d1_9 : decode prog_5_method_1_code 9 = .ok (.invokestatic 11, 3) := by decide +kernel
theorem own_d1_12 : decode prog_5_method_1_code 12 = .ok (.l2i, 1) := by decide +kernel
theorem own_d1_13 : decode prog_5_method_1_code 13 = .ok (.putfield 17, 3) := by decide +kernel
theorem own_d1_16 : decode prog_5_method_1_code 16 = .ok (.return_, 1) := by decide +kernel
theorem own_d3_0 : decode jdk_29_method_70_code 0 = .ok (.lload_n 0, 1) := by decide +kernel
theorem own_d3_1 : decode jdk_29_method_70_code 1 = .ok (.lload_n 2, 1) := by decide +kernel
theorem own_d3_2 : decode jdk_29_method_70_code 2 = .ok (.lcmp, 1) := by decide +kernel
theorem own_d3_3 : decode jdk_29_method_70_code 3 = .ok (.ifCond .gt 7, 3) := by decide +kernel
theorem own_d3_6 : decode jdk_29_method_70_code 6 = .ok (.lload_n 0, 1) := by decide +kernel
theorem own_d3_7 : decode jdk_29_method_70_code 7 = .ok (.goto 4, 3) := by decide +kernel
theorem own_d3_10 : decode jdk_29_method_70_code 10 = .ok (.lload_n 2, 1) := by decide +kernel
theorem own_d3_11 : decode jdk_29_method_70_code 11 = .ok (.lreturn, 1) := by decide +kernel
theorem own_d4_0 : decode prog_5_method_3_code 0 = .ok (.iconst 0, 1) := by decide +kernel
theorem own_d4_1 : decode prog_5_method_3_code 1 = .ok (.istore_n 2, 1) := by decide +kernel
theorem own_d4_2 : decode prog_5_method_3_code 2 = .ok (.aload_n 0, 1) := by decide +kernel
theorem own_d4_3 : decode prog_5_method_3_code 3 = .ok (.getfield 21, 3) := by decide +kernel
theorem own_d4_6 : decode prog_5_method_3_code 6 = .ok (.ifnull 74, 3) := by decide +kernel
theorem own_d4_9 : decode prog_5_method_3_code 9 = .ok (.iload_n 1, 1) := by decide +kernel
theorem own_d4_10 : decode prog_5_method_3_code 10 = .ok (.invokestatic 31, 3) := by decide +kernel
theorem own_d4_13 : decode prog_5_method_3_code 13 = .ok (.istore_n 3, 1) := by decide +kernel
theorem own_d4_14 : decode prog_5_method_3_code 14 = .ok (.iload_n 3, 1) := by decide +kernel
theorem own_d4_15 : decode prog_5_method_3_code 15 = .ok (.aload_n 0, 1) := by decide +kernel
theorem own_d4_16 : decode prog_5_method_3_code 16 = .ok (.getfield 21, 3) := by decide +kernel
theorem own_d4_19 : decode prog_5_method_3_code 19 = .ok (.arraylength, 1) := by decide +kernel
theorem own_d4_20 : decode prog_5_method_3_code 20 = .ok (.iconst 1, 1) := by decide +kernel
theorem own_d4_21 : decode prog_5_method_3_code 21 = .ok (.isub, 1) := by decide +kernel
theorem own_d4_22 : decode prog_5_method_3_code 22 = .ok (.iand, 1) := by decide +kernel
theorem own_d4_23 : decode prog_5_method_3_code 23 = .ok (.istore 4, 2) := by decide +kernel
theorem own_d4_25 : decode prog_5_method_3_code 25 = .ok (.aload_n 0, 1) := by decide +kernel
theorem own_d4_26 : decode prog_5_method_3_code 26 = .ok (.getfield 21, 3) := by decide +kernel
theorem own_d4_29 : decode prog_5_method_3_code 29 = .ok (.iload 4, 2) := by decide +kernel
theorem own_d4_31 : decode prog_5_method_3_code 31 = .ok (.laload, 1) := by decide +kernel
theorem own_d4_32 : decode prog_5_method_3_code 32 = .ok (.lstore 5, 2) := by decide +kernel
theorem own_d4_34 : decode prog_5_method_3_code 34 = .ok (.lload 5, 2) := by decide +kernel
theorem own_d4_36 : decode prog_5_method_3_code 36 = .ok (.lconst 0, 1) := by decide +kernel
theorem own_d4_37 : decode prog_5_method_3_code 37 = .ok (.lcmp, 1) := by decide +kernel
theorem own_d4_38 : decode prog_5_method_3_code 38 = .ok (.ifCond .eq 42, 3) := by decide +kernel
theorem own_d4_41 : decode prog_5_method_3_code 41 = .ok (.lload 5, 2) := by decide +kernel
theorem own_d4_43 : decode prog_5_method_3_code 43 = .ok (.bipush 32, 2) := by decide +kernel
theorem own_d4_45 : decode prog_5_method_3_code 45 = .ok (.lushr, 1) := by decide +kernel
theorem own_d4_46 : decode prog_5_method_3_code 46 = .ok (.l2i, 1) := by decide +kernel
theorem own_d4_47 : decode prog_5_method_3_code 47 = .ok (.iload_n 3, 1) := by decide +kernel
theorem own_d4_48 : decode prog_5_method_3_code 48 = .ok (.if_icmp .ne 32, 3) := by decide +kernel
theorem own_d4_51 : decode prog_5_method_3_code 51 = .ok (.aload_n 0, 1) := by decide +kernel
theorem own_d4_52 : decode prog_5_method_3_code 52 = .ok (.getfield 21, 3) := by decide +kernel
theorem own_d4_55 : decode prog_5_method_3_code 55 = .ok (.iload 4, 2) := by decide +kernel
theorem own_d4_57 : decode prog_5_method_3_code 57 = .ok (.lconst 0, 1) := by decide +kernel
theorem own_d4_58 : decode prog_5_method_3_code 58 = .ok (.lastore, 1) := by decide +kernel
theorem own_d4_59 : decode prog_5_method_3_code 59 = .ok (.aload_n 0, 1) := by decide +kernel
theorem own_d4_60 : decode prog_5_method_3_code 60 = .ok (.getfield 36, 3) := by decide +kernel
theorem own_d4_63 : decode prog_5_method_3_code 63 = .ok (.lload 5, 2) := by decide +kernel
theorem own_d4_65 : decode prog_5_method_3_code 65 = .ok (.l2i, 1) := by decide +kernel
theorem own_d4_66 : decode prog_5_method_3_code 66 = .ok (.isub, 1) := by decide +kernel
theorem own_d4_67 : decode prog_5_method_3_code 67 = .ok (.aload_n 0, 1) := by decide +kernel
theorem own_d4_68 : decode prog_5_method_3_code 68 = .ok (.getfield 17, 3) := by decide +kernel
theorem own_d4_71 : decode prog_5_method_3_code 71 = .ok (.if_icmp .ge 7, 3) := by decide +kernel
theorem own_d4_74 : decode prog_5_method_3_code 74 = .ok (.iconst 1, 1) := by decide +kernel
theorem own_d4_75 : decode prog_5_method_3_code 75 = .ok (.goto 4, 3) := by decide +kernel
theorem own_d4_78 : decode prog_5_method_3_code 78 = .ok (.iconst 0, 1) := by decide +kernel
theorem own_d4_79 : decode prog_5_method_3_code 79 = .ok (.istore_n 2, 1) := by decide +kernel
theorem own_d4_80 : decode prog_5_method_3_code 80 = .ok (.iload_n 2, 1) := by decide +kernel
theorem own_d4_81 : decode prog_5_method_3_code 81 = .ok (.ireturn, 1) := by decide +kernel
theorem own_d5_0 : decode prog_12_method_6_code 0 = .ok (.iload_n 0, 1) := by decide +kernel
theorem own_d5_1 : decode prog_12_method_6_code 1 = .ok (.iload_n 0, 1) := by decide +kernel
theorem own_d5_2 : decode prog_12_method_6_code 2 = .ok (.bipush 16, 2) := by decide +kernel
theorem own_d5_4 : decode prog_12_method_6_code 4 = .ok (.iushr, 1) := by decide +kernel
theorem own_d5_5 : decode prog_12_method_6_code 5 = .ok (.ixor, 1) := by decide +kernel
theorem own_d5_6 : decode prog_12_method_6_code 6 = .ok (.ldc 51, 2) := by decide +kernel
theorem own_d5_8 : decode prog_12_method_6_code 8 = .ok (.imul, 1) := by decide +kernel
theorem own_d5_9 : decode prog_12_method_6_code 9 = .ok (.istore_n 1, 1) := by decide +kernel
theorem own_d5_10 : decode prog_12_method_6_code 10 = .ok (.iload_n 1, 1) := by decide +kernel
theorem own_d5_11 : decode prog_12_method_6_code 11 = .ok (.iload_n 1, 1) := by decide +kernel
theorem own_d5_12 : decode prog_12_method_6_code 12 = .ok (.bipush 16, 2) := by decide +kernel
theorem own_d5_14 : decode prog_12_method_6_code 14 = .ok (.iushr, 1) := by decide +kernel
theorem own_d5_15 : decode prog_12_method_6_code 15 = .ok (.ixor, 1) := by decide +kernel
theorem own_d5_16 : decode prog_12_method_6_code 16 = .ok (.ldc 51, 2) := by decide +kernel
theorem own_d5_18 : decode prog_12_method_6_code 18 = .ok (.imul, 1) := by decide +kernel
theorem own_d5_19 : decode prog_12_method_6_code 19 = .ok (.istore_n 1, 1) := by decide +kernel
theorem own_d5_20 : decode prog_12_method_6_code 20 = .ok (.iload_n 1, 1) := by decide +kernel
theorem own_d5_21 : decode prog_12_method_6_code 21 = .ok (.iload_n 1, 1) := by decide +kernel
theorem own_d5_22 : decode prog_12_method_6_code 22 = .ok (.bipush 16, 2) := by decide +kernel
theorem own_d5_24 : decode prog_12_method_6_code 24 = .ok (.iushr, 1) := by decide +kernel
theorem own_d5_25 : decode prog_12_method_6_code 25 = .ok (.ixor, 1) := by decide +kernel
theorem own_d5_26 : decode prog_12_method_6_code 26 = .ok (.ireturn, 1) := by decide +kernel
theorem own_d6_0 : decode prog_5_method_2_code 0 = .ok (.aload_n 0, 1) := by decide +kernel
theorem own_d6_1 : decode prog_5_method_2_code 1 = .ok (.getfield 21, 3) := by decide +kernel
theorem own_d6_4 : decode prog_5_method_2_code 4 = .ok (.ifnonnull 22, 3) := by decide +kernel
theorem own_d6_7 : decode prog_5_method_2_code 7 = .ok (.aload_n 0, 1) := by decide +kernel
theorem own_d6_8 : decode prog_5_method_2_code 8 = .ok (.iconst 2, 1) := by decide +kernel
theorem own_d6_9 : decode prog_5_method_2_code 9 = .ok (.aload_n 0, 1) := by decide +kernel
theorem own_d6_10 : decode prog_5_method_2_code 10 = .ok (.getfield 17, 3) := by decide +kernel
theorem own_d6_13 : decode prog_5_method_2_code 13 = .ok (.imul, 1) := by decide +kernel
theorem own_d6_14 : decode prog_5_method_2_code 14 = .ok (.iconst 1, 1) := by decide +kernel
theorem own_d6_15 : decode prog_5_method_2_code 15 = .ok (.isub, 1) := by decide +kernel
theorem own_d6_16 : decode prog_5_method_2_code 16 = .ok (.invokestatic 25, 3) := by decide +kernel
theorem own_d6_19 : decode prog_5_method_2_code 19 = .ok (.iconst 1, 1) := by decide +kernel
theorem own_d6_20 : decode prog_5_method_2_code 20 = .ok (.ishl, 1) := by decide +kernel
theorem own_d6_21 : decode prog_5_method_2_code 21 = .ok (.newarray .long, 2) := by decide +kernel
theorem own_d6_23 : decode prog_5_method_2_code 23 = .ok (.putfield 21, 3) := by decide +kernel
theorem own_d6_26 : decode prog_5_method_2_code 26 = .ok (.iload_n 1, 1) := by decide +kernel
theorem own_d6_27 : decode prog_5_method_2_code 27 = .ok (.invokestatic 31, 3) := by decide +kernel
theorem own_d6_30 : decode prog_5_method_2_code 30 = .ok (.istore_n 2, 1) := by decide +kernel
theorem own_d6_31 : decode prog_5_method_2_code 31 = .ok (.aload_n 0, 1) := by decide +kernel
theorem own_d6_32 : decode prog_5_method_2_code 32 = .ok (.dup, 1) := by decide +kernel
theorem own_d6_33 : decode prog_5_method_2_code 33 = .ok (.getfield 36, 3) := by decide +kernel
theorem own_d6_36 : decode prog_5_method_2_code 36 = .ok (.iconst 1, 1) := by decide +kernel
theorem own_d6_37 : decode prog_5_method_2_code 37 = .ok (.iadd, 1) := by decide +kernel
theorem own_d6_38 : decode prog_5_method_2_code 38 = .ok (.putfield 36, 3) := by decide +kernel
theorem own_d6_41 : decode prog_5_method_2_code 41 = .ok (.aload_n 0, 1) := by decide +kernel
theorem own_d6_42 : decode prog_5_method_2_code 42 = .ok (.getfield 21, 3) := by decide +kernel
theorem own_d6_45 : decode prog_5_method_2_code 45 = .ok (.iload_n 2, 1) := by decide +kernel
theorem own_d6_46 : decode prog_5_method_2_code 46 = .ok (.aload_n 0, 1) := by decide +kernel
theorem own_d6_47 : decode prog_5_method_2_code 47 = .ok (.getfield 21, 3) := by decide +kernel
theorem own_d6_50 : decode prog_5_method_2_code 50 = .ok (.arraylength, 1) := by decide +kernel
theorem own_d6_51 : decode prog_5_method_2_code 51 = .ok (.iconst 1, 1) := by decide +kernel
theorem own_d6_52 : decode prog_5_method_2_code 52 = .ok (.isub, 1) := by decide +kernel
theorem own_d6_53 : decode prog_5_method_2_code 53 = .ok (.iand, 1) := by decide +kernel
theorem own_d6_54 : decode prog_5_method_2_code 54 = .ok (.iload_n 2, 1) := by decide +kernel
theorem own_d6_55 : decode prog_5_method_2_code 55 = .ok (.i2l, 1) := by decide +kernel
theorem own_d6_56 : decode prog_5_method_2_code 56 = .ok (.bipush 32, 2) := by decide +kernel
theorem own_d6_58 : decode prog_5_method_2_code 58 = .ok (.lshl, 1) := by decide +kernel
theorem own_d6_59 : decode prog_5_method_2_code 59 = .ok (.aload_n 0, 1) := by decide +kernel
theorem own_d6_60 : decode prog_5_method_2_code 60 = .ok (.getfield 36, 3) := by decide +kernel
theorem own_d6_63 : decode prog_5_method_2_code 63 = .ok (.i2l, 1) := by decide +kernel
theorem own_d6_64 : decode prog_5_method_2_code 64 = .ok (.ldc2_w 39, 3) := by decide +kernel
theorem own_d6_67 : decode prog_5_method_2_code 67 = .ok (.land, 1) := by decide +kernel
theorem own_d6_68 : decode prog_5_method_2_code 68 = .ok (.lor, 1) := by decide +kernel
theorem own_d6_69 : decode prog_5_method_2_code 69 = .ok (.lastore, 1) := by decide +kernel
theorem own_d6_70 : decode prog_5_method_2_code 70 = .ok (.return_, 1) := by decide +kernel
theorem own_d7_0 : decode jdk_33_method_45_code 0 = .ok (.iload_n 0, 1) := by decide +kernel
theorem own_d7_1 : decode jdk_33_method_45_code 1 = .ok (.ldc 127, 2) := by decide +kernel
theorem own_d7_3 : decode jdk_33_method_45_code 3 = .ok (.iload_n 0, 1) := by decide +kernel
theorem own_d7_4 : decode jdk_33_method_45_code 4 = .ok (.invokestatic 51, 3) := by decide +kernel
theorem own_d7_7 : decode jdk_33_method_45_code 7 = .ok (.iushr, 1) := by decide +kernel
theorem own_d7_8 : decode jdk_33_method_45_code 8 = .ok (.iand, 1) := by decide +kernel
theorem own_d7_9 : decode jdk_33_method_45_code 9 = .ok (.ireturn, 1) := by decide +kernel
theorem own_d8_0 : decode jdk_33_method_47_code 0 = .ok (.iload_n 0, 1) := by decide +kernel
theorem own_d8_1 : decode jdk_33_method_47_code 1 = .ok (.ifCond .gt 14, 3) := by decide +kernel
theorem own_d8_4 : decode jdk_33_method_47_code 4 = .ok (.iload_n 0, 1) := by decide +kernel
theorem own_d8_5 : decode jdk_33_method_47_code 5 = .ok (.ifCond .ne 8, 3) := by decide +kernel
theorem own_d8_8 : decode jdk_33_method_47_code 8 = .ok (.bipush 32, 2) := by decide +kernel
theorem own_d8_10 : decode jdk_33_method_47_code 10 = .ok (.goto 4, 3) := by decide +kernel
theorem own_d8_13 : decode jdk_33_method_47_code 13 = .ok (.iconst 0, 1) := by decide +kernel
theorem own_d8_14 : decode jdk_33_method_47_code 14 = .ok (.ireturn, 1) := by decide +kernel
theorem own_d8_15 : decode jdk_33_method_47_code 15 = .ok (.bipush 31, 2) := by decide +kernel
theorem own_d8_17 : decode jdk_33_method_47_code 17 = .ok (.istore_n 1, 1) := by decide +kernel
theorem own_d8_18 : decode jdk_33_method_47_code 18 = .ok (.iload_n 0, 1) := by decide +kernel
theorem own_d8_19 : decode jdk_33_method_47_code 19 = .ok (.ldc_w 264, 3) := by decide +kernel
theorem own_d8_22 : decode jdk_33_method_47_code 22 = .ok (.if_icmp .lt 11, 3) := by decide +kernel
theorem own_d8_25 : decode jdk_33_method_47_code 25 = .ok (.iinc 1 (-16), 3) := by decide +kernel
theorem own_d8_28 : decode jdk_33_method_47_code 28 = .ok (.iload_n 0, 1) := by decide +kernel
theorem own_d8_29 : decode jdk_33_method_47_code 29 = .ok (.bipush 16, 2) := by decide +kernel
theorem own_d8_31 : decode jdk_33_method_47_code 31 = .ok (.iushr, 1) := by decide +kernel
theorem own_d8_32 : decode jdk_33_method_47_code 32 = .ok (.istore_n 0, 1) := by decide +kernel
theorem own_d8_33 : decode jdk_33_method_47_code 33 = .ok (.iload_n 0, 1) := by decide +kernel
theorem own_d8_34 : decode jdk_33_method_47_code 34 = .ok (.sipush 256, 3) := by decide +kernel
theorem own_d8_37 : decode jdk_33_method_47_code 37 = .ok (.if_icmp .lt 11, 3) := by decide +kernel
theorem own_d8_40 : decode jdk_33_method_47_code 40 = .ok (.iinc 1 (-8), 3) := by decide +kernel
theorem own_d8_43 : decode jdk_33_method_47_code 43 = .ok (.iload_n 0, 1) := by decide +kernel
theorem own_d8_44 : decode jdk_33_method_47_code 44 = .ok (.bipush 8, 2) := by decide +kernel
theorem own_d8_46 : decode jdk_33_method_47_code 46 = .ok (.iushr, 1) := by decide +kernel
theorem own_d8_47 : decode jdk_33_method_47_code 47 = .ok (.istore_n 0, 1) := by decide +kernel
theorem own_d8_48 : decode jdk_33_method_47_code 48 = .ok (.iload_n 0, 1) := by decide +kernel
theorem own_d8_49 : decode jdk_33_method_47_code 49 = .ok (.bipush 16, 2) := by decide +kernel
theorem own_d8_51 : decode jdk_33_method_47_code 51 = .ok (.if_icmp .lt 10, 3) := by decide +kernel
theorem own_d8_54 : decode jdk_33_method_47_code 54 = .ok (.iinc 1 (-4), 3) := by decide +kernel
theorem own_d8_57 : decode jdk_33_method_47_code 57 = .ok (.iload_n 0, 1) := by decide +kernel
theorem own_d8_58 : decode jdk_33_method_47_code 58 = .ok (.iconst 4, 1) := by decide +kernel
theorem own_d8_59 : decode jdk_33_method_47_code 59 = .ok (.iushr, 1) := by decide +kernel
theorem own_d8_60 : decode jdk_33_method_47_code 60 = .ok (.istore_n 0, 1) := by decide +kernel
theorem own_d8_61 : decode jdk_33_method_47_code 61 = .ok (.iload_n 0, 1) := by decide +kernel
theorem own_d8_62 : decode jdk_33_method_47_code 62 = .ok (.iconst 4, 1) := by decide +kernel
theorem own_d8_63 : decode jdk_33_method_47_code 63 = .ok (.if_icmp .lt 10, 3) := by decide +kernel
theorem own_d8_66 : decode jdk_33_method_47_code 66 = .ok (.iinc 1 (-2), 3) := by decide +kernel
theorem own_d8_69 : decode jdk_33_method_47_code 69 = .ok (.iload_n 0, 1) := by decide +kernel
theorem own_d8_70 : decode jdk_33_method_47_code 70 = .ok (.iconst 2, 1) := by decide +kernel
theorem own_d8_71 : decode jdk_33_method_47_code 71 = .ok (.iushr, 1) := by decide +kernel
theorem own_d8_72 : decode jdk_33_method_47_code 72 = .ok (.istore_n 0, 1) := by decide +kernel
theorem own_d8_73 : decode jdk_33_method_47_code 73 = .ok (.iload_n 1, 1) := by decide +kernel
theorem own_d8_74 : decode jdk_33_method_47_code 74 = .ok (.iload_n 0, 1) := by decide +kernel
theorem own_d8_75 : decode jdk_33_method_47_code 75 = .ok (.iconst 1, 1) := by decide +kernel
theorem own_d8_76 : decode jdk_33_method_47_code 76 = .ok (.iushr, 1) := by decide +kernel
theorem own_d8_77 : decode jdk_33_method_47_code 77 = .ok (.isub, 1) := by decide +kernel
theorem own_d8_78 : decode jdk_33_method_47_code 78 = .ok (.ireturn, 1) := by decide +kernel
theorem own_ushr_bv (x y : Int32) (k : Nat) (hy : ((y &&& 31).toUInt32.toBitVec % 32).toNat = k) : (own_ushr x y).toBitVec = x.toBitVec >>> k := by
  show x.toBitVec >>> ((y &&& 31).toUInt32.toBitVec % 32) = _
  rw [← hy]; rfl
theorem own_xs16 (x : BitVec 32) : (x ^^^ (x >>> 16)) ^^^ ((x ^^^ (x >>> 16)) >>> 16) = x := by
  apply BitVec.eq_of_getLsbD_eq
  intro i hi
  simp only [BitVec.getLsbD_xor, BitVec.getLsbD_ushiftRight]
  have : x.getLsbD (16 + (16 + i)) = false := BitVec.getLsbD_of_ge _ _ (by omega)
  rw [this]
  cases x.getLsbD i <;> cases x.getLsbD (16 + i) <;> rfl
theorem own_x16 (x : Int32) : (x ^^^ own_ushr x 16) ^^^ own_ushr (x ^^^ own_ushr x 16) 16 = x := by
  apply Int32.toBitVec_inj.mp
  simp only [Int32.toBitVec_xor, own_ushr_bv _ 16 16 (by decide)]
  exact own_xs16 _
def own_spread (h : Int32) : Int32 :=
  let a := (h ^^^ own_ushr h 16) * 73244475
  let b := (a ^^^ own_ushr a 16) * 73244475
  b ^^^ own_ushr b 16
def own_unmix (e : Int32) : Int32 :=
  let d := e ^^^ own_ushr e 16
  let c := d * 295559667
  let b := c ^^^ own_ushr c 16
  let a := b * 295559667
  a ^^^ own_ushr a 16
theorem own_inv (x : Int32) : x * 73244475 * 295559667 = x := by
  rw [Int32.mul_assoc]
  have : (73244475 : Int32) * 295559667 = 1 := by decide
  rw [this, Int32.mul_one]
theorem own_law (h : Int32) : own_unmix (own_spread h) = h := by
  simp only [own_unmix, own_spread, own_x16, own_inv]
theorem own_inj {a b : Int32} : own_spread a = own_spread b ↔ a = b := ⟨fun h => by rw [← own_law a, h, own_law], fun h => by rw [h]⟩
theorem own_ushrL_bv (x : Int64) (y : Int32) (k : Nat) (hy : ((y &&& 0x3f).toInt64.toUInt64.toBitVec % 64).toNat = k) : (own_ushrL x y).toBitVec = x.toBitVec >>> k := by
  show x.toBitVec >>> ((y &&& 0x3f).toInt64.toUInt64.toBitVec % 64) = _
  rw [← hy]; rfl
def own_N (x : Int64) : Nat := x.toBitVec.toNat
theorem own_Nmod (x : Int64) : (x.toInt - (own_N x : Int)) % 18446744073709551616 = 0 := by
  have e : x.toInt = x.toBitVec.toInt := rfl
  rw [e, BitVec.toInt_eq_toNat_cond]
  unfold own_N
  split <;> omega
theorem own_Nlt (x : Int64) : own_N x < 2 ^ 64 := x.toBitVec.isLt
theorem own_l2iN (x : Int64) : x.toInt32.toBitVec.toNat = own_N x % 2 ^ 32 := by
  unfold own_N
  rw [Int64.toBitVec_toInt32]
  simp [BitVec.signExtend_eq_setWidth_of_le]
theorem own_Smod (x : Int32) : (x.toInt - (x.toBitVec.toNat : Int)) % 4294967296 = 0 := by
  have e : x.toInt = x.toBitVec.toInt := rfl
  rw [e, BitVec.toInt_eq_toNat_cond]
  split <;> omega
def own_pack (s : Int32) (j : Int64) : Int64 := (s.toInt64 <<< ((32 : Int32) &&& 0x3f).toInt64) ||| j
theorem own_packN (s : Int32) (j : Int64) (hj : 0 ≤ j.toInt ∧ j.toInt < 4294967296) : (own_N (own_pack s j) : Int) = (s.toBitVec.toNat : Int) * 4294967296 + j.toInt := by
  have h1 := c_lshl s.toInt64 32 32 (by decide)
  have h2 := c_i2l s
  rw [h2] at h1
  have h3 := own_Smod s
  have h4 := s.toBitVec.isLt
  unfold own_pack
  generalize s.toInt64 <<< ((32 : Int32) &&& 0x3f).toInt64 = a at *
  have h5 := c_orL a j 32 (by decide) 4294967296 (by decide) (by omega) hj.1 hj.2
  have h6 := own_Nmod (a ||| j)
  have h7 := own_Nlt (a ||| j)
  generalize own_N (a ||| j) = z at *
  generalize s.toBitVec.toNat = S at *
  omega
theorem own_packs (s : Int32) (j : Int64) (k : Int32) (hj : 0 < j.toInt ∧ j.toInt < 4294967296) (hk : (k.toBitVec.toNat : Int) = j.toInt) : own_pack s j ≠ 0 ∧ (own_ushrL (own_pack s j) 32).toInt32 = s ∧ (own_pack s j).toInt32 = k := by
  have h := own_packN s j ⟨by omega, hj.2⟩
  have hs := s.toBitVec.isLt
  refine ⟨fun q => ?_, ?_, ?_⟩
  · rw [q] at h
    have : own_N 0 = 0 := rfl
    omega
  · apply Int32.toBitVec_inj.mp
    apply BitVec.eq_of_toNat_eq
    rw [own_l2iN]
    have : own_N (own_ushrL (own_pack s j) 32) = own_N (own_pack s j) / 2 ^ 32 := by
      unfold own_N
      rw [own_ushrL_bv _ _ 32 (by decide), BitVec.toNat_ushiftRight, Nat.shiftRight_eq_div_pow]
    rw [this]
    omega
  · apply Int32.toBitVec_inj.mp
    apply BitVec.eq_of_toNat_eq
    rw [own_l2iN]
    omega
def own_LJ (l : List Int64) : List Value := l.map Value.long
theorem own_LJget (l : List Int64) (n : Nat) : (own_LJ l).getD n (.long (0 : Int64)) = .long (l.getD n 0) := by
  simp only [own_LJ, List.getD_eq_getElem?_getD, List.getElem?_map]
  cases l[n]? <;> rfl
theorem own_LJset (l : List Int64) (i : Nat) (x : Int64) : (own_LJ l).set i (.long x) = own_LJ (l.set i x) := by simp only [own_LJ, List.map_set]
theorem own_LJlen (l : List Int64) : (own_LJ l).length = l.length := by simp [own_LJ]
def own_ixm (m s : Int32) : Nat := (s &&& m).toNatClampNeg
def own_msk (m : Int32) (n : Nat) : Prop := (m = 1 ∧ n = 2) ∨ (m = 3 ∧ n = 4) ∨ (m = 7 ∧ n = 8)
theorem own_mskr {m : Int32} {n : Nat} (h : own_msk m n) (s : Int32) : 0 ≤ (s &&& m).toInt ∧ (s &&& m).toInt < n := by
  rcases h with ⟨rfl, rfl⟩ | ⟨rfl, rfl⟩ | ⟨rfl, rfl⟩
  · have := c_mask s 1 1 (by decide) (by decide); omega
  · have := c_mask s 3 2 (by decide) (by decide); omega
  · have := c_mask s 7 3 (by decide) (by decide); omega
theorem own_ixlt {m : Int32} {n : Nat} (h : own_msk m n) (s : Int32) : own_ixm m s < n := by
  have := own_mskr h s
  show (s &&& m).toInt.toNat < n
  omega
theorem own_ixeq {m : Int32} {n : Nat} (h : own_msk m n) {s t : Int32} : own_ixm m s = own_ixm m t ↔ s &&& m = t &&& m := by
  have h1 := own_mskr h s
  have h2 := own_mskr h t
  constructor
  · intro q
    apply Int32.toInt_inj.mp
    have q' : (s &&& m).toInt.toNat = (t &&& m).toInt.toNat := q
    omega
  · intro q; unfold own_ixm; rw [q]
theorem own_inm {m : Int32} {n : Nat} {z : Int32} (h : own_msk m n) (hz : z.toInt = n) (s : Int32) : ¬ (s &&& m) < 0 ∧ (s &&& m) < z := by
  have h1 := own_mskr h s
  have e0 : (0 : Int32).toInt = 0 := rfl
  rw [Int32.lt_iff_toInt_lt, Int32.lt_iff_toInt_lt, e0, hz]; omega
theorem own_gset (l : List Int64) (i k : Nat) (x : Int64) (h : i < l.length) : (l.set i x).getD k 0 = if k = i then x else l.getD k 0 := by
  simp only [List.getD_eq_getElem?_getD]
  by_cases q : k = i
  · subst q; simp [h]
  · rw [List.getElem?_set_ne (Ne.symm q)]; simp [q]
def own_slot (l : List Int64) (m s : Int32) : Int64 := l.getD (own_ixm m s) 0
def own_rv (l : List Int64) (m s n d : Int32) : Int32 := if own_slot l m s = 0 then 0 else if (own_ushrL (own_slot l m s) 32).toInt32 = s then (if n - (own_slot l m s).toInt32 < d then 1 else 0) else 0
def own_rl (l : List Int64) (m s : Int32) : List Int64 := if own_slot l m s = 0 then l else if (own_ushrL (own_slot l m s) 32).toInt32 = s then l.set (own_ixm m s) 0 else l
theorem own_rllen (l : List Int64) (m s : Int32) : (own_rl l m s).length = l.length := by
  unfold own_rl
  split
  · rfl
  · split
    · rw [List.length_set]
    · rfl
theorem own_miss {l : List Int64} {m s n d : Int32} (h : own_slot l m s = 0) : own_rv l m s n d = 0 := by
  unfold own_rv; rw [if_pos h]
theorem own_second {l : List Int64} {m s n d : Int32} {k : Nat} (hm : own_msk m k) (hl : l.length = k) : own_rv (own_rl l m s) m s n d = 0 := by
  unfold own_rl
  by_cases h0 : own_slot l m s = 0
  · rw [if_pos h0]; exact own_miss h0
  · rw [if_neg h0]
    by_cases h1 : (own_ushrL (own_slot l m s) 32).toInt32 = s
    · rw [if_pos h1]
      apply own_miss
      unfold own_slot
      rw [own_gset _ _ _ _ (by rw [hl]; exact own_ixlt hm s), if_pos rfl]
    · rw [if_neg h1]; unfold own_rv; rw [if_neg h0, if_neg h1]
theorem own_hitv {l : List Int64} {m n d q k : Int32} {j : Int64} {i : Int32} (h : own_slot l m (own_spread q) = own_pack (own_spread k) j) (hj : 0 < j.toInt ∧ j.toInt < 4294967296) (hk : (i.toBitVec.toNat : Int) = j.toInt) : own_rv l m (own_spread q) n d = if k = q then (if n - i < d then 1 else 0) else 0 := by
  obtain ⟨p1, p2, p3⟩ := own_packs (own_spread k) j i hj hk
  unfold own_rv
  rw [h, p2, p3, if_neg p1]
  by_cases e : k = q
  · rw [if_pos e, if_pos (by rw [e])]
  · rw [if_neg e, if_neg (fun y => e (own_inj.mp y))]
theorem own_slE {l : List Int64} {m s t : Int32} {x : Int64} {k : Nat} (hm : own_msk m k) (hl : l.length = k) (h : t &&& m = s &&& m) : own_slot (l.set (own_ixm m t) x) m s = x := by
  unfold own_slot
  rw [own_gset _ _ _ _ (by rw [hl]; exact own_ixlt hm t), if_pos ((own_ixeq hm).mpr h.symm)]
theorem own_slN {l : List Int64} {m s t : Int32} {x : Int64} {k : Nat} (hm : own_msk m k) (hl : l.length = k) (h : ¬ t &&& m = s &&& m) : own_slot (l.set (own_ixm m t) x) m s = own_slot l m s := by
  unfold own_slot
  rw [own_gset _ _ _ _ (by rw [hl]; exact own_ixlt hm t), if_neg (fun q => h ((own_ixeq hm).mp q).symm)]
theorem own_sl0 (k : Nat) (m s : Int32) : own_slot (List.replicate k 0) m s = 0 := by
  unfold own_slot
  rw [List.getD_eq_getElem?_getD, List.getElem?_replicate]; split <;> rfl
theorem own_d {p d : Int32} (h : 1 + (p &&& 3) = d) : d = 1 ∨ d = 2 ∨ d = 3 ∨ d = 4 := by
  have h1 := c_mask p 3 2 (by decide) (by decide)
  have h2 := c_iadd 1 (p &&& 3)
  have e1 : (1 : Int32).toInt = 1 := rfl
  rw [h] at h2
  have := rng32 d
  have : d.toInt = 1 ∨ d.toInt = 2 ∨ d.toInt = 3 ∨ d.toInt = 4 := by omega
  rcases this with q | q | q | q
  · exact Or.inl (Int32.toInt_inj.mp q)
  · exact Or.inr (Or.inl (Int32.toInt_inj.mp q))
  · exact Or.inr (Or.inr (Or.inl (Int32.toInt_inj.mp q)))
  · exact Or.inr (Or.inr (Or.inr (Int32.toInt_inj.mp q)))
theorem own_and3 {p n : Int32} (h : p &&& 3 = n) : n = 0 ∨ n = 1 ∨ n = 2 ∨ n = 3 := by
  have h1 := c_mask p 3 2 (by decide) (by decide)
  rw [h] at h1
  have : n.toInt = 0 ∨ n.toInt = 1 ∨ n.toInt = 2 ∨ n.toInt = 3 := by omega
  rcases this with q | q | q | q
  · exact Or.inl (Int32.toInt_inj.mp q)
  · exact Or.inr (Or.inl (Int32.toInt_inj.mp q))
  · exact Or.inr (Or.inr (Or.inl (Int32.toInt_inj.mp q)))
  · exact Or.inr (Or.inr (Or.inr (Int32.toInt_inj.mp q)))
def own_room5 : Room := { frames := 0, cells := 0, slots := 0, locals := 0 }
def own_Q5 (Z : State) (p0 : Int32) (h0 : Heap) (n0 : Nat) (v : Option Value) (h : Heap) (L : List Loc) : Prop := v = some (.int (own_spread p0)) ∧ Fr n0 L ∧ h = h0
theorem own_ef_rm5 (m : MethodId) (x0 : Int32) : entryFrame m #[(.int x0)] 2 = mkF m 0 #[.val (.int x0), .unset] [] := by first | (simp [entryFrame, mkF, argsToLocals, Value.category]; done) | rfl
set_option maxRecDepth 65536 in
set_option maxHeartbeats 40000000 in
theorem own_rm5 (lch : Launch) (Z : State) (a0 : Array Value) (hw : ∀ d ∈ tables_1, d.before a0 Z = true) (ws : List Jvm.Cond) (p0 : Int32) (h0 : Heap) (n0 : Nat) :
    MetFree lch (⟨"com/example/larder/larder/cache/UseCounts", "spread", "(I)I"⟩ : MethodName) (head1 (Jvm.Cond.code (⟨"com/example/larder/larder/cache/UseCounts", "spread", "(I)I"⟩ : MethodName) prog_12_method_6_code 2 (some .int) :: ws) own_room5) (fun zz U => zz = #[(.int p0)] ∧ Z.Warmed39 U.vm ∧ U.heap = h0) (fun _ _ _ _ _ => True) (fun _ U o U' => ∃ v L, o = .returned v ∧ own_Q5 Z p0 h0 n0 v U'.heap L ∧ FrameEnd U o U' L own_room5.cells own_room5.slots) := by
  refine MetFree.of_bodySF (plainFor_of_name own_pn0) hisR ?_
  intro prg e s m args below meth c s₁ Bd hml0 hP hK
  obtain ⟨rfl, hZ, hh⟩ := hP
  have hx := Bd.exec
  have hby := Bd.bytes
  have hml : c.maxLocals = 2 := hml0
  have hown : s.vm.findClass "com/example/larder/larder/cache/UseCounts" = some m.cls := findClass_of_methodNamed Bd.named
  have hnm := (name_of_methodNamed Bd.named Bd.method).1
  have hlk : meth.locks = false := BodyLoose.notSynchronized Bd
  have hret := Bd.returns
  have X0 : Stand prg lch e own_room5 s m #[(.int p0)] below meth c s₁ [] 0 0 := Stand.of_body Bd
  have e0 : s₁.heap = h0 := by rw [← hh, Bd.state]; rfl
  have N0 := Fr.nil n0
  show own_Ends prg e below s (own_Q5 Z p0 h0 n0) own_room5.cells own_room5.slots s₁ (entryFrame m #[(.int p0)] 2)
  refine own_cast (own_ef_rm5 m p0) ?_
  refine own_iloadN (pc' := 1) X0 hx (hb hby own_d5_0) rfl rfl ?_
  refine own_iloadN (pc' := 2) X0 hx (hb hby own_d5_1) rfl rfl ?_
  refine own_bipush (pc' := 4) (z := (16 : Int32)) X0 hx (hb hby own_d5_2) rfl rfl ?_
  refine own_iushr (pc' := 5) (z := (own_ushr p0 (16 : Int32))) X0 hx (hb hby own_d5_4) rfl rfl ?_
  refine own_ixor (pc' := 6) (z := (p0 ^^^ (own_ushr p0 (16 : Int32)))) X0 hx (hb hby own_d5_5) rfl rfl ?_
  refine own_ldcI (pc' := 8) X0 hx hZ hown (own_w27 hw) (hb hby own_d5_6) rfl ?_
  refine own_imul (pc' := 9) (z := ((p0 ^^^ (own_ushr p0 (16 : Int32))) * (73244475 : Int32))) X0 hx (hb hby own_d5_8) rfl rfl ?_
  refine own_istoreN (pc' := 10) (l' := #[.val (.int p0), .val (.int ((p0 ^^^ (own_ushr p0 (16 : Int32))) * (73244475 : Int32)))]) X0 hx (hb hby own_d5_9) rfl rfl ?_
  refine own_iloadN (pc' := 11) X0 hx (hb hby own_d5_10) rfl rfl ?_
  refine own_iloadN (pc' := 12) X0 hx (hb hby own_d5_11) rfl rfl ?_
  refine own_bipush (pc' := 14) (z := (16 : Int32)) X0 hx (hb hby own_d5_12) rfl rfl ?_
  refine own_iushr (pc' := 15) (z := (own_ushr ((p0 ^^^ (own_ushr p0 (16 : Int32))) * (73244475 : Int32)) (16 : Int32))) X0 hx (hb hby own_d5_14) rfl rfl ?_
  refine own_ixor (pc' := 16) (z := (((p0 ^^^ (own_ushr p0 (16 : Int32))) * (73244475 : Int32)) ^^^ (own_ushr ((p0 ^^^ (own_ushr p0 (16 : Int32))) * (73244475 : Int32)) (16 : Int32)))) X0 hx (hb hby own_d5_15) rfl rfl ?_
  refine own_ldcI (pc' := 18) X0 hx hZ hown (own_w27 hw) (hb hby own_d5_16) rfl ?_
  refine own_imul (pc' := 19) (z := ((((p0 ^^^ (own_ushr p0 (16 : Int32))) * (73244475 : Int32)) ^^^ (own_ushr ((p0 ^^^ (own_ushr p0 (16 : Int32))) * (73244475 : Int32)) (16 : Int32))) * (73244475 : Int32))) X0 hx (hb hby own_d5_18) rfl rfl ?_
  refine own_istoreN (pc' := 20) (l' := #[.val (.int p0), .val (.int ((((p0 ^^^ (own_ushr p0 (16 : Int32))) * (73244475 : Int32)) ^^^ (own_ushr ((p0 ^^^ (own_ushr p0 (16 : Int32))) * (73244475 : Int32)) (16 : Int32))) * (73244475 : Int32)))]) X0 hx (hb hby own_d5_19) rfl rfl ?_
  refine own_iloadN (pc' := 21) X0 hx (hb hby own_d5_20) rfl rfl ?_
  refine own_iloadN (pc' := 22) X0 hx (hb hby own_d5_21) rfl rfl ?_
  refine own_bipush (pc' := 24) (z := (16 : Int32)) X0 hx (hb hby own_d5_22) rfl rfl ?_
  refine own_iushr (pc' := 25) (z := (own_ushr ((((p0 ^^^ (own_ushr p0 (16 : Int32))) * (73244475 : Int32)) ^^^ (own_ushr ((p0 ^^^ (own_ushr p0 (16 : Int32))) * (73244475 : Int32)) (16 : Int32))) * (73244475 : Int32)) (16 : Int32))) X0 hx (hb hby own_d5_24) rfl rfl ?_
  refine own_ixor (pc' := 26) (z := (((((p0 ^^^ (own_ushr p0 (16 : Int32))) * (73244475 : Int32)) ^^^ (own_ushr ((p0 ^^^ (own_ushr p0 (16 : Int32))) * (73244475 : Int32)) (16 : Int32))) * (73244475 : Int32)) ^^^ (own_ushr ((((p0 ^^^ (own_ushr p0 (16 : Int32))) * (73244475 : Int32)) ^^^ (own_ushr ((p0 ^^^ (own_ushr p0 (16 : Int32))) * (73244475 : Int32)) (16 : Int32))) * (73244475 : Int32)) (16 : Int32)))) X0 hx (hb hby own_d5_25) rfl rfl ?_
  refine own_retI X0 hx hlk hret (hb hby own_d5_26) (by decide) (by decide) ?_
  exact ⟨rfl, N0, e0⟩
def own_room3_1 : Room := { frames := 0, cells := 0, slots := 0, locals := 0 }
def own_Q3_1 (Z : State)  (h0 : Heap) (n0 : Nat) (v : Option Value) (h : Heap) (L : List Loc) : Prop := v = some (.long 1) ∧ Fr n0 L ∧ h = h0
theorem own_ef_rm3_1 (m : MethodId) (x0 : Int64) (x1 : Int64) : entryFrame m #[(.long x0), (.long x1)] 4 = mkF m 0 #[.val (.long x0), .second, .val (.long x1), .second] [] := by first | (simp [entryFrame, mkF, argsToLocals, Value.category]; done) | rfl
set_option maxRecDepth 65536 in
set_option maxHeartbeats 40000000 in
theorem own_rm3_1 (lch : Launch) (Z : State) (a0 : Array Value) (hw : ∀ d ∈ tables_1, d.before a0 Z = true) (ws : List Jvm.Cond)  (h0 : Heap) (n0 : Nat) :
    MetFree lch (⟨"java/lang/Math", "min", "(JJ)J"⟩ : MethodName) (head1 (Jvm.Cond.code (⟨"java/lang/Math", "min", "(JJ)J"⟩ : MethodName) jdk_29_method_70_code 4 (some .long) :: ws) own_room3_1) (fun zz U => zz = #[(.long (134217728 : Int64)), (.long (1 : Int64))] ∧ Z.Warmed39 U.vm ∧ U.heap = h0) (fun _ _ _ _ _ => True) (fun _ U o U' => ∃ v L, o = .returned v ∧ own_Q3_1 Z  h0 n0 v U'.heap L ∧ FrameEnd U o U' L own_room3_1.cells own_room3_1.slots) := by
  refine MetFree.of_bodySF (Jvm.Free.JP.mathPlain rfl (by decide +kernel)) hisR ?_
  intro prg e s m args below meth c s₁ Bd hml0 hP hK
  obtain ⟨rfl, hZ, hh⟩ := hP
  have hx := Bd.exec
  have hby := Bd.bytes
  have hml : c.maxLocals = 4 := hml0
  have hown : s.vm.findClass "java/lang/Math" = some m.cls := findClass_of_methodNamed Bd.named
  have hnm := (name_of_methodNamed Bd.named Bd.method).1
  have hlk : meth.locks = false := BodyLoose.notSynchronized Bd
  have hret := Bd.returns
  have X0 : Stand prg lch e own_room3_1 s m #[(.long (134217728 : Int64)), (.long (1 : Int64))] below meth c s₁ [] 0 0 := Stand.of_body Bd
  have e0 : s₁.heap = h0 := by rw [← hh, Bd.state]; rfl
  have N0 := Fr.nil n0
  show own_Ends prg e below s (own_Q3_1 Z  h0 n0) own_room3_1.cells own_room3_1.slots s₁ (entryFrame m #[(.long (134217728 : Int64)), (.long (1 : Int64))] 4)
  refine own_cast (own_ef_rm3_1 m (134217728 : Int64) (1 : Int64)) ?_
  refine own_lloadN (pc' := 1) X0 hx (hb hby own_d3_0) rfl rfl ?_
  refine own_lloadN (pc' := 2) X0 hx (hb hby own_d3_1) rfl rfl ?_
  refine own_lcmp (pc' := 3) (z := (1 : Int32)) X0 hx (hb hby own_d3_2) rfl (by decide) ?_
  refine own_ifYes (pc' := 10) X0 hx (hb hby own_d3_3) (tlt (by decide)).2.2.1 (by decide) (by decide) ?_
  refine own_lloadN (pc' := 11) X0 hx (hb hby own_d3_10) rfl rfl ?_
  refine own_retL X0 hx hlk hret (hb hby own_d3_11) (by decide) (by decide) ?_
  exact ⟨rfl, N0, e0⟩
def own_room3_2 : Room := { frames := 0, cells := 0, slots := 0, locals := 0 }
def own_Q3_2 (Z : State)  (h0 : Heap) (n0 : Nat) (v : Option Value) (h : Heap) (L : List Loc) : Prop := v = some (.long 2) ∧ Fr n0 L ∧ h = h0
theorem own_ef_rm3_2 (m : MethodId) (x0 : Int64) (x1 : Int64) : entryFrame m #[(.long x0), (.long x1)] 4 = mkF m 0 #[.val (.long x0), .second, .val (.long x1), .second] [] := by first | (simp [entryFrame, mkF, argsToLocals, Value.category]; done) | rfl
set_option maxRecDepth 65536 in
set_option maxHeartbeats 40000000 in
theorem own_rm3_2 (lch : Launch) (Z : State) (a0 : Array Value) (hw : ∀ d ∈ tables_1, d.before a0 Z = true) (ws : List Jvm.Cond)  (h0 : Heap) (n0 : Nat) :
    MetFree lch (⟨"java/lang/Math", "min", "(JJ)J"⟩ : MethodName) (head1 (Jvm.Cond.code (⟨"java/lang/Math", "min", "(JJ)J"⟩ : MethodName) jdk_29_method_70_code 4 (some .long) :: ws) own_room3_2) (fun zz U => zz = #[(.long (134217728 : Int64)), (.long (2 : Int64))] ∧ Z.Warmed39 U.vm ∧ U.heap = h0) (fun _ _ _ _ _ => True) (fun _ U o U' => ∃ v L, o = .returned v ∧ own_Q3_2 Z  h0 n0 v U'.heap L ∧ FrameEnd U o U' L own_room3_2.cells own_room3_2.slots) := by
  refine MetFree.of_bodySF (Jvm.Free.JP.mathPlain rfl (by decide +kernel)) hisR ?_
  intro prg e s m args below meth c s₁ Bd hml0 hP hK
  obtain ⟨rfl, hZ, hh⟩ := hP
  have hx := Bd.exec
  have hby := Bd.bytes
  have hml : c.maxLocals = 4 := hml0
  have hown : s.vm.findClass "java/lang/Math" = some m.cls := findClass_of_methodNamed Bd.named
  have hnm := (name_of_methodNamed Bd.named Bd.method).1
  have hlk : meth.locks = false := BodyLoose.notSynchronized Bd
  have hret := Bd.returns
  have X0 : Stand prg lch e own_room3_2 s m #[(.long (134217728 : Int64)), (.long (2 : Int64))] below meth c s₁ [] 0 0 := Stand.of_body Bd
  have e0 : s₁.heap = h0 := by rw [← hh, Bd.state]; rfl
  have N0 := Fr.nil n0
  show own_Ends prg e below s (own_Q3_2 Z  h0 n0) own_room3_2.cells own_room3_2.slots s₁ (entryFrame m #[(.long (134217728 : Int64)), (.long (2 : Int64))] 4)
  refine own_cast (own_ef_rm3_2 m (134217728 : Int64) (2 : Int64)) ?_
  refine own_lloadN (pc' := 1) X0 hx (hb hby own_d3_0) rfl rfl ?_
  refine own_lloadN (pc' := 2) X0 hx (hb hby own_d3_1) rfl rfl ?_
  refine own_lcmp (pc' := 3) (z := (1 : Int32)) X0 hx (hb hby own_d3_2) rfl (by decide) ?_
  refine own_ifYes (pc' := 10) X0 hx (hb hby own_d3_3) (tlt (by decide)).2.2.1 (by decide) (by decide) ?_
  refine own_lloadN (pc' := 11) X0 hx (hb hby own_d3_10) rfl rfl ?_
  refine own_retL X0 hx hlk hret (hb hby own_d3_11) (by decide) (by decide) ?_
  exact ⟨rfl, N0, e0⟩
def own_room3_3 : Room := { frames := 0, cells := 0, slots := 0, locals := 0 }
def own_Q3_3 (Z : State)  (h0 : Heap) (n0 : Nat) (v : Option Value) (h : Heap) (L : List Loc) : Prop := v = some (.long 3) ∧ Fr n0 L ∧ h = h0
theorem own_ef_rm3_3 (m : MethodId) (x0 : Int64) (x1 : Int64) : entryFrame m #[(.long x0), (.long x1)] 4 = mkF m 0 #[.val (.long x0), .second, .val (.long x1), .second] [] := by first | (simp [entryFrame, mkF, argsToLocals, Value.category]; done) | rfl
set_option maxRecDepth 65536 in
set_option maxHeartbeats 40000000 in
theorem own_rm3_3 (lch : Launch) (Z : State) (a0 : Array Value) (hw : ∀ d ∈ tables_1, d.before a0 Z = true) (ws : List Jvm.Cond)  (h0 : Heap) (n0 : Nat) :
    MetFree lch (⟨"java/lang/Math", "min", "(JJ)J"⟩ : MethodName) (head1 (Jvm.Cond.code (⟨"java/lang/Math", "min", "(JJ)J"⟩ : MethodName) jdk_29_method_70_code 4 (some .long) :: ws) own_room3_3) (fun zz U => zz = #[(.long (134217728 : Int64)), (.long (3 : Int64))] ∧ Z.Warmed39 U.vm ∧ U.heap = h0) (fun _ _ _ _ _ => True) (fun _ U o U' => ∃ v L, o = .returned v ∧ own_Q3_3 Z  h0 n0 v U'.heap L ∧ FrameEnd U o U' L own_room3_3.cells own_room3_3.slots) := by
  refine MetFree.of_bodySF (Jvm.Free.JP.mathPlain rfl (by decide +kernel)) hisR ?_
  intro prg e s m args below meth c s₁ Bd hml0 hP hK
  obtain ⟨rfl, hZ, hh⟩ := hP
  have hx := Bd.exec
  have hby := Bd.bytes
  have hml : c.maxLocals = 4 := hml0
  have hown : s.vm.findClass "java/lang/Math" = some m.cls := findClass_of_methodNamed Bd.named
  have hnm := (name_of_methodNamed Bd.named Bd.method).1
  have hlk : meth.locks = false := BodyLoose.notSynchronized Bd
  have hret := Bd.returns
  have X0 : Stand prg lch e own_room3_3 s m #[(.long (134217728 : Int64)), (.long (3 : Int64))] below meth c s₁ [] 0 0 := Stand.of_body Bd
  have e0 : s₁.heap = h0 := by rw [← hh, Bd.state]; rfl
  have N0 := Fr.nil n0
  show own_Ends prg e below s (own_Q3_3 Z  h0 n0) own_room3_3.cells own_room3_3.slots s₁ (entryFrame m #[(.long (134217728 : Int64)), (.long (3 : Int64))] 4)
  refine own_cast (own_ef_rm3_3 m (134217728 : Int64) (3 : Int64)) ?_
  refine own_lloadN (pc' := 1) X0 hx (hb hby own_d3_0) rfl rfl ?_
  refine own_lloadN (pc' := 2) X0 hx (hb hby own_d3_1) rfl rfl ?_
  refine own_lcmp (pc' := 3) (z := (1 : Int32)) X0 hx (hb hby own_d3_2) rfl (by decide) ?_
  refine own_ifYes (pc' := 10) X0 hx (hb hby own_d3_3) (tlt (by decide)).2.2.1 (by decide) (by decide) ?_
  refine own_lloadN (pc' := 11) X0 hx (hb hby own_d3_10) rfl rfl ?_
  refine own_retL X0 hx hlk hret (hb hby own_d3_11) (by decide) (by decide) ?_
  exact ⟨rfl, N0, e0⟩
def own_room3_4 : Room := { frames := 0, cells := 0, slots := 0, locals := 0 }
def own_Q3_4 (Z : State)  (h0 : Heap) (n0 : Nat) (v : Option Value) (h : Heap) (L : List Loc) : Prop := v = some (.long 4) ∧ Fr n0 L ∧ h = h0
theorem own_ef_rm3_4 (m : MethodId) (x0 : Int64) (x1 : Int64) : entryFrame m #[(.long x0), (.long x1)] 4 = mkF m 0 #[.val (.long x0), .second, .val (.long x1), .second] [] := by first | (simp [entryFrame, mkF, argsToLocals, Value.category]; done) | rfl
set_option maxRecDepth 65536 in
set_option maxHeartbeats 40000000 in
theorem own_rm3_4 (lch : Launch) (Z : State) (a0 : Array Value) (hw : ∀ d ∈ tables_1, d.before a0 Z = true) (ws : List Jvm.Cond)  (h0 : Heap) (n0 : Nat) :
    MetFree lch (⟨"java/lang/Math", "min", "(JJ)J"⟩ : MethodName) (head1 (Jvm.Cond.code (⟨"java/lang/Math", "min", "(JJ)J"⟩ : MethodName) jdk_29_method_70_code 4 (some .long) :: ws) own_room3_4) (fun zz U => zz = #[(.long (134217728 : Int64)), (.long (4 : Int64))] ∧ Z.Warmed39 U.vm ∧ U.heap = h0) (fun _ _ _ _ _ => True) (fun _ U o U' => ∃ v L, o = .returned v ∧ own_Q3_4 Z  h0 n0 v U'.heap L ∧ FrameEnd U o U' L own_room3_4.cells own_room3_4.slots) := by
  refine MetFree.of_bodySF (Jvm.Free.JP.mathPlain rfl (by decide +kernel)) hisR ?_
  intro prg e s m args below meth c s₁ Bd hml0 hP hK
  obtain ⟨rfl, hZ, hh⟩ := hP
  have hx := Bd.exec
  have hby := Bd.bytes
  have hml : c.maxLocals = 4 := hml0
  have hown : s.vm.findClass "java/lang/Math" = some m.cls := findClass_of_methodNamed Bd.named
  have hnm := (name_of_methodNamed Bd.named Bd.method).1
  have hlk : meth.locks = false := BodyLoose.notSynchronized Bd
  have hret := Bd.returns
  have X0 : Stand prg lch e own_room3_4 s m #[(.long (134217728 : Int64)), (.long (4 : Int64))] below meth c s₁ [] 0 0 := Stand.of_body Bd
  have e0 : s₁.heap = h0 := by rw [← hh, Bd.state]; rfl
  have N0 := Fr.nil n0
  show own_Ends prg e below s (own_Q3_4 Z  h0 n0) own_room3_4.cells own_room3_4.slots s₁ (entryFrame m #[(.long (134217728 : Int64)), (.long (4 : Int64))] 4)
  refine own_cast (own_ef_rm3_4 m (134217728 : Int64) (4 : Int64)) ?_
  refine own_lloadN (pc' := 1) X0 hx (hb hby own_d3_0) rfl rfl ?_
  refine own_lloadN (pc' := 2) X0 hx (hb hby own_d3_1) rfl rfl ?_
  refine own_lcmp (pc' := 3) (z := (1 : Int32)) X0 hx (hb hby own_d3_2) rfl (by decide) ?_
  refine own_ifYes (pc' := 10) X0 hx (hb hby own_d3_3) (tlt (by decide)).2.2.1 (by decide) (by decide) ?_
  refine own_lloadN (pc' := 11) X0 hx (hb hby own_d3_10) rfl rfl ?_
  refine own_retL X0 hx hlk hret (hb hby own_d3_11) (by decide) (by decide) ?_
  exact ⟨rfl, N0, e0⟩
def own_room8_1 : Room := { frames := 0, cells := 0, slots := 0, locals := 0 }
def own_Q8_1 (Z : State)  (h0 : Heap) (n0 : Nat) (v : Option Value) (h : Heap) (L : List Loc) : Prop := v = some (.int 31) ∧ Fr n0 L ∧ h = h0
theorem own_ef_rm8_1 (m : MethodId) (x0 : Int32) : entryFrame m #[(.int x0)] 2 = mkF m 0 #[.val (.int x0), .unset] [] := by first | (simp [entryFrame, mkF, argsToLocals, Value.category]; done) | rfl
set_option maxRecDepth 65536 in
set_option maxHeartbeats 40000000 in
theorem own_rm8_1 (lch : Launch) (Z : State) (a0 : Array Value) (hw : ∀ d ∈ tables_1, d.before a0 Z = true) (ws : List Jvm.Cond)  (h0 : Heap) (n0 : Nat) :
    MetFree lch (⟨"java/lang/Integer", "numberOfLeadingZeros", "(I)I"⟩ : MethodName) (head1 (Jvm.Cond.code (⟨"java/lang/Integer", "numberOfLeadingZeros", "(I)I"⟩ : MethodName) jdk_33_method_47_code 2 (some .int) :: ws) own_room8_1) (fun zz U => zz = #[(.int (1 : Int32))] ∧ Z.Warmed39 U.vm ∧ U.heap = h0) (fun _ _ _ _ _ => True) (fun _ U o U' => ∃ v L, o = .returned v ∧ own_Q8_1 Z  h0 n0 v U'.heap L ∧ FrameEnd U o U' L own_room8_1.cells own_room8_1.slots) := by
  refine MetFree.of_bodySF (plainFor_of_name own_pn1) hisR ?_
  intro prg e s m args below meth c s₁ Bd hml0 hP hK
  obtain ⟨rfl, hZ, hh⟩ := hP
  have hx := Bd.exec
  have hby := Bd.bytes
  have hml : c.maxLocals = 2 := hml0
  have hown : s.vm.findClass "java/lang/Integer" = some m.cls := findClass_of_methodNamed Bd.named
  have hnm := (name_of_methodNamed Bd.named Bd.method).1
  have hlk : meth.locks = false := BodyLoose.notSynchronized Bd
  have hret := Bd.returns
  have X0 : Stand prg lch e own_room8_1 s m #[(.int (1 : Int32))] below meth c s₁ [] 0 0 := Stand.of_body Bd
  have e0 : s₁.heap = h0 := by rw [← hh, Bd.state]; rfl
  have N0 := Fr.nil n0
  show own_Ends prg e below s (own_Q8_1 Z  h0 n0) own_room8_1.cells own_room8_1.slots s₁ (entryFrame m #[(.int (1 : Int32))] 2)
  refine own_cast (own_ef_rm8_1 m (1 : Int32)) ?_
  refine own_iloadN (pc' := 1) X0 hx (hb hby own_d8_0) rfl rfl ?_
  refine own_ifYes (pc' := 15) X0 hx (hb hby own_d8_1) (tlt (by decide)).2.2.1 (by decide) (by decide) ?_
  refine own_bipush (pc' := 17) (z := (31 : Int32)) X0 hx (hb hby own_d8_15) rfl rfl ?_
  refine own_istoreN (pc' := 18) (l' := #[.val (.int (1 : Int32)), .val (.int (31 : Int32))]) X0 hx (hb hby own_d8_17) rfl rfl ?_
  refine own_iloadN (pc' := 19) X0 hx (hb hby own_d8_18) rfl rfl ?_
  refine own_ldcwI (pc' := 22) X0 hx hZ hown (own_w41 hw) (hb hby own_d8_19) rfl ?_
  refine own_icmpYes (pc' := 33) X0 hx (hb hby own_d8_22) (tlt (by decide)).1 (by decide) (by decide) ?_
  refine own_iloadN (pc' := 34) X0 hx (hb hby own_d8_33) rfl rfl ?_
  refine own_sipush (pc' := 37) (z := (256 : Int32)) X0 hx (hb hby own_d8_34) rfl rfl ?_
  refine own_icmpYes (pc' := 48) X0 hx (hb hby own_d8_37) (tlt (by decide)).1 (by decide) (by decide) ?_
  refine own_iloadN (pc' := 49) X0 hx (hb hby own_d8_48) rfl rfl ?_
  refine own_bipush (pc' := 51) (z := (16 : Int32)) X0 hx (hb hby own_d8_49) rfl rfl ?_
  refine own_icmpYes (pc' := 61) X0 hx (hb hby own_d8_51) (tlt (by decide)).1 (by decide) (by decide) ?_
  refine own_iloadN (pc' := 62) X0 hx (hb hby own_d8_61) rfl rfl ?_
  refine own_iconst (pc' := 63) (z := (4 : Int32)) X0 hx (hb hby own_d8_62) rfl rfl ?_
  refine own_icmpYes (pc' := 73) X0 hx (hb hby own_d8_63) (tlt (by decide)).1 (by decide) (by decide) ?_
  refine own_iloadN (pc' := 74) X0 hx (hb hby own_d8_73) rfl rfl ?_
  refine own_iloadN (pc' := 75) X0 hx (hb hby own_d8_74) rfl rfl ?_
  refine own_iconst (pc' := 76) (z := (1 : Int32)) X0 hx (hb hby own_d8_75) rfl rfl ?_
  refine own_iushr (pc' := 77) (z := (0 : Int32)) X0 hx (hb hby own_d8_76) rfl (by decide) ?_
  refine own_isub (pc' := 78) (z := (31 : Int32)) X0 hx (hb hby own_d8_77) rfl (by decide) ?_
  refine own_retI X0 hx hlk hret (hb hby own_d8_78) (by decide) (by decide) ?_
  exact ⟨rfl, N0, e0⟩
def own_room8_3 : Room := { frames := 0, cells := 0, slots := 0, locals := 0 }
def own_Q8_3 (Z : State)  (h0 : Heap) (n0 : Nat) (v : Option Value) (h : Heap) (L : List Loc) : Prop := v = some (.int 30) ∧ Fr n0 L ∧ h = h0
theorem own_ef_rm8_3 (m : MethodId) (x0 : Int32) : entryFrame m #[(.int x0)] 2 = mkF m 0 #[.val (.int x0), .unset] [] := by first | (simp [entryFrame, mkF, argsToLocals, Value.category]; done) | rfl
set_option maxRecDepth 65536 in
set_option maxHeartbeats 40000000 in
theorem own_rm8_3 (lch : Launch) (Z : State) (a0 : Array Value) (hw : ∀ d ∈ tables_1, d.before a0 Z = true) (ws : List Jvm.Cond)  (h0 : Heap) (n0 : Nat) :
    MetFree lch (⟨"java/lang/Integer", "numberOfLeadingZeros", "(I)I"⟩ : MethodName) (head1 (Jvm.Cond.code (⟨"java/lang/Integer", "numberOfLeadingZeros", "(I)I"⟩ : MethodName) jdk_33_method_47_code 2 (some .int) :: ws) own_room8_3) (fun zz U => zz = #[(.int (3 : Int32))] ∧ Z.Warmed39 U.vm ∧ U.heap = h0) (fun _ _ _ _ _ => True) (fun _ U o U' => ∃ v L, o = .returned v ∧ own_Q8_3 Z  h0 n0 v U'.heap L ∧ FrameEnd U o U' L own_room8_3.cells own_room8_3.slots) := by
  refine MetFree.of_bodySF (plainFor_of_name own_pn1) hisR ?_
  intro prg e s m args below meth c s₁ Bd hml0 hP hK
  obtain ⟨rfl, hZ, hh⟩ := hP
  have hx := Bd.exec
  have hby := Bd.bytes
  have hml : c.maxLocals = 2 := hml0
  have hown : s.vm.findClass "java/lang/Integer" = some m.cls := findClass_of_methodNamed Bd.named
  have hnm := (name_of_methodNamed Bd.named Bd.method).1
  have hlk : meth.locks = false := BodyLoose.notSynchronized Bd
  have hret := Bd.returns
  have X0 : Stand prg lch e own_room8_3 s m #[(.int (3 : Int32))] below meth c s₁ [] 0 0 := Stand.of_body Bd
  have e0 : s₁.heap = h0 := by rw [← hh, Bd.state]; rfl
  have N0 := Fr.nil n0
  show own_Ends prg e below s (own_Q8_3 Z  h0 n0) own_room8_3.cells own_room8_3.slots s₁ (entryFrame m #[(.int (3 : Int32))] 2)
  refine own_cast (own_ef_rm8_3 m (3 : Int32)) ?_
  refine own_iloadN (pc' := 1) X0 hx (hb hby own_d8_0) rfl rfl ?_
  refine own_ifYes (pc' := 15) X0 hx (hb hby own_d8_1) (tlt (by decide)).2.2.1 (by decide) (by decide) ?_
  refine own_bipush (pc' := 17) (z := (31 : Int32)) X0 hx (hb hby own_d8_15) rfl rfl ?_
  refine own_istoreN (pc' := 18) (l' := #[.val (.int (3 : Int32)), .val (.int (31 : Int32))]) X0 hx (hb hby own_d8_17) rfl rfl ?_
  refine own_iloadN (pc' := 19) X0 hx (hb hby own_d8_18) rfl rfl ?_
  refine own_ldcwI (pc' := 22) X0 hx hZ hown (own_w41 hw) (hb hby own_d8_19) rfl ?_
  refine own_icmpYes (pc' := 33) X0 hx (hb hby own_d8_22) (tlt (by decide)).1 (by decide) (by decide) ?_
  refine own_iloadN (pc' := 34) X0 hx (hb hby own_d8_33) rfl rfl ?_
  refine own_sipush (pc' := 37) (z := (256 : Int32)) X0 hx (hb hby own_d8_34) rfl rfl ?_
  refine own_icmpYes (pc' := 48) X0 hx (hb hby own_d8_37) (tlt (by decide)).1 (by decide) (by decide) ?_
  refine own_iloadN (pc' := 49) X0 hx (hb hby own_d8_48) rfl rfl ?_
  refine own_bipush (pc' := 51) (z := (16 : Int32)) X0 hx (hb hby own_d8_49) rfl rfl ?_
  refine own_icmpYes (pc' := 61) X0 hx (hb hby own_d8_51) (tlt (by decide)).1 (by decide) (by decide) ?_
  refine own_iloadN (pc' := 62) X0 hx (hb hby own_d8_61) rfl rfl ?_
  refine own_iconst (pc' := 63) (z := (4 : Int32)) X0 hx (hb hby own_d8_62) rfl rfl ?_
  refine own_icmpYes (pc' := 73) X0 hx (hb hby own_d8_63) (tlt (by decide)).1 (by decide) (by decide) ?_
  refine own_iloadN (pc' := 74) X0 hx (hb hby own_d8_73) rfl rfl ?_
  refine own_iloadN (pc' := 75) X0 hx (hb hby own_d8_74) rfl rfl ?_
  refine own_iconst (pc' := 76) (z := (1 : Int32)) X0 hx (hb hby own_d8_75) rfl rfl ?_
  refine own_iushr (pc' := 77) (z := (1 : Int32)) X0 hx (hb hby own_d8_76) rfl (by decide) ?_
  refine own_isub (pc' := 78) (z := (30 : Int32)) X0 hx (hb hby own_d8_77) rfl (by decide) ?_
  refine own_retI X0 hx hlk hret (hb hby own_d8_78) (by decide) (by decide) ?_
  exact ⟨rfl, N0, e0⟩
def own_room8_5 : Room := { frames := 0, cells := 0, slots := 0, locals := 0 }
def own_Q8_5 (Z : State)  (h0 : Heap) (n0 : Nat) (v : Option Value) (h : Heap) (L : List Loc) : Prop := v = some (.int 29) ∧ Fr n0 L ∧ h = h0
theorem own_ef_rm8_5 (m : MethodId) (x0 : Int32) : entryFrame m #[(.int x0)] 2 = mkF m 0 #[.val (.int x0), .unset] [] := by first | (simp [entryFrame, mkF, argsToLocals, Value.category]; done) | rfl
set_option maxRecDepth 65536 in
set_option maxHeartbeats 40000000 in
theorem own_rm8_5 (lch : Launch) (Z : State) (a0 : Array Value) (hw : ∀ d ∈ tables_1, d.before a0 Z = true) (ws : List Jvm.Cond)  (h0 : Heap) (n0 : Nat) :
    MetFree lch (⟨"java/lang/Integer", "numberOfLeadingZeros", "(I)I"⟩ : MethodName) (head1 (Jvm.Cond.code (⟨"java/lang/Integer", "numberOfLeadingZeros", "(I)I"⟩ : MethodName) jdk_33_method_47_code 2 (some .int) :: ws) own_room8_5) (fun zz U => zz = #[(.int (5 : Int32))] ∧ Z.Warmed39 U.vm ∧ U.heap = h0) (fun _ _ _ _ _ => True) (fun _ U o U' => ∃ v L, o = .returned v ∧ own_Q8_5 Z  h0 n0 v U'.heap L ∧ FrameEnd U o U' L own_room8_5.cells own_room8_5.slots) := by
  refine MetFree.of_bodySF (plainFor_of_name own_pn1) hisR ?_
  intro prg e s m args below meth c s₁ Bd hml0 hP hK
  obtain ⟨rfl, hZ, hh⟩ := hP
  have hx := Bd.exec
  have hby := Bd.bytes
  have hml : c.maxLocals = 2 := hml0
  have hown : s.vm.findClass "java/lang/Integer" = some m.cls := findClass_of_methodNamed Bd.named
  have hnm := (name_of_methodNamed Bd.named Bd.method).1
  have hlk : meth.locks = false := BodyLoose.notSynchronized Bd
  have hret := Bd.returns
  have X0 : Stand prg lch e own_room8_5 s m #[(.int (5 : Int32))] below meth c s₁ [] 0 0 := Stand.of_body Bd
  have e0 : s₁.heap = h0 := by rw [← hh, Bd.state]; rfl
  have N0 := Fr.nil n0
  show own_Ends prg e below s (own_Q8_5 Z  h0 n0) own_room8_5.cells own_room8_5.slots s₁ (entryFrame m #[(.int (5 : Int32))] 2)
  refine own_cast (own_ef_rm8_5 m (5 : Int32)) ?_
  refine own_iloadN (pc' := 1) X0 hx (hb hby own_d8_0) rfl rfl ?_
  refine own_ifYes (pc' := 15) X0 hx (hb hby own_d8_1) (tlt (by decide)).2.2.1 (by decide) (by decide) ?_
  refine own_bipush (pc' := 17) (z := (31 : Int32)) X0 hx (hb hby own_d8_15) rfl rfl ?_
  refine own_istoreN (pc' := 18) (l' := #[.val (.int (5 : Int32)), .val (.int (31 : Int32))]) X0 hx (hb hby own_d8_17) rfl rfl ?_
  refine own_iloadN (pc' := 19) X0 hx (hb hby own_d8_18) rfl rfl ?_
  refine own_ldcwI (pc' := 22) X0 hx hZ hown (own_w41 hw) (hb hby own_d8_19) rfl ?_
  refine own_icmpYes (pc' := 33) X0 hx (hb hby own_d8_22) (tlt (by decide)).1 (by decide) (by decide) ?_
  refine own_iloadN (pc' := 34) X0 hx (hb hby own_d8_33) rfl rfl ?_
  refine own_sipush (pc' := 37) (z := (256 : Int32)) X0 hx (hb hby own_d8_34) rfl rfl ?_
  refine own_icmpYes (pc' := 48) X0 hx (hb hby own_d8_37) (tlt (by decide)).1 (by decide) (by decide) ?_
  refine own_iloadN (pc' := 49) X0 hx (hb hby own_d8_48) rfl rfl ?_
  refine own_bipush (pc' := 51) (z := (16 : Int32)) X0 hx (hb hby own_d8_49) rfl rfl ?_
  refine own_icmpYes (pc' := 61) X0 hx (hb hby own_d8_51) (tlt (by decide)).1 (by decide) (by decide) ?_
  refine own_iloadN (pc' := 62) X0 hx (hb hby own_d8_61) rfl rfl ?_
  refine own_iconst (pc' := 63) (z := (4 : Int32)) X0 hx (hb hby own_d8_62) rfl rfl ?_
  refine own_icmpNo (pc' := 66) X0 hx (hb hby own_d8_63) rfl (flt (by decide)).1 ?_
  refine own_iinc (pc' := 69) (z := (29 : Int32)) (l' := #[.val (.int (5 : Int32)), .val (.int (29 : Int32))]) X0 hx (hb hby own_d8_66) rfl rfl (by decide) rfl ?_
  refine own_iloadN (pc' := 70) X0 hx (hb hby own_d8_69) rfl rfl ?_
  refine own_iconst (pc' := 71) (z := (2 : Int32)) X0 hx (hb hby own_d8_70) rfl rfl ?_
  refine own_iushr (pc' := 72) (z := (1 : Int32)) X0 hx (hb hby own_d8_71) rfl (by decide) ?_
  refine own_istoreN (pc' := 73) (l' := #[.val (.int (1 : Int32)), .val (.int (29 : Int32))]) X0 hx (hb hby own_d8_72) rfl rfl ?_
  refine own_iloadN (pc' := 74) X0 hx (hb hby own_d8_73) rfl rfl ?_
  refine own_iloadN (pc' := 75) X0 hx (hb hby own_d8_74) rfl rfl ?_
  refine own_iconst (pc' := 76) (z := (1 : Int32)) X0 hx (hb hby own_d8_75) rfl rfl ?_
  refine own_iushr (pc' := 77) (z := (0 : Int32)) X0 hx (hb hby own_d8_76) rfl (by decide) ?_
  refine own_isub (pc' := 78) (z := (29 : Int32)) X0 hx (hb hby own_d8_77) rfl (by decide) ?_
  refine own_retI X0 hx hlk hret (hb hby own_d8_78) (by decide) (by decide) ?_
  exact ⟨rfl, N0, e0⟩
def own_room8_7 : Room := { frames := 0, cells := 0, slots := 0, locals := 0 }
def own_Q8_7 (Z : State)  (h0 : Heap) (n0 : Nat) (v : Option Value) (h : Heap) (L : List Loc) : Prop := v = some (.int 29) ∧ Fr n0 L ∧ h = h0
theorem own_ef_rm8_7 (m : MethodId) (x0 : Int32) : entryFrame m #[(.int x0)] 2 = mkF m 0 #[.val (.int x0), .unset] [] := by first | (simp [entryFrame, mkF, argsToLocals, Value.category]; done) | rfl
set_option maxRecDepth 65536 in
set_option maxHeartbeats 40000000 in
theorem own_rm8_7 (lch : Launch) (Z : State) (a0 : Array Value) (hw : ∀ d ∈ tables_1, d.before a0 Z = true) (ws : List Jvm.Cond)  (h0 : Heap) (n0 : Nat) :
    MetFree lch (⟨"java/lang/Integer", "numberOfLeadingZeros", "(I)I"⟩ : MethodName) (head1 (Jvm.Cond.code (⟨"java/lang/Integer", "numberOfLeadingZeros", "(I)I"⟩ : MethodName) jdk_33_method_47_code 2 (some .int) :: ws) own_room8_7) (fun zz U => zz = #[(.int (7 : Int32))] ∧ Z.Warmed39 U.vm ∧ U.heap = h0) (fun _ _ _ _ _ => True) (fun _ U o U' => ∃ v L, o = .returned v ∧ own_Q8_7 Z  h0 n0 v U'.heap L ∧ FrameEnd U o U' L own_room8_7.cells own_room8_7.slots) := by
  refine MetFree.of_bodySF (plainFor_of_name own_pn1) hisR ?_
  intro prg e s m args below meth c s₁ Bd hml0 hP hK
  obtain ⟨rfl, hZ, hh⟩ := hP
  have hx := Bd.exec
  have hby := Bd.bytes
  have hml : c.maxLocals = 2 := hml0
  have hown : s.vm.findClass "java/lang/Integer" = some m.cls := findClass_of_methodNamed Bd.named
  have hnm := (name_of_methodNamed Bd.named Bd.method).1
  have hlk : meth.locks = false := BodyLoose.notSynchronized Bd
  have hret := Bd.returns
  have X0 : Stand prg lch e own_room8_7 s m #[(.int (7 : Int32))] below meth c s₁ [] 0 0 := Stand.of_body Bd
  have e0 : s₁.heap = h0 := by rw [← hh, Bd.state]; rfl
  have N0 := Fr.nil n0
  show own_Ends prg e below s (own_Q8_7 Z  h0 n0) own_room8_7.cells own_room8_7.slots s₁ (entryFrame m #[(.int (7 : Int32))] 2)
  refine own_cast (own_ef_rm8_7 m (7 : Int32)) ?_
  refine own_iloadN (pc' := 1) X0 hx (hb hby own_d8_0) rfl rfl ?_
  refine own_ifYes (pc' := 15) X0 hx (hb hby own_d8_1) (tlt (by decide)).2.2.1 (by decide) (by decide) ?_
  refine own_bipush (pc' := 17) (z := (31 : Int32)) X0 hx (hb hby own_d8_15) rfl rfl ?_
  refine own_istoreN (pc' := 18) (l' := #[.val (.int (7 : Int32)), .val (.int (31 : Int32))]) X0 hx (hb hby own_d8_17) rfl rfl ?_
  refine own_iloadN (pc' := 19) X0 hx (hb hby own_d8_18) rfl rfl ?_
  refine own_ldcwI (pc' := 22) X0 hx hZ hown (own_w41 hw) (hb hby own_d8_19) rfl ?_
  refine own_icmpYes (pc' := 33) X0 hx (hb hby own_d8_22) (tlt (by decide)).1 (by decide) (by decide) ?_
  refine own_iloadN (pc' := 34) X0 hx (hb hby own_d8_33) rfl rfl ?_
  refine own_sipush (pc' := 37) (z := (256 : Int32)) X0 hx (hb hby own_d8_34) rfl rfl ?_
  refine own_icmpYes (pc' := 48) X0 hx (hb hby own_d8_37) (tlt (by decide)).1 (by decide) (by decide) ?_
  refine own_iloadN (pc' := 49) X0 hx (hb hby own_d8_48) rfl rfl ?_
  refine own_bipush (pc' := 51) (z := (16 : Int32)) X0 hx (hb hby own_d8_49) rfl rfl ?_
  refine own_icmpYes (pc' := 61) X0 hx (hb hby own_d8_51) (tlt (by decide)).1 (by decide) (by decide) ?_
  refine own_iloadN (pc' := 62) X0 hx (hb hby own_d8_61) rfl rfl ?_
  refine own_iconst (pc' := 63) (z := (4 : Int32)) X0 hx (hb hby own_d8_62) rfl rfl ?_
  refine own_icmpNo (pc' := 66) X0 hx (hb hby own_d8_63) rfl (flt (by decide)).1 ?_
  refine own_iinc (pc' := 69) (z := (29 : Int32)) (l' := #[.val (.int (7 : Int32)), .val (.int (29 : Int32))]) X0 hx (hb hby own_d8_66) rfl rfl (by decide) rfl ?_
  refine own_iloadN (pc' := 70) X0 hx (hb hby own_d8_69) rfl rfl ?_
  refine own_iconst (pc' := 71) (z := (2 : Int32)) X0 hx (hb hby own_d8_70) rfl rfl ?_
  refine own_iushr (pc' := 72) (z := (1 : Int32)) X0 hx (hb hby own_d8_71) rfl (by decide) ?_
  refine own_istoreN (pc' := 73) (l' := #[.val (.int (1 : Int32)), .val (.int (29 : Int32))]) X0 hx (hb hby own_d8_72) rfl rfl ?_
  refine own_iloadN (pc' := 74) X0 hx (hb hby own_d8_73) rfl rfl ?_
  refine own_iloadN (pc' := 75) X0 hx (hb hby own_d8_74) rfl rfl ?_
  refine own_iconst (pc' := 76) (z := (1 : Int32)) X0 hx (hb hby own_d8_75) rfl rfl ?_
  refine own_iushr (pc' := 77) (z := (0 : Int32)) X0 hx (hb hby own_d8_76) rfl (by decide) ?_
  refine own_isub (pc' := 78) (z := (29 : Int32)) X0 hx (hb hby own_d8_77) rfl (by decide) ?_
  refine own_retI X0 hx hlk hret (hb hby own_d8_78) (by decide) (by decide) ?_
  exact ⟨rfl, N0, e0⟩
def own_room7_1 : Room := { frames := 1, cells := 0, slots := 0, locals := 15 }
def own_Q7_1 (Z : State)  (h0 : Heap) (n0 : Nat) (v : Option Value) (h : Heap) (L : List Loc) : Prop := v = some (.int 1) ∧ Fr n0 L ∧ h = h0
theorem own_ef_rm7_1 (m : MethodId) (x0 : Int32) : entryFrame m #[(.int x0)] 1 = mkF m 0 #[.val (.int x0)] [] := by first | (simp [entryFrame, mkF, argsToLocals, Value.category]; done) | rfl
set_option maxRecDepth 65536 in
set_option maxHeartbeats 40000000 in
theorem own_rm7_1 (lch : Launch) (Z : State) (a0 : Array Value) (hw : ∀ d ∈ tables_1, d.before a0 Z = true) (ws : List Jvm.Cond)  (h0 : Heap) (n0 : Nat) :
    MetFree lch (⟨"java/lang/Integer", "highestOneBit", "(I)I"⟩ : MethodName) (head1 (Jvm.Cond.code (⟨"java/lang/Integer", "highestOneBit", "(I)I"⟩ : MethodName) jdk_33_method_45_code 1 (some .int) :: ws) own_room7_1) (fun zz U => zz = #[(.int (1 : Int32))] ∧ Z.Warmed39 U.vm ∧ U.heap = h0) (fun _ _ _ _ _ => True) (fun _ U o U' => ∃ v L, o = .returned v ∧ own_Q7_1 Z  h0 n0 v U'.heap L ∧ FrameEnd U o U' L own_room7_1.cells own_room7_1.slots) := by
  refine MetFree.of_bodySF (plainFor_of_name own_pn1) hisR ?_
  intro prg e s m args below meth c s₁ Bd hml0 hP hK
  obtain ⟨rfl, hZ, hh⟩ := hP
  have hx := Bd.exec
  have hby := Bd.bytes
  have hml : c.maxLocals = 1 := hml0
  have hown : s.vm.findClass "java/lang/Integer" = some m.cls := findClass_of_methodNamed Bd.named
  have hnm := (name_of_methodNamed Bd.named Bd.method).1
  have hlk : meth.locks = false := BodyLoose.notSynchronized Bd
  have hret := Bd.returns
  have X0 : Stand prg lch e own_room7_1 s m #[(.int (1 : Int32))] below meth c s₁ [] 0 0 := Stand.of_body Bd
  have e0 : s₁.heap = h0 := by rw [← hh, Bd.state]; rfl
  have N0 := Fr.nil n0
  show own_Ends prg e below s (own_Q7_1 Z  h0 n0) own_room7_1.cells own_room7_1.slots s₁ (entryFrame m #[(.int (1 : Int32))] 1)
  refine own_cast (own_ef_rm7_1 m (1 : Int32)) ?_
  refine own_iloadN (pc' := 1) X0 hx (hb hby own_d7_0) rfl rfl ?_
  refine own_ldcI (pc' := 3) X0 hx hZ hown (own_w37 hw) (hb hby own_d7_1) rfl ?_
  refine own_iloadN (pc' := 4) X0 hx (hb hby own_d7_3) rfl rfl ?_
  refine own_callS (pc' := 7) (y := (⟨"java/lang/Integer", "numberOfLeadingZeros", "(I)I"⟩ : MethodName)) (W := 2) (rm := own_room8_1) (argsL := [(.int (1 : Int32))]) (rest := [(.int (-2147483648 : Int32)), (.int (1 : Int32))]) X0 hx hZ e0 hown (by rw [hml]; rfl) (own_w38 hw) (own_w39 hw) (own_w35 hw) (own_w40 hw) (by decide) (own_rm8_1 lch Z a0 hw [] h0 n0) (by decide) (by decide) (by decide) (by decide) (lenOf own_pd0 rfl) rfl (by exact Nat.le_of_eq rfl) (hb hby own_d7_4) rfl ?_
  intro T31 Lc31 v31 X31 hQ31
  obtain ⟨rfl, Nq31, Kq31⟩ := hQ31
  have N31 := Fr.app N0 Nq31
  show own_Ends prg e below s _ _ _ T31 (mkF m 7 #[.val (.int (1 : Int32))] [(.int (31 : Int32)), (.int (-2147483648 : Int32)), (.int (1 : Int32))])
  refine own_iushr (pc' := 8) (z := (1 : Int32)) X31 hx (hb hby own_d7_7) rfl (by decide) ?_
  refine own_iand (pc' := 9) (z := (1 : Int32)) X31 hx (hb hby own_d7_8) rfl (by decide) ?_
  refine own_retI X31 hx hlk hret (hb hby own_d7_9) (by decide) (by decide) ?_
  exact ⟨rfl, N31, Kq31⟩
def own_room7_3 : Room := { frames := 1, cells := 0, slots := 0, locals := 15 }
def own_Q7_3 (Z : State)  (h0 : Heap) (n0 : Nat) (v : Option Value) (h : Heap) (L : List Loc) : Prop := v = some (.int 2) ∧ Fr n0 L ∧ h = h0
theorem own_ef_rm7_3 (m : MethodId) (x0 : Int32) : entryFrame m #[(.int x0)] 1 = mkF m 0 #[.val (.int x0)] [] := by first | (simp [entryFrame, mkF, argsToLocals, Value.category]; done) | rfl
set_option maxRecDepth 65536 in
set_option maxHeartbeats 40000000 in
theorem own_rm7_3 (lch : Launch) (Z : State) (a0 : Array Value) (hw : ∀ d ∈ tables_1, d.before a0 Z = true) (ws : List Jvm.Cond)  (h0 : Heap) (n0 : Nat) :
    MetFree lch (⟨"java/lang/Integer", "highestOneBit", "(I)I"⟩ : MethodName) (head1 (Jvm.Cond.code (⟨"java/lang/Integer", "highestOneBit", "(I)I"⟩ : MethodName) jdk_33_method_45_code 1 (some .int) :: ws) own_room7_3) (fun zz U => zz = #[(.int (3 : Int32))] ∧ Z.Warmed39 U.vm ∧ U.heap = h0) (fun _ _ _ _ _ => True) (fun _ U o U' => ∃ v L, o = .returned v ∧ own_Q7_3 Z  h0 n0 v U'.heap L ∧ FrameEnd U o U' L own_room7_3.cells own_room7_3.slots) := by
  refine MetFree.of_bodySF (plainFor_of_name own_pn1) hisR ?_
  intro prg e s m args below meth c s₁ Bd hml0 hP hK
  obtain ⟨rfl, hZ, hh⟩ := hP
  have hx := Bd.exec
  have hby := Bd.bytes
  have hml : c.maxLocals = 1 := hml0
  have hown : s.vm.findClass "java/lang/Integer" = some m.cls := findClass_of_methodNamed Bd.named
  have hnm := (name_of_methodNamed Bd.named Bd.method).1
  have hlk : meth.locks = false := BodyLoose.notSynchronized Bd
  have hret := Bd.returns
  have X0 : Stand prg lch e own_room7_3 s m #[(.int (3 : Int32))] below meth c s₁ [] 0 0 := Stand.of_body Bd
  have e0 : s₁.heap = h0 := by rw [← hh, Bd.state]; rfl
  have N0 := Fr.nil n0
  show own_Ends prg e below s (own_Q7_3 Z  h0 n0) own_room7_3.cells own_room7_3.slots s₁ (entryFrame m #[(.int (3 : Int32))] 1)
  refine own_cast (own_ef_rm7_3 m (3 : Int32)) ?_
  refine own_iloadN (pc' := 1) X0 hx (hb hby own_d7_0) rfl rfl ?_
  refine own_ldcI (pc' := 3) X0 hx hZ hown (own_w37 hw) (hb hby own_d7_1) rfl ?_
  refine own_iloadN (pc' := 4) X0 hx (hb hby own_d7_3) rfl rfl ?_
  refine own_callS (pc' := 7) (y := (⟨"java/lang/Integer", "numberOfLeadingZeros", "(I)I"⟩ : MethodName)) (W := 2) (rm := own_room8_3) (argsL := [(.int (3 : Int32))]) (rest := [(.int (-2147483648 : Int32)), (.int (3 : Int32))]) X0 hx hZ e0 hown (by rw [hml]; rfl) (own_w38 hw) (own_w39 hw) (own_w35 hw) (own_w40 hw) (by decide) (own_rm8_3 lch Z a0 hw [] h0 n0) (by decide) (by decide) (by decide) (by decide) (lenOf own_pd0 rfl) rfl (by exact Nat.le_of_eq rfl) (hb hby own_d7_4) rfl ?_
  intro T31 Lc31 v31 X31 hQ31
  obtain ⟨rfl, Nq31, Kq31⟩ := hQ31
  have N31 := Fr.app N0 Nq31
  show own_Ends prg e below s _ _ _ T31 (mkF m 7 #[.val (.int (3 : Int32))] [(.int (30 : Int32)), (.int (-2147483648 : Int32)), (.int (3 : Int32))])
  refine own_iushr (pc' := 8) (z := (2 : Int32)) X31 hx (hb hby own_d7_7) rfl (by decide) ?_
  refine own_iand (pc' := 9) (z := (2 : Int32)) X31 hx (hb hby own_d7_8) rfl (by decide) ?_
  refine own_retI X31 hx hlk hret (hb hby own_d7_9) (by decide) (by decide) ?_
  exact ⟨rfl, N31, Kq31⟩
def own_room7_5 : Room := { frames := 1, cells := 0, slots := 0, locals := 15 }
def own_Q7_5 (Z : State)  (h0 : Heap) (n0 : Nat) (v : Option Value) (h : Heap) (L : List Loc) : Prop := v = some (.int 4) ∧ Fr n0 L ∧ h = h0
theorem own_ef_rm7_5 (m : MethodId) (x0 : Int32) : entryFrame m #[(.int x0)] 1 = mkF m 0 #[.val (.int x0)] [] := by first | (simp [entryFrame, mkF, argsToLocals, Value.category]; done) | rfl
set_option maxRecDepth 65536 in
set_option maxHeartbeats 40000000 in
theorem own_rm7_5 (lch : Launch) (Z : State) (a0 : Array Value) (hw : ∀ d ∈ tables_1, d.before a0 Z = true) (ws : List Jvm.Cond)  (h0 : Heap) (n0 : Nat) :
    MetFree lch (⟨"java/lang/Integer", "highestOneBit", "(I)I"⟩ : MethodName) (head1 (Jvm.Cond.code (⟨"java/lang/Integer", "highestOneBit", "(I)I"⟩ : MethodName) jdk_33_method_45_code 1 (some .int) :: ws) own_room7_5) (fun zz U => zz = #[(.int (5 : Int32))] ∧ Z.Warmed39 U.vm ∧ U.heap = h0) (fun _ _ _ _ _ => True) (fun _ U o U' => ∃ v L, o = .returned v ∧ own_Q7_5 Z  h0 n0 v U'.heap L ∧ FrameEnd U o U' L own_room7_5.cells own_room7_5.slots) := by
  refine MetFree.of_bodySF (plainFor_of_name own_pn1) hisR ?_
  intro prg e s m args below meth c s₁ Bd hml0 hP hK
  obtain ⟨rfl, hZ, hh⟩ := hP
  have hx := Bd.exec
  have hby := Bd.bytes
  have hml : c.maxLocals = 1 := hml0
  have hown : s.vm.findClass "java/lang/Integer" = some m.cls := findClass_of_methodNamed Bd.named
  have hnm := (name_of_methodNamed Bd.named Bd.method).1
  have hlk : meth.locks = false := BodyLoose.notSynchronized Bd
  have hret := Bd.returns
  have X0 : Stand prg lch e own_room7_5 s m #[(.int (5 : Int32))] below meth c s₁ [] 0 0 := Stand.of_body Bd
  have e0 : s₁.heap = h0 := by rw [← hh, Bd.state]; rfl
  have N0 := Fr.nil n0
  show own_Ends prg e below s (own_Q7_5 Z  h0 n0) own_room7_5.cells own_room7_5.slots s₁ (entryFrame m #[(.int (5 : Int32))] 1)
  refine own_cast (own_ef_rm7_5 m (5 : Int32)) ?_
  refine own_iloadN (pc' := 1) X0 hx (hb hby own_d7_0) rfl rfl ?_
  refine own_ldcI (pc' := 3) X0 hx hZ hown (own_w37 hw) (hb hby own_d7_1) rfl ?_
  refine own_iloadN (pc' := 4) X0 hx (hb hby own_d7_3) rfl rfl ?_
  refine own_callS (pc' := 7) (y := (⟨"java/lang/Integer", "numberOfLeadingZeros", "(I)I"⟩ : MethodName)) (W := 2) (rm := own_room8_5) (argsL := [(.int (5 : Int32))]) (rest := [(.int (-2147483648 : Int32)), (.int (5 : Int32))]) X0 hx hZ e0 hown (by rw [hml]; rfl) (own_w38 hw) (own_w39 hw) (own_w35 hw) (own_w40 hw) (by decide) (own_rm8_5 lch Z a0 hw [] h0 n0) (by decide) (by decide) (by decide) (by decide) (lenOf own_pd0 rfl) rfl (by exact Nat.le_of_eq rfl) (hb hby own_d7_4) rfl ?_
  intro T31 Lc31 v31 X31 hQ31
  obtain ⟨rfl, Nq31, Kq31⟩ := hQ31
  have N31 := Fr.app N0 Nq31
  show own_Ends prg e below s _ _ _ T31 (mkF m 7 #[.val (.int (5 : Int32))] [(.int (29 : Int32)), (.int (-2147483648 : Int32)), (.int (5 : Int32))])
  refine own_iushr (pc' := 8) (z := (4 : Int32)) X31 hx (hb hby own_d7_7) rfl (by decide) ?_
  refine own_iand (pc' := 9) (z := (4 : Int32)) X31 hx (hb hby own_d7_8) rfl (by decide) ?_
  refine own_retI X31 hx hlk hret (hb hby own_d7_9) (by decide) (by decide) ?_
  exact ⟨rfl, N31, Kq31⟩
def own_room7_7 : Room := { frames := 1, cells := 0, slots := 0, locals := 15 }
def own_Q7_7 (Z : State)  (h0 : Heap) (n0 : Nat) (v : Option Value) (h : Heap) (L : List Loc) : Prop := v = some (.int 4) ∧ Fr n0 L ∧ h = h0
theorem own_ef_rm7_7 (m : MethodId) (x0 : Int32) : entryFrame m #[(.int x0)] 1 = mkF m 0 #[.val (.int x0)] [] := by first | (simp [entryFrame, mkF, argsToLocals, Value.category]; done) | rfl
set_option maxRecDepth 65536 in
set_option maxHeartbeats 40000000 in
theorem own_rm7_7 (lch : Launch) (Z : State) (a0 : Array Value) (hw : ∀ d ∈ tables_1, d.before a0 Z = true) (ws : List Jvm.Cond)  (h0 : Heap) (n0 : Nat) :
    MetFree lch (⟨"java/lang/Integer", "highestOneBit", "(I)I"⟩ : MethodName) (head1 (Jvm.Cond.code (⟨"java/lang/Integer", "highestOneBit", "(I)I"⟩ : MethodName) jdk_33_method_45_code 1 (some .int) :: ws) own_room7_7) (fun zz U => zz = #[(.int (7 : Int32))] ∧ Z.Warmed39 U.vm ∧ U.heap = h0) (fun _ _ _ _ _ => True) (fun _ U o U' => ∃ v L, o = .returned v ∧ own_Q7_7 Z  h0 n0 v U'.heap L ∧ FrameEnd U o U' L own_room7_7.cells own_room7_7.slots) := by
  refine MetFree.of_bodySF (plainFor_of_name own_pn1) hisR ?_
  intro prg e s m args below meth c s₁ Bd hml0 hP hK
  obtain ⟨rfl, hZ, hh⟩ := hP
  have hx := Bd.exec
  have hby := Bd.bytes
  have hml : c.maxLocals = 1 := hml0
  have hown : s.vm.findClass "java/lang/Integer" = some m.cls := findClass_of_methodNamed Bd.named
  have hnm := (name_of_methodNamed Bd.named Bd.method).1
  have hlk : meth.locks = false := BodyLoose.notSynchronized Bd
  have hret := Bd.returns
  have X0 : Stand prg lch e own_room7_7 s m #[(.int (7 : Int32))] below meth c s₁ [] 0 0 := Stand.of_body Bd
  have e0 : s₁.heap = h0 := by rw [← hh, Bd.state]; rfl
  have N0 := Fr.nil n0
  show own_Ends prg e below s (own_Q7_7 Z  h0 n0) own_room7_7.cells own_room7_7.slots s₁ (entryFrame m #[(.int (7 : Int32))] 1)
  refine own_cast (own_ef_rm7_7 m (7 : Int32)) ?_
  refine own_iloadN (pc' := 1) X0 hx (hb hby own_d7_0) rfl rfl ?_
  refine own_ldcI (pc' := 3) X0 hx hZ hown (own_w37 hw) (hb hby own_d7_1) rfl ?_
  refine own_iloadN (pc' := 4) X0 hx (hb hby own_d7_3) rfl rfl ?_
  refine own_callS (pc' := 7) (y := (⟨"java/lang/Integer", "numberOfLeadingZeros", "(I)I"⟩ : MethodName)) (W := 2) (rm := own_room8_7) (argsL := [(.int (7 : Int32))]) (rest := [(.int (-2147483648 : Int32)), (.int (7 : Int32))]) X0 hx hZ e0 hown (by rw [hml]; rfl) (own_w38 hw) (own_w39 hw) (own_w35 hw) (own_w40 hw) (by decide) (own_rm8_7 lch Z a0 hw [] h0 n0) (by decide) (by decide) (by decide) (by decide) (lenOf own_pd0 rfl) rfl (by exact Nat.le_of_eq rfl) (hb hby own_d7_4) rfl ?_
  intro T31 Lc31 v31 X31 hQ31
  obtain ⟨rfl, Nq31, Kq31⟩ := hQ31
  have N31 := Fr.app N0 Nq31
  show own_Ends prg e below s _ _ _ T31 (mkF m 7 #[.val (.int (7 : Int32))] [(.int (29 : Int32)), (.int (-2147483648 : Int32)), (.int (7 : Int32))])
  refine own_iushr (pc' := 8) (z := (4 : Int32)) X31 hx (hb hby own_d7_7) rfl (by decide) ?_
  refine own_iand (pc' := 9) (z := (4 : Int32)) X31 hx (hb hby own_d7_8) rfl (by decide) ?_
  refine own_retI X31 hx hlk hret (hb hby own_d7_9) (by decide) (by decide) ?_
  exact ⟨rfl, N31, Kq31⟩
def own_room1_1 : Room := { frames := 1, cells := 0, slots := 0, locals := 16 }
def own_Q1_1 (Z : State) (a : Addr) (u0 : Value) (h0 : Heap) (n0 : Nat) (v : Option Value) (h : Heap) (L : List Loc) : Prop := v = none ∧ Fr n0 L ∧ Keep h0 h [a] ∧ Fld Z h a "com/example/larder/larder/cache/EvictedKeys" "depth" "I" (.int (1 : Int32)) ∧ Fld Z h a "com/example/larder/larder/cache/EvictedKeys" "slots" "[J" .null ∧ Fld Z h a "com/example/larder/larder/cache/EvictedKeys" "remembered" "I" (.int (0 : Int32))
theorem own_ef_rm1_1 (m : MethodId) (x0 : Addr) (x1 : Int64) : entryFrame m #[(.ref x0), (.long x1)] 3 = mkF m 0 #[.val (.ref x0), .val (.long x1), .second] [] := by first | (simp [entryFrame, mkF, argsToLocals, Value.category]; done) | rfl
set_option maxRecDepth 65536 in
set_option maxHeartbeats 40000000 in
theorem own_rm1_1 (lch : Launch) (Z : State) (a0 : Array Value) (hw : ∀ d ∈ tables_1, d.before a0 Z = true) (ws : List Jvm.Cond) (a : Addr) (u0 : Value) (h0 : Heap) (n0 : Nat) (E0 : Exa Z h0 a "com/example/larder/larder/cache/EvictedKeys") (FD : Fld Z h0 a "com/example/larder/larder/cache/EvictedKeys" "depth" "I" u0) (FS : Fld Z h0 a "com/example/larder/larder/cache/EvictedKeys" "slots" "[J" .null) (FR : Fld Z h0 a "com/example/larder/larder/cache/EvictedKeys" "remembered" "I" (.int (0 : Int32))) (ga : n0 ≤ a) :
    MetFree lch (⟨"com/example/larder/larder/cache/EvictedKeys", "<init>", "(J)V"⟩ : MethodName) (head1 (Jvm.Cond.code (⟨"com/example/larder/larder/cache/EvictedKeys", "<init>", "(J)V"⟩ : MethodName) prog_5_method_1_code 3 none :: ws) own_room1_1) (fun zz U => zz = #[(.ref a), (.long (1 : Int64))] ∧ Z.Warmed39 U.vm ∧ U.heap = h0) (fun _ _ _ _ _ => True) (fun _ U o U' => ∃ v L, o = .returned v ∧ own_Q1_1 Z a u0 h0 n0 v U'.heap L ∧ FrameEnd U o U' L own_room1_1.cells own_room1_1.slots) := by
  refine MetFree.of_bodySF (plainFor_of_name own_pn2) hisR ?_
  intro prg e s m args below meth c s₁ Bd hml0 hP hK
  obtain ⟨rfl, hZ, hh⟩ := hP
  have hx := Bd.exec
  have hby := Bd.bytes
  have hml : c.maxLocals = 3 := hml0
  have hown : s.vm.findClass "com/example/larder/larder/cache/EvictedKeys" = some m.cls := findClass_of_methodNamed Bd.named
  have hnm := (name_of_methodNamed Bd.named Bd.method).1
  have hlk : meth.locks = false := BodyLoose.notSynchronized Bd
  have hret := Bd.returns
  have X0 : Stand prg lch e own_room1_1 s m #[(.ref a), (.long (1 : Int64))] below meth c s₁ [] 0 0 := Stand.of_body Bd
  have e0 : s₁.heap = h0 := by rw [← hh, Bd.state]; rfl
  have N0 := Fr.nil n0
  show own_Ends prg e below s (own_Q1_1 Z a u0 h0 n0) own_room1_1.cells own_room1_1.slots s₁ (entryFrame m #[(.ref a), (.long (1 : Int64))] 3)
  refine own_cast (own_ef_rm1_1 m a (1 : Int64)) ?_
  have K0 := Keep.refl h0 ([a] : List Addr)
  refine own_aloadN (pc' := 1) X0 hx (hb hby own_d1_0) rfl rfl rfl ?_
  obtain ⟨T31, X31, e31, st31⟩ := initO X0 hx hZ hown (own_w6 hw) (own_w7 hw) (own_w8 hw) e0 (g := (mkF m 1 #[.val (.ref a), .val (.long (1 : Int64)), .second] [(.ref a)])) rfl (by rw [hml]; rfl) rfl (hb hby own_d1_1) (by decide) (W := 0) (by show 2 * 0 + _ ≤ _; exact Nat.le_of_eq rfl) (by decide)
  refine own_go st31 ?_
  show own_Ends prg e below s _ _ _ T31 (mkF m 4 #[.val (.ref a), .val (.long (1 : Int64)), .second] [])
  refine own_aloadN (pc' := 5) X31 hx (hb hby own_d1_4) rfl rfl rfl ?_
  refine own_ldc2J (pc' := 8) X31 hx hZ hown (own_w9 hw) (hb hby own_d1_5) rfl ?_
  refine own_lloadN (pc' := 9) X31 hx (hb hby own_d1_8) rfl rfl ?_
  refine own_callS (pc' := 12) (y := (⟨"java/lang/Math", "min", "(JJ)J"⟩ : MethodName)) (W := 1) (rm := own_room3_1) (argsL := [(.long (134217728 : Int64)), (.long (1 : Int64))]) (rest := [(.ref a)]) X31 hx hZ e31 hown (by rw [hml]; rfl) (own_w10 hw) (own_w11 hw) (own_w12 hw) (own_w13 hw) (by decide) (own_rm3_1 lch Z a0 hw [] h0 n0) (by decide) (by decide) (by decide) (by decide) (lenOf own_pd1 rfl) rfl (by exact Nat.le_of_eq rfl) (hb hby own_d1_9) rfl ?_
  intro T32 Lc32 v32 X32 hQ32
  obtain ⟨rfl, Nq32, Kq32⟩ := hQ32
  have N32 := Fr.app N0 Nq32
  show own_Ends prg e below s _ _ _ T32 (mkF m 12 #[.val (.ref a), .val (.long (1 : Int64)), .second] [(.long (1 : Int64)), (.ref a)])
  refine own_l2i (pc' := 13) (z := (1 : Int32)) X32 hx (hb hby own_d1_12) rfl (by decide) ?_
  obtain ⟨T33, h33, X33, e33, W33, st33⟩ := putF X32 hx hZ hown (host := "") (Or.inl (own_w14 hw)) Via.refl Kq32 FD E0 (Or.inr ⟨(own_w15 hw), rfl, hnm⟩) (own_w1 hw) (ty := .int) (by decide) rfl rfl (g := (mkF m 13 #[.val (.ref a), .val (.long (1 : Int64)), .second] [(.int (1 : Int32)), (.ref a)])) rfl rfl (hb hby own_d1_13)
  refine own_go st33 ?_
  have Fw33 := FD.same W33
  have N33 := Fr.snoc X33 N32 ga
  show own_Ends prg e below s _ _ _ T33 (mkF m 16 #[.val (.ref a), .val (.long (1 : Int64)), .second] [])
  refine own_retV X33 hx hlk hret (hb hby own_d1_16) (by decide) (by decide) ?_
  have f34 := (K0.wr W33 (Or.inl (List.mem_of_getElem? (i := 0) rfl)))
  have f35 := (FS.other W33 (Or.inr (slot_ne (Or.inl (own_w22 hw)) (Or.inr (own_w15 hw)) (by decide) (t := (.array .long)) (t' := .int) (by decide) (by decide))))
  have f36 := (FR.other W33 (Or.inr (slot_ne (Or.inl (own_w45 hw)) (Or.inr (own_w15 hw)) (by decide) (t := .int) (t' := .int) (by decide) (by decide))))
  rw [e33]; exact ⟨rfl, N33, f34, Fw33, f35, f36⟩
def own_room1_2 : Room := { frames := 1, cells := 0, slots := 0, locals := 16 }
def own_Q1_2 (Z : State) (a : Addr) (u0 : Value) (h0 : Heap) (n0 : Nat) (v : Option Value) (h : Heap) (L : List Loc) : Prop := v = none ∧ Fr n0 L ∧ Keep h0 h [a] ∧ Fld Z h a "com/example/larder/larder/cache/EvictedKeys" "depth" "I" (.int (2 : Int32)) ∧ Fld Z h a "com/example/larder/larder/cache/EvictedKeys" "slots" "[J" .null ∧ Fld Z h a "com/example/larder/larder/cache/EvictedKeys" "remembered" "I" (.int (0 : Int32))
theorem own_ef_rm1_2 (m : MethodId) (x0 : Addr) (x1 : Int64) : entryFrame m #[(.ref x0), (.long x1)] 3 = mkF m 0 #[.val (.ref x0), .val (.long x1), .second] [] := by first | (simp [entryFrame, mkF, argsToLocals, Value.category]; done) | rfl
set_option maxRecDepth 65536 in
set_option maxHeartbeats 40000000 in
theorem own_rm1_2 (lch : Launch) (Z : State) (a0 : Array Value) (hw : ∀ d ∈ tables_1, d.before a0 Z = true) (ws : List Jvm.Cond) (a : Addr) (u0 : Value) (h0 : Heap) (n0 : Nat) (E0 : Exa Z h0 a "com/example/larder/larder/cache/EvictedKeys") (FD : Fld Z h0 a "com/example/larder/larder/cache/EvictedKeys" "depth" "I" u0) (FS : Fld Z h0 a "com/example/larder/larder/cache/EvictedKeys" "slots" "[J" .null) (FR : Fld Z h0 a "com/example/larder/larder/cache/EvictedKeys" "remembered" "I" (.int (0 : Int32))) (ga : n0 ≤ a) :
    MetFree lch (⟨"com/example/larder/larder/cache/EvictedKeys", "<init>", "(J)V"⟩ : MethodName) (head1 (Jvm.Cond.code (⟨"com/example/larder/larder/cache/EvictedKeys", "<init>", "(J)V"⟩ : MethodName) prog_5_method_1_code 3 none :: ws) own_room1_2) (fun zz U => zz = #[(.ref a), (.long (2 : Int64))] ∧ Z.Warmed39 U.vm ∧ U.heap = h0) (fun _ _ _ _ _ => True) (fun _ U o U' => ∃ v L, o = .returned v ∧ own_Q1_2 Z a u0 h0 n0 v U'.heap L ∧ FrameEnd U o U' L own_room1_2.cells own_room1_2.slots) := by
  refine MetFree.of_bodySF (plainFor_of_name own_pn2) hisR ?_
  intro prg e s m args below meth c s₁ Bd hml0 hP hK
  obtain ⟨rfl, hZ, hh⟩ := hP
  have hx := Bd.exec
  have hby := Bd.bytes
  have hml : c.maxLocals = 3 := hml0
  have hown : s.vm.findClass "com/example/larder/larder/cache/EvictedKeys" = some m.cls := findClass_of_methodNamed Bd.named
  have hnm := (name_of_methodNamed Bd.named Bd.method).1
  have hlk : meth.locks = false := BodyLoose.notSynchronized Bd
  have hret := Bd.returns
  have X0 : Stand prg lch e own_room1_2 s m #[(.ref a), (.long (2 : Int64))] below meth c s₁ [] 0 0 := Stand.of_body Bd
  have e0 : s₁.heap = h0 := by rw [← hh, Bd.state]; rfl
  have N0 := Fr.nil n0
  show own_Ends prg e below s (own_Q1_2 Z a u0 h0 n0) own_room1_2.cells own_room1_2.slots s₁ (entryFrame m #[(.ref a), (.long (2 : Int64))] 3)
  refine own_cast (own_ef_rm1_2 m a (2 : Int64)) ?_
  have K0 := Keep.refl h0 ([a] : List Addr)
  refine own_aloadN (pc' := 1) X0 hx (hb hby own_d1_0) rfl rfl rfl ?_
  obtain ⟨T31, X31, e31, st31⟩ := initO X0 hx hZ hown (own_w6 hw) (own_w7 hw) (own_w8 hw) e0 (g := (mkF m 1 #[.val (.ref a), .val (.long (2 : Int64)), .second] [(.ref a)])) rfl (by rw [hml]; rfl) rfl (hb hby own_d1_1) (by decide) (W := 0) (by show 2 * 0 + _ ≤ _; exact Nat.le_of_eq rfl) (by decide)
  refine own_go st31 ?_
  show own_Ends prg e below s _ _ _ T31 (mkF m 4 #[.val (.ref a), .val (.long (2 : Int64)), .second] [])
  refine own_aloadN (pc' := 5) X31 hx (hb hby own_d1_4) rfl rfl rfl ?_
  refine own_ldc2J (pc' := 8) X31 hx hZ hown (own_w9 hw) (hb hby own_d1_5) rfl ?_
  refine own_lloadN (pc' := 9) X31 hx (hb hby own_d1_8) rfl rfl ?_
  refine own_callS (pc' := 12) (y := (⟨"java/lang/Math", "min", "(JJ)J"⟩ : MethodName)) (W := 1) (rm := own_room3_2) (argsL := [(.long (134217728 : Int64)), (.long (2 : Int64))]) (rest := [(.ref a)]) X31 hx hZ e31 hown (by rw [hml]; rfl) (own_w10 hw) (own_w11 hw) (own_w12 hw) (own_w13 hw) (by decide) (own_rm3_2 lch Z a0 hw [] h0 n0) (by decide) (by decide) (by decide) (by decide) (lenOf own_pd1 rfl) rfl (by exact Nat.le_of_eq rfl) (hb hby own_d1_9) rfl ?_
  intro T32 Lc32 v32 X32 hQ32
  obtain ⟨rfl, Nq32, Kq32⟩ := hQ32
  have N32 := Fr.app N0 Nq32
  show own_Ends prg e below s _ _ _ T32 (mkF m 12 #[.val (.ref a), .val (.long (2 : Int64)), .second] [(.long (2 : Int64)), (.ref a)])
  refine own_l2i (pc' := 13) (z := (2 : Int32)) X32 hx (hb hby own_d1_12) rfl (by decide) ?_
  obtain ⟨T33, h33, X33, e33, W33, st33⟩ := putF X32 hx hZ hown (host := "") (Or.inl (own_w14 hw)) Via.refl Kq32 FD E0 (Or.inr ⟨(own_w15 hw), rfl, hnm⟩) (own_w1 hw) (ty := .int) (by decide) rfl rfl (g := (mkF m 13 #[.val (.ref a), .val (.long (2 : Int64)), .second] [(.int (2 : Int32)), (.ref a)])) rfl rfl (hb hby own_d1_13)
  refine own_go st33 ?_
  have Fw33 := FD.same W33
  have N33 := Fr.snoc X33 N32 ga
  show own_Ends prg e below s _ _ _ T33 (mkF m 16 #[.val (.ref a), .val (.long (2 : Int64)), .second] [])
  refine own_retV X33 hx hlk hret (hb hby own_d1_16) (by decide) (by decide) ?_
  have f34 := (K0.wr W33 (Or.inl (List.mem_of_getElem? (i := 0) rfl)))
  have f35 := (FS.other W33 (Or.inr (slot_ne (Or.inl (own_w22 hw)) (Or.inr (own_w15 hw)) (by decide) (t := (.array .long)) (t' := .int) (by decide) (by decide))))
  have f36 := (FR.other W33 (Or.inr (slot_ne (Or.inl (own_w45 hw)) (Or.inr (own_w15 hw)) (by decide) (t := .int) (t' := .int) (by decide) (by decide))))
  rw [e33]; exact ⟨rfl, N33, f34, Fw33, f35, f36⟩
def own_room1_3 : Room := { frames := 1, cells := 0, slots := 0, locals := 16 }
def own_Q1_3 (Z : State) (a : Addr) (u0 : Value) (h0 : Heap) (n0 : Nat) (v : Option Value) (h : Heap) (L : List Loc) : Prop := v = none ∧ Fr n0 L ∧ Keep h0 h [a] ∧ Fld Z h a "com/example/larder/larder/cache/EvictedKeys" "depth" "I" (.int (3 : Int32)) ∧ Fld Z h a "com/example/larder/larder/cache/EvictedKeys" "slots" "[J" .null ∧ Fld Z h a "com/example/larder/larder/cache/EvictedKeys" "remembered" "I" (.int (0 : Int32))
theorem own_ef_rm1_3 (m : MethodId) (x0 : Addr) (x1 : Int64) : entryFrame m #[(.ref x0), (.long x1)] 3 = mkF m 0 #[.val (.ref x0), .val (.long x1), .second] [] := by first | (simp [entryFrame, mkF, argsToLocals, Value.category]; done) | rfl
set_option maxRecDepth 65536 in
set_option maxHeartbeats 40000000 in
theorem own_rm1_3 (lch : Launch) (Z : State) (a0 : Array Value) (hw : ∀ d ∈ tables_1, d.before a0 Z = true) (ws : List Jvm.Cond) (a : Addr) (u0 : Value) (h0 : Heap) (n0 : Nat) (E0 : Exa Z h0 a "com/example/larder/larder/cache/EvictedKeys") (FD : Fld Z h0 a "com/example/larder/larder/cache/EvictedKeys" "depth" "I" u0) (FS : Fld Z h0 a "com/example/larder/larder/cache/EvictedKeys" "slots" "[J" .null) (FR : Fld Z h0 a "com/example/larder/larder/cache/EvictedKeys" "remembered" "I" (.int (0 : Int32))) (ga : n0 ≤ a) :
    MetFree lch (⟨"com/example/larder/larder/cache/EvictedKeys", "<init>", "(J)V"⟩ : MethodName) (head1 (Jvm.Cond.code (⟨"com/example/larder/larder/cache/EvictedKeys", "<init>", "(J)V"⟩ : MethodName) prog_5_method_1_code 3 none :: ws) own_room1_3) (fun zz U => zz = #[(.ref a), (.long (3 : Int64))] ∧ Z.Warmed39 U.vm ∧ U.heap = h0) (fun _ _ _ _ _ => True) (fun _ U o U' => ∃ v L, o = .returned v ∧ own_Q1_3 Z a u0 h0 n0 v U'.heap L ∧ FrameEnd U o U' L own_room1_3.cells own_room1_3.slots) := by
  refine MetFree.of_bodySF (plainFor_of_name own_pn2) hisR ?_
  intro prg e s m args below meth c s₁ Bd hml0 hP hK
  obtain ⟨rfl, hZ, hh⟩ := hP
  have hx := Bd.exec
  have hby := Bd.bytes
  have hml : c.maxLocals = 3 := hml0
  have hown : s.vm.findClass "com/example/larder/larder/cache/EvictedKeys" = some m.cls := findClass_of_methodNamed Bd.named
  have hnm := (name_of_methodNamed Bd.named Bd.method).1
  have hlk : meth.locks = false := BodyLoose.notSynchronized Bd
  have hret := Bd.returns
  have X0 : Stand prg lch e own_room1_3 s m #[(.ref a), (.long (3 : Int64))] below meth c s₁ [] 0 0 := Stand.of_body Bd
  have e0 : s₁.heap = h0 := by rw [← hh, Bd.state]; rfl
  have N0 := Fr.nil n0
  show own_Ends prg e below s (own_Q1_3 Z a u0 h0 n0) own_room1_3.cells own_room1_3.slots s₁ (entryFrame m #[(.ref a), (.long (3 : Int64))] 3)
  refine own_cast (own_ef_rm1_3 m a (3 : Int64)) ?_
  have K0 := Keep.refl h0 ([a] : List Addr)
  refine own_aloadN (pc' := 1) X0 hx (hb hby own_d1_0) rfl rfl rfl ?_
  obtain ⟨T31, X31, e31, st31⟩ := initO X0 hx hZ hown (own_w6 hw) (own_w7 hw) (own_w8 hw) e0 (g := (mkF m 1 #[.val (.ref a), .val (.long (3 : Int64)), .second] [(.ref a)])) rfl (by rw [hml]; rfl) rfl (hb hby own_d1_1) (by decide) (W := 0) (by show 2 * 0 + _ ≤ _; exact Nat.le_of_eq rfl) (by decide)
  refine own_go st31 ?_
  show own_Ends prg e below s _ _ _ T31 (mkF m 4 #[.val (.ref a), .val (.long (3 : Int64)), .second] [])
  refine own_aloadN (pc' := 5) X31 hx (hb hby own_d1_4) rfl rfl rfl ?_
  refine own_ldc2J (pc' := 8) X31 hx hZ hown (own_w9 hw) (hb hby own_d1_5) rfl ?_
  refine own_lloadN (pc' := 9) X31 hx (hb hby own_d1_8) rfl rfl ?_
  refine own_callS (pc' := 12) (y := (⟨"java/lang/Math", "min", "(JJ)J"⟩ : MethodName)) (W := 1) (rm := own_room3_3) (argsL := [(.long (134217728 : Int64)), (.long (3 : Int64))]) (rest := [(.ref a)]) X31 hx hZ e31 hown (by rw [hml]; rfl) (own_w10 hw) (own_w11 hw) (own_w12 hw) (own_w13 hw) (by decide) (own_rm3_3 lch Z a0 hw [] h0 n0) (by decide) (by decide) (by decide) (by decide) (lenOf own_pd1 rfl) rfl (by exact Nat.le_of_eq rfl) (hb hby own_d1_9) rfl ?_
  intro T32 Lc32 v32 X32 hQ32
  obtain ⟨rfl, Nq32, Kq32⟩ := hQ32
  have N32 := Fr.app N0 Nq32
  show own_Ends prg e below s _ _ _ T32 (mkF m 12 #[.val (.ref a), .val (.long (3 : Int64)), .second] [(.long (3 : Int64)), (.ref a)])
  refine own_l2i (pc' := 13) (z := (3 : Int32)) X32 hx (hb hby own_d1_12) rfl (by decide) ?_
  obtain ⟨T33, h33, X33, e33, W33, st33⟩ := putF X32 hx hZ hown (host := "") (Or.inl (own_w14 hw)) Via.refl Kq32 FD E0 (Or.inr ⟨(own_w15 hw), rfl, hnm⟩) (own_w1 hw) (ty := .int) (by decide) rfl rfl (g := (mkF m 13 #[.val (.ref a), .val (.long (3 : Int64)), .second] [(.int (3 : Int32)), (.ref a)])) rfl rfl (hb hby own_d1_13)
  refine own_go st33 ?_
  have Fw33 := FD.same W33
  have N33 := Fr.snoc X33 N32 ga
  show own_Ends prg e below s _ _ _ T33 (mkF m 16 #[.val (.ref a), .val (.long (3 : Int64)), .second] [])
  refine own_retV X33 hx hlk hret (hb hby own_d1_16) (by decide) (by decide) ?_
  have f34 := (K0.wr W33 (Or.inl (List.mem_of_getElem? (i := 0) rfl)))
  have f35 := (FS.other W33 (Or.inr (slot_ne (Or.inl (own_w22 hw)) (Or.inr (own_w15 hw)) (by decide) (t := (.array .long)) (t' := .int) (by decide) (by decide))))
  have f36 := (FR.other W33 (Or.inr (slot_ne (Or.inl (own_w45 hw)) (Or.inr (own_w15 hw)) (by decide) (t := .int) (t' := .int) (by decide) (by decide))))
  rw [e33]; exact ⟨rfl, N33, f34, Fw33, f35, f36⟩
def own_room1_4 : Room := { frames := 1, cells := 0, slots := 0, locals := 16 }
def own_Q1_4 (Z : State) (a : Addr) (u0 : Value) (h0 : Heap) (n0 : Nat) (v : Option Value) (h : Heap) (L : List Loc) : Prop := v = none ∧ Fr n0 L ∧ Keep h0 h [a] ∧ Fld Z h a "com/example/larder/larder/cache/EvictedKeys" "depth" "I" (.int (4 : Int32)) ∧ Fld Z h a "com/example/larder/larder/cache/EvictedKeys" "slots" "[J" .null ∧ Fld Z h a "com/example/larder/larder/cache/EvictedKeys" "remembered" "I" (.int (0 : Int32))
theorem own_ef_rm1_4 (m : MethodId) (x0 : Addr) (x1 : Int64) : entryFrame m #[(.ref x0), (.long x1)] 3 = mkF m 0 #[.val (.ref x0), .val (.long x1), .second] [] := by first | (simp [entryFrame, mkF, argsToLocals, Value.category]; done) | rfl
set_option maxRecDepth 65536 in
set_option maxHeartbeats 40000000 in
theorem own_rm1_4 (lch : Launch) (Z : State) (a0 : Array Value) (hw : ∀ d ∈ tables_1, d.before a0 Z = true) (ws : List Jvm.Cond) (a : Addr) (u0 : Value) (h0 : Heap) (n0 : Nat) (E0 : Exa Z h0 a "com/example/larder/larder/cache/EvictedKeys") (FD : Fld Z h0 a "com/example/larder/larder/cache/EvictedKeys" "depth" "I" u0) (FS : Fld Z h0 a "com/example/larder/larder/cache/EvictedKeys" "slots" "[J" .null) (FR : Fld Z h0 a "com/example/larder/larder/cache/EvictedKeys" "remembered" "I" (.int (0 : Int32))) (ga : n0 ≤ a) :
    MetFree lch (⟨"com/example/larder/larder/cache/EvictedKeys", "<init>", "(J)V"⟩ : MethodName) (head1 (Jvm.Cond.code (⟨"com/example/larder/larder/cache/EvictedKeys", "<init>", "(J)V"⟩ : MethodName) prog_5_method_1_code 3 none :: ws) own_room1_4) (fun zz U => zz = #[(.ref a), (.long (4 : Int64))] ∧ Z.Warmed39 U.vm ∧ U.heap = h0) (fun _ _ _ _ _ => True) (fun _ U o U' => ∃ v L, o = .returned v ∧ own_Q1_4 Z a u0 h0 n0 v U'.heap L ∧ FrameEnd U o U' L own_room1_4.cells own_room1_4.slots) := by
  refine MetFree.of_bodySF (plainFor_of_name own_pn2) hisR ?_
  intro prg e s m args below meth c s₁ Bd hml0 hP hK
  obtain ⟨rfl, hZ, hh⟩ := hP
  have hx := Bd.exec
  have hby := Bd.bytes
  have hml : c.maxLocals = 3 := hml0
  have hown : s.vm.findClass "com/example/larder/larder/cache/EvictedKeys" = some m.cls := findClass_of_methodNamed Bd.named
  have hnm := (name_of_methodNamed Bd.named Bd.method).1
  have hlk : meth.locks = false := BodyLoose.notSynchronized Bd
  have hret := Bd.returns
  have X0 : Stand prg lch e own_room1_4 s m #[(.ref a), (.long (4 : Int64))] below meth c s₁ [] 0 0 := Stand.of_body Bd
  have e0 : s₁.heap = h0 := by rw [← hh, Bd.state]; rfl
  have N0 := Fr.nil n0
  show own_Ends prg e below s (own_Q1_4 Z a u0 h0 n0) own_room1_4.cells own_room1_4.slots s₁ (entryFrame m #[(.ref a), (.long (4 : Int64))] 3)
  refine own_cast (own_ef_rm1_4 m a (4 : Int64)) ?_
  have K0 := Keep.refl h0 ([a] : List Addr)
  refine own_aloadN (pc' := 1) X0 hx (hb hby own_d1_0) rfl rfl rfl ?_
  obtain ⟨T31, X31, e31, st31⟩ := initO X0 hx hZ hown (own_w6 hw) (own_w7 hw) (own_w8 hw) e0 (g := (mkF m 1 #[.val (.ref a), .val (.long (4 : Int64)), .second] [(.ref a)])) rfl (by rw [hml]; rfl) rfl (hb hby own_d1_1) (by decide) (W := 0) (by show 2 * 0 + _ ≤ _; exact Nat.le_of_eq rfl) (by decide)
  refine own_go st31 ?_
  show own_Ends prg e below s _ _ _ T31 (mkF m 4 #[.val (.ref a), .val (.long (4 : Int64)), .second] [])
  refine own_aloadN (pc' := 5) X31 hx (hb hby own_d1_4) rfl rfl rfl ?_
  refine own_ldc2J (pc' := 8) X31 hx hZ hown (own_w9 hw) (hb hby own_d1_5) rfl ?_
  refine own_lloadN (pc' := 9) X31 hx (hb hby own_d1_8) rfl rfl ?_
  refine own_callS (pc' := 12) (y := (⟨"java/lang/Math", "min", "(JJ)J"⟩ : MethodName)) (W := 1) (rm := own_room3_4) (argsL := [(.long (134217728 : Int64)), (.long (4 : Int64))]) (rest := [(.ref a)]) X31 hx hZ e31 hown (by rw [hml]; rfl) (own_w10 hw) (own_w11 hw) (own_w12 hw) (own_w13 hw) (by decide) (own_rm3_4 lch Z a0 hw [] h0 n0) (by decide) (by decide) (by decide) (by decide) (lenOf own_pd1 rfl) rfl (by exact Nat.le_of_eq rfl) (hb hby own_d1_9) rfl ?_
  intro T32 Lc32 v32 X32 hQ32
  obtain ⟨rfl, Nq32, Kq32⟩ := hQ32
  have N32 := Fr.app N0 Nq32
  show own_Ends prg e below s _ _ _ T32 (mkF m 12 #[.val (.ref a), .val (.long (4 : Int64)), .second] [(.long (4 : Int64)), (.ref a)])
  refine own_l2i (pc' := 13) (z := (4 : Int32)) X32 hx (hb hby own_d1_12) rfl (by decide) ?_
  obtain ⟨T33, h33, X33, e33, W33, st33⟩ := putF X32 hx hZ hown (host := "") (Or.inl (own_w14 hw)) Via.refl Kq32 FD E0 (Or.inr ⟨(own_w15 hw), rfl, hnm⟩) (own_w1 hw) (ty := .int) (by decide) rfl rfl (g := (mkF m 13 #[.val (.ref a), .val (.long (4 : Int64)), .second] [(.int (4 : Int32)), (.ref a)])) rfl rfl (hb hby own_d1_13)
  refine own_go st33 ?_
  have Fw33 := FD.same W33
  have N33 := Fr.snoc X33 N32 ga
  show own_Ends prg e below s _ _ _ T33 (mkF m 16 #[.val (.ref a), .val (.long (4 : Int64)), .second] [])
  refine own_retV X33 hx hlk hret (hb hby own_d1_16) (by decide) (by decide) ?_
  have f34 := (K0.wr W33 (Or.inl (List.mem_of_getElem? (i := 0) rfl)))
  have f35 := (FS.other W33 (Or.inr (slot_ne (Or.inl (own_w22 hw)) (Or.inr (own_w15 hw)) (by decide) (t := (.array .long)) (t' := .int) (by decide) (by decide))))
  have f36 := (FR.other W33 (Or.inr (slot_ne (Or.inl (own_w45 hw)) (Or.inr (own_w15 hw)) (by decide) (t := .int) (t' := .int) (by decide) (by decide))))
  rw [e33]; exact ⟨rfl, N33, f34, Fw33, f35, f36⟩
def own_room6_1_0 : Room := { frames := 2, cells := 1, slots := 2, locals := 28 }
def own_Q6_1_0 (Z : State) (a : Addr) (p : Int32) (h0 : Heap) (n0 : Nat) (v : Option Value) (h : Heap) (L : List Loc) : Prop := ∃ (b : Addr) (bk : ClassId), v = none ∧ Fr n0 L ∧ Keep h0 h [a] ∧ h0.size ≤ b ∧ Fld Z h a "com/example/larder/larder/cache/EvictedKeys" "depth" "I" (.int (1 : Int32)) ∧ Fld Z h a "com/example/larder/larder/cache/EvictedKeys" "slots" "[J" (.ref b) ∧ Fld Z h a "com/example/larder/larder/cache/EvictedKeys" "remembered" "I" (.int (1 : Int32)) ∧ Arv Z h b bk .long (2 : Int32) (own_LJ ((List.replicate 2 (0 : Int64)).set (own_ixm (1 : Int32) (own_spread p)) (own_pack (own_spread p) (1 : Int64)))) (.long (0 : Int64))
theorem own_ef_rm6_1_0 (m : MethodId) (x0 : Addr) (x1 : Int32) : entryFrame m #[(.ref x0), (.int x1)] 3 = mkF m 0 #[.val (.ref x0), .val (.int x1), .unset] [] := by first | (simp [entryFrame, mkF, argsToLocals, Value.category]; done) | rfl
set_option maxRecDepth 65536 in
set_option maxHeartbeats 40000000 in
theorem own_rm6_1_0 (lch : Launch) (Z : State) (a0 : Array Value) (hw : ∀ d ∈ tables_1, d.before a0 Z = true) (ws : List Jvm.Cond) (a : Addr) (p : Int32) (h0 : Heap) (n0 : Nat) (Z0 : n0 ≤ h0.size) (E0 : Exa Z h0 a "com/example/larder/larder/cache/EvictedKeys") (FD : Fld Z h0 a "com/example/larder/larder/cache/EvictedKeys" "depth" "I" (.int (1 : Int32))) (FS : Fld Z h0 a "com/example/larder/larder/cache/EvictedKeys" "slots" "[J" .null) (FR : Fld Z h0 a "com/example/larder/larder/cache/EvictedKeys" "remembered" "I" (.int (0 : Int32))) (ga : n0 ≤ a) :
    MetFree lch (⟨"com/example/larder/larder/cache/EvictedKeys", "remember", "(I)V"⟩ : MethodName) (head1 (Jvm.Cond.code (⟨"com/example/larder/larder/cache/EvictedKeys", "remember", "(I)V"⟩ : MethodName) prog_5_method_2_code 3 none :: ws) own_room6_1_0) (fun zz U => zz = #[(.ref a), (.int p)] ∧ Z.Warmed39 U.vm ∧ U.heap = h0) (fun _ _ _ _ _ => True) (fun _ U o U' => ∃ v L, o = .returned v ∧ own_Q6_1_0 Z a p h0 n0 v U'.heap L ∧ FrameEnd U o U' L own_room6_1_0.cells own_room6_1_0.slots) := by
  refine MetFree.of_bodySF (plainFor_of_name own_pn2) hisR ?_
  intro prg e s m args below meth c s₁ Bd hml0 hP hK
  obtain ⟨rfl, hZ, hh⟩ := hP
  have hx := Bd.exec
  have hby := Bd.bytes
  have hml : c.maxLocals = 3 := hml0
  have hown : s.vm.findClass "com/example/larder/larder/cache/EvictedKeys" = some m.cls := findClass_of_methodNamed Bd.named
  have hnm := (name_of_methodNamed Bd.named Bd.method).1
  have hlk : meth.locks = false := BodyLoose.notSynchronized Bd
  have hret := Bd.returns
  have X0 : Stand prg lch e own_room6_1_0 s m #[(.ref a), (.int p)] below meth c s₁ [] 0 0 := Stand.of_body Bd
  have e0 : s₁.heap = h0 := by rw [← hh, Bd.state]; rfl
  have N0 := Fr.nil n0
  show own_Ends prg e below s (own_Q6_1_0 Z a p h0 n0) own_room6_1_0.cells own_room6_1_0.slots s₁ (entryFrame m #[(.ref a), (.int p)] 3)
  refine own_cast (own_ef_rm6_1_0 m a p) ?_
  have K0 := Keep.refl h0 ([a] : List Addr)
  refine own_aloadN (pc' := 1) X0 hx (hb hby own_d6_0) rfl rfl rfl ?_
  obtain ⟨T31, X31, e31, st31⟩ := getF X0 hx hZ hown (host := "") (Or.inl (own_w21 hw)) Via.refl e0 FS (g := (mkF m 1 #[.val (.ref a), .val (.int p), .unset] [(.ref a)])) rfl rfl (hb hby own_d6_1)
  refine own_go st31 ?_
  show own_Ends prg e below s _ _ _ T31 (mkF m 4 #[.val (.ref a), .val (.int p), .unset] [.null])
  refine own_ifnonnullNo (pc' := 7) X31 hx (hb hby own_d6_4) rfl ?_
  refine own_aloadN (pc' := 8) X31 hx (hb hby own_d6_7) rfl rfl rfl ?_
  refine own_iconst (pc' := 9) (z := (2 : Int32)) X31 hx (hb hby own_d6_8) rfl rfl ?_
  refine own_aloadN (pc' := 10) X31 hx (hb hby own_d6_9) rfl rfl rfl ?_
  obtain ⟨T32, X32, e32, st32⟩ := getF X31 hx hZ hown (host := "") (Or.inl (own_w14 hw)) Via.refl e31 FD (g := (mkF m 10 #[.val (.ref a), .val (.int p), .unset] [(.ref a), (.int (2 : Int32)), (.ref a)])) rfl rfl (hb hby own_d6_10)
  refine own_go st32 ?_
  show own_Ends prg e below s _ _ _ T32 (mkF m 13 #[.val (.ref a), .val (.int p), .unset] [(.int (1 : Int32)), (.int (2 : Int32)), (.ref a)])
  refine own_imul (pc' := 14) (z := (2 : Int32)) X32 hx (hb hby own_d6_13) rfl (by decide) ?_
  refine own_iconst (pc' := 15) (z := (1 : Int32)) X32 hx (hb hby own_d6_14) rfl rfl ?_
  refine own_isub (pc' := 16) (z := (1 : Int32)) X32 hx (hb hby own_d6_15) rfl (by decide) ?_
  refine own_callS (pc' := 19) (y := (⟨"java/lang/Integer", "highestOneBit", "(I)I"⟩ : MethodName)) (W := 1) (rm := own_room7_1) (argsL := [(.int (1 : Int32))]) (rest := [(.ref a)]) X32 hx hZ e32 hown (by rw [hml]; rfl) (own_w33 hw) (own_w34 hw) (own_w35 hw) (own_w36 hw) (by decide) (own_rm7_1 lch Z a0 hw [] h0 n0) (by decide) (by decide) (by decide) (by decide) (lenOf own_pd0 rfl) rfl (by exact Nat.le_of_eq rfl) (hb hby own_d6_16) rfl ?_
  intro T33 Lc33 v33 X33 hQ33
  obtain ⟨rfl, Nq33, Kq33⟩ := hQ33
  have N33 := Fr.app N0 Nq33
  show own_Ends prg e below s _ _ _ T33 (mkF m 19 #[.val (.ref a), .val (.int p), .unset] [(.int (1 : Int32)), (.ref a)])
  refine own_iconst (pc' := 20) (z := (1 : Int32)) X33 hx (hb hby own_d6_19) rfl rfl ?_
  refine own_ishl (pc' := 21) (z := (2 : Int32)) X33 hx (hb hby own_d6_20) rfl (by decide) ?_
  refine own_newarr (pc' := 23) (aty := .long) X33 hx hZ (own_w42 hw) Kq33 (hb hby own_d6_21) rfl (by decide) 2 2 (by decide) (by decide) (by decide) (by decide) ?_
  intro T34 h34 a34 k34 X34 e34 E34 g34 V34
  replace V34 : Arv Z h34 a34 k34 .long (2 : Int32) [(.long (0 : Int64)), (.long (0 : Int64))] (.long (0 : Int64)) := V34
  have ge35 : n0 ≤ a34 := by rw [g34]; exact Z0
  have sz36 : h0.size ≤ a34 := by rw [g34]; exact K0.1
  have ne37 : a ≠ a34 := Nat.ne_of_lt (by rw [g34]; exact E0.lt)
  show own_Ends prg e below s _ _ _ T34 (mkF m 23 #[.val (.ref a), .val (.int p), .unset] [(.ref a34), (.ref a)])
  have f38 := (FS.ext E34)
  have f39 := (E0.ext E34)
  obtain ⟨T40, h40, X40, e40, W40, st40⟩ := putF X34 hx hZ hown (host := "") (Or.inl (own_w21 hw)) Via.refl e34 f38 f39 (Or.inl (own_w22 hw)) (own_w1 hw) (ty := (.array .long)) (by decide) rfl rfl (g := (mkF m 23 #[.val (.ref a), .val (.int p), .unset] [(.ref a34), (.ref a)])) rfl rfl (hb hby own_d6_23)
  refine own_go st40 ?_
  have Fw40 := f38.same W40
  have N40 := Fr.snoc X40 N33 ga
  show own_Ends prg e below s _ _ _ T40 (mkF m 26 #[.val (.ref a), .val (.int p), .unset] [])
  have f41 := (V34.other W40 (Ne.symm ne37))
  have V42 : Arv Z h40 a34 k34 .long (2 : Int32) (own_LJ (List.replicate 2 (0 : Int64))) (.long (0 : Int64)) := f41
  refine own_iloadN (pc' := 27) X40 hx (hb hby own_d6_26) rfl rfl ?_
  refine own_callS (pc' := 30) (y := (⟨"com/example/larder/larder/cache/UseCounts", "spread", "(I)I"⟩ : MethodName)) (W := 0) (rm := own_room5) (argsL := [(.int p)]) (rest := []) X40 hx hZ e40 hown (by rw [hml]; rfl) (own_w43 hw) (own_w24 hw) (own_w25 hw) (own_w26 hw) (by decide) (own_rm5 lch Z a0 hw [] p h40 n0) (by decide) (by decide) (by decide) (by decide) (lenOf own_pd0 rfl) rfl (by exact Nat.le_of_eq rfl) (hb hby own_d6_27) rfl ?_
  intro T43 Lc43 v43 X43 hQ43
  obtain ⟨rfl, Nq43, Kq43⟩ := hQ43
  have N43 := Fr.app N40 Nq43
  show own_Ends prg e below s _ _ _ T43 (mkF m 30 #[.val (.ref a), .val (.int p), .unset] [(.int (own_spread p))])
  refine own_istoreN (pc' := 31) (l' := #[.val (.ref a), .val (.int p), .val (.int (own_spread p))]) X43 hx (hb hby own_d6_30) rfl rfl ?_
  refine own_aloadN (pc' := 32) X43 hx (hb hby own_d6_31) rfl rfl rfl ?_
  refine own_dup (pc' := 33) X43 hx (hb hby own_d6_32) rfl rfl ?_
  have f44 := ((FR.ext E34).other W40 (Or.inr (slot_ne (Or.inl (own_w45 hw)) (Or.inl (own_w22 hw)) (by decide) (t := .int) (t' := (.array .long)) (by decide) (by decide))))
  obtain ⟨T45, X45, e45, st45⟩ := getF X43 hx hZ hown (host := "") (Or.inl (own_w44 hw)) Via.refl Kq43 f44 (g := (mkF m 33 #[.val (.ref a), .val (.int p), .val (.int (own_spread p))] [(.ref a), (.ref a)])) rfl rfl (hb hby own_d6_33)
  refine own_go st45 ?_
  show own_Ends prg e below s _ _ _ T45 (mkF m 36 #[.val (.ref a), .val (.int p), .val (.int (own_spread p))] [(.int (0 : Int32)), (.ref a)])
  refine own_iconst (pc' := 37) (z := (1 : Int32)) X45 hx (hb hby own_d6_36) rfl rfl ?_
  refine own_iadd (pc' := 38) (z := (1 : Int32)) X45 hx (hb hby own_d6_37) rfl (by decide) ?_
  have f46 := (f39.wr W40)
  obtain ⟨T47, h47, X47, e47, W47, st47⟩ := putF X45 hx hZ hown (host := "") (Or.inl (own_w44 hw)) Via.refl e45 f44 f46 (Or.inl (own_w45 hw)) (own_w1 hw) (ty := .int) (by decide) rfl rfl (g := (mkF m 38 #[.val (.ref a), .val (.int p), .val (.int (own_spread p))] [(.int (1 : Int32)), (.ref a)])) rfl rfl (hb hby own_d6_38)
  refine own_go st47 ?_
  have Fw47 := f44.same W47
  have N47 := Fr.snoc X47 N43 ga
  show own_Ends prg e below s _ _ _ T47 (mkF m 41 #[.val (.ref a), .val (.int p), .val (.int (own_spread p))] [])
  refine own_aloadN (pc' := 42) X47 hx (hb hby own_d6_41) rfl rfl rfl ?_
  have f48 := (Fw40.other W47 (Or.inr (slot_ne (Or.inl (own_w22 hw)) (Or.inl (own_w45 hw)) (by decide) (t := (.array .long)) (t' := .int) (by decide) (by decide))))
  obtain ⟨T49, X49, e49, st49⟩ := getF X47 hx hZ hown (host := "") (Or.inl (own_w21 hw)) Via.refl e47 f48 (g := (mkF m 42 #[.val (.ref a), .val (.int p), .val (.int (own_spread p))] [(.ref a)])) rfl rfl (hb hby own_d6_42)
  refine own_go st49 ?_
  show own_Ends prg e below s _ _ _ T49 (mkF m 45 #[.val (.ref a), .val (.int p), .val (.int (own_spread p))] [(.ref a34)])
  refine own_iloadN (pc' := 46) X49 hx (hb hby own_d6_45) rfl rfl ?_
  refine own_aloadN (pc' := 47) X49 hx (hb hby own_d6_46) rfl rfl rfl ?_
  obtain ⟨T50, X50, e50, st50⟩ := getF X49 hx hZ hown (host := "") (Or.inl (own_w21 hw)) Via.refl e49 f48 (g := (mkF m 47 #[.val (.ref a), .val (.int p), .val (.int (own_spread p))] [(.ref a), (.int (own_spread p)), (.ref a34)])) rfl rfl (hb hby own_d6_47)
  refine own_go st50 ?_
  show own_Ends prg e below s _ _ _ T50 (mkF m 50 #[.val (.ref a), .val (.int p), .val (.int (own_spread p))] [(.ref a34), (.int (own_spread p)), (.ref a34)])
  have f51 := (V42.other W47 (Ne.symm ne37))
  refine own_alen (pc' := 51) X50 hx hZ e50 f51 (hb hby own_d6_50) rfl ?_
  refine own_iconst (pc' := 52) (z := (1 : Int32)) X50 hx (hb hby own_d6_51) rfl rfl ?_
  refine own_isub (pc' := 53) (z := (1 : Int32)) X50 hx (hb hby own_d6_52) rfl (by decide) ?_
  refine own_iand (pc' := 54) (z := ((own_spread p) &&& (1 : Int32))) X50 hx (hb hby own_d6_53) rfl rfl ?_
  refine own_iloadN (pc' := 55) X50 hx (hb hby own_d6_54) rfl rfl ?_
  refine own_i2l (pc' := 56) (z := (own_spread p).toInt64) X50 hx (hb hby own_d6_55) rfl rfl ?_
  refine own_bipush (pc' := 58) (z := (32 : Int32)) X50 hx (hb hby own_d6_56) rfl rfl ?_
  refine own_lshl (pc' := 59) (z := ((own_spread p).toInt64 <<< ((32 : Int32) &&& 0x3f).toInt64)) X50 hx (hb hby own_d6_58) rfl rfl ?_
  refine own_aloadN (pc' := 60) X50 hx (hb hby own_d6_59) rfl rfl rfl ?_
  obtain ⟨T52, X52, e52, st52⟩ := getF X50 hx hZ hown (host := "") (Or.inl (own_w44 hw)) Via.refl e50 Fw47 (g := (mkF m 60 #[.val (.ref a), .val (.int p), .val (.int (own_spread p))] [(.ref a), (.long ((own_spread p).toInt64 <<< ((32 : Int32) &&& 0x3f).toInt64)), (.int ((own_spread p) &&& (1 : Int32))), (.ref a34)])) rfl rfl (hb hby own_d6_60)
  refine own_go st52 ?_
  show own_Ends prg e below s _ _ _ T52 (mkF m 63 #[.val (.ref a), .val (.int p), .val (.int (own_spread p))] [(.int (1 : Int32)), (.long ((own_spread p).toInt64 <<< ((32 : Int32) &&& 0x3f).toInt64)), (.int ((own_spread p) &&& (1 : Int32))), (.ref a34)])
  refine own_i2l (pc' := 64) (z := (1 : Int64)) X52 hx (hb hby own_d6_63) rfl (by decide) ?_
  refine own_ldc2J (pc' := 67) X52 hx hZ hown (own_w46 hw) (hb hby own_d6_64) rfl ?_
  refine own_land (pc' := 68) (z := (1 : Int64)) X52 hx (hb hby own_d6_67) rfl (by decide) ?_
  refine own_lor (pc' := 69) (z := (((own_spread p).toInt64 <<< ((32 : Int32) &&& 0x3f).toInt64) ||| (1 : Int64))) X52 hx (hb hby own_d6_68) rfl rfl ?_
  refine own_lastore (pc' := 70) X52 hx hZ e52 f51 (hb hby own_d6_69) rfl (own_inm (Or.inl ⟨rfl, rfl⟩) rfl _) (own_ixm (1 : Int32) (own_spread p)) rfl (by rw [own_LJlen]; rw [List.length_replicate]; exact own_ixlt (Or.inl ⟨rfl, rfl⟩) _) N47 ge35 ?_
  intro T53 h53 L53 X53 e53 N53 W53 V53
  rw [own_LJset] at V53
  show own_Ends prg e below s _ _ _ T53 (mkF m 70 #[.val (.ref a), .val (.int p), .val (.int (own_spread p))] [])
  refine own_retV X53 hx hlk hret (hb hby own_d6_70) (by decide) (by decide) ?_
  have f54 := ((((K0.ext E34).wr W40 (Or.inl (List.mem_of_getElem? (i := 0) rfl))).wr W47 (Or.inl (List.mem_of_getElem? (i := 0) rfl))).wr W53 (Or.inr sz36))
  have f55 := ((((FD.ext E34).other W40 (Or.inr (slot_ne (Or.inr (own_w15 hw)) (Or.inl (own_w22 hw)) (by decide) (t := .int) (t' := (.array .long)) (by decide) (by decide)))).other W47 (Or.inr (slot_ne (Or.inr (own_w15 hw)) (Or.inl (own_w45 hw)) (by decide) (t := .int) (t' := .int) (by decide) (by decide)))).other W53 (Or.inl ne37))
  have f56 := (f48.other W53 (Or.inl ne37))
  have f57 := (Fw47.other W53 (Or.inl ne37))
  rw [e53]; exact ⟨_, _, rfl, N53, f54, sz36, f55, f56, f57, V53⟩
def own_room6_1_1 : Room := { frames := 1, cells := 0, slots := 0, locals := 13 }
def own_Q6_1_1 (Z : State) (a : Addr) (p : Int32) (b : Addr) (bk : ClassId) (l : List Int64) (h0 : Heap) (n0 : Nat) (v : Option Value) (h : Heap) (L : List Loc) : Prop := v = none ∧ Fr n0 L ∧ Keep h0 h [a, b] ∧ Fld Z h a "com/example/larder/larder/cache/EvictedKeys" "depth" "I" (.int (1 : Int32)) ∧ Fld Z h a "com/example/larder/larder/cache/EvictedKeys" "slots" "[J" (.ref b) ∧ Fld Z h a "com/example/larder/larder/cache/EvictedKeys" "remembered" "I" (.int (2 : Int32)) ∧ Arv Z h b bk .long (2 : Int32) (own_LJ (l.set (own_ixm (1 : Int32) (own_spread p)) (own_pack (own_spread p) (2 : Int64)))) (.long (0 : Int64))
theorem own_ef_rm6_1_1 (m : MethodId) (x0 : Addr) (x1 : Int32) : entryFrame m #[(.ref x0), (.int x1)] 3 = mkF m 0 #[.val (.ref x0), .val (.int x1), .unset] [] := by first | (simp [entryFrame, mkF, argsToLocals, Value.category]; done) | rfl
set_option maxRecDepth 65536 in
set_option maxHeartbeats 40000000 in
theorem own_rm6_1_1 (lch : Launch) (Z : State) (a0 : Array Value) (hw : ∀ d ∈ tables_1, d.before a0 Z = true) (ws : List Jvm.Cond) (a : Addr) (p : Int32) (b : Addr) (bk : ClassId) (l : List Int64) (h0 : Heap) (n0 : Nat) (E0 : Exa Z h0 a "com/example/larder/larder/cache/EvictedKeys") (FD : Fld Z h0 a "com/example/larder/larder/cache/EvictedKeys" "depth" "I" (.int (1 : Int32))) (FS : Fld Z h0 a "com/example/larder/larder/cache/EvictedKeys" "slots" "[J" (.ref b)) (FR : Fld Z h0 a "com/example/larder/larder/cache/EvictedKeys" "remembered" "I" (.int (1 : Int32))) (ga : n0 ≤ a) (VB : Arv Z h0 b bk .long (2 : Int32) (own_LJ l) (.long (0 : Int64))) (hl : l.length = 2) (gb : n0 ≤ b) (hne : a ≠ b) :
    MetFree lch (⟨"com/example/larder/larder/cache/EvictedKeys", "remember", "(I)V"⟩ : MethodName) (head1 (Jvm.Cond.code (⟨"com/example/larder/larder/cache/EvictedKeys", "remember", "(I)V"⟩ : MethodName) prog_5_method_2_code 3 none :: ws) own_room6_1_1) (fun zz U => zz = #[(.ref a), (.int p)] ∧ Z.Warmed39 U.vm ∧ U.heap = h0) (fun _ _ _ _ _ => True) (fun _ U o U' => ∃ v L, o = .returned v ∧ own_Q6_1_1 Z a p b bk l h0 n0 v U'.heap L ∧ FrameEnd U o U' L own_room6_1_1.cells own_room6_1_1.slots) := by
  refine MetFree.of_bodySF (plainFor_of_name own_pn2) hisR ?_
  intro prg e s m args below meth c s₁ Bd hml0 hP hK
  obtain ⟨rfl, hZ, hh⟩ := hP
  have hx := Bd.exec
  have hby := Bd.bytes
  have hml : c.maxLocals = 3 := hml0
  have hown : s.vm.findClass "com/example/larder/larder/cache/EvictedKeys" = some m.cls := findClass_of_methodNamed Bd.named
  have hnm := (name_of_methodNamed Bd.named Bd.method).1
  have hlk : meth.locks = false := BodyLoose.notSynchronized Bd
  have hret := Bd.returns
  have X0 : Stand prg lch e own_room6_1_1 s m #[(.ref a), (.int p)] below meth c s₁ [] 0 0 := Stand.of_body Bd
  have e0 : s₁.heap = h0 := by rw [← hh, Bd.state]; rfl
  have N0 := Fr.nil n0
  show own_Ends prg e below s (own_Q6_1_1 Z a p b bk l h0 n0) own_room6_1_1.cells own_room6_1_1.slots s₁ (entryFrame m #[(.ref a), (.int p)] 3)
  refine own_cast (own_ef_rm6_1_1 m a p) ?_
  have K0 := Keep.refl h0 ([a, b] : List Addr)
  refine own_aloadN (pc' := 1) X0 hx (hb hby own_d6_0) rfl rfl rfl ?_
  obtain ⟨T31, X31, e31, st31⟩ := getF X0 hx hZ hown (host := "") (Or.inl (own_w21 hw)) Via.refl e0 FS (g := (mkF m 1 #[.val (.ref a), .val (.int p), .unset] [(.ref a)])) rfl rfl (hb hby own_d6_1)
  refine own_go st31 ?_
  show own_Ends prg e below s _ _ _ T31 (mkF m 4 #[.val (.ref a), .val (.int p), .unset] [(.ref b)])
  refine own_ifnonnullYes (pc' := 26) X31 hx (hb hby own_d6_4) (by decide) (by decide) ?_
  refine own_iloadN (pc' := 27) X31 hx (hb hby own_d6_26) rfl rfl ?_
  refine own_callS (pc' := 30) (y := (⟨"com/example/larder/larder/cache/UseCounts", "spread", "(I)I"⟩ : MethodName)) (W := 0) (rm := own_room5) (argsL := [(.int p)]) (rest := []) X31 hx hZ e31 hown (by rw [hml]; rfl) (own_w43 hw) (own_w24 hw) (own_w25 hw) (own_w26 hw) (by decide) (own_rm5 lch Z a0 hw [] p h0 n0) (by decide) (by decide) (by decide) (by decide) (lenOf own_pd0 rfl) rfl (by exact Nat.le_of_eq rfl) (hb hby own_d6_27) rfl ?_
  intro T32 Lc32 v32 X32 hQ32
  obtain ⟨rfl, Nq32, Kq32⟩ := hQ32
  have N32 := Fr.app N0 Nq32
  show own_Ends prg e below s _ _ _ T32 (mkF m 30 #[.val (.ref a), .val (.int p), .unset] [(.int (own_spread p))])
  refine own_istoreN (pc' := 31) (l' := #[.val (.ref a), .val (.int p), .val (.int (own_spread p))]) X32 hx (hb hby own_d6_30) rfl rfl ?_
  refine own_aloadN (pc' := 32) X32 hx (hb hby own_d6_31) rfl rfl rfl ?_
  refine own_dup (pc' := 33) X32 hx (hb hby own_d6_32) rfl rfl ?_
  obtain ⟨T33, X33, e33, st33⟩ := getF X32 hx hZ hown (host := "") (Or.inl (own_w44 hw)) Via.refl Kq32 FR (g := (mkF m 33 #[.val (.ref a), .val (.int p), .val (.int (own_spread p))] [(.ref a), (.ref a)])) rfl rfl (hb hby own_d6_33)
  refine own_go st33 ?_
  show own_Ends prg e below s _ _ _ T33 (mkF m 36 #[.val (.ref a), .val (.int p), .val (.int (own_spread p))] [(.int (1 : Int32)), (.ref a)])
  refine own_iconst (pc' := 37) (z := (1 : Int32)) X33 hx (hb hby own_d6_36) rfl rfl ?_
  refine own_iadd (pc' := 38) (z := (2 : Int32)) X33 hx (hb hby own_d6_37) rfl (by decide) ?_
  obtain ⟨T34, h34, X34, e34, W34, st34⟩ := putF X33 hx hZ hown (host := "") (Or.inl (own_w44 hw)) Via.refl e33 FR E0 (Or.inl (own_w45 hw)) (own_w1 hw) (ty := .int) (by decide) rfl rfl (g := (mkF m 38 #[.val (.ref a), .val (.int p), .val (.int (own_spread p))] [(.int (2 : Int32)), (.ref a)])) rfl rfl (hb hby own_d6_38)
  refine own_go st34 ?_
  have Fw34 := FR.same W34
  have N34 := Fr.snoc X34 N32 ga
  show own_Ends prg e below s _ _ _ T34 (mkF m 41 #[.val (.ref a), .val (.int p), .val (.int (own_spread p))] [])
  refine own_aloadN (pc' := 42) X34 hx (hb hby own_d6_41) rfl rfl rfl ?_
  have f35 := (FS.other W34 (Or.inr (slot_ne (Or.inl (own_w22 hw)) (Or.inl (own_w45 hw)) (by decide) (t := (.array .long)) (t' := .int) (by decide) (by decide))))
  obtain ⟨T36, X36, e36, st36⟩ := getF X34 hx hZ hown (host := "") (Or.inl (own_w21 hw)) Via.refl e34 f35 (g := (mkF m 42 #[.val (.ref a), .val (.int p), .val (.int (own_spread p))] [(.ref a)])) rfl rfl (hb hby own_d6_42)
  refine own_go st36 ?_
  show own_Ends prg e below s _ _ _ T36 (mkF m 45 #[.val (.ref a), .val (.int p), .val (.int (own_spread p))] [(.ref b)])
  refine own_iloadN (pc' := 46) X36 hx (hb hby own_d6_45) rfl rfl ?_
  refine own_aloadN (pc' := 47) X36 hx (hb hby own_d6_46) rfl rfl rfl ?_
  obtain ⟨T37, X37, e37, st37⟩ := getF X36 hx hZ hown (host := "") (Or.inl (own_w21 hw)) Via.refl e36 f35 (g := (mkF m 47 #[.val (.ref a), .val (.int p), .val (.int (own_spread p))] [(.ref a), (.int (own_spread p)), (.ref b)])) rfl rfl (hb hby own_d6_47)
  refine own_go st37 ?_
  show own_Ends prg e below s _ _ _ T37 (mkF m 50 #[.val (.ref a), .val (.int p), .val (.int (own_spread p))] [(.ref b), (.int (own_spread p)), (.ref b)])
  have f38 := (VB.other W34 (Ne.symm hne))
  refine own_alen (pc' := 51) X37 hx hZ e37 f38 (hb hby own_d6_50) rfl ?_
  refine own_iconst (pc' := 52) (z := (1 : Int32)) X37 hx (hb hby own_d6_51) rfl rfl ?_
  refine own_isub (pc' := 53) (z := (1 : Int32)) X37 hx (hb hby own_d6_52) rfl (by decide) ?_
  refine own_iand (pc' := 54) (z := ((own_spread p) &&& (1 : Int32))) X37 hx (hb hby own_d6_53) rfl rfl ?_
  refine own_iloadN (pc' := 55) X37 hx (hb hby own_d6_54) rfl rfl ?_
  refine own_i2l (pc' := 56) (z := (own_spread p).toInt64) X37 hx (hb hby own_d6_55) rfl rfl ?_
  refine own_bipush (pc' := 58) (z := (32 : Int32)) X37 hx (hb hby own_d6_56) rfl rfl ?_
  refine own_lshl (pc' := 59) (z := ((own_spread p).toInt64 <<< ((32 : Int32) &&& 0x3f).toInt64)) X37 hx (hb hby own_d6_58) rfl rfl ?_
  refine own_aloadN (pc' := 60) X37 hx (hb hby own_d6_59) rfl rfl rfl ?_
  obtain ⟨T39, X39, e39, st39⟩ := getF X37 hx hZ hown (host := "") (Or.inl (own_w44 hw)) Via.refl e37 Fw34 (g := (mkF m 60 #[.val (.ref a), .val (.int p), .val (.int (own_spread p))] [(.ref a), (.long ((own_spread p).toInt64 <<< ((32 : Int32) &&& 0x3f).toInt64)), (.int ((own_spread p) &&& (1 : Int32))), (.ref b)])) rfl rfl (hb hby own_d6_60)
  refine own_go st39 ?_
  show own_Ends prg e below s _ _ _ T39 (mkF m 63 #[.val (.ref a), .val (.int p), .val (.int (own_spread p))] [(.int (2 : Int32)), (.long ((own_spread p).toInt64 <<< ((32 : Int32) &&& 0x3f).toInt64)), (.int ((own_spread p) &&& (1 : Int32))), (.ref b)])
  refine own_i2l (pc' := 64) (z := (2 : Int64)) X39 hx (hb hby own_d6_63) rfl (by decide) ?_
  refine own_ldc2J (pc' := 67) X39 hx hZ hown (own_w46 hw) (hb hby own_d6_64) rfl ?_
  refine own_land (pc' := 68) (z := (2 : Int64)) X39 hx (hb hby own_d6_67) rfl (by decide) ?_
  refine own_lor (pc' := 69) (z := (((own_spread p).toInt64 <<< ((32 : Int32) &&& 0x3f).toInt64) ||| (2 : Int64))) X39 hx (hb hby own_d6_68) rfl rfl ?_
  refine own_lastore (pc' := 70) X39 hx hZ e39 f38 (hb hby own_d6_69) rfl (own_inm (Or.inl ⟨rfl, rfl⟩) rfl _) (own_ixm (1 : Int32) (own_spread p)) rfl (by rw [own_LJlen]; rw [hl]; exact own_ixlt (Or.inl ⟨rfl, rfl⟩) _) N34 gb ?_
  intro T40 h40 L40 X40 e40 N40 W40 V40
  rw [own_LJset] at V40
  show own_Ends prg e below s _ _ _ T40 (mkF m 70 #[.val (.ref a), .val (.int p), .val (.int (own_spread p))] [])
  refine own_retV X40 hx hlk hret (hb hby own_d6_70) (by decide) (by decide) ?_
  have f41 := ((K0.wr W34 (Or.inl (List.mem_of_getElem? (i := 0) rfl))).wr W40 (Or.inl (List.mem_of_getElem? (i := 1) rfl)))
  have f42 := ((FD.other W34 (Or.inr (slot_ne (Or.inr (own_w15 hw)) (Or.inl (own_w45 hw)) (by decide) (t := .int) (t' := .int) (by decide) (by decide)))).other W40 (Or.inl hne))
  have f43 := (f35.other W40 (Or.inl hne))
  have f44 := (Fw34.other W40 (Or.inl hne))
  rw [e40]; exact ⟨rfl, N40, f41, f42, f43, f44, V40⟩
def own_room6_1_2 : Room := { frames := 1, cells := 0, slots := 0, locals := 13 }
def own_Q6_1_2 (Z : State) (a : Addr) (p : Int32) (b : Addr) (bk : ClassId) (l : List Int64) (h0 : Heap) (n0 : Nat) (v : Option Value) (h : Heap) (L : List Loc) : Prop := v = none ∧ Fr n0 L ∧ Keep h0 h [a, b] ∧ Fld Z h a "com/example/larder/larder/cache/EvictedKeys" "depth" "I" (.int (1 : Int32)) ∧ Fld Z h a "com/example/larder/larder/cache/EvictedKeys" "slots" "[J" (.ref b) ∧ Fld Z h a "com/example/larder/larder/cache/EvictedKeys" "remembered" "I" (.int (3 : Int32)) ∧ Arv Z h b bk .long (2 : Int32) (own_LJ (l.set (own_ixm (1 : Int32) (own_spread p)) (own_pack (own_spread p) (3 : Int64)))) (.long (0 : Int64))
theorem own_ef_rm6_1_2 (m : MethodId) (x0 : Addr) (x1 : Int32) : entryFrame m #[(.ref x0), (.int x1)] 3 = mkF m 0 #[.val (.ref x0), .val (.int x1), .unset] [] := by first | (simp [entryFrame, mkF, argsToLocals, Value.category]; done) | rfl
set_option maxRecDepth 65536 in
set_option maxHeartbeats 40000000 in
theorem own_rm6_1_2 (lch : Launch) (Z : State) (a0 : Array Value) (hw : ∀ d ∈ tables_1, d.before a0 Z = true) (ws : List Jvm.Cond) (a : Addr) (p : Int32) (b : Addr) (bk : ClassId) (l : List Int64) (h0 : Heap) (n0 : Nat) (E0 : Exa Z h0 a "com/example/larder/larder/cache/EvictedKeys") (FD : Fld Z h0 a "com/example/larder/larder/cache/EvictedKeys" "depth" "I" (.int (1 : Int32))) (FS : Fld Z h0 a "com/example/larder/larder/cache/EvictedKeys" "slots" "[J" (.ref b)) (FR : Fld Z h0 a "com/example/larder/larder/cache/EvictedKeys" "remembered" "I" (.int (2 : Int32))) (ga : n0 ≤ a) (VB : Arv Z h0 b bk .long (2 : Int32) (own_LJ l) (.long (0 : Int64))) (hl : l.length = 2) (gb : n0 ≤ b) (hne : a ≠ b) :
    MetFree lch (⟨"com/example/larder/larder/cache/EvictedKeys", "remember", "(I)V"⟩ : MethodName) (head1 (Jvm.Cond.code (⟨"com/example/larder/larder/cache/EvictedKeys", "remember", "(I)V"⟩ : MethodName) prog_5_method_2_code 3 none :: ws) own_room6_1_2) (fun zz U => zz = #[(.ref a), (.int p)] ∧ Z.Warmed39 U.vm ∧ U.heap = h0) (fun _ _ _ _ _ => True) (fun _ U o U' => ∃ v L, o = .returned v ∧ own_Q6_1_2 Z a p b bk l h0 n0 v U'.heap L ∧ FrameEnd U o U' L own_room6_1_2.cells own_room6_1_2.slots) := by
  refine MetFree.of_bodySF (plainFor_of_name own_pn2) hisR ?_
  intro prg e s m args below meth c s₁ Bd hml0 hP hK
  obtain ⟨rfl, hZ, hh⟩ := hP
  have hx := Bd.exec
  have hby := Bd.bytes
  have hml : c.maxLocals = 3 := hml0
  have hown : s.vm.findClass "com/example/larder/larder/cache/EvictedKeys" = some m.cls := findClass_of_methodNamed Bd.named
  have hnm := (name_of_methodNamed Bd.named Bd.method).1
  have hlk : meth.locks = false := BodyLoose.notSynchronized Bd
  have hret := Bd.returns
  have X0 : Stand prg lch e own_room6_1_2 s m #[(.ref a), (.int p)] below meth c s₁ [] 0 0 := Stand.of_body Bd
  have e0 : s₁.heap = h0 := by rw [← hh, Bd.state]; rfl
  have N0 := Fr.nil n0
  show own_Ends prg e below s (own_Q6_1_2 Z a p b bk l h0 n0) own_room6_1_2.cells own_room6_1_2.slots s₁ (entryFrame m #[(.ref a), (.int p)] 3)
  refine own_cast (own_ef_rm6_1_2 m a p) ?_
  have K0 := Keep.refl h0 ([a, b] : List Addr)
  refine own_aloadN (pc' := 1) X0 hx (hb hby own_d6_0) rfl rfl rfl ?_
  obtain ⟨T31, X31, e31, st31⟩ := getF X0 hx hZ hown (host := "") (Or.inl (own_w21 hw)) Via.refl e0 FS (g := (mkF m 1 #[.val (.ref a), .val (.int p), .unset] [(.ref a)])) rfl rfl (hb hby own_d6_1)
  refine own_go st31 ?_
  show own_Ends prg e below s _ _ _ T31 (mkF m 4 #[.val (.ref a), .val (.int p), .unset] [(.ref b)])
  refine own_ifnonnullYes (pc' := 26) X31 hx (hb hby own_d6_4) (by decide) (by decide) ?_
  refine own_iloadN (pc' := 27) X31 hx (hb hby own_d6_26) rfl rfl ?_
  refine own_callS (pc' := 30) (y := (⟨"com/example/larder/larder/cache/UseCounts", "spread", "(I)I"⟩ : MethodName)) (W := 0) (rm := own_room5) (argsL := [(.int p)]) (rest := []) X31 hx hZ e31 hown (by rw [hml]; rfl) (own_w43 hw) (own_w24 hw) (own_w25 hw) (own_w26 hw) (by decide) (own_rm5 lch Z a0 hw [] p h0 n0) (by decide) (by decide) (by decide) (by decide) (lenOf own_pd0 rfl) rfl (by exact Nat.le_of_eq rfl) (hb hby own_d6_27) rfl ?_
  intro T32 Lc32 v32 X32 hQ32
  obtain ⟨rfl, Nq32, Kq32⟩ := hQ32
  have N32 := Fr.app N0 Nq32
  show own_Ends prg e below s _ _ _ T32 (mkF m 30 #[.val (.ref a), .val (.int p), .unset] [(.int (own_spread p))])
  refine own_istoreN (pc' := 31) (l' := #[.val (.ref a), .val (.int p), .val (.int (own_spread p))]) X32 hx (hb hby own_d6_30) rfl rfl ?_
  refine own_aloadN (pc' := 32) X32 hx (hb hby own_d6_31) rfl rfl rfl ?_
  refine own_dup (pc' := 33) X32 hx (hb hby own_d6_32) rfl rfl ?_
  obtain ⟨T33, X33, e33, st33⟩ := getF X32 hx hZ hown (host := "") (Or.inl (own_w44 hw)) Via.refl Kq32 FR (g := (mkF m 33 #[.val (.ref a), .val (.int p), .val (.int (own_spread p))] [(.ref a), (.ref a)])) rfl rfl (hb hby own_d6_33)
  refine own_go st33 ?_
  show own_Ends prg e below s _ _ _ T33 (mkF m 36 #[.val (.ref a), .val (.int p), .val (.int (own_spread p))] [(.int (2 : Int32)), (.ref a)])
  refine own_iconst (pc' := 37) (z := (1 : Int32)) X33 hx (hb hby own_d6_36) rfl rfl ?_
  refine own_iadd (pc' := 38) (z := (3 : Int32)) X33 hx (hb hby own_d6_37) rfl (by decide) ?_
  obtain ⟨T34, h34, X34, e34, W34, st34⟩ := putF X33 hx hZ hown (host := "") (Or.inl (own_w44 hw)) Via.refl e33 FR E0 (Or.inl (own_w45 hw)) (own_w1 hw) (ty := .int) (by decide) rfl rfl (g := (mkF m 38 #[.val (.ref a), .val (.int p), .val (.int (own_spread p))] [(.int (3 : Int32)), (.ref a)])) rfl rfl (hb hby own_d6_38)
  refine own_go st34 ?_
  have Fw34 := FR.same W34
  have N34 := Fr.snoc X34 N32 ga
  show own_Ends prg e below s _ _ _ T34 (mkF m 41 #[.val (.ref a), .val (.int p), .val (.int (own_spread p))] [])
  refine own_aloadN (pc' := 42) X34 hx (hb hby own_d6_41) rfl rfl rfl ?_
  have f35 := (FS.other W34 (Or.inr (slot_ne (Or.inl (own_w22 hw)) (Or.inl (own_w45 hw)) (by decide) (t := (.array .long)) (t' := .int) (by decide) (by decide))))
  obtain ⟨T36, X36, e36, st36⟩ := getF X34 hx hZ hown (host := "") (Or.inl (own_w21 hw)) Via.refl e34 f35 (g := (mkF m 42 #[.val (.ref a), .val (.int p), .val (.int (own_spread p))] [(.ref a)])) rfl rfl (hb hby own_d6_42)
  refine own_go st36 ?_
  show own_Ends prg e below s _ _ _ T36 (mkF m 45 #[.val (.ref a), .val (.int p), .val (.int (own_spread p))] [(.ref b)])
  refine own_iloadN (pc' := 46) X36 hx (hb hby own_d6_45) rfl rfl ?_
  refine own_aloadN (pc' := 47) X36 hx (hb hby own_d6_46) rfl rfl rfl ?_
  obtain ⟨T37, X37, e37, st37⟩ := getF X36 hx hZ hown (host := "") (Or.inl (own_w21 hw)) Via.refl e36 f35 (g := (mkF m 47 #[.val (.ref a), .val (.int p), .val (.int (own_spread p))] [(.ref a), (.int (own_spread p)), (.ref b)])) rfl rfl (hb hby own_d6_47)
  refine own_go st37 ?_
  show own_Ends prg e below s _ _ _ T37 (mkF m 50 #[.val (.ref a), .val (.int p), .val (.int (own_spread p))] [(.ref b), (.int (own_spread p)), (.ref b)])
  have f38 := (VB.other W34 (Ne.symm hne))
  refine own_alen (pc' := 51) X37 hx hZ e37 f38 (hb hby own_d6_50) rfl ?_
  refine own_iconst (pc' := 52) (z := (1 : Int32)) X37 hx (hb hby own_d6_51) rfl rfl ?_
  refine own_isub (pc' := 53) (z := (1 : Int32)) X37 hx (hb hby own_d6_52) rfl (by decide) ?_
  refine own_iand (pc' := 54) (z := ((own_spread p) &&& (1 : Int32))) X37 hx (hb hby own_d6_53) rfl rfl ?_
  refine own_iloadN (pc' := 55) X37 hx (hb hby own_d6_54) rfl rfl ?_
  refine own_i2l (pc' := 56) (z := (own_spread p).toInt64) X37 hx (hb hby own_d6_55) rfl rfl ?_
  refine own_bipush (pc' := 58) (z := (32 : Int32)) X37 hx (hb hby own_d6_56) rfl rfl ?_
  refine own_lshl (pc' := 59) (z := ((own_spread p).toInt64 <<< ((32 : Int32) &&& 0x3f).toInt64)) X37 hx (hb hby own_d6_58) rfl rfl ?_
  refine own_aloadN (pc' := 60) X37 hx (hb hby own_d6_59) rfl rfl rfl ?_
  obtain ⟨T39, X39, e39, st39⟩ := getF X37 hx hZ hown (host := "") (Or.inl (own_w44 hw)) Via.refl e37 Fw34 (g := (mkF m 60 #[.val (.ref a), .val (.int p), .val (.int (own_spread p))] [(.ref a), (.long ((own_spread p).toInt64 <<< ((32 : Int32) &&& 0x3f).toInt64)), (.int ((own_spread p) &&& (1 : Int32))), (.ref b)])) rfl rfl (hb hby own_d6_60)
  refine own_go st39 ?_
  show own_Ends prg e below s _ _ _ T39 (mkF m 63 #[.val (.ref a), .val (.int p), .val (.int (own_spread p))] [(.int (3 : Int32)), (.long ((own_spread p).toInt64 <<< ((32 : Int32) &&& 0x3f).toInt64)), (.int ((own_spread p) &&& (1 : Int32))), (.ref b)])
  refine own_i2l (pc' := 64) (z := (3 : Int64)) X39 hx (hb hby own_d6_63) rfl (by decide) ?_
  refine own_ldc2J (pc' := 67) X39 hx hZ hown (own_w46 hw) (hb hby own_d6_64) rfl ?_
  refine own_land (pc' := 68) (z := (3 : Int64)) X39 hx (hb hby own_d6_67) rfl (by decide) ?_
  refine own_lor (pc' := 69) (z := (((own_spread p).toInt64 <<< ((32 : Int32) &&& 0x3f).toInt64) ||| (3 : Int64))) X39 hx (hb hby own_d6_68) rfl rfl ?_
  refine own_lastore (pc' := 70) X39 hx hZ e39 f38 (hb hby own_d6_69) rfl (own_inm (Or.inl ⟨rfl, rfl⟩) rfl _) (own_ixm (1 : Int32) (own_spread p)) rfl (by rw [own_LJlen]; rw [hl]; exact own_ixlt (Or.inl ⟨rfl, rfl⟩) _) N34 gb ?_
  intro T40 h40 L40 X40 e40 N40 W40 V40
  rw [own_LJset] at V40
  show own_Ends prg e below s _ _ _ T40 (mkF m 70 #[.val (.ref a), .val (.int p), .val (.int (own_spread p))] [])
  refine own_retV X40 hx hlk hret (hb hby own_d6_70) (by decide) (by decide) ?_
  have f41 := ((K0.wr W34 (Or.inl (List.mem_of_getElem? (i := 0) rfl))).wr W40 (Or.inl (List.mem_of_getElem? (i := 1) rfl)))
  have f42 := ((FD.other W34 (Or.inr (slot_ne (Or.inr (own_w15 hw)) (Or.inl (own_w45 hw)) (by decide) (t := .int) (t' := .int) (by decide) (by decide)))).other W40 (Or.inl hne))
  have f43 := (f35.other W40 (Or.inl hne))
  have f44 := (Fw34.other W40 (Or.inl hne))
  rw [e40]; exact ⟨rfl, N40, f41, f42, f43, f44, V40⟩
def own_room6_2_0 : Room := { frames := 2, cells := 1, slots := 4, locals := 28 }
def own_Q6_2_0 (Z : State) (a : Addr) (p : Int32) (h0 : Heap) (n0 : Nat) (v : Option Value) (h : Heap) (L : List Loc) : Prop := ∃ (b : Addr) (bk : ClassId), v = none ∧ Fr n0 L ∧ Keep h0 h [a] ∧ h0.size ≤ b ∧ Fld Z h a "com/example/larder/larder/cache/EvictedKeys" "depth" "I" (.int (2 : Int32)) ∧ Fld Z h a "com/example/larder/larder/cache/EvictedKeys" "slots" "[J" (.ref b) ∧ Fld Z h a "com/example/larder/larder/cache/EvictedKeys" "remembered" "I" (.int (1 : Int32)) ∧ Arv Z h b bk .long (4 : Int32) (own_LJ ((List.replicate 4 (0 : Int64)).set (own_ixm (3 : Int32) (own_spread p)) (own_pack (own_spread p) (1 : Int64)))) (.long (0 : Int64))
theorem own_ef_rm6_2_0 (m : MethodId) (x0 : Addr) (x1 : Int32) : entryFrame m #[(.ref x0), (.int x1)] 3 = mkF m 0 #[.val (.ref x0), .val (.int x1), .unset] [] := by first | (simp [entryFrame, mkF, argsToLocals, Value.category]; done) | rfl
set_option maxRecDepth 65536 in
set_option maxHeartbeats 40000000 in
theorem own_rm6_2_0 (lch : Launch) (Z : State) (a0 : Array Value) (hw : ∀ d ∈ tables_1, d.before a0 Z = true) (ws : List Jvm.Cond) (a : Addr) (p : Int32) (h0 : Heap) (n0 : Nat) (Z0 : n0 ≤ h0.size) (E0 : Exa Z h0 a "com/example/larder/larder/cache/EvictedKeys") (FD : Fld Z h0 a "com/example/larder/larder/cache/EvictedKeys" "depth" "I" (.int (2 : Int32))) (FS : Fld Z h0 a "com/example/larder/larder/cache/EvictedKeys" "slots" "[J" .null) (FR : Fld Z h0 a "com/example/larder/larder/cache/EvictedKeys" "remembered" "I" (.int (0 : Int32))) (ga : n0 ≤ a) :
    MetFree lch (⟨"com/example/larder/larder/cache/EvictedKeys", "remember", "(I)V"⟩ : MethodName) (head1 (Jvm.Cond.code (⟨"com/example/larder/larder/cache/EvictedKeys", "remember", "(I)V"⟩ : MethodName) prog_5_method_2_code 3 none :: ws) own_room6_2_0) (fun zz U => zz = #[(.ref a), (.int p)] ∧ Z.Warmed39 U.vm ∧ U.heap = h0) (fun _ _ _ _ _ => True) (fun _ U o U' => ∃ v L, o = .returned v ∧ own_Q6_2_0 Z a p h0 n0 v U'.heap L ∧ FrameEnd U o U' L own_room6_2_0.cells own_room6_2_0.slots) := by
  refine MetFree.of_bodySF (plainFor_of_name own_pn2) hisR ?_
  intro prg e s m args below meth c s₁ Bd hml0 hP hK
  obtain ⟨rfl, hZ, hh⟩ := hP
  have hx := Bd.exec
  have hby := Bd.bytes
  have hml : c.maxLocals = 3 := hml0
  have hown : s.vm.findClass "com/example/larder/larder/cache/EvictedKeys" = some m.cls := findClass_of_methodNamed Bd.named
  have hnm := (name_of_methodNamed Bd.named Bd.method).1
  have hlk : meth.locks = false := BodyLoose.notSynchronized Bd
  have hret := Bd.returns
  have X0 : Stand prg lch e own_room6_2_0 s m #[(.ref a), (.int p)] below meth c s₁ [] 0 0 := Stand.of_body Bd
  have e0 : s₁.heap = h0 := by rw [← hh, Bd.state]; rfl
  have N0 := Fr.nil n0
  show own_Ends prg e below s (own_Q6_2_0 Z a p h0 n0) own_room6_2_0.cells own_room6_2_0.slots s₁ (entryFrame m #[(.ref a), (.int p)] 3)
  refine own_cast (own_ef_rm6_2_0 m a p) ?_
  have K0 := Keep.refl h0 ([a] : List Addr)
  refine own_aloadN (pc' := 1) X0 hx (hb hby own_d6_0) rfl rfl rfl ?_
  obtain ⟨T31, X31, e31, st31⟩ := getF X0 hx hZ hown (host := "") (Or.inl (own_w21 hw)) Via.refl e0 FS (g := (mkF m 1 #[.val (.ref a), .val (.int p), .unset] [(.ref a)])) rfl rfl (hb hby own_d6_1)
  refine own_go st31 ?_
  show own_Ends prg e below s _ _ _ T31 (mkF m 4 #[.val (.ref a), .val (.int p), .unset] [.null])
  refine own_ifnonnullNo (pc' := 7) X31 hx (hb hby own_d6_4) rfl ?_
  refine own_aloadN (pc' := 8) X31 hx (hb hby own_d6_7) rfl rfl rfl ?_
  refine own_iconst (pc' := 9) (z := (2 : Int32)) X31 hx (hb hby own_d6_8) rfl rfl ?_
  refine own_aloadN (pc' := 10) X31 hx (hb hby own_d6_9) rfl rfl rfl ?_
  obtain ⟨T32, X32, e32, st32⟩ := getF X31 hx hZ hown (host := "") (Or.inl (own_w14 hw)) Via.refl e31 FD (g := (mkF m 10 #[.val (.ref a), .val (.int p), .unset] [(.ref a), (.int (2 : Int32)), (.ref a)])) rfl rfl (hb hby own_d6_10)
  refine own_go st32 ?_
  show own_Ends prg e below s _ _ _ T32 (mkF m 13 #[.val (.ref a), .val (.int p), .unset] [(.int (2 : Int32)), (.int (2 : Int32)), (.ref a)])
  refine own_imul (pc' := 14) (z := (4 : Int32)) X32 hx (hb hby own_d6_13) rfl (by decide) ?_
  refine own_iconst (pc' := 15) (z := (1 : Int32)) X32 hx (hb hby own_d6_14) rfl rfl ?_
  refine own_isub (pc' := 16) (z := (3 : Int32)) X32 hx (hb hby own_d6_15) rfl (by decide) ?_
  refine own_callS (pc' := 19) (y := (⟨"java/lang/Integer", "highestOneBit", "(I)I"⟩ : MethodName)) (W := 1) (rm := own_room7_3) (argsL := [(.int (3 : Int32))]) (rest := [(.ref a)]) X32 hx hZ e32 hown (by rw [hml]; rfl) (own_w33 hw) (own_w34 hw) (own_w35 hw) (own_w36 hw) (by decide) (own_rm7_3 lch Z a0 hw [] h0 n0) (by decide) (by decide) (by decide) (by decide) (lenOf own_pd0 rfl) rfl (by exact Nat.le_of_eq rfl) (hb hby own_d6_16) rfl ?_
  intro T33 Lc33 v33 X33 hQ33
  obtain ⟨rfl, Nq33, Kq33⟩ := hQ33
  have N33 := Fr.app N0 Nq33
  show own_Ends prg e below s _ _ _ T33 (mkF m 19 #[.val (.ref a), .val (.int p), .unset] [(.int (2 : Int32)), (.ref a)])
  refine own_iconst (pc' := 20) (z := (1 : Int32)) X33 hx (hb hby own_d6_19) rfl rfl ?_
  refine own_ishl (pc' := 21) (z := (4 : Int32)) X33 hx (hb hby own_d6_20) rfl (by decide) ?_
  refine own_newarr (pc' := 23) (aty := .long) X33 hx hZ (own_w42 hw) Kq33 (hb hby own_d6_21) rfl (by decide) 4 4 (by decide) (by decide) (by decide) (by decide) ?_
  intro T34 h34 a34 k34 X34 e34 E34 g34 V34
  replace V34 : Arv Z h34 a34 k34 .long (4 : Int32) [(.long (0 : Int64)), (.long (0 : Int64)), (.long (0 : Int64)), (.long (0 : Int64))] (.long (0 : Int64)) := V34
  have ge35 : n0 ≤ a34 := by rw [g34]; exact Z0
  have sz36 : h0.size ≤ a34 := by rw [g34]; exact K0.1
  have ne37 : a ≠ a34 := Nat.ne_of_lt (by rw [g34]; exact E0.lt)
  show own_Ends prg e below s _ _ _ T34 (mkF m 23 #[.val (.ref a), .val (.int p), .unset] [(.ref a34), (.ref a)])
  have f38 := (FS.ext E34)
  have f39 := (E0.ext E34)
  obtain ⟨T40, h40, X40, e40, W40, st40⟩ := putF X34 hx hZ hown (host := "") (Or.inl (own_w21 hw)) Via.refl e34 f38 f39 (Or.inl (own_w22 hw)) (own_w1 hw) (ty := (.array .long)) (by decide) rfl rfl (g := (mkF m 23 #[.val (.ref a), .val (.int p), .unset] [(.ref a34), (.ref a)])) rfl rfl (hb hby own_d6_23)
  refine own_go st40 ?_
  have Fw40 := f38.same W40
  have N40 := Fr.snoc X40 N33 ga
  show own_Ends prg e below s _ _ _ T40 (mkF m 26 #[.val (.ref a), .val (.int p), .unset] [])
  have f41 := (V34.other W40 (Ne.symm ne37))
  have V42 : Arv Z h40 a34 k34 .long (4 : Int32) (own_LJ (List.replicate 4 (0 : Int64))) (.long (0 : Int64)) := f41
  refine own_iloadN (pc' := 27) X40 hx (hb hby own_d6_26) rfl rfl ?_
  refine own_callS (pc' := 30) (y := (⟨"com/example/larder/larder/cache/UseCounts", "spread", "(I)I"⟩ : MethodName)) (W := 0) (rm := own_room5) (argsL := [(.int p)]) (rest := []) X40 hx hZ e40 hown (by rw [hml]; rfl) (own_w43 hw) (own_w24 hw) (own_w25 hw) (own_w26 hw) (by decide) (own_rm5 lch Z a0 hw [] p h40 n0) (by decide) (by decide) (by decide) (by decide) (lenOf own_pd0 rfl) rfl (by exact Nat.le_of_eq rfl) (hb hby own_d6_27) rfl ?_
  intro T43 Lc43 v43 X43 hQ43
  obtain ⟨rfl, Nq43, Kq43⟩ := hQ43
  have N43 := Fr.app N40 Nq43
  show own_Ends prg e below s _ _ _ T43 (mkF m 30 #[.val (.ref a), .val (.int p), .unset] [(.int (own_spread p))])
  refine own_istoreN (pc' := 31) (l' := #[.val (.ref a), .val (.int p), .val (.int (own_spread p))]) X43 hx (hb hby own_d6_30) rfl rfl ?_
  refine own_aloadN (pc' := 32) X43 hx (hb hby own_d6_31) rfl rfl rfl ?_
  refine own_dup (pc' := 33) X43 hx (hb hby own_d6_32) rfl rfl ?_
  have f44 := ((FR.ext E34).other W40 (Or.inr (slot_ne (Or.inl (own_w45 hw)) (Or.inl (own_w22 hw)) (by decide) (t := .int) (t' := (.array .long)) (by decide) (by decide))))
  obtain ⟨T45, X45, e45, st45⟩ := getF X43 hx hZ hown (host := "") (Or.inl (own_w44 hw)) Via.refl Kq43 f44 (g := (mkF m 33 #[.val (.ref a), .val (.int p), .val (.int (own_spread p))] [(.ref a), (.ref a)])) rfl rfl (hb hby own_d6_33)
  refine own_go st45 ?_
  show own_Ends prg e below s _ _ _ T45 (mkF m 36 #[.val (.ref a), .val (.int p), .val (.int (own_spread p))] [(.int (0 : Int32)), (.ref a)])
  refine own_iconst (pc' := 37) (z := (1 : Int32)) X45 hx (hb hby own_d6_36) rfl rfl ?_
  refine own_iadd (pc' := 38) (z := (1 : Int32)) X45 hx (hb hby own_d6_37) rfl (by decide) ?_
  have f46 := (f39.wr W40)
  obtain ⟨T47, h47, X47, e47, W47, st47⟩ := putF X45 hx hZ hown (host := "") (Or.inl (own_w44 hw)) Via.refl e45 f44 f46 (Or.inl (own_w45 hw)) (own_w1 hw) (ty := .int) (by decide) rfl rfl (g := (mkF m 38 #[.val (.ref a), .val (.int p), .val (.int (own_spread p))] [(.int (1 : Int32)), (.ref a)])) rfl rfl (hb hby own_d6_38)
  refine own_go st47 ?_
  have Fw47 := f44.same W47
  have N47 := Fr.snoc X47 N43 ga
  show own_Ends prg e below s _ _ _ T47 (mkF m 41 #[.val (.ref a), .val (.int p), .val (.int (own_spread p))] [])
  refine own_aloadN (pc' := 42) X47 hx (hb hby own_d6_41) rfl rfl rfl ?_
  have f48 := (Fw40.other W47 (Or.inr (slot_ne (Or.inl (own_w22 hw)) (Or.inl (own_w45 hw)) (by decide) (t := (.array .long)) (t' := .int) (by decide) (by decide))))
  obtain ⟨T49, X49, e49, st49⟩ := getF X47 hx hZ hown (host := "") (Or.inl (own_w21 hw)) Via.refl e47 f48 (g := (mkF m 42 #[.val (.ref a), .val (.int p), .val (.int (own_spread p))] [(.ref a)])) rfl rfl (hb hby own_d6_42)
  refine own_go st49 ?_
  show own_Ends prg e below s _ _ _ T49 (mkF m 45 #[.val (.ref a), .val (.int p), .val (.int (own_spread p))] [(.ref a34)])
  refine own_iloadN (pc' := 46) X49 hx (hb hby own_d6_45) rfl rfl ?_
  refine own_aloadN (pc' := 47) X49 hx (hb hby own_d6_46) rfl rfl rfl ?_
  obtain ⟨T50, X50, e50, st50⟩ := getF X49 hx hZ hown (host := "") (Or.inl (own_w21 hw)) Via.refl e49 f48 (g := (mkF m 47 #[.val (.ref a), .val (.int p), .val (.int (own_spread p))] [(.ref a), (.int (own_spread p)), (.ref a34)])) rfl rfl (hb hby own_d6_47)
  refine own_go st50 ?_
  show own_Ends prg e below s _ _ _ T50 (mkF m 50 #[.val (.ref a), .val (.int p), .val (.int (own_spread p))] [(.ref a34), (.int (own_spread p)), (.ref a34)])
  have f51 := (V42.other W47 (Ne.symm ne37))
  refine own_alen (pc' := 51) X50 hx hZ e50 f51 (hb hby own_d6_50) rfl ?_
  refine own_iconst (pc' := 52) (z := (1 : Int32)) X50 hx (hb hby own_d6_51) rfl rfl ?_
  refine own_isub (pc' := 53) (z := (3 : Int32)) X50 hx (hb hby own_d6_52) rfl (by decide) ?_
  refine own_iand (pc' := 54) (z := ((own_spread p) &&& (3 : Int32))) X50 hx (hb hby own_d6_53) rfl rfl ?_
  refine own_iloadN (pc' := 55) X50 hx (hb hby own_d6_54) rfl rfl ?_
  refine own_i2l (pc' := 56) (z := (own_spread p).toInt64) X50 hx (hb hby own_d6_55) rfl rfl ?_
  refine own_bipush (pc' := 58) (z := (32 : Int32)) X50 hx (hb hby own_d6_56) rfl rfl ?_
  refine own_lshl (pc' := 59) (z := ((own_spread p).toInt64 <<< ((32 : Int32) &&& 0x3f).toInt64)) X50 hx (hb hby own_d6_58) rfl rfl ?_
  refine own_aloadN (pc' := 60) X50 hx (hb hby own_d6_59) rfl rfl rfl ?_
  obtain ⟨T52, X52, e52, st52⟩ := getF X50 hx hZ hown (host := "") (Or.inl (own_w44 hw)) Via.refl e50 Fw47 (g := (mkF m 60 #[.val (.ref a), .val (.int p), .val (.int (own_spread p))] [(.ref a), (.long ((own_spread p).toInt64 <<< ((32 : Int32) &&& 0x3f).toInt64)), (.int ((own_spread p) &&& (3 : Int32))), (.ref a34)])) rfl rfl (hb hby own_d6_60)
  refine own_go st52 ?_
  show own_Ends prg e below s _ _ _ T52 (mkF m 63 #[.val (.ref a), .val (.int p), .val (.int (own_spread p))] [(.int (1 : Int32)), (.long ((own_spread p).toInt64 <<< ((32 : Int32) &&& 0x3f).toInt64)), (.int ((own_spread p) &&& (3 : Int32))), (.ref a34)])
  refine own_i2l (pc' := 64) (z := (1 : Int64)) X52 hx (hb hby own_d6_63) rfl (by decide) ?_
  refine own_ldc2J (pc' := 67) X52 hx hZ hown (own_w46 hw) (hb hby own_d6_64) rfl ?_
  refine own_land (pc' := 68) (z := (1 : Int64)) X52 hx (hb hby own_d6_67) rfl (by decide) ?_
  refine own_lor (pc' := 69) (z := (((own_spread p).toInt64 <<< ((32 : Int32) &&& 0x3f).toInt64) ||| (1 : Int64))) X52 hx (hb hby own_d6_68) rfl rfl ?_
  refine own_lastore (pc' := 70) X52 hx hZ e52 f51 (hb hby own_d6_69) rfl (own_inm (Or.inr (Or.inl ⟨rfl, rfl⟩)) rfl _) (own_ixm (3 : Int32) (own_spread p)) rfl (by rw [own_LJlen]; rw [List.length_replicate]; exact own_ixlt (Or.inr (Or.inl ⟨rfl, rfl⟩)) _) N47 ge35 ?_
  intro T53 h53 L53 X53 e53 N53 W53 V53
  rw [own_LJset] at V53
  show own_Ends prg e below s _ _ _ T53 (mkF m 70 #[.val (.ref a), .val (.int p), .val (.int (own_spread p))] [])
  refine own_retV X53 hx hlk hret (hb hby own_d6_70) (by decide) (by decide) ?_
  have f54 := ((((K0.ext E34).wr W40 (Or.inl (List.mem_of_getElem? (i := 0) rfl))).wr W47 (Or.inl (List.mem_of_getElem? (i := 0) rfl))).wr W53 (Or.inr sz36))
  have f55 := ((((FD.ext E34).other W40 (Or.inr (slot_ne (Or.inr (own_w15 hw)) (Or.inl (own_w22 hw)) (by decide) (t := .int) (t' := (.array .long)) (by decide) (by decide)))).other W47 (Or.inr (slot_ne (Or.inr (own_w15 hw)) (Or.inl (own_w45 hw)) (by decide) (t := .int) (t' := .int) (by decide) (by decide)))).other W53 (Or.inl ne37))
  have f56 := (f48.other W53 (Or.inl ne37))
  have f57 := (Fw47.other W53 (Or.inl ne37))
  rw [e53]; exact ⟨_, _, rfl, N53, f54, sz36, f55, f56, f57, V53⟩
def own_room6_2_1 : Room := { frames := 1, cells := 0, slots := 0, locals := 13 }
def own_Q6_2_1 (Z : State) (a : Addr) (p : Int32) (b : Addr) (bk : ClassId) (l : List Int64) (h0 : Heap) (n0 : Nat) (v : Option Value) (h : Heap) (L : List Loc) : Prop := v = none ∧ Fr n0 L ∧ Keep h0 h [a, b] ∧ Fld Z h a "com/example/larder/larder/cache/EvictedKeys" "depth" "I" (.int (2 : Int32)) ∧ Fld Z h a "com/example/larder/larder/cache/EvictedKeys" "slots" "[J" (.ref b) ∧ Fld Z h a "com/example/larder/larder/cache/EvictedKeys" "remembered" "I" (.int (2 : Int32)) ∧ Arv Z h b bk .long (4 : Int32) (own_LJ (l.set (own_ixm (3 : Int32) (own_spread p)) (own_pack (own_spread p) (2 : Int64)))) (.long (0 : Int64))
theorem own_ef_rm6_2_1 (m : MethodId) (x0 : Addr) (x1 : Int32) : entryFrame m #[(.ref x0), (.int x1)] 3 = mkF m 0 #[.val (.ref x0), .val (.int x1), .unset] [] := by first | (simp [entryFrame, mkF, argsToLocals, Value.category]; done) | rfl
set_option maxRecDepth 65536 in
set_option maxHeartbeats 40000000 in
theorem own_rm6_2_1 (lch : Launch) (Z : State) (a0 : Array Value) (hw : ∀ d ∈ tables_1, d.before a0 Z = true) (ws : List Jvm.Cond) (a : Addr) (p : Int32) (b : Addr) (bk : ClassId) (l : List Int64) (h0 : Heap) (n0 : Nat) (E0 : Exa Z h0 a "com/example/larder/larder/cache/EvictedKeys") (FD : Fld Z h0 a "com/example/larder/larder/cache/EvictedKeys" "depth" "I" (.int (2 : Int32))) (FS : Fld Z h0 a "com/example/larder/larder/cache/EvictedKeys" "slots" "[J" (.ref b)) (FR : Fld Z h0 a "com/example/larder/larder/cache/EvictedKeys" "remembered" "I" (.int (1 : Int32))) (ga : n0 ≤ a) (VB : Arv Z h0 b bk .long (4 : Int32) (own_LJ l) (.long (0 : Int64))) (hl : l.length = 4) (gb : n0 ≤ b) (hne : a ≠ b) :
    MetFree lch (⟨"com/example/larder/larder/cache/EvictedKeys", "remember", "(I)V"⟩ : MethodName) (head1 (Jvm.Cond.code (⟨"com/example/larder/larder/cache/EvictedKeys", "remember", "(I)V"⟩ : MethodName) prog_5_method_2_code 3 none :: ws) own_room6_2_1) (fun zz U => zz = #[(.ref a), (.int p)] ∧ Z.Warmed39 U.vm ∧ U.heap = h0) (fun _ _ _ _ _ => True) (fun _ U o U' => ∃ v L, o = .returned v ∧ own_Q6_2_1 Z a p b bk l h0 n0 v U'.heap L ∧ FrameEnd U o U' L own_room6_2_1.cells own_room6_2_1.slots) := by
  refine MetFree.of_bodySF (plainFor_of_name own_pn2) hisR ?_
  intro prg e s m args below meth c s₁ Bd hml0 hP hK
  obtain ⟨rfl, hZ, hh⟩ := hP
  have hx := Bd.exec
  have hby := Bd.bytes
  have hml : c.maxLocals = 3 := hml0
  have hown : s.vm.findClass "com/example/larder/larder/cache/EvictedKeys" = some m.cls := findClass_of_methodNamed Bd.named
  have hnm := (name_of_methodNamed Bd.named Bd.method).1
  have hlk : meth.locks = false := BodyLoose.notSynchronized Bd
  have hret := Bd.returns
  have X0 : Stand prg lch e own_room6_2_1 s m #[(.ref a), (.int p)] below meth c s₁ [] 0 0 := Stand.of_body Bd
  have e0 : s₁.heap = h0 := by rw [← hh, Bd.state]; rfl
  have N0 := Fr.nil n0
  show own_Ends prg e below s (own_Q6_2_1 Z a p b bk l h0 n0) own_room6_2_1.cells own_room6_2_1.slots s₁ (entryFrame m #[(.ref a), (.int p)] 3)
  refine own_cast (own_ef_rm6_2_1 m a p) ?_
  have K0 := Keep.refl h0 ([a, b] : List Addr)
  refine own_aloadN (pc' := 1) X0 hx (hb hby own_d6_0) rfl rfl rfl ?_
  obtain ⟨T31, X31, e31, st31⟩ := getF X0 hx hZ hown (host := "") (Or.inl (own_w21 hw)) Via.refl e0 FS (g := (mkF m 1 #[.val (.ref a), .val (.int p), .unset] [(.ref a)])) rfl rfl (hb hby own_d6_1)
  refine own_go st31 ?_
  show own_Ends prg e below s _ _ _ T31 (mkF m 4 #[.val (.ref a), .val (.int p), .unset] [(.ref b)])
  refine own_ifnonnullYes (pc' := 26) X31 hx (hb hby own_d6_4) (by decide) (by decide) ?_
  refine own_iloadN (pc' := 27) X31 hx (hb hby own_d6_26) rfl rfl ?_
  refine own_callS (pc' := 30) (y := (⟨"com/example/larder/larder/cache/UseCounts", "spread", "(I)I"⟩ : MethodName)) (W := 0) (rm := own_room5) (argsL := [(.int p)]) (rest := []) X31 hx hZ e31 hown (by rw [hml]; rfl) (own_w43 hw) (own_w24 hw) (own_w25 hw) (own_w26 hw) (by decide) (own_rm5 lch Z a0 hw [] p h0 n0) (by decide) (by decide) (by decide) (by decide) (lenOf own_pd0 rfl) rfl (by exact Nat.le_of_eq rfl) (hb hby own_d6_27) rfl ?_
  intro T32 Lc32 v32 X32 hQ32
  obtain ⟨rfl, Nq32, Kq32⟩ := hQ32
  have N32 := Fr.app N0 Nq32
  show own_Ends prg e below s _ _ _ T32 (mkF m 30 #[.val (.ref a), .val (.int p), .unset] [(.int (own_spread p))])
  refine own_istoreN (pc' := 31) (l' := #[.val (.ref a), .val (.int p), .val (.int (own_spread p))]) X32 hx (hb hby own_d6_30) rfl rfl ?_
  refine own_aloadN (pc' := 32) X32 hx (hb hby own_d6_31) rfl rfl rfl ?_
  refine own_dup (pc' := 33) X32 hx (hb hby own_d6_32) rfl rfl ?_
  obtain ⟨T33, X33, e33, st33⟩ := getF X32 hx hZ hown (host := "") (Or.inl (own_w44 hw)) Via.refl Kq32 FR (g := (mkF m 33 #[.val (.ref a), .val (.int p), .val (.int (own_spread p))] [(.ref a), (.ref a)])) rfl rfl (hb hby own_d6_33)
  refine own_go st33 ?_
  show own_Ends prg e below s _ _ _ T33 (mkF m 36 #[.val (.ref a), .val (.int p), .val (.int (own_spread p))] [(.int (1 : Int32)), (.ref a)])
  refine own_iconst (pc' := 37) (z := (1 : Int32)) X33 hx (hb hby own_d6_36) rfl rfl ?_
  refine own_iadd (pc' := 38) (z := (2 : Int32)) X33 hx (hb hby own_d6_37) rfl (by decide) ?_
  obtain ⟨T34, h34, X34, e34, W34, st34⟩ := putF X33 hx hZ hown (host := "") (Or.inl (own_w44 hw)) Via.refl e33 FR E0 (Or.inl (own_w45 hw)) (own_w1 hw) (ty := .int) (by decide) rfl rfl (g := (mkF m 38 #[.val (.ref a), .val (.int p), .val (.int (own_spread p))] [(.int (2 : Int32)), (.ref a)])) rfl rfl (hb hby own_d6_38)
  refine own_go st34 ?_
  have Fw34 := FR.same W34
  have N34 := Fr.snoc X34 N32 ga
  show own_Ends prg e below s _ _ _ T34 (mkF m 41 #[.val (.ref a), .val (.int p), .val (.int (own_spread p))] [])
  refine own_aloadN (pc' := 42) X34 hx (hb hby own_d6_41) rfl rfl rfl ?_
  have f35 := (FS.other W34 (Or.inr (slot_ne (Or.inl (own_w22 hw)) (Or.inl (own_w45 hw)) (by decide) (t := (.array .long)) (t' := .int) (by decide) (by decide))))
  obtain ⟨T36, X36, e36, st36⟩ := getF X34 hx hZ hown (host := "") (Or.inl (own_w21 hw)) Via.refl e34 f35 (g := (mkF m 42 #[.val (.ref a), .val (.int p), .val (.int (own_spread p))] [(.ref a)])) rfl rfl (hb hby own_d6_42)
  refine own_go st36 ?_
  show own_Ends prg e below s _ _ _ T36 (mkF m 45 #[.val (.ref a), .val (.int p), .val (.int (own_spread p))] [(.ref b)])
  refine own_iloadN (pc' := 46) X36 hx (hb hby own_d6_45) rfl rfl ?_
  refine own_aloadN (pc' := 47) X36 hx (hb hby own_d6_46) rfl rfl rfl ?_
  obtain ⟨T37, X37, e37, st37⟩ := getF X36 hx hZ hown (host := "") (Or.inl (own_w21 hw)) Via.refl e36 f35 (g := (mkF m 47 #[.val (.ref a), .val (.int p), .val (.int (own_spread p))] [(.ref a), (.int (own_spread p)), (.ref b)])) rfl rfl (hb hby own_d6_47)
  refine own_go st37 ?_
  show own_Ends prg e below s _ _ _ T37 (mkF m 50 #[.val (.ref a), .val (.int p), .val (.int (own_spread p))] [(.ref b), (.int (own_spread p)), (.ref b)])
  have f38 := (VB.other W34 (Ne.symm hne))
  refine own_alen (pc' := 51) X37 hx hZ e37 f38 (hb hby own_d6_50) rfl ?_
  refine own_iconst (pc' := 52) (z := (1 : Int32)) X37 hx (hb hby own_d6_51) rfl rfl ?_
  refine own_isub (pc' := 53) (z := (3 : Int32)) X37 hx (hb hby own_d6_52) rfl (by decide) ?_
  refine own_iand (pc' := 54) (z := ((own_spread p) &&& (3 : Int32))) X37 hx (hb hby own_d6_53) rfl rfl ?_
  refine own_iloadN (pc' := 55) X37 hx (hb hby own_d6_54) rfl rfl ?_
  refine own_i2l (pc' := 56) (z := (own_spread p).toInt64) X37 hx (hb hby own_d6_55) rfl rfl ?_
  refine own_bipush (pc' := 58) (z := (32 : Int32)) X37 hx (hb hby own_d6_56) rfl rfl ?_
  refine own_lshl (pc' := 59) (z := ((own_spread p).toInt64 <<< ((32 : Int32) &&& 0x3f).toInt64)) X37 hx (hb hby own_d6_58) rfl rfl ?_
  refine own_aloadN (pc' := 60) X37 hx (hb hby own_d6_59) rfl rfl rfl ?_
  obtain ⟨T39, X39, e39, st39⟩ := getF X37 hx hZ hown (host := "") (Or.inl (own_w44 hw)) Via.refl e37 Fw34 (g := (mkF m 60 #[.val (.ref a), .val (.int p), .val (.int (own_spread p))] [(.ref a), (.long ((own_spread p).toInt64 <<< ((32 : Int32) &&& 0x3f).toInt64)), (.int ((own_spread p) &&& (3 : Int32))), (.ref b)])) rfl rfl (hb hby own_d6_60)
  refine own_go st39 ?_
  show own_Ends prg e below s _ _ _ T39 (mkF m 63 #[.val (.ref a), .val (.int p), .val (.int (own_spread p))] [(.int (2 : Int32)), (.long ((own_spread p).toInt64 <<< ((32 : Int32) &&& 0x3f).toInt64)), (.int ((own_spread p) &&& (3 : Int32))), (.ref b)])
  refine own_i2l (pc' := 64) (z := (2 : Int64)) X39 hx (hb hby own_d6_63) rfl (by decide) ?_
  refine own_ldc2J (pc' := 67) X39 hx hZ hown (own_w46 hw) (hb hby own_d6_64) rfl ?_
  refine own_land (pc' := 68) (z := (2 : Int64)) X39 hx (hb hby own_d6_67) rfl (by decide) ?_
  refine own_lor (pc' := 69) (z := (((own_spread p).toInt64 <<< ((32 : Int32) &&& 0x3f).toInt64) ||| (2 : Int64))) X39 hx (hb hby own_d6_68) rfl rfl ?_
  refine own_lastore (pc' := 70) X39 hx hZ e39 f38 (hb hby own_d6_69) rfl (own_inm (Or.inr (Or.inl ⟨rfl, rfl⟩)) rfl _) (own_ixm (3 : Int32) (own_spread p)) rfl (by rw [own_LJlen]; rw [hl]; exact own_ixlt (Or.inr (Or.inl ⟨rfl, rfl⟩)) _) N34 gb ?_
  intro T40 h40 L40 X40 e40 N40 W40 V40
  rw [own_LJset] at V40
  show own_Ends prg e below s _ _ _ T40 (mkF m 70 #[.val (.ref a), .val (.int p), .val (.int (own_spread p))] [])
  refine own_retV X40 hx hlk hret (hb hby own_d6_70) (by decide) (by decide) ?_
  have f41 := ((K0.wr W34 (Or.inl (List.mem_of_getElem? (i := 0) rfl))).wr W40 (Or.inl (List.mem_of_getElem? (i := 1) rfl)))
  have f42 := ((FD.other W34 (Or.inr (slot_ne (Or.inr (own_w15 hw)) (Or.inl (own_w45 hw)) (by decide) (t := .int) (t' := .int) (by decide) (by decide)))).other W40 (Or.inl hne))
  have f43 := (f35.other W40 (Or.inl hne))
  have f44 := (Fw34.other W40 (Or.inl hne))
  rw [e40]; exact ⟨rfl, N40, f41, f42, f43, f44, V40⟩
def own_room6_2_2 : Room := { frames := 1, cells := 0, slots := 0, locals := 13 }
def own_Q6_2_2 (Z : State) (a : Addr) (p : Int32) (b : Addr) (bk : ClassId) (l : List Int64) (h0 : Heap) (n0 : Nat) (v : Option Value) (h : Heap) (L : List Loc) : Prop := v = none ∧ Fr n0 L ∧ Keep h0 h [a, b] ∧ Fld Z h a "com/example/larder/larder/cache/EvictedKeys" "depth" "I" (.int (2 : Int32)) ∧ Fld Z h a "com/example/larder/larder/cache/EvictedKeys" "slots" "[J" (.ref b) ∧ Fld Z h a "com/example/larder/larder/cache/EvictedKeys" "remembered" "I" (.int (3 : Int32)) ∧ Arv Z h b bk .long (4 : Int32) (own_LJ (l.set (own_ixm (3 : Int32) (own_spread p)) (own_pack (own_spread p) (3 : Int64)))) (.long (0 : Int64))
theorem own_ef_rm6_2_2 (m : MethodId) (x0 : Addr) (x1 : Int32) : entryFrame m #[(.ref x0), (.int x1)] 3 = mkF m 0 #[.val (.ref x0), .val (.int x1), .unset] [] := by first | (simp [entryFrame, mkF, argsToLocals, Value.category]; done) | rfl
set_option maxRecDepth 65536 in
set_option maxHeartbeats 40000000 in
theorem own_rm6_2_2 (lch : Launch) (Z : State) (a0 : Array Value) (hw : ∀ d ∈ tables_1, d.before a0 Z = true) (ws : List Jvm.Cond) (a : Addr) (p : Int32) (b : Addr) (bk : ClassId) (l : List Int64) (h0 : Heap) (n0 : Nat) (E0 : Exa Z h0 a "com/example/larder/larder/cache/EvictedKeys") (FD : Fld Z h0 a "com/example/larder/larder/cache/EvictedKeys" "depth" "I" (.int (2 : Int32))) (FS : Fld Z h0 a "com/example/larder/larder/cache/EvictedKeys" "slots" "[J" (.ref b)) (FR : Fld Z h0 a "com/example/larder/larder/cache/EvictedKeys" "remembered" "I" (.int (2 : Int32))) (ga : n0 ≤ a) (VB : Arv Z h0 b bk .long (4 : Int32) (own_LJ l) (.long (0 : Int64))) (hl : l.length = 4) (gb : n0 ≤ b) (hne : a ≠ b) :
    MetFree lch (⟨"com/example/larder/larder/cache/EvictedKeys", "remember", "(I)V"⟩ : MethodName) (head1 (Jvm.Cond.code (⟨"com/example/larder/larder/cache/EvictedKeys", "remember", "(I)V"⟩ : MethodName) prog_5_method_2_code 3 none :: ws) own_room6_2_2) (fun zz U => zz = #[(.ref a), (.int p)] ∧ Z.Warmed39 U.vm ∧ U.heap = h0) (fun _ _ _ _ _ => True) (fun _ U o U' => ∃ v L, o = .returned v ∧ own_Q6_2_2 Z a p b bk l h0 n0 v U'.heap L ∧ FrameEnd U o U' L own_room6_2_2.cells own_room6_2_2.slots) := by
  refine MetFree.of_bodySF (plainFor_of_name own_pn2) hisR ?_
  intro prg e s m args below meth c s₁ Bd hml0 hP hK
  obtain ⟨rfl, hZ, hh⟩ := hP
  have hx := Bd.exec
  have hby := Bd.bytes
  have hml : c.maxLocals = 3 := hml0
  have hown : s.vm.findClass "com/example/larder/larder/cache/EvictedKeys" = some m.cls := findClass_of_methodNamed Bd.named
  have hnm := (name_of_methodNamed Bd.named Bd.method).1
  have hlk : meth.locks = false := BodyLoose.notSynchronized Bd
  have hret := Bd.returns
  have X0 : Stand prg lch e own_room6_2_2 s m #[(.ref a), (.int p)] below meth c s₁ [] 0 0 := Stand.of_body Bd
  have e0 : s₁.heap = h0 := by rw [← hh, Bd.state]; rfl
  have N0 := Fr.nil n0
  show own_Ends prg e below s (own_Q6_2_2 Z a p b bk l h0 n0) own_room6_2_2.cells own_room6_2_2.slots s₁ (entryFrame m #[(.ref a), (.int p)] 3)
  refine own_cast (own_ef_rm6_2_2 m a p) ?_
  have K0 := Keep.refl h0 ([a, b] : List Addr)
  refine own_aloadN (pc' := 1) X0 hx (hb hby own_d6_0) rfl rfl rfl ?_
  obtain ⟨T31, X31, e31, st31⟩ := getF X0 hx hZ hown (host := "") (Or.inl (own_w21 hw)) Via.refl e0 FS (g := (mkF m 1 #[.val (.ref a), .val (.int p), .unset] [(.ref a)])) rfl rfl (hb hby own_d6_1)
  refine own_go st31 ?_
  show own_Ends prg e below s _ _ _ T31 (mkF m 4 #[.val (.ref a), .val (.int p), .unset] [(.ref b)])
  refine own_ifnonnullYes (pc' := 26) X31 hx (hb hby own_d6_4) (by decide) (by decide) ?_
  refine own_iloadN (pc' := 27) X31 hx (hb hby own_d6_26) rfl rfl ?_
  refine own_callS (pc' := 30) (y := (⟨"com/example/larder/larder/cache/UseCounts", "spread", "(I)I"⟩ : MethodName)) (W := 0) (rm := own_room5) (argsL := [(.int p)]) (rest := []) X31 hx hZ e31 hown (by rw [hml]; rfl) (own_w43 hw) (own_w24 hw) (own_w25 hw) (own_w26 hw) (by decide) (own_rm5 lch Z a0 hw [] p h0 n0) (by decide) (by decide) (by decide) (by decide) (lenOf own_pd0 rfl) rfl (by exact Nat.le_of_eq rfl) (hb hby own_d6_27) rfl ?_
  intro T32 Lc32 v32 X32 hQ32
  obtain ⟨rfl, Nq32, Kq32⟩ := hQ32
  have N32 := Fr.app N0 Nq32
  show own_Ends prg e below s _ _ _ T32 (mkF m 30 #[.val (.ref a), .val (.int p), .unset] [(.int (own_spread p))])
  refine own_istoreN (pc' := 31) (l' := #[.val (.ref a), .val (.int p), .val (.int (own_spread p))]) X32 hx (hb hby own_d6_30) rfl rfl ?_
  refine own_aloadN (pc' := 32) X32 hx (hb hby own_d6_31) rfl rfl rfl ?_
  refine own_dup (pc' := 33) X32 hx (hb hby own_d6_32) rfl rfl ?_
  obtain ⟨T33, X33, e33, st33⟩ := getF X32 hx hZ hown (host := "") (Or.inl (own_w44 hw)) Via.refl Kq32 FR (g := (mkF m 33 #[.val (.ref a), .val (.int p), .val (.int (own_spread p))] [(.ref a), (.ref a)])) rfl rfl (hb hby own_d6_33)
  refine own_go st33 ?_
  show own_Ends prg e below s _ _ _ T33 (mkF m 36 #[.val (.ref a), .val (.int p), .val (.int (own_spread p))] [(.int (2 : Int32)), (.ref a)])
  refine own_iconst (pc' := 37) (z := (1 : Int32)) X33 hx (hb hby own_d6_36) rfl rfl ?_
  refine own_iadd (pc' := 38) (z := (3 : Int32)) X33 hx (hb hby own_d6_37) rfl (by decide) ?_
  obtain ⟨T34, h34, X34, e34, W34, st34⟩ := putF X33 hx hZ hown (host := "") (Or.inl (own_w44 hw)) Via.refl e33 FR E0 (Or.inl (own_w45 hw)) (own_w1 hw) (ty := .int) (by decide) rfl rfl (g := (mkF m 38 #[.val (.ref a), .val (.int p), .val (.int (own_spread p))] [(.int (3 : Int32)), (.ref a)])) rfl rfl (hb hby own_d6_38)
  refine own_go st34 ?_
  have Fw34 := FR.same W34
  have N34 := Fr.snoc X34 N32 ga
  show own_Ends prg e below s _ _ _ T34 (mkF m 41 #[.val (.ref a), .val (.int p), .val (.int (own_spread p))] [])
  refine own_aloadN (pc' := 42) X34 hx (hb hby own_d6_41) rfl rfl rfl ?_
  have f35 := (FS.other W34 (Or.inr (slot_ne (Or.inl (own_w22 hw)) (Or.inl (own_w45 hw)) (by decide) (t := (.array .long)) (t' := .int) (by decide) (by decide))))
  obtain ⟨T36, X36, e36, st36⟩ := getF X34 hx hZ hown (host := "") (Or.inl (own_w21 hw)) Via.refl e34 f35 (g := (mkF m 42 #[.val (.ref a), .val (.int p), .val (.int (own_spread p))] [(.ref a)])) rfl rfl (hb hby own_d6_42)
  refine own_go st36 ?_
  show own_Ends prg e below s _ _ _ T36 (mkF m 45 #[.val (.ref a), .val (.int p), .val (.int (own_spread p))] [(.ref b)])
  refine own_iloadN (pc' := 46) X36 hx (hb hby own_d6_45) rfl rfl ?_
  refine own_aloadN (pc' := 47) X36 hx (hb hby own_d6_46) rfl rfl rfl ?_
  obtain ⟨T37, X37, e37, st37⟩ := getF X36 hx hZ hown (host := "") (Or.inl (own_w21 hw)) Via.refl e36 f35 (g := (mkF m 47 #[.val (.ref a), .val (.int p), .val (.int (own_spread p))] [(.ref a), (.int (own_spread p)), (.ref b)])) rfl rfl (hb hby own_d6_47)
  refine own_go st37 ?_
  show own_Ends prg e below s _ _ _ T37 (mkF m 50 #[.val (.ref a), .val (.int p), .val (.int (own_spread p))] [(.ref b), (.int (own_spread p)), (.ref b)])
  have f38 := (VB.other W34 (Ne.symm hne))
  refine own_alen (pc' := 51) X37 hx hZ e37 f38 (hb hby own_d6_50) rfl ?_
  refine own_iconst (pc' := 52) (z := (1 : Int32)) X37 hx (hb hby own_d6_51) rfl rfl ?_
  refine own_isub (pc' := 53) (z := (3 : Int32)) X37 hx (hb hby own_d6_52) rfl (by decide) ?_
  refine own_iand (pc' := 54) (z := ((own_spread p) &&& (3 : Int32))) X37 hx (hb hby own_d6_53) rfl rfl ?_
  refine own_iloadN (pc' := 55) X37 hx (hb hby own_d6_54) rfl rfl ?_
  refine own_i2l (pc' := 56) (z := (own_spread p).toInt64) X37 hx (hb hby own_d6_55) rfl rfl ?_
  refine own_bipush (pc' := 58) (z := (32 : Int32)) X37 hx (hb hby own_d6_56) rfl rfl ?_
  refine own_lshl (pc' := 59) (z := ((own_spread p).toInt64 <<< ((32 : Int32) &&& 0x3f).toInt64)) X37 hx (hb hby own_d6_58) rfl rfl ?_
  refine own_aloadN (pc' := 60) X37 hx (hb hby own_d6_59) rfl rfl rfl ?_
  obtain ⟨T39, X39, e39, st39⟩ := getF X37 hx hZ hown (host := "") (Or.inl (own_w44 hw)) Via.refl e37 Fw34 (g := (mkF m 60 #[.val (.ref a), .val (.int p), .val (.int (own_spread p))] [(.ref a), (.long ((own_spread p).toInt64 <<< ((32 : Int32) &&& 0x3f).toInt64)), (.int ((own_spread p) &&& (3 : Int32))), (.ref b)])) rfl rfl (hb hby own_d6_60)
  refine own_go st39 ?_
  show own_Ends prg e below s _ _ _ T39 (mkF m 63 #[.val (.ref a), .val (.int p), .val (.int (own_spread p))] [(.int (3 : Int32)), (.long ((own_spread p).toInt64 <<< ((32 : Int32) &&& 0x3f).toInt64)), (.int ((own_spread p) &&& (3 : Int32))), (.ref b)])
  refine own_i2l (pc' := 64) (z := (3 : Int64)) X39 hx (hb hby own_d6_63) rfl (by decide) ?_
  refine own_ldc2J (pc' := 67) X39 hx hZ hown (own_w46 hw) (hb hby own_d6_64) rfl ?_
  refine own_land (pc' := 68) (z := (3 : Int64)) X39 hx (hb hby own_d6_67) rfl (by decide) ?_
  refine own_lor (pc' := 69) (z := (((own_spread p).toInt64 <<< ((32 : Int32) &&& 0x3f).toInt64) ||| (3 : Int64))) X39 hx (hb hby own_d6_68) rfl rfl ?_
  refine own_lastore (pc' := 70) X39 hx hZ e39 f38 (hb hby own_d6_69) rfl (own_inm (Or.inr (Or.inl ⟨rfl, rfl⟩)) rfl _) (own_ixm (3 : Int32) (own_spread p)) rfl (by rw [own_LJlen]; rw [hl]; exact own_ixlt (Or.inr (Or.inl ⟨rfl, rfl⟩)) _) N34 gb ?_
  intro T40 h40 L40 X40 e40 N40 W40 V40
  rw [own_LJset] at V40
  show own_Ends prg e below s _ _ _ T40 (mkF m 70 #[.val (.ref a), .val (.int p), .val (.int (own_spread p))] [])
  refine own_retV X40 hx hlk hret (hb hby own_d6_70) (by decide) (by decide) ?_
  have f41 := ((K0.wr W34 (Or.inl (List.mem_of_getElem? (i := 0) rfl))).wr W40 (Or.inl (List.mem_of_getElem? (i := 1) rfl)))
  have f42 := ((FD.other W34 (Or.inr (slot_ne (Or.inr (own_w15 hw)) (Or.inl (own_w45 hw)) (by decide) (t := .int) (t' := .int) (by decide) (by decide)))).other W40 (Or.inl hne))
  have f43 := (f35.other W40 (Or.inl hne))
  have f44 := (Fw34.other W40 (Or.inl hne))
  rw [e40]; exact ⟨rfl, N40, f41, f42, f43, f44, V40⟩
def own_room6_3_0 : Room := { frames := 2, cells := 1, slots := 8, locals := 28 }
def own_Q6_3_0 (Z : State) (a : Addr) (p : Int32) (h0 : Heap) (n0 : Nat) (v : Option Value) (h : Heap) (L : List Loc) : Prop := ∃ (b : Addr) (bk : ClassId), v = none ∧ Fr n0 L ∧ Keep h0 h [a] ∧ h0.size ≤ b ∧ Fld Z h a "com/example/larder/larder/cache/EvictedKeys" "depth" "I" (.int (3 : Int32)) ∧ Fld Z h a "com/example/larder/larder/cache/EvictedKeys" "slots" "[J" (.ref b) ∧ Fld Z h a "com/example/larder/larder/cache/EvictedKeys" "remembered" "I" (.int (1 : Int32)) ∧ Arv Z h b bk .long (8 : Int32) (own_LJ ((List.replicate 8 (0 : Int64)).set (own_ixm (7 : Int32) (own_spread p)) (own_pack (own_spread p) (1 : Int64)))) (.long (0 : Int64))
theorem own_ef_rm6_3_0 (m : MethodId) (x0 : Addr) (x1 : Int32) : entryFrame m #[(.ref x0), (.int x1)] 3 = mkF m 0 #[.val (.ref x0), .val (.int x1), .unset] [] := by first | (simp [entryFrame, mkF, argsToLocals, Value.category]; done) | rfl
set_option maxRecDepth 65536 in
set_option maxHeartbeats 40000000 in
theorem own_rm6_3_0 (lch : Launch) (Z : State) (a0 : Array Value) (hw : ∀ d ∈ tables_1, d.before a0 Z = true) (ws : List Jvm.Cond) (a : Addr) (p : Int32) (h0 : Heap) (n0 : Nat) (Z0 : n0 ≤ h0.size) (E0 : Exa Z h0 a "com/example/larder/larder/cache/EvictedKeys") (FD : Fld Z h0 a "com/example/larder/larder/cache/EvictedKeys" "depth" "I" (.int (3 : Int32))) (FS : Fld Z h0 a "com/example/larder/larder/cache/EvictedKeys" "slots" "[J" .null) (FR : Fld Z h0 a "com/example/larder/larder/cache/EvictedKeys" "remembered" "I" (.int (0 : Int32))) (ga : n0 ≤ a) :
    MetFree lch (⟨"com/example/larder/larder/cache/EvictedKeys", "remember", "(I)V"⟩ : MethodName) (head1 (Jvm.Cond.code (⟨"com/example/larder/larder/cache/EvictedKeys", "remember", "(I)V"⟩ : MethodName) prog_5_method_2_code 3 none :: ws) own_room6_3_0) (fun zz U => zz = #[(.ref a), (.int p)] ∧ Z.Warmed39 U.vm ∧ U.heap = h0) (fun _ _ _ _ _ => True) (fun _ U o U' => ∃ v L, o = .returned v ∧ own_Q6_3_0 Z a p h0 n0 v U'.heap L ∧ FrameEnd U o U' L own_room6_3_0.cells own_room6_3_0.slots) := by
  refine MetFree.of_bodySF (plainFor_of_name own_pn2) hisR ?_
  intro prg e s m args below meth c s₁ Bd hml0 hP hK
  obtain ⟨rfl, hZ, hh⟩ := hP
  have hx := Bd.exec
  have hby := Bd.bytes
  have hml : c.maxLocals = 3 := hml0
  have hown : s.vm.findClass "com/example/larder/larder/cache/EvictedKeys" = some m.cls := findClass_of_methodNamed Bd.named
  have hnm := (name_of_methodNamed Bd.named Bd.method).1
  have hlk : meth.locks = false := BodyLoose.notSynchronized Bd
  have hret := Bd.returns
  have X0 : Stand prg lch e own_room6_3_0 s m #[(.ref a), (.int p)] below meth c s₁ [] 0 0 := Stand.of_body Bd
  have e0 : s₁.heap = h0 := by rw [← hh, Bd.state]; rfl
  have N0 := Fr.nil n0
  show own_Ends prg e below s (own_Q6_3_0 Z a p h0 n0) own_room6_3_0.cells own_room6_3_0.slots s₁ (entryFrame m #[(.ref a), (.int p)] 3)
  refine own_cast (own_ef_rm6_3_0 m a p) ?_
  have K0 := Keep.refl h0 ([a] : List Addr)
  refine own_aloadN (pc' := 1) X0 hx (hb hby own_d6_0) rfl rfl rfl ?_
  obtain ⟨T31, X31, e31, st31⟩ := getF X0 hx hZ hown (host := "") (Or.inl (own_w21 hw)) Via.refl e0 FS (g := (mkF m 1 #[.val (.ref a), .val (.int p), .unset] [(.ref a)])) rfl rfl (hb hby own_d6_1)
  refine own_go st31 ?_
  show own_Ends prg e below s _ _ _ T31 (mkF m 4 #[.val (.ref a), .val (.int p), .unset] [.null])
  refine own_ifnonnullNo (pc' := 7) X31 hx (hb hby own_d6_4) rfl ?_
  refine own_aloadN (pc' := 8) X31 hx (hb hby own_d6_7) rfl rfl rfl ?_
  refine own_iconst (pc' := 9) (z := (2 : Int32)) X31 hx (hb hby own_d6_8) rfl rfl ?_
  refine own_aloadN (pc' := 10) X31 hx (hb hby own_d6_9) rfl rfl rfl ?_
  obtain ⟨T32, X32, e32, st32⟩ := getF X31 hx hZ hown (host := "") (Or.inl (own_w14 hw)) Via.refl e31 FD (g := (mkF m 10 #[.val (.ref a), .val (.int p), .unset] [(.ref a), (.int (2 : Int32)), (.ref a)])) rfl rfl (hb hby own_d6_10)
  refine own_go st32 ?_
  show own_Ends prg e below s _ _ _ T32 (mkF m 13 #[.val (.ref a), .val (.int p), .unset] [(.int (3 : Int32)), (.int (2 : Int32)), (.ref a)])
  refine own_imul (pc' := 14) (z := (6 : Int32)) X32 hx (hb hby own_d6_13) rfl (by decide) ?_
  refine own_iconst (pc' := 15) (z := (1 : Int32)) X32 hx (hb hby own_d6_14) rfl rfl ?_
  refine own_isub (pc' := 16) (z := (5 : Int32)) X32 hx (hb hby own_d6_15) rfl (by decide) ?_
  refine own_callS (pc' := 19) (y := (⟨"java/lang/Integer", "highestOneBit", "(I)I"⟩ : MethodName)) (W := 1) (rm := own_room7_5) (argsL := [(.int (5 : Int32))]) (rest := [(.ref a)]) X32 hx hZ e32 hown (by rw [hml]; rfl) (own_w33 hw) (own_w34 hw) (own_w35 hw) (own_w36 hw) (by decide) (own_rm7_5 lch Z a0 hw [] h0 n0) (by decide) (by decide) (by decide) (by decide) (lenOf own_pd0 rfl) rfl (by exact Nat.le_of_eq rfl) (hb hby own_d6_16) rfl ?_
  intro T33 Lc33 v33 X33 hQ33
  obtain ⟨rfl, Nq33, Kq33⟩ := hQ33
  have N33 := Fr.app N0 Nq33
  show own_Ends prg e below s _ _ _ T33 (mkF m 19 #[.val (.ref a), .val (.int p), .unset] [(.int (4 : Int32)), (.ref a)])
  refine own_iconst (pc' := 20) (z := (1 : Int32)) X33 hx (hb hby own_d6_19) rfl rfl ?_
  refine own_ishl (pc' := 21) (z := (8 : Int32)) X33 hx (hb hby own_d6_20) rfl (by decide) ?_
  refine own_newarr (pc' := 23) (aty := .long) X33 hx hZ (own_w42 hw) Kq33 (hb hby own_d6_21) rfl (by decide) 8 8 (by decide) (by decide) (by decide) (by decide) ?_
  intro T34 h34 a34 k34 X34 e34 E34 g34 V34
  replace V34 : Arv Z h34 a34 k34 .long (8 : Int32) [(.long (0 : Int64)), (.long (0 : Int64)), (.long (0 : Int64)), (.long (0 : Int64)), (.long (0 : Int64)), (.long (0 : Int64)), (.long (0 : Int64)), (.long (0 : Int64))] (.long (0 : Int64)) := V34
  have ge35 : n0 ≤ a34 := by rw [g34]; exact Z0
  have sz36 : h0.size ≤ a34 := by rw [g34]; exact K0.1
  have ne37 : a ≠ a34 := Nat.ne_of_lt (by rw [g34]; exact E0.lt)
  show own_Ends prg e below s _ _ _ T34 (mkF m 23 #[.val (.ref a), .val (.int p), .unset] [(.ref a34), (.ref a)])
  have f38 := (FS.ext E34)
  have f39 := (E0.ext E34)
  obtain ⟨T40, h40, X40, e40, W40, st40⟩ := putF X34 hx hZ hown (host := "") (Or.inl (own_w21 hw)) Via.refl e34 f38 f39 (Or.inl (own_w22 hw)) (own_w1 hw) (ty := (.array .long)) (by decide) rfl rfl (g := (mkF m 23 #[.val (.ref a), .val (.int p), .unset] [(.ref a34), (.ref a)])) rfl rfl (hb hby own_d6_23)
  refine own_go st40 ?_
  have Fw40 := f38.same W40
  have N40 := Fr.snoc X40 N33 ga
  show own_Ends prg e below s _ _ _ T40 (mkF m 26 #[.val (.ref a), .val (.int p), .unset] [])
  have f41 := (V34.other W40 (Ne.symm ne37))
  have V42 : Arv Z h40 a34 k34 .long (8 : Int32) (own_LJ (List.replicate 8 (0 : Int64))) (.long (0 : Int64)) := f41
  refine own_iloadN (pc' := 27) X40 hx (hb hby own_d6_26) rfl rfl ?_
  refine own_callS (pc' := 30) (y := (⟨"com/example/larder/larder/cache/UseCounts", "spread", "(I)I"⟩ : MethodName)) (W := 0) (rm := own_room5) (argsL := [(.int p)]) (rest := []) X40 hx hZ e40 hown (by rw [hml]; rfl) (own_w43 hw) (own_w24 hw) (own_w25 hw) (own_w26 hw) (by decide) (own_rm5 lch Z a0 hw [] p h40 n0) (by decide) (by decide) (by decide) (by decide) (lenOf own_pd0 rfl) rfl (by exact Nat.le_of_eq rfl) (hb hby own_d6_27) rfl ?_
  intro T43 Lc43 v43 X43 hQ43
  obtain ⟨rfl, Nq43, Kq43⟩ := hQ43
  have N43 := Fr.app N40 Nq43
  show own_Ends prg e below s _ _ _ T43 (mkF m 30 #[.val (.ref a), .val (.int p), .unset] [(.int (own_spread p))])
  refine own_istoreN (pc' := 31) (l' := #[.val (.ref a), .val (.int p), .val (.int (own_spread p))]) X43 hx (hb hby own_d6_30) rfl rfl ?_
  refine own_aloadN (pc' := 32) X43 hx (hb hby own_d6_31) rfl rfl rfl ?_
  refine own_dup (pc' := 33) X43 hx (hb hby own_d6_32) rfl rfl ?_
  have f44 := ((FR.ext E34).other W40 (Or.inr (slot_ne (Or.inl (own_w45 hw)) (Or.inl (own_w22 hw)) (by decide) (t := .int) (t' := (.array .long)) (by decide) (by decide))))
  obtain ⟨T45, X45, e45, st45⟩ := getF X43 hx hZ hown (host := "") (Or.inl (own_w44 hw)) Via.refl Kq43 f44 (g := (mkF m 33 #[.val (.ref a), .val (.int p), .val (.int (own_spread p))] [(.ref a), (.ref a)])) rfl rfl (hb hby own_d6_33)
  refine own_go st45 ?_
  show own_Ends prg e below s _ _ _ T45 (mkF m 36 #[.val (.ref a), .val (.int p), .val (.int (own_spread p))] [(.int (0 : Int32)), (.ref a)])
  refine own_iconst (pc' := 37) (z := (1 : Int32)) X45 hx (hb hby own_d6_36) rfl rfl ?_
  refine own_iadd (pc' := 38) (z := (1 : Int32)) X45 hx (hb hby own_d6_37) rfl (by decide) ?_
  have f46 := (f39.wr W40)
  obtain ⟨T47, h47, X47, e47, W47, st47⟩ := putF X45 hx hZ hown (host := "") (Or.inl (own_w44 hw)) Via.refl e45 f44 f46 (Or.inl (own_w45 hw)) (own_w1 hw) (ty := .int) (by decide) rfl rfl (g := (mkF m 38 #[.val (.ref a), .val (.int p), .val (.int (own_spread p))] [(.int (1 : Int32)), (.ref a)])) rfl rfl (hb hby own_d6_38)
  refine own_go st47 ?_
  have Fw47 := f44.same W47
  have N47 := Fr.snoc X47 N43 ga
  show own_Ends prg e below s _ _ _ T47 (mkF m 41 #[.val (.ref a), .val (.int p), .val (.int (own_spread p))] [])
  refine own_aloadN (pc' := 42) X47 hx (hb hby own_d6_41) rfl rfl rfl ?_
  have f48 := (Fw40.other W47 (Or.inr (slot_ne (Or.inl (own_w22 hw)) (Or.inl (own_w45 hw)) (by decide) (t := (.array .long)) (t' := .int) (by decide) (by decide))))
  obtain ⟨T49, X49, e49, st49⟩ := getF X47 hx hZ hown (host := "") (Or.inl (own_w21 hw)) Via.refl e47 f48 (g := (mkF m 42 #[.val (.ref a), .val (.int p), .val (.int (own_spread p))] [(.ref a)])) rfl rfl (hb hby own_d6_42)
  refine own_go st49 ?_
  show own_Ends prg e below s _ _ _ T49 (mkF m 45 #[.val (.ref a), .val (.int p), .val (.int (own_spread p))] [(.ref a34)])
  refine own_iloadN (pc' := 46) X49 hx (hb hby own_d6_45) rfl rfl ?_
  refine own_aloadN (pc' := 47) X49 hx (hb hby own_d6_46) rfl rfl rfl ?_
  obtain ⟨T50, X50, e50, st50⟩ := getF X49 hx hZ hown (host := "") (Or.inl (own_w21 hw)) Via.refl e49 f48 (g := (mkF m 47 #[.val (.ref a), .val (.int p), .val (.int (own_spread p))] [(.ref a), (.int (own_spread p)), (.ref a34)])) rfl rfl (hb hby own_d6_47)
  refine own_go st50 ?_
  show own_Ends prg e below s _ _ _ T50 (mkF m 50 #[.val (.ref a), .val (.int p), .val (.int (own_spread p))] [(.ref a34), (.int (own_spread p)), (.ref a34)])
  have f51 := (V42.other W47 (Ne.symm ne37))
  refine own_alen (pc' := 51) X50 hx hZ e50 f51 (hb hby own_d6_50) rfl ?_
  refine own_iconst (pc' := 52) (z := (1 : Int32)) X50 hx (hb hby own_d6_51) rfl rfl ?_
  refine own_isub (pc' := 53) (z := (7 : Int32)) X50 hx (hb hby own_d6_52) rfl (by decide) ?_
  refine own_iand (pc' := 54) (z := ((own_spread p) &&& (7 : Int32))) X50 hx (hb hby own_d6_53) rfl rfl ?_
  refine own_iloadN (pc' := 55) X50 hx (hb hby own_d6_54) rfl rfl ?_
  refine own_i2l (pc' := 56) (z := (own_spread p).toInt64) X50 hx (hb hby own_d6_55) rfl rfl ?_
  refine own_bipush (pc' := 58) (z := (32 : Int32)) X50 hx (hb hby own_d6_56) rfl rfl ?_
  refine own_lshl (pc' := 59) (z := ((own_spread p).toInt64 <<< ((32 : Int32) &&& 0x3f).toInt64)) X50 hx (hb hby own_d6_58) rfl rfl ?_
  refine own_aloadN (pc' := 60) X50 hx (hb hby own_d6_59) rfl rfl rfl ?_
  obtain ⟨T52, X52, e52, st52⟩ := getF X50 hx hZ hown (host := "") (Or.inl (own_w44 hw)) Via.refl e50 Fw47 (g := (mkF m 60 #[.val (.ref a), .val (.int p), .val (.int (own_spread p))] [(.ref a), (.long ((own_spread p).toInt64 <<< ((32 : Int32) &&& 0x3f).toInt64)), (.int ((own_spread p) &&& (7 : Int32))), (.ref a34)])) rfl rfl (hb hby own_d6_60)
  refine own_go st52 ?_
  show own_Ends prg e below s _ _ _ T52 (mkF m 63 #[.val (.ref a), .val (.int p), .val (.int (own_spread p))] [(.int (1 : Int32)), (.long ((own_spread p).toInt64 <<< ((32 : Int32) &&& 0x3f).toInt64)), (.int ((own_spread p) &&& (7 : Int32))), (.ref a34)])
  refine own_i2l (pc' := 64) (z := (1 : Int64)) X52 hx (hb hby own_d6_63) rfl (by decide) ?_
  refine own_ldc2J (pc' := 67) X52 hx hZ hown (own_w46 hw) (hb hby own_d6_64) rfl ?_
  refine own_land (pc' := 68) (z := (1 : Int64)) X52 hx (hb hby own_d6_67) rfl (by decide) ?_
  refine own_lor (pc' := 69) (z := (((own_spread p).toInt64 <<< ((32 : Int32) &&& 0x3f).toInt64) ||| (1 : Int64))) X52 hx (hb hby own_d6_68) rfl rfl ?_
  refine own_lastore (pc' := 70) X52 hx hZ e52 f51 (hb hby own_d6_69) rfl (own_inm (Or.inr (Or.inr ⟨rfl, rfl⟩)) rfl _) (own_ixm (7 : Int32) (own_spread p)) rfl (by rw [own_LJlen]; rw [List.length_replicate]; exact own_ixlt (Or.inr (Or.inr ⟨rfl, rfl⟩)) _) N47 ge35 ?_
  intro T53 h53 L53 X53 e53 N53 W53 V53
  rw [own_LJset] at V53
  show own_Ends prg e below s _ _ _ T53 (mkF m 70 #[.val (.ref a), .val (.int p), .val (.int (own_spread p))] [])
  refine own_retV X53 hx hlk hret (hb hby own_d6_70) (by decide) (by decide) ?_
  have f54 := ((((K0.ext E34).wr W40 (Or.inl (List.mem_of_getElem? (i := 0) rfl))).wr W47 (Or.inl (List.mem_of_getElem? (i := 0) rfl))).wr W53 (Or.inr sz36))
  have f55 := ((((FD.ext E34).other W40 (Or.inr (slot_ne (Or.inr (own_w15 hw)) (Or.inl (own_w22 hw)) (by decide) (t := .int) (t' := (.array .long)) (by decide) (by decide)))).other W47 (Or.inr (slot_ne (Or.inr (own_w15 hw)) (Or.inl (own_w45 hw)) (by decide) (t := .int) (t' := .int) (by decide) (by decide)))).other W53 (Or.inl ne37))
  have f56 := (f48.other W53 (Or.inl ne37))
  have f57 := (Fw47.other W53 (Or.inl ne37))
  rw [e53]; exact ⟨_, _, rfl, N53, f54, sz36, f55, f56, f57, V53⟩
def own_room6_3_1 : Room := { frames := 1, cells := 0, slots := 0, locals := 13 }
def own_Q6_3_1 (Z : State) (a : Addr) (p : Int32) (b : Addr) (bk : ClassId) (l : List Int64) (h0 : Heap) (n0 : Nat) (v : Option Value) (h : Heap) (L : List Loc) : Prop := v = none ∧ Fr n0 L ∧ Keep h0 h [a, b] ∧ Fld Z h a "com/example/larder/larder/cache/EvictedKeys" "depth" "I" (.int (3 : Int32)) ∧ Fld Z h a "com/example/larder/larder/cache/EvictedKeys" "slots" "[J" (.ref b) ∧ Fld Z h a "com/example/larder/larder/cache/EvictedKeys" "remembered" "I" (.int (2 : Int32)) ∧ Arv Z h b bk .long (8 : Int32) (own_LJ (l.set (own_ixm (7 : Int32) (own_spread p)) (own_pack (own_spread p) (2 : Int64)))) (.long (0 : Int64))
theorem own_ef_rm6_3_1 (m : MethodId) (x0 : Addr) (x1 : Int32) : entryFrame m #[(.ref x0), (.int x1)] 3 = mkF m 0 #[.val (.ref x0), .val (.int x1), .unset] [] := by first | (simp [entryFrame, mkF, argsToLocals, Value.category]; done) | rfl
set_option maxRecDepth 65536 in
set_option maxHeartbeats 40000000 in
theorem own_rm6_3_1 (lch : Launch) (Z : State) (a0 : Array Value) (hw : ∀ d ∈ tables_1, d.before a0 Z = true) (ws : List Jvm.Cond) (a : Addr) (p : Int32) (b : Addr) (bk : ClassId) (l : List Int64) (h0 : Heap) (n0 : Nat) (E0 : Exa Z h0 a "com/example/larder/larder/cache/EvictedKeys") (FD : Fld Z h0 a "com/example/larder/larder/cache/EvictedKeys" "depth" "I" (.int (3 : Int32))) (FS : Fld Z h0 a "com/example/larder/larder/cache/EvictedKeys" "slots" "[J" (.ref b)) (FR : Fld Z h0 a "com/example/larder/larder/cache/EvictedKeys" "remembered" "I" (.int (1 : Int32))) (ga : n0 ≤ a) (VB : Arv Z h0 b bk .long (8 : Int32) (own_LJ l) (.long (0 : Int64))) (hl : l.length = 8) (gb : n0 ≤ b) (hne : a ≠ b) :
    MetFree lch (⟨"com/example/larder/larder/cache/EvictedKeys", "remember", "(I)V"⟩ : MethodName) (head1 (Jvm.Cond.code (⟨"com/example/larder/larder/cache/EvictedKeys", "remember", "(I)V"⟩ : MethodName) prog_5_method_2_code 3 none :: ws) own_room6_3_1) (fun zz U => zz = #[(.ref a), (.int p)] ∧ Z.Warmed39 U.vm ∧ U.heap = h0) (fun _ _ _ _ _ => True) (fun _ U o U' => ∃ v L, o = .returned v ∧ own_Q6_3_1 Z a p b bk l h0 n0 v U'.heap L ∧ FrameEnd U o U' L own_room6_3_1.cells own_room6_3_1.slots) := by
  refine MetFree.of_bodySF (plainFor_of_name own_pn2) hisR ?_
  intro prg e s m args below meth c s₁ Bd hml0 hP hK
  obtain ⟨rfl, hZ, hh⟩ := hP
  have hx := Bd.exec
  have hby := Bd.bytes
  have hml : c.maxLocals = 3 := hml0
  have hown : s.vm.findClass "com/example/larder/larder/cache/EvictedKeys" = some m.cls := findClass_of_methodNamed Bd.named
  have hnm := (name_of_methodNamed Bd.named Bd.method).1
  have hlk : meth.locks = false := BodyLoose.notSynchronized Bd
  have hret := Bd.returns
  have X0 : Stand prg lch e own_room6_3_1 s m #[(.ref a), (.int p)] below meth c s₁ [] 0 0 := Stand.of_body Bd
  have e0 : s₁.heap = h0 := by rw [← hh, Bd.state]; rfl
  have N0 := Fr.nil n0
  show own_Ends prg e below s (own_Q6_3_1 Z a p b bk l h0 n0) own_room6_3_1.cells own_room6_3_1.slots s₁ (entryFrame m #[(.ref a), (.int p)] 3)
  refine own_cast (own_ef_rm6_3_1 m a p) ?_
  have K0 := Keep.refl h0 ([a, b] : List Addr)
  refine own_aloadN (pc' := 1) X0 hx (hb hby own_d6_0) rfl rfl rfl ?_
  obtain ⟨T31, X31, e31, st31⟩ := getF X0 hx hZ hown (host := "") (Or.inl (own_w21 hw)) Via.refl e0 FS (g := (mkF m 1 #[.val (.ref a), .val (.int p), .unset] [(.ref a)])) rfl rfl (hb hby own_d6_1)
  refine own_go st31 ?_
  show own_Ends prg e below s _ _ _ T31 (mkF m 4 #[.val (.ref a), .val (.int p), .unset] [(.ref b)])
  refine own_ifnonnullYes (pc' := 26) X31 hx (hb hby own_d6_4) (by decide) (by decide) ?_
  refine own_iloadN (pc' := 27) X31 hx (hb hby own_d6_26) rfl rfl ?_
  refine own_callS (pc' := 30) (y := (⟨"com/example/larder/larder/cache/UseCounts", "spread", "(I)I"⟩ : MethodName)) (W := 0) (rm := own_room5) (argsL := [(.int p)]) (rest := []) X31 hx hZ e31 hown (by rw [hml]; rfl) (own_w43 hw) (own_w24 hw) (own_w25 hw) (own_w26 hw) (by decide) (own_rm5 lch Z a0 hw [] p h0 n0) (by decide) (by decide) (by decide) (by decide) (lenOf own_pd0 rfl) rfl (by exact Nat.le_of_eq rfl) (hb hby own_d6_27) rfl ?_
  intro T32 Lc32 v32 X32 hQ32
  obtain ⟨rfl, Nq32, Kq32⟩ := hQ32
  have N32 := Fr.app N0 Nq32
  show own_Ends prg e below s _ _ _ T32 (mkF m 30 #[.val (.ref a), .val (.int p), .unset] [(.int (own_spread p))])
  refine own_istoreN (pc' := 31) (l' := #[.val (.ref a), .val (.int p), .val (.int (own_spread p))]) X32 hx (hb hby own_d6_30) rfl rfl ?_
  refine own_aloadN (pc' := 32) X32 hx (hb hby own_d6_31) rfl rfl rfl ?_
  refine own_dup (pc' := 33) X32 hx (hb hby own_d6_32) rfl rfl ?_
  obtain ⟨T33, X33, e33, st33⟩ := getF X32 hx hZ hown (host := "") (Or.inl (own_w44 hw)) Via.refl Kq32 FR (g := (mkF m 33 #[.val (.ref a), .val (.int p), .val (.int (own_spread p))] [(.ref a), (.ref a)])) rfl rfl (hb hby own_d6_33)
  refine own_go st33 ?_
  show own_Ends prg e below s _ _ _ T33 (mkF m 36 #[.val (.ref a), .val (.int p), .val (.int (own_spread p))] [(.int (1 : Int32)), (.ref a)])
  refine own_iconst (pc' := 37) (z := (1 : Int32)) X33 hx (hb hby own_d6_36) rfl rfl ?_
  refine own_iadd (pc' := 38) (z := (2 : Int32)) X33 hx (hb hby own_d6_37) rfl (by decide) ?_
  obtain ⟨T34, h34, X34, e34, W34, st34⟩ := putF X33 hx hZ hown (host := "") (Or.inl (own_w44 hw)) Via.refl e33 FR E0 (Or.inl (own_w45 hw)) (own_w1 hw) (ty := .int) (by decide) rfl rfl (g := (mkF m 38 #[.val (.ref a), .val (.int p), .val (.int (own_spread p))] [(.int (2 : Int32)), (.ref a)])) rfl rfl (hb hby own_d6_38)
  refine own_go st34 ?_
  have Fw34 := FR.same W34
  have N34 := Fr.snoc X34 N32 ga
  show own_Ends prg e below s _ _ _ T34 (mkF m 41 #[.val (.ref a), .val (.int p), .val (.int (own_spread p))] [])
  refine own_aloadN (pc' := 42) X34 hx (hb hby own_d6_41) rfl rfl rfl ?_
  have f35 := (FS.other W34 (Or.inr (slot_ne (Or.inl (own_w22 hw)) (Or.inl (own_w45 hw)) (by decide) (t := (.array .long)) (t' := .int) (by decide) (by decide))))
  obtain ⟨T36, X36, e36, st36⟩ := getF X34 hx hZ hown (host := "") (Or.inl (own_w21 hw)) Via.refl e34 f35 (g := (mkF m 42 #[.val (.ref a), .val (.int p), .val (.int (own_spread p))] [(.ref a)])) rfl rfl (hb hby own_d6_42)
  refine own_go st36 ?_
  show own_Ends prg e below s _ _ _ T36 (mkF m 45 #[.val (.ref a), .val (.int p), .val (.int (own_spread p))] [(.ref b)])
  refine own_iloadN (pc' := 46) X36 hx (hb hby own_d6_45) rfl rfl ?_
  refine own_aloadN (pc' := 47) X36 hx (hb hby own_d6_46) rfl rfl rfl ?_
  obtain ⟨T37, X37, e37, st37⟩ := getF X36 hx hZ hown (host := "") (Or.inl (own_w21 hw)) Via.refl e36 f35 (g := (mkF m 47 #[.val (.ref a), .val (.int p), .val (.int (own_spread p))] [(.ref a), (.int (own_spread p)), (.ref b)])) rfl rfl (hb hby own_d6_47)
  refine own_go st37 ?_
  show own_Ends prg e below s _ _ _ T37 (mkF m 50 #[.val (.ref a), .val (.int p), .val (.int (own_spread p))] [(.ref b), (.int (own_spread p)), (.ref b)])
  have f38 := (VB.other W34 (Ne.symm hne))
  refine own_alen (pc' := 51) X37 hx hZ e37 f38 (hb hby own_d6_50) rfl ?_
  refine own_iconst (pc' := 52) (z := (1 : Int32)) X37 hx (hb hby own_d6_51) rfl rfl ?_
  refine own_isub (pc' := 53) (z := (7 : Int32)) X37 hx (hb hby own_d6_52) rfl (by decide) ?_
  refine own_iand (pc' := 54) (z := ((own_spread p) &&& (7 : Int32))) X37 hx (hb hby own_d6_53) rfl rfl ?_
  refine own_iloadN (pc' := 55) X37 hx (hb hby own_d6_54) rfl rfl ?_
  refine own_i2l (pc' := 56) (z := (own_spread p).toInt64) X37 hx (hb hby own_d6_55) rfl rfl ?_
  refine own_bipush (pc' := 58) (z := (32 : Int32)) X37 hx (hb hby own_d6_56) rfl rfl ?_
  refine own_lshl (pc' := 59) (z := ((own_spread p).toInt64 <<< ((32 : Int32) &&& 0x3f).toInt64)) X37 hx (hb hby own_d6_58) rfl rfl ?_
  refine own_aloadN (pc' := 60) X37 hx (hb hby own_d6_59) rfl rfl rfl ?_
  obtain ⟨T39, X39, e39, st39⟩ := getF X37 hx hZ hown (host := "") (Or.inl (own_w44 hw)) Via.refl e37 Fw34 (g := (mkF m 60 #[.val (.ref a), .val (.int p), .val (.int (own_spread p))] [(.ref a), (.long ((own_spread p).toInt64 <<< ((32 : Int32) &&& 0x3f).toInt64)), (.int ((own_spread p) &&& (7 : Int32))), (.ref b)])) rfl rfl (hb hby own_d6_60)
  refine own_go st39 ?_
  show own_Ends prg e below s _ _ _ T39 (mkF m 63 #[.val (.ref a), .val (.int p), .val (.int (own_spread p))] [(.int (2 : Int32)), (.long ((own_spread p).toInt64 <<< ((32 : Int32) &&& 0x3f).toInt64)), (.int ((own_spread p) &&& (7 : Int32))), (.ref b)])
  refine own_i2l (pc' := 64) (z := (2 : Int64)) X39 hx (hb hby own_d6_63) rfl (by decide) ?_
  refine own_ldc2J (pc' := 67) X39 hx hZ hown (own_w46 hw) (hb hby own_d6_64) rfl ?_
  refine own_land (pc' := 68) (z := (2 : Int64)) X39 hx (hb hby own_d6_67) rfl (by decide) ?_
  refine own_lor (pc' := 69) (z := (((own_spread p).toInt64 <<< ((32 : Int32) &&& 0x3f).toInt64) ||| (2 : Int64))) X39 hx (hb hby own_d6_68) rfl rfl ?_
  refine own_lastore (pc' := 70) X39 hx hZ e39 f38 (hb hby own_d6_69) rfl (own_inm (Or.inr (Or.inr ⟨rfl, rfl⟩)) rfl _) (own_ixm (7 : Int32) (own_spread p)) rfl (by rw [own_LJlen]; rw [hl]; exact own_ixlt (Or.inr (Or.inr ⟨rfl, rfl⟩)) _) N34 gb ?_
  intro T40 h40 L40 X40 e40 N40 W40 V40
  rw [own_LJset] at V40
  show own_Ends prg e below s _ _ _ T40 (mkF m 70 #[.val (.ref a), .val (.int p), .val (.int (own_spread p))] [])
  refine own_retV X40 hx hlk hret (hb hby own_d6_70) (by decide) (by decide) ?_
  have f41 := ((K0.wr W34 (Or.inl (List.mem_of_getElem? (i := 0) rfl))).wr W40 (Or.inl (List.mem_of_getElem? (i := 1) rfl)))
  have f42 := ((FD.other W34 (Or.inr (slot_ne (Or.inr (own_w15 hw)) (Or.inl (own_w45 hw)) (by decide) (t := .int) (t' := .int) (by decide) (by decide)))).other W40 (Or.inl hne))
  have f43 := (f35.other W40 (Or.inl hne))
  have f44 := (Fw34.other W40 (Or.inl hne))
  rw [e40]; exact ⟨rfl, N40, f41, f42, f43, f44, V40⟩
def own_room6_3_2 : Room := { frames := 1, cells := 0, slots := 0, locals := 13 }
def own_Q6_3_2 (Z : State) (a : Addr) (p : Int32) (b : Addr) (bk : ClassId) (l : List Int64) (h0 : Heap) (n0 : Nat) (v : Option Value) (h : Heap) (L : List Loc) : Prop := v = none ∧ Fr n0 L ∧ Keep h0 h [a, b] ∧ Fld Z h a "com/example/larder/larder/cache/EvictedKeys" "depth" "I" (.int (3 : Int32)) ∧ Fld Z h a "com/example/larder/larder/cache/EvictedKeys" "slots" "[J" (.ref b) ∧ Fld Z h a "com/example/larder/larder/cache/EvictedKeys" "remembered" "I" (.int (3 : Int32)) ∧ Arv Z h b bk .long (8 : Int32) (own_LJ (l.set (own_ixm (7 : Int32) (own_spread p)) (own_pack (own_spread p) (3 : Int64)))) (.long (0 : Int64))
theorem own_ef_rm6_3_2 (m : MethodId) (x0 : Addr) (x1 : Int32) : entryFrame m #[(.ref x0), (.int x1)] 3 = mkF m 0 #[.val (.ref x0), .val (.int x1), .unset] [] := by first | (simp [entryFrame, mkF, argsToLocals, Value.category]; done) | rfl
set_option maxRecDepth 65536 in
set_option maxHeartbeats 40000000 in
theorem own_rm6_3_2 (lch : Launch) (Z : State) (a0 : Array Value) (hw : ∀ d ∈ tables_1, d.before a0 Z = true) (ws : List Jvm.Cond) (a : Addr) (p : Int32) (b : Addr) (bk : ClassId) (l : List Int64) (h0 : Heap) (n0 : Nat) (E0 : Exa Z h0 a "com/example/larder/larder/cache/EvictedKeys") (FD : Fld Z h0 a "com/example/larder/larder/cache/EvictedKeys" "depth" "I" (.int (3 : Int32))) (FS : Fld Z h0 a "com/example/larder/larder/cache/EvictedKeys" "slots" "[J" (.ref b)) (FR : Fld Z h0 a "com/example/larder/larder/cache/EvictedKeys" "remembered" "I" (.int (2 : Int32))) (ga : n0 ≤ a) (VB : Arv Z h0 b bk .long (8 : Int32) (own_LJ l) (.long (0 : Int64))) (hl : l.length = 8) (gb : n0 ≤ b) (hne : a ≠ b) :
    MetFree lch (⟨"com/example/larder/larder/cache/EvictedKeys", "remember", "(I)V"⟩ : MethodName) (head1 (Jvm.Cond.code (⟨"com/example/larder/larder/cache/EvictedKeys", "remember", "(I)V"⟩ : MethodName) prog_5_method_2_code 3 none :: ws) own_room6_3_2) (fun zz U => zz = #[(.ref a), (.int p)] ∧ Z.Warmed39 U.vm ∧ U.heap = h0) (fun _ _ _ _ _ => True) (fun _ U o U' => ∃ v L, o = .returned v ∧ own_Q6_3_2 Z a p b bk l h0 n0 v U'.heap L ∧ FrameEnd U o U' L own_room6_3_2.cells own_room6_3_2.slots) := by
  refine MetFree.of_bodySF (plainFor_of_name own_pn2) hisR ?_
  intro prg e s m args below meth c s₁ Bd hml0 hP hK
  obtain ⟨rfl, hZ, hh⟩ := hP
  have hx := Bd.exec
  have hby := Bd.bytes
  have hml : c.maxLocals = 3 := hml0
  have hown : s.vm.findClass "com/example/larder/larder/cache/EvictedKeys" = some m.cls := findClass_of_methodNamed Bd.named
  have hnm := (name_of_methodNamed Bd.named Bd.method).1
  have hlk : meth.locks = false := BodyLoose.notSynchronized Bd
  have hret := Bd.returns
  have X0 : Stand prg lch e own_room6_3_2 s m #[(.ref a), (.int p)] below meth c s₁ [] 0 0 := Stand.of_body Bd
  have e0 : s₁.heap = h0 := by rw [← hh, Bd.state]; rfl
  have N0 := Fr.nil n0
  show own_Ends prg e below s (own_Q6_3_2 Z a p b bk l h0 n0) own_room6_3_2.cells own_room6_3_2.slots s₁ (entryFrame m #[(.ref a), (.int p)] 3)
  refine own_cast (own_ef_rm6_3_2 m a p) ?_
  have K0 := Keep.refl h0 ([a, b] : List Addr)
  refine own_aloadN (pc' := 1) X0 hx (hb hby own_d6_0) rfl rfl rfl ?_
  obtain ⟨T31, X31, e31, st31⟩ := getF X0 hx hZ hown (host := "") (Or.inl (own_w21 hw)) Via.refl e0 FS (g := (mkF m 1 #[.val (.ref a), .val (.int p), .unset] [(.ref a)])) rfl rfl (hb hby own_d6_1)
  refine own_go st31 ?_
  show own_Ends prg e below s _ _ _ T31 (mkF m 4 #[.val (.ref a), .val (.int p), .unset] [(.ref b)])
  refine own_ifnonnullYes (pc' := 26) X31 hx (hb hby own_d6_4) (by decide) (by decide) ?_
  refine own_iloadN (pc' := 27) X31 hx (hb hby own_d6_26) rfl rfl ?_
  refine own_callS (pc' := 30) (y := (⟨"com/example/larder/larder/cache/UseCounts", "spread", "(I)I"⟩ : MethodName)) (W := 0) (rm := own_room5) (argsL := [(.int p)]) (rest := []) X31 hx hZ e31 hown (by rw [hml]; rfl) (own_w43 hw) (own_w24 hw) (own_w25 hw) (own_w26 hw) (by decide) (own_rm5 lch Z a0 hw [] p h0 n0) (by decide) (by decide) (by decide) (by decide) (lenOf own_pd0 rfl) rfl (by exact Nat.le_of_eq rfl) (hb hby own_d6_27) rfl ?_
  intro T32 Lc32 v32 X32 hQ32
  obtain ⟨rfl, Nq32, Kq32⟩ := hQ32
  have N32 := Fr.app N0 Nq32
  show own_Ends prg e below s _ _ _ T32 (mkF m 30 #[.val (.ref a), .val (.int p), .unset] [(.int (own_spread p))])
  refine own_istoreN (pc' := 31) (l' := #[.val (.ref a), .val (.int p), .val (.int (own_spread p))]) X32 hx (hb hby own_d6_30) rfl rfl ?_
  refine own_aloadN (pc' := 32) X32 hx (hb hby own_d6_31) rfl rfl rfl ?_
  refine own_dup (pc' := 33) X32 hx (hb hby own_d6_32) rfl rfl ?_
  obtain ⟨T33, X33, e33, st33⟩ := getF X32 hx hZ hown (host := "") (Or.inl (own_w44 hw)) Via.refl Kq32 FR (g := (mkF m 33 #[.val (.ref a), .val (.int p), .val (.int (own_spread p))] [(.ref a), (.ref a)])) rfl rfl (hb hby own_d6_33)
  refine own_go st33 ?_
  show own_Ends prg e below s _ _ _ T33 (mkF m 36 #[.val (.ref a), .val (.int p), .val (.int (own_spread p))] [(.int (2 : Int32)), (.ref a)])
  refine own_iconst (pc' := 37) (z := (1 : Int32)) X33 hx (hb hby own_d6_36) rfl rfl ?_
  refine own_iadd (pc' := 38) (z := (3 : Int32)) X33 hx (hb hby own_d6_37) rfl (by decide) ?_
  obtain ⟨T34, h34, X34, e34, W34, st34⟩ := putF X33 hx hZ hown (host := "") (Or.inl (own_w44 hw)) Via.refl e33 FR E0 (Or.inl (own_w45 hw)) (own_w1 hw) (ty := .int) (by decide) rfl rfl (g := (mkF m 38 #[.val (.ref a), .val (.int p), .val (.int (own_spread p))] [(.int (3 : Int32)), (.ref a)])) rfl rfl (hb hby own_d6_38)
  refine own_go st34 ?_
  have Fw34 := FR.same W34
  have N34 := Fr.snoc X34 N32 ga
  show own_Ends prg e below s _ _ _ T34 (mkF m 41 #[.val (.ref a), .val (.int p), .val (.int (own_spread p))] [])
  refine own_aloadN (pc' := 42) X34 hx (hb hby own_d6_41) rfl rfl rfl ?_
  have f35 := (FS.other W34 (Or.inr (slot_ne (Or.inl (own_w22 hw)) (Or.inl (own_w45 hw)) (by decide) (t := (.array .long)) (t' := .int) (by decide) (by decide))))
  obtain ⟨T36, X36, e36, st36⟩ := getF X34 hx hZ hown (host := "") (Or.inl (own_w21 hw)) Via.refl e34 f35 (g := (mkF m 42 #[.val (.ref a), .val (.int p), .val (.int (own_spread p))] [(.ref a)])) rfl rfl (hb hby own_d6_42)
  refine own_go st36 ?_
  show own_Ends prg e below s _ _ _ T36 (mkF m 45 #[.val (.ref a), .val (.int p), .val (.int (own_spread p))] [(.ref b)])
  refine own_iloadN (pc' := 46) X36 hx (hb hby own_d6_45) rfl rfl ?_
  refine own_aloadN (pc' := 47) X36 hx (hb hby own_d6_46) rfl rfl rfl ?_
  obtain ⟨T37, X37, e37, st37⟩ := getF X36 hx hZ hown (host := "") (Or.inl (own_w21 hw)) Via.refl e36 f35 (g := (mkF m 47 #[.val (.ref a), .val (.int p), .val (.int (own_spread p))] [(.ref a), (.int (own_spread p)), (.ref b)])) rfl rfl (hb hby own_d6_47)
  refine own_go st37 ?_
  show own_Ends prg e below s _ _ _ T37 (mkF m 50 #[.val (.ref a), .val (.int p), .val (.int (own_spread p))] [(.ref b), (.int (own_spread p)), (.ref b)])
  have f38 := (VB.other W34 (Ne.symm hne))
  refine own_alen (pc' := 51) X37 hx hZ e37 f38 (hb hby own_d6_50) rfl ?_
  refine own_iconst (pc' := 52) (z := (1 : Int32)) X37 hx (hb hby own_d6_51) rfl rfl ?_
  refine own_isub (pc' := 53) (z := (7 : Int32)) X37 hx (hb hby own_d6_52) rfl (by decide) ?_
  refine own_iand (pc' := 54) (z := ((own_spread p) &&& (7 : Int32))) X37 hx (hb hby own_d6_53) rfl rfl ?_
  refine own_iloadN (pc' := 55) X37 hx (hb hby own_d6_54) rfl rfl ?_
  refine own_i2l (pc' := 56) (z := (own_spread p).toInt64) X37 hx (hb hby own_d6_55) rfl rfl ?_
  refine own_bipush (pc' := 58) (z := (32 : Int32)) X37 hx (hb hby own_d6_56) rfl rfl ?_
  refine own_lshl (pc' := 59) (z := ((own_spread p).toInt64 <<< ((32 : Int32) &&& 0x3f).toInt64)) X37 hx (hb hby own_d6_58) rfl rfl ?_
  refine own_aloadN (pc' := 60) X37 hx (hb hby own_d6_59) rfl rfl rfl ?_
  obtain ⟨T39, X39, e39, st39⟩ := getF X37 hx hZ hown (host := "") (Or.inl (own_w44 hw)) Via.refl e37 Fw34 (g := (mkF m 60 #[.val (.ref a), .val (.int p), .val (.int (own_spread p))] [(.ref a), (.long ((own_spread p).toInt64 <<< ((32 : Int32) &&& 0x3f).toInt64)), (.int ((own_spread p) &&& (7 : Int32))), (.ref b)])) rfl rfl (hb hby own_d6_60)
  refine own_go st39 ?_
  show own_Ends prg e below s _ _ _ T39 (mkF m 63 #[.val (.ref a), .val (.int p), .val (.int (own_spread p))] [(.int (3 : Int32)), (.long ((own_spread p).toInt64 <<< ((32 : Int32) &&& 0x3f).toInt64)), (.int ((own_spread p) &&& (7 : Int32))), (.ref b)])
  refine own_i2l (pc' := 64) (z := (3 : Int64)) X39 hx (hb hby own_d6_63) rfl (by decide) ?_
  refine own_ldc2J (pc' := 67) X39 hx hZ hown (own_w46 hw) (hb hby own_d6_64) rfl ?_
  refine own_land (pc' := 68) (z := (3 : Int64)) X39 hx (hb hby own_d6_67) rfl (by decide) ?_
  refine own_lor (pc' := 69) (z := (((own_spread p).toInt64 <<< ((32 : Int32) &&& 0x3f).toInt64) ||| (3 : Int64))) X39 hx (hb hby own_d6_68) rfl rfl ?_
  refine own_lastore (pc' := 70) X39 hx hZ e39 f38 (hb hby own_d6_69) rfl (own_inm (Or.inr (Or.inr ⟨rfl, rfl⟩)) rfl _) (own_ixm (7 : Int32) (own_spread p)) rfl (by rw [own_LJlen]; rw [hl]; exact own_ixlt (Or.inr (Or.inr ⟨rfl, rfl⟩)) _) N34 gb ?_
  intro T40 h40 L40 X40 e40 N40 W40 V40
  rw [own_LJset] at V40
  show own_Ends prg e below s _ _ _ T40 (mkF m 70 #[.val (.ref a), .val (.int p), .val (.int (own_spread p))] [])
  refine own_retV X40 hx hlk hret (hb hby own_d6_70) (by decide) (by decide) ?_
  have f41 := ((K0.wr W34 (Or.inl (List.mem_of_getElem? (i := 0) rfl))).wr W40 (Or.inl (List.mem_of_getElem? (i := 1) rfl)))
  have f42 := ((FD.other W34 (Or.inr (slot_ne (Or.inr (own_w15 hw)) (Or.inl (own_w45 hw)) (by decide) (t := .int) (t' := .int) (by decide) (by decide)))).other W40 (Or.inl hne))
  have f43 := (f35.other W40 (Or.inl hne))
  have f44 := (Fw34.other W40 (Or.inl hne))
  rw [e40]; exact ⟨rfl, N40, f41, f42, f43, f44, V40⟩
def own_room6_4_0 : Room := { frames := 2, cells := 1, slots := 8, locals := 28 }
def own_Q6_4_0 (Z : State) (a : Addr) (p : Int32) (h0 : Heap) (n0 : Nat) (v : Option Value) (h : Heap) (L : List Loc) : Prop := ∃ (b : Addr) (bk : ClassId), v = none ∧ Fr n0 L ∧ Keep h0 h [a] ∧ h0.size ≤ b ∧ Fld Z h a "com/example/larder/larder/cache/EvictedKeys" "depth" "I" (.int (4 : Int32)) ∧ Fld Z h a "com/example/larder/larder/cache/EvictedKeys" "slots" "[J" (.ref b) ∧ Fld Z h a "com/example/larder/larder/cache/EvictedKeys" "remembered" "I" (.int (1 : Int32)) ∧ Arv Z h b bk .long (8 : Int32) (own_LJ ((List.replicate 8 (0 : Int64)).set (own_ixm (7 : Int32) (own_spread p)) (own_pack (own_spread p) (1 : Int64)))) (.long (0 : Int64))
theorem own_ef_rm6_4_0 (m : MethodId) (x0 : Addr) (x1 : Int32) : entryFrame m #[(.ref x0), (.int x1)] 3 = mkF m 0 #[.val (.ref x0), .val (.int x1), .unset] [] := by first | (simp [entryFrame, mkF, argsToLocals, Value.category]; done) | rfl
set_option maxRecDepth 65536 in
set_option maxHeartbeats 40000000 in
theorem own_rm6_4_0 (lch : Launch) (Z : State) (a0 : Array Value) (hw : ∀ d ∈ tables_1, d.before a0 Z = true) (ws : List Jvm.Cond) (a : Addr) (p : Int32) (h0 : Heap) (n0 : Nat) (Z0 : n0 ≤ h0.size) (E0 : Exa Z h0 a "com/example/larder/larder/cache/EvictedKeys") (FD : Fld Z h0 a "com/example/larder/larder/cache/EvictedKeys" "depth" "I" (.int (4 : Int32))) (FS : Fld Z h0 a "com/example/larder/larder/cache/EvictedKeys" "slots" "[J" .null) (FR : Fld Z h0 a "com/example/larder/larder/cache/EvictedKeys" "remembered" "I" (.int (0 : Int32))) (ga : n0 ≤ a) :
    MetFree lch (⟨"com/example/larder/larder/cache/EvictedKeys", "remember", "(I)V"⟩ : MethodName) (head1 (Jvm.Cond.code (⟨"com/example/larder/larder/cache/EvictedKeys", "remember", "(I)V"⟩ : MethodName) prog_5_method_2_code 3 none :: ws) own_room6_4_0) (fun zz U => zz = #[(.ref a), (.int p)] ∧ Z.Warmed39 U.vm ∧ U.heap = h0) (fun _ _ _ _ _ => True) (fun _ U o U' => ∃ v L, o = .returned v ∧ own_Q6_4_0 Z a p h0 n0 v U'.heap L ∧ FrameEnd U o U' L own_room6_4_0.cells own_room6_4_0.slots) := by
  refine MetFree.of_bodySF (plainFor_of_name own_pn2) hisR ?_
  intro prg e s m args below meth c s₁ Bd hml0 hP hK
  obtain ⟨rfl, hZ, hh⟩ := hP
  have hx := Bd.exec
  have hby := Bd.bytes
  have hml : c.maxLocals = 3 := hml0
  have hown : s.vm.findClass "com/example/larder/larder/cache/EvictedKeys" = some m.cls := findClass_of_methodNamed Bd.named
  have hnm := (name_of_methodNamed Bd.named Bd.method).1
  have hlk : meth.locks = false := BodyLoose.notSynchronized Bd
  have hret := Bd.returns
  have X0 : Stand prg lch e own_room6_4_0 s m #[(.ref a), (.int p)] below meth c s₁ [] 0 0 := Stand.of_body Bd
  have e0 : s₁.heap = h0 := by rw [← hh, Bd.state]; rfl
  have N0 := Fr.nil n0
  show own_Ends prg e below s (own_Q6_4_0 Z a p h0 n0) own_room6_4_0.cells own_room6_4_0.slots s₁ (entryFrame m #[(.ref a), (.int p)] 3)
  refine own_cast (own_ef_rm6_4_0 m a p) ?_
  have K0 := Keep.refl h0 ([a] : List Addr)
  refine own_aloadN (pc' := 1) X0 hx (hb hby own_d6_0) rfl rfl rfl ?_
  obtain ⟨T31, X31, e31, st31⟩ := getF X0 hx hZ hown (host := "") (Or.inl (own_w21 hw)) Via.refl e0 FS (g := (mkF m 1 #[.val (.ref a), .val (.int p), .unset] [(.ref a)])) rfl rfl (hb hby own_d6_1)
  refine own_go st31 ?_
  show own_Ends prg e below s _ _ _ T31 (mkF m 4 #[.val (.ref a), .val (.int p), .unset] [.null])
  refine own_ifnonnullNo (pc' := 7) X31 hx (hb hby own_d6_4) rfl ?_
  refine own_aloadN (pc' := 8) X31 hx (hb hby own_d6_7) rfl rfl rfl ?_
  refine own_iconst (pc' := 9) (z := (2 : Int32)) X31 hx (hb hby own_d6_8) rfl rfl ?_
  refine own_aloadN (pc' := 10) X31 hx (hb hby own_d6_9) rfl rfl rfl ?_
  obtain ⟨T32, X32, e32, st32⟩ := getF X31 hx hZ hown (host := "") (Or.inl (own_w14 hw)) Via.refl e31 FD (g := (mkF m 10 #[.val (.ref a), .val (.int p), .unset] [(.ref a), (.int (2 : Int32)), (.ref a)])) rfl rfl (hb hby own_d6_10)
  refine own_go st32 ?_
  show own_Ends prg e below s _ _ _ T32 (mkF m 13 #[.val (.ref a), .val (.int p), .unset] [(.int (4 : Int32)), (.int (2 : Int32)), (.ref a)])
  refine own_imul (pc' := 14) (z := (8 : Int32)) X32 hx (hb hby own_d6_13) rfl (by decide) ?_
  refine own_iconst (pc' := 15) (z := (1 : Int32)) X32 hx (hb hby own_d6_14) rfl rfl ?_
  refine own_isub (pc' := 16) (z := (7 : Int32)) X32 hx (hb hby own_d6_15) rfl (by decide) ?_
  refine own_callS (pc' := 19) (y := (⟨"java/lang/Integer", "highestOneBit", "(I)I"⟩ : MethodName)) (W := 1) (rm := own_room7_7) (argsL := [(.int (7 : Int32))]) (rest := [(.ref a)]) X32 hx hZ e32 hown (by rw [hml]; rfl) (own_w33 hw) (own_w34 hw) (own_w35 hw) (own_w36 hw) (by decide) (own_rm7_7 lch Z a0 hw [] h0 n0) (by decide) (by decide) (by decide) (by decide) (lenOf own_pd0 rfl) rfl (by exact Nat.le_of_eq rfl) (hb hby own_d6_16) rfl ?_
  intro T33 Lc33 v33 X33 hQ33
  obtain ⟨rfl, Nq33, Kq33⟩ := hQ33
  have N33 := Fr.app N0 Nq33
  show own_Ends prg e below s _ _ _ T33 (mkF m 19 #[.val (.ref a), .val (.int p), .unset] [(.int (4 : Int32)), (.ref a)])
  refine own_iconst (pc' := 20) (z := (1 : Int32)) X33 hx (hb hby own_d6_19) rfl rfl ?_
  refine own_ishl (pc' := 21) (z := (8 : Int32)) X33 hx (hb hby own_d6_20) rfl (by decide) ?_
  refine own_newarr (pc' := 23) (aty := .long) X33 hx hZ (own_w42 hw) Kq33 (hb hby own_d6_21) rfl (by decide) 8 8 (by decide) (by decide) (by decide) (by decide) ?_
  intro T34 h34 a34 k34 X34 e34 E34 g34 V34
  replace V34 : Arv Z h34 a34 k34 .long (8 : Int32) [(.long (0 : Int64)), (.long (0 : Int64)), (.long (0 : Int64)), (.long (0 : Int64)), (.long (0 : Int64)), (.long (0 : Int64)), (.long (0 : Int64)), (.long (0 : Int64))] (.long (0 : Int64)) := V34
  have ge35 : n0 ≤ a34 := by rw [g34]; exact Z0
  have sz36 : h0.size ≤ a34 := by rw [g34]; exact K0.1
  have ne37 : a ≠ a34 := Nat.ne_of_lt (by rw [g34]; exact E0.lt)
  show own_Ends prg e below s _ _ _ T34 (mkF m 23 #[.val (.ref a), .val (.int p), .unset] [(.ref a34), (.ref a)])
  have f38 := (FS.ext E34)
  have f39 := (E0.ext E34)
  obtain ⟨T40, h40, X40, e40, W40, st40⟩ := putF X34 hx hZ hown (host := "") (Or.inl (own_w21 hw)) Via.refl e34 f38 f39 (Or.inl (own_w22 hw)) (own_w1 hw) (ty := (.array .long)) (by decide) rfl rfl (g := (mkF m 23 #[.val (.ref a), .val (.int p), .unset] [(.ref a34), (.ref a)])) rfl rfl (hb hby own_d6_23)
  refine own_go st40 ?_
  have Fw40 := f38.same W40
  have N40 := Fr.snoc X40 N33 ga
  show own_Ends prg e below s _ _ _ T40 (mkF m 26 #[.val (.ref a), .val (.int p), .unset] [])
  have f41 := (V34.other W40 (Ne.symm ne37))
  have V42 : Arv Z h40 a34 k34 .long (8 : Int32) (own_LJ (List.replicate 8 (0 : Int64))) (.long (0 : Int64)) := f41
  refine own_iloadN (pc' := 27) X40 hx (hb hby own_d6_26) rfl rfl ?_
  refine own_callS (pc' := 30) (y := (⟨"com/example/larder/larder/cache/UseCounts", "spread", "(I)I"⟩ : MethodName)) (W := 0) (rm := own_room5) (argsL := [(.int p)]) (rest := []) X40 hx hZ e40 hown (by rw [hml]; rfl) (own_w43 hw) (own_w24 hw) (own_w25 hw) (own_w26 hw) (by decide) (own_rm5 lch Z a0 hw [] p h40 n0) (by decide) (by decide) (by decide) (by decide) (lenOf own_pd0 rfl) rfl (by exact Nat.le_of_eq rfl) (hb hby own_d6_27) rfl ?_
  intro T43 Lc43 v43 X43 hQ43
  obtain ⟨rfl, Nq43, Kq43⟩ := hQ43
  have N43 := Fr.app N40 Nq43
  show own_Ends prg e below s _ _ _ T43 (mkF m 30 #[.val (.ref a), .val (.int p), .unset] [(.int (own_spread p))])
  refine own_istoreN (pc' := 31) (l' := #[.val (.ref a), .val (.int p), .val (.int (own_spread p))]) X43 hx (hb hby own_d6_30) rfl rfl ?_
  refine own_aloadN (pc' := 32) X43 hx (hb hby own_d6_31) rfl rfl rfl ?_
  refine own_dup (pc' := 33) X43 hx (hb hby own_d6_32) rfl rfl ?_
  have f44 := ((FR.ext E34).other W40 (Or.inr (slot_ne (Or.inl (own_w45 hw)) (Or.inl (own_w22 hw)) (by decide) (t := .int) (t' := (.array .long)) (by decide) (by decide))))
  obtain ⟨T45, X45, e45, st45⟩ := getF X43 hx hZ hown (host := "") (Or.inl (own_w44 hw)) Via.refl Kq43 f44 (g := (mkF m 33 #[.val (.ref a), .val (.int p), .val (.int (own_spread p))] [(.ref a), (.ref a)])) rfl rfl (hb hby own_d6_33)
  refine own_go st45 ?_
  show own_Ends prg e below s _ _ _ T45 (mkF m 36 #[.val (.ref a), .val (.int p), .val (.int (own_spread p))] [(.int (0 : Int32)), (.ref a)])
  refine own_iconst (pc' := 37) (z := (1 : Int32)) X45 hx (hb hby own_d6_36) rfl rfl ?_
  refine own_iadd (pc' := 38) (z := (1 : Int32)) X45 hx (hb hby own_d6_37) rfl (by decide) ?_
  have f46 := (f39.wr W40)
  obtain ⟨T47, h47, X47, e47, W47, st47⟩ := putF X45 hx hZ hown (host := "") (Or.inl (own_w44 hw)) Via.refl e45 f44 f46 (Or.inl (own_w45 hw)) (own_w1 hw) (ty := .int) (by decide) rfl rfl (g := (mkF m 38 #[.val (.ref a), .val (.int p), .val (.int (own_spread p))] [(.int (1 : Int32)), (.ref a)])) rfl rfl (hb hby own_d6_38)
  refine own_go st47 ?_
  have Fw47 := f44.same W47
  have N47 := Fr.snoc X47 N43 ga
  show own_Ends prg e below s _ _ _ T47 (mkF m 41 #[.val (.ref a), .val (.int p), .val (.int (own_spread p))] [])
  refine own_aloadN (pc' := 42) X47 hx (hb hby own_d6_41) rfl rfl rfl ?_
  have f48 := (Fw40.other W47 (Or.inr (slot_ne (Or.inl (own_w22 hw)) (Or.inl (own_w45 hw)) (by decide) (t := (.array .long)) (t' := .int) (by decide) (by decide))))
  obtain ⟨T49, X49, e49, st49⟩ := getF X47 hx hZ hown (host := "") (Or.inl (own_w21 hw)) Via.refl e47 f48 (g := (mkF m 42 #[.val (.ref a), .val (.int p), .val (.int (own_spread p))] [(.ref a)])) rfl rfl (hb hby own_d6_42)
  refine own_go st49 ?_
  show own_Ends prg e below s _ _ _ T49 (mkF m 45 #[.val (.ref a), .val (.int p), .val (.int (own_spread p))] [(.ref a34)])
  refine own_iloadN (pc' := 46) X49 hx (hb hby own_d6_45) rfl rfl ?_
  refine own_aloadN (pc' := 47) X49 hx (hb hby own_d6_46) rfl rfl rfl ?_
  obtain ⟨T50, X50, e50, st50⟩ := getF X49 hx hZ hown (host := "") (Or.inl (own_w21 hw)) Via.refl e49 f48 (g := (mkF m 47 #[.val (.ref a), .val (.int p), .val (.int (own_spread p))] [(.ref a), (.int (own_spread p)), (.ref a34)])) rfl rfl (hb hby own_d6_47)
  refine own_go st50 ?_
  show own_Ends prg e below s _ _ _ T50 (mkF m 50 #[.val (.ref a), .val (.int p), .val (.int (own_spread p))] [(.ref a34), (.int (own_spread p)), (.ref a34)])
  have f51 := (V42.other W47 (Ne.symm ne37))
  refine own_alen (pc' := 51) X50 hx hZ e50 f51 (hb hby own_d6_50) rfl ?_
  refine own_iconst (pc' := 52) (z := (1 : Int32)) X50 hx (hb hby own_d6_51) rfl rfl ?_
  refine own_isub (pc' := 53) (z := (7 : Int32)) X50 hx (hb hby own_d6_52) rfl (by decide) ?_
  refine own_iand (pc' := 54) (z := ((own_spread p) &&& (7 : Int32))) X50 hx (hb hby own_d6_53) rfl rfl ?_
  refine own_iloadN (pc' := 55) X50 hx (hb hby own_d6_54) rfl rfl ?_
  refine own_i2l (pc' := 56) (z := (own_spread p).toInt64) X50 hx (hb hby own_d6_55) rfl rfl ?_
  refine own_bipush (pc' := 58) (z := (32 : Int32)) X50 hx (hb hby own_d6_56) rfl rfl ?_
  refine own_lshl (pc' := 59) (z := ((own_spread p).toInt64 <<< ((32 : Int32) &&& 0x3f).toInt64)) X50 hx (hb hby own_d6_58) rfl rfl ?_
  refine own_aloadN (pc' := 60) X50 hx (hb hby own_d6_59) rfl rfl rfl ?_
  obtain ⟨T52, X52, e52, st52⟩ := getF X50 hx hZ hown (host := "") (Or.inl (own_w44 hw)) Via.refl e50 Fw47 (g := (mkF m 60 #[.val (.ref a), .val (.int p), .val (.int (own_spread p))] [(.ref a), (.long ((own_spread p).toInt64 <<< ((32 : Int32) &&& 0x3f).toInt64)), (.int ((own_spread p) &&& (7 : Int32))), (.ref a34)])) rfl rfl (hb hby own_d6_60)
  refine own_go st52 ?_
  show own_Ends prg e below s _ _ _ T52 (mkF m 63 #[.val (.ref a), .val (.int p), .val (.int (own_spread p))] [(.int (1 : Int32)), (.long ((own_spread p).toInt64 <<< ((32 : Int32) &&& 0x3f).toInt64)), (.int ((own_spread p) &&& (7 : Int32))), (.ref a34)])
  refine own_i2l (pc' := 64) (z := (1 : Int64)) X52 hx (hb hby own_d6_63) rfl (by decide) ?_
  refine own_ldc2J (pc' := 67) X52 hx hZ hown (own_w46 hw) (hb hby own_d6_64) rfl ?_
  refine own_land (pc' := 68) (z := (1 : Int64)) X52 hx (hb hby own_d6_67) rfl (by decide) ?_
  refine own_lor (pc' := 69) (z := (((own_spread p).toInt64 <<< ((32 : Int32) &&& 0x3f).toInt64) ||| (1 : Int64))) X52 hx (hb hby own_d6_68) rfl rfl ?_
  refine own_lastore (pc' := 70) X52 hx hZ e52 f51 (hb hby own_d6_69) rfl (own_inm (Or.inr (Or.inr ⟨rfl, rfl⟩)) rfl _) (own_ixm (7 : Int32) (own_spread p)) rfl (by rw [own_LJlen]; rw [List.length_replicate]; exact own_ixlt (Or.inr (Or.inr ⟨rfl, rfl⟩)) _) N47 ge35 ?_
  intro T53 h53 L53 X53 e53 N53 W53 V53
  rw [own_LJset] at V53
  show own_Ends prg e below s _ _ _ T53 (mkF m 70 #[.val (.ref a), .val (.int p), .val (.int (own_spread p))] [])
  refine own_retV X53 hx hlk hret (hb hby own_d6_70) (by decide) (by decide) ?_
  have f54 := ((((K0.ext E34).wr W40 (Or.inl (List.mem_of_getElem? (i := 0) rfl))).wr W47 (Or.inl (List.mem_of_getElem? (i := 0) rfl))).wr W53 (Or.inr sz36))
  have f55 := ((((FD.ext E34).other W40 (Or.inr (slot_ne (Or.inr (own_w15 hw)) (Or.inl (own_w22 hw)) (by decide) (t := .int) (t' := (.array .long)) (by decide) (by decide)))).other W47 (Or.inr (slot_ne (Or.inr (own_w15 hw)) (Or.inl (own_w45 hw)) (by decide) (t := .int) (t' := .int) (by decide) (by decide)))).other W53 (Or.inl ne37))
  have f56 := (f48.other W53 (Or.inl ne37))
  have f57 := (Fw47.other W53 (Or.inl ne37))
  rw [e53]; exact ⟨_, _, rfl, N53, f54, sz36, f55, f56, f57, V53⟩
def own_room6_4_1 : Room := { frames := 1, cells := 0, slots := 0, locals := 13 }
def own_Q6_4_1 (Z : State) (a : Addr) (p : Int32) (b : Addr) (bk : ClassId) (l : List Int64) (h0 : Heap) (n0 : Nat) (v : Option Value) (h : Heap) (L : List Loc) : Prop := v = none ∧ Fr n0 L ∧ Keep h0 h [a, b] ∧ Fld Z h a "com/example/larder/larder/cache/EvictedKeys" "depth" "I" (.int (4 : Int32)) ∧ Fld Z h a "com/example/larder/larder/cache/EvictedKeys" "slots" "[J" (.ref b) ∧ Fld Z h a "com/example/larder/larder/cache/EvictedKeys" "remembered" "I" (.int (2 : Int32)) ∧ Arv Z h b bk .long (8 : Int32) (own_LJ (l.set (own_ixm (7 : Int32) (own_spread p)) (own_pack (own_spread p) (2 : Int64)))) (.long (0 : Int64))
theorem own_ef_rm6_4_1 (m : MethodId) (x0 : Addr) (x1 : Int32) : entryFrame m #[(.ref x0), (.int x1)] 3 = mkF m 0 #[.val (.ref x0), .val (.int x1), .unset] [] := by first | (simp [entryFrame, mkF, argsToLocals, Value.category]; done) | rfl
set_option maxRecDepth 65536 in
set_option maxHeartbeats 40000000 in
theorem own_rm6_4_1 (lch : Launch) (Z : State) (a0 : Array Value) (hw : ∀ d ∈ tables_1, d.before a0 Z = true) (ws : List Jvm.Cond) (a : Addr) (p : Int32) (b : Addr) (bk : ClassId) (l : List Int64) (h0 : Heap) (n0 : Nat) (E0 : Exa Z h0 a "com/example/larder/larder/cache/EvictedKeys") (FD : Fld Z h0 a "com/example/larder/larder/cache/EvictedKeys" "depth" "I" (.int (4 : Int32))) (FS : Fld Z h0 a "com/example/larder/larder/cache/EvictedKeys" "slots" "[J" (.ref b)) (FR : Fld Z h0 a "com/example/larder/larder/cache/EvictedKeys" "remembered" "I" (.int (1 : Int32))) (ga : n0 ≤ a) (VB : Arv Z h0 b bk .long (8 : Int32) (own_LJ l) (.long (0 : Int64))) (hl : l.length = 8) (gb : n0 ≤ b) (hne : a ≠ b) :
    MetFree lch (⟨"com/example/larder/larder/cache/EvictedKeys", "remember", "(I)V"⟩ : MethodName) (head1 (Jvm.Cond.code (⟨"com/example/larder/larder/cache/EvictedKeys", "remember", "(I)V"⟩ : MethodName) prog_5_method_2_code 3 none :: ws) own_room6_4_1) (fun zz U => zz = #[(.ref a), (.int p)] ∧ Z.Warmed39 U.vm ∧ U.heap = h0) (fun _ _ _ _ _ => True) (fun _ U o U' => ∃ v L, o = .returned v ∧ own_Q6_4_1 Z a p b bk l h0 n0 v U'.heap L ∧ FrameEnd U o U' L own_room6_4_1.cells own_room6_4_1.slots) := by
  refine MetFree.of_bodySF (plainFor_of_name own_pn2) hisR ?_
  intro prg e s m args below meth c s₁ Bd hml0 hP hK
  obtain ⟨rfl, hZ, hh⟩ := hP
  have hx := Bd.exec
  have hby := Bd.bytes
  have hml : c.maxLocals = 3 := hml0
  have hown : s.vm.findClass "com/example/larder/larder/cache/EvictedKeys" = some m.cls := findClass_of_methodNamed Bd.named
  have hnm := (name_of_methodNamed Bd.named Bd.method).1
  have hlk : meth.locks = false := BodyLoose.notSynchronized Bd
  have hret := Bd.returns
  have X0 : Stand prg lch e own_room6_4_1 s m #[(.ref a), (.int p)] below meth c s₁ [] 0 0 := Stand.of_body Bd
  have e0 : s₁.heap = h0 := by rw [← hh, Bd.state]; rfl
  have N0 := Fr.nil n0
  show own_Ends prg e below s (own_Q6_4_1 Z a p b bk l h0 n0) own_room6_4_1.cells own_room6_4_1.slots s₁ (entryFrame m #[(.ref a), (.int p)] 3)
  refine own_cast (own_ef_rm6_4_1 m a p) ?_
  have K0 := Keep.refl h0 ([a, b] : List Addr)
  refine own_aloadN (pc' := 1) X0 hx (hb hby own_d6_0) rfl rfl rfl ?_
  obtain ⟨T31, X31, e31, st31⟩ := getF X0 hx hZ hown (host := "") (Or.inl (own_w21 hw)) Via.refl e0 FS (g := (mkF m 1 #[.val (.ref a), .val (.int p), .unset] [(.ref a)])) rfl rfl (hb hby own_d6_1)
  refine own_go st31 ?_
  show own_Ends prg e below s _ _ _ T31 (mkF m 4 #[.val (.ref a), .val (.int p), .unset] [(.ref b)])
  refine own_ifnonnullYes (pc' := 26) X31 hx (hb hby own_d6_4) (by decide) (by decide) ?_
  refine own_iloadN (pc' := 27) X31 hx (hb hby own_d6_26) rfl rfl ?_
  refine own_callS (pc' := 30) (y := (⟨"com/example/larder/larder/cache/UseCounts", "spread", "(I)I"⟩ : MethodName)) (W := 0) (rm := own_room5) (argsL := [(.int p)]) (rest := []) X31 hx hZ e31 hown (by rw [hml]; rfl) (own_w43 hw) (own_w24 hw) (own_w25 hw) (own_w26 hw) (by decide) (own_rm5 lch Z a0 hw [] p h0 n0) (by decide) (by decide) (by decide) (by decide) (lenOf own_pd0 rfl) rfl (by exact Nat.le_of_eq rfl) (hb hby own_d6_27) rfl ?_
  intro T32 Lc32 v32 X32 hQ32
  obtain ⟨rfl, Nq32, Kq32⟩ := hQ32
  have N32 := Fr.app N0 Nq32
  show own_Ends prg e below s _ _ _ T32 (mkF m 30 #[.val (.ref a), .val (.int p), .unset] [(.int (own_spread p))])
  refine own_istoreN (pc' := 31) (l' := #[.val (.ref a), .val (.int p), .val (.int (own_spread p))]) X32 hx (hb hby own_d6_30) rfl rfl ?_
  refine own_aloadN (pc' := 32) X32 hx (hb hby own_d6_31) rfl rfl rfl ?_
  refine own_dup (pc' := 33) X32 hx (hb hby own_d6_32) rfl rfl ?_
  obtain ⟨T33, X33, e33, st33⟩ := getF X32 hx hZ hown (host := "") (Or.inl (own_w44 hw)) Via.refl Kq32 FR (g := (mkF m 33 #[.val (.ref a), .val (.int p), .val (.int (own_spread p))] [(.ref a), (.ref a)])) rfl rfl (hb hby own_d6_33)
  refine own_go st33 ?_
  show own_Ends prg e below s _ _ _ T33 (mkF m 36 #[.val (.ref a), .val (.int p), .val (.int (own_spread p))] [(.int (1 : Int32)), (.ref a)])
  refine own_iconst (pc' := 37) (z := (1 : Int32)) X33 hx (hb hby own_d6_36) rfl rfl ?_
  refine own_iadd (pc' := 38) (z := (2 : Int32)) X33 hx (hb hby own_d6_37) rfl (by decide) ?_
  obtain ⟨T34, h34, X34, e34, W34, st34⟩ := putF X33 hx hZ hown (host := "") (Or.inl (own_w44 hw)) Via.refl e33 FR E0 (Or.inl (own_w45 hw)) (own_w1 hw) (ty := .int) (by decide) rfl rfl (g := (mkF m 38 #[.val (.ref a), .val (.int p), .val (.int (own_spread p))] [(.int (2 : Int32)), (.ref a)])) rfl rfl (hb hby own_d6_38)
  refine own_go st34 ?_
  have Fw34 := FR.same W34
  have N34 := Fr.snoc X34 N32 ga
  show own_Ends prg e below s _ _ _ T34 (mkF m 41 #[.val (.ref a), .val (.int p), .val (.int (own_spread p))] [])
  refine own_aloadN (pc' := 42) X34 hx (hb hby own_d6_41) rfl rfl rfl ?_
  have f35 := (FS.other W34 (Or.inr (slot_ne (Or.inl (own_w22 hw)) (Or.inl (own_w45 hw)) (by decide) (t := (.array .long)) (t' := .int) (by decide) (by decide))))
  obtain ⟨T36, X36, e36, st36⟩ := getF X34 hx hZ hown (host := "") (Or.inl (own_w21 hw)) Via.refl e34 f35 (g := (mkF m 42 #[.val (.ref a), .val (.int p), .val (.int (own_spread p))] [(.ref a)])) rfl rfl (hb hby own_d6_42)
  refine own_go st36 ?_
  show own_Ends prg e below s _ _ _ T36 (mkF m 45 #[.val (.ref a), .val (.int p), .val (.int (own_spread p))] [(.ref b)])
  refine own_iloadN (pc' := 46) X36 hx (hb hby own_d6_45) rfl rfl ?_
  refine own_aloadN (pc' := 47) X36 hx (hb hby own_d6_46) rfl rfl rfl ?_
  obtain ⟨T37, X37, e37, st37⟩ := getF X36 hx hZ hown (host := "") (Or.inl (own_w21 hw)) Via.refl e36 f35 (g := (mkF m 47 #[.val (.ref a), .val (.int p), .val (.int (own_spread p))] [(.ref a), (.int (own_spread p)), (.ref b)])) rfl rfl (hb hby own_d6_47)
  refine own_go st37 ?_
  show own_Ends prg e below s _ _ _ T37 (mkF m 50 #[.val (.ref a), .val (.int p), .val (.int (own_spread p))] [(.ref b), (.int (own_spread p)), (.ref b)])
  have f38 := (VB.other W34 (Ne.symm hne))
  refine own_alen (pc' := 51) X37 hx hZ e37 f38 (hb hby own_d6_50) rfl ?_
  refine own_iconst (pc' := 52) (z := (1 : Int32)) X37 hx (hb hby own_d6_51) rfl rfl ?_
  refine own_isub (pc' := 53) (z := (7 : Int32)) X37 hx (hb hby own_d6_52) rfl (by decide) ?_
  refine own_iand (pc' := 54) (z := ((own_spread p) &&& (7 : Int32))) X37 hx (hb hby own_d6_53) rfl rfl ?_
  refine own_iloadN (pc' := 55) X37 hx (hb hby own_d6_54) rfl rfl ?_
  refine own_i2l (pc' := 56) (z := (own_spread p).toInt64) X37 hx (hb hby own_d6_55) rfl rfl ?_
  refine own_bipush (pc' := 58) (z := (32 : Int32)) X37 hx (hb hby own_d6_56) rfl rfl ?_
  refine own_lshl (pc' := 59) (z := ((own_spread p).toInt64 <<< ((32 : Int32) &&& 0x3f).toInt64)) X37 hx (hb hby own_d6_58) rfl rfl ?_
  refine own_aloadN (pc' := 60) X37 hx (hb hby own_d6_59) rfl rfl rfl ?_
  obtain ⟨T39, X39, e39, st39⟩ := getF X37 hx hZ hown (host := "") (Or.inl (own_w44 hw)) Via.refl e37 Fw34 (g := (mkF m 60 #[.val (.ref a), .val (.int p), .val (.int (own_spread p))] [(.ref a), (.long ((own_spread p).toInt64 <<< ((32 : Int32) &&& 0x3f).toInt64)), (.int ((own_spread p) &&& (7 : Int32))), (.ref b)])) rfl rfl (hb hby own_d6_60)
  refine own_go st39 ?_
  show own_Ends prg e below s _ _ _ T39 (mkF m 63 #[.val (.ref a), .val (.int p), .val (.int (own_spread p))] [(.int (2 : Int32)), (.long ((own_spread p).toInt64 <<< ((32 : Int32) &&& 0x3f).toInt64)), (.int ((own_spread p) &&& (7 : Int32))), (.ref b)])
  refine own_i2l (pc' := 64) (z := (2 : Int64)) X39 hx (hb hby own_d6_63) rfl (by decide) ?_
  refine own_ldc2J (pc' := 67) X39 hx hZ hown (own_w46 hw) (hb hby own_d6_64) rfl ?_
  refine own_land (pc' := 68) (z := (2 : Int64)) X39 hx (hb hby own_d6_67) rfl (by decide) ?_
  refine own_lor (pc' := 69) (z := (((own_spread p).toInt64 <<< ((32 : Int32) &&& 0x3f).toInt64) ||| (2 : Int64))) X39 hx (hb hby own_d6_68) rfl rfl ?_
  refine own_lastore (pc' := 70) X39 hx hZ e39 f38 (hb hby own_d6_69) rfl (own_inm (Or.inr (Or.inr ⟨rfl, rfl⟩)) rfl _) (own_ixm (7 : Int32) (own_spread p)) rfl (by rw [own_LJlen]; rw [hl]; exact own_ixlt (Or.inr (Or.inr ⟨rfl, rfl⟩)) _) N34 gb ?_
  intro T40 h40 L40 X40 e40 N40 W40 V40
  rw [own_LJset] at V40
  show own_Ends prg e below s _ _ _ T40 (mkF m 70 #[.val (.ref a), .val (.int p), .val (.int (own_spread p))] [])
  refine own_retV X40 hx hlk hret (hb hby own_d6_70) (by decide) (by decide) ?_
  have f41 := ((K0.wr W34 (Or.inl (List.mem_of_getElem? (i := 0) rfl))).wr W40 (Or.inl (List.mem_of_getElem? (i := 1) rfl)))
  have f42 := ((FD.other W34 (Or.inr (slot_ne (Or.inr (own_w15 hw)) (Or.inl (own_w45 hw)) (by decide) (t := .int) (t' := .int) (by decide) (by decide)))).other W40 (Or.inl hne))
  have f43 := (f35.other W40 (Or.inl hne))
  have f44 := (Fw34.other W40 (Or.inl hne))
  rw [e40]; exact ⟨rfl, N40, f41, f42, f43, f44, V40⟩
def own_room6_4_2 : Room := { frames := 1, cells := 0, slots := 0, locals := 13 }
def own_Q6_4_2 (Z : State) (a : Addr) (p : Int32) (b : Addr) (bk : ClassId) (l : List Int64) (h0 : Heap) (n0 : Nat) (v : Option Value) (h : Heap) (L : List Loc) : Prop := v = none ∧ Fr n0 L ∧ Keep h0 h [a, b] ∧ Fld Z h a "com/example/larder/larder/cache/EvictedKeys" "depth" "I" (.int (4 : Int32)) ∧ Fld Z h a "com/example/larder/larder/cache/EvictedKeys" "slots" "[J" (.ref b) ∧ Fld Z h a "com/example/larder/larder/cache/EvictedKeys" "remembered" "I" (.int (3 : Int32)) ∧ Arv Z h b bk .long (8 : Int32) (own_LJ (l.set (own_ixm (7 : Int32) (own_spread p)) (own_pack (own_spread p) (3 : Int64)))) (.long (0 : Int64))
theorem own_ef_rm6_4_2 (m : MethodId) (x0 : Addr) (x1 : Int32) : entryFrame m #[(.ref x0), (.int x1)] 3 = mkF m 0 #[.val (.ref x0), .val (.int x1), .unset] [] := by first | (simp [entryFrame, mkF, argsToLocals, Value.category]; done) | rfl
set_option maxRecDepth 65536 in
set_option maxHeartbeats 40000000 in
theorem own_rm6_4_2 (lch : Launch) (Z : State) (a0 : Array Value) (hw : ∀ d ∈ tables_1, d.before a0 Z = true) (ws : List Jvm.Cond) (a : Addr) (p : Int32) (b : Addr) (bk : ClassId) (l : List Int64) (h0 : Heap) (n0 : Nat) (E0 : Exa Z h0 a "com/example/larder/larder/cache/EvictedKeys") (FD : Fld Z h0 a "com/example/larder/larder/cache/EvictedKeys" "depth" "I" (.int (4 : Int32))) (FS : Fld Z h0 a "com/example/larder/larder/cache/EvictedKeys" "slots" "[J" (.ref b)) (FR : Fld Z h0 a "com/example/larder/larder/cache/EvictedKeys" "remembered" "I" (.int (2 : Int32))) (ga : n0 ≤ a) (VB : Arv Z h0 b bk .long (8 : Int32) (own_LJ l) (.long (0 : Int64))) (hl : l.length = 8) (gb : n0 ≤ b) (hne : a ≠ b) :
    MetFree lch (⟨"com/example/larder/larder/cache/EvictedKeys", "remember", "(I)V"⟩ : MethodName) (head1 (Jvm.Cond.code (⟨"com/example/larder/larder/cache/EvictedKeys", "remember", "(I)V"⟩ : MethodName) prog_5_method_2_code 3 none :: ws) own_room6_4_2) (fun zz U => zz = #[(.ref a), (.int p)] ∧ Z.Warmed39 U.vm ∧ U.heap = h0) (fun _ _ _ _ _ => True) (fun _ U o U' => ∃ v L, o = .returned v ∧ own_Q6_4_2 Z a p b bk l h0 n0 v U'.heap L ∧ FrameEnd U o U' L own_room6_4_2.cells own_room6_4_2.slots) := by
  refine MetFree.of_bodySF (plainFor_of_name own_pn2) hisR ?_
  intro prg e s m args below meth c s₁ Bd hml0 hP hK
  obtain ⟨rfl, hZ, hh⟩ := hP
  have hx := Bd.exec
  have hby := Bd.bytes
  have hml : c.maxLocals = 3 := hml0
  have hown : s.vm.findClass "com/example/larder/larder/cache/EvictedKeys" = some m.cls := findClass_of_methodNamed Bd.named
  have hnm := (name_of_methodNamed Bd.named Bd.method).1
  have hlk : meth.locks = false := BodyLoose.notSynchronized Bd
  have hret := Bd.returns
  have X0 : Stand prg lch e own_room6_4_2 s m #[(.ref a), (.int p)] below meth c s₁ [] 0 0 := Stand.of_body Bd
  have e0 : s₁.heap = h0 := by rw [← hh, Bd.state]; rfl
  have N0 := Fr.nil n0
  show own_Ends prg e below s (own_Q6_4_2 Z a p b bk l h0 n0) own_room6_4_2.cells own_room6_4_2.slots s₁ (entryFrame m #[(.ref a), (.int p)] 3)
  refine own_cast (own_ef_rm6_4_2 m a p) ?_
  have K0 := Keep.refl h0 ([a, b] : List Addr)
  refine own_aloadN (pc' := 1) X0 hx (hb hby own_d6_0) rfl rfl rfl ?_
  obtain ⟨T31, X31, e31, st31⟩ := getF X0 hx hZ hown (host := "") (Or.inl (own_w21 hw)) Via.refl e0 FS (g := (mkF m 1 #[.val (.ref a), .val (.int p), .unset] [(.ref a)])) rfl rfl (hb hby own_d6_1)
  refine own_go st31 ?_
  show own_Ends prg e below s _ _ _ T31 (mkF m 4 #[.val (.ref a), .val (.int p), .unset] [(.ref b)])
  refine own_ifnonnullYes (pc' := 26) X31 hx (hb hby own_d6_4) (by decide) (by decide) ?_
  refine own_iloadN (pc' := 27) X31 hx (hb hby own_d6_26) rfl rfl ?_
  refine own_callS (pc' := 30) (y := (⟨"com/example/larder/larder/cache/UseCounts", "spread", "(I)I"⟩ : MethodName)) (W := 0) (rm := own_room5) (argsL := [(.int p)]) (rest := []) X31 hx hZ e31 hown (by rw [hml]; rfl) (own_w43 hw) (own_w24 hw) (own_w25 hw) (own_w26 hw) (by decide) (own_rm5 lch Z a0 hw [] p h0 n0) (by decide) (by decide) (by decide) (by decide) (lenOf own_pd0 rfl) rfl (by exact Nat.le_of_eq rfl) (hb hby own_d6_27) rfl ?_
  intro T32 Lc32 v32 X32 hQ32
  obtain ⟨rfl, Nq32, Kq32⟩ := hQ32
  have N32 := Fr.app N0 Nq32
  show own_Ends prg e below s _ _ _ T32 (mkF m 30 #[.val (.ref a), .val (.int p), .unset] [(.int (own_spread p))])
  refine own_istoreN (pc' := 31) (l' := #[.val (.ref a), .val (.int p), .val (.int (own_spread p))]) X32 hx (hb hby own_d6_30) rfl rfl ?_
  refine own_aloadN (pc' := 32) X32 hx (hb hby own_d6_31) rfl rfl rfl ?_
  refine own_dup (pc' := 33) X32 hx (hb hby own_d6_32) rfl rfl ?_
  obtain ⟨T33, X33, e33, st33⟩ := getF X32 hx hZ hown (host := "") (Or.inl (own_w44 hw)) Via.refl Kq32 FR (g := (mkF m 33 #[.val (.ref a), .val (.int p), .val (.int (own_spread p))] [(.ref a), (.ref a)])) rfl rfl (hb hby own_d6_33)
  refine own_go st33 ?_
  show own_Ends prg e below s _ _ _ T33 (mkF m 36 #[.val (.ref a), .val (.int p), .val (.int (own_spread p))] [(.int (2 : Int32)), (.ref a)])
  refine own_iconst (pc' := 37) (z := (1 : Int32)) X33 hx (hb hby own_d6_36) rfl rfl ?_
  refine own_iadd (pc' := 38) (z := (3 : Int32)) X33 hx (hb hby own_d6_37) rfl (by decide) ?_
  obtain ⟨T34, h34, X34, e34, W34, st34⟩ := putF X33 hx hZ hown (host := "") (Or.inl (own_w44 hw)) Via.refl e33 FR E0 (Or.inl (own_w45 hw)) (own_w1 hw) (ty := .int) (by decide) rfl rfl (g := (mkF m 38 #[.val (.ref a), .val (.int p), .val (.int (own_spread p))] [(.int (3 : Int32)), (.ref a)])) rfl rfl (hb hby own_d6_38)
  refine own_go st34 ?_
  have Fw34 := FR.same W34
  have N34 := Fr.snoc X34 N32 ga
  show own_Ends prg e below s _ _ _ T34 (mkF m 41 #[.val (.ref a), .val (.int p), .val (.int (own_spread p))] [])
  refine own_aloadN (pc' := 42) X34 hx (hb hby own_d6_41) rfl rfl rfl ?_
  have f35 := (FS.other W34 (Or.inr (slot_ne (Or.inl (own_w22 hw)) (Or.inl (own_w45 hw)) (by decide) (t := (.array .long)) (t' := .int) (by decide) (by decide))))
  obtain ⟨T36, X36, e36, st36⟩ := getF X34 hx hZ hown (host := "") (Or.inl (own_w21 hw)) Via.refl e34 f35 (g := (mkF m 42 #[.val (.ref a), .val (.int p), .val (.int (own_spread p))] [(.ref a)])) rfl rfl (hb hby own_d6_42)
  refine own_go st36 ?_
  show own_Ends prg e below s _ _ _ T36 (mkF m 45 #[.val (.ref a), .val (.int p), .val (.int (own_spread p))] [(.ref b)])
  refine own_iloadN (pc' := 46) X36 hx (hb hby own_d6_45) rfl rfl ?_
  refine own_aloadN (pc' := 47) X36 hx (hb hby own_d6_46) rfl rfl rfl ?_
  obtain ⟨T37, X37, e37, st37⟩ := getF X36 hx hZ hown (host := "") (Or.inl (own_w21 hw)) Via.refl e36 f35 (g := (mkF m 47 #[.val (.ref a), .val (.int p), .val (.int (own_spread p))] [(.ref a), (.int (own_spread p)), (.ref b)])) rfl rfl (hb hby own_d6_47)
  refine own_go st37 ?_
  show own_Ends prg e below s _ _ _ T37 (mkF m 50 #[.val (.ref a), .val (.int p), .val (.int (own_spread p))] [(.ref b), (.int (own_spread p)), (.ref b)])
  have f38 := (VB.other W34 (Ne.symm hne))
  refine own_alen (pc' := 51) X37 hx hZ e37 f38 (hb hby own_d6_50) rfl ?_
  refine own_iconst (pc' := 52) (z := (1 : Int32)) X37 hx (hb hby own_d6_51) rfl rfl ?_
  refine own_isub (pc' := 53) (z := (7 : Int32)) X37 hx (hb hby own_d6_52) rfl (by decide) ?_
  refine own_iand (pc' := 54) (z := ((own_spread p) &&& (7 : Int32))) X37 hx (hb hby own_d6_53) rfl rfl ?_
  refine own_iloadN (pc' := 55) X37 hx (hb hby own_d6_54) rfl rfl ?_
  refine own_i2l (pc' := 56) (z := (own_spread p).toInt64) X37 hx (hb hby own_d6_55) rfl rfl ?_
  refine own_bipush (pc' := 58) (z := (32 : Int32)) X37 hx (hb hby own_d6_56) rfl rfl ?_
  refine own_lshl (pc' := 59) (z := ((own_spread p).toInt64 <<< ((32 : Int32) &&& 0x3f).toInt64)) X37 hx (hb hby own_d6_58) rfl rfl ?_
  refine own_aloadN (pc' := 60) X37 hx (hb hby own_d6_59) rfl rfl rfl ?_
  obtain ⟨T39, X39, e39, st39⟩ := getF X37 hx hZ hown (host := "") (Or.inl (own_w44 hw)) Via.refl e37 Fw34 (g := (mkF m 60 #[.val (.ref a), .val (.int p), .val (.int (own_spread p))] [(.ref a), (.long ((own_spread p).toInt64 <<< ((32 : Int32) &&& 0x3f).toInt64)), (.int ((own_spread p) &&& (7 : Int32))), (.ref b)])) rfl rfl (hb hby own_d6_60)
  refine own_go st39 ?_
  show own_Ends prg e below s _ _ _ T39 (mkF m 63 #[.val (.ref a), .val (.int p), .val (.int (own_spread p))] [(.int (3 : Int32)), (.long ((own_spread p).toInt64 <<< ((32 : Int32) &&& 0x3f).toInt64)), (.int ((own_spread p) &&& (7 : Int32))), (.ref b)])
  refine own_i2l (pc' := 64) (z := (3 : Int64)) X39 hx (hb hby own_d6_63) rfl (by decide) ?_
  refine own_ldc2J (pc' := 67) X39 hx hZ hown (own_w46 hw) (hb hby own_d6_64) rfl ?_
  refine own_land (pc' := 68) (z := (3 : Int64)) X39 hx (hb hby own_d6_67) rfl (by decide) ?_
  refine own_lor (pc' := 69) (z := (((own_spread p).toInt64 <<< ((32 : Int32) &&& 0x3f).toInt64) ||| (3 : Int64))) X39 hx (hb hby own_d6_68) rfl rfl ?_
  refine own_lastore (pc' := 70) X39 hx hZ e39 f38 (hb hby own_d6_69) rfl (own_inm (Or.inr (Or.inr ⟨rfl, rfl⟩)) rfl _) (own_ixm (7 : Int32) (own_spread p)) rfl (by rw [own_LJlen]; rw [hl]; exact own_ixlt (Or.inr (Or.inr ⟨rfl, rfl⟩)) _) N34 gb ?_
  intro T40 h40 L40 X40 e40 N40 W40 V40
  rw [own_LJset] at V40
  show own_Ends prg e below s _ _ _ T40 (mkF m 70 #[.val (.ref a), .val (.int p), .val (.int (own_spread p))] [])
  refine own_retV X40 hx hlk hret (hb hby own_d6_70) (by decide) (by decide) ?_
  have f41 := ((K0.wr W34 (Or.inl (List.mem_of_getElem? (i := 0) rfl))).wr W40 (Or.inl (List.mem_of_getElem? (i := 1) rfl)))
  have f42 := ((FD.other W34 (Or.inr (slot_ne (Or.inr (own_w15 hw)) (Or.inl (own_w45 hw)) (by decide) (t := .int) (t' := .int) (by decide) (by decide)))).other W40 (Or.inl hne))
  have f43 := (f35.other W40 (Or.inl hne))
  have f44 := (Fw34.other W40 (Or.inl hne))
  rw [e40]; exact ⟨rfl, N40, f41, f42, f43, f44, V40⟩
def own_room4_0 : Room := { frames := 0, cells := 0, slots := 0, locals := 0 }
def own_Q4_0 (Z : State) (a : Addr) (p : Int32) (h0 : Heap) (n0 : Nat) (v : Option Value) (h : Heap) (L : List Loc) : Prop := v = some (.int 0) ∧ Fr n0 L ∧ h = h0
theorem own_ef_rm4_0 (m : MethodId) (x0 : Addr) (x1 : Int32) : entryFrame m #[(.ref x0), (.int x1)] 7 = mkF m 0 #[.val (.ref x0), .val (.int x1), .unset, .unset, .unset, .unset, .unset] [] := by first | (simp [entryFrame, mkF, argsToLocals, Value.category]; done) | rfl
set_option maxRecDepth 65536 in
set_option maxHeartbeats 40000000 in
theorem own_rm4_0 (lch : Launch) (Z : State) (a0 : Array Value) (hw : ∀ d ∈ tables_1, d.before a0 Z = true) (ws : List Jvm.Cond) (a : Addr) (p : Int32) (h0 : Heap) (n0 : Nat) (FS : Fld Z h0 a "com/example/larder/larder/cache/EvictedKeys" "slots" "[J" .null) :
    MetFree lch (⟨"com/example/larder/larder/cache/EvictedKeys", "recall", "(I)Z"⟩ : MethodName) (head1 (Jvm.Cond.code (⟨"com/example/larder/larder/cache/EvictedKeys", "recall", "(I)Z"⟩ : MethodName) prog_5_method_3_code 7 (some .boolean) :: ws) own_room4_0) (fun zz U => zz = #[(.ref a), (.int p)] ∧ Z.Warmed39 U.vm ∧ U.heap = h0) (fun _ _ _ _ _ => True) (fun _ U o U' => ∃ v L, o = .returned v ∧ own_Q4_0 Z a p h0 n0 v U'.heap L ∧ FrameEnd U o U' L own_room4_0.cells own_room4_0.slots) := by
  refine MetFree.of_bodySF (plainFor_of_name own_pn2) hisR ?_
  intro prg e s m args below meth c s₁ Bd hml0 hP hK
  obtain ⟨rfl, hZ, hh⟩ := hP
  have hx := Bd.exec
  have hby := Bd.bytes
  have hml : c.maxLocals = 7 := hml0
  have hown : s.vm.findClass "com/example/larder/larder/cache/EvictedKeys" = some m.cls := findClass_of_methodNamed Bd.named
  have hnm := (name_of_methodNamed Bd.named Bd.method).1
  have hlk : meth.locks = false := BodyLoose.notSynchronized Bd
  have hret := Bd.returns
  have X0 : Stand prg lch e own_room4_0 s m #[(.ref a), (.int p)] below meth c s₁ [] 0 0 := Stand.of_body Bd
  have e0 : s₁.heap = h0 := by rw [← hh, Bd.state]; rfl
  have N0 := Fr.nil n0
  show own_Ends prg e below s (own_Q4_0 Z a p h0 n0) own_room4_0.cells own_room4_0.slots s₁ (entryFrame m #[(.ref a), (.int p)] 7)
  refine own_cast (own_ef_rm4_0 m a p) ?_
  refine own_iconst (pc' := 1) (z := (0 : Int32)) X0 hx (hb hby own_d4_0) rfl rfl ?_
  refine own_istoreN (pc' := 2) (l' := #[.val (.ref a), .val (.int p), .val (.int (0 : Int32)), .unset, .unset, .unset, .unset]) X0 hx (hb hby own_d4_1) rfl rfl ?_
  refine own_aloadN (pc' := 3) X0 hx (hb hby own_d4_2) rfl rfl rfl ?_
  obtain ⟨T31, X31, e31, st31⟩ := getF X0 hx hZ hown (host := "") (Or.inl (own_w21 hw)) Via.refl e0 FS (g := (mkF m 3 #[.val (.ref a), .val (.int p), .val (.int (0 : Int32)), .unset, .unset, .unset, .unset] [(.ref a)])) rfl rfl (hb hby own_d4_3)
  refine own_go st31 ?_
  show own_Ends prg e below s _ _ _ T31 (mkF m 6 #[.val (.ref a), .val (.int p), .val (.int (0 : Int32)), .unset, .unset, .unset, .unset] [.null])
  refine own_ifnullYes (pc' := 80) X31 hx (hb hby own_d4_6) (by decide) (by decide) ?_
  refine own_iloadN (pc' := 81) X31 hx (hb hby own_d4_80) rfl rfl ?_
  refine own_retN X31 hx hlk hret (by simp) (hb hby own_d4_81) (by decide) (by decide) ?_
  exact ⟨rfl, N0, e31⟩
def own_room4_2 : Room := { frames := 1, cells := 0, slots := 0, locals := 13 }
def own_Q4_2 (Z : State) (a : Addr) (p : Int32) (b : Addr) (bk : ClassId) (l : List Int64) (n : Int32) (d : Int32) (h0 : Heap) (n0 : Nat) (v : Option Value) (h : Heap) (L : List Loc) : Prop := v = some (.int (own_rv l (1 : Int32) (own_spread p) n d)) ∧ Fr n0 L ∧ Keep h0 h [b] ∧ Arv Z h b bk .long (2 : Int32) (own_LJ (own_rl l (1 : Int32) (own_spread p))) (.long (0 : Int64))
theorem own_ef_rm4_2 (m : MethodId) (x0 : Addr) (x1 : Int32) : entryFrame m #[(.ref x0), (.int x1)] 7 = mkF m 0 #[.val (.ref x0), .val (.int x1), .unset, .unset, .unset, .unset, .unset] [] := by first | (simp [entryFrame, mkF, argsToLocals, Value.category]; done) | rfl
set_option maxRecDepth 65536 in
set_option maxHeartbeats 40000000 in
theorem own_rm4_2 (lch : Launch) (Z : State) (a0 : Array Value) (hw : ∀ d ∈ tables_1, d.before a0 Z = true) (ws : List Jvm.Cond) (a : Addr) (p : Int32) (b : Addr) (bk : ClassId) (l : List Int64) (n : Int32) (d : Int32) (h0 : Heap) (n0 : Nat) (FD : Fld Z h0 a "com/example/larder/larder/cache/EvictedKeys" "depth" "I" (.int d)) (FS : Fld Z h0 a "com/example/larder/larder/cache/EvictedKeys" "slots" "[J" (.ref b)) (FR : Fld Z h0 a "com/example/larder/larder/cache/EvictedKeys" "remembered" "I" (.int n)) (VB : Arv Z h0 b bk .long (2 : Int32) (own_LJ l) (.long (0 : Int64))) (hl : l.length = 2) (gb : n0 ≤ b) (hne : a ≠ b) :
    MetFree lch (⟨"com/example/larder/larder/cache/EvictedKeys", "recall", "(I)Z"⟩ : MethodName) (head1 (Jvm.Cond.code (⟨"com/example/larder/larder/cache/EvictedKeys", "recall", "(I)Z"⟩ : MethodName) prog_5_method_3_code 7 (some .boolean) :: ws) own_room4_2) (fun zz U => zz = #[(.ref a), (.int p)] ∧ Z.Warmed39 U.vm ∧ U.heap = h0) (fun _ _ _ _ _ => True) (fun _ U o U' => ∃ v L, o = .returned v ∧ own_Q4_2 Z a p b bk l n d h0 n0 v U'.heap L ∧ FrameEnd U o U' L own_room4_2.cells own_room4_2.slots) := by
  refine MetFree.of_bodySF (plainFor_of_name own_pn2) hisR ?_
  intro prg e s m args below meth c s₁ Bd hml0 hP hK
  obtain ⟨rfl, hZ, hh⟩ := hP
  have hx := Bd.exec
  have hby := Bd.bytes
  have hml : c.maxLocals = 7 := hml0
  have hown : s.vm.findClass "com/example/larder/larder/cache/EvictedKeys" = some m.cls := findClass_of_methodNamed Bd.named
  have hnm := (name_of_methodNamed Bd.named Bd.method).1
  have hlk : meth.locks = false := BodyLoose.notSynchronized Bd
  have hret := Bd.returns
  have X0 : Stand prg lch e own_room4_2 s m #[(.ref a), (.int p)] below meth c s₁ [] 0 0 := Stand.of_body Bd
  have e0 : s₁.heap = h0 := by rw [← hh, Bd.state]; rfl
  have N0 := Fr.nil n0
  show own_Ends prg e below s (own_Q4_2 Z a p b bk l n d h0 n0) own_room4_2.cells own_room4_2.slots s₁ (entryFrame m #[(.ref a), (.int p)] 7)
  refine own_cast (own_ef_rm4_2 m a p) ?_
  have K0 := Keep.refl h0 ([b] : List Addr)
  refine own_iconst (pc' := 1) (z := (0 : Int32)) X0 hx (hb hby own_d4_0) rfl rfl ?_
  refine own_istoreN (pc' := 2) (l' := #[.val (.ref a), .val (.int p), .val (.int (0 : Int32)), .unset, .unset, .unset, .unset]) X0 hx (hb hby own_d4_1) rfl rfl ?_
  refine own_aloadN (pc' := 3) X0 hx (hb hby own_d4_2) rfl rfl rfl ?_
  obtain ⟨T31, X31, e31, st31⟩ := getF X0 hx hZ hown (host := "") (Or.inl (own_w21 hw)) Via.refl e0 FS (g := (mkF m 3 #[.val (.ref a), .val (.int p), .val (.int (0 : Int32)), .unset, .unset, .unset, .unset] [(.ref a)])) rfl rfl (hb hby own_d4_3)
  refine own_go st31 ?_
  show own_Ends prg e below s _ _ _ T31 (mkF m 6 #[.val (.ref a), .val (.int p), .val (.int (0 : Int32)), .unset, .unset, .unset, .unset] [(.ref b)])
  refine own_ifnullNo (pc' := 9) X31 hx (hb hby own_d4_6) rfl ?_
  refine own_iloadN (pc' := 10) X31 hx (hb hby own_d4_9) rfl rfl ?_
  refine own_callS (pc' := 13) (y := (⟨"com/example/larder/larder/cache/UseCounts", "spread", "(I)I"⟩ : MethodName)) (W := 0) (rm := own_room5) (argsL := [(.int p)]) (rest := []) X31 hx hZ e31 hown (by rw [hml]; rfl) (own_w43 hw) (own_w24 hw) (own_w25 hw) (own_w26 hw) (by decide) (own_rm5 lch Z a0 hw [] p h0 n0) (by decide) (by decide) (by decide) (by decide) (lenOf own_pd0 rfl) rfl (by exact Nat.le_of_eq rfl) (hb hby own_d4_10) rfl ?_
  intro T32 Lc32 v32 X32 hQ32
  obtain ⟨rfl, Nq32, Kq32⟩ := hQ32
  have N32 := Fr.app N0 Nq32
  show own_Ends prg e below s _ _ _ T32 (mkF m 13 #[.val (.ref a), .val (.int p), .val (.int (0 : Int32)), .unset, .unset, .unset, .unset] [(.int (own_spread p))])
  refine own_istoreN (pc' := 14) (l' := #[.val (.ref a), .val (.int p), .val (.int (0 : Int32)), .val (.int (own_spread p)), .unset, .unset, .unset]) X32 hx (hb hby own_d4_13) rfl rfl ?_
  refine own_iloadN (pc' := 15) X32 hx (hb hby own_d4_14) rfl rfl ?_
  refine own_aloadN (pc' := 16) X32 hx (hb hby own_d4_15) rfl rfl rfl ?_
  obtain ⟨T33, X33, e33, st33⟩ := getF X32 hx hZ hown (host := "") (Or.inl (own_w21 hw)) Via.refl Kq32 FS (g := (mkF m 16 #[.val (.ref a), .val (.int p), .val (.int (0 : Int32)), .val (.int (own_spread p)), .unset, .unset, .unset] [(.ref a), (.int (own_spread p))])) rfl rfl (hb hby own_d4_16)
  refine own_go st33 ?_
  show own_Ends prg e below s _ _ _ T33 (mkF m 19 #[.val (.ref a), .val (.int p), .val (.int (0 : Int32)), .val (.int (own_spread p)), .unset, .unset, .unset] [(.ref b), (.int (own_spread p))])
  refine own_alen (pc' := 20) X33 hx hZ e33 VB (hb hby own_d4_19) rfl ?_
  refine own_iconst (pc' := 21) (z := (1 : Int32)) X33 hx (hb hby own_d4_20) rfl rfl ?_
  refine own_isub (pc' := 22) (z := (1 : Int32)) X33 hx (hb hby own_d4_21) rfl (by decide) ?_
  refine own_iand (pc' := 23) (z := ((own_spread p) &&& (1 : Int32))) X33 hx (hb hby own_d4_22) rfl rfl ?_
  refine own_istore (pc' := 25) (l' := #[.val (.ref a), .val (.int p), .val (.int (0 : Int32)), .val (.int (own_spread p)), .val (.int ((own_spread p) &&& (1 : Int32))), .unset, .unset]) X33 hx (hb hby own_d4_23) rfl rfl ?_
  refine own_aloadN (pc' := 26) X33 hx (hb hby own_d4_25) rfl rfl rfl ?_
  obtain ⟨T34, X34, e34, st34⟩ := getF X33 hx hZ hown (host := "") (Or.inl (own_w21 hw)) Via.refl e33 FS (g := (mkF m 26 #[.val (.ref a), .val (.int p), .val (.int (0 : Int32)), .val (.int (own_spread p)), .val (.int ((own_spread p) &&& (1 : Int32))), .unset, .unset] [(.ref a)])) rfl rfl (hb hby own_d4_26)
  refine own_go st34 ?_
  show own_Ends prg e below s _ _ _ T34 (mkF m 29 #[.val (.ref a), .val (.int p), .val (.int (0 : Int32)), .val (.int (own_spread p)), .val (.int ((own_spread p) &&& (1 : Int32))), .unset, .unset] [(.ref b)])
  refine own_iload (pc' := 31) X34 hx (hb hby own_d4_29) rfl rfl ?_
  refine own_laload (pc' := 32) (v := (.long (own_slot l (1 : Int32) (own_spread p)))) X34 hx hZ e34 VB (hb hby own_d4_31) rfl (own_inm (Or.inl ⟨rfl, rfl⟩) rfl _) (own_LJget _ _) ?_
  refine own_lstore (pc' := 34) (l' := #[.val (.ref a), .val (.int p), .val (.int (0 : Int32)), .val (.int (own_spread p)), .val (.int ((own_spread p) &&& (1 : Int32))), .val (.long (own_slot l (1 : Int32) (own_spread p))), .second]) X34 hx (hb hby own_d4_32) rfl rfl ?_
  refine own_lload (pc' := 36) X34 hx (hb hby own_d4_34) rfl rfl ?_
  refine own_lconst (pc' := 37) (z := (0 : Int64)) X34 hx (hb hby own_d4_36) rfl rfl ?_
  refine own_lcmp (pc' := 38) (z := (lcmpW (own_slot l (1 : Int32) (own_spread p)) (0 : Int64))) X34 hx (hb hby own_d4_37) rfl rfl ?_
  by_cases hc38_35 : (own_slot l (1 : Int32) (own_spread p)) = (0 : Int64)
  · refine own_ifYes (pc' := 80) X34 hx (hb hby own_d4_38) (teq ((lw_eq _ _).mpr hc38_35)).1 (by decide) (by decide) ?_
    refine own_iloadN (pc' := 81) X34 hx (hb hby own_d4_80) rfl rfl ?_
    refine own_retN X34 hx hlk hret (by simp) (hb hby own_d4_81) (by decide) (by decide) ?_
    have er : own_rl l (1 : Int32) (own_spread p) = l := (if_pos hc38_35)
    have ev : own_rv l (1 : Int32) (own_spread p) n d = (0 : Int32) := (if_pos hc38_35)
    rw [e34]; refine ⟨own_some (by rw [own_nb0, ev]), N32, K0, ?_⟩
    rw [er]; exact VB
  · refine own_ifNo (pc' := 41) X34 hx (hb hby own_d4_38) rfl (feq (fun q => hc38_35 ((lw_eq _ _).mp q))).1 ?_
    refine own_lload (pc' := 43) X34 hx (hb hby own_d4_41) rfl rfl ?_
    refine own_bipush (pc' := 45) (z := (32 : Int32)) X34 hx (hb hby own_d4_43) rfl rfl ?_
    refine own_lushr (pc' := 46) (z := (own_ushrL (own_slot l (1 : Int32) (own_spread p)) (32 : Int32))) X34 hx (hb hby own_d4_45) rfl rfl ?_
    refine own_l2i (pc' := 47) (z := (own_ushrL (own_slot l (1 : Int32) (own_spread p)) (32 : Int32)).toInt32) X34 hx (hb hby own_d4_46) rfl rfl ?_
    refine own_iloadN (pc' := 48) X34 hx (hb hby own_d4_47) rfl rfl ?_
    by_cases hc48_36 : (own_ushrL (own_slot l (1 : Int32) (own_spread p)) (32 : Int32)).toInt32 = (own_spread p)
    · refine own_icmpNo (pc' := 51) X34 hx (hb hby own_d4_48) rfl (teq hc48_36).2 ?_
      refine own_aloadN (pc' := 52) X34 hx (hb hby own_d4_51) rfl rfl rfl ?_
      obtain ⟨T37, X37, e37, st37⟩ := getF X34 hx hZ hown (host := "") (Or.inl (own_w21 hw)) Via.refl e34 FS (g := (mkF m 52 #[.val (.ref a), .val (.int p), .val (.int (0 : Int32)), .val (.int (own_spread p)), .val (.int ((own_spread p) &&& (1 : Int32))), .val (.long (own_slot l (1 : Int32) (own_spread p))), .second] [(.ref a)])) rfl rfl (hb hby own_d4_52)
      refine own_go st37 ?_
      show own_Ends prg e below s _ _ _ T37 (mkF m 55 #[.val (.ref a), .val (.int p), .val (.int (0 : Int32)), .val (.int (own_spread p)), .val (.int ((own_spread p) &&& (1 : Int32))), .val (.long (own_slot l (1 : Int32) (own_spread p))), .second] [(.ref b)])
      refine own_iload (pc' := 57) X37 hx (hb hby own_d4_55) rfl rfl ?_
      refine own_lconst (pc' := 58) (z := (0 : Int64)) X37 hx (hb hby own_d4_57) rfl rfl ?_
      refine own_lastore (pc' := 59) X37 hx hZ e37 VB (hb hby own_d4_58) rfl (own_inm (Or.inl ⟨rfl, rfl⟩) rfl _) (own_ixm (1 : Int32) (own_spread p)) rfl (by rw [own_LJlen]; rw [hl]; exact own_ixlt (Or.inl ⟨rfl, rfl⟩) _) N32 gb ?_
      intro T38 h38 L38 X38 e38 N38 W38 V38
      rw [own_LJset] at V38
      show own_Ends prg e below s _ _ _ T38 (mkF m 59 #[.val (.ref a), .val (.int p), .val (.int (0 : Int32)), .val (.int (own_spread p)), .val (.int ((own_spread p) &&& (1 : Int32))), .val (.long (own_slot l (1 : Int32) (own_spread p))), .second] [])
      refine own_aloadN (pc' := 60) X38 hx (hb hby own_d4_59) rfl rfl rfl ?_
      have f39 := (FR.other W38 (Or.inl hne))
      obtain ⟨T40, X40, e40, st40⟩ := getF X38 hx hZ hown (host := "") (Or.inl (own_w44 hw)) Via.refl e38 f39 (g := (mkF m 60 #[.val (.ref a), .val (.int p), .val (.int (0 : Int32)), .val (.int (own_spread p)), .val (.int ((own_spread p) &&& (1 : Int32))), .val (.long (own_slot l (1 : Int32) (own_spread p))), .second] [(.ref a)])) rfl rfl (hb hby own_d4_60)
      refine own_go st40 ?_
      show own_Ends prg e below s _ _ _ T40 (mkF m 63 #[.val (.ref a), .val (.int p), .val (.int (0 : Int32)), .val (.int (own_spread p)), .val (.int ((own_spread p) &&& (1 : Int32))), .val (.long (own_slot l (1 : Int32) (own_spread p))), .second] [(.int n)])
      refine own_lload (pc' := 65) X40 hx (hb hby own_d4_63) rfl rfl ?_
      refine own_l2i (pc' := 66) (z := (own_slot l (1 : Int32) (own_spread p)).toInt32) X40 hx (hb hby own_d4_65) rfl rfl ?_
      refine own_isub (pc' := 67) (z := (n - (own_slot l (1 : Int32) (own_spread p)).toInt32)) X40 hx (hb hby own_d4_66) rfl rfl ?_
      refine own_aloadN (pc' := 68) X40 hx (hb hby own_d4_67) rfl rfl rfl ?_
      have f41 := (FD.other W38 (Or.inl hne))
      obtain ⟨T42, X42, e42, st42⟩ := getF X40 hx hZ hown (host := "") (Or.inl (own_w14 hw)) Via.refl e40 f41 (g := (mkF m 68 #[.val (.ref a), .val (.int p), .val (.int (0 : Int32)), .val (.int (own_spread p)), .val (.int ((own_spread p) &&& (1 : Int32))), .val (.long (own_slot l (1 : Int32) (own_spread p))), .second] [(.ref a), (.int (n - (own_slot l (1 : Int32) (own_spread p)).toInt32))])) rfl rfl (hb hby own_d4_68)
      refine own_go st42 ?_
      show own_Ends prg e below s _ _ _ T42 (mkF m 71 #[.val (.ref a), .val (.int p), .val (.int (0 : Int32)), .val (.int (own_spread p)), .val (.int ((own_spread p) &&& (1 : Int32))), .val (.long (own_slot l (1 : Int32) (own_spread p))), .second] [(.int d), (.int (n - (own_slot l (1 : Int32) (own_spread p)).toInt32))])
      by_cases hc71_43 : (n - (own_slot l (1 : Int32) (own_spread p)).toInt32) < d
      · refine own_icmpNo (pc' := 74) X42 hx (hb hby own_d4_71) rfl (tlt hc71_43).2.1 ?_
        refine own_iconst (pc' := 75) (z := (1 : Int32)) X42 hx (hb hby own_d4_74) rfl rfl ?_
        refine own_goto (pc' := 79) X42 hx (hb hby own_d4_75) (by decide) (by decide) ?_
        refine own_istoreN (pc' := 80) (l' := #[.val (.ref a), .val (.int p), .val (.int (1 : Int32)), .val (.int (own_spread p)), .val (.int ((own_spread p) &&& (1 : Int32))), .val (.long (own_slot l (1 : Int32) (own_spread p))), .second]) X42 hx (hb hby own_d4_79) rfl rfl ?_
        refine own_iloadN (pc' := 81) X42 hx (hb hby own_d4_80) rfl rfl ?_
        refine own_retN X42 hx hlk hret (by simp) (hb hby own_d4_81) (by decide) (by decide) ?_
        have f44 := (K0.wr W38 (Or.inl (List.mem_of_getElem? (i := 0) rfl)))
        have er : own_rl l (1 : Int32) (own_spread p) = l.set (own_ixm (1 : Int32) (own_spread p)) 0 := ((if_neg hc38_35).trans (if_pos hc48_36))
        have ev : own_rv l (1 : Int32) (own_spread p) n d = (1 : Int32) := ((if_neg hc38_35).trans (if_pos hc48_36)).trans (if_pos hc71_43)
        rw [e42]; refine ⟨own_some (by rw [own_nb1, ev]), N38, f44, ?_⟩
        rw [er]; exact V38
      · refine own_icmpYes (pc' := 78) X42 hx (hb hby own_d4_71) (flt hc71_43).2.1 (by decide) (by decide) ?_
        refine own_iconst (pc' := 79) (z := (0 : Int32)) X42 hx (hb hby own_d4_78) rfl rfl ?_
        refine own_istoreN (pc' := 80) (l' := #[.val (.ref a), .val (.int p), .val (.int (0 : Int32)), .val (.int (own_spread p)), .val (.int ((own_spread p) &&& (1 : Int32))), .val (.long (own_slot l (1 : Int32) (own_spread p))), .second]) X42 hx (hb hby own_d4_79) rfl rfl ?_
        refine own_iloadN (pc' := 81) X42 hx (hb hby own_d4_80) rfl rfl ?_
        refine own_retN X42 hx hlk hret (by simp) (hb hby own_d4_81) (by decide) (by decide) ?_
        have f45 := (K0.wr W38 (Or.inl (List.mem_of_getElem? (i := 0) rfl)))
        have er : own_rl l (1 : Int32) (own_spread p) = l.set (own_ixm (1 : Int32) (own_spread p)) 0 := ((if_neg hc38_35).trans (if_pos hc48_36))
        have ev : own_rv l (1 : Int32) (own_spread p) n d = (0 : Int32) := ((if_neg hc38_35).trans (if_pos hc48_36)).trans (if_neg hc71_43)
        rw [e42]; refine ⟨own_some (by rw [own_nb0, ev]), N38, f45, ?_⟩
        rw [er]; exact V38
    · refine own_icmpYes (pc' := 80) X34 hx (hb hby own_d4_48) (feq hc48_36).2 (by decide) (by decide) ?_
      refine own_iloadN (pc' := 81) X34 hx (hb hby own_d4_80) rfl rfl ?_
      refine own_retN X34 hx hlk hret (by simp) (hb hby own_d4_81) (by decide) (by decide) ?_
      have er : own_rl l (1 : Int32) (own_spread p) = l := ((if_neg hc38_35).trans (if_neg hc48_36))
      have ev : own_rv l (1 : Int32) (own_spread p) n d = (0 : Int32) := ((if_neg hc38_35).trans (if_neg hc48_36))
      rw [e34]; refine ⟨own_some (by rw [own_nb0, ev]), N32, K0, ?_⟩
      rw [er]; exact VB
def own_room4_4 : Room := { frames := 1, cells := 0, slots := 0, locals := 13 }
def own_Q4_4 (Z : State) (a : Addr) (p : Int32) (b : Addr) (bk : ClassId) (l : List Int64) (n : Int32) (d : Int32) (h0 : Heap) (n0 : Nat) (v : Option Value) (h : Heap) (L : List Loc) : Prop := v = some (.int (own_rv l (3 : Int32) (own_spread p) n d)) ∧ Fr n0 L ∧ Keep h0 h [b] ∧ Arv Z h b bk .long (4 : Int32) (own_LJ (own_rl l (3 : Int32) (own_spread p))) (.long (0 : Int64))
theorem own_ef_rm4_4 (m : MethodId) (x0 : Addr) (x1 : Int32) : entryFrame m #[(.ref x0), (.int x1)] 7 = mkF m 0 #[.val (.ref x0), .val (.int x1), .unset, .unset, .unset, .unset, .unset] [] := by first | (simp [entryFrame, mkF, argsToLocals, Value.category]; done) | rfl
set_option maxRecDepth 65536 in
set_option maxHeartbeats 40000000 in
theorem own_rm4_4 (lch : Launch) (Z : State) (a0 : Array Value) (hw : ∀ d ∈ tables_1, d.before a0 Z = true) (ws : List Jvm.Cond) (a : Addr) (p : Int32) (b : Addr) (bk : ClassId) (l : List Int64) (n : Int32) (d : Int32) (h0 : Heap) (n0 : Nat) (FD : Fld Z h0 a "com/example/larder/larder/cache/EvictedKeys" "depth" "I" (.int d)) (FS : Fld Z h0 a "com/example/larder/larder/cache/EvictedKeys" "slots" "[J" (.ref b)) (FR : Fld Z h0 a "com/example/larder/larder/cache/EvictedKeys" "remembered" "I" (.int n)) (VB : Arv Z h0 b bk .long (4 : Int32) (own_LJ l) (.long (0 : Int64))) (hl : l.length = 4) (gb : n0 ≤ b) (hne : a ≠ b) :
    MetFree lch (⟨"com/example/larder/larder/cache/EvictedKeys", "recall", "(I)Z"⟩ : MethodName) (head1 (Jvm.Cond.code (⟨"com/example/larder/larder/cache/EvictedKeys", "recall", "(I)Z"⟩ : MethodName) prog_5_method_3_code 7 (some .boolean) :: ws) own_room4_4) (fun zz U => zz = #[(.ref a), (.int p)] ∧ Z.Warmed39 U.vm ∧ U.heap = h0) (fun _ _ _ _ _ => True) (fun _ U o U' => ∃ v L, o = .returned v ∧ own_Q4_4 Z a p b bk l n d h0 n0 v U'.heap L ∧ FrameEnd U o U' L own_room4_4.cells own_room4_4.slots) := by
  refine MetFree.of_bodySF (plainFor_of_name own_pn2) hisR ?_
  intro prg e s m args below meth c s₁ Bd hml0 hP hK
  obtain ⟨rfl, hZ, hh⟩ := hP
  have hx := Bd.exec
  have hby := Bd.bytes
  have hml : c.maxLocals = 7 := hml0
  have hown : s.vm.findClass "com/example/larder/larder/cache/EvictedKeys" = some m.cls := findClass_of_methodNamed Bd.named
  have hnm := (name_of_methodNamed Bd.named Bd.method).1
  have hlk : meth.locks = false := BodyLoose.notSynchronized Bd
  have hret := Bd.returns
  have X0 : Stand prg lch e own_room4_4 s m #[(.ref a), (.int p)] below meth c s₁ [] 0 0 := Stand.of_body Bd
  have e0 : s₁.heap = h0 := by rw [← hh, Bd.state]; rfl
  have N0 := Fr.nil n0
  show own_Ends prg e below s (own_Q4_4 Z a p b bk l n d h0 n0) own_room4_4.cells own_room4_4.slots s₁ (entryFrame m #[(.ref a), (.int p)] 7)
  refine own_cast (own_ef_rm4_4 m a p) ?_
  have K0 := Keep.refl h0 ([b] : List Addr)
  refine own_iconst (pc' := 1) (z := (0 : Int32)) X0 hx (hb hby own_d4_0) rfl rfl ?_
  refine own_istoreN (pc' := 2) (l' := #[.val (.ref a), .val (.int p), .val (.int (0 : Int32)), .unset, .unset, .unset, .unset]) X0 hx (hb hby own_d4_1) rfl rfl ?_
  refine own_aloadN (pc' := 3) X0 hx (hb hby own_d4_2) rfl rfl rfl ?_
  obtain ⟨T31, X31, e31, st31⟩ := getF X0 hx hZ hown (host := "") (Or.inl (own_w21 hw)) Via.refl e0 FS (g := (mkF m 3 #[.val (.ref a), .val (.int p), .val (.int (0 : Int32)), .unset, .unset, .unset, .unset] [(.ref a)])) rfl rfl (hb hby own_d4_3)
  refine own_go st31 ?_
  show own_Ends prg e below s _ _ _ T31 (mkF m 6 #[.val (.ref a), .val (.int p), .val (.int (0 : Int32)), .unset, .unset, .unset, .unset] [(.ref b)])
  refine own_ifnullNo (pc' := 9) X31 hx (hb hby own_d4_6) rfl ?_
  refine own_iloadN (pc' := 10) X31 hx (hb hby own_d4_9) rfl rfl ?_
  refine own_callS (pc' := 13) (y := (⟨"com/example/larder/larder/cache/UseCounts", "spread", "(I)I"⟩ : MethodName)) (W := 0) (rm := own_room5) (argsL := [(.int p)]) (rest := []) X31 hx hZ e31 hown (by rw [hml]; rfl) (own_w43 hw) (own_w24 hw) (own_w25 hw) (own_w26 hw) (by decide) (own_rm5 lch Z a0 hw [] p h0 n0) (by decide) (by decide) (by decide) (by decide) (lenOf own_pd0 rfl) rfl (by exact Nat.le_of_eq rfl) (hb hby own_d4_10) rfl ?_
  intro T32 Lc32 v32 X32 hQ32
  obtain ⟨rfl, Nq32, Kq32⟩ := hQ32
  have N32 := Fr.app N0 Nq32
  show own_Ends prg e below s _ _ _ T32 (mkF m 13 #[.val (.ref a), .val (.int p), .val (.int (0 : Int32)), .unset, .unset, .unset, .unset] [(.int (own_spread p))])
  refine own_istoreN (pc' := 14) (l' := #[.val (.ref a), .val (.int p), .val (.int (0 : Int32)), .val (.int (own_spread p)), .unset, .unset, .unset]) X32 hx (hb hby own_d4_13) rfl rfl ?_
  refine own_iloadN (pc' := 15) X32 hx (hb hby own_d4_14) rfl rfl ?_
  refine own_aloadN (pc' := 16) X32 hx (hb hby own_d4_15) rfl rfl rfl ?_
  obtain ⟨T33, X33, e33, st33⟩ := getF X32 hx hZ hown (host := "") (Or.inl (own_w21 hw)) Via.refl Kq32 FS (g := (mkF m 16 #[.val (.ref a), .val (.int p), .val (.int (0 : Int32)), .val (.int (own_spread p)), .unset, .unset, .unset] [(.ref a), (.int (own_spread p))])) rfl rfl (hb hby own_d4_16)
  refine own_go st33 ?_
  show own_Ends prg e below s _ _ _ T33 (mkF m 19 #[.val (.ref a), .val (.int p), .val (.int (0 : Int32)), .val (.int (own_spread p)), .unset, .unset, .unset] [(.ref b), (.int (own_spread p))])
  refine own_alen (pc' := 20) X33 hx hZ e33 VB (hb hby own_d4_19) rfl ?_
  refine own_iconst (pc' := 21) (z := (1 : Int32)) X33 hx (hb hby own_d4_20) rfl rfl ?_
  refine own_isub (pc' := 22) (z := (3 : Int32)) X33 hx (hb hby own_d4_21) rfl (by decide) ?_
  refine own_iand (pc' := 23) (z := ((own_spread p) &&& (3 : Int32))) X33 hx (hb hby own_d4_22) rfl rfl ?_
  refine own_istore (pc' := 25) (l' := #[.val (.ref a), .val (.int p), .val (.int (0 : Int32)), .val (.int (own_spread p)), .val (.int ((own_spread p) &&& (3 : Int32))), .unset, .unset]) X33 hx (hb hby own_d4_23) rfl rfl ?_
  refine own_aloadN (pc' := 26) X33 hx (hb hby own_d4_25) rfl rfl rfl ?_
  obtain ⟨T34, X34, e34, st34⟩ := getF X33 hx hZ hown (host := "") (Or.inl (own_w21 hw)) Via.refl e33 FS (g := (mkF m 26 #[.val (.ref a), .val (.int p), .val (.int (0 : Int32)), .val (.int (own_spread p)), .val (.int ((own_spread p) &&& (3 : Int32))), .unset, .unset] [(.ref a)])) rfl rfl (hb hby own_d4_26)
  refine own_go st34 ?_
  show own_Ends prg e below s _ _ _ T34 (mkF m 29 #[.val (.ref a), .val (.int p), .val (.int (0 : Int32)), .val (.int (own_spread p)), .val (.int ((own_spread p) &&& (3 : Int32))), .unset, .unset] [(.ref b)])
  refine own_iload (pc' := 31) X34 hx (hb hby own_d4_29) rfl rfl ?_
  refine own_laload (pc' := 32) (v := (.long (own_slot l (3 : Int32) (own_spread p)))) X34 hx hZ e34 VB (hb hby own_d4_31) rfl (own_inm (Or.inr (Or.inl ⟨rfl, rfl⟩)) rfl _) (own_LJget _ _) ?_
  refine own_lstore (pc' := 34) (l' := #[.val (.ref a), .val (.int p), .val (.int (0 : Int32)), .val (.int (own_spread p)), .val (.int ((own_spread p) &&& (3 : Int32))), .val (.long (own_slot l (3 : Int32) (own_spread p))), .second]) X34 hx (hb hby own_d4_32) rfl rfl ?_
  refine own_lload (pc' := 36) X34 hx (hb hby own_d4_34) rfl rfl ?_
  refine own_lconst (pc' := 37) (z := (0 : Int64)) X34 hx (hb hby own_d4_36) rfl rfl ?_
  refine own_lcmp (pc' := 38) (z := (lcmpW (own_slot l (3 : Int32) (own_spread p)) (0 : Int64))) X34 hx (hb hby own_d4_37) rfl rfl ?_
  by_cases hc38_35 : (own_slot l (3 : Int32) (own_spread p)) = (0 : Int64)
  · refine own_ifYes (pc' := 80) X34 hx (hb hby own_d4_38) (teq ((lw_eq _ _).mpr hc38_35)).1 (by decide) (by decide) ?_
    refine own_iloadN (pc' := 81) X34 hx (hb hby own_d4_80) rfl rfl ?_
    refine own_retN X34 hx hlk hret (by simp) (hb hby own_d4_81) (by decide) (by decide) ?_
    have er : own_rl l (3 : Int32) (own_spread p) = l := (if_pos hc38_35)
    have ev : own_rv l (3 : Int32) (own_spread p) n d = (0 : Int32) := (if_pos hc38_35)
    rw [e34]; refine ⟨own_some (by rw [own_nb0, ev]), N32, K0, ?_⟩
    rw [er]; exact VB
  · refine own_ifNo (pc' := 41) X34 hx (hb hby own_d4_38) rfl (feq (fun q => hc38_35 ((lw_eq _ _).mp q))).1 ?_
    refine own_lload (pc' := 43) X34 hx (hb hby own_d4_41) rfl rfl ?_
    refine own_bipush (pc' := 45) (z := (32 : Int32)) X34 hx (hb hby own_d4_43) rfl rfl ?_
    refine own_lushr (pc' := 46) (z := (own_ushrL (own_slot l (3 : Int32) (own_spread p)) (32 : Int32))) X34 hx (hb hby own_d4_45) rfl rfl ?_
    refine own_l2i (pc' := 47) (z := (own_ushrL (own_slot l (3 : Int32) (own_spread p)) (32 : Int32)).toInt32) X34 hx (hb hby own_d4_46) rfl rfl ?_
    refine own_iloadN (pc' := 48) X34 hx (hb hby own_d4_47) rfl rfl ?_
    by_cases hc48_36 : (own_ushrL (own_slot l (3 : Int32) (own_spread p)) (32 : Int32)).toInt32 = (own_spread p)
    · refine own_icmpNo (pc' := 51) X34 hx (hb hby own_d4_48) rfl (teq hc48_36).2 ?_
      refine own_aloadN (pc' := 52) X34 hx (hb hby own_d4_51) rfl rfl rfl ?_
      obtain ⟨T37, X37, e37, st37⟩ := getF X34 hx hZ hown (host := "") (Or.inl (own_w21 hw)) Via.refl e34 FS (g := (mkF m 52 #[.val (.ref a), .val (.int p), .val (.int (0 : Int32)), .val (.int (own_spread p)), .val (.int ((own_spread p) &&& (3 : Int32))), .val (.long (own_slot l (3 : Int32) (own_spread p))), .second] [(.ref a)])) rfl rfl (hb hby own_d4_52)
      refine own_go st37 ?_
      show own_Ends prg e below s _ _ _ T37 (mkF m 55 #[.val (.ref a), .val (.int p), .val (.int (0 : Int32)), .val (.int (own_spread p)), .val (.int ((own_spread p) &&& (3 : Int32))), .val (.long (own_slot l (3 : Int32) (own_spread p))), .second] [(.ref b)])
      refine own_iload (pc' := 57) X37 hx (hb hby own_d4_55) rfl rfl ?_
      refine own_lconst (pc' := 58) (z := (0 : Int64)) X37 hx (hb hby own_d4_57) rfl rfl ?_
      refine own_lastore (pc' := 59) X37 hx hZ e37 VB (hb hby own_d4_58) rfl (own_inm (Or.inr (Or.inl ⟨rfl, rfl⟩)) rfl _) (own_ixm (3 : Int32) (own_spread p)) rfl (by rw [own_LJlen]; rw [hl]; exact own_ixlt (Or.inr (Or.inl ⟨rfl, rfl⟩)) _) N32 gb ?_
      intro T38 h38 L38 X38 e38 N38 W38 V38
      rw [own_LJset] at V38
      show own_Ends prg e below s _ _ _ T38 (mkF m 59 #[.val (.ref a), .val (.int p), .val (.int (0 : Int32)), .val (.int (own_spread p)), .val (.int ((own_spread p) &&& (3 : Int32))), .val (.long (own_slot l (3 : Int32) (own_spread p))), .second] [])
      refine own_aloadN (pc' := 60) X38 hx (hb hby own_d4_59) rfl rfl rfl ?_
      have f39 := (FR.other W38 (Or.inl hne))
      obtain ⟨T40, X40, e40, st40⟩ := getF X38 hx hZ hown (host := "") (Or.inl (own_w44 hw)) Via.refl e38 f39 (g := (mkF m 60 #[.val (.ref a), .val (.int p), .val (.int (0 : Int32)), .val (.int (own_spread p)), .val (.int ((own_spread p) &&& (3 : Int32))), .val (.long (own_slot l (3 : Int32) (own_spread p))), .second] [(.ref a)])) rfl rfl (hb hby own_d4_60)
      refine own_go st40 ?_
      show own_Ends prg e below s _ _ _ T40 (mkF m 63 #[.val (.ref a), .val (.int p), .val (.int (0 : Int32)), .val (.int (own_spread p)), .val (.int ((own_spread p) &&& (3 : Int32))), .val (.long (own_slot l (3 : Int32) (own_spread p))), .second] [(.int n)])
      refine own_lload (pc' := 65) X40 hx (hb hby own_d4_63) rfl rfl ?_
      refine own_l2i (pc' := 66) (z := (own_slot l (3 : Int32) (own_spread p)).toInt32) X40 hx (hb hby own_d4_65) rfl rfl ?_
      refine own_isub (pc' := 67) (z := (n - (own_slot l (3 : Int32) (own_spread p)).toInt32)) X40 hx (hb hby own_d4_66) rfl rfl ?_
      refine own_aloadN (pc' := 68) X40 hx (hb hby own_d4_67) rfl rfl rfl ?_
      have f41 := (FD.other W38 (Or.inl hne))
      obtain ⟨T42, X42, e42, st42⟩ := getF X40 hx hZ hown (host := "") (Or.inl (own_w14 hw)) Via.refl e40 f41 (g := (mkF m 68 #[.val (.ref a), .val (.int p), .val (.int (0 : Int32)), .val (.int (own_spread p)), .val (.int ((own_spread p) &&& (3 : Int32))), .val (.long (own_slot l (3 : Int32) (own_spread p))), .second] [(.ref a), (.int (n - (own_slot l (3 : Int32) (own_spread p)).toInt32))])) rfl rfl (hb hby own_d4_68)
      refine own_go st42 ?_
      show own_Ends prg e below s _ _ _ T42 (mkF m 71 #[.val (.ref a), .val (.int p), .val (.int (0 : Int32)), .val (.int (own_spread p)), .val (.int ((own_spread p) &&& (3 : Int32))), .val (.long (own_slot l (3 : Int32) (own_spread p))), .second] [(.int d), (.int (n - (own_slot l (3 : Int32) (own_spread p)).toInt32))])
      by_cases hc71_43 : (n - (own_slot l (3 : Int32) (own_spread p)).toInt32) < d
      · refine own_icmpNo (pc' := 74) X42 hx (hb hby own_d4_71) rfl (tlt hc71_43).2.1 ?_
        refine own_iconst (pc' := 75) (z := (1 : Int32)) X42 hx (hb hby own_d4_74) rfl rfl ?_
        refine own_goto (pc' := 79) X42 hx (hb hby own_d4_75) (by decide) (by decide) ?_
        refine own_istoreN (pc' := 80) (l' := #[.val (.ref a), .val (.int p), .val (.int (1 : Int32)), .val (.int (own_spread p)), .val (.int ((own_spread p) &&& (3 : Int32))), .val (.long (own_slot l (3 : Int32) (own_spread p))), .second]) X42 hx (hb hby own_d4_79) rfl rfl ?_
        refine own_iloadN (pc' := 81) X42 hx (hb hby own_d4_80) rfl rfl ?_
        refine own_retN X42 hx hlk hret (by simp) (hb hby own_d4_81) (by decide) (by decide) ?_
        have f44 := (K0.wr W38 (Or.inl (List.mem_of_getElem? (i := 0) rfl)))
        have er : own_rl l (3 : Int32) (own_spread p) = l.set (own_ixm (3 : Int32) (own_spread p)) 0 := ((if_neg hc38_35).trans (if_pos hc48_36))
        have ev : own_rv l (3 : Int32) (own_spread p) n d = (1 : Int32) := ((if_neg hc38_35).trans (if_pos hc48_36)).trans (if_pos hc71_43)
        rw [e42]; refine ⟨own_some (by rw [own_nb1, ev]), N38, f44, ?_⟩
        rw [er]; exact V38
      · refine own_icmpYes (pc' := 78) X42 hx (hb hby own_d4_71) (flt hc71_43).2.1 (by decide) (by decide) ?_
        refine own_iconst (pc' := 79) (z := (0 : Int32)) X42 hx (hb hby own_d4_78) rfl rfl ?_
        refine own_istoreN (pc' := 80) (l' := #[.val (.ref a), .val (.int p), .val (.int (0 : Int32)), .val (.int (own_spread p)), .val (.int ((own_spread p) &&& (3 : Int32))), .val (.long (own_slot l (3 : Int32) (own_spread p))), .second]) X42 hx (hb hby own_d4_79) rfl rfl ?_
        refine own_iloadN (pc' := 81) X42 hx (hb hby own_d4_80) rfl rfl ?_
        refine own_retN X42 hx hlk hret (by simp) (hb hby own_d4_81) (by decide) (by decide) ?_
        have f45 := (K0.wr W38 (Or.inl (List.mem_of_getElem? (i := 0) rfl)))
        have er : own_rl l (3 : Int32) (own_spread p) = l.set (own_ixm (3 : Int32) (own_spread p)) 0 := ((if_neg hc38_35).trans (if_pos hc48_36))
        have ev : own_rv l (3 : Int32) (own_spread p) n d = (0 : Int32) := ((if_neg hc38_35).trans (if_pos hc48_36)).trans (if_neg hc71_43)
        rw [e42]; refine ⟨own_some (by rw [own_nb0, ev]), N38, f45, ?_⟩
        rw [er]; exact V38
    · refine own_icmpYes (pc' := 80) X34 hx (hb hby own_d4_48) (feq hc48_36).2 (by decide) (by decide) ?_
      refine own_iloadN (pc' := 81) X34 hx (hb hby own_d4_80) rfl rfl ?_
      refine own_retN X34 hx hlk hret (by simp) (hb hby own_d4_81) (by decide) (by decide) ?_
      have er : own_rl l (3 : Int32) (own_spread p) = l := ((if_neg hc38_35).trans (if_neg hc48_36))
      have ev : own_rv l (3 : Int32) (own_spread p) n d = (0 : Int32) := ((if_neg hc38_35).trans (if_neg hc48_36))
      rw [e34]; refine ⟨own_some (by rw [own_nb0, ev]), N32, K0, ?_⟩
      rw [er]; exact VB
def own_room4_8 : Room := { frames := 1, cells := 0, slots := 0, locals := 13 }
def own_Q4_8 (Z : State) (a : Addr) (p : Int32) (b : Addr) (bk : ClassId) (l : List Int64) (n : Int32) (d : Int32) (h0 : Heap) (n0 : Nat) (v : Option Value) (h : Heap) (L : List Loc) : Prop := v = some (.int (own_rv l (7 : Int32) (own_spread p) n d)) ∧ Fr n0 L ∧ Keep h0 h [b] ∧ Arv Z h b bk .long (8 : Int32) (own_LJ (own_rl l (7 : Int32) (own_spread p))) (.long (0 : Int64))
theorem own_ef_rm4_8 (m : MethodId) (x0 : Addr) (x1 : Int32) : entryFrame m #[(.ref x0), (.int x1)] 7 = mkF m 0 #[.val (.ref x0), .val (.int x1), .unset, .unset, .unset, .unset, .unset] [] := by first | (simp [entryFrame, mkF, argsToLocals, Value.category]; done) | rfl
set_option maxRecDepth 65536 in
set_option maxHeartbeats 40000000 in
theorem own_rm4_8 (lch : Launch) (Z : State) (a0 : Array Value) (hw : ∀ d ∈ tables_1, d.before a0 Z = true) (ws : List Jvm.Cond) (a : Addr) (p : Int32) (b : Addr) (bk : ClassId) (l : List Int64) (n : Int32) (d : Int32) (h0 : Heap) (n0 : Nat) (FD : Fld Z h0 a "com/example/larder/larder/cache/EvictedKeys" "depth" "I" (.int d)) (FS : Fld Z h0 a "com/example/larder/larder/cache/EvictedKeys" "slots" "[J" (.ref b)) (FR : Fld Z h0 a "com/example/larder/larder/cache/EvictedKeys" "remembered" "I" (.int n)) (VB : Arv Z h0 b bk .long (8 : Int32) (own_LJ l) (.long (0 : Int64))) (hl : l.length = 8) (gb : n0 ≤ b) (hne : a ≠ b) :
    MetFree lch (⟨"com/example/larder/larder/cache/EvictedKeys", "recall", "(I)Z"⟩ : MethodName) (head1 (Jvm.Cond.code (⟨"com/example/larder/larder/cache/EvictedKeys", "recall", "(I)Z"⟩ : MethodName) prog_5_method_3_code 7 (some .boolean) :: ws) own_room4_8) (fun zz U => zz = #[(.ref a), (.int p)] ∧ Z.Warmed39 U.vm ∧ U.heap = h0) (fun _ _ _ _ _ => True) (fun _ U o U' => ∃ v L, o = .returned v ∧ own_Q4_8 Z a p b bk l n d h0 n0 v U'.heap L ∧ FrameEnd U o U' L own_room4_8.cells own_room4_8.slots) := by
  refine MetFree.of_bodySF (plainFor_of_name own_pn2) hisR ?_
  intro prg e s m args below meth c s₁ Bd hml0 hP hK
  obtain ⟨rfl, hZ, hh⟩ := hP
  have hx := Bd.exec
  have hby := Bd.bytes
  have hml : c.maxLocals = 7 := hml0
  have hown : s.vm.findClass "com/example/larder/larder/cache/EvictedKeys" = some m.cls := findClass_of_methodNamed Bd.named
  have hnm := (name_of_methodNamed Bd.named Bd.method).1
  have hlk : meth.locks = false := BodyLoose.notSynchronized Bd
  have hret := Bd.returns
  have X0 : Stand prg lch e own_room4_8 s m #[(.ref a), (.int p)] below meth c s₁ [] 0 0 := Stand.of_body Bd
  have e0 : s₁.heap = h0 := by rw [← hh, Bd.state]; rfl
  have N0 := Fr.nil n0
  show own_Ends prg e below s (own_Q4_8 Z a p b bk l n d h0 n0) own_room4_8.cells own_room4_8.slots s₁ (entryFrame m #[(.ref a), (.int p)] 7)
  refine own_cast (own_ef_rm4_8 m a p) ?_
  have K0 := Keep.refl h0 ([b] : List Addr)
  refine own_iconst (pc' := 1) (z := (0 : Int32)) X0 hx (hb hby own_d4_0) rfl rfl ?_
  refine own_istoreN (pc' := 2) (l' := #[.val (.ref a), .val (.int p), .val (.int (0 : Int32)), .unset, .unset, .unset, .unset]) X0 hx (hb hby own_d4_1) rfl rfl ?_
  refine own_aloadN (pc' := 3) X0 hx (hb hby own_d4_2) rfl rfl rfl ?_
  obtain ⟨T31, X31, e31, st31⟩ := getF X0 hx hZ hown (host := "") (Or.inl (own_w21 hw)) Via.refl e0 FS (g := (mkF m 3 #[.val (.ref a), .val (.int p), .val (.int (0 : Int32)), .unset, .unset, .unset, .unset] [(.ref a)])) rfl rfl (hb hby own_d4_3)
  refine own_go st31 ?_
  show own_Ends prg e below s _ _ _ T31 (mkF m 6 #[.val (.ref a), .val (.int p), .val (.int (0 : Int32)), .unset, .unset, .unset, .unset] [(.ref b)])
  refine own_ifnullNo (pc' := 9) X31 hx (hb hby own_d4_6) rfl ?_
  refine own_iloadN (pc' := 10) X31 hx (hb hby own_d4_9) rfl rfl ?_
  refine own_callS (pc' := 13) (y := (⟨"com/example/larder/larder/cache/UseCounts", "spread", "(I)I"⟩ : MethodName)) (W := 0) (rm := own_room5) (argsL := [(.int p)]) (rest := []) X31 hx hZ e31 hown (by rw [hml]; rfl) (own_w43 hw) (own_w24 hw) (own_w25 hw) (own_w26 hw) (by decide) (own_rm5 lch Z a0 hw [] p h0 n0) (by decide) (by decide) (by decide) (by decide) (lenOf own_pd0 rfl) rfl (by exact Nat.le_of_eq rfl) (hb hby own_d4_10) rfl ?_
  intro T32 Lc32 v32 X32 hQ32
  obtain ⟨rfl, Nq32, Kq32⟩ := hQ32
  have N32 := Fr.app N0 Nq32
  show own_Ends prg e below s _ _ _ T32 (mkF m 13 #[.val (.ref a), .val (.int p), .val (.int (0 : Int32)), .unset, .unset, .unset, .unset] [(.int (own_spread p))])
  refine own_istoreN (pc' := 14) (l' := #[.val (.ref a), .val (.int p), .val (.int (0 : Int32)), .val (.int (own_spread p)), .unset, .unset, .unset]) X32 hx (hb hby own_d4_13) rfl rfl ?_
  refine own_iloadN (pc' := 15) X32 hx (hb hby own_d4_14) rfl rfl ?_
  refine own_aloadN (pc' := 16) X32 hx (hb hby own_d4_15) rfl rfl rfl ?_
  obtain ⟨T33, X33, e33, st33⟩ := getF X32 hx hZ hown (host := "") (Or.inl (own_w21 hw)) Via.refl Kq32 FS (g := (mkF m 16 #[.val (.ref a), .val (.int p), .val (.int (0 : Int32)), .val (.int (own_spread p)), .unset, .unset, .unset] [(.ref a), (.int (own_spread p))])) rfl rfl (hb hby own_d4_16)
  refine own_go st33 ?_
  show own_Ends prg e below s _ _ _ T33 (mkF m 19 #[.val (.ref a), .val (.int p), .val (.int (0 : Int32)), .val (.int (own_spread p)), .unset, .unset, .unset] [(.ref b), (.int (own_spread p))])
  refine own_alen (pc' := 20) X33 hx hZ e33 VB (hb hby own_d4_19) rfl ?_
  refine own_iconst (pc' := 21) (z := (1 : Int32)) X33 hx (hb hby own_d4_20) rfl rfl ?_
  refine own_isub (pc' := 22) (z := (7 : Int32)) X33 hx (hb hby own_d4_21) rfl (by decide) ?_
  refine own_iand (pc' := 23) (z := ((own_spread p) &&& (7 : Int32))) X33 hx (hb hby own_d4_22) rfl rfl ?_
  refine own_istore (pc' := 25) (l' := #[.val (.ref a), .val (.int p), .val (.int (0 : Int32)), .val (.int (own_spread p)), .val (.int ((own_spread p) &&& (7 : Int32))), .unset, .unset]) X33 hx (hb hby own_d4_23) rfl rfl ?_
  refine own_aloadN (pc' := 26) X33 hx (hb hby own_d4_25) rfl rfl rfl ?_
  obtain ⟨T34, X34, e34, st34⟩ := getF X33 hx hZ hown (host := "") (Or.inl (own_w21 hw)) Via.refl e33 FS (g := (mkF m 26 #[.val (.ref a), .val (.int p), .val (.int (0 : Int32)), .val (.int (own_spread p)), .val (.int ((own_spread p) &&& (7 : Int32))), .unset, .unset] [(.ref a)])) rfl rfl (hb hby own_d4_26)
  refine own_go st34 ?_
  show own_Ends prg e below s _ _ _ T34 (mkF m 29 #[.val (.ref a), .val (.int p), .val (.int (0 : Int32)), .val (.int (own_spread p)), .val (.int ((own_spread p) &&& (7 : Int32))), .unset, .unset] [(.ref b)])
  refine own_iload (pc' := 31) X34 hx (hb hby own_d4_29) rfl rfl ?_
  refine own_laload (pc' := 32) (v := (.long (own_slot l (7 : Int32) (own_spread p)))) X34 hx hZ e34 VB (hb hby own_d4_31) rfl (own_inm (Or.inr (Or.inr ⟨rfl, rfl⟩)) rfl _) (own_LJget _ _) ?_
  refine own_lstore (pc' := 34) (l' := #[.val (.ref a), .val (.int p), .val (.int (0 : Int32)), .val (.int (own_spread p)), .val (.int ((own_spread p) &&& (7 : Int32))), .val (.long (own_slot l (7 : Int32) (own_spread p))), .second]) X34 hx (hb hby own_d4_32) rfl rfl ?_
  refine own_lload (pc' := 36) X34 hx (hb hby own_d4_34) rfl rfl ?_
  refine own_lconst (pc' := 37) (z := (0 : Int64)) X34 hx (hb hby own_d4_36) rfl rfl ?_
  refine own_lcmp (pc' := 38) (z := (lcmpW (own_slot l (7 : Int32) (own_spread p)) (0 : Int64))) X34 hx (hb hby own_d4_37) rfl rfl ?_
  by_cases hc38_35 : (own_slot l (7 : Int32) (own_spread p)) = (0 : Int64)
  · refine own_ifYes (pc' := 80) X34 hx (hb hby own_d4_38) (teq ((lw_eq _ _).mpr hc38_35)).1 (by decide) (by decide) ?_
    refine own_iloadN (pc' := 81) X34 hx (hb hby own_d4_80) rfl rfl ?_
    refine own_retN X34 hx hlk hret (by simp) (hb hby own_d4_81) (by decide) (by decide) ?_
    have er : own_rl l (7 : Int32) (own_spread p) = l := (if_pos hc38_35)
    have ev : own_rv l (7 : Int32) (own_spread p) n d = (0 : Int32) := (if_pos hc38_35)
    rw [e34]; refine ⟨own_some (by rw [own_nb0, ev]), N32, K0, ?_⟩
    rw [er]; exact VB
  · refine own_ifNo (pc' := 41) X34 hx (hb hby own_d4_38) rfl (feq (fun q => hc38_35 ((lw_eq _ _).mp q))).1 ?_
    refine own_lload (pc' := 43) X34 hx (hb hby own_d4_41) rfl rfl ?_
    refine own_bipush (pc' := 45) (z := (32 : Int32)) X34 hx (hb hby own_d4_43) rfl rfl ?_
    refine own_lushr (pc' := 46) (z := (own_ushrL (own_slot l (7 : Int32) (own_spread p)) (32 : Int32))) X34 hx (hb hby own_d4_45) rfl rfl ?_
    refine own_l2i (pc' := 47) (z := (own_ushrL (own_slot l (7 : Int32) (own_spread p)) (32 : Int32)).toInt32) X34 hx (hb hby own_d4_46) rfl rfl ?_
    refine own_iloadN (pc' := 48) X34 hx (hb hby own_d4_47) rfl rfl ?_
    by_cases hc48_36 : (own_ushrL (own_slot l (7 : Int32) (own_spread p)) (32 : Int32)).toInt32 = (own_spread p)
    · refine own_icmpNo (pc' := 51) X34 hx (hb hby own_d4_48) rfl (teq hc48_36).2 ?_
      refine own_aloadN (pc' := 52) X34 hx (hb hby own_d4_51) rfl rfl rfl ?_
      obtain ⟨T37, X37, e37, st37⟩ := getF X34 hx hZ hown (host := "") (Or.inl (own_w21 hw)) Via.refl e34 FS (g := (mkF m 52 #[.val (.ref a), .val (.int p), .val (.int (0 : Int32)), .val (.int (own_spread p)), .val (.int ((own_spread p) &&& (7 : Int32))), .val (.long (own_slot l (7 : Int32) (own_spread p))), .second] [(.ref a)])) rfl rfl (hb hby own_d4_52)
      refine own_go st37 ?_
      show own_Ends prg e below s _ _ _ T37 (mkF m 55 #[.val (.ref a), .val (.int p), .val (.int (0 : Int32)), .val (.int (own_spread p)), .val (.int ((own_spread p) &&& (7 : Int32))), .val (.long (own_slot l (7 : Int32) (own_spread p))), .second] [(.ref b)])
      refine own_iload (pc' := 57) X37 hx (hb hby own_d4_55) rfl rfl ?_
      refine own_lconst (pc' := 58) (z := (0 : Int64)) X37 hx (hb hby own_d4_57) rfl rfl ?_
      refine own_lastore (pc' := 59) X37 hx hZ e37 VB (hb hby own_d4_58) rfl (own_inm (Or.inr (Or.inr ⟨rfl, rfl⟩)) rfl _) (own_ixm (7 : Int32) (own_spread p)) rfl (by rw [own_LJlen]; rw [hl]; exact own_ixlt (Or.inr (Or.inr ⟨rfl, rfl⟩)) _) N32 gb ?_
      intro T38 h38 L38 X38 e38 N38 W38 V38
      rw [own_LJset] at V38
      show own_Ends prg e below s _ _ _ T38 (mkF m 59 #[.val (.ref a), .val (.int p), .val (.int (0 : Int32)), .val (.int (own_spread p)), .val (.int ((own_spread p) &&& (7 : Int32))), .val (.long (own_slot l (7 : Int32) (own_spread p))), .second] [])
      refine own_aloadN (pc' := 60) X38 hx (hb hby own_d4_59) rfl rfl rfl ?_
      have f39 := (FR.other W38 (Or.inl hne))
      obtain ⟨T40, X40, e40, st40⟩ := getF X38 hx hZ hown (host := "") (Or.inl (own_w44 hw)) Via.refl e38 f39 (g := (mkF m 60 #[.val (.ref a), .val (.int p), .val (.int (0 : Int32)), .val (.int (own_spread p)), .val (.int ((own_spread p) &&& (7 : Int32))), .val (.long (own_slot l (7 : Int32) (own_spread p))), .second] [(.ref a)])) rfl rfl (hb hby own_d4_60)
      refine own_go st40 ?_
      show own_Ends prg e below s _ _ _ T40 (mkF m 63 #[.val (.ref a), .val (.int p), .val (.int (0 : Int32)), .val (.int (own_spread p)), .val (.int ((own_spread p) &&& (7 : Int32))), .val (.long (own_slot l (7 : Int32) (own_spread p))), .second] [(.int n)])
      refine own_lload (pc' := 65) X40 hx (hb hby own_d4_63) rfl rfl ?_
      refine own_l2i (pc' := 66) (z := (own_slot l (7 : Int32) (own_spread p)).toInt32) X40 hx (hb hby own_d4_65) rfl rfl ?_
      refine own_isub (pc' := 67) (z := (n - (own_slot l (7 : Int32) (own_spread p)).toInt32)) X40 hx (hb hby own_d4_66) rfl rfl ?_
      refine own_aloadN (pc' := 68) X40 hx (hb hby own_d4_67) rfl rfl rfl ?_
      have f41 := (FD.other W38 (Or.inl hne))
      obtain ⟨T42, X42, e42, st42⟩ := getF X40 hx hZ hown (host := "") (Or.inl (own_w14 hw)) Via.refl e40 f41 (g := (mkF m 68 #[.val (.ref a), .val (.int p), .val (.int (0 : Int32)), .val (.int (own_spread p)), .val (.int ((own_spread p) &&& (7 : Int32))), .val (.long (own_slot l (7 : Int32) (own_spread p))), .second] [(.ref a), (.int (n - (own_slot l (7 : Int32) (own_spread p)).toInt32))])) rfl rfl (hb hby own_d4_68)
      refine own_go st42 ?_
      show own_Ends prg e below s _ _ _ T42 (mkF m 71 #[.val (.ref a), .val (.int p), .val (.int (0 : Int32)), .val (.int (own_spread p)), .val (.int ((own_spread p) &&& (7 : Int32))), .val (.long (own_slot l (7 : Int32) (own_spread p))), .second] [(.int d), (.int (n - (own_slot l (7 : Int32) (own_spread p)).toInt32))])
      by_cases hc71_43 : (n - (own_slot l (7 : Int32) (own_spread p)).toInt32) < d
      · refine own_icmpNo (pc' := 74) X42 hx (hb hby own_d4_71) rfl (tlt hc71_43).2.1 ?_
        refine own_iconst (pc' := 75) (z := (1 : Int32)) X42 hx (hb hby own_d4_74) rfl rfl ?_
        refine own_goto (pc' := 79) X42 hx (hb hby own_d4_75) (by decide) (by decide) ?_
        refine own_istoreN (pc' := 80) (l' := #[.val (.ref a), .val (.int p), .val (.int (1 : Int32)), .val (.int (own_spread p)), .val (.int ((own_spread p) &&& (7 : Int32))), .val (.long (own_slot l (7 : Int32) (own_spread p))), .second]) X42 hx (hb hby own_d4_79) rfl rfl ?_
        refine own_iloadN (pc' := 81) X42 hx (hb hby own_d4_80) rfl rfl ?_
        refine own_retN X42 hx hlk hret (by simp) (hb hby own_d4_81) (by decide) (by decide) ?_
        have f44 := (K0.wr W38 (Or.inl (List.mem_of_getElem? (i := 0) rfl)))
        have er : own_rl l (7 : Int32) (own_spread p) = l.set (own_ixm (7 : Int32) (own_spread p)) 0 := ((if_neg hc38_35).trans (if_pos hc48_36))
        have ev : own_rv l (7 : Int32) (own_spread p) n d = (1 : Int32) := ((if_neg hc38_35).trans (if_pos hc48_36)).trans (if_pos hc71_43)
        rw [e42]; refine ⟨own_some (by rw [own_nb1, ev]), N38, f44, ?_⟩
        rw [er]; exact V38
      · refine own_icmpYes (pc' := 78) X42 hx (hb hby own_d4_71) (flt hc71_43).2.1 (by decide) (by decide) ?_
        refine own_iconst (pc' := 79) (z := (0 : Int32)) X42 hx (hb hby own_d4_78) rfl rfl ?_
        refine own_istoreN (pc' := 80) (l' := #[.val (.ref a), .val (.int p), .val (.int (0 : Int32)), .val (.int (own_spread p)), .val (.int ((own_spread p) &&& (7 : Int32))), .val (.long (own_slot l (7 : Int32) (own_spread p))), .second]) X42 hx (hb hby own_d4_79) rfl rfl ?_
        refine own_iloadN (pc' := 81) X42 hx (hb hby own_d4_80) rfl rfl ?_
        refine own_retN X42 hx hlk hret (by simp) (hb hby own_d4_81) (by decide) (by decide) ?_
        have f45 := (K0.wr W38 (Or.inl (List.mem_of_getElem? (i := 0) rfl)))
        have er : own_rl l (7 : Int32) (own_spread p) = l.set (own_ixm (7 : Int32) (own_spread p)) 0 := ((if_neg hc38_35).trans (if_pos hc48_36))
        have ev : own_rv l (7 : Int32) (own_spread p) n d = (0 : Int32) := ((if_neg hc38_35).trans (if_pos hc48_36)).trans (if_neg hc71_43)
        rw [e42]; refine ⟨own_some (by rw [own_nb0, ev]), N38, f45, ?_⟩
        rw [er]; exact V38
    · refine own_icmpYes (pc' := 80) X34 hx (hb hby own_d4_48) (feq hc48_36).2 (by decide) (by decide) ?_
      refine own_iloadN (pc' := 81) X34 hx (hb hby own_d4_80) rfl rfl ?_
      refine own_retN X34 hx hlk hret (by simp) (hb hby own_d4_81) (by decide) (by decide) ?_
      have er : own_rl l (7 : Int32) (own_spread p) = l := ((if_neg hc38_35).trans (if_neg hc48_36))
      have ev : own_rv l (7 : Int32) (own_spread p) n d = (0 : Int32) := ((if_neg hc38_35).trans (if_neg hc48_36))
      rw [e34]; refine ⟨own_some (by rw [own_nb0, ev]), N32, K0, ?_⟩
      rw [er]; exact VB
def own_Q0 (Z : State) (p0 : Int32) (p1 : Int32) (p2 : Int32) (p3 : Int32) (p4 : Int32) (h0 : Heap) (n0 : Nat) (v : Option Value) (h : Heap) (L : List Loc) : Prop := v = some (.int 1) ∧ Fr n0 L
theorem own_ef_rm0 (m : MethodId) (x0 : Int32) (x1 : Int32) (x2 : Int32) (x3 : Int32) (x4 : Int32) : entryFrame m #[(.int x0), (.int x1), (.int x2), (.int x3), (.int x4)] maxLocals = mkF m 0 #[.val (.int x0), .val (.int x1), .val (.int x2), .val (.int x3), .val (.int x4), .unset, .unset, .unset, .unset, .unset, .unset, .unset, .unset, .unset, .unset, .unset, .unset, .unset] [] := by first | (simp [entryFrame, mkF, argsToLocals, Value.category, maxLocals]; done) | rfl
set_option maxRecDepth 65536 in
set_option maxHeartbeats 40000000 in
theorem own_rm0 (lch : Launch) (Z : State) (a0 : Array Value) (hw : ∀ d ∈ tables_1, d.before a0 Z = true) (ws : List Jvm.Cond) (p0 : Int32) (p1 : Int32) (p2 : Int32) (p3 : Int32) (p4 : Int32) (h0 : Heap) (n0 : Nat) (Z0 : n0 ≤ h0.size) :
    MetFree lch x (head1 (Jvm.Cond.code x code maxLocals ret :: ws) room_1) (fun zz U => zz = #[(.int p0), (.int p1), (.int p2), (.int p3), (.int p4)] ∧ Z.Warmed39 U.vm ∧ U.heap = h0) (fun _ _ _ _ _ => True) (fun _ U o U' => ∃ v L, o = .returned v ∧ own_Q0 Z p0 p1 p2 p3 p4 h0 n0 v U'.heap L ∧ FrameEnd U o U' L 16 128) := by
  refine MetFree.of_bodySF (plainFor_of_name own_pn3) hisR ?_
  intro prg e s m args below meth c s₁ Bd hml0 hP hK
  obtain ⟨rfl, hZ, hh⟩ := hP
  have hx := Bd.exec
  have hby := Bd.bytes
  have hml : c.maxLocals = 18 := hml0
  have hown : s.vm.findClass "com/example/larder/larder/cache/EvictedKeysRecallPinLaw" = some m.cls := findClass_of_methodNamed Bd.named
  have hnm := (name_of_methodNamed Bd.named Bd.method).1
  have hlk : meth.locks = false := BodyLoose.notSynchronized Bd
  have hret := Bd.returns
  have X0 : Stand prg lch e room_1 s m #[(.int p0), (.int p1), (.int p2), (.int p3), (.int p4)] below meth c s₁ [] 0 0 := Stand.of_body Bd
  have e0 : s₁.heap = h0 := by rw [← hh, Bd.state]; rfl
  have N0 := Fr.nil n0
  show own_Ends prg e below s (own_Q0 Z p0 p1 p2 p3 p4 h0 n0) 16 128 s₁ (entryFrame m #[(.int p0), (.int p1), (.int p2), (.int p3), (.int p4)] maxLocals)
  refine own_cast (own_ef_rm0 m p0 p1 p2 p3 p4) ?_
  refine own_iconst (pc' := 1) (z := (1 : Int32)) X0 hx (hb hby at_0) rfl rfl ?_
  refine own_iloadN (pc' := 2) X0 hx (hb hby at_1) rfl rfl ?_
  refine own_iconst (pc' := 3) (z := (3 : Int32)) X0 hx (hb hby at_2) rfl rfl ?_
  refine own_iand (pc' := 4) (z := (p0 &&& (3 : Int32))) X0 hx (hb hby at_3) rfl rfl ?_
  obtain ⟨d31, hd31⟩ : ∃ z, ((1 : Int32) + (p0 &&& (3 : Int32))) = z := ⟨_, rfl⟩
  refine own_iadd (pc' := 5) (z := d31) X0 hx (hb hby at_4) rfl hd31 ?_
  refine own_istore (pc' := 7) (l' := #[.val (.int p0), .val (.int p1), .val (.int p2), .val (.int p3), .val (.int p4), .val (.int d31), .unset, .unset, .unset, .unset, .unset, .unset, .unset, .unset, .unset, .unset, .unset, .unset]) X0 hx (hb hby at_5) rfl rfl ?_
  refine own_iloadN (pc' := 8) X0 hx (hb hby at_7) rfl rfl ?_
  refine own_iconst (pc' := 9) (z := (2 : Int32)) X0 hx (hb hby at_8) rfl rfl ?_
  refine own_iushr (pc' := 10) (z := (own_ushr p0 (2 : Int32))) X0 hx (hb hby at_9) rfl rfl ?_
  refine own_iconst (pc' := 11) (z := (3 : Int32)) X0 hx (hb hby at_10) rfl rfl ?_
  obtain ⟨n32, hn32⟩ : ∃ z, ((own_ushr p0 (2 : Int32)) &&& (3 : Int32)) = z := ⟨_, rfl⟩
  refine own_iand (pc' := 12) (z := n32) X0 hx (hb hby at_11) rfl hn32 ?_
  refine own_istore (pc' := 14) (l' := #[.val (.int p0), .val (.int p1), .val (.int p2), .val (.int p3), .val (.int p4), .val (.int d31), .val (.int n32), .unset, .unset, .unset, .unset, .unset, .unset, .unset, .unset, .unset, .unset, .unset]) X0 hx (hb hby at_12) rfl rfl ?_
  refine own_iloadN (pc' := 15) X0 hx (hb hby at_14) rfl rfl ?_
  refine own_iconst (pc' := 16) (z := (4 : Int32)) X0 hx (hb hby at_15) rfl rfl ?_
  refine own_iushr (pc' := 17) (z := (own_ushr p0 (4 : Int32))) X0 hx (hb hby at_16) rfl rfl ?_
  refine own_iconst (pc' := 18) (z := (3 : Int32)) X0 hx (hb hby at_17) rfl rfl ?_
  refine own_iand (pc' := 19) (z := ((own_ushr p0 (4 : Int32)) &&& (3 : Int32))) X0 hx (hb hby at_18) rfl rfl ?_
  refine own_istore (pc' := 21) (l' := #[.val (.int p0), .val (.int p1), .val (.int p2), .val (.int p3), .val (.int p4), .val (.int d31), .val (.int n32), .val (.int ((own_ushr p0 (4 : Int32)) &&& (3 : Int32))), .unset, .unset, .unset, .unset, .unset, .unset, .unset, .unset, .unset, .unset]) X0 hx (hb hby at_19) rfl rfl ?_
  rcases own_d hd31 with rfl | rfl | rfl | rfl
  · refine own_iload (pc' := 23) X0 hx (hb hby at_21) rfl rfl ?_
    refine own_iconst (pc' := 24) (z := (1 : Int32)) X0 hx (hb hby at_23) rfl rfl ?_
    refine own_icmpNo (pc' := 27) X0 hx (hb hby at_24) rfl (teq (by decide)).2 ?_
    refine own_iconst (pc' := 28) (z := (2 : Int32)) X0 hx (hb hby at_27) rfl rfl ?_
    refine own_goto (pc' := 43) X0 hx (hb hby at_28) (by decide) (by decide) ?_
    refine own_istore (pc' := 45) (l' := #[.val (.int p0), .val (.int p1), .val (.int p2), .val (.int p3), .val (.int p4), .val (.int (1 : Int32)), .val (.int n32), .val (.int ((own_ushr p0 (4 : Int32)) &&& (3 : Int32))), .val (.int (2 : Int32)), .unset, .unset, .unset, .unset, .unset, .unset, .unset, .unset, .unset]) X0 hx (hb hby at_43) rfl rfl ?_
    have K34 : ∀ (q33 : Int32), own_Ends prg e below s (own_Q0 Z p0 p1 p2 p3 p4 h0 n0) 16 128 s₁ (mkF m 76 #[.val (.int p0), .val (.int p1), .val (.int p2), .val (.int p3), .val (.int p4), .val (.int (1 : Int32)), .val (.int n32), .val (.int ((own_ushr p0 (4 : Int32)) &&& (3 : Int32))), .val (.int (2 : Int32)), .unset, .unset, .unset, .unset, .unset, .unset, .unset, .unset, .unset] [(.int q33)]) := by
      intro q33
      refine own_istore (pc' := 78) (l' := #[.val (.int p0), .val (.int p1), .val (.int p2), .val (.int p3), .val (.int p4), .val (.int (1 : Int32)), .val (.int n32), .val (.int ((own_ushr p0 (4 : Int32)) &&& (3 : Int32))), .val (.int (2 : Int32)), .val (.int q33), .unset, .unset, .unset, .unset, .unset, .unset, .unset, .unset]) X0 hx (hb hby at_76) rfl rfl ?_
      obtain ⟨T35, h35, X35, e35, E35, A35, D35, -, st35⟩ := newO X0 hx hZ hown (own_w0 hw) (own_w1 hw) (own_w2 hw) e0 (g := (mkF m 78 #[.val (.int p0), .val (.int p1), .val (.int p2), .val (.int p3), .val (.int p4), .val (.int (1 : Int32)), .val (.int n32), .val (.int ((own_ushr p0 (4 : Int32)) &&& (3 : Int32))), .val (.int (2 : Int32)), .val (.int q33), .unset, .unset, .unset, .unset, .unset, .unset, .unset, .unset] [])) rfl (hb hby at_78) (by decide) (by decide)
      refine own_go st35 ?_
      obtain ⟨a35, g35⟩ : ∃ z, z = h0.size := ⟨_, rfl⟩
      rw [← g35] at A35 D35
      have ge36 : n0 ≤ a35 := by rw [g35]; exact Z0
      have F37 : Fld Z h35 a35 "com/example/larder/larder/cache/EvictedKeys" "depth" "I" (.int (0 : Int32)) := D35 (Or.inr (own_w15 hw)) (ty := .int) (by decide)
      have F38 : Fld Z h35 a35 "com/example/larder/larder/cache/EvictedKeys" "slots" "[J" .null := D35 (Or.inl (own_w22 hw)) (ty := (.array .long)) (by decide)
      have F39 : Fld Z h35 a35 "com/example/larder/larder/cache/EvictedKeys" "remembered" "I" (.int (0 : Int32)) := D35 (Or.inl (own_w45 hw)) (ty := .int) (by decide)
      show own_Ends prg e below s _ _ _ T35 (mkF m 81 #[.val (.int p0), .val (.int p1), .val (.int p2), .val (.int p3), .val (.int p4), .val (.int (1 : Int32)), .val (.int n32), .val (.int ((own_ushr p0 (4 : Int32)) &&& (3 : Int32))), .val (.int (2 : Int32)), .val (.int q33), .unset, .unset, .unset, .unset, .unset, .unset, .unset, .unset] [(.ref h0.size)])
      rw [← g35]
      refine own_dup (pc' := 82) X35 hx (hb hby at_81) rfl rfl ?_
      refine own_iload (pc' := 84) X35 hx (hb hby at_82) rfl rfl ?_
      refine own_i2l (pc' := 85) (z := (1 : Int64)) X35 hx (hb hby at_84) rfl (by decide) ?_
      refine own_callC (pc' := 88) (y := (⟨"com/example/larder/larder/cache/EvictedKeys", "<init>", "(J)V"⟩ : MethodName)) (W := 1) (rm := own_room1_1) (argsL := [(.long (1 : Int64))]) (rest := [(.ref a35)]) (b := a35) X35 hx hZ e35 hown (by rw [hml]; rfl) rfl rfl (own_w3 hw) (own_w4 hw) (own_w2 hw) (own_w5 hw) (by decide) (own_rm1_1 lch Z a0 hw [] a35 _ h35 n0 A35 F37 F38 F39 ge36) (by decide) (by decide) (by decide) (by decide) (lenOf own_pd2 rfl) rfl (by exact Nat.le_of_eq rfl) (hb hby at_85) rfl ?_
      intro T40 Lc40 v40 X40 hQ40
      obtain ⟨rfl, Nq40, Kq40, G40_0, G40_1, G40_2⟩ := hQ40
      have N40 := Fr.app N0 Nq40
      show own_Ends prg e below s _ _ _ T40 (mkF m 88 #[.val (.int p0), .val (.int p1), .val (.int p2), .val (.int p3), .val (.int p4), .val (.int (1 : Int32)), .val (.int n32), .val (.int ((own_ushr p0 (4 : Int32)) &&& (3 : Int32))), .val (.int (2 : Int32)), .val (.int q33), .unset, .unset, .unset, .unset, .unset, .unset, .unset, .unset] [(.ref a35)])
      refine own_astore (pc' := 90) (l' := #[.val (.int p0), .val (.int p1), .val (.int p2), .val (.int p3), .val (.int p4), .val (.int (1 : Int32)), .val (.int n32), .val (.int ((own_ushr p0 (4 : Int32)) &&& (3 : Int32))), .val (.int (2 : Int32)), .val (.int q33), .val (.ref a35), .unset, .unset, .unset, .unset, .unset, .unset, .unset]) X40 hx (hb hby at_88) rfl rfl rfl ?_
      rcases own_and3 hn32 with rfl | rfl | rfl | rfl
      · refine own_iload (pc' := 92) X40 hx (hb hby at_90) rfl rfl ?_
        refine own_iconst (pc' := 93) (z := (1 : Int32)) X40 hx (hb hby at_92) rfl rfl ?_
        refine own_icmpYes (pc' := 102) X40 hx (hb hby at_93) (tlt (by decide)).1 (by decide) (by decide) ?_
        refine own_iload (pc' := 104) X40 hx (hb hby at_102) rfl rfl ?_
        refine own_iconst (pc' := 105) (z := (2 : Int32)) X40 hx (hb hby at_104) rfl rfl ?_
        refine own_icmpYes (pc' := 114) X40 hx (hb hby at_105) (tlt (by decide)).1 (by decide) (by decide) ?_
        refine own_iload (pc' := 116) X40 hx (hb hby at_114) rfl rfl ?_
        refine own_iconst (pc' := 117) (z := (3 : Int32)) X40 hx (hb hby at_116) rfl rfl ?_
        refine own_icmpYes (pc' := 126) X40 hx (hb hby at_117) (tlt (by decide)).1 (by decide) (by decide) ?_
        refine own_aload (pc' := 128) X40 hx (hb hby at_126) rfl rfl rfl ?_
        refine own_iload (pc' := 130) X40 hx (hb hby at_128) rfl rfl ?_
        have f42 := (A35.keep Kq40)
        refine own_callV (pc' := 133) (y := (⟨"com/example/larder/larder/cache/EvictedKeys", "recall", "(I)Z"⟩ : MethodName)) (W := 0) (rm := own_room4_0) (argsL := [(.int q33)]) (rest := []) (b := a35) (C := "com/example/larder/larder/cache/EvictedKeys") X40 hx hZ rfl hown (by rw [hml]; rfl) f42 (own_w16 hw) (own_w17 hw) (own_w19 hw) (own_w18 hw) (own_w2 hw) (own_w20 hw) (by decide) (own_rm4_0 lch Z a0 hw [] a35 q33 T40.heap n0 G40_1) (by decide) (by decide) (by decide) (by decide) (lenOf own_pd3 rfl) rfl (by exact Nat.le_of_eq rfl) (hb hby at_130) rfl ?_
        intro T41 Lc41 v41 X41 hQ41
        obtain ⟨rfl, Nq41, Kq41⟩ := hQ41
        have N41 := Fr.app N40 Nq41
        show own_Ends prg e below s _ _ _ T41 (mkF m 133 #[.val (.int p0), .val (.int p1), .val (.int p2), .val (.int p3), .val (.int p4), .val (.int (1 : Int32)), .val (.int (0 : Int32)), .val (.int ((own_ushr p0 (4 : Int32)) &&& (3 : Int32))), .val (.int (2 : Int32)), .val (.int q33), .val (.ref a35), .unset, .unset, .unset, .unset, .unset, .unset, .unset] [(.int (0 : Int32))])
        refine own_istore (pc' := 135) (l' := #[.val (.int p0), .val (.int p1), .val (.int p2), .val (.int p3), .val (.int p4), .val (.int (1 : Int32)), .val (.int (0 : Int32)), .val (.int ((own_ushr p0 (4 : Int32)) &&& (3 : Int32))), .val (.int (2 : Int32)), .val (.int q33), .val (.ref a35), .val (.int (0 : Int32)), .unset, .unset, .unset, .unset, .unset, .unset]) X41 hx (hb hby at_133) rfl rfl ?_
        refine own_aload (pc' := 137) X41 hx (hb hby at_135) rfl rfl rfl ?_
        refine own_iload (pc' := 139) X41 hx (hb hby at_137) rfl rfl ?_
        refine own_callV (pc' := 142) (y := (⟨"com/example/larder/larder/cache/EvictedKeys", "recall", "(I)Z"⟩ : MethodName)) (W := 0) (rm := own_room4_0) (argsL := [(.int q33)]) (rest := []) (b := a35) (C := "com/example/larder/larder/cache/EvictedKeys") X41 hx hZ Kq41 hown (by rw [hml]; rfl) f42 (own_w16 hw) (own_w17 hw) (own_w19 hw) (own_w18 hw) (own_w2 hw) (own_w20 hw) (by decide) (own_rm4_0 lch Z a0 hw [] a35 q33 T40.heap n0 G40_1) (by decide) (by decide) (by decide) (by decide) (lenOf own_pd3 rfl) rfl (by exact Nat.le_of_eq rfl) (hb hby at_139) rfl ?_
        intro T43 Lc43 v43 X43 hQ43
        obtain ⟨rfl, Nq43, Kq43⟩ := hQ43
        have N43 := Fr.app N41 Nq43
        show own_Ends prg e below s _ _ _ T43 (mkF m 142 #[.val (.int p0), .val (.int p1), .val (.int p2), .val (.int p3), .val (.int p4), .val (.int (1 : Int32)), .val (.int (0 : Int32)), .val (.int ((own_ushr p0 (4 : Int32)) &&& (3 : Int32))), .val (.int (2 : Int32)), .val (.int q33), .val (.ref a35), .val (.int (0 : Int32)), .unset, .unset, .unset, .unset, .unset, .unset] [(.int (0 : Int32))])
        refine own_istore (pc' := 144) (l' := #[.val (.int p0), .val (.int p1), .val (.int p2), .val (.int p3), .val (.int p4), .val (.int (1 : Int32)), .val (.int (0 : Int32)), .val (.int ((own_ushr p0 (4 : Int32)) &&& (3 : Int32))), .val (.int (2 : Int32)), .val (.int q33), .val (.ref a35), .val (.int (0 : Int32)), .val (.int (0 : Int32)), .unset, .unset, .unset, .unset, .unset]) X43 hx (hb hby at_142) rfl rfl ?_
        refine own_iload (pc' := 146) X43 hx (hb hby at_144) rfl rfl ?_
        refine own_iconst (pc' := 147) (z := (1 : Int32)) X43 hx (hb hby at_146) rfl rfl ?_
        refine own_isub (pc' := 148) (z := (1 : Int32)) X43 hx (hb hby at_147) rfl (by decide) ?_
        refine own_istore (pc' := 150) (l' := #[.val (.int p0), .val (.int p1), .val (.int p2), .val (.int p3), .val (.int p4), .val (.int (1 : Int32)), .val (.int (0 : Int32)), .val (.int ((own_ushr p0 (4 : Int32)) &&& (3 : Int32))), .val (.int (2 : Int32)), .val (.int q33), .val (.ref a35), .val (.int (0 : Int32)), .val (.int (0 : Int32)), .val (.int (1 : Int32)), .unset, .unset, .unset, .unset]) X43 hx (hb hby at_148) rfl rfl ?_
        refine own_iload (pc' := 152) X43 hx (hb hby at_150) rfl rfl ?_
        refine own_callS (pc' := 155) (y := (⟨"com/example/larder/larder/cache/UseCounts", "spread", "(I)I"⟩ : MethodName)) (W := 0) (rm := own_room5) (argsL := [(.int q33)]) (rest := []) X43 hx hZ Kq43 hown (by rw [hml]; rfl) (own_w23 hw) (own_w24 hw) (own_w25 hw) (own_w26 hw) (by decide) (own_rm5 lch Z a0 hw [] q33 T40.heap n0) (by decide) (by decide) (by decide) (by decide) (lenOf own_pd0 rfl) rfl (by exact Nat.le_of_eq rfl) (hb hby at_152) rfl ?_
        intro T44 Lc44 v44 X44 hQ44
        obtain ⟨rfl, Nq44, Kq44⟩ := hQ44
        have N44 := Fr.app N43 Nq44
        show own_Ends prg e below s _ _ _ T44 (mkF m 155 #[.val (.int p0), .val (.int p1), .val (.int p2), .val (.int p3), .val (.int p4), .val (.int (1 : Int32)), .val (.int (0 : Int32)), .val (.int ((own_ushr p0 (4 : Int32)) &&& (3 : Int32))), .val (.int (2 : Int32)), .val (.int q33), .val (.ref a35), .val (.int (0 : Int32)), .val (.int (0 : Int32)), .val (.int (1 : Int32)), .unset, .unset, .unset, .unset] [(.int (own_spread q33))])
        refine own_iload (pc' := 157) X44 hx (hb hby at_155) rfl rfl ?_
        refine own_iand (pc' := 158) (z := ((own_spread q33) &&& (1 : Int32))) X44 hx (hb hby at_157) rfl rfl ?_
        refine own_istore (pc' := 160) (l' := #[.val (.int p0), .val (.int p1), .val (.int p2), .val (.int p3), .val (.int p4), .val (.int (1 : Int32)), .val (.int (0 : Int32)), .val (.int ((own_ushr p0 (4 : Int32)) &&& (3 : Int32))), .val (.int (2 : Int32)), .val (.int q33), .val (.ref a35), .val (.int (0 : Int32)), .val (.int (0 : Int32)), .val (.int (1 : Int32)), .val (.int ((own_spread q33) &&& (1 : Int32))), .unset, .unset, .unset]) X44 hx (hb hby at_158) rfl rfl ?_
        refine own_iconst (pc' := 161) (z := (0 : Int32)) X44 hx (hb hby at_160) rfl rfl ?_
        refine own_istore (pc' := 163) (l' := #[.val (.int p0), .val (.int p1), .val (.int p2), .val (.int p3), .val (.int p4), .val (.int (1 : Int32)), .val (.int (0 : Int32)), .val (.int ((own_ushr p0 (4 : Int32)) &&& (3 : Int32))), .val (.int (2 : Int32)), .val (.int q33), .val (.ref a35), .val (.int (0 : Int32)), .val (.int (0 : Int32)), .val (.int (1 : Int32)), .val (.int ((own_spread q33) &&& (1 : Int32))), .val (.int (0 : Int32)), .unset, .unset]) X44 hx (hb hby at_161) rfl rfl ?_
        refine own_iload (pc' := 165) X44 hx (hb hby at_163) rfl rfl ?_
        refine own_iconst (pc' := 166) (z := (3 : Int32)) X44 hx (hb hby at_165) rfl rfl ?_
        refine own_icmpYes (pc' := 187) X44 hx (hb hby at_166) (tlt (by decide)).1 (by decide) (by decide) ?_
        refine own_iload (pc' := 189) X44 hx (hb hby at_187) rfl rfl ?_
        refine own_iconst (pc' := 190) (z := (2 : Int32)) X44 hx (hb hby at_189) rfl rfl ?_
        refine own_icmpYes (pc' := 211) X44 hx (hb hby at_190) (tlt (by decide)).1 (by decide) (by decide) ?_
        refine own_iload (pc' := 213) X44 hx (hb hby at_211) rfl rfl ?_
        refine own_iconst (pc' := 214) (z := (1 : Int32)) X44 hx (hb hby at_213) rfl rfl ?_
        refine own_icmpYes (pc' := 232) X44 hx (hb hby at_214) (tlt (by decide)).1 (by decide) (by decide) ?_
        refine own_iload (pc' := 234) X44 hx (hb hby at_232) rfl rfl ?_
        refine own_iconst (pc' := 235) (z := (3 : Int32)) X44 hx (hb hby at_234) rfl rfl ?_
        refine own_icmpYes (pc' := 242) X44 hx (hb hby at_235) (feq (by decide)).2 (by decide) (by decide) ?_
        refine own_iload (pc' := 244) X44 hx (hb hby at_242) rfl rfl ?_
        refine own_iconst (pc' := 245) (z := (2 : Int32)) X44 hx (hb hby at_244) rfl rfl ?_
        refine own_icmpYes (pc' := 252) X44 hx (hb hby at_245) (feq (by decide)).2 (by decide) (by decide) ?_
        refine own_iloadN (pc' := 253) X44 hx (hb hby at_252) rfl rfl ?_
        refine own_istore (pc' := 255) (l' := #[.val (.int p0), .val (.int p1), .val (.int p2), .val (.int p3), .val (.int p4), .val (.int (1 : Int32)), .val (.int (0 : Int32)), .val (.int ((own_ushr p0 (4 : Int32)) &&& (3 : Int32))), .val (.int (2 : Int32)), .val (.int q33), .val (.ref a35), .val (.int (0 : Int32)), .val (.int (0 : Int32)), .val (.int (1 : Int32)), .val (.int ((own_spread q33) &&& (1 : Int32))), .val (.int (0 : Int32)), .val (.int p1), .unset]) X44 hx (hb hby at_253) rfl rfl ?_
        refine own_iload (pc' := 257) X44 hx (hb hby at_255) rfl rfl ?_
        refine own_ifYes (pc' := 281) X44 hx (hb hby at_257) (teq (by decide)).1 (by decide) (by decide) ?_
        refine own_iconst (pc' := 282) (z := (0 : Int32)) X44 hx (hb hby at_281) rfl rfl ?_
        refine own_istore (pc' := 284) (l' := #[.val (.int p0), .val (.int p1), .val (.int p2), .val (.int p3), .val (.int p4), .val (.int (1 : Int32)), .val (.int (0 : Int32)), .val (.int ((own_ushr p0 (4 : Int32)) &&& (3 : Int32))), .val (.int (2 : Int32)), .val (.int q33), .val (.ref a35), .val (.int (0 : Int32)), .val (.int (0 : Int32)), .val (.int (1 : Int32)), .val (.int ((own_spread q33) &&& (1 : Int32))), .val (.int (0 : Int32)), .val (.int p1), .val (.int (0 : Int32))]) X44 hx (hb hby at_282) rfl rfl ?_
        refine own_iload (pc' := 286) X44 hx (hb hby at_284) rfl rfl ?_
        refine own_iload (pc' := 288) X44 hx (hb hby at_286) rfl rfl ?_
        refine own_icmpNo (pc' := 291) X44 hx (hb hby at_288) rfl (teq (by decide)).2 ?_
        refine own_iload (pc' := 293) X44 hx (hb hby at_291) rfl rfl ?_
        refine own_ifNo (pc' := 296) X44 hx (hb hby at_293) rfl (teq (by decide)).2 ?_
        refine own_iconst (pc' := 297) (z := (1 : Int32)) X44 hx (hb hby at_296) rfl rfl ?_
        refine own_goto (pc' := 301) X44 hx (hb hby at_297) (by decide) (by decide) ?_
        refine own_retN X44 hx hlk hret (by simp) (hb hby at_301) (by decide) (by decide) ?_
        exact ⟨rfl, N44⟩
      · refine own_iload (pc' := 92) X40 hx (hb hby at_90) rfl rfl ?_
        refine own_iconst (pc' := 93) (z := (1 : Int32)) X40 hx (hb hby at_92) rfl rfl ?_
        refine own_icmpNo (pc' := 96) X40 hx (hb hby at_93) rfl (flt (by decide)).1 ?_
        refine own_aload (pc' := 98) X40 hx (hb hby at_96) rfl rfl rfl ?_
        refine own_iloadN (pc' := 99) X40 hx (hb hby at_98) rfl rfl ?_
        have f45 := (A35.keep Kq40)
        have f46 := (Nat.le_trans (Nat.le_trans Z0 E35.1) Kq40.1)
        refine own_callV (pc' := 102) (y := (⟨"com/example/larder/larder/cache/EvictedKeys", "remember", "(I)V"⟩ : MethodName)) (W := 0) (rm := own_room6_1_0) (argsL := [(.int p1)]) (rest := []) (b := a35) (C := "com/example/larder/larder/cache/EvictedKeys") X40 hx hZ rfl hown (by rw [hml]; rfl) f45 (own_w28 hw) (own_w29 hw) (own_w31 hw) (own_w30 hw) (own_w2 hw) (own_w32 hw) (by decide) (own_rm6_1_0 lch Z a0 hw [] a35 p1 T40.heap n0 f46 f45 G40_0 G40_1 G40_2 ge36) (by decide) (by decide) (by decide) (by decide) (lenOf own_pd4 rfl) rfl (by exact Nat.le_of_eq rfl) (hb hby at_99) rfl ?_
        intro T47 Lc47 v47 X47 hQ47
        obtain ⟨b47, bk47, rfl, Nq47, Kq47, G47_0, G47_1, G47_2, G47_3, G47_4⟩ := hQ47
        have N47 := Fr.app N40 Nq47
        have ge48 : n0 ≤ b47 := Nat.le_trans f46 G47_0
        have ne49 : a35 ≠ b47 := Nat.ne_of_lt (Nat.lt_of_lt_of_le f45.lt G47_0)
        obtain ⟨l50, el50⟩ : ∃ z, z = ((List.replicate 2 (0 : Int64)).set (own_ixm (1 : Int32) (own_spread p1)) (own_pack (own_spread p1) (1 : Int64))) := ⟨_, rfl⟩
        rw [← el50] at G47_4
        have hl51 : l50.length = 2 := by rw [el50, List.length_set]; rfl
        show own_Ends prg e below s _ _ _ T47 (mkF m 102 #[.val (.int p0), .val (.int p1), .val (.int p2), .val (.int p3), .val (.int p4), .val (.int (1 : Int32)), .val (.int (1 : Int32)), .val (.int ((own_ushr p0 (4 : Int32)) &&& (3 : Int32))), .val (.int (2 : Int32)), .val (.int q33), .val (.ref a35), .unset, .unset, .unset, .unset, .unset, .unset, .unset] [])
        refine own_iload (pc' := 104) X47 hx (hb hby at_102) rfl rfl ?_
        refine own_iconst (pc' := 105) (z := (2 : Int32)) X47 hx (hb hby at_104) rfl rfl ?_
        refine own_icmpYes (pc' := 114) X47 hx (hb hby at_105) (tlt (by decide)).1 (by decide) (by decide) ?_
        refine own_iload (pc' := 116) X47 hx (hb hby at_114) rfl rfl ?_
        refine own_iconst (pc' := 117) (z := (3 : Int32)) X47 hx (hb hby at_116) rfl rfl ?_
        refine own_icmpYes (pc' := 126) X47 hx (hb hby at_117) (tlt (by decide)).1 (by decide) (by decide) ?_
        refine own_aload (pc' := 128) X47 hx (hb hby at_126) rfl rfl rfl ?_
        refine own_iload (pc' := 130) X47 hx (hb hby at_128) rfl rfl ?_
        have f53 := (f45.keep Kq47)
        refine own_callV (pc' := 133) (y := (⟨"com/example/larder/larder/cache/EvictedKeys", "recall", "(I)Z"⟩ : MethodName)) (W := 0) (rm := own_room4_2) (argsL := [(.int q33)]) (rest := []) (b := a35) (C := "com/example/larder/larder/cache/EvictedKeys") X47 hx hZ rfl hown (by rw [hml]; rfl) f53 (own_w16 hw) (own_w17 hw) (own_w19 hw) (own_w18 hw) (own_w2 hw) (own_w20 hw) (by decide) (own_rm4_2 lch Z a0 hw [] a35 q33 b47 bk47 l50 (1 : Int32) (1 : Int32) T47.heap n0 G47_1 G47_2 G47_3 G47_4 hl51 ge48 ne49) (by decide) (by decide) (by decide) (by decide) (lenOf own_pd3 rfl) rfl (by exact Nat.le_of_eq rfl) (hb hby at_130) rfl ?_
        intro T52 Lc52 v52 X52 hQ52
        obtain ⟨rfl, Nq52, Kq52, G52_0⟩ := hQ52
        have N52 := Fr.app N47 Nq52
        have hl54 : (own_rl l50 (1 : Int32) (own_spread q33)).length = 2 := (own_rllen _ _ _).trans hl51
        show own_Ends prg e below s _ _ _ T52 (mkF m 133 #[.val (.int p0), .val (.int p1), .val (.int p2), .val (.int p3), .val (.int p4), .val (.int (1 : Int32)), .val (.int (1 : Int32)), .val (.int ((own_ushr p0 (4 : Int32)) &&& (3 : Int32))), .val (.int (2 : Int32)), .val (.int q33), .val (.ref a35), .unset, .unset, .unset, .unset, .unset, .unset, .unset] [(.int (own_rv l50 (1 : Int32) (own_spread q33) (1 : Int32) (1 : Int32)))])
        refine own_istore (pc' := 135) (l' := #[.val (.int p0), .val (.int p1), .val (.int p2), .val (.int p3), .val (.int p4), .val (.int (1 : Int32)), .val (.int (1 : Int32)), .val (.int ((own_ushr p0 (4 : Int32)) &&& (3 : Int32))), .val (.int (2 : Int32)), .val (.int q33), .val (.ref a35), .val (.int (own_rv l50 (1 : Int32) (own_spread q33) (1 : Int32) (1 : Int32))), .unset, .unset, .unset, .unset, .unset, .unset]) X52 hx (hb hby at_133) rfl rfl ?_
        refine own_aload (pc' := 137) X52 hx (hb hby at_135) rfl rfl rfl ?_
        refine own_iload (pc' := 139) X52 hx (hb hby at_137) rfl rfl ?_
        have f55 := (G47_1.keep Kq52 (ninS ne49 nin0))
        have f56 := (G47_2.keep Kq52 (ninS ne49 nin0))
        have f57 := (G47_3.keep Kq52 (ninS ne49 nin0))
        have f59 := (f53.keep Kq52)
        refine own_callV (pc' := 142) (y := (⟨"com/example/larder/larder/cache/EvictedKeys", "recall", "(I)Z"⟩ : MethodName)) (W := 0) (rm := own_room4_2) (argsL := [(.int q33)]) (rest := []) (b := a35) (C := "com/example/larder/larder/cache/EvictedKeys") X52 hx hZ rfl hown (by rw [hml]; rfl) f59 (own_w16 hw) (own_w17 hw) (own_w19 hw) (own_w18 hw) (own_w2 hw) (own_w20 hw) (by decide) (own_rm4_2 lch Z a0 hw [] a35 q33 b47 bk47 (own_rl l50 (1 : Int32) (own_spread q33)) (1 : Int32) (1 : Int32) T52.heap n0 f55 f56 f57 G52_0 hl54 ge48 ne49) (by decide) (by decide) (by decide) (by decide) (lenOf own_pd3 rfl) rfl (by exact Nat.le_of_eq rfl) (hb hby at_139) rfl ?_
        intro T58 Lc58 v58 X58 hQ58
        obtain ⟨rfl, Nq58, Kq58, G58_0⟩ := hQ58
        have N58 := Fr.app N52 Nq58
        have hl60 : (own_rl (own_rl l50 (1 : Int32) (own_spread q33)) (1 : Int32) (own_spread q33)).length = 2 := (own_rllen _ _ _).trans hl54
        show own_Ends prg e below s _ _ _ T58 (mkF m 142 #[.val (.int p0), .val (.int p1), .val (.int p2), .val (.int p3), .val (.int p4), .val (.int (1 : Int32)), .val (.int (1 : Int32)), .val (.int ((own_ushr p0 (4 : Int32)) &&& (3 : Int32))), .val (.int (2 : Int32)), .val (.int q33), .val (.ref a35), .val (.int (own_rv l50 (1 : Int32) (own_spread q33) (1 : Int32) (1 : Int32))), .unset, .unset, .unset, .unset, .unset, .unset] [(.int (own_rv (own_rl l50 (1 : Int32) (own_spread q33)) (1 : Int32) (own_spread q33) (1 : Int32) (1 : Int32)))])
        refine own_istore (pc' := 144) (l' := #[.val (.int p0), .val (.int p1), .val (.int p2), .val (.int p3), .val (.int p4), .val (.int (1 : Int32)), .val (.int (1 : Int32)), .val (.int ((own_ushr p0 (4 : Int32)) &&& (3 : Int32))), .val (.int (2 : Int32)), .val (.int q33), .val (.ref a35), .val (.int (own_rv l50 (1 : Int32) (own_spread q33) (1 : Int32) (1 : Int32))), .val (.int (own_rv (own_rl l50 (1 : Int32) (own_spread q33)) (1 : Int32) (own_spread q33) (1 : Int32) (1 : Int32))), .unset, .unset, .unset, .unset, .unset]) X58 hx (hb hby at_142) rfl rfl ?_
        refine own_iload (pc' := 146) X58 hx (hb hby at_144) rfl rfl ?_
        refine own_iconst (pc' := 147) (z := (1 : Int32)) X58 hx (hb hby at_146) rfl rfl ?_
        refine own_isub (pc' := 148) (z := (1 : Int32)) X58 hx (hb hby at_147) rfl (by decide) ?_
        refine own_istore (pc' := 150) (l' := #[.val (.int p0), .val (.int p1), .val (.int p2), .val (.int p3), .val (.int p4), .val (.int (1 : Int32)), .val (.int (1 : Int32)), .val (.int ((own_ushr p0 (4 : Int32)) &&& (3 : Int32))), .val (.int (2 : Int32)), .val (.int q33), .val (.ref a35), .val (.int (own_rv l50 (1 : Int32) (own_spread q33) (1 : Int32) (1 : Int32))), .val (.int (own_rv (own_rl l50 (1 : Int32) (own_spread q33)) (1 : Int32) (own_spread q33) (1 : Int32) (1 : Int32))), .val (.int (1 : Int32)), .unset, .unset, .unset, .unset]) X58 hx (hb hby at_148) rfl rfl ?_
        refine own_iload (pc' := 152) X58 hx (hb hby at_150) rfl rfl ?_
        refine own_callS (pc' := 155) (y := (⟨"com/example/larder/larder/cache/UseCounts", "spread", "(I)I"⟩ : MethodName)) (W := 0) (rm := own_room5) (argsL := [(.int q33)]) (rest := []) X58 hx hZ rfl hown (by rw [hml]; rfl) (own_w23 hw) (own_w24 hw) (own_w25 hw) (own_w26 hw) (by decide) (own_rm5 lch Z a0 hw [] q33 T58.heap n0) (by decide) (by decide) (by decide) (by decide) (lenOf own_pd0 rfl) rfl (by exact Nat.le_of_eq rfl) (hb hby at_152) rfl ?_
        intro T61 Lc61 v61 X61 hQ61
        obtain ⟨rfl, Nq61, Kq61⟩ := hQ61
        have N61 := Fr.app N58 Nq61
        show own_Ends prg e below s _ _ _ T61 (mkF m 155 #[.val (.int p0), .val (.int p1), .val (.int p2), .val (.int p3), .val (.int p4), .val (.int (1 : Int32)), .val (.int (1 : Int32)), .val (.int ((own_ushr p0 (4 : Int32)) &&& (3 : Int32))), .val (.int (2 : Int32)), .val (.int q33), .val (.ref a35), .val (.int (own_rv l50 (1 : Int32) (own_spread q33) (1 : Int32) (1 : Int32))), .val (.int (own_rv (own_rl l50 (1 : Int32) (own_spread q33)) (1 : Int32) (own_spread q33) (1 : Int32) (1 : Int32))), .val (.int (1 : Int32)), .unset, .unset, .unset, .unset] [(.int (own_spread q33))])
        refine own_iload (pc' := 157) X61 hx (hb hby at_155) rfl rfl ?_
        refine own_iand (pc' := 158) (z := ((own_spread q33) &&& (1 : Int32))) X61 hx (hb hby at_157) rfl rfl ?_
        refine own_istore (pc' := 160) (l' := #[.val (.int p0), .val (.int p1), .val (.int p2), .val (.int p3), .val (.int p4), .val (.int (1 : Int32)), .val (.int (1 : Int32)), .val (.int ((own_ushr p0 (4 : Int32)) &&& (3 : Int32))), .val (.int (2 : Int32)), .val (.int q33), .val (.ref a35), .val (.int (own_rv l50 (1 : Int32) (own_spread q33) (1 : Int32) (1 : Int32))), .val (.int (own_rv (own_rl l50 (1 : Int32) (own_spread q33)) (1 : Int32) (own_spread q33) (1 : Int32) (1 : Int32))), .val (.int (1 : Int32)), .val (.int ((own_spread q33) &&& (1 : Int32))), .unset, .unset, .unset]) X61 hx (hb hby at_158) rfl rfl ?_
        refine own_iconst (pc' := 161) (z := (0 : Int32)) X61 hx (hb hby at_160) rfl rfl ?_
        refine own_istore (pc' := 163) (l' := #[.val (.int p0), .val (.int p1), .val (.int p2), .val (.int p3), .val (.int p4), .val (.int (1 : Int32)), .val (.int (1 : Int32)), .val (.int ((own_ushr p0 (4 : Int32)) &&& (3 : Int32))), .val (.int (2 : Int32)), .val (.int q33), .val (.ref a35), .val (.int (own_rv l50 (1 : Int32) (own_spread q33) (1 : Int32) (1 : Int32))), .val (.int (own_rv (own_rl l50 (1 : Int32) (own_spread q33)) (1 : Int32) (own_spread q33) (1 : Int32) (1 : Int32))), .val (.int (1 : Int32)), .val (.int ((own_spread q33) &&& (1 : Int32))), .val (.int (0 : Int32)), .unset, .unset]) X61 hx (hb hby at_161) rfl rfl ?_
        refine own_iload (pc' := 165) X61 hx (hb hby at_163) rfl rfl ?_
        refine own_iconst (pc' := 166) (z := (3 : Int32)) X61 hx (hb hby at_165) rfl rfl ?_
        refine own_icmpYes (pc' := 187) X61 hx (hb hby at_166) (tlt (by decide)).1 (by decide) (by decide) ?_
        refine own_iload (pc' := 189) X61 hx (hb hby at_187) rfl rfl ?_
        refine own_iconst (pc' := 190) (z := (2 : Int32)) X61 hx (hb hby at_189) rfl rfl ?_
        refine own_icmpYes (pc' := 211) X61 hx (hb hby at_190) (tlt (by decide)).1 (by decide) (by decide) ?_
        refine own_iload (pc' := 213) X61 hx (hb hby at_211) rfl rfl ?_
        refine own_iconst (pc' := 214) (z := (1 : Int32)) X61 hx (hb hby at_213) rfl rfl ?_
        refine own_icmpNo (pc' := 217) X61 hx (hb hby at_214) rfl (flt (by decide)).1 ?_
        refine own_iloadN (pc' := 218) X61 hx (hb hby at_217) rfl rfl ?_
        refine own_callS (pc' := 221) (y := (⟨"com/example/larder/larder/cache/UseCounts", "spread", "(I)I"⟩ : MethodName)) (W := 0) (rm := own_room5) (argsL := [(.int p1)]) (rest := []) X61 hx hZ Kq61 hown (by rw [hml]; rfl) (own_w23 hw) (own_w24 hw) (own_w25 hw) (own_w26 hw) (by decide) (own_rm5 lch Z a0 hw [] p1 T58.heap n0) (by decide) (by decide) (by decide) (by decide) (lenOf own_pd0 rfl) rfl (by exact Nat.le_of_eq rfl) (hb hby at_218) rfl ?_
        intro T62 Lc62 v62 X62 hQ62
        obtain ⟨rfl, Nq62, Kq62⟩ := hQ62
        have N62 := Fr.app N61 Nq62
        show own_Ends prg e below s _ _ _ T62 (mkF m 221 #[.val (.int p0), .val (.int p1), .val (.int p2), .val (.int p3), .val (.int p4), .val (.int (1 : Int32)), .val (.int (1 : Int32)), .val (.int ((own_ushr p0 (4 : Int32)) &&& (3 : Int32))), .val (.int (2 : Int32)), .val (.int q33), .val (.ref a35), .val (.int (own_rv l50 (1 : Int32) (own_spread q33) (1 : Int32) (1 : Int32))), .val (.int (own_rv (own_rl l50 (1 : Int32) (own_spread q33)) (1 : Int32) (own_spread q33) (1 : Int32) (1 : Int32))), .val (.int (1 : Int32)), .val (.int ((own_spread q33) &&& (1 : Int32))), .val (.int (0 : Int32)), .unset, .unset] [(.int (own_spread p1))])
        refine own_iload (pc' := 223) X62 hx (hb hby at_221) rfl rfl ?_
        refine own_iand (pc' := 224) (z := ((own_spread p1) &&& (1 : Int32))) X62 hx (hb hby at_223) rfl rfl ?_
        refine own_iload (pc' := 226) X62 hx (hb hby at_224) rfl rfl ?_
        by_cases hc226_63 : ((own_spread p1) &&& (1 : Int32)) = ((own_spread q33) &&& (1 : Int32))
        · refine own_icmpNo (pc' := 229) X62 hx (hb hby at_226) rfl (teq hc226_63).2 ?_
          refine own_iconst (pc' := 230) (z := (1 : Int32)) X62 hx (hb hby at_229) rfl rfl ?_
          refine own_istore (pc' := 232) (l' := #[.val (.int p0), .val (.int p1), .val (.int p2), .val (.int p3), .val (.int p4), .val (.int (1 : Int32)), .val (.int (1 : Int32)), .val (.int ((own_ushr p0 (4 : Int32)) &&& (3 : Int32))), .val (.int (2 : Int32)), .val (.int q33), .val (.ref a35), .val (.int (own_rv l50 (1 : Int32) (own_spread q33) (1 : Int32) (1 : Int32))), .val (.int (own_rv (own_rl l50 (1 : Int32) (own_spread q33)) (1 : Int32) (own_spread q33) (1 : Int32) (1 : Int32))), .val (.int (1 : Int32)), .val (.int ((own_spread q33) &&& (1 : Int32))), .val (.int (1 : Int32)), .unset, .unset]) X62 hx (hb hby at_230) rfl rfl ?_
          refine own_iload (pc' := 234) X62 hx (hb hby at_232) rfl rfl ?_
          refine own_iconst (pc' := 235) (z := (3 : Int32)) X62 hx (hb hby at_234) rfl rfl ?_
          refine own_icmpYes (pc' := 242) X62 hx (hb hby at_235) (feq (by decide)).2 (by decide) (by decide) ?_
          refine own_iload (pc' := 244) X62 hx (hb hby at_242) rfl rfl ?_
          refine own_iconst (pc' := 245) (z := (2 : Int32)) X62 hx (hb hby at_244) rfl rfl ?_
          refine own_icmpYes (pc' := 252) X62 hx (hb hby at_245) (feq (by decide)).2 (by decide) (by decide) ?_
          refine own_iloadN (pc' := 253) X62 hx (hb hby at_252) rfl rfl ?_
          refine own_istore (pc' := 255) (l' := #[.val (.int p0), .val (.int p1), .val (.int p2), .val (.int p3), .val (.int p4), .val (.int (1 : Int32)), .val (.int (1 : Int32)), .val (.int ((own_ushr p0 (4 : Int32)) &&& (3 : Int32))), .val (.int (2 : Int32)), .val (.int q33), .val (.ref a35), .val (.int (own_rv l50 (1 : Int32) (own_spread q33) (1 : Int32) (1 : Int32))), .val (.int (own_rv (own_rl l50 (1 : Int32) (own_spread q33)) (1 : Int32) (own_spread q33) (1 : Int32) (1 : Int32))), .val (.int (1 : Int32)), .val (.int ((own_spread q33) &&& (1 : Int32))), .val (.int (1 : Int32)), .val (.int p1), .unset]) X62 hx (hb hby at_253) rfl rfl ?_
          refine own_iload (pc' := 257) X62 hx (hb hby at_255) rfl rfl ?_
          refine own_ifNo (pc' := 260) X62 hx (hb hby at_257) rfl (feq (by decide)).1 ?_
          refine own_iload (pc' := 262) X62 hx (hb hby at_260) rfl rfl ?_
          refine own_iload (pc' := 264) X62 hx (hb hby at_262) rfl rfl ?_
          by_cases hc264_64 : p1 = q33
          · refine own_icmpNo (pc' := 267) X62 hx (hb hby at_264) rfl (teq hc264_64).2 ?_
            refine own_iload (pc' := 269) X62 hx (hb hby at_267) rfl rfl ?_
            refine own_iload (pc' := 271) X62 hx (hb hby at_269) rfl rfl ?_
            refine own_isub (pc' := 272) (z := (0 : Int32)) X62 hx (hb hby at_271) rfl (by decide) ?_
            refine own_iload (pc' := 274) X62 hx (hb hby at_272) rfl rfl ?_
            refine own_icmpNo (pc' := 277) X62 hx (hb hby at_274) rfl (tlt (by decide)).2.1 ?_
            refine own_iconst (pc' := 278) (z := (1 : Int32)) X62 hx (hb hby at_277) rfl rfl ?_
            refine own_goto (pc' := 282) X62 hx (hb hby at_278) (by decide) (by decide) ?_
            refine own_istore (pc' := 284) (l' := #[.val (.int p0), .val (.int p1), .val (.int p2), .val (.int p3), .val (.int p4), .val (.int (1 : Int32)), .val (.int (1 : Int32)), .val (.int ((own_ushr p0 (4 : Int32)) &&& (3 : Int32))), .val (.int (2 : Int32)), .val (.int q33), .val (.ref a35), .val (.int (own_rv l50 (1 : Int32) (own_spread q33) (1 : Int32) (1 : Int32))), .val (.int (own_rv (own_rl l50 (1 : Int32) (own_spread q33)) (1 : Int32) (own_spread q33) (1 : Int32) (1 : Int32))), .val (.int (1 : Int32)), .val (.int ((own_spread q33) &&& (1 : Int32))), .val (.int (1 : Int32)), .val (.int p1), .val (.int (1 : Int32))]) X62 hx (hb hby at_282) rfl rfl ?_
            refine own_iload (pc' := 286) X62 hx (hb hby at_284) rfl rfl ?_
            refine own_iload (pc' := 288) X62 hx (hb hby at_286) rfl rfl ?_
            have sl65 : own_slot l50 (1 : Int32) (own_spread q33) = own_pack (own_spread p1) (1 : Int64) := by
              rw [el50]
              exact (own_slE (Or.inl ⟨rfl, rfl⟩) (List.length_replicate) hc226_63)
            refine own_icmpNo (pc' := 291) X62 hx (hb hby at_288) rfl (teq ((own_hitv (i := 1) sl65 (by decide) (by decide)).trans ((if_pos hc264_64).trans (by decide)))).2 ?_
            refine own_iload (pc' := 293) X62 hx (hb hby at_291) rfl rfl ?_
            refine own_ifNo (pc' := 296) X62 hx (hb hby at_293) rfl (teq (own_second (Or.inl ⟨rfl, rfl⟩) hl51)).2 ?_
            refine own_iconst (pc' := 297) (z := (1 : Int32)) X62 hx (hb hby at_296) rfl rfl ?_
            refine own_goto (pc' := 301) X62 hx (hb hby at_297) (by decide) (by decide) ?_
            refine own_retN X62 hx hlk hret (by simp) (hb hby at_301) (by decide) (by decide) ?_
            exact ⟨rfl, N62⟩
          · refine own_icmpYes (pc' := 281) X62 hx (hb hby at_264) (feq hc264_64).2 (by decide) (by decide) ?_
            refine own_iconst (pc' := 282) (z := (0 : Int32)) X62 hx (hb hby at_281) rfl rfl ?_
            refine own_istore (pc' := 284) (l' := #[.val (.int p0), .val (.int p1), .val (.int p2), .val (.int p3), .val (.int p4), .val (.int (1 : Int32)), .val (.int (1 : Int32)), .val (.int ((own_ushr p0 (4 : Int32)) &&& (3 : Int32))), .val (.int (2 : Int32)), .val (.int q33), .val (.ref a35), .val (.int (own_rv l50 (1 : Int32) (own_spread q33) (1 : Int32) (1 : Int32))), .val (.int (own_rv (own_rl l50 (1 : Int32) (own_spread q33)) (1 : Int32) (own_spread q33) (1 : Int32) (1 : Int32))), .val (.int (1 : Int32)), .val (.int ((own_spread q33) &&& (1 : Int32))), .val (.int (1 : Int32)), .val (.int p1), .val (.int (0 : Int32))]) X62 hx (hb hby at_282) rfl rfl ?_
            refine own_iload (pc' := 286) X62 hx (hb hby at_284) rfl rfl ?_
            refine own_iload (pc' := 288) X62 hx (hb hby at_286) rfl rfl ?_
            have sl66 : own_slot l50 (1 : Int32) (own_spread q33) = own_pack (own_spread p1) (1 : Int64) := by
              rw [el50]
              exact (own_slE (Or.inl ⟨rfl, rfl⟩) (List.length_replicate) hc226_63)
            refine own_icmpNo (pc' := 291) X62 hx (hb hby at_288) rfl (teq ((own_hitv (i := 1) sl66 (by decide) (by decide)).trans (if_neg hc264_64))).2 ?_
            refine own_iload (pc' := 293) X62 hx (hb hby at_291) rfl rfl ?_
            refine own_ifNo (pc' := 296) X62 hx (hb hby at_293) rfl (teq (own_second (Or.inl ⟨rfl, rfl⟩) hl51)).2 ?_
            refine own_iconst (pc' := 297) (z := (1 : Int32)) X62 hx (hb hby at_296) rfl rfl ?_
            refine own_goto (pc' := 301) X62 hx (hb hby at_297) (by decide) (by decide) ?_
            refine own_retN X62 hx hlk hret (by simp) (hb hby at_301) (by decide) (by decide) ?_
            exact ⟨rfl, N62⟩
        · refine own_icmpYes (pc' := 232) X62 hx (hb hby at_226) (feq hc226_63).2 (by decide) (by decide) ?_
          refine own_iload (pc' := 234) X62 hx (hb hby at_232) rfl rfl ?_
          refine own_iconst (pc' := 235) (z := (3 : Int32)) X62 hx (hb hby at_234) rfl rfl ?_
          refine own_icmpYes (pc' := 242) X62 hx (hb hby at_235) (feq (by decide)).2 (by decide) (by decide) ?_
          refine own_iload (pc' := 244) X62 hx (hb hby at_242) rfl rfl ?_
          refine own_iconst (pc' := 245) (z := (2 : Int32)) X62 hx (hb hby at_244) rfl rfl ?_
          refine own_icmpYes (pc' := 252) X62 hx (hb hby at_245) (feq (by decide)).2 (by decide) (by decide) ?_
          refine own_iloadN (pc' := 253) X62 hx (hb hby at_252) rfl rfl ?_
          refine own_istore (pc' := 255) (l' := #[.val (.int p0), .val (.int p1), .val (.int p2), .val (.int p3), .val (.int p4), .val (.int (1 : Int32)), .val (.int (1 : Int32)), .val (.int ((own_ushr p0 (4 : Int32)) &&& (3 : Int32))), .val (.int (2 : Int32)), .val (.int q33), .val (.ref a35), .val (.int (own_rv l50 (1 : Int32) (own_spread q33) (1 : Int32) (1 : Int32))), .val (.int (own_rv (own_rl l50 (1 : Int32) (own_spread q33)) (1 : Int32) (own_spread q33) (1 : Int32) (1 : Int32))), .val (.int (1 : Int32)), .val (.int ((own_spread q33) &&& (1 : Int32))), .val (.int (0 : Int32)), .val (.int p1), .unset]) X62 hx (hb hby at_253) rfl rfl ?_
          refine own_iload (pc' := 257) X62 hx (hb hby at_255) rfl rfl ?_
          refine own_ifYes (pc' := 281) X62 hx (hb hby at_257) (teq (by decide)).1 (by decide) (by decide) ?_
          refine own_iconst (pc' := 282) (z := (0 : Int32)) X62 hx (hb hby at_281) rfl rfl ?_
          refine own_istore (pc' := 284) (l' := #[.val (.int p0), .val (.int p1), .val (.int p2), .val (.int p3), .val (.int p4), .val (.int (1 : Int32)), .val (.int (1 : Int32)), .val (.int ((own_ushr p0 (4 : Int32)) &&& (3 : Int32))), .val (.int (2 : Int32)), .val (.int q33), .val (.ref a35), .val (.int (own_rv l50 (1 : Int32) (own_spread q33) (1 : Int32) (1 : Int32))), .val (.int (own_rv (own_rl l50 (1 : Int32) (own_spread q33)) (1 : Int32) (own_spread q33) (1 : Int32) (1 : Int32))), .val (.int (1 : Int32)), .val (.int ((own_spread q33) &&& (1 : Int32))), .val (.int (0 : Int32)), .val (.int p1), .val (.int (0 : Int32))]) X62 hx (hb hby at_282) rfl rfl ?_
          refine own_iload (pc' := 286) X62 hx (hb hby at_284) rfl rfl ?_
          refine own_iload (pc' := 288) X62 hx (hb hby at_286) rfl rfl ?_
          have sl67 : own_slot l50 (1 : Int32) (own_spread q33) = 0 := by
            rw [el50]
            exact ((own_slN (Or.inl ⟨rfl, rfl⟩) (List.length_replicate) hc226_63).trans (own_sl0 _ _ _))
          refine own_icmpNo (pc' := 291) X62 hx (hb hby at_288) rfl (teq (own_miss sl67)).2 ?_
          refine own_iload (pc' := 293) X62 hx (hb hby at_291) rfl rfl ?_
          refine own_ifNo (pc' := 296) X62 hx (hb hby at_293) rfl (teq (own_second (Or.inl ⟨rfl, rfl⟩) hl51)).2 ?_
          refine own_iconst (pc' := 297) (z := (1 : Int32)) X62 hx (hb hby at_296) rfl rfl ?_
          refine own_goto (pc' := 301) X62 hx (hb hby at_297) (by decide) (by decide) ?_
          refine own_retN X62 hx hlk hret (by simp) (hb hby at_301) (by decide) (by decide) ?_
          exact ⟨rfl, N62⟩
      · refine own_iload (pc' := 92) X40 hx (hb hby at_90) rfl rfl ?_
        refine own_iconst (pc' := 93) (z := (1 : Int32)) X40 hx (hb hby at_92) rfl rfl ?_
        refine own_icmpNo (pc' := 96) X40 hx (hb hby at_93) rfl (flt (by decide)).1 ?_
        refine own_aload (pc' := 98) X40 hx (hb hby at_96) rfl rfl rfl ?_
        refine own_iloadN (pc' := 99) X40 hx (hb hby at_98) rfl rfl ?_
        have f68 := (A35.keep Kq40)
        have f69 := (Nat.le_trans (Nat.le_trans Z0 E35.1) Kq40.1)
        refine own_callV (pc' := 102) (y := (⟨"com/example/larder/larder/cache/EvictedKeys", "remember", "(I)V"⟩ : MethodName)) (W := 0) (rm := own_room6_1_0) (argsL := [(.int p1)]) (rest := []) (b := a35) (C := "com/example/larder/larder/cache/EvictedKeys") X40 hx hZ rfl hown (by rw [hml]; rfl) f68 (own_w28 hw) (own_w29 hw) (own_w31 hw) (own_w30 hw) (own_w2 hw) (own_w32 hw) (by decide) (own_rm6_1_0 lch Z a0 hw [] a35 p1 T40.heap n0 f69 f68 G40_0 G40_1 G40_2 ge36) (by decide) (by decide) (by decide) (by decide) (lenOf own_pd4 rfl) rfl (by exact Nat.le_of_eq rfl) (hb hby at_99) rfl ?_
        intro T70 Lc70 v70 X70 hQ70
        obtain ⟨b70, bk70, rfl, Nq70, Kq70, G70_0, G70_1, G70_2, G70_3, G70_4⟩ := hQ70
        have N70 := Fr.app N40 Nq70
        have ge71 : n0 ≤ b70 := Nat.le_trans f69 G70_0
        have ne72 : a35 ≠ b70 := Nat.ne_of_lt (Nat.lt_of_lt_of_le f68.lt G70_0)
        obtain ⟨l73, el73⟩ : ∃ z, z = ((List.replicate 2 (0 : Int64)).set (own_ixm (1 : Int32) (own_spread p1)) (own_pack (own_spread p1) (1 : Int64))) := ⟨_, rfl⟩
        rw [← el73] at G70_4
        have hl74 : l73.length = 2 := by rw [el73, List.length_set]; rfl
        show own_Ends prg e below s _ _ _ T70 (mkF m 102 #[.val (.int p0), .val (.int p1), .val (.int p2), .val (.int p3), .val (.int p4), .val (.int (1 : Int32)), .val (.int (2 : Int32)), .val (.int ((own_ushr p0 (4 : Int32)) &&& (3 : Int32))), .val (.int (2 : Int32)), .val (.int q33), .val (.ref a35), .unset, .unset, .unset, .unset, .unset, .unset, .unset] [])
        refine own_iload (pc' := 104) X70 hx (hb hby at_102) rfl rfl ?_
        refine own_iconst (pc' := 105) (z := (2 : Int32)) X70 hx (hb hby at_104) rfl rfl ?_
        refine own_icmpNo (pc' := 108) X70 hx (hb hby at_105) rfl (flt (by decide)).1 ?_
        refine own_aload (pc' := 110) X70 hx (hb hby at_108) rfl rfl rfl ?_
        refine own_iloadN (pc' := 111) X70 hx (hb hby at_110) rfl rfl ?_
        have f75 := (f68.keep Kq70)
        refine own_callV (pc' := 114) (y := (⟨"com/example/larder/larder/cache/EvictedKeys", "remember", "(I)V"⟩ : MethodName)) (W := 0) (rm := own_room6_1_1) (argsL := [(.int p2)]) (rest := []) (b := a35) (C := "com/example/larder/larder/cache/EvictedKeys") X70 hx hZ rfl hown (by rw [hml]; rfl) f75 (own_w28 hw) (own_w29 hw) (own_w31 hw) (own_w30 hw) (own_w2 hw) (own_w32 hw) (by decide) (own_rm6_1_1 lch Z a0 hw [] a35 p2 b70 bk70 l73 T70.heap n0 f75 G70_1 G70_2 G70_3 ge36 G70_4 hl74 ge71 ne72) (by decide) (by decide) (by decide) (by decide) (lenOf own_pd4 rfl) rfl (by exact Nat.le_of_eq rfl) (hb hby at_111) rfl ?_
        intro T76 Lc76 v76 X76 hQ76
        obtain ⟨rfl, Nq76, Kq76, G76_0, G76_1, G76_2, G76_3⟩ := hQ76
        have N76 := Fr.app N70 Nq76
        obtain ⟨l77, el77⟩ : ∃ z, z = (l73.set (own_ixm (1 : Int32) (own_spread p2)) (own_pack (own_spread p2) (2 : Int64))) := ⟨_, rfl⟩
        rw [← el77] at G76_3
        have hl78 : l77.length = 2 := by rw [el77, List.length_set]; exact hl74
        show own_Ends prg e below s _ _ _ T76 (mkF m 114 #[.val (.int p0), .val (.int p1), .val (.int p2), .val (.int p3), .val (.int p4), .val (.int (1 : Int32)), .val (.int (2 : Int32)), .val (.int ((own_ushr p0 (4 : Int32)) &&& (3 : Int32))), .val (.int (2 : Int32)), .val (.int q33), .val (.ref a35), .unset, .unset, .unset, .unset, .unset, .unset, .unset] [])
        refine own_iload (pc' := 116) X76 hx (hb hby at_114) rfl rfl ?_
        refine own_iconst (pc' := 117) (z := (3 : Int32)) X76 hx (hb hby at_116) rfl rfl ?_
        refine own_icmpYes (pc' := 126) X76 hx (hb hby at_117) (tlt (by decide)).1 (by decide) (by decide) ?_
        refine own_aload (pc' := 128) X76 hx (hb hby at_126) rfl rfl rfl ?_
        refine own_iload (pc' := 130) X76 hx (hb hby at_128) rfl rfl ?_
        have f80 := (f75.keep Kq76)
        refine own_callV (pc' := 133) (y := (⟨"com/example/larder/larder/cache/EvictedKeys", "recall", "(I)Z"⟩ : MethodName)) (W := 0) (rm := own_room4_2) (argsL := [(.int q33)]) (rest := []) (b := a35) (C := "com/example/larder/larder/cache/EvictedKeys") X76 hx hZ rfl hown (by rw [hml]; rfl) f80 (own_w16 hw) (own_w17 hw) (own_w19 hw) (own_w18 hw) (own_w2 hw) (own_w20 hw) (by decide) (own_rm4_2 lch Z a0 hw [] a35 q33 b70 bk70 l77 (2 : Int32) (1 : Int32) T76.heap n0 G76_0 G76_1 G76_2 G76_3 hl78 ge71 ne72) (by decide) (by decide) (by decide) (by decide) (lenOf own_pd3 rfl) rfl (by exact Nat.le_of_eq rfl) (hb hby at_130) rfl ?_
        intro T79 Lc79 v79 X79 hQ79
        obtain ⟨rfl, Nq79, Kq79, G79_0⟩ := hQ79
        have N79 := Fr.app N76 Nq79
        have hl81 : (own_rl l77 (1 : Int32) (own_spread q33)).length = 2 := (own_rllen _ _ _).trans hl78
        show own_Ends prg e below s _ _ _ T79 (mkF m 133 #[.val (.int p0), .val (.int p1), .val (.int p2), .val (.int p3), .val (.int p4), .val (.int (1 : Int32)), .val (.int (2 : Int32)), .val (.int ((own_ushr p0 (4 : Int32)) &&& (3 : Int32))), .val (.int (2 : Int32)), .val (.int q33), .val (.ref a35), .unset, .unset, .unset, .unset, .unset, .unset, .unset] [(.int (own_rv l77 (1 : Int32) (own_spread q33) (2 : Int32) (1 : Int32)))])
        refine own_istore (pc' := 135) (l' := #[.val (.int p0), .val (.int p1), .val (.int p2), .val (.int p3), .val (.int p4), .val (.int (1 : Int32)), .val (.int (2 : Int32)), .val (.int ((own_ushr p0 (4 : Int32)) &&& (3 : Int32))), .val (.int (2 : Int32)), .val (.int q33), .val (.ref a35), .val (.int (own_rv l77 (1 : Int32) (own_spread q33) (2 : Int32) (1 : Int32))), .unset, .unset, .unset, .unset, .unset, .unset]) X79 hx (hb hby at_133) rfl rfl ?_
        refine own_aload (pc' := 137) X79 hx (hb hby at_135) rfl rfl rfl ?_
        refine own_iload (pc' := 139) X79 hx (hb hby at_137) rfl rfl ?_
        have f82 := (G76_0.keep Kq79 (ninS ne72 nin0))
        have f83 := (G76_1.keep Kq79 (ninS ne72 nin0))
        have f84 := (G76_2.keep Kq79 (ninS ne72 nin0))
        have f86 := (f80.keep Kq79)
        refine own_callV (pc' := 142) (y := (⟨"com/example/larder/larder/cache/EvictedKeys", "recall", "(I)Z"⟩ : MethodName)) (W := 0) (rm := own_room4_2) (argsL := [(.int q33)]) (rest := []) (b := a35) (C := "com/example/larder/larder/cache/EvictedKeys") X79 hx hZ rfl hown (by rw [hml]; rfl) f86 (own_w16 hw) (own_w17 hw) (own_w19 hw) (own_w18 hw) (own_w2 hw) (own_w20 hw) (by decide) (own_rm4_2 lch Z a0 hw [] a35 q33 b70 bk70 (own_rl l77 (1 : Int32) (own_spread q33)) (2 : Int32) (1 : Int32) T79.heap n0 f82 f83 f84 G79_0 hl81 ge71 ne72) (by decide) (by decide) (by decide) (by decide) (lenOf own_pd3 rfl) rfl (by exact Nat.le_of_eq rfl) (hb hby at_139) rfl ?_
        intro T85 Lc85 v85 X85 hQ85
        obtain ⟨rfl, Nq85, Kq85, G85_0⟩ := hQ85
        have N85 := Fr.app N79 Nq85
        have hl87 : (own_rl (own_rl l77 (1 : Int32) (own_spread q33)) (1 : Int32) (own_spread q33)).length = 2 := (own_rllen _ _ _).trans hl81
        show own_Ends prg e below s _ _ _ T85 (mkF m 142 #[.val (.int p0), .val (.int p1), .val (.int p2), .val (.int p3), .val (.int p4), .val (.int (1 : Int32)), .val (.int (2 : Int32)), .val (.int ((own_ushr p0 (4 : Int32)) &&& (3 : Int32))), .val (.int (2 : Int32)), .val (.int q33), .val (.ref a35), .val (.int (own_rv l77 (1 : Int32) (own_spread q33) (2 : Int32) (1 : Int32))), .unset, .unset, .unset, .unset, .unset, .unset] [(.int (own_rv (own_rl l77 (1 : Int32) (own_spread q33)) (1 : Int32) (own_spread q33) (2 : Int32) (1 : Int32)))])
        refine own_istore (pc' := 144) (l' := #[.val (.int p0), .val (.int p1), .val (.int p2), .val (.int p3), .val (.int p4), .val (.int (1 : Int32)), .val (.int (2 : Int32)), .val (.int ((own_ushr p0 (4 : Int32)) &&& (3 : Int32))), .val (.int (2 : Int32)), .val (.int q33), .val (.ref a35), .val (.int (own_rv l77 (1 : Int32) (own_spread q33) (2 : Int32) (1 : Int32))), .val (.int (own_rv (own_rl l77 (1 : Int32) (own_spread q33)) (1 : Int32) (own_spread q33) (2 : Int32) (1 : Int32))), .unset, .unset, .unset, .unset, .unset]) X85 hx (hb hby at_142) rfl rfl ?_
        refine own_iload (pc' := 146) X85 hx (hb hby at_144) rfl rfl ?_
        refine own_iconst (pc' := 147) (z := (1 : Int32)) X85 hx (hb hby at_146) rfl rfl ?_
        refine own_isub (pc' := 148) (z := (1 : Int32)) X85 hx (hb hby at_147) rfl (by decide) ?_
        refine own_istore (pc' := 150) (l' := #[.val (.int p0), .val (.int p1), .val (.int p2), .val (.int p3), .val (.int p4), .val (.int (1 : Int32)), .val (.int (2 : Int32)), .val (.int ((own_ushr p0 (4 : Int32)) &&& (3 : Int32))), .val (.int (2 : Int32)), .val (.int q33), .val (.ref a35), .val (.int (own_rv l77 (1 : Int32) (own_spread q33) (2 : Int32) (1 : Int32))), .val (.int (own_rv (own_rl l77 (1 : Int32) (own_spread q33)) (1 : Int32) (own_spread q33) (2 : Int32) (1 : Int32))), .val (.int (1 : Int32)), .unset, .unset, .unset, .unset]) X85 hx (hb hby at_148) rfl rfl ?_
        refine own_iload (pc' := 152) X85 hx (hb hby at_150) rfl rfl ?_
        refine own_callS (pc' := 155) (y := (⟨"com/example/larder/larder/cache/UseCounts", "spread", "(I)I"⟩ : MethodName)) (W := 0) (rm := own_room5) (argsL := [(.int q33)]) (rest := []) X85 hx hZ rfl hown (by rw [hml]; rfl) (own_w23 hw) (own_w24 hw) (own_w25 hw) (own_w26 hw) (by decide) (own_rm5 lch Z a0 hw [] q33 T85.heap n0) (by decide) (by decide) (by decide) (by decide) (lenOf own_pd0 rfl) rfl (by exact Nat.le_of_eq rfl) (hb hby at_152) rfl ?_
        intro T88 Lc88 v88 X88 hQ88
        obtain ⟨rfl, Nq88, Kq88⟩ := hQ88
        have N88 := Fr.app N85 Nq88
        show own_Ends prg e below s _ _ _ T88 (mkF m 155 #[.val (.int p0), .val (.int p1), .val (.int p2), .val (.int p3), .val (.int p4), .val (.int (1 : Int32)), .val (.int (2 : Int32)), .val (.int ((own_ushr p0 (4 : Int32)) &&& (3 : Int32))), .val (.int (2 : Int32)), .val (.int q33), .val (.ref a35), .val (.int (own_rv l77 (1 : Int32) (own_spread q33) (2 : Int32) (1 : Int32))), .val (.int (own_rv (own_rl l77 (1 : Int32) (own_spread q33)) (1 : Int32) (own_spread q33) (2 : Int32) (1 : Int32))), .val (.int (1 : Int32)), .unset, .unset, .unset, .unset] [(.int (own_spread q33))])
        refine own_iload (pc' := 157) X88 hx (hb hby at_155) rfl rfl ?_
        refine own_iand (pc' := 158) (z := ((own_spread q33) &&& (1 : Int32))) X88 hx (hb hby at_157) rfl rfl ?_
        refine own_istore (pc' := 160) (l' := #[.val (.int p0), .val (.int p1), .val (.int p2), .val (.int p3), .val (.int p4), .val (.int (1 : Int32)), .val (.int (2 : Int32)), .val (.int ((own_ushr p0 (4 : Int32)) &&& (3 : Int32))), .val (.int (2 : Int32)), .val (.int q33), .val (.ref a35), .val (.int (own_rv l77 (1 : Int32) (own_spread q33) (2 : Int32) (1 : Int32))), .val (.int (own_rv (own_rl l77 (1 : Int32) (own_spread q33)) (1 : Int32) (own_spread q33) (2 : Int32) (1 : Int32))), .val (.int (1 : Int32)), .val (.int ((own_spread q33) &&& (1 : Int32))), .unset, .unset, .unset]) X88 hx (hb hby at_158) rfl rfl ?_
        refine own_iconst (pc' := 161) (z := (0 : Int32)) X88 hx (hb hby at_160) rfl rfl ?_
        refine own_istore (pc' := 163) (l' := #[.val (.int p0), .val (.int p1), .val (.int p2), .val (.int p3), .val (.int p4), .val (.int (1 : Int32)), .val (.int (2 : Int32)), .val (.int ((own_ushr p0 (4 : Int32)) &&& (3 : Int32))), .val (.int (2 : Int32)), .val (.int q33), .val (.ref a35), .val (.int (own_rv l77 (1 : Int32) (own_spread q33) (2 : Int32) (1 : Int32))), .val (.int (own_rv (own_rl l77 (1 : Int32) (own_spread q33)) (1 : Int32) (own_spread q33) (2 : Int32) (1 : Int32))), .val (.int (1 : Int32)), .val (.int ((own_spread q33) &&& (1 : Int32))), .val (.int (0 : Int32)), .unset, .unset]) X88 hx (hb hby at_161) rfl rfl ?_
        refine own_iload (pc' := 165) X88 hx (hb hby at_163) rfl rfl ?_
        refine own_iconst (pc' := 166) (z := (3 : Int32)) X88 hx (hb hby at_165) rfl rfl ?_
        refine own_icmpYes (pc' := 187) X88 hx (hb hby at_166) (tlt (by decide)).1 (by decide) (by decide) ?_
        refine own_iload (pc' := 189) X88 hx (hb hby at_187) rfl rfl ?_
        refine own_iconst (pc' := 190) (z := (2 : Int32)) X88 hx (hb hby at_189) rfl rfl ?_
        refine own_icmpNo (pc' := 193) X88 hx (hb hby at_190) rfl (flt (by decide)).1 ?_
        refine own_iloadN (pc' := 194) X88 hx (hb hby at_193) rfl rfl ?_
        refine own_callS (pc' := 197) (y := (⟨"com/example/larder/larder/cache/UseCounts", "spread", "(I)I"⟩ : MethodName)) (W := 0) (rm := own_room5) (argsL := [(.int p2)]) (rest := []) X88 hx hZ Kq88 hown (by rw [hml]; rfl) (own_w23 hw) (own_w24 hw) (own_w25 hw) (own_w26 hw) (by decide) (own_rm5 lch Z a0 hw [] p2 T85.heap n0) (by decide) (by decide) (by decide) (by decide) (lenOf own_pd0 rfl) rfl (by exact Nat.le_of_eq rfl) (hb hby at_194) rfl ?_
        intro T89 Lc89 v89 X89 hQ89
        obtain ⟨rfl, Nq89, Kq89⟩ := hQ89
        have N89 := Fr.app N88 Nq89
        show own_Ends prg e below s _ _ _ T89 (mkF m 197 #[.val (.int p0), .val (.int p1), .val (.int p2), .val (.int p3), .val (.int p4), .val (.int (1 : Int32)), .val (.int (2 : Int32)), .val (.int ((own_ushr p0 (4 : Int32)) &&& (3 : Int32))), .val (.int (2 : Int32)), .val (.int q33), .val (.ref a35), .val (.int (own_rv l77 (1 : Int32) (own_spread q33) (2 : Int32) (1 : Int32))), .val (.int (own_rv (own_rl l77 (1 : Int32) (own_spread q33)) (1 : Int32) (own_spread q33) (2 : Int32) (1 : Int32))), .val (.int (1 : Int32)), .val (.int ((own_spread q33) &&& (1 : Int32))), .val (.int (0 : Int32)), .unset, .unset] [(.int (own_spread p2))])
        refine own_iload (pc' := 199) X89 hx (hb hby at_197) rfl rfl ?_
        refine own_iand (pc' := 200) (z := ((own_spread p2) &&& (1 : Int32))) X89 hx (hb hby at_199) rfl rfl ?_
        refine own_iload (pc' := 202) X89 hx (hb hby at_200) rfl rfl ?_
        by_cases hc202_90 : ((own_spread p2) &&& (1 : Int32)) = ((own_spread q33) &&& (1 : Int32))
        · refine own_icmpNo (pc' := 205) X89 hx (hb hby at_202) rfl (teq hc202_90).2 ?_
          refine own_iconst (pc' := 206) (z := (2 : Int32)) X89 hx (hb hby at_205) rfl rfl ?_
          refine own_istore (pc' := 208) (l' := #[.val (.int p0), .val (.int p1), .val (.int p2), .val (.int p3), .val (.int p4), .val (.int (1 : Int32)), .val (.int (2 : Int32)), .val (.int ((own_ushr p0 (4 : Int32)) &&& (3 : Int32))), .val (.int (2 : Int32)), .val (.int q33), .val (.ref a35), .val (.int (own_rv l77 (1 : Int32) (own_spread q33) (2 : Int32) (1 : Int32))), .val (.int (own_rv (own_rl l77 (1 : Int32) (own_spread q33)) (1 : Int32) (own_spread q33) (2 : Int32) (1 : Int32))), .val (.int (1 : Int32)), .val (.int ((own_spread q33) &&& (1 : Int32))), .val (.int (2 : Int32)), .unset, .unset]) X89 hx (hb hby at_206) rfl rfl ?_
          refine own_goto (pc' := 232) X89 hx (hb hby at_208) (by decide) (by decide) ?_
          refine own_iload (pc' := 234) X89 hx (hb hby at_232) rfl rfl ?_
          refine own_iconst (pc' := 235) (z := (3 : Int32)) X89 hx (hb hby at_234) rfl rfl ?_
          refine own_icmpYes (pc' := 242) X89 hx (hb hby at_235) (feq (by decide)).2 (by decide) (by decide) ?_
          refine own_iload (pc' := 244) X89 hx (hb hby at_242) rfl rfl ?_
          refine own_iconst (pc' := 245) (z := (2 : Int32)) X89 hx (hb hby at_244) rfl rfl ?_
          refine own_icmpNo (pc' := 248) X89 hx (hb hby at_245) rfl (teq (by decide)).2 ?_
          refine own_iloadN (pc' := 249) X89 hx (hb hby at_248) rfl rfl ?_
          refine own_goto (pc' := 253) X89 hx (hb hby at_249) (by decide) (by decide) ?_
          refine own_istore (pc' := 255) (l' := #[.val (.int p0), .val (.int p1), .val (.int p2), .val (.int p3), .val (.int p4), .val (.int (1 : Int32)), .val (.int (2 : Int32)), .val (.int ((own_ushr p0 (4 : Int32)) &&& (3 : Int32))), .val (.int (2 : Int32)), .val (.int q33), .val (.ref a35), .val (.int (own_rv l77 (1 : Int32) (own_spread q33) (2 : Int32) (1 : Int32))), .val (.int (own_rv (own_rl l77 (1 : Int32) (own_spread q33)) (1 : Int32) (own_spread q33) (2 : Int32) (1 : Int32))), .val (.int (1 : Int32)), .val (.int ((own_spread q33) &&& (1 : Int32))), .val (.int (2 : Int32)), .val (.int p2), .unset]) X89 hx (hb hby at_253) rfl rfl ?_
          refine own_iload (pc' := 257) X89 hx (hb hby at_255) rfl rfl ?_
          refine own_ifNo (pc' := 260) X89 hx (hb hby at_257) rfl (feq (by decide)).1 ?_
          refine own_iload (pc' := 262) X89 hx (hb hby at_260) rfl rfl ?_
          refine own_iload (pc' := 264) X89 hx (hb hby at_262) rfl rfl ?_
          by_cases hc264_91 : p2 = q33
          · refine own_icmpNo (pc' := 267) X89 hx (hb hby at_264) rfl (teq hc264_91).2 ?_
            refine own_iload (pc' := 269) X89 hx (hb hby at_267) rfl rfl ?_
            refine own_iload (pc' := 271) X89 hx (hb hby at_269) rfl rfl ?_
            refine own_isub (pc' := 272) (z := (0 : Int32)) X89 hx (hb hby at_271) rfl (by decide) ?_
            refine own_iload (pc' := 274) X89 hx (hb hby at_272) rfl rfl ?_
            refine own_icmpNo (pc' := 277) X89 hx (hb hby at_274) rfl (tlt (by decide)).2.1 ?_
            refine own_iconst (pc' := 278) (z := (1 : Int32)) X89 hx (hb hby at_277) rfl rfl ?_
            refine own_goto (pc' := 282) X89 hx (hb hby at_278) (by decide) (by decide) ?_
            refine own_istore (pc' := 284) (l' := #[.val (.int p0), .val (.int p1), .val (.int p2), .val (.int p3), .val (.int p4), .val (.int (1 : Int32)), .val (.int (2 : Int32)), .val (.int ((own_ushr p0 (4 : Int32)) &&& (3 : Int32))), .val (.int (2 : Int32)), .val (.int q33), .val (.ref a35), .val (.int (own_rv l77 (1 : Int32) (own_spread q33) (2 : Int32) (1 : Int32))), .val (.int (own_rv (own_rl l77 (1 : Int32) (own_spread q33)) (1 : Int32) (own_spread q33) (2 : Int32) (1 : Int32))), .val (.int (1 : Int32)), .val (.int ((own_spread q33) &&& (1 : Int32))), .val (.int (2 : Int32)), .val (.int p2), .val (.int (1 : Int32))]) X89 hx (hb hby at_282) rfl rfl ?_
            refine own_iload (pc' := 286) X89 hx (hb hby at_284) rfl rfl ?_
            refine own_iload (pc' := 288) X89 hx (hb hby at_286) rfl rfl ?_
            have sl92 : own_slot l77 (1 : Int32) (own_spread q33) = own_pack (own_spread p2) (2 : Int64) := by
              rw [el77, el73]
              exact (own_slE (Or.inl ⟨rfl, rfl⟩) (by simp) hc202_90)
            refine own_icmpNo (pc' := 291) X89 hx (hb hby at_288) rfl (teq ((own_hitv (i := 2) sl92 (by decide) (by decide)).trans ((if_pos hc264_91).trans (by decide)))).2 ?_
            refine own_iload (pc' := 293) X89 hx (hb hby at_291) rfl rfl ?_
            refine own_ifNo (pc' := 296) X89 hx (hb hby at_293) rfl (teq (own_second (Or.inl ⟨rfl, rfl⟩) hl78)).2 ?_
            refine own_iconst (pc' := 297) (z := (1 : Int32)) X89 hx (hb hby at_296) rfl rfl ?_
            refine own_goto (pc' := 301) X89 hx (hb hby at_297) (by decide) (by decide) ?_
            refine own_retN X89 hx hlk hret (by simp) (hb hby at_301) (by decide) (by decide) ?_
            exact ⟨rfl, N89⟩
          · refine own_icmpYes (pc' := 281) X89 hx (hb hby at_264) (feq hc264_91).2 (by decide) (by decide) ?_
            refine own_iconst (pc' := 282) (z := (0 : Int32)) X89 hx (hb hby at_281) rfl rfl ?_
            refine own_istore (pc' := 284) (l' := #[.val (.int p0), .val (.int p1), .val (.int p2), .val (.int p3), .val (.int p4), .val (.int (1 : Int32)), .val (.int (2 : Int32)), .val (.int ((own_ushr p0 (4 : Int32)) &&& (3 : Int32))), .val (.int (2 : Int32)), .val (.int q33), .val (.ref a35), .val (.int (own_rv l77 (1 : Int32) (own_spread q33) (2 : Int32) (1 : Int32))), .val (.int (own_rv (own_rl l77 (1 : Int32) (own_spread q33)) (1 : Int32) (own_spread q33) (2 : Int32) (1 : Int32))), .val (.int (1 : Int32)), .val (.int ((own_spread q33) &&& (1 : Int32))), .val (.int (2 : Int32)), .val (.int p2), .val (.int (0 : Int32))]) X89 hx (hb hby at_282) rfl rfl ?_
            refine own_iload (pc' := 286) X89 hx (hb hby at_284) rfl rfl ?_
            refine own_iload (pc' := 288) X89 hx (hb hby at_286) rfl rfl ?_
            have sl93 : own_slot l77 (1 : Int32) (own_spread q33) = own_pack (own_spread p2) (2 : Int64) := by
              rw [el77, el73]
              exact (own_slE (Or.inl ⟨rfl, rfl⟩) (by simp) hc202_90)
            refine own_icmpNo (pc' := 291) X89 hx (hb hby at_288) rfl (teq ((own_hitv (i := 2) sl93 (by decide) (by decide)).trans (if_neg hc264_91))).2 ?_
            refine own_iload (pc' := 293) X89 hx (hb hby at_291) rfl rfl ?_
            refine own_ifNo (pc' := 296) X89 hx (hb hby at_293) rfl (teq (own_second (Or.inl ⟨rfl, rfl⟩) hl78)).2 ?_
            refine own_iconst (pc' := 297) (z := (1 : Int32)) X89 hx (hb hby at_296) rfl rfl ?_
            refine own_goto (pc' := 301) X89 hx (hb hby at_297) (by decide) (by decide) ?_
            refine own_retN X89 hx hlk hret (by simp) (hb hby at_301) (by decide) (by decide) ?_
            exact ⟨rfl, N89⟩
        · refine own_icmpYes (pc' := 211) X89 hx (hb hby at_202) (feq hc202_90).2 (by decide) (by decide) ?_
          refine own_iload (pc' := 213) X89 hx (hb hby at_211) rfl rfl ?_
          refine own_iconst (pc' := 214) (z := (1 : Int32)) X89 hx (hb hby at_213) rfl rfl ?_
          refine own_icmpNo (pc' := 217) X89 hx (hb hby at_214) rfl (flt (by decide)).1 ?_
          refine own_iloadN (pc' := 218) X89 hx (hb hby at_217) rfl rfl ?_
          refine own_callS (pc' := 221) (y := (⟨"com/example/larder/larder/cache/UseCounts", "spread", "(I)I"⟩ : MethodName)) (W := 0) (rm := own_room5) (argsL := [(.int p1)]) (rest := []) X89 hx hZ Kq89 hown (by rw [hml]; rfl) (own_w23 hw) (own_w24 hw) (own_w25 hw) (own_w26 hw) (by decide) (own_rm5 lch Z a0 hw [] p1 T85.heap n0) (by decide) (by decide) (by decide) (by decide) (lenOf own_pd0 rfl) rfl (by exact Nat.le_of_eq rfl) (hb hby at_218) rfl ?_
          intro T94 Lc94 v94 X94 hQ94
          obtain ⟨rfl, Nq94, Kq94⟩ := hQ94
          have N94 := Fr.app N89 Nq94
          show own_Ends prg e below s _ _ _ T94 (mkF m 221 #[.val (.int p0), .val (.int p1), .val (.int p2), .val (.int p3), .val (.int p4), .val (.int (1 : Int32)), .val (.int (2 : Int32)), .val (.int ((own_ushr p0 (4 : Int32)) &&& (3 : Int32))), .val (.int (2 : Int32)), .val (.int q33), .val (.ref a35), .val (.int (own_rv l77 (1 : Int32) (own_spread q33) (2 : Int32) (1 : Int32))), .val (.int (own_rv (own_rl l77 (1 : Int32) (own_spread q33)) (1 : Int32) (own_spread q33) (2 : Int32) (1 : Int32))), .val (.int (1 : Int32)), .val (.int ((own_spread q33) &&& (1 : Int32))), .val (.int (0 : Int32)), .unset, .unset] [(.int (own_spread p1))])
          refine own_iload (pc' := 223) X94 hx (hb hby at_221) rfl rfl ?_
          refine own_iand (pc' := 224) (z := ((own_spread p1) &&& (1 : Int32))) X94 hx (hb hby at_223) rfl rfl ?_
          refine own_iload (pc' := 226) X94 hx (hb hby at_224) rfl rfl ?_
          by_cases hc226_95 : ((own_spread p1) &&& (1 : Int32)) = ((own_spread q33) &&& (1 : Int32))
          · refine own_icmpNo (pc' := 229) X94 hx (hb hby at_226) rfl (teq hc226_95).2 ?_
            refine own_iconst (pc' := 230) (z := (1 : Int32)) X94 hx (hb hby at_229) rfl rfl ?_
            refine own_istore (pc' := 232) (l' := #[.val (.int p0), .val (.int p1), .val (.int p2), .val (.int p3), .val (.int p4), .val (.int (1 : Int32)), .val (.int (2 : Int32)), .val (.int ((own_ushr p0 (4 : Int32)) &&& (3 : Int32))), .val (.int (2 : Int32)), .val (.int q33), .val (.ref a35), .val (.int (own_rv l77 (1 : Int32) (own_spread q33) (2 : Int32) (1 : Int32))), .val (.int (own_rv (own_rl l77 (1 : Int32) (own_spread q33)) (1 : Int32) (own_spread q33) (2 : Int32) (1 : Int32))), .val (.int (1 : Int32)), .val (.int ((own_spread q33) &&& (1 : Int32))), .val (.int (1 : Int32)), .unset, .unset]) X94 hx (hb hby at_230) rfl rfl ?_
            refine own_iload (pc' := 234) X94 hx (hb hby at_232) rfl rfl ?_
            refine own_iconst (pc' := 235) (z := (3 : Int32)) X94 hx (hb hby at_234) rfl rfl ?_
            refine own_icmpYes (pc' := 242) X94 hx (hb hby at_235) (feq (by decide)).2 (by decide) (by decide) ?_
            refine own_iload (pc' := 244) X94 hx (hb hby at_242) rfl rfl ?_
            refine own_iconst (pc' := 245) (z := (2 : Int32)) X94 hx (hb hby at_244) rfl rfl ?_
            refine own_icmpYes (pc' := 252) X94 hx (hb hby at_245) (feq (by decide)).2 (by decide) (by decide) ?_
            refine own_iloadN (pc' := 253) X94 hx (hb hby at_252) rfl rfl ?_
            refine own_istore (pc' := 255) (l' := #[.val (.int p0), .val (.int p1), .val (.int p2), .val (.int p3), .val (.int p4), .val (.int (1 : Int32)), .val (.int (2 : Int32)), .val (.int ((own_ushr p0 (4 : Int32)) &&& (3 : Int32))), .val (.int (2 : Int32)), .val (.int q33), .val (.ref a35), .val (.int (own_rv l77 (1 : Int32) (own_spread q33) (2 : Int32) (1 : Int32))), .val (.int (own_rv (own_rl l77 (1 : Int32) (own_spread q33)) (1 : Int32) (own_spread q33) (2 : Int32) (1 : Int32))), .val (.int (1 : Int32)), .val (.int ((own_spread q33) &&& (1 : Int32))), .val (.int (1 : Int32)), .val (.int p1), .unset]) X94 hx (hb hby at_253) rfl rfl ?_
            refine own_iload (pc' := 257) X94 hx (hb hby at_255) rfl rfl ?_
            refine own_ifNo (pc' := 260) X94 hx (hb hby at_257) rfl (feq (by decide)).1 ?_
            refine own_iload (pc' := 262) X94 hx (hb hby at_260) rfl rfl ?_
            refine own_iload (pc' := 264) X94 hx (hb hby at_262) rfl rfl ?_
            by_cases hc264_96 : p1 = q33
            · refine own_icmpNo (pc' := 267) X94 hx (hb hby at_264) rfl (teq hc264_96).2 ?_
              refine own_iload (pc' := 269) X94 hx (hb hby at_267) rfl rfl ?_
              refine own_iload (pc' := 271) X94 hx (hb hby at_269) rfl rfl ?_
              refine own_isub (pc' := 272) (z := (1 : Int32)) X94 hx (hb hby at_271) rfl (by decide) ?_
              refine own_iload (pc' := 274) X94 hx (hb hby at_272) rfl rfl ?_
              refine own_icmpYes (pc' := 281) X94 hx (hb hby at_274) (flt (by decide)).2.1 (by decide) (by decide) ?_
              refine own_iconst (pc' := 282) (z := (0 : Int32)) X94 hx (hb hby at_281) rfl rfl ?_
              refine own_istore (pc' := 284) (l' := #[.val (.int p0), .val (.int p1), .val (.int p2), .val (.int p3), .val (.int p4), .val (.int (1 : Int32)), .val (.int (2 : Int32)), .val (.int ((own_ushr p0 (4 : Int32)) &&& (3 : Int32))), .val (.int (2 : Int32)), .val (.int q33), .val (.ref a35), .val (.int (own_rv l77 (1 : Int32) (own_spread q33) (2 : Int32) (1 : Int32))), .val (.int (own_rv (own_rl l77 (1 : Int32) (own_spread q33)) (1 : Int32) (own_spread q33) (2 : Int32) (1 : Int32))), .val (.int (1 : Int32)), .val (.int ((own_spread q33) &&& (1 : Int32))), .val (.int (1 : Int32)), .val (.int p1), .val (.int (0 : Int32))]) X94 hx (hb hby at_282) rfl rfl ?_
              refine own_iload (pc' := 286) X94 hx (hb hby at_284) rfl rfl ?_
              refine own_iload (pc' := 288) X94 hx (hb hby at_286) rfl rfl ?_
              have sl97 : own_slot l77 (1 : Int32) (own_spread q33) = own_pack (own_spread p1) (1 : Int64) := by
                rw [el77, el73]
                exact ((own_slN (Or.inl ⟨rfl, rfl⟩) (by simp) hc202_90).trans (own_slE (Or.inl ⟨rfl, rfl⟩) (List.length_replicate) hc226_95))
              refine own_icmpNo (pc' := 291) X94 hx (hb hby at_288) rfl (teq ((own_hitv (i := 1) sl97 (by decide) (by decide)).trans ((if_pos hc264_96).trans (by decide)))).2 ?_
              refine own_iload (pc' := 293) X94 hx (hb hby at_291) rfl rfl ?_
              refine own_ifNo (pc' := 296) X94 hx (hb hby at_293) rfl (teq (own_second (Or.inl ⟨rfl, rfl⟩) hl78)).2 ?_
              refine own_iconst (pc' := 297) (z := (1 : Int32)) X94 hx (hb hby at_296) rfl rfl ?_
              refine own_goto (pc' := 301) X94 hx (hb hby at_297) (by decide) (by decide) ?_
              refine own_retN X94 hx hlk hret (by simp) (hb hby at_301) (by decide) (by decide) ?_
              exact ⟨rfl, N94⟩
            · refine own_icmpYes (pc' := 281) X94 hx (hb hby at_264) (feq hc264_96).2 (by decide) (by decide) ?_
              refine own_iconst (pc' := 282) (z := (0 : Int32)) X94 hx (hb hby at_281) rfl rfl ?_
              refine own_istore (pc' := 284) (l' := #[.val (.int p0), .val (.int p1), .val (.int p2), .val (.int p3), .val (.int p4), .val (.int (1 : Int32)), .val (.int (2 : Int32)), .val (.int ((own_ushr p0 (4 : Int32)) &&& (3 : Int32))), .val (.int (2 : Int32)), .val (.int q33), .val (.ref a35), .val (.int (own_rv l77 (1 : Int32) (own_spread q33) (2 : Int32) (1 : Int32))), .val (.int (own_rv (own_rl l77 (1 : Int32) (own_spread q33)) (1 : Int32) (own_spread q33) (2 : Int32) (1 : Int32))), .val (.int (1 : Int32)), .val (.int ((own_spread q33) &&& (1 : Int32))), .val (.int (1 : Int32)), .val (.int p1), .val (.int (0 : Int32))]) X94 hx (hb hby at_282) rfl rfl ?_
              refine own_iload (pc' := 286) X94 hx (hb hby at_284) rfl rfl ?_
              refine own_iload (pc' := 288) X94 hx (hb hby at_286) rfl rfl ?_
              have sl98 : own_slot l77 (1 : Int32) (own_spread q33) = own_pack (own_spread p1) (1 : Int64) := by
                rw [el77, el73]
                exact ((own_slN (Or.inl ⟨rfl, rfl⟩) (by simp) hc202_90).trans (own_slE (Or.inl ⟨rfl, rfl⟩) (List.length_replicate) hc226_95))
              refine own_icmpNo (pc' := 291) X94 hx (hb hby at_288) rfl (teq ((own_hitv (i := 1) sl98 (by decide) (by decide)).trans (if_neg hc264_96))).2 ?_
              refine own_iload (pc' := 293) X94 hx (hb hby at_291) rfl rfl ?_
              refine own_ifNo (pc' := 296) X94 hx (hb hby at_293) rfl (teq (own_second (Or.inl ⟨rfl, rfl⟩) hl78)).2 ?_
              refine own_iconst (pc' := 297) (z := (1 : Int32)) X94 hx (hb hby at_296) rfl rfl ?_
              refine own_goto (pc' := 301) X94 hx (hb hby at_297) (by decide) (by decide) ?_
              refine own_retN X94 hx hlk hret (by simp) (hb hby at_301) (by decide) (by decide) ?_
              exact ⟨rfl, N94⟩
          · refine own_icmpYes (pc' := 232) X94 hx (hb hby at_226) (feq hc226_95).2 (by decide) (by decide) ?_
            refine own_iload (pc' := 234) X94 hx (hb hby at_232) rfl rfl ?_
            refine own_iconst (pc' := 235) (z := (3 : Int32)) X94 hx (hb hby at_234) rfl rfl ?_
            refine own_icmpYes (pc' := 242) X94 hx (hb hby at_235) (feq (by decide)).2 (by decide) (by decide) ?_
            refine own_iload (pc' := 244) X94 hx (hb hby at_242) rfl rfl ?_
            refine own_iconst (pc' := 245) (z := (2 : Int32)) X94 hx (hb hby at_244) rfl rfl ?_
            refine own_icmpYes (pc' := 252) X94 hx (hb hby at_245) (feq (by decide)).2 (by decide) (by decide) ?_
            refine own_iloadN (pc' := 253) X94 hx (hb hby at_252) rfl rfl ?_
            refine own_istore (pc' := 255) (l' := #[.val (.int p0), .val (.int p1), .val (.int p2), .val (.int p3), .val (.int p4), .val (.int (1 : Int32)), .val (.int (2 : Int32)), .val (.int ((own_ushr p0 (4 : Int32)) &&& (3 : Int32))), .val (.int (2 : Int32)), .val (.int q33), .val (.ref a35), .val (.int (own_rv l77 (1 : Int32) (own_spread q33) (2 : Int32) (1 : Int32))), .val (.int (own_rv (own_rl l77 (1 : Int32) (own_spread q33)) (1 : Int32) (own_spread q33) (2 : Int32) (1 : Int32))), .val (.int (1 : Int32)), .val (.int ((own_spread q33) &&& (1 : Int32))), .val (.int (0 : Int32)), .val (.int p1), .unset]) X94 hx (hb hby at_253) rfl rfl ?_
            refine own_iload (pc' := 257) X94 hx (hb hby at_255) rfl rfl ?_
            refine own_ifYes (pc' := 281) X94 hx (hb hby at_257) (teq (by decide)).1 (by decide) (by decide) ?_
            refine own_iconst (pc' := 282) (z := (0 : Int32)) X94 hx (hb hby at_281) rfl rfl ?_
            refine own_istore (pc' := 284) (l' := #[.val (.int p0), .val (.int p1), .val (.int p2), .val (.int p3), .val (.int p4), .val (.int (1 : Int32)), .val (.int (2 : Int32)), .val (.int ((own_ushr p0 (4 : Int32)) &&& (3 : Int32))), .val (.int (2 : Int32)), .val (.int q33), .val (.ref a35), .val (.int (own_rv l77 (1 : Int32) (own_spread q33) (2 : Int32) (1 : Int32))), .val (.int (own_rv (own_rl l77 (1 : Int32) (own_spread q33)) (1 : Int32) (own_spread q33) (2 : Int32) (1 : Int32))), .val (.int (1 : Int32)), .val (.int ((own_spread q33) &&& (1 : Int32))), .val (.int (0 : Int32)), .val (.int p1), .val (.int (0 : Int32))]) X94 hx (hb hby at_282) rfl rfl ?_
            refine own_iload (pc' := 286) X94 hx (hb hby at_284) rfl rfl ?_
            refine own_iload (pc' := 288) X94 hx (hb hby at_286) rfl rfl ?_
            have sl99 : own_slot l77 (1 : Int32) (own_spread q33) = 0 := by
              rw [el77, el73]
              exact ((own_slN (Or.inl ⟨rfl, rfl⟩) (by simp) hc202_90).trans ((own_slN (Or.inl ⟨rfl, rfl⟩) (List.length_replicate) hc226_95).trans (own_sl0 _ _ _)))
            refine own_icmpNo (pc' := 291) X94 hx (hb hby at_288) rfl (teq (own_miss sl99)).2 ?_
            refine own_iload (pc' := 293) X94 hx (hb hby at_291) rfl rfl ?_
            refine own_ifNo (pc' := 296) X94 hx (hb hby at_293) rfl (teq (own_second (Or.inl ⟨rfl, rfl⟩) hl78)).2 ?_
            refine own_iconst (pc' := 297) (z := (1 : Int32)) X94 hx (hb hby at_296) rfl rfl ?_
            refine own_goto (pc' := 301) X94 hx (hb hby at_297) (by decide) (by decide) ?_
            refine own_retN X94 hx hlk hret (by simp) (hb hby at_301) (by decide) (by decide) ?_
            exact ⟨rfl, N94⟩
      · refine own_iload (pc' := 92) X40 hx (hb hby at_90) rfl rfl ?_
        refine own_iconst (pc' := 93) (z := (1 : Int32)) X40 hx (hb hby at_92) rfl rfl ?_
        refine own_icmpNo (pc' := 96) X40 hx (hb hby at_93) rfl (flt (by decide)).1 ?_
        refine own_aload (pc' := 98) X40 hx (hb hby at_96) rfl rfl rfl ?_
        refine own_iloadN (pc' := 99) X40 hx (hb hby at_98) rfl rfl ?_
        have f100 := (A35.keep Kq40)
        have f101 := (Nat.le_trans (Nat.le_trans Z0 E35.1) Kq40.1)
        refine own_callV (pc' := 102) (y := (⟨"com/example/larder/larder/cache/EvictedKeys", "remember", "(I)V"⟩ : MethodName)) (W := 0) (rm := own_room6_1_0) (argsL := [(.int p1)]) (rest := []) (b := a35) (C := "com/example/larder/larder/cache/EvictedKeys") X40 hx hZ rfl hown (by rw [hml]; rfl) f100 (own_w28 hw) (own_w29 hw) (own_w31 hw) (own_w30 hw) (own_w2 hw) (own_w32 hw) (by decide) (own_rm6_1_0 lch Z a0 hw [] a35 p1 T40.heap n0 f101 f100 G40_0 G40_1 G40_2 ge36) (by decide) (by decide) (by decide) (by decide) (lenOf own_pd4 rfl) rfl (by exact Nat.le_of_eq rfl) (hb hby at_99) rfl ?_
        intro T102 Lc102 v102 X102 hQ102
        obtain ⟨b102, bk102, rfl, Nq102, Kq102, G102_0, G102_1, G102_2, G102_3, G102_4⟩ := hQ102
        have N102 := Fr.app N40 Nq102
        have ge103 : n0 ≤ b102 := Nat.le_trans f101 G102_0
        have ne104 : a35 ≠ b102 := Nat.ne_of_lt (Nat.lt_of_lt_of_le f100.lt G102_0)
        obtain ⟨l105, el105⟩ : ∃ z, z = ((List.replicate 2 (0 : Int64)).set (own_ixm (1 : Int32) (own_spread p1)) (own_pack (own_spread p1) (1 : Int64))) := ⟨_, rfl⟩
        rw [← el105] at G102_4
        have hl106 : l105.length = 2 := by rw [el105, List.length_set]; rfl
        show own_Ends prg e below s _ _ _ T102 (mkF m 102 #[.val (.int p0), .val (.int p1), .val (.int p2), .val (.int p3), .val (.int p4), .val (.int (1 : Int32)), .val (.int (3 : Int32)), .val (.int ((own_ushr p0 (4 : Int32)) &&& (3 : Int32))), .val (.int (2 : Int32)), .val (.int q33), .val (.ref a35), .unset, .unset, .unset, .unset, .unset, .unset, .unset] [])
        refine own_iload (pc' := 104) X102 hx (hb hby at_102) rfl rfl ?_
        refine own_iconst (pc' := 105) (z := (2 : Int32)) X102 hx (hb hby at_104) rfl rfl ?_
        refine own_icmpNo (pc' := 108) X102 hx (hb hby at_105) rfl (flt (by decide)).1 ?_
        refine own_aload (pc' := 110) X102 hx (hb hby at_108) rfl rfl rfl ?_
        refine own_iloadN (pc' := 111) X102 hx (hb hby at_110) rfl rfl ?_
        have f107 := (f100.keep Kq102)
        refine own_callV (pc' := 114) (y := (⟨"com/example/larder/larder/cache/EvictedKeys", "remember", "(I)V"⟩ : MethodName)) (W := 0) (rm := own_room6_1_1) (argsL := [(.int p2)]) (rest := []) (b := a35) (C := "com/example/larder/larder/cache/EvictedKeys") X102 hx hZ rfl hown (by rw [hml]; rfl) f107 (own_w28 hw) (own_w29 hw) (own_w31 hw) (own_w30 hw) (own_w2 hw) (own_w32 hw) (by decide) (own_rm6_1_1 lch Z a0 hw [] a35 p2 b102 bk102 l105 T102.heap n0 f107 G102_1 G102_2 G102_3 ge36 G102_4 hl106 ge103 ne104) (by decide) (by decide) (by decide) (by decide) (lenOf own_pd4 rfl) rfl (by exact Nat.le_of_eq rfl) (hb hby at_111) rfl ?_
        intro T108 Lc108 v108 X108 hQ108
        obtain ⟨rfl, Nq108, Kq108, G108_0, G108_1, G108_2, G108_3⟩ := hQ108
        have N108 := Fr.app N102 Nq108
        obtain ⟨l109, el109⟩ : ∃ z, z = (l105.set (own_ixm (1 : Int32) (own_spread p2)) (own_pack (own_spread p2) (2 : Int64))) := ⟨_, rfl⟩
        rw [← el109] at G108_3
        have hl110 : l109.length = 2 := by rw [el109, List.length_set]; exact hl106
        show own_Ends prg e below s _ _ _ T108 (mkF m 114 #[.val (.int p0), .val (.int p1), .val (.int p2), .val (.int p3), .val (.int p4), .val (.int (1 : Int32)), .val (.int (3 : Int32)), .val (.int ((own_ushr p0 (4 : Int32)) &&& (3 : Int32))), .val (.int (2 : Int32)), .val (.int q33), .val (.ref a35), .unset, .unset, .unset, .unset, .unset, .unset, .unset] [])
        refine own_iload (pc' := 116) X108 hx (hb hby at_114) rfl rfl ?_
        refine own_iconst (pc' := 117) (z := (3 : Int32)) X108 hx (hb hby at_116) rfl rfl ?_
        refine own_icmpNo (pc' := 120) X108 hx (hb hby at_117) rfl (flt (by decide)).1 ?_
        refine own_aload (pc' := 122) X108 hx (hb hby at_120) rfl rfl rfl ?_
        refine own_iloadN (pc' := 123) X108 hx (hb hby at_122) rfl rfl ?_
        have f111 := (f107.keep Kq108)
        refine own_callV (pc' := 126) (y := (⟨"com/example/larder/larder/cache/EvictedKeys", "remember", "(I)V"⟩ : MethodName)) (W := 0) (rm := own_room6_1_2) (argsL := [(.int p3)]) (rest := []) (b := a35) (C := "com/example/larder/larder/cache/EvictedKeys") X108 hx hZ rfl hown (by rw [hml]; rfl) f111 (own_w28 hw) (own_w29 hw) (own_w31 hw) (own_w30 hw) (own_w2 hw) (own_w32 hw) (by decide) (own_rm6_1_2 lch Z a0 hw [] a35 p3 b102 bk102 l109 T108.heap n0 f111 G108_0 G108_1 G108_2 ge36 G108_3 hl110 ge103 ne104) (by decide) (by decide) (by decide) (by decide) (lenOf own_pd4 rfl) rfl (by exact Nat.le_of_eq rfl) (hb hby at_123) rfl ?_
        intro T112 Lc112 v112 X112 hQ112
        obtain ⟨rfl, Nq112, Kq112, G112_0, G112_1, G112_2, G112_3⟩ := hQ112
        have N112 := Fr.app N108 Nq112
        obtain ⟨l113, el113⟩ : ∃ z, z = (l109.set (own_ixm (1 : Int32) (own_spread p3)) (own_pack (own_spread p3) (3 : Int64))) := ⟨_, rfl⟩
        rw [← el113] at G112_3
        have hl114 : l113.length = 2 := by rw [el113, List.length_set]; exact hl110
        show own_Ends prg e below s _ _ _ T112 (mkF m 126 #[.val (.int p0), .val (.int p1), .val (.int p2), .val (.int p3), .val (.int p4), .val (.int (1 : Int32)), .val (.int (3 : Int32)), .val (.int ((own_ushr p0 (4 : Int32)) &&& (3 : Int32))), .val (.int (2 : Int32)), .val (.int q33), .val (.ref a35), .unset, .unset, .unset, .unset, .unset, .unset, .unset] [])
        refine own_aload (pc' := 128) X112 hx (hb hby at_126) rfl rfl rfl ?_
        refine own_iload (pc' := 130) X112 hx (hb hby at_128) rfl rfl ?_
        have f116 := (f111.keep Kq112)
        refine own_callV (pc' := 133) (y := (⟨"com/example/larder/larder/cache/EvictedKeys", "recall", "(I)Z"⟩ : MethodName)) (W := 0) (rm := own_room4_2) (argsL := [(.int q33)]) (rest := []) (b := a35) (C := "com/example/larder/larder/cache/EvictedKeys") X112 hx hZ rfl hown (by rw [hml]; rfl) f116 (own_w16 hw) (own_w17 hw) (own_w19 hw) (own_w18 hw) (own_w2 hw) (own_w20 hw) (by decide) (own_rm4_2 lch Z a0 hw [] a35 q33 b102 bk102 l113 (3 : Int32) (1 : Int32) T112.heap n0 G112_0 G112_1 G112_2 G112_3 hl114 ge103 ne104) (by decide) (by decide) (by decide) (by decide) (lenOf own_pd3 rfl) rfl (by exact Nat.le_of_eq rfl) (hb hby at_130) rfl ?_
        intro T115 Lc115 v115 X115 hQ115
        obtain ⟨rfl, Nq115, Kq115, G115_0⟩ := hQ115
        have N115 := Fr.app N112 Nq115
        have hl117 : (own_rl l113 (1 : Int32) (own_spread q33)).length = 2 := (own_rllen _ _ _).trans hl114
        show own_Ends prg e below s _ _ _ T115 (mkF m 133 #[.val (.int p0), .val (.int p1), .val (.int p2), .val (.int p3), .val (.int p4), .val (.int (1 : Int32)), .val (.int (3 : Int32)), .val (.int ((own_ushr p0 (4 : Int32)) &&& (3 : Int32))), .val (.int (2 : Int32)), .val (.int q33), .val (.ref a35), .unset, .unset, .unset, .unset, .unset, .unset, .unset] [(.int (own_rv l113 (1 : Int32) (own_spread q33) (3 : Int32) (1 : Int32)))])
        refine own_istore (pc' := 135) (l' := #[.val (.int p0), .val (.int p1), .val (.int p2), .val (.int p3), .val (.int p4), .val (.int (1 : Int32)), .val (.int (3 : Int32)), .val (.int ((own_ushr p0 (4 : Int32)) &&& (3 : Int32))), .val (.int (2 : Int32)), .val (.int q33), .val (.ref a35), .val (.int (own_rv l113 (1 : Int32) (own_spread q33) (3 : Int32) (1 : Int32))), .unset, .unset, .unset, .unset, .unset, .unset]) X115 hx (hb hby at_133) rfl rfl ?_
        refine own_aload (pc' := 137) X115 hx (hb hby at_135) rfl rfl rfl ?_
        refine own_iload (pc' := 139) X115 hx (hb hby at_137) rfl rfl ?_
        have f118 := (G112_0.keep Kq115 (ninS ne104 nin0))
        have f119 := (G112_1.keep Kq115 (ninS ne104 nin0))
        have f120 := (G112_2.keep Kq115 (ninS ne104 nin0))
        have f122 := (f116.keep Kq115)
        refine own_callV (pc' := 142) (y := (⟨"com/example/larder/larder/cache/EvictedKeys", "recall", "(I)Z"⟩ : MethodName)) (W := 0) (rm := own_room4_2) (argsL := [(.int q33)]) (rest := []) (b := a35) (C := "com/example/larder/larder/cache/EvictedKeys") X115 hx hZ rfl hown (by rw [hml]; rfl) f122 (own_w16 hw) (own_w17 hw) (own_w19 hw) (own_w18 hw) (own_w2 hw) (own_w20 hw) (by decide) (own_rm4_2 lch Z a0 hw [] a35 q33 b102 bk102 (own_rl l113 (1 : Int32) (own_spread q33)) (3 : Int32) (1 : Int32) T115.heap n0 f118 f119 f120 G115_0 hl117 ge103 ne104) (by decide) (by decide) (by decide) (by decide) (lenOf own_pd3 rfl) rfl (by exact Nat.le_of_eq rfl) (hb hby at_139) rfl ?_
        intro T121 Lc121 v121 X121 hQ121
        obtain ⟨rfl, Nq121, Kq121, G121_0⟩ := hQ121
        have N121 := Fr.app N115 Nq121
        have hl123 : (own_rl (own_rl l113 (1 : Int32) (own_spread q33)) (1 : Int32) (own_spread q33)).length = 2 := (own_rllen _ _ _).trans hl117
        show own_Ends prg e below s _ _ _ T121 (mkF m 142 #[.val (.int p0), .val (.int p1), .val (.int p2), .val (.int p3), .val (.int p4), .val (.int (1 : Int32)), .val (.int (3 : Int32)), .val (.int ((own_ushr p0 (4 : Int32)) &&& (3 : Int32))), .val (.int (2 : Int32)), .val (.int q33), .val (.ref a35), .val (.int (own_rv l113 (1 : Int32) (own_spread q33) (3 : Int32) (1 : Int32))), .unset, .unset, .unset, .unset, .unset, .unset] [(.int (own_rv (own_rl l113 (1 : Int32) (own_spread q33)) (1 : Int32) (own_spread q33) (3 : Int32) (1 : Int32)))])
        refine own_istore (pc' := 144) (l' := #[.val (.int p0), .val (.int p1), .val (.int p2), .val (.int p3), .val (.int p4), .val (.int (1 : Int32)), .val (.int (3 : Int32)), .val (.int ((own_ushr p0 (4 : Int32)) &&& (3 : Int32))), .val (.int (2 : Int32)), .val (.int q33), .val (.ref a35), .val (.int (own_rv l113 (1 : Int32) (own_spread q33) (3 : Int32) (1 : Int32))), .val (.int (own_rv (own_rl l113 (1 : Int32) (own_spread q33)) (1 : Int32) (own_spread q33) (3 : Int32) (1 : Int32))), .unset, .unset, .unset, .unset, .unset]) X121 hx (hb hby at_142) rfl rfl ?_
        refine own_iload (pc' := 146) X121 hx (hb hby at_144) rfl rfl ?_
        refine own_iconst (pc' := 147) (z := (1 : Int32)) X121 hx (hb hby at_146) rfl rfl ?_
        refine own_isub (pc' := 148) (z := (1 : Int32)) X121 hx (hb hby at_147) rfl (by decide) ?_
        refine own_istore (pc' := 150) (l' := #[.val (.int p0), .val (.int p1), .val (.int p2), .val (.int p3), .val (.int p4), .val (.int (1 : Int32)), .val (.int (3 : Int32)), .val (.int ((own_ushr p0 (4 : Int32)) &&& (3 : Int32))), .val (.int (2 : Int32)), .val (.int q33), .val (.ref a35), .val (.int (own_rv l113 (1 : Int32) (own_spread q33) (3 : Int32) (1 : Int32))), .val (.int (own_rv (own_rl l113 (1 : Int32) (own_spread q33)) (1 : Int32) (own_spread q33) (3 : Int32) (1 : Int32))), .val (.int (1 : Int32)), .unset, .unset, .unset, .unset]) X121 hx (hb hby at_148) rfl rfl ?_
        refine own_iload (pc' := 152) X121 hx (hb hby at_150) rfl rfl ?_
        refine own_callS (pc' := 155) (y := (⟨"com/example/larder/larder/cache/UseCounts", "spread", "(I)I"⟩ : MethodName)) (W := 0) (rm := own_room5) (argsL := [(.int q33)]) (rest := []) X121 hx hZ rfl hown (by rw [hml]; rfl) (own_w23 hw) (own_w24 hw) (own_w25 hw) (own_w26 hw) (by decide) (own_rm5 lch Z a0 hw [] q33 T121.heap n0) (by decide) (by decide) (by decide) (by decide) (lenOf own_pd0 rfl) rfl (by exact Nat.le_of_eq rfl) (hb hby at_152) rfl ?_
        intro T124 Lc124 v124 X124 hQ124
        obtain ⟨rfl, Nq124, Kq124⟩ := hQ124
        have N124 := Fr.app N121 Nq124
        show own_Ends prg e below s _ _ _ T124 (mkF m 155 #[.val (.int p0), .val (.int p1), .val (.int p2), .val (.int p3), .val (.int p4), .val (.int (1 : Int32)), .val (.int (3 : Int32)), .val (.int ((own_ushr p0 (4 : Int32)) &&& (3 : Int32))), .val (.int (2 : Int32)), .val (.int q33), .val (.ref a35), .val (.int (own_rv l113 (1 : Int32) (own_spread q33) (3 : Int32) (1 : Int32))), .val (.int (own_rv (own_rl l113 (1 : Int32) (own_spread q33)) (1 : Int32) (own_spread q33) (3 : Int32) (1 : Int32))), .val (.int (1 : Int32)), .unset, .unset, .unset, .unset] [(.int (own_spread q33))])
        refine own_iload (pc' := 157) X124 hx (hb hby at_155) rfl rfl ?_
        refine own_iand (pc' := 158) (z := ((own_spread q33) &&& (1 : Int32))) X124 hx (hb hby at_157) rfl rfl ?_
        refine own_istore (pc' := 160) (l' := #[.val (.int p0), .val (.int p1), .val (.int p2), .val (.int p3), .val (.int p4), .val (.int (1 : Int32)), .val (.int (3 : Int32)), .val (.int ((own_ushr p0 (4 : Int32)) &&& (3 : Int32))), .val (.int (2 : Int32)), .val (.int q33), .val (.ref a35), .val (.int (own_rv l113 (1 : Int32) (own_spread q33) (3 : Int32) (1 : Int32))), .val (.int (own_rv (own_rl l113 (1 : Int32) (own_spread q33)) (1 : Int32) (own_spread q33) (3 : Int32) (1 : Int32))), .val (.int (1 : Int32)), .val (.int ((own_spread q33) &&& (1 : Int32))), .unset, .unset, .unset]) X124 hx (hb hby at_158) rfl rfl ?_
        refine own_iconst (pc' := 161) (z := (0 : Int32)) X124 hx (hb hby at_160) rfl rfl ?_
        refine own_istore (pc' := 163) (l' := #[.val (.int p0), .val (.int p1), .val (.int p2), .val (.int p3), .val (.int p4), .val (.int (1 : Int32)), .val (.int (3 : Int32)), .val (.int ((own_ushr p0 (4 : Int32)) &&& (3 : Int32))), .val (.int (2 : Int32)), .val (.int q33), .val (.ref a35), .val (.int (own_rv l113 (1 : Int32) (own_spread q33) (3 : Int32) (1 : Int32))), .val (.int (own_rv (own_rl l113 (1 : Int32) (own_spread q33)) (1 : Int32) (own_spread q33) (3 : Int32) (1 : Int32))), .val (.int (1 : Int32)), .val (.int ((own_spread q33) &&& (1 : Int32))), .val (.int (0 : Int32)), .unset, .unset]) X124 hx (hb hby at_161) rfl rfl ?_
        refine own_iload (pc' := 165) X124 hx (hb hby at_163) rfl rfl ?_
        refine own_iconst (pc' := 166) (z := (3 : Int32)) X124 hx (hb hby at_165) rfl rfl ?_
        refine own_icmpNo (pc' := 169) X124 hx (hb hby at_166) rfl (flt (by decide)).1 ?_
        refine own_iloadN (pc' := 170) X124 hx (hb hby at_169) rfl rfl ?_
        refine own_callS (pc' := 173) (y := (⟨"com/example/larder/larder/cache/UseCounts", "spread", "(I)I"⟩ : MethodName)) (W := 0) (rm := own_room5) (argsL := [(.int p3)]) (rest := []) X124 hx hZ Kq124 hown (by rw [hml]; rfl) (own_w23 hw) (own_w24 hw) (own_w25 hw) (own_w26 hw) (by decide) (own_rm5 lch Z a0 hw [] p3 T121.heap n0) (by decide) (by decide) (by decide) (by decide) (lenOf own_pd0 rfl) rfl (by exact Nat.le_of_eq rfl) (hb hby at_170) rfl ?_
        intro T125 Lc125 v125 X125 hQ125
        obtain ⟨rfl, Nq125, Kq125⟩ := hQ125
        have N125 := Fr.app N124 Nq125
        show own_Ends prg e below s _ _ _ T125 (mkF m 173 #[.val (.int p0), .val (.int p1), .val (.int p2), .val (.int p3), .val (.int p4), .val (.int (1 : Int32)), .val (.int (3 : Int32)), .val (.int ((own_ushr p0 (4 : Int32)) &&& (3 : Int32))), .val (.int (2 : Int32)), .val (.int q33), .val (.ref a35), .val (.int (own_rv l113 (1 : Int32) (own_spread q33) (3 : Int32) (1 : Int32))), .val (.int (own_rv (own_rl l113 (1 : Int32) (own_spread q33)) (1 : Int32) (own_spread q33) (3 : Int32) (1 : Int32))), .val (.int (1 : Int32)), .val (.int ((own_spread q33) &&& (1 : Int32))), .val (.int (0 : Int32)), .unset, .unset] [(.int (own_spread p3))])
        refine own_iload (pc' := 175) X125 hx (hb hby at_173) rfl rfl ?_
        refine own_iand (pc' := 176) (z := ((own_spread p3) &&& (1 : Int32))) X125 hx (hb hby at_175) rfl rfl ?_
        refine own_iload (pc' := 178) X125 hx (hb hby at_176) rfl rfl ?_
        by_cases hc178_126 : ((own_spread p3) &&& (1 : Int32)) = ((own_spread q33) &&& (1 : Int32))
        · refine own_icmpNo (pc' := 181) X125 hx (hb hby at_178) rfl (teq hc178_126).2 ?_
          refine own_iconst (pc' := 182) (z := (3 : Int32)) X125 hx (hb hby at_181) rfl rfl ?_
          refine own_istore (pc' := 184) (l' := #[.val (.int p0), .val (.int p1), .val (.int p2), .val (.int p3), .val (.int p4), .val (.int (1 : Int32)), .val (.int (3 : Int32)), .val (.int ((own_ushr p0 (4 : Int32)) &&& (3 : Int32))), .val (.int (2 : Int32)), .val (.int q33), .val (.ref a35), .val (.int (own_rv l113 (1 : Int32) (own_spread q33) (3 : Int32) (1 : Int32))), .val (.int (own_rv (own_rl l113 (1 : Int32) (own_spread q33)) (1 : Int32) (own_spread q33) (3 : Int32) (1 : Int32))), .val (.int (1 : Int32)), .val (.int ((own_spread q33) &&& (1 : Int32))), .val (.int (3 : Int32)), .unset, .unset]) X125 hx (hb hby at_182) rfl rfl ?_
          refine own_goto (pc' := 232) X125 hx (hb hby at_184) (by decide) (by decide) ?_
          refine own_iload (pc' := 234) X125 hx (hb hby at_232) rfl rfl ?_
          refine own_iconst (pc' := 235) (z := (3 : Int32)) X125 hx (hb hby at_234) rfl rfl ?_
          refine own_icmpNo (pc' := 238) X125 hx (hb hby at_235) rfl (teq (by decide)).2 ?_
          refine own_iloadN (pc' := 239) X125 hx (hb hby at_238) rfl rfl ?_
          refine own_goto (pc' := 253) X125 hx (hb hby at_239) (by decide) (by decide) ?_
          refine own_istore (pc' := 255) (l' := #[.val (.int p0), .val (.int p1), .val (.int p2), .val (.int p3), .val (.int p4), .val (.int (1 : Int32)), .val (.int (3 : Int32)), .val (.int ((own_ushr p0 (4 : Int32)) &&& (3 : Int32))), .val (.int (2 : Int32)), .val (.int q33), .val (.ref a35), .val (.int (own_rv l113 (1 : Int32) (own_spread q33) (3 : Int32) (1 : Int32))), .val (.int (own_rv (own_rl l113 (1 : Int32) (own_spread q33)) (1 : Int32) (own_spread q33) (3 : Int32) (1 : Int32))), .val (.int (1 : Int32)), .val (.int ((own_spread q33) &&& (1 : Int32))), .val (.int (3 : Int32)), .val (.int p3), .unset]) X125 hx (hb hby at_253) rfl rfl ?_
          refine own_iload (pc' := 257) X125 hx (hb hby at_255) rfl rfl ?_
          refine own_ifNo (pc' := 260) X125 hx (hb hby at_257) rfl (feq (by decide)).1 ?_
          refine own_iload (pc' := 262) X125 hx (hb hby at_260) rfl rfl ?_
          refine own_iload (pc' := 264) X125 hx (hb hby at_262) rfl rfl ?_
          by_cases hc264_127 : p3 = q33
          · refine own_icmpNo (pc' := 267) X125 hx (hb hby at_264) rfl (teq hc264_127).2 ?_
            refine own_iload (pc' := 269) X125 hx (hb hby at_267) rfl rfl ?_
            refine own_iload (pc' := 271) X125 hx (hb hby at_269) rfl rfl ?_
            refine own_isub (pc' := 272) (z := (0 : Int32)) X125 hx (hb hby at_271) rfl (by decide) ?_
            refine own_iload (pc' := 274) X125 hx (hb hby at_272) rfl rfl ?_
            refine own_icmpNo (pc' := 277) X125 hx (hb hby at_274) rfl (tlt (by decide)).2.1 ?_
            refine own_iconst (pc' := 278) (z := (1 : Int32)) X125 hx (hb hby at_277) rfl rfl ?_
            refine own_goto (pc' := 282) X125 hx (hb hby at_278) (by decide) (by decide) ?_
            refine own_istore (pc' := 284) (l' := #[.val (.int p0), .val (.int p1), .val (.int p2), .val (.int p3), .val (.int p4), .val (.int (1 : Int32)), .val (.int (3 : Int32)), .val (.int ((own_ushr p0 (4 : Int32)) &&& (3 : Int32))), .val (.int (2 : Int32)), .val (.int q33), .val (.ref a35), .val (.int (own_rv l113 (1 : Int32) (own_spread q33) (3 : Int32) (1 : Int32))), .val (.int (own_rv (own_rl l113 (1 : Int32) (own_spread q33)) (1 : Int32) (own_spread q33) (3 : Int32) (1 : Int32))), .val (.int (1 : Int32)), .val (.int ((own_spread q33) &&& (1 : Int32))), .val (.int (3 : Int32)), .val (.int p3), .val (.int (1 : Int32))]) X125 hx (hb hby at_282) rfl rfl ?_
            refine own_iload (pc' := 286) X125 hx (hb hby at_284) rfl rfl ?_
            refine own_iload (pc' := 288) X125 hx (hb hby at_286) rfl rfl ?_
            have sl128 : own_slot l113 (1 : Int32) (own_spread q33) = own_pack (own_spread p3) (3 : Int64) := by
              rw [el113, el109, el105]
              exact (own_slE (Or.inl ⟨rfl, rfl⟩) (by simp) hc178_126)
            refine own_icmpNo (pc' := 291) X125 hx (hb hby at_288) rfl (teq ((own_hitv (i := 3) sl128 (by decide) (by decide)).trans ((if_pos hc264_127).trans (by decide)))).2 ?_
            refine own_iload (pc' := 293) X125 hx (hb hby at_291) rfl rfl ?_
            refine own_ifNo (pc' := 296) X125 hx (hb hby at_293) rfl (teq (own_second (Or.inl ⟨rfl, rfl⟩) hl114)).2 ?_
            refine own_iconst (pc' := 297) (z := (1 : Int32)) X125 hx (hb hby at_296) rfl rfl ?_
            refine own_goto (pc' := 301) X125 hx (hb hby at_297) (by decide) (by decide) ?_
            refine own_retN X125 hx hlk hret (by simp) (hb hby at_301) (by decide) (by decide) ?_
            exact ⟨rfl, N125⟩
          · refine own_icmpYes (pc' := 281) X125 hx (hb hby at_264) (feq hc264_127).2 (by decide) (by decide) ?_
            refine own_iconst (pc' := 282) (z := (0 : Int32)) X125 hx (hb hby at_281) rfl rfl ?_
            refine own_istore (pc' := 284) (l' := #[.val (.int p0), .val (.int p1), .val (.int p2), .val (.int p3), .val (.int p4), .val (.int (1 : Int32)), .val (.int (3 : Int32)), .val (.int ((own_ushr p0 (4 : Int32)) &&& (3 : Int32))), .val (.int (2 : Int32)), .val (.int q33), .val (.ref a35), .val (.int (own_rv l113 (1 : Int32) (own_spread q33) (3 : Int32) (1 : Int32))), .val (.int (own_rv (own_rl l113 (1 : Int32) (own_spread q33)) (1 : Int32) (own_spread q33) (3 : Int32) (1 : Int32))), .val (.int (1 : Int32)), .val (.int ((own_spread q33) &&& (1 : Int32))), .val (.int (3 : Int32)), .val (.int p3), .val (.int (0 : Int32))]) X125 hx (hb hby at_282) rfl rfl ?_
            refine own_iload (pc' := 286) X125 hx (hb hby at_284) rfl rfl ?_
            refine own_iload (pc' := 288) X125 hx (hb hby at_286) rfl rfl ?_
            have sl129 : own_slot l113 (1 : Int32) (own_spread q33) = own_pack (own_spread p3) (3 : Int64) := by
              rw [el113, el109, el105]
              exact (own_slE (Or.inl ⟨rfl, rfl⟩) (by simp) hc178_126)
            refine own_icmpNo (pc' := 291) X125 hx (hb hby at_288) rfl (teq ((own_hitv (i := 3) sl129 (by decide) (by decide)).trans (if_neg hc264_127))).2 ?_
            refine own_iload (pc' := 293) X125 hx (hb hby at_291) rfl rfl ?_
            refine own_ifNo (pc' := 296) X125 hx (hb hby at_293) rfl (teq (own_second (Or.inl ⟨rfl, rfl⟩) hl114)).2 ?_
            refine own_iconst (pc' := 297) (z := (1 : Int32)) X125 hx (hb hby at_296) rfl rfl ?_
            refine own_goto (pc' := 301) X125 hx (hb hby at_297) (by decide) (by decide) ?_
            refine own_retN X125 hx hlk hret (by simp) (hb hby at_301) (by decide) (by decide) ?_
            exact ⟨rfl, N125⟩
        · refine own_icmpYes (pc' := 187) X125 hx (hb hby at_178) (feq hc178_126).2 (by decide) (by decide) ?_
          refine own_iload (pc' := 189) X125 hx (hb hby at_187) rfl rfl ?_
          refine own_iconst (pc' := 190) (z := (2 : Int32)) X125 hx (hb hby at_189) rfl rfl ?_
          refine own_icmpNo (pc' := 193) X125 hx (hb hby at_190) rfl (flt (by decide)).1 ?_
          refine own_iloadN (pc' := 194) X125 hx (hb hby at_193) rfl rfl ?_
          refine own_callS (pc' := 197) (y := (⟨"com/example/larder/larder/cache/UseCounts", "spread", "(I)I"⟩ : MethodName)) (W := 0) (rm := own_room5) (argsL := [(.int p2)]) (rest := []) X125 hx hZ Kq125 hown (by rw [hml]; rfl) (own_w23 hw) (own_w24 hw) (own_w25 hw) (own_w26 hw) (by decide) (own_rm5 lch Z a0 hw [] p2 T121.heap n0) (by decide) (by decide) (by decide) (by decide) (lenOf own_pd0 rfl) rfl (by exact Nat.le_of_eq rfl) (hb hby at_194) rfl ?_
          intro T130 Lc130 v130 X130 hQ130
          obtain ⟨rfl, Nq130, Kq130⟩ := hQ130
          have N130 := Fr.app N125 Nq130
          show own_Ends prg e below s _ _ _ T130 (mkF m 197 #[.val (.int p0), .val (.int p1), .val (.int p2), .val (.int p3), .val (.int p4), .val (.int (1 : Int32)), .val (.int (3 : Int32)), .val (.int ((own_ushr p0 (4 : Int32)) &&& (3 : Int32))), .val (.int (2 : Int32)), .val (.int q33), .val (.ref a35), .val (.int (own_rv l113 (1 : Int32) (own_spread q33) (3 : Int32) (1 : Int32))), .val (.int (own_rv (own_rl l113 (1 : Int32) (own_spread q33)) (1 : Int32) (own_spread q33) (3 : Int32) (1 : Int32))), .val (.int (1 : Int32)), .val (.int ((own_spread q33) &&& (1 : Int32))), .val (.int (0 : Int32)), .unset, .unset] [(.int (own_spread p2))])
          refine own_iload (pc' := 199) X130 hx (hb hby at_197) rfl rfl ?_
          refine own_iand (pc' := 200) (z := ((own_spread p2) &&& (1 : Int32))) X130 hx (hb hby at_199) rfl rfl ?_
          refine own_iload (pc' := 202) X130 hx (hb hby at_200) rfl rfl ?_
          by_cases hc202_131 : ((own_spread p2) &&& (1 : Int32)) = ((own_spread q33) &&& (1 : Int32))
          · refine own_icmpNo (pc' := 205) X130 hx (hb hby at_202) rfl (teq hc202_131).2 ?_
            refine own_iconst (pc' := 206) (z := (2 : Int32)) X130 hx (hb hby at_205) rfl rfl ?_
            refine own_istore (pc' := 208) (l' := #[.val (.int p0), .val (.int p1), .val (.int p2), .val (.int p3), .val (.int p4), .val (.int (1 : Int32)), .val (.int (3 : Int32)), .val (.int ((own_ushr p0 (4 : Int32)) &&& (3 : Int32))), .val (.int (2 : Int32)), .val (.int q33), .val (.ref a35), .val (.int (own_rv l113 (1 : Int32) (own_spread q33) (3 : Int32) (1 : Int32))), .val (.int (own_rv (own_rl l113 (1 : Int32) (own_spread q33)) (1 : Int32) (own_spread q33) (3 : Int32) (1 : Int32))), .val (.int (1 : Int32)), .val (.int ((own_spread q33) &&& (1 : Int32))), .val (.int (2 : Int32)), .unset, .unset]) X130 hx (hb hby at_206) rfl rfl ?_
            refine own_goto (pc' := 232) X130 hx (hb hby at_208) (by decide) (by decide) ?_
            refine own_iload (pc' := 234) X130 hx (hb hby at_232) rfl rfl ?_
            refine own_iconst (pc' := 235) (z := (3 : Int32)) X130 hx (hb hby at_234) rfl rfl ?_
            refine own_icmpYes (pc' := 242) X130 hx (hb hby at_235) (feq (by decide)).2 (by decide) (by decide) ?_
            refine own_iload (pc' := 244) X130 hx (hb hby at_242) rfl rfl ?_
            refine own_iconst (pc' := 245) (z := (2 : Int32)) X130 hx (hb hby at_244) rfl rfl ?_
            refine own_icmpNo (pc' := 248) X130 hx (hb hby at_245) rfl (teq (by decide)).2 ?_
            refine own_iloadN (pc' := 249) X130 hx (hb hby at_248) rfl rfl ?_
            refine own_goto (pc' := 253) X130 hx (hb hby at_249) (by decide) (by decide) ?_
            refine own_istore (pc' := 255) (l' := #[.val (.int p0), .val (.int p1), .val (.int p2), .val (.int p3), .val (.int p4), .val (.int (1 : Int32)), .val (.int (3 : Int32)), .val (.int ((own_ushr p0 (4 : Int32)) &&& (3 : Int32))), .val (.int (2 : Int32)), .val (.int q33), .val (.ref a35), .val (.int (own_rv l113 (1 : Int32) (own_spread q33) (3 : Int32) (1 : Int32))), .val (.int (own_rv (own_rl l113 (1 : Int32) (own_spread q33)) (1 : Int32) (own_spread q33) (3 : Int32) (1 : Int32))), .val (.int (1 : Int32)), .val (.int ((own_spread q33) &&& (1 : Int32))), .val (.int (2 : Int32)), .val (.int p2), .unset]) X130 hx (hb hby at_253) rfl rfl ?_
            refine own_iload (pc' := 257) X130 hx (hb hby at_255) rfl rfl ?_
            refine own_ifNo (pc' := 260) X130 hx (hb hby at_257) rfl (feq (by decide)).1 ?_
            refine own_iload (pc' := 262) X130 hx (hb hby at_260) rfl rfl ?_
            refine own_iload (pc' := 264) X130 hx (hb hby at_262) rfl rfl ?_
            by_cases hc264_132 : p2 = q33
            · refine own_icmpNo (pc' := 267) X130 hx (hb hby at_264) rfl (teq hc264_132).2 ?_
              refine own_iload (pc' := 269) X130 hx (hb hby at_267) rfl rfl ?_
              refine own_iload (pc' := 271) X130 hx (hb hby at_269) rfl rfl ?_
              refine own_isub (pc' := 272) (z := (1 : Int32)) X130 hx (hb hby at_271) rfl (by decide) ?_
              refine own_iload (pc' := 274) X130 hx (hb hby at_272) rfl rfl ?_
              refine own_icmpYes (pc' := 281) X130 hx (hb hby at_274) (flt (by decide)).2.1 (by decide) (by decide) ?_
              refine own_iconst (pc' := 282) (z := (0 : Int32)) X130 hx (hb hby at_281) rfl rfl ?_
              refine own_istore (pc' := 284) (l' := #[.val (.int p0), .val (.int p1), .val (.int p2), .val (.int p3), .val (.int p4), .val (.int (1 : Int32)), .val (.int (3 : Int32)), .val (.int ((own_ushr p0 (4 : Int32)) &&& (3 : Int32))), .val (.int (2 : Int32)), .val (.int q33), .val (.ref a35), .val (.int (own_rv l113 (1 : Int32) (own_spread q33) (3 : Int32) (1 : Int32))), .val (.int (own_rv (own_rl l113 (1 : Int32) (own_spread q33)) (1 : Int32) (own_spread q33) (3 : Int32) (1 : Int32))), .val (.int (1 : Int32)), .val (.int ((own_spread q33) &&& (1 : Int32))), .val (.int (2 : Int32)), .val (.int p2), .val (.int (0 : Int32))]) X130 hx (hb hby at_282) rfl rfl ?_
              refine own_iload (pc' := 286) X130 hx (hb hby at_284) rfl rfl ?_
              refine own_iload (pc' := 288) X130 hx (hb hby at_286) rfl rfl ?_
              have sl133 : own_slot l113 (1 : Int32) (own_spread q33) = own_pack (own_spread p2) (2 : Int64) := by
                rw [el113, el109, el105]
                exact ((own_slN (Or.inl ⟨rfl, rfl⟩) (by simp) hc178_126).trans (own_slE (Or.inl ⟨rfl, rfl⟩) (by simp) hc202_131))
              refine own_icmpNo (pc' := 291) X130 hx (hb hby at_288) rfl (teq ((own_hitv (i := 2) sl133 (by decide) (by decide)).trans ((if_pos hc264_132).trans (by decide)))).2 ?_
              refine own_iload (pc' := 293) X130 hx (hb hby at_291) rfl rfl ?_
              refine own_ifNo (pc' := 296) X130 hx (hb hby at_293) rfl (teq (own_second (Or.inl ⟨rfl, rfl⟩) hl114)).2 ?_
              refine own_iconst (pc' := 297) (z := (1 : Int32)) X130 hx (hb hby at_296) rfl rfl ?_
              refine own_goto (pc' := 301) X130 hx (hb hby at_297) (by decide) (by decide) ?_
              refine own_retN X130 hx hlk hret (by simp) (hb hby at_301) (by decide) (by decide) ?_
              exact ⟨rfl, N130⟩
            · refine own_icmpYes (pc' := 281) X130 hx (hb hby at_264) (feq hc264_132).2 (by decide) (by decide) ?_
              refine own_iconst (pc' := 282) (z := (0 : Int32)) X130 hx (hb hby at_281) rfl rfl ?_
              refine own_istore (pc' := 284) (l' := #[.val (.int p0), .val (.int p1), .val (.int p2), .val (.int p3), .val (.int p4), .val (.int (1 : Int32)), .val (.int (3 : Int32)), .val (.int ((own_ushr p0 (4 : Int32)) &&& (3 : Int32))), .val (.int (2 : Int32)), .val (.int q33), .val (.ref a35), .val (.int (own_rv l113 (1 : Int32) (own_spread q33) (3 : Int32) (1 : Int32))), .val (.int (own_rv (own_rl l113 (1 : Int32) (own_spread q33)) (1 : Int32) (own_spread q33) (3 : Int32) (1 : Int32))), .val (.int (1 : Int32)), .val (.int ((own_spread q33) &&& (1 : Int32))), .val (.int (2 : Int32)), .val (.int p2), .val (.int (0 : Int32))]) X130 hx (hb hby at_282) rfl rfl ?_
              refine own_iload (pc' := 286) X130 hx (hb hby at_284) rfl rfl ?_
              refine own_iload (pc' := 288) X130 hx (hb hby at_286) rfl rfl ?_
              have sl134 : own_slot l113 (1 : Int32) (own_spread q33) = own_pack (own_spread p2) (2 : Int64) := by
                rw [el113, el109, el105]
                exact ((own_slN (Or.inl ⟨rfl, rfl⟩) (by simp) hc178_126).trans (own_slE (Or.inl ⟨rfl, rfl⟩) (by simp) hc202_131))
              refine own_icmpNo (pc' := 291) X130 hx (hb hby at_288) rfl (teq ((own_hitv (i := 2) sl134 (by decide) (by decide)).trans (if_neg hc264_132))).2 ?_
              refine own_iload (pc' := 293) X130 hx (hb hby at_291) rfl rfl ?_
              refine own_ifNo (pc' := 296) X130 hx (hb hby at_293) rfl (teq (own_second (Or.inl ⟨rfl, rfl⟩) hl114)).2 ?_
              refine own_iconst (pc' := 297) (z := (1 : Int32)) X130 hx (hb hby at_296) rfl rfl ?_
              refine own_goto (pc' := 301) X130 hx (hb hby at_297) (by decide) (by decide) ?_
              refine own_retN X130 hx hlk hret (by simp) (hb hby at_301) (by decide) (by decide) ?_
              exact ⟨rfl, N130⟩
          · refine own_icmpYes (pc' := 211) X130 hx (hb hby at_202) (feq hc202_131).2 (by decide) (by decide) ?_
            refine own_iload (pc' := 213) X130 hx (hb hby at_211) rfl rfl ?_
            refine own_iconst (pc' := 214) (z := (1 : Int32)) X130 hx (hb hby at_213) rfl rfl ?_
            refine own_icmpNo (pc' := 217) X130 hx (hb hby at_214) rfl (flt (by decide)).1 ?_
            refine own_iloadN (pc' := 218) X130 hx (hb hby at_217) rfl rfl ?_
            refine own_callS (pc' := 221) (y := (⟨"com/example/larder/larder/cache/UseCounts", "spread", "(I)I"⟩ : MethodName)) (W := 0) (rm := own_room5) (argsL := [(.int p1)]) (rest := []) X130 hx hZ Kq130 hown (by rw [hml]; rfl) (own_w23 hw) (own_w24 hw) (own_w25 hw) (own_w26 hw) (by decide) (own_rm5 lch Z a0 hw [] p1 T121.heap n0) (by decide) (by decide) (by decide) (by decide) (lenOf own_pd0 rfl) rfl (by exact Nat.le_of_eq rfl) (hb hby at_218) rfl ?_
            intro T135 Lc135 v135 X135 hQ135
            obtain ⟨rfl, Nq135, Kq135⟩ := hQ135
            have N135 := Fr.app N130 Nq135
            show own_Ends prg e below s _ _ _ T135 (mkF m 221 #[.val (.int p0), .val (.int p1), .val (.int p2), .val (.int p3), .val (.int p4), .val (.int (1 : Int32)), .val (.int (3 : Int32)), .val (.int ((own_ushr p0 (4 : Int32)) &&& (3 : Int32))), .val (.int (2 : Int32)), .val (.int q33), .val (.ref a35), .val (.int (own_rv l113 (1 : Int32) (own_spread q33) (3 : Int32) (1 : Int32))), .val (.int (own_rv (own_rl l113 (1 : Int32) (own_spread q33)) (1 : Int32) (own_spread q33) (3 : Int32) (1 : Int32))), .val (.int (1 : Int32)), .val (.int ((own_spread q33) &&& (1 : Int32))), .val (.int (0 : Int32)), .unset, .unset] [(.int (own_spread p1))])
            refine own_iload (pc' := 223) X135 hx (hb hby at_221) rfl rfl ?_
            refine own_iand (pc' := 224) (z := ((own_spread p1) &&& (1 : Int32))) X135 hx (hb hby at_223) rfl rfl ?_
            refine own_iload (pc' := 226) X135 hx (hb hby at_224) rfl rfl ?_
            by_cases hc226_136 : ((own_spread p1) &&& (1 : Int32)) = ((own_spread q33) &&& (1 : Int32))
            · refine own_icmpNo (pc' := 229) X135 hx (hb hby at_226) rfl (teq hc226_136).2 ?_
              refine own_iconst (pc' := 230) (z := (1 : Int32)) X135 hx (hb hby at_229) rfl rfl ?_
              refine own_istore (pc' := 232) (l' := #[.val (.int p0), .val (.int p1), .val (.int p2), .val (.int p3), .val (.int p4), .val (.int (1 : Int32)), .val (.int (3 : Int32)), .val (.int ((own_ushr p0 (4 : Int32)) &&& (3 : Int32))), .val (.int (2 : Int32)), .val (.int q33), .val (.ref a35), .val (.int (own_rv l113 (1 : Int32) (own_spread q33) (3 : Int32) (1 : Int32))), .val (.int (own_rv (own_rl l113 (1 : Int32) (own_spread q33)) (1 : Int32) (own_spread q33) (3 : Int32) (1 : Int32))), .val (.int (1 : Int32)), .val (.int ((own_spread q33) &&& (1 : Int32))), .val (.int (1 : Int32)), .unset, .unset]) X135 hx (hb hby at_230) rfl rfl ?_
              refine own_iload (pc' := 234) X135 hx (hb hby at_232) rfl rfl ?_
              refine own_iconst (pc' := 235) (z := (3 : Int32)) X135 hx (hb hby at_234) rfl rfl ?_
              refine own_icmpYes (pc' := 242) X135 hx (hb hby at_235) (feq (by decide)).2 (by decide) (by decide) ?_
              refine own_iload (pc' := 244) X135 hx (hb hby at_242) rfl rfl ?_
              refine own_iconst (pc' := 245) (z := (2 : Int32)) X135 hx (hb hby at_244) rfl rfl ?_
              refine own_icmpYes (pc' := 252) X135 hx (hb hby at_245) (feq (by decide)).2 (by decide) (by decide) ?_
              refine own_iloadN (pc' := 253) X135 hx (hb hby at_252) rfl rfl ?_
              refine own_istore (pc' := 255) (l' := #[.val (.int p0), .val (.int p1), .val (.int p2), .val (.int p3), .val (.int p4), .val (.int (1 : Int32)), .val (.int (3 : Int32)), .val (.int ((own_ushr p0 (4 : Int32)) &&& (3 : Int32))), .val (.int (2 : Int32)), .val (.int q33), .val (.ref a35), .val (.int (own_rv l113 (1 : Int32) (own_spread q33) (3 : Int32) (1 : Int32))), .val (.int (own_rv (own_rl l113 (1 : Int32) (own_spread q33)) (1 : Int32) (own_spread q33) (3 : Int32) (1 : Int32))), .val (.int (1 : Int32)), .val (.int ((own_spread q33) &&& (1 : Int32))), .val (.int (1 : Int32)), .val (.int p1), .unset]) X135 hx (hb hby at_253) rfl rfl ?_
              refine own_iload (pc' := 257) X135 hx (hb hby at_255) rfl rfl ?_
              refine own_ifNo (pc' := 260) X135 hx (hb hby at_257) rfl (feq (by decide)).1 ?_
              refine own_iload (pc' := 262) X135 hx (hb hby at_260) rfl rfl ?_
              refine own_iload (pc' := 264) X135 hx (hb hby at_262) rfl rfl ?_
              by_cases hc264_137 : p1 = q33
              · refine own_icmpNo (pc' := 267) X135 hx (hb hby at_264) rfl (teq hc264_137).2 ?_
                refine own_iload (pc' := 269) X135 hx (hb hby at_267) rfl rfl ?_
                refine own_iload (pc' := 271) X135 hx (hb hby at_269) rfl rfl ?_
                refine own_isub (pc' := 272) (z := (2 : Int32)) X135 hx (hb hby at_271) rfl (by decide) ?_
                refine own_iload (pc' := 274) X135 hx (hb hby at_272) rfl rfl ?_
                refine own_icmpYes (pc' := 281) X135 hx (hb hby at_274) (flt (by decide)).2.1 (by decide) (by decide) ?_
                refine own_iconst (pc' := 282) (z := (0 : Int32)) X135 hx (hb hby at_281) rfl rfl ?_
                refine own_istore (pc' := 284) (l' := #[.val (.int p0), .val (.int p1), .val (.int p2), .val (.int p3), .val (.int p4), .val (.int (1 : Int32)), .val (.int (3 : Int32)), .val (.int ((own_ushr p0 (4 : Int32)) &&& (3 : Int32))), .val (.int (2 : Int32)), .val (.int q33), .val (.ref a35), .val (.int (own_rv l113 (1 : Int32) (own_spread q33) (3 : Int32) (1 : Int32))), .val (.int (own_rv (own_rl l113 (1 : Int32) (own_spread q33)) (1 : Int32) (own_spread q33) (3 : Int32) (1 : Int32))), .val (.int (1 : Int32)), .val (.int ((own_spread q33) &&& (1 : Int32))), .val (.int (1 : Int32)), .val (.int p1), .val (.int (0 : Int32))]) X135 hx (hb hby at_282) rfl rfl ?_
                refine own_iload (pc' := 286) X135 hx (hb hby at_284) rfl rfl ?_
                refine own_iload (pc' := 288) X135 hx (hb hby at_286) rfl rfl ?_
                have sl138 : own_slot l113 (1 : Int32) (own_spread q33) = own_pack (own_spread p1) (1 : Int64) := by
                  rw [el113, el109, el105]
                  exact ((own_slN (Or.inl ⟨rfl, rfl⟩) (by simp) hc178_126).trans ((own_slN (Or.inl ⟨rfl, rfl⟩) (by simp) hc202_131).trans (own_slE (Or.inl ⟨rfl, rfl⟩) (List.length_replicate) hc226_136)))
                refine own_icmpNo (pc' := 291) X135 hx (hb hby at_288) rfl (teq ((own_hitv (i := 1) sl138 (by decide) (by decide)).trans ((if_pos hc264_137).trans (by decide)))).2 ?_
                refine own_iload (pc' := 293) X135 hx (hb hby at_291) rfl rfl ?_
                refine own_ifNo (pc' := 296) X135 hx (hb hby at_293) rfl (teq (own_second (Or.inl ⟨rfl, rfl⟩) hl114)).2 ?_
                refine own_iconst (pc' := 297) (z := (1 : Int32)) X135 hx (hb hby at_296) rfl rfl ?_
                refine own_goto (pc' := 301) X135 hx (hb hby at_297) (by decide) (by decide) ?_
                refine own_retN X135 hx hlk hret (by simp) (hb hby at_301) (by decide) (by decide) ?_
                exact ⟨rfl, N135⟩
              · refine own_icmpYes (pc' := 281) X135 hx (hb hby at_264) (feq hc264_137).2 (by decide) (by decide) ?_
                refine own_iconst (pc' := 282) (z := (0 : Int32)) X135 hx (hb hby at_281) rfl rfl ?_
                refine own_istore (pc' := 284) (l' := #[.val (.int p0), .val (.int p1), .val (.int p2), .val (.int p3), .val (.int p4), .val (.int (1 : Int32)), .val (.int (3 : Int32)), .val (.int ((own_ushr p0 (4 : Int32)) &&& (3 : Int32))), .val (.int (2 : Int32)), .val (.int q33), .val (.ref a35), .val (.int (own_rv l113 (1 : Int32) (own_spread q33) (3 : Int32) (1 : Int32))), .val (.int (own_rv (own_rl l113 (1 : Int32) (own_spread q33)) (1 : Int32) (own_spread q33) (3 : Int32) (1 : Int32))), .val (.int (1 : Int32)), .val (.int ((own_spread q33) &&& (1 : Int32))), .val (.int (1 : Int32)), .val (.int p1), .val (.int (0 : Int32))]) X135 hx (hb hby at_282) rfl rfl ?_
                refine own_iload (pc' := 286) X135 hx (hb hby at_284) rfl rfl ?_
                refine own_iload (pc' := 288) X135 hx (hb hby at_286) rfl rfl ?_
                have sl139 : own_slot l113 (1 : Int32) (own_spread q33) = own_pack (own_spread p1) (1 : Int64) := by
                  rw [el113, el109, el105]
                  exact ((own_slN (Or.inl ⟨rfl, rfl⟩) (by simp) hc178_126).trans ((own_slN (Or.inl ⟨rfl, rfl⟩) (by simp) hc202_131).trans (own_slE (Or.inl ⟨rfl, rfl⟩) (List.length_replicate) hc226_136)))
                refine own_icmpNo (pc' := 291) X135 hx (hb hby at_288) rfl (teq ((own_hitv (i := 1) sl139 (by decide) (by decide)).trans (if_neg hc264_137))).2 ?_
                refine own_iload (pc' := 293) X135 hx (hb hby at_291) rfl rfl ?_
                refine own_ifNo (pc' := 296) X135 hx (hb hby at_293) rfl (teq (own_second (Or.inl ⟨rfl, rfl⟩) hl114)).2 ?_
                refine own_iconst (pc' := 297) (z := (1 : Int32)) X135 hx (hb hby at_296) rfl rfl ?_
                refine own_goto (pc' := 301) X135 hx (hb hby at_297) (by decide) (by decide) ?_
                refine own_retN X135 hx hlk hret (by simp) (hb hby at_301) (by decide) (by decide) ?_
                exact ⟨rfl, N135⟩
            · refine own_icmpYes (pc' := 232) X135 hx (hb hby at_226) (feq hc226_136).2 (by decide) (by decide) ?_
              refine own_iload (pc' := 234) X135 hx (hb hby at_232) rfl rfl ?_
              refine own_iconst (pc' := 235) (z := (3 : Int32)) X135 hx (hb hby at_234) rfl rfl ?_
              refine own_icmpYes (pc' := 242) X135 hx (hb hby at_235) (feq (by decide)).2 (by decide) (by decide) ?_
              refine own_iload (pc' := 244) X135 hx (hb hby at_242) rfl rfl ?_
              refine own_iconst (pc' := 245) (z := (2 : Int32)) X135 hx (hb hby at_244) rfl rfl ?_
              refine own_icmpYes (pc' := 252) X135 hx (hb hby at_245) (feq (by decide)).2 (by decide) (by decide) ?_
              refine own_iloadN (pc' := 253) X135 hx (hb hby at_252) rfl rfl ?_
              refine own_istore (pc' := 255) (l' := #[.val (.int p0), .val (.int p1), .val (.int p2), .val (.int p3), .val (.int p4), .val (.int (1 : Int32)), .val (.int (3 : Int32)), .val (.int ((own_ushr p0 (4 : Int32)) &&& (3 : Int32))), .val (.int (2 : Int32)), .val (.int q33), .val (.ref a35), .val (.int (own_rv l113 (1 : Int32) (own_spread q33) (3 : Int32) (1 : Int32))), .val (.int (own_rv (own_rl l113 (1 : Int32) (own_spread q33)) (1 : Int32) (own_spread q33) (3 : Int32) (1 : Int32))), .val (.int (1 : Int32)), .val (.int ((own_spread q33) &&& (1 : Int32))), .val (.int (0 : Int32)), .val (.int p1), .unset]) X135 hx (hb hby at_253) rfl rfl ?_
              refine own_iload (pc' := 257) X135 hx (hb hby at_255) rfl rfl ?_
              refine own_ifYes (pc' := 281) X135 hx (hb hby at_257) (teq (by decide)).1 (by decide) (by decide) ?_
              refine own_iconst (pc' := 282) (z := (0 : Int32)) X135 hx (hb hby at_281) rfl rfl ?_
              refine own_istore (pc' := 284) (l' := #[.val (.int p0), .val (.int p1), .val (.int p2), .val (.int p3), .val (.int p4), .val (.int (1 : Int32)), .val (.int (3 : Int32)), .val (.int ((own_ushr p0 (4 : Int32)) &&& (3 : Int32))), .val (.int (2 : Int32)), .val (.int q33), .val (.ref a35), .val (.int (own_rv l113 (1 : Int32) (own_spread q33) (3 : Int32) (1 : Int32))), .val (.int (own_rv (own_rl l113 (1 : Int32) (own_spread q33)) (1 : Int32) (own_spread q33) (3 : Int32) (1 : Int32))), .val (.int (1 : Int32)), .val (.int ((own_spread q33) &&& (1 : Int32))), .val (.int (0 : Int32)), .val (.int p1), .val (.int (0 : Int32))]) X135 hx (hb hby at_282) rfl rfl ?_
              refine own_iload (pc' := 286) X135 hx (hb hby at_284) rfl rfl ?_
              refine own_iload (pc' := 288) X135 hx (hb hby at_286) rfl rfl ?_
              have sl140 : own_slot l113 (1 : Int32) (own_spread q33) = 0 := by
                rw [el113, el109, el105]
                exact ((own_slN (Or.inl ⟨rfl, rfl⟩) (by simp) hc178_126).trans ((own_slN (Or.inl ⟨rfl, rfl⟩) (by simp) hc202_131).trans ((own_slN (Or.inl ⟨rfl, rfl⟩) (List.length_replicate) hc226_136).trans (own_sl0 _ _ _))))
              refine own_icmpNo (pc' := 291) X135 hx (hb hby at_288) rfl (teq (own_miss sl140)).2 ?_
              refine own_iload (pc' := 293) X135 hx (hb hby at_291) rfl rfl ?_
              refine own_ifNo (pc' := 296) X135 hx (hb hby at_293) rfl (teq (own_second (Or.inl ⟨rfl, rfl⟩) hl114)).2 ?_
              refine own_iconst (pc' := 297) (z := (1 : Int32)) X135 hx (hb hby at_296) rfl rfl ?_
              refine own_goto (pc' := 301) X135 hx (hb hby at_297) (by decide) (by decide) ?_
              refine own_retN X135 hx hlk hret (by simp) (hb hby at_301) (by decide) (by decide) ?_
              exact ⟨rfl, N135⟩
    refine own_iload (pc' := 47) X0 hx (hb hby at_45) rfl rfl ?_
    by_cases hc47_141 : ((own_ushr p0 (4 : Int32)) &&& (3 : Int32)) = (0 : Int32)
    · refine own_ifNo (pc' := 50) X0 hx (hb hby at_47) rfl (teq hc47_141).2 ?_
      refine own_iload (pc' := 52) X0 hx (hb hby at_50) rfl rfl ?_
      refine own_goto (pc' := 76) X0 hx (hb hby at_52) (by decide) (by decide) ?_
      exact K34 _
    · refine own_ifYes (pc' := 55) X0 hx (hb hby at_47) (feq hc47_141).2 (by decide) (by decide) ?_
      refine own_iload (pc' := 57) X0 hx (hb hby at_55) rfl rfl ?_
      refine own_iconst (pc' := 58) (z := (1 : Int32)) X0 hx (hb hby at_57) rfl rfl ?_
      by_cases hc58_142 : ((own_ushr p0 (4 : Int32)) &&& (3 : Int32)) = (1 : Int32)
      · refine own_icmpNo (pc' := 61) X0 hx (hb hby at_58) rfl (teq hc58_142).2 ?_
        refine own_iloadN (pc' := 62) X0 hx (hb hby at_61) rfl rfl ?_
        refine own_goto (pc' := 76) X0 hx (hb hby at_62) (by decide) (by decide) ?_
        exact K34 _
      · refine own_icmpYes (pc' := 65) X0 hx (hb hby at_58) (feq hc58_142).2 (by decide) (by decide) ?_
        refine own_iload (pc' := 67) X0 hx (hb hby at_65) rfl rfl ?_
        refine own_iconst (pc' := 68) (z := (2 : Int32)) X0 hx (hb hby at_67) rfl rfl ?_
        by_cases hc68_143 : ((own_ushr p0 (4 : Int32)) &&& (3 : Int32)) = (2 : Int32)
        · refine own_icmpNo (pc' := 71) X0 hx (hb hby at_68) rfl (teq hc68_143).2 ?_
          refine own_iloadN (pc' := 72) X0 hx (hb hby at_71) rfl rfl ?_
          refine own_goto (pc' := 76) X0 hx (hb hby at_72) (by decide) (by decide) ?_
          exact K34 _
        · refine own_icmpYes (pc' := 75) X0 hx (hb hby at_68) (feq hc68_143).2 (by decide) (by decide) ?_
          refine own_iloadN (pc' := 76) X0 hx (hb hby at_75) rfl rfl ?_
          exact K34 _
  · refine own_iload (pc' := 23) X0 hx (hb hby at_21) rfl rfl ?_
    refine own_iconst (pc' := 24) (z := (1 : Int32)) X0 hx (hb hby at_23) rfl rfl ?_
    refine own_icmpYes (pc' := 31) X0 hx (hb hby at_24) (feq (by decide)).2 (by decide) (by decide) ?_
    refine own_iload (pc' := 33) X0 hx (hb hby at_31) rfl rfl ?_
    refine own_iconst (pc' := 34) (z := (2 : Int32)) X0 hx (hb hby at_33) rfl rfl ?_
    refine own_icmpNo (pc' := 37) X0 hx (hb hby at_34) rfl (teq (by decide)).2 ?_
    refine own_iconst (pc' := 38) (z := (4 : Int32)) X0 hx (hb hby at_37) rfl rfl ?_
    refine own_goto (pc' := 43) X0 hx (hb hby at_38) (by decide) (by decide) ?_
    refine own_istore (pc' := 45) (l' := #[.val (.int p0), .val (.int p1), .val (.int p2), .val (.int p3), .val (.int p4), .val (.int (2 : Int32)), .val (.int n32), .val (.int ((own_ushr p0 (4 : Int32)) &&& (3 : Int32))), .val (.int (4 : Int32)), .unset, .unset, .unset, .unset, .unset, .unset, .unset, .unset, .unset]) X0 hx (hb hby at_43) rfl rfl ?_
    have K145 : ∀ (q144 : Int32), own_Ends prg e below s (own_Q0 Z p0 p1 p2 p3 p4 h0 n0) 16 128 s₁ (mkF m 76 #[.val (.int p0), .val (.int p1), .val (.int p2), .val (.int p3), .val (.int p4), .val (.int (2 : Int32)), .val (.int n32), .val (.int ((own_ushr p0 (4 : Int32)) &&& (3 : Int32))), .val (.int (4 : Int32)), .unset, .unset, .unset, .unset, .unset, .unset, .unset, .unset, .unset] [(.int q144)]) := by
      intro q144
      refine own_istore (pc' := 78) (l' := #[.val (.int p0), .val (.int p1), .val (.int p2), .val (.int p3), .val (.int p4), .val (.int (2 : Int32)), .val (.int n32), .val (.int ((own_ushr p0 (4 : Int32)) &&& (3 : Int32))), .val (.int (4 : Int32)), .val (.int q144), .unset, .unset, .unset, .unset, .unset, .unset, .unset, .unset]) X0 hx (hb hby at_76) rfl rfl ?_
      obtain ⟨T146, h146, X146, e146, E146, A146, D146, -, st146⟩ := newO X0 hx hZ hown (own_w0 hw) (own_w1 hw) (own_w2 hw) e0 (g := (mkF m 78 #[.val (.int p0), .val (.int p1), .val (.int p2), .val (.int p3), .val (.int p4), .val (.int (2 : Int32)), .val (.int n32), .val (.int ((own_ushr p0 (4 : Int32)) &&& (3 : Int32))), .val (.int (4 : Int32)), .val (.int q144), .unset, .unset, .unset, .unset, .unset, .unset, .unset, .unset] [])) rfl (hb hby at_78) (by decide) (by decide)
      refine own_go st146 ?_
      obtain ⟨a146, g146⟩ : ∃ z, z = h0.size := ⟨_, rfl⟩
      rw [← g146] at A146 D146
      have ge147 : n0 ≤ a146 := by rw [g146]; exact Z0
      have F148 : Fld Z h146 a146 "com/example/larder/larder/cache/EvictedKeys" "depth" "I" (.int (0 : Int32)) := D146 (Or.inr (own_w15 hw)) (ty := .int) (by decide)
      have F149 : Fld Z h146 a146 "com/example/larder/larder/cache/EvictedKeys" "slots" "[J" .null := D146 (Or.inl (own_w22 hw)) (ty := (.array .long)) (by decide)
      have F150 : Fld Z h146 a146 "com/example/larder/larder/cache/EvictedKeys" "remembered" "I" (.int (0 : Int32)) := D146 (Or.inl (own_w45 hw)) (ty := .int) (by decide)
      show own_Ends prg e below s _ _ _ T146 (mkF m 81 #[.val (.int p0), .val (.int p1), .val (.int p2), .val (.int p3), .val (.int p4), .val (.int (2 : Int32)), .val (.int n32), .val (.int ((own_ushr p0 (4 : Int32)) &&& (3 : Int32))), .val (.int (4 : Int32)), .val (.int q144), .unset, .unset, .unset, .unset, .unset, .unset, .unset, .unset] [(.ref h0.size)])
      rw [← g146]
      refine own_dup (pc' := 82) X146 hx (hb hby at_81) rfl rfl ?_
      refine own_iload (pc' := 84) X146 hx (hb hby at_82) rfl rfl ?_
      refine own_i2l (pc' := 85) (z := (2 : Int64)) X146 hx (hb hby at_84) rfl (by decide) ?_
      refine own_callC (pc' := 88) (y := (⟨"com/example/larder/larder/cache/EvictedKeys", "<init>", "(J)V"⟩ : MethodName)) (W := 1) (rm := own_room1_2) (argsL := [(.long (2 : Int64))]) (rest := [(.ref a146)]) (b := a146) X146 hx hZ e146 hown (by rw [hml]; rfl) rfl rfl (own_w3 hw) (own_w4 hw) (own_w2 hw) (own_w5 hw) (by decide) (own_rm1_2 lch Z a0 hw [] a146 _ h146 n0 A146 F148 F149 F150 ge147) (by decide) (by decide) (by decide) (by decide) (lenOf own_pd2 rfl) rfl (by exact Nat.le_of_eq rfl) (hb hby at_85) rfl ?_
      intro T151 Lc151 v151 X151 hQ151
      obtain ⟨rfl, Nq151, Kq151, G151_0, G151_1, G151_2⟩ := hQ151
      have N151 := Fr.app N0 Nq151
      show own_Ends prg e below s _ _ _ T151 (mkF m 88 #[.val (.int p0), .val (.int p1), .val (.int p2), .val (.int p3), .val (.int p4), .val (.int (2 : Int32)), .val (.int n32), .val (.int ((own_ushr p0 (4 : Int32)) &&& (3 : Int32))), .val (.int (4 : Int32)), .val (.int q144), .unset, .unset, .unset, .unset, .unset, .unset, .unset, .unset] [(.ref a146)])
      refine own_astore (pc' := 90) (l' := #[.val (.int p0), .val (.int p1), .val (.int p2), .val (.int p3), .val (.int p4), .val (.int (2 : Int32)), .val (.int n32), .val (.int ((own_ushr p0 (4 : Int32)) &&& (3 : Int32))), .val (.int (4 : Int32)), .val (.int q144), .val (.ref a146), .unset, .unset, .unset, .unset, .unset, .unset, .unset]) X151 hx (hb hby at_88) rfl rfl rfl ?_
      rcases own_and3 hn32 with rfl | rfl | rfl | rfl
      · refine own_iload (pc' := 92) X151 hx (hb hby at_90) rfl rfl ?_
        refine own_iconst (pc' := 93) (z := (1 : Int32)) X151 hx (hb hby at_92) rfl rfl ?_
        refine own_icmpYes (pc' := 102) X151 hx (hb hby at_93) (tlt (by decide)).1 (by decide) (by decide) ?_
        refine own_iload (pc' := 104) X151 hx (hb hby at_102) rfl rfl ?_
        refine own_iconst (pc' := 105) (z := (2 : Int32)) X151 hx (hb hby at_104) rfl rfl ?_
        refine own_icmpYes (pc' := 114) X151 hx (hb hby at_105) (tlt (by decide)).1 (by decide) (by decide) ?_
        refine own_iload (pc' := 116) X151 hx (hb hby at_114) rfl rfl ?_
        refine own_iconst (pc' := 117) (z := (3 : Int32)) X151 hx (hb hby at_116) rfl rfl ?_
        refine own_icmpYes (pc' := 126) X151 hx (hb hby at_117) (tlt (by decide)).1 (by decide) (by decide) ?_
        refine own_aload (pc' := 128) X151 hx (hb hby at_126) rfl rfl rfl ?_
        refine own_iload (pc' := 130) X151 hx (hb hby at_128) rfl rfl ?_
        have f153 := (A146.keep Kq151)
        refine own_callV (pc' := 133) (y := (⟨"com/example/larder/larder/cache/EvictedKeys", "recall", "(I)Z"⟩ : MethodName)) (W := 0) (rm := own_room4_0) (argsL := [(.int q144)]) (rest := []) (b := a146) (C := "com/example/larder/larder/cache/EvictedKeys") X151 hx hZ rfl hown (by rw [hml]; rfl) f153 (own_w16 hw) (own_w17 hw) (own_w19 hw) (own_w18 hw) (own_w2 hw) (own_w20 hw) (by decide) (own_rm4_0 lch Z a0 hw [] a146 q144 T151.heap n0 G151_1) (by decide) (by decide) (by decide) (by decide) (lenOf own_pd3 rfl) rfl (by exact Nat.le_of_eq rfl) (hb hby at_130) rfl ?_
        intro T152 Lc152 v152 X152 hQ152
        obtain ⟨rfl, Nq152, Kq152⟩ := hQ152
        have N152 := Fr.app N151 Nq152
        show own_Ends prg e below s _ _ _ T152 (mkF m 133 #[.val (.int p0), .val (.int p1), .val (.int p2), .val (.int p3), .val (.int p4), .val (.int (2 : Int32)), .val (.int (0 : Int32)), .val (.int ((own_ushr p0 (4 : Int32)) &&& (3 : Int32))), .val (.int (4 : Int32)), .val (.int q144), .val (.ref a146), .unset, .unset, .unset, .unset, .unset, .unset, .unset] [(.int (0 : Int32))])
        refine own_istore (pc' := 135) (l' := #[.val (.int p0), .val (.int p1), .val (.int p2), .val (.int p3), .val (.int p4), .val (.int (2 : Int32)), .val (.int (0 : Int32)), .val (.int ((own_ushr p0 (4 : Int32)) &&& (3 : Int32))), .val (.int (4 : Int32)), .val (.int q144), .val (.ref a146), .val (.int (0 : Int32)), .unset, .unset, .unset, .unset, .unset, .unset]) X152 hx (hb hby at_133) rfl rfl ?_
        refine own_aload (pc' := 137) X152 hx (hb hby at_135) rfl rfl rfl ?_
        refine own_iload (pc' := 139) X152 hx (hb hby at_137) rfl rfl ?_
        refine own_callV (pc' := 142) (y := (⟨"com/example/larder/larder/cache/EvictedKeys", "recall", "(I)Z"⟩ : MethodName)) (W := 0) (rm := own_room4_0) (argsL := [(.int q144)]) (rest := []) (b := a146) (C := "com/example/larder/larder/cache/EvictedKeys") X152 hx hZ Kq152 hown (by rw [hml]; rfl) f153 (own_w16 hw) (own_w17 hw) (own_w19 hw) (own_w18 hw) (own_w2 hw) (own_w20 hw) (by decide) (own_rm4_0 lch Z a0 hw [] a146 q144 T151.heap n0 G151_1) (by decide) (by decide) (by decide) (by decide) (lenOf own_pd3 rfl) rfl (by exact Nat.le_of_eq rfl) (hb hby at_139) rfl ?_
        intro T154 Lc154 v154 X154 hQ154
        obtain ⟨rfl, Nq154, Kq154⟩ := hQ154
        have N154 := Fr.app N152 Nq154
        show own_Ends prg e below s _ _ _ T154 (mkF m 142 #[.val (.int p0), .val (.int p1), .val (.int p2), .val (.int p3), .val (.int p4), .val (.int (2 : Int32)), .val (.int (0 : Int32)), .val (.int ((own_ushr p0 (4 : Int32)) &&& (3 : Int32))), .val (.int (4 : Int32)), .val (.int q144), .val (.ref a146), .val (.int (0 : Int32)), .unset, .unset, .unset, .unset, .unset, .unset] [(.int (0 : Int32))])
        refine own_istore (pc' := 144) (l' := #[.val (.int p0), .val (.int p1), .val (.int p2), .val (.int p3), .val (.int p4), .val (.int (2 : Int32)), .val (.int (0 : Int32)), .val (.int ((own_ushr p0 (4 : Int32)) &&& (3 : Int32))), .val (.int (4 : Int32)), .val (.int q144), .val (.ref a146), .val (.int (0 : Int32)), .val (.int (0 : Int32)), .unset, .unset, .unset, .unset, .unset]) X154 hx (hb hby at_142) rfl rfl ?_
        refine own_iload (pc' := 146) X154 hx (hb hby at_144) rfl rfl ?_
        refine own_iconst (pc' := 147) (z := (1 : Int32)) X154 hx (hb hby at_146) rfl rfl ?_
        refine own_isub (pc' := 148) (z := (3 : Int32)) X154 hx (hb hby at_147) rfl (by decide) ?_
        refine own_istore (pc' := 150) (l' := #[.val (.int p0), .val (.int p1), .val (.int p2), .val (.int p3), .val (.int p4), .val (.int (2 : Int32)), .val (.int (0 : Int32)), .val (.int ((own_ushr p0 (4 : Int32)) &&& (3 : Int32))), .val (.int (4 : Int32)), .val (.int q144), .val (.ref a146), .val (.int (0 : Int32)), .val (.int (0 : Int32)), .val (.int (3 : Int32)), .unset, .unset, .unset, .unset]) X154 hx (hb hby at_148) rfl rfl ?_
        refine own_iload (pc' := 152) X154 hx (hb hby at_150) rfl rfl ?_
        refine own_callS (pc' := 155) (y := (⟨"com/example/larder/larder/cache/UseCounts", "spread", "(I)I"⟩ : MethodName)) (W := 0) (rm := own_room5) (argsL := [(.int q144)]) (rest := []) X154 hx hZ Kq154 hown (by rw [hml]; rfl) (own_w23 hw) (own_w24 hw) (own_w25 hw) (own_w26 hw) (by decide) (own_rm5 lch Z a0 hw [] q144 T151.heap n0) (by decide) (by decide) (by decide) (by decide) (lenOf own_pd0 rfl) rfl (by exact Nat.le_of_eq rfl) (hb hby at_152) rfl ?_
        intro T155 Lc155 v155 X155 hQ155
        obtain ⟨rfl, Nq155, Kq155⟩ := hQ155
        have N155 := Fr.app N154 Nq155
        show own_Ends prg e below s _ _ _ T155 (mkF m 155 #[.val (.int p0), .val (.int p1), .val (.int p2), .val (.int p3), .val (.int p4), .val (.int (2 : Int32)), .val (.int (0 : Int32)), .val (.int ((own_ushr p0 (4 : Int32)) &&& (3 : Int32))), .val (.int (4 : Int32)), .val (.int q144), .val (.ref a146), .val (.int (0 : Int32)), .val (.int (0 : Int32)), .val (.int (3 : Int32)), .unset, .unset, .unset, .unset] [(.int (own_spread q144))])
        refine own_iload (pc' := 157) X155 hx (hb hby at_155) rfl rfl ?_
        refine own_iand (pc' := 158) (z := ((own_spread q144) &&& (3 : Int32))) X155 hx (hb hby at_157) rfl rfl ?_
        refine own_istore (pc' := 160) (l' := #[.val (.int p0), .val (.int p1), .val (.int p2), .val (.int p3), .val (.int p4), .val (.int (2 : Int32)), .val (.int (0 : Int32)), .val (.int ((own_ushr p0 (4 : Int32)) &&& (3 : Int32))), .val (.int (4 : Int32)), .val (.int q144), .val (.ref a146), .val (.int (0 : Int32)), .val (.int (0 : Int32)), .val (.int (3 : Int32)), .val (.int ((own_spread q144) &&& (3 : Int32))), .unset, .unset, .unset]) X155 hx (hb hby at_158) rfl rfl ?_
        refine own_iconst (pc' := 161) (z := (0 : Int32)) X155 hx (hb hby at_160) rfl rfl ?_
        refine own_istore (pc' := 163) (l' := #[.val (.int p0), .val (.int p1), .val (.int p2), .val (.int p3), .val (.int p4), .val (.int (2 : Int32)), .val (.int (0 : Int32)), .val (.int ((own_ushr p0 (4 : Int32)) &&& (3 : Int32))), .val (.int (4 : Int32)), .val (.int q144), .val (.ref a146), .val (.int (0 : Int32)), .val (.int (0 : Int32)), .val (.int (3 : Int32)), .val (.int ((own_spread q144) &&& (3 : Int32))), .val (.int (0 : Int32)), .unset, .unset]) X155 hx (hb hby at_161) rfl rfl ?_
        refine own_iload (pc' := 165) X155 hx (hb hby at_163) rfl rfl ?_
        refine own_iconst (pc' := 166) (z := (3 : Int32)) X155 hx (hb hby at_165) rfl rfl ?_
        refine own_icmpYes (pc' := 187) X155 hx (hb hby at_166) (tlt (by decide)).1 (by decide) (by decide) ?_
        refine own_iload (pc' := 189) X155 hx (hb hby at_187) rfl rfl ?_
        refine own_iconst (pc' := 190) (z := (2 : Int32)) X155 hx (hb hby at_189) rfl rfl ?_
        refine own_icmpYes (pc' := 211) X155 hx (hb hby at_190) (tlt (by decide)).1 (by decide) (by decide) ?_
        refine own_iload (pc' := 213) X155 hx (hb hby at_211) rfl rfl ?_
        refine own_iconst (pc' := 214) (z := (1 : Int32)) X155 hx (hb hby at_213) rfl rfl ?_
        refine own_icmpYes (pc' := 232) X155 hx (hb hby at_214) (tlt (by decide)).1 (by decide) (by decide) ?_
        refine own_iload (pc' := 234) X155 hx (hb hby at_232) rfl rfl ?_
        refine own_iconst (pc' := 235) (z := (3 : Int32)) X155 hx (hb hby at_234) rfl rfl ?_
        refine own_icmpYes (pc' := 242) X155 hx (hb hby at_235) (feq (by decide)).2 (by decide) (by decide) ?_
        refine own_iload (pc' := 244) X155 hx (hb hby at_242) rfl rfl ?_
        refine own_iconst (pc' := 245) (z := (2 : Int32)) X155 hx (hb hby at_244) rfl rfl ?_
        refine own_icmpYes (pc' := 252) X155 hx (hb hby at_245) (feq (by decide)).2 (by decide) (by decide) ?_
        refine own_iloadN (pc' := 253) X155 hx (hb hby at_252) rfl rfl ?_
        refine own_istore (pc' := 255) (l' := #[.val (.int p0), .val (.int p1), .val (.int p2), .val (.int p3), .val (.int p4), .val (.int (2 : Int32)), .val (.int (0 : Int32)), .val (.int ((own_ushr p0 (4 : Int32)) &&& (3 : Int32))), .val (.int (4 : Int32)), .val (.int q144), .val (.ref a146), .val (.int (0 : Int32)), .val (.int (0 : Int32)), .val (.int (3 : Int32)), .val (.int ((own_spread q144) &&& (3 : Int32))), .val (.int (0 : Int32)), .val (.int p1), .unset]) X155 hx (hb hby at_253) rfl rfl ?_
        refine own_iload (pc' := 257) X155 hx (hb hby at_255) rfl rfl ?_
        refine own_ifYes (pc' := 281) X155 hx (hb hby at_257) (teq (by decide)).1 (by decide) (by decide) ?_
        refine own_iconst (pc' := 282) (z := (0 : Int32)) X155 hx (hb hby at_281) rfl rfl ?_
        refine own_istore (pc' := 284) (l' := #[.val (.int p0), .val (.int p1), .val (.int p2), .val (.int p3), .val (.int p4), .val (.int (2 : Int32)), .val (.int (0 : Int32)), .val (.int ((own_ushr p0 (4 : Int32)) &&& (3 : Int32))), .val (.int (4 : Int32)), .val (.int q144), .val (.ref a146), .val (.int (0 : Int32)), .val (.int (0 : Int32)), .val (.int (3 : Int32)), .val (.int ((own_spread q144) &&& (3 : Int32))), .val (.int (0 : Int32)), .val (.int p1), .val (.int (0 : Int32))]) X155 hx (hb hby at_282) rfl rfl ?_
        refine own_iload (pc' := 286) X155 hx (hb hby at_284) rfl rfl ?_
        refine own_iload (pc' := 288) X155 hx (hb hby at_286) rfl rfl ?_
        refine own_icmpNo (pc' := 291) X155 hx (hb hby at_288) rfl (teq (by decide)).2 ?_
        refine own_iload (pc' := 293) X155 hx (hb hby at_291) rfl rfl ?_
        refine own_ifNo (pc' := 296) X155 hx (hb hby at_293) rfl (teq (by decide)).2 ?_
        refine own_iconst (pc' := 297) (z := (1 : Int32)) X155 hx (hb hby at_296) rfl rfl ?_
        refine own_goto (pc' := 301) X155 hx (hb hby at_297) (by decide) (by decide) ?_
        refine own_retN X155 hx hlk hret (by simp) (hb hby at_301) (by decide) (by decide) ?_
        exact ⟨rfl, N155⟩
      · refine own_iload (pc' := 92) X151 hx (hb hby at_90) rfl rfl ?_
        refine own_iconst (pc' := 93) (z := (1 : Int32)) X151 hx (hb hby at_92) rfl rfl ?_
        refine own_icmpNo (pc' := 96) X151 hx (hb hby at_93) rfl (flt (by decide)).1 ?_
        refine own_aload (pc' := 98) X151 hx (hb hby at_96) rfl rfl rfl ?_
        refine own_iloadN (pc' := 99) X151 hx (hb hby at_98) rfl rfl ?_
        have f156 := (A146.keep Kq151)
        have f157 := (Nat.le_trans (Nat.le_trans Z0 E146.1) Kq151.1)
        refine own_callV (pc' := 102) (y := (⟨"com/example/larder/larder/cache/EvictedKeys", "remember", "(I)V"⟩ : MethodName)) (W := 0) (rm := own_room6_2_0) (argsL := [(.int p1)]) (rest := []) (b := a146) (C := "com/example/larder/larder/cache/EvictedKeys") X151 hx hZ rfl hown (by rw [hml]; rfl) f156 (own_w28 hw) (own_w29 hw) (own_w31 hw) (own_w30 hw) (own_w2 hw) (own_w32 hw) (by decide) (own_rm6_2_0 lch Z a0 hw [] a146 p1 T151.heap n0 f157 f156 G151_0 G151_1 G151_2 ge147) (by decide) (by decide) (by decide) (by decide) (lenOf own_pd4 rfl) rfl (by exact Nat.le_of_eq rfl) (hb hby at_99) rfl ?_
        intro T158 Lc158 v158 X158 hQ158
        obtain ⟨b158, bk158, rfl, Nq158, Kq158, G158_0, G158_1, G158_2, G158_3, G158_4⟩ := hQ158
        have N158 := Fr.app N151 Nq158
        have ge159 : n0 ≤ b158 := Nat.le_trans f157 G158_0
        have ne160 : a146 ≠ b158 := Nat.ne_of_lt (Nat.lt_of_lt_of_le f156.lt G158_0)
        obtain ⟨l161, el161⟩ : ∃ z, z = ((List.replicate 4 (0 : Int64)).set (own_ixm (3 : Int32) (own_spread p1)) (own_pack (own_spread p1) (1 : Int64))) := ⟨_, rfl⟩
        rw [← el161] at G158_4
        have hl162 : l161.length = 4 := by rw [el161, List.length_set]; rfl
        show own_Ends prg e below s _ _ _ T158 (mkF m 102 #[.val (.int p0), .val (.int p1), .val (.int p2), .val (.int p3), .val (.int p4), .val (.int (2 : Int32)), .val (.int (1 : Int32)), .val (.int ((own_ushr p0 (4 : Int32)) &&& (3 : Int32))), .val (.int (4 : Int32)), .val (.int q144), .val (.ref a146), .unset, .unset, .unset, .unset, .unset, .unset, .unset] [])
        refine own_iload (pc' := 104) X158 hx (hb hby at_102) rfl rfl ?_
        refine own_iconst (pc' := 105) (z := (2 : Int32)) X158 hx (hb hby at_104) rfl rfl ?_
        refine own_icmpYes (pc' := 114) X158 hx (hb hby at_105) (tlt (by decide)).1 (by decide) (by decide) ?_
        refine own_iload (pc' := 116) X158 hx (hb hby at_114) rfl rfl ?_
        refine own_iconst (pc' := 117) (z := (3 : Int32)) X158 hx (hb hby at_116) rfl rfl ?_
        refine own_icmpYes (pc' := 126) X158 hx (hb hby at_117) (tlt (by decide)).1 (by decide) (by decide) ?_
        refine own_aload (pc' := 128) X158 hx (hb hby at_126) rfl rfl rfl ?_
        refine own_iload (pc' := 130) X158 hx (hb hby at_128) rfl rfl ?_
        have f164 := (f156.keep Kq158)
        refine own_callV (pc' := 133) (y := (⟨"com/example/larder/larder/cache/EvictedKeys", "recall", "(I)Z"⟩ : MethodName)) (W := 0) (rm := own_room4_4) (argsL := [(.int q144)]) (rest := []) (b := a146) (C := "com/example/larder/larder/cache/EvictedKeys") X158 hx hZ rfl hown (by rw [hml]; rfl) f164 (own_w16 hw) (own_w17 hw) (own_w19 hw) (own_w18 hw) (own_w2 hw) (own_w20 hw) (by decide) (own_rm4_4 lch Z a0 hw [] a146 q144 b158 bk158 l161 (1 : Int32) (2 : Int32) T158.heap n0 G158_1 G158_2 G158_3 G158_4 hl162 ge159 ne160) (by decide) (by decide) (by decide) (by decide) (lenOf own_pd3 rfl) rfl (by exact Nat.le_of_eq rfl) (hb hby at_130) rfl ?_
        intro T163 Lc163 v163 X163 hQ163
        obtain ⟨rfl, Nq163, Kq163, G163_0⟩ := hQ163
        have N163 := Fr.app N158 Nq163
        have hl165 : (own_rl l161 (3 : Int32) (own_spread q144)).length = 4 := (own_rllen _ _ _).trans hl162
        show own_Ends prg e below s _ _ _ T163 (mkF m 133 #[.val (.int p0), .val (.int p1), .val (.int p2), .val (.int p3), .val (.int p4), .val (.int (2 : Int32)), .val (.int (1 : Int32)), .val (.int ((own_ushr p0 (4 : Int32)) &&& (3 : Int32))), .val (.int (4 : Int32)), .val (.int q144), .val (.ref a146), .unset, .unset, .unset, .unset, .unset, .unset, .unset] [(.int (own_rv l161 (3 : Int32) (own_spread q144) (1 : Int32) (2 : Int32)))])
        refine own_istore (pc' := 135) (l' := #[.val (.int p0), .val (.int p1), .val (.int p2), .val (.int p3), .val (.int p4), .val (.int (2 : Int32)), .val (.int (1 : Int32)), .val (.int ((own_ushr p0 (4 : Int32)) &&& (3 : Int32))), .val (.int (4 : Int32)), .val (.int q144), .val (.ref a146), .val (.int (own_rv l161 (3 : Int32) (own_spread q144) (1 : Int32) (2 : Int32))), .unset, .unset, .unset, .unset, .unset, .unset]) X163 hx (hb hby at_133) rfl rfl ?_
        refine own_aload (pc' := 137) X163 hx (hb hby at_135) rfl rfl rfl ?_
        refine own_iload (pc' := 139) X163 hx (hb hby at_137) rfl rfl ?_
        have f166 := (G158_1.keep Kq163 (ninS ne160 nin0))
        have f167 := (G158_2.keep Kq163 (ninS ne160 nin0))
        have f168 := (G158_3.keep Kq163 (ninS ne160 nin0))
        have f170 := (f164.keep Kq163)
        refine own_callV (pc' := 142) (y := (⟨"com/example/larder/larder/cache/EvictedKeys", "recall", "(I)Z"⟩ : MethodName)) (W := 0) (rm := own_room4_4) (argsL := [(.int q144)]) (rest := []) (b := a146) (C := "com/example/larder/larder/cache/EvictedKeys") X163 hx hZ rfl hown (by rw [hml]; rfl) f170 (own_w16 hw) (own_w17 hw) (own_w19 hw) (own_w18 hw) (own_w2 hw) (own_w20 hw) (by decide) (own_rm4_4 lch Z a0 hw [] a146 q144 b158 bk158 (own_rl l161 (3 : Int32) (own_spread q144)) (1 : Int32) (2 : Int32) T163.heap n0 f166 f167 f168 G163_0 hl165 ge159 ne160) (by decide) (by decide) (by decide) (by decide) (lenOf own_pd3 rfl) rfl (by exact Nat.le_of_eq rfl) (hb hby at_139) rfl ?_
        intro T169 Lc169 v169 X169 hQ169
        obtain ⟨rfl, Nq169, Kq169, G169_0⟩ := hQ169
        have N169 := Fr.app N163 Nq169
        have hl171 : (own_rl (own_rl l161 (3 : Int32) (own_spread q144)) (3 : Int32) (own_spread q144)).length = 4 := (own_rllen _ _ _).trans hl165
        show own_Ends prg e below s _ _ _ T169 (mkF m 142 #[.val (.int p0), .val (.int p1), .val (.int p2), .val (.int p3), .val (.int p4), .val (.int (2 : Int32)), .val (.int (1 : Int32)), .val (.int ((own_ushr p0 (4 : Int32)) &&& (3 : Int32))), .val (.int (4 : Int32)), .val (.int q144), .val (.ref a146), .val (.int (own_rv l161 (3 : Int32) (own_spread q144) (1 : Int32) (2 : Int32))), .unset, .unset, .unset, .unset, .unset, .unset] [(.int (own_rv (own_rl l161 (3 : Int32) (own_spread q144)) (3 : Int32) (own_spread q144) (1 : Int32) (2 : Int32)))])
        refine own_istore (pc' := 144) (l' := #[.val (.int p0), .val (.int p1), .val (.int p2), .val (.int p3), .val (.int p4), .val (.int (2 : Int32)), .val (.int (1 : Int32)), .val (.int ((own_ushr p0 (4 : Int32)) &&& (3 : Int32))), .val (.int (4 : Int32)), .val (.int q144), .val (.ref a146), .val (.int (own_rv l161 (3 : Int32) (own_spread q144) (1 : Int32) (2 : Int32))), .val (.int (own_rv (own_rl l161 (3 : Int32) (own_spread q144)) (3 : Int32) (own_spread q144) (1 : Int32) (2 : Int32))), .unset, .unset, .unset, .unset, .unset]) X169 hx (hb hby at_142) rfl rfl ?_
        refine own_iload (pc' := 146) X169 hx (hb hby at_144) rfl rfl ?_
        refine own_iconst (pc' := 147) (z := (1 : Int32)) X169 hx (hb hby at_146) rfl rfl ?_
        refine own_isub (pc' := 148) (z := (3 : Int32)) X169 hx (hb hby at_147) rfl (by decide) ?_
        refine own_istore (pc' := 150) (l' := #[.val (.int p0), .val (.int p1), .val (.int p2), .val (.int p3), .val (.int p4), .val (.int (2 : Int32)), .val (.int (1 : Int32)), .val (.int ((own_ushr p0 (4 : Int32)) &&& (3 : Int32))), .val (.int (4 : Int32)), .val (.int q144), .val (.ref a146), .val (.int (own_rv l161 (3 : Int32) (own_spread q144) (1 : Int32) (2 : Int32))), .val (.int (own_rv (own_rl l161 (3 : Int32) (own_spread q144)) (3 : Int32) (own_spread q144) (1 : Int32) (2 : Int32))), .val (.int (3 : Int32)), .unset, .unset, .unset, .unset]) X169 hx (hb hby at_148) rfl rfl ?_
        refine own_iload (pc' := 152) X169 hx (hb hby at_150) rfl rfl ?_
        refine own_callS (pc' := 155) (y := (⟨"com/example/larder/larder/cache/UseCounts", "spread", "(I)I"⟩ : MethodName)) (W := 0) (rm := own_room5) (argsL := [(.int q144)]) (rest := []) X169 hx hZ rfl hown (by rw [hml]; rfl) (own_w23 hw) (own_w24 hw) (own_w25 hw) (own_w26 hw) (by decide) (own_rm5 lch Z a0 hw [] q144 T169.heap n0) (by decide) (by decide) (by decide) (by decide) (lenOf own_pd0 rfl) rfl (by exact Nat.le_of_eq rfl) (hb hby at_152) rfl ?_
        intro T172 Lc172 v172 X172 hQ172
        obtain ⟨rfl, Nq172, Kq172⟩ := hQ172
        have N172 := Fr.app N169 Nq172
        show own_Ends prg e below s _ _ _ T172 (mkF m 155 #[.val (.int p0), .val (.int p1), .val (.int p2), .val (.int p3), .val (.int p4), .val (.int (2 : Int32)), .val (.int (1 : Int32)), .val (.int ((own_ushr p0 (4 : Int32)) &&& (3 : Int32))), .val (.int (4 : Int32)), .val (.int q144), .val (.ref a146), .val (.int (own_rv l161 (3 : Int32) (own_spread q144) (1 : Int32) (2 : Int32))), .val (.int (own_rv (own_rl l161 (3 : Int32) (own_spread q144)) (3 : Int32) (own_spread q144) (1 : Int32) (2 : Int32))), .val (.int (3 : Int32)), .unset, .unset, .unset, .unset] [(.int (own_spread q144))])
        refine own_iload (pc' := 157) X172 hx (hb hby at_155) rfl rfl ?_
        refine own_iand (pc' := 158) (z := ((own_spread q144) &&& (3 : Int32))) X172 hx (hb hby at_157) rfl rfl ?_
        refine own_istore (pc' := 160) (l' := #[.val (.int p0), .val (.int p1), .val (.int p2), .val (.int p3), .val (.int p4), .val (.int (2 : Int32)), .val (.int (1 : Int32)), .val (.int ((own_ushr p0 (4 : Int32)) &&& (3 : Int32))), .val (.int (4 : Int32)), .val (.int q144), .val (.ref a146), .val (.int (own_rv l161 (3 : Int32) (own_spread q144) (1 : Int32) (2 : Int32))), .val (.int (own_rv (own_rl l161 (3 : Int32) (own_spread q144)) (3 : Int32) (own_spread q144) (1 : Int32) (2 : Int32))), .val (.int (3 : Int32)), .val (.int ((own_spread q144) &&& (3 : Int32))), .unset, .unset, .unset]) X172 hx (hb hby at_158) rfl rfl ?_
        refine own_iconst (pc' := 161) (z := (0 : Int32)) X172 hx (hb hby at_160) rfl rfl ?_
        refine own_istore (pc' := 163) (l' := #[.val (.int p0), .val (.int p1), .val (.int p2), .val (.int p3), .val (.int p4), .val (.int (2 : Int32)), .val (.int (1 : Int32)), .val (.int ((own_ushr p0 (4 : Int32)) &&& (3 : Int32))), .val (.int (4 : Int32)), .val (.int q144), .val (.ref a146), .val (.int (own_rv l161 (3 : Int32) (own_spread q144) (1 : Int32) (2 : Int32))), .val (.int (own_rv (own_rl l161 (3 : Int32) (own_spread q144)) (3 : Int32) (own_spread q144) (1 : Int32) (2 : Int32))), .val (.int (3 : Int32)), .val (.int ((own_spread q144) &&& (3 : Int32))), .val (.int (0 : Int32)), .unset, .unset]) X172 hx (hb hby at_161) rfl rfl ?_
        refine own_iload (pc' := 165) X172 hx (hb hby at_163) rfl rfl ?_
        refine own_iconst (pc' := 166) (z := (3 : Int32)) X172 hx (hb hby at_165) rfl rfl ?_
        refine own_icmpYes (pc' := 187) X172 hx (hb hby at_166) (tlt (by decide)).1 (by decide) (by decide) ?_
        refine own_iload (pc' := 189) X172 hx (hb hby at_187) rfl rfl ?_
        refine own_iconst (pc' := 190) (z := (2 : Int32)) X172 hx (hb hby at_189) rfl rfl ?_
        refine own_icmpYes (pc' := 211) X172 hx (hb hby at_190) (tlt (by decide)).1 (by decide) (by decide) ?_
        refine own_iload (pc' := 213) X172 hx (hb hby at_211) rfl rfl ?_
        refine own_iconst (pc' := 214) (z := (1 : Int32)) X172 hx (hb hby at_213) rfl rfl ?_
        refine own_icmpNo (pc' := 217) X172 hx (hb hby at_214) rfl (flt (by decide)).1 ?_
        refine own_iloadN (pc' := 218) X172 hx (hb hby at_217) rfl rfl ?_
        refine own_callS (pc' := 221) (y := (⟨"com/example/larder/larder/cache/UseCounts", "spread", "(I)I"⟩ : MethodName)) (W := 0) (rm := own_room5) (argsL := [(.int p1)]) (rest := []) X172 hx hZ Kq172 hown (by rw [hml]; rfl) (own_w23 hw) (own_w24 hw) (own_w25 hw) (own_w26 hw) (by decide) (own_rm5 lch Z a0 hw [] p1 T169.heap n0) (by decide) (by decide) (by decide) (by decide) (lenOf own_pd0 rfl) rfl (by exact Nat.le_of_eq rfl) (hb hby at_218) rfl ?_
        intro T173 Lc173 v173 X173 hQ173
        obtain ⟨rfl, Nq173, Kq173⟩ := hQ173
        have N173 := Fr.app N172 Nq173
        show own_Ends prg e below s _ _ _ T173 (mkF m 221 #[.val (.int p0), .val (.int p1), .val (.int p2), .val (.int p3), .val (.int p4), .val (.int (2 : Int32)), .val (.int (1 : Int32)), .val (.int ((own_ushr p0 (4 : Int32)) &&& (3 : Int32))), .val (.int (4 : Int32)), .val (.int q144), .val (.ref a146), .val (.int (own_rv l161 (3 : Int32) (own_spread q144) (1 : Int32) (2 : Int32))), .val (.int (own_rv (own_rl l161 (3 : Int32) (own_spread q144)) (3 : Int32) (own_spread q144) (1 : Int32) (2 : Int32))), .val (.int (3 : Int32)), .val (.int ((own_spread q144) &&& (3 : Int32))), .val (.int (0 : Int32)), .unset, .unset] [(.int (own_spread p1))])
        refine own_iload (pc' := 223) X173 hx (hb hby at_221) rfl rfl ?_
        refine own_iand (pc' := 224) (z := ((own_spread p1) &&& (3 : Int32))) X173 hx (hb hby at_223) rfl rfl ?_
        refine own_iload (pc' := 226) X173 hx (hb hby at_224) rfl rfl ?_
        by_cases hc226_174 : ((own_spread p1) &&& (3 : Int32)) = ((own_spread q144) &&& (3 : Int32))
        · refine own_icmpNo (pc' := 229) X173 hx (hb hby at_226) rfl (teq hc226_174).2 ?_
          refine own_iconst (pc' := 230) (z := (1 : Int32)) X173 hx (hb hby at_229) rfl rfl ?_
          refine own_istore (pc' := 232) (l' := #[.val (.int p0), .val (.int p1), .val (.int p2), .val (.int p3), .val (.int p4), .val (.int (2 : Int32)), .val (.int (1 : Int32)), .val (.int ((own_ushr p0 (4 : Int32)) &&& (3 : Int32))), .val (.int (4 : Int32)), .val (.int q144), .val (.ref a146), .val (.int (own_rv l161 (3 : Int32) (own_spread q144) (1 : Int32) (2 : Int32))), .val (.int (own_rv (own_rl l161 (3 : Int32) (own_spread q144)) (3 : Int32) (own_spread q144) (1 : Int32) (2 : Int32))), .val (.int (3 : Int32)), .val (.int ((own_spread q144) &&& (3 : Int32))), .val (.int (1 : Int32)), .unset, .unset]) X173 hx (hb hby at_230) rfl rfl ?_
          refine own_iload (pc' := 234) X173 hx (hb hby at_232) rfl rfl ?_
          refine own_iconst (pc' := 235) (z := (3 : Int32)) X173 hx (hb hby at_234) rfl rfl ?_
          refine own_icmpYes (pc' := 242) X173 hx (hb hby at_235) (feq (by decide)).2 (by decide) (by decide) ?_
          refine own_iload (pc' := 244) X173 hx (hb hby at_242) rfl rfl ?_
          refine own_iconst (pc' := 245) (z := (2 : Int32)) X173 hx (hb hby at_244) rfl rfl ?_
          refine own_icmpYes (pc' := 252) X173 hx (hb hby at_245) (feq (by decide)).2 (by decide) (by decide) ?_
          refine own_iloadN (pc' := 253) X173 hx (hb hby at_252) rfl rfl ?_
          refine own_istore (pc' := 255) (l' := #[.val (.int p0), .val (.int p1), .val (.int p2), .val (.int p3), .val (.int p4), .val (.int (2 : Int32)), .val (.int (1 : Int32)), .val (.int ((own_ushr p0 (4 : Int32)) &&& (3 : Int32))), .val (.int (4 : Int32)), .val (.int q144), .val (.ref a146), .val (.int (own_rv l161 (3 : Int32) (own_spread q144) (1 : Int32) (2 : Int32))), .val (.int (own_rv (own_rl l161 (3 : Int32) (own_spread q144)) (3 : Int32) (own_spread q144) (1 : Int32) (2 : Int32))), .val (.int (3 : Int32)), .val (.int ((own_spread q144) &&& (3 : Int32))), .val (.int (1 : Int32)), .val (.int p1), .unset]) X173 hx (hb hby at_253) rfl rfl ?_
          refine own_iload (pc' := 257) X173 hx (hb hby at_255) rfl rfl ?_
          refine own_ifNo (pc' := 260) X173 hx (hb hby at_257) rfl (feq (by decide)).1 ?_
          refine own_iload (pc' := 262) X173 hx (hb hby at_260) rfl rfl ?_
          refine own_iload (pc' := 264) X173 hx (hb hby at_262) rfl rfl ?_
          by_cases hc264_175 : p1 = q144
          · refine own_icmpNo (pc' := 267) X173 hx (hb hby at_264) rfl (teq hc264_175).2 ?_
            refine own_iload (pc' := 269) X173 hx (hb hby at_267) rfl rfl ?_
            refine own_iload (pc' := 271) X173 hx (hb hby at_269) rfl rfl ?_
            refine own_isub (pc' := 272) (z := (0 : Int32)) X173 hx (hb hby at_271) rfl (by decide) ?_
            refine own_iload (pc' := 274) X173 hx (hb hby at_272) rfl rfl ?_
            refine own_icmpNo (pc' := 277) X173 hx (hb hby at_274) rfl (tlt (by decide)).2.1 ?_
            refine own_iconst (pc' := 278) (z := (1 : Int32)) X173 hx (hb hby at_277) rfl rfl ?_
            refine own_goto (pc' := 282) X173 hx (hb hby at_278) (by decide) (by decide) ?_
            refine own_istore (pc' := 284) (l' := #[.val (.int p0), .val (.int p1), .val (.int p2), .val (.int p3), .val (.int p4), .val (.int (2 : Int32)), .val (.int (1 : Int32)), .val (.int ((own_ushr p0 (4 : Int32)) &&& (3 : Int32))), .val (.int (4 : Int32)), .val (.int q144), .val (.ref a146), .val (.int (own_rv l161 (3 : Int32) (own_spread q144) (1 : Int32) (2 : Int32))), .val (.int (own_rv (own_rl l161 (3 : Int32) (own_spread q144)) (3 : Int32) (own_spread q144) (1 : Int32) (2 : Int32))), .val (.int (3 : Int32)), .val (.int ((own_spread q144) &&& (3 : Int32))), .val (.int (1 : Int32)), .val (.int p1), .val (.int (1 : Int32))]) X173 hx (hb hby at_282) rfl rfl ?_
            refine own_iload (pc' := 286) X173 hx (hb hby at_284) rfl rfl ?_
            refine own_iload (pc' := 288) X173 hx (hb hby at_286) rfl rfl ?_
            have sl176 : own_slot l161 (3 : Int32) (own_spread q144) = own_pack (own_spread p1) (1 : Int64) := by
              rw [el161]
              exact (own_slE (Or.inr (Or.inl ⟨rfl, rfl⟩)) (List.length_replicate) hc226_174)
            refine own_icmpNo (pc' := 291) X173 hx (hb hby at_288) rfl (teq ((own_hitv (i := 1) sl176 (by decide) (by decide)).trans ((if_pos hc264_175).trans (by decide)))).2 ?_
            refine own_iload (pc' := 293) X173 hx (hb hby at_291) rfl rfl ?_
            refine own_ifNo (pc' := 296) X173 hx (hb hby at_293) rfl (teq (own_second (Or.inr (Or.inl ⟨rfl, rfl⟩)) hl162)).2 ?_
            refine own_iconst (pc' := 297) (z := (1 : Int32)) X173 hx (hb hby at_296) rfl rfl ?_
            refine own_goto (pc' := 301) X173 hx (hb hby at_297) (by decide) (by decide) ?_
            refine own_retN X173 hx hlk hret (by simp) (hb hby at_301) (by decide) (by decide) ?_
            exact ⟨rfl, N173⟩
          · refine own_icmpYes (pc' := 281) X173 hx (hb hby at_264) (feq hc264_175).2 (by decide) (by decide) ?_
            refine own_iconst (pc' := 282) (z := (0 : Int32)) X173 hx (hb hby at_281) rfl rfl ?_
            refine own_istore (pc' := 284) (l' := #[.val (.int p0), .val (.int p1), .val (.int p2), .val (.int p3), .val (.int p4), .val (.int (2 : Int32)), .val (.int (1 : Int32)), .val (.int ((own_ushr p0 (4 : Int32)) &&& (3 : Int32))), .val (.int (4 : Int32)), .val (.int q144), .val (.ref a146), .val (.int (own_rv l161 (3 : Int32) (own_spread q144) (1 : Int32) (2 : Int32))), .val (.int (own_rv (own_rl l161 (3 : Int32) (own_spread q144)) (3 : Int32) (own_spread q144) (1 : Int32) (2 : Int32))), .val (.int (3 : Int32)), .val (.int ((own_spread q144) &&& (3 : Int32))), .val (.int (1 : Int32)), .val (.int p1), .val (.int (0 : Int32))]) X173 hx (hb hby at_282) rfl rfl ?_
            refine own_iload (pc' := 286) X173 hx (hb hby at_284) rfl rfl ?_
            refine own_iload (pc' := 288) X173 hx (hb hby at_286) rfl rfl ?_
            have sl177 : own_slot l161 (3 : Int32) (own_spread q144) = own_pack (own_spread p1) (1 : Int64) := by
              rw [el161]
              exact (own_slE (Or.inr (Or.inl ⟨rfl, rfl⟩)) (List.length_replicate) hc226_174)
            refine own_icmpNo (pc' := 291) X173 hx (hb hby at_288) rfl (teq ((own_hitv (i := 1) sl177 (by decide) (by decide)).trans (if_neg hc264_175))).2 ?_
            refine own_iload (pc' := 293) X173 hx (hb hby at_291) rfl rfl ?_
            refine own_ifNo (pc' := 296) X173 hx (hb hby at_293) rfl (teq (own_second (Or.inr (Or.inl ⟨rfl, rfl⟩)) hl162)).2 ?_
            refine own_iconst (pc' := 297) (z := (1 : Int32)) X173 hx (hb hby at_296) rfl rfl ?_
            refine own_goto (pc' := 301) X173 hx (hb hby at_297) (by decide) (by decide) ?_
            refine own_retN X173 hx hlk hret (by simp) (hb hby at_301) (by decide) (by decide) ?_
            exact ⟨rfl, N173⟩
        · refine own_icmpYes (pc' := 232) X173 hx (hb hby at_226) (feq hc226_174).2 (by decide) (by decide) ?_
          refine own_iload (pc' := 234) X173 hx (hb hby at_232) rfl rfl ?_
          refine own_iconst (pc' := 235) (z := (3 : Int32)) X173 hx (hb hby at_234) rfl rfl ?_
          refine own_icmpYes (pc' := 242) X173 hx (hb hby at_235) (feq (by decide)).2 (by decide) (by decide) ?_
          refine own_iload (pc' := 244) X173 hx (hb hby at_242) rfl rfl ?_
          refine own_iconst (pc' := 245) (z := (2 : Int32)) X173 hx (hb hby at_244) rfl rfl ?_
          refine own_icmpYes (pc' := 252) X173 hx (hb hby at_245) (feq (by decide)).2 (by decide) (by decide) ?_
          refine own_iloadN (pc' := 253) X173 hx (hb hby at_252) rfl rfl ?_
          refine own_istore (pc' := 255) (l' := #[.val (.int p0), .val (.int p1), .val (.int p2), .val (.int p3), .val (.int p4), .val (.int (2 : Int32)), .val (.int (1 : Int32)), .val (.int ((own_ushr p0 (4 : Int32)) &&& (3 : Int32))), .val (.int (4 : Int32)), .val (.int q144), .val (.ref a146), .val (.int (own_rv l161 (3 : Int32) (own_spread q144) (1 : Int32) (2 : Int32))), .val (.int (own_rv (own_rl l161 (3 : Int32) (own_spread q144)) (3 : Int32) (own_spread q144) (1 : Int32) (2 : Int32))), .val (.int (3 : Int32)), .val (.int ((own_spread q144) &&& (3 : Int32))), .val (.int (0 : Int32)), .val (.int p1), .unset]) X173 hx (hb hby at_253) rfl rfl ?_
          refine own_iload (pc' := 257) X173 hx (hb hby at_255) rfl rfl ?_
          refine own_ifYes (pc' := 281) X173 hx (hb hby at_257) (teq (by decide)).1 (by decide) (by decide) ?_
          refine own_iconst (pc' := 282) (z := (0 : Int32)) X173 hx (hb hby at_281) rfl rfl ?_
          refine own_istore (pc' := 284) (l' := #[.val (.int p0), .val (.int p1), .val (.int p2), .val (.int p3), .val (.int p4), .val (.int (2 : Int32)), .val (.int (1 : Int32)), .val (.int ((own_ushr p0 (4 : Int32)) &&& (3 : Int32))), .val (.int (4 : Int32)), .val (.int q144), .val (.ref a146), .val (.int (own_rv l161 (3 : Int32) (own_spread q144) (1 : Int32) (2 : Int32))), .val (.int (own_rv (own_rl l161 (3 : Int32) (own_spread q144)) (3 : Int32) (own_spread q144) (1 : Int32) (2 : Int32))), .val (.int (3 : Int32)), .val (.int ((own_spread q144) &&& (3 : Int32))), .val (.int (0 : Int32)), .val (.int p1), .val (.int (0 : Int32))]) X173 hx (hb hby at_282) rfl rfl ?_
          refine own_iload (pc' := 286) X173 hx (hb hby at_284) rfl rfl ?_
          refine own_iload (pc' := 288) X173 hx (hb hby at_286) rfl rfl ?_
          have sl178 : own_slot l161 (3 : Int32) (own_spread q144) = 0 := by
            rw [el161]
            exact ((own_slN (Or.inr (Or.inl ⟨rfl, rfl⟩)) (List.length_replicate) hc226_174).trans (own_sl0 _ _ _))
          refine own_icmpNo (pc' := 291) X173 hx (hb hby at_288) rfl (teq (own_miss sl178)).2 ?_
          refine own_iload (pc' := 293) X173 hx (hb hby at_291) rfl rfl ?_
          refine own_ifNo (pc' := 296) X173 hx (hb hby at_293) rfl (teq (own_second (Or.inr (Or.inl ⟨rfl, rfl⟩)) hl162)).2 ?_
          refine own_iconst (pc' := 297) (z := (1 : Int32)) X173 hx (hb hby at_296) rfl rfl ?_
          refine own_goto (pc' := 301) X173 hx (hb hby at_297) (by decide) (by decide) ?_
          refine own_retN X173 hx hlk hret (by simp) (hb hby at_301) (by decide) (by decide) ?_
          exact ⟨rfl, N173⟩
      · refine own_iload (pc' := 92) X151 hx (hb hby at_90) rfl rfl ?_
        refine own_iconst (pc' := 93) (z := (1 : Int32)) X151 hx (hb hby at_92) rfl rfl ?_
        refine own_icmpNo (pc' := 96) X151 hx (hb hby at_93) rfl (flt (by decide)).1 ?_
        refine own_aload (pc' := 98) X151 hx (hb hby at_96) rfl rfl rfl ?_
        refine own_iloadN (pc' := 99) X151 hx (hb hby at_98) rfl rfl ?_
        have f179 := (A146.keep Kq151)
        have f180 := (Nat.le_trans (Nat.le_trans Z0 E146.1) Kq151.1)
        refine own_callV (pc' := 102) (y := (⟨"com/example/larder/larder/cache/EvictedKeys", "remember", "(I)V"⟩ : MethodName)) (W := 0) (rm := own_room6_2_0) (argsL := [(.int p1)]) (rest := []) (b := a146) (C := "com/example/larder/larder/cache/EvictedKeys") X151 hx hZ rfl hown (by rw [hml]; rfl) f179 (own_w28 hw) (own_w29 hw) (own_w31 hw) (own_w30 hw) (own_w2 hw) (own_w32 hw) (by decide) (own_rm6_2_0 lch Z a0 hw [] a146 p1 T151.heap n0 f180 f179 G151_0 G151_1 G151_2 ge147) (by decide) (by decide) (by decide) (by decide) (lenOf own_pd4 rfl) rfl (by exact Nat.le_of_eq rfl) (hb hby at_99) rfl ?_
        intro T181 Lc181 v181 X181 hQ181
        obtain ⟨b181, bk181, rfl, Nq181, Kq181, G181_0, G181_1, G181_2, G181_3, G181_4⟩ := hQ181
        have N181 := Fr.app N151 Nq181
        have ge182 : n0 ≤ b181 := Nat.le_trans f180 G181_0
        have ne183 : a146 ≠ b181 := Nat.ne_of_lt (Nat.lt_of_lt_of_le f179.lt G181_0)
        obtain ⟨l184, el184⟩ : ∃ z, z = ((List.replicate 4 (0 : Int64)).set (own_ixm (3 : Int32) (own_spread p1)) (own_pack (own_spread p1) (1 : Int64))) := ⟨_, rfl⟩
        rw [← el184] at G181_4
        have hl185 : l184.length = 4 := by rw [el184, List.length_set]; rfl
        show own_Ends prg e below s _ _ _ T181 (mkF m 102 #[.val (.int p0), .val (.int p1), .val (.int p2), .val (.int p3), .val (.int p4), .val (.int (2 : Int32)), .val (.int (2 : Int32)), .val (.int ((own_ushr p0 (4 : Int32)) &&& (3 : Int32))), .val (.int (4 : Int32)), .val (.int q144), .val (.ref a146), .unset, .unset, .unset, .unset, .unset, .unset, .unset] [])
        refine own_iload (pc' := 104) X181 hx (hb hby at_102) rfl rfl ?_
        refine own_iconst (pc' := 105) (z := (2 : Int32)) X181 hx (hb hby at_104) rfl rfl ?_
        refine own_icmpNo (pc' := 108) X181 hx (hb hby at_105) rfl (flt (by decide)).1 ?_
        refine own_aload (pc' := 110) X181 hx (hb hby at_108) rfl rfl rfl ?_
        refine own_iloadN (pc' := 111) X181 hx (hb hby at_110) rfl rfl ?_
        have f186 := (f179.keep Kq181)
        refine own_callV (pc' := 114) (y := (⟨"com/example/larder/larder/cache/EvictedKeys", "remember", "(I)V"⟩ : MethodName)) (W := 0) (rm := own_room6_2_1) (argsL := [(.int p2)]) (rest := []) (b := a146) (C := "com/example/larder/larder/cache/EvictedKeys") X181 hx hZ rfl hown (by rw [hml]; rfl) f186 (own_w28 hw) (own_w29 hw) (own_w31 hw) (own_w30 hw) (own_w2 hw) (own_w32 hw) (by decide) (own_rm6_2_1 lch Z a0 hw [] a146 p2 b181 bk181 l184 T181.heap n0 f186 G181_1 G181_2 G181_3 ge147 G181_4 hl185 ge182 ne183) (by decide) (by decide) (by decide) (by decide) (lenOf own_pd4 rfl) rfl (by exact Nat.le_of_eq rfl) (hb hby at_111) rfl ?_
        intro T187 Lc187 v187 X187 hQ187
        obtain ⟨rfl, Nq187, Kq187, G187_0, G187_1, G187_2, G187_3⟩ := hQ187
        have N187 := Fr.app N181 Nq187
        obtain ⟨l188, el188⟩ : ∃ z, z = (l184.set (own_ixm (3 : Int32) (own_spread p2)) (own_pack (own_spread p2) (2 : Int64))) := ⟨_, rfl⟩
        rw [← el188] at G187_3
        have hl189 : l188.length = 4 := by rw [el188, List.length_set]; exact hl185
        show own_Ends prg e below s _ _ _ T187 (mkF m 114 #[.val (.int p0), .val (.int p1), .val (.int p2), .val (.int p3), .val (.int p4), .val (.int (2 : Int32)), .val (.int (2 : Int32)), .val (.int ((own_ushr p0 (4 : Int32)) &&& (3 : Int32))), .val (.int (4 : Int32)), .val (.int q144), .val (.ref a146), .unset, .unset, .unset, .unset, .unset, .unset, .unset] [])
        refine own_iload (pc' := 116) X187 hx (hb hby at_114) rfl rfl ?_
        refine own_iconst (pc' := 117) (z := (3 : Int32)) X187 hx (hb hby at_116) rfl rfl ?_
        refine own_icmpYes (pc' := 126) X187 hx (hb hby at_117) (tlt (by decide)).1 (by decide) (by decide) ?_
        refine own_aload (pc' := 128) X187 hx (hb hby at_126) rfl rfl rfl ?_
        refine own_iload (pc' := 130) X187 hx (hb hby at_128) rfl rfl ?_
        have f191 := (f186.keep Kq187)
        refine own_callV (pc' := 133) (y := (⟨"com/example/larder/larder/cache/EvictedKeys", "recall", "(I)Z"⟩ : MethodName)) (W := 0) (rm := own_room4_4) (argsL := [(.int q144)]) (rest := []) (b := a146) (C := "com/example/larder/larder/cache/EvictedKeys") X187 hx hZ rfl hown (by rw [hml]; rfl) f191 (own_w16 hw) (own_w17 hw) (own_w19 hw) (own_w18 hw) (own_w2 hw) (own_w20 hw) (by decide) (own_rm4_4 lch Z a0 hw [] a146 q144 b181 bk181 l188 (2 : Int32) (2 : Int32) T187.heap n0 G187_0 G187_1 G187_2 G187_3 hl189 ge182 ne183) (by decide) (by decide) (by decide) (by decide) (lenOf own_pd3 rfl) rfl (by exact Nat.le_of_eq rfl) (hb hby at_130) rfl ?_
        intro T190 Lc190 v190 X190 hQ190
        obtain ⟨rfl, Nq190, Kq190, G190_0⟩ := hQ190
        have N190 := Fr.app N187 Nq190
        have hl192 : (own_rl l188 (3 : Int32) (own_spread q144)).length = 4 := (own_rllen _ _ _).trans hl189
        show own_Ends prg e below s _ _ _ T190 (mkF m 133 #[.val (.int p0), .val (.int p1), .val (.int p2), .val (.int p3), .val (.int p4), .val (.int (2 : Int32)), .val (.int (2 : Int32)), .val (.int ((own_ushr p0 (4 : Int32)) &&& (3 : Int32))), .val (.int (4 : Int32)), .val (.int q144), .val (.ref a146), .unset, .unset, .unset, .unset, .unset, .unset, .unset] [(.int (own_rv l188 (3 : Int32) (own_spread q144) (2 : Int32) (2 : Int32)))])
        refine own_istore (pc' := 135) (l' := #[.val (.int p0), .val (.int p1), .val (.int p2), .val (.int p3), .val (.int p4), .val (.int (2 : Int32)), .val (.int (2 : Int32)), .val (.int ((own_ushr p0 (4 : Int32)) &&& (3 : Int32))), .val (.int (4 : Int32)), .val (.int q144), .val (.ref a146), .val (.int (own_rv l188 (3 : Int32) (own_spread q144) (2 : Int32) (2 : Int32))), .unset, .unset, .unset, .unset, .unset, .unset]) X190 hx (hb hby at_133) rfl rfl ?_
        refine own_aload (pc' := 137) X190 hx (hb hby at_135) rfl rfl rfl ?_
        refine own_iload (pc' := 139) X190 hx (hb hby at_137) rfl rfl ?_
        have f193 := (G187_0.keep Kq190 (ninS ne183 nin0))
        have f194 := (G187_1.keep Kq190 (ninS ne183 nin0))
        have f195 := (G187_2.keep Kq190 (ninS ne183 nin0))
        have f197 := (f191.keep Kq190)
        refine own_callV (pc' := 142) (y := (⟨"com/example/larder/larder/cache/EvictedKeys", "recall", "(I)Z"⟩ : MethodName)) (W := 0) (rm := own_room4_4) (argsL := [(.int q144)]) (rest := []) (b := a146) (C := "com/example/larder/larder/cache/EvictedKeys") X190 hx hZ rfl hown (by rw [hml]; rfl) f197 (own_w16 hw) (own_w17 hw) (own_w19 hw) (own_w18 hw) (own_w2 hw) (own_w20 hw) (by decide) (own_rm4_4 lch Z a0 hw [] a146 q144 b181 bk181 (own_rl l188 (3 : Int32) (own_spread q144)) (2 : Int32) (2 : Int32) T190.heap n0 f193 f194 f195 G190_0 hl192 ge182 ne183) (by decide) (by decide) (by decide) (by decide) (lenOf own_pd3 rfl) rfl (by exact Nat.le_of_eq rfl) (hb hby at_139) rfl ?_
        intro T196 Lc196 v196 X196 hQ196
        obtain ⟨rfl, Nq196, Kq196, G196_0⟩ := hQ196
        have N196 := Fr.app N190 Nq196
        have hl198 : (own_rl (own_rl l188 (3 : Int32) (own_spread q144)) (3 : Int32) (own_spread q144)).length = 4 := (own_rllen _ _ _).trans hl192
        show own_Ends prg e below s _ _ _ T196 (mkF m 142 #[.val (.int p0), .val (.int p1), .val (.int p2), .val (.int p3), .val (.int p4), .val (.int (2 : Int32)), .val (.int (2 : Int32)), .val (.int ((own_ushr p0 (4 : Int32)) &&& (3 : Int32))), .val (.int (4 : Int32)), .val (.int q144), .val (.ref a146), .val (.int (own_rv l188 (3 : Int32) (own_spread q144) (2 : Int32) (2 : Int32))), .unset, .unset, .unset, .unset, .unset, .unset] [(.int (own_rv (own_rl l188 (3 : Int32) (own_spread q144)) (3 : Int32) (own_spread q144) (2 : Int32) (2 : Int32)))])
        refine own_istore (pc' := 144) (l' := #[.val (.int p0), .val (.int p1), .val (.int p2), .val (.int p3), .val (.int p4), .val (.int (2 : Int32)), .val (.int (2 : Int32)), .val (.int ((own_ushr p0 (4 : Int32)) &&& (3 : Int32))), .val (.int (4 : Int32)), .val (.int q144), .val (.ref a146), .val (.int (own_rv l188 (3 : Int32) (own_spread q144) (2 : Int32) (2 : Int32))), .val (.int (own_rv (own_rl l188 (3 : Int32) (own_spread q144)) (3 : Int32) (own_spread q144) (2 : Int32) (2 : Int32))), .unset, .unset, .unset, .unset, .unset]) X196 hx (hb hby at_142) rfl rfl ?_
        refine own_iload (pc' := 146) X196 hx (hb hby at_144) rfl rfl ?_
        refine own_iconst (pc' := 147) (z := (1 : Int32)) X196 hx (hb hby at_146) rfl rfl ?_
        refine own_isub (pc' := 148) (z := (3 : Int32)) X196 hx (hb hby at_147) rfl (by decide) ?_
        refine own_istore (pc' := 150) (l' := #[.val (.int p0), .val (.int p1), .val (.int p2), .val (.int p3), .val (.int p4), .val (.int (2 : Int32)), .val (.int (2 : Int32)), .val (.int ((own_ushr p0 (4 : Int32)) &&& (3 : Int32))), .val (.int (4 : Int32)), .val (.int q144), .val (.ref a146), .val (.int (own_rv l188 (3 : Int32) (own_spread q144) (2 : Int32) (2 : Int32))), .val (.int (own_rv (own_rl l188 (3 : Int32) (own_spread q144)) (3 : Int32) (own_spread q144) (2 : Int32) (2 : Int32))), .val (.int (3 : Int32)), .unset, .unset, .unset, .unset]) X196 hx (hb hby at_148) rfl rfl ?_
        refine own_iload (pc' := 152) X196 hx (hb hby at_150) rfl rfl ?_
        refine own_callS (pc' := 155) (y := (⟨"com/example/larder/larder/cache/UseCounts", "spread", "(I)I"⟩ : MethodName)) (W := 0) (rm := own_room5) (argsL := [(.int q144)]) (rest := []) X196 hx hZ rfl hown (by rw [hml]; rfl) (own_w23 hw) (own_w24 hw) (own_w25 hw) (own_w26 hw) (by decide) (own_rm5 lch Z a0 hw [] q144 T196.heap n0) (by decide) (by decide) (by decide) (by decide) (lenOf own_pd0 rfl) rfl (by exact Nat.le_of_eq rfl) (hb hby at_152) rfl ?_
        intro T199 Lc199 v199 X199 hQ199
        obtain ⟨rfl, Nq199, Kq199⟩ := hQ199
        have N199 := Fr.app N196 Nq199
        show own_Ends prg e below s _ _ _ T199 (mkF m 155 #[.val (.int p0), .val (.int p1), .val (.int p2), .val (.int p3), .val (.int p4), .val (.int (2 : Int32)), .val (.int (2 : Int32)), .val (.int ((own_ushr p0 (4 : Int32)) &&& (3 : Int32))), .val (.int (4 : Int32)), .val (.int q144), .val (.ref a146), .val (.int (own_rv l188 (3 : Int32) (own_spread q144) (2 : Int32) (2 : Int32))), .val (.int (own_rv (own_rl l188 (3 : Int32) (own_spread q144)) (3 : Int32) (own_spread q144) (2 : Int32) (2 : Int32))), .val (.int (3 : Int32)), .unset, .unset, .unset, .unset] [(.int (own_spread q144))])
        refine own_iload (pc' := 157) X199 hx (hb hby at_155) rfl rfl ?_
        refine own_iand (pc' := 158) (z := ((own_spread q144) &&& (3 : Int32))) X199 hx (hb hby at_157) rfl rfl ?_
        refine own_istore (pc' := 160) (l' := #[.val (.int p0), .val (.int p1), .val (.int p2), .val (.int p3), .val (.int p4), .val (.int (2 : Int32)), .val (.int (2 : Int32)), .val (.int ((own_ushr p0 (4 : Int32)) &&& (3 : Int32))), .val (.int (4 : Int32)), .val (.int q144), .val (.ref a146), .val (.int (own_rv l188 (3 : Int32) (own_spread q144) (2 : Int32) (2 : Int32))), .val (.int (own_rv (own_rl l188 (3 : Int32) (own_spread q144)) (3 : Int32) (own_spread q144) (2 : Int32) (2 : Int32))), .val (.int (3 : Int32)), .val (.int ((own_spread q144) &&& (3 : Int32))), .unset, .unset, .unset]) X199 hx (hb hby at_158) rfl rfl ?_
        refine own_iconst (pc' := 161) (z := (0 : Int32)) X199 hx (hb hby at_160) rfl rfl ?_
        refine own_istore (pc' := 163) (l' := #[.val (.int p0), .val (.int p1), .val (.int p2), .val (.int p3), .val (.int p4), .val (.int (2 : Int32)), .val (.int (2 : Int32)), .val (.int ((own_ushr p0 (4 : Int32)) &&& (3 : Int32))), .val (.int (4 : Int32)), .val (.int q144), .val (.ref a146), .val (.int (own_rv l188 (3 : Int32) (own_spread q144) (2 : Int32) (2 : Int32))), .val (.int (own_rv (own_rl l188 (3 : Int32) (own_spread q144)) (3 : Int32) (own_spread q144) (2 : Int32) (2 : Int32))), .val (.int (3 : Int32)), .val (.int ((own_spread q144) &&& (3 : Int32))), .val (.int (0 : Int32)), .unset, .unset]) X199 hx (hb hby at_161) rfl rfl ?_
        refine own_iload (pc' := 165) X199 hx (hb hby at_163) rfl rfl ?_
        refine own_iconst (pc' := 166) (z := (3 : Int32)) X199 hx (hb hby at_165) rfl rfl ?_
        refine own_icmpYes (pc' := 187) X199 hx (hb hby at_166) (tlt (by decide)).1 (by decide) (by decide) ?_
        refine own_iload (pc' := 189) X199 hx (hb hby at_187) rfl rfl ?_
        refine own_iconst (pc' := 190) (z := (2 : Int32)) X199 hx (hb hby at_189) rfl rfl ?_
        refine own_icmpNo (pc' := 193) X199 hx (hb hby at_190) rfl (flt (by decide)).1 ?_
        refine own_iloadN (pc' := 194) X199 hx (hb hby at_193) rfl rfl ?_
        refine own_callS (pc' := 197) (y := (⟨"com/example/larder/larder/cache/UseCounts", "spread", "(I)I"⟩ : MethodName)) (W := 0) (rm := own_room5) (argsL := [(.int p2)]) (rest := []) X199 hx hZ Kq199 hown (by rw [hml]; rfl) (own_w23 hw) (own_w24 hw) (own_w25 hw) (own_w26 hw) (by decide) (own_rm5 lch Z a0 hw [] p2 T196.heap n0) (by decide) (by decide) (by decide) (by decide) (lenOf own_pd0 rfl) rfl (by exact Nat.le_of_eq rfl) (hb hby at_194) rfl ?_
        intro T200 Lc200 v200 X200 hQ200
        obtain ⟨rfl, Nq200, Kq200⟩ := hQ200
        have N200 := Fr.app N199 Nq200
        show own_Ends prg e below s _ _ _ T200 (mkF m 197 #[.val (.int p0), .val (.int p1), .val (.int p2), .val (.int p3), .val (.int p4), .val (.int (2 : Int32)), .val (.int (2 : Int32)), .val (.int ((own_ushr p0 (4 : Int32)) &&& (3 : Int32))), .val (.int (4 : Int32)), .val (.int q144), .val (.ref a146), .val (.int (own_rv l188 (3 : Int32) (own_spread q144) (2 : Int32) (2 : Int32))), .val (.int (own_rv (own_rl l188 (3 : Int32) (own_spread q144)) (3 : Int32) (own_spread q144) (2 : Int32) (2 : Int32))), .val (.int (3 : Int32)), .val (.int ((own_spread q144) &&& (3 : Int32))), .val (.int (0 : Int32)), .unset, .unset] [(.int (own_spread p2))])
        refine own_iload (pc' := 199) X200 hx (hb hby at_197) rfl rfl ?_
        refine own_iand (pc' := 200) (z := ((own_spread p2) &&& (3 : Int32))) X200 hx (hb hby at_199) rfl rfl ?_
        refine own_iload (pc' := 202) X200 hx (hb hby at_200) rfl rfl ?_
        by_cases hc202_201 : ((own_spread p2) &&& (3 : Int32)) = ((own_spread q144) &&& (3 : Int32))
        · refine own_icmpNo (pc' := 205) X200 hx (hb hby at_202) rfl (teq hc202_201).2 ?_
          refine own_iconst (pc' := 206) (z := (2 : Int32)) X200 hx (hb hby at_205) rfl rfl ?_
          refine own_istore (pc' := 208) (l' := #[.val (.int p0), .val (.int p1), .val (.int p2), .val (.int p3), .val (.int p4), .val (.int (2 : Int32)), .val (.int (2 : Int32)), .val (.int ((own_ushr p0 (4 : Int32)) &&& (3 : Int32))), .val (.int (4 : Int32)), .val (.int q144), .val (.ref a146), .val (.int (own_rv l188 (3 : Int32) (own_spread q144) (2 : Int32) (2 : Int32))), .val (.int (own_rv (own_rl l188 (3 : Int32) (own_spread q144)) (3 : Int32) (own_spread q144) (2 : Int32) (2 : Int32))), .val (.int (3 : Int32)), .val (.int ((own_spread q144) &&& (3 : Int32))), .val (.int (2 : Int32)), .unset, .unset]) X200 hx (hb hby at_206) rfl rfl ?_
          refine own_goto (pc' := 232) X200 hx (hb hby at_208) (by decide) (by decide) ?_
          refine own_iload (pc' := 234) X200 hx (hb hby at_232) rfl rfl ?_
          refine own_iconst (pc' := 235) (z := (3 : Int32)) X200 hx (hb hby at_234) rfl rfl ?_
          refine own_icmpYes (pc' := 242) X200 hx (hb hby at_235) (feq (by decide)).2 (by decide) (by decide) ?_
          refine own_iload (pc' := 244) X200 hx (hb hby at_242) rfl rfl ?_
          refine own_iconst (pc' := 245) (z := (2 : Int32)) X200 hx (hb hby at_244) rfl rfl ?_
          refine own_icmpNo (pc' := 248) X200 hx (hb hby at_245) rfl (teq (by decide)).2 ?_
          refine own_iloadN (pc' := 249) X200 hx (hb hby at_248) rfl rfl ?_
          refine own_goto (pc' := 253) X200 hx (hb hby at_249) (by decide) (by decide) ?_
          refine own_istore (pc' := 255) (l' := #[.val (.int p0), .val (.int p1), .val (.int p2), .val (.int p3), .val (.int p4), .val (.int (2 : Int32)), .val (.int (2 : Int32)), .val (.int ((own_ushr p0 (4 : Int32)) &&& (3 : Int32))), .val (.int (4 : Int32)), .val (.int q144), .val (.ref a146), .val (.int (own_rv l188 (3 : Int32) (own_spread q144) (2 : Int32) (2 : Int32))), .val (.int (own_rv (own_rl l188 (3 : Int32) (own_spread q144)) (3 : Int32) (own_spread q144) (2 : Int32) (2 : Int32))), .val (.int (3 : Int32)), .val (.int ((own_spread q144) &&& (3 : Int32))), .val (.int (2 : Int32)), .val (.int p2), .unset]) X200 hx (hb hby at_253) rfl rfl ?_
          refine own_iload (pc' := 257) X200 hx (hb hby at_255) rfl rfl ?_
          refine own_ifNo (pc' := 260) X200 hx (hb hby at_257) rfl (feq (by decide)).1 ?_
          refine own_iload (pc' := 262) X200 hx (hb hby at_260) rfl rfl ?_
          refine own_iload (pc' := 264) X200 hx (hb hby at_262) rfl rfl ?_
          by_cases hc264_202 : p2 = q144
          · refine own_icmpNo (pc' := 267) X200 hx (hb hby at_264) rfl (teq hc264_202).2 ?_
            refine own_iload (pc' := 269) X200 hx (hb hby at_267) rfl rfl ?_
            refine own_iload (pc' := 271) X200 hx (hb hby at_269) rfl rfl ?_
            refine own_isub (pc' := 272) (z := (0 : Int32)) X200 hx (hb hby at_271) rfl (by decide) ?_
            refine own_iload (pc' := 274) X200 hx (hb hby at_272) rfl rfl ?_
            refine own_icmpNo (pc' := 277) X200 hx (hb hby at_274) rfl (tlt (by decide)).2.1 ?_
            refine own_iconst (pc' := 278) (z := (1 : Int32)) X200 hx (hb hby at_277) rfl rfl ?_
            refine own_goto (pc' := 282) X200 hx (hb hby at_278) (by decide) (by decide) ?_
            refine own_istore (pc' := 284) (l' := #[.val (.int p0), .val (.int p1), .val (.int p2), .val (.int p3), .val (.int p4), .val (.int (2 : Int32)), .val (.int (2 : Int32)), .val (.int ((own_ushr p0 (4 : Int32)) &&& (3 : Int32))), .val (.int (4 : Int32)), .val (.int q144), .val (.ref a146), .val (.int (own_rv l188 (3 : Int32) (own_spread q144) (2 : Int32) (2 : Int32))), .val (.int (own_rv (own_rl l188 (3 : Int32) (own_spread q144)) (3 : Int32) (own_spread q144) (2 : Int32) (2 : Int32))), .val (.int (3 : Int32)), .val (.int ((own_spread q144) &&& (3 : Int32))), .val (.int (2 : Int32)), .val (.int p2), .val (.int (1 : Int32))]) X200 hx (hb hby at_282) rfl rfl ?_
            refine own_iload (pc' := 286) X200 hx (hb hby at_284) rfl rfl ?_
            refine own_iload (pc' := 288) X200 hx (hb hby at_286) rfl rfl ?_
            have sl203 : own_slot l188 (3 : Int32) (own_spread q144) = own_pack (own_spread p2) (2 : Int64) := by
              rw [el188, el184]
              exact (own_slE (Or.inr (Or.inl ⟨rfl, rfl⟩)) (by simp) hc202_201)
            refine own_icmpNo (pc' := 291) X200 hx (hb hby at_288) rfl (teq ((own_hitv (i := 2) sl203 (by decide) (by decide)).trans ((if_pos hc264_202).trans (by decide)))).2 ?_
            refine own_iload (pc' := 293) X200 hx (hb hby at_291) rfl rfl ?_
            refine own_ifNo (pc' := 296) X200 hx (hb hby at_293) rfl (teq (own_second (Or.inr (Or.inl ⟨rfl, rfl⟩)) hl189)).2 ?_
            refine own_iconst (pc' := 297) (z := (1 : Int32)) X200 hx (hb hby at_296) rfl rfl ?_
            refine own_goto (pc' := 301) X200 hx (hb hby at_297) (by decide) (by decide) ?_
            refine own_retN X200 hx hlk hret (by simp) (hb hby at_301) (by decide) (by decide) ?_
            exact ⟨rfl, N200⟩
          · refine own_icmpYes (pc' := 281) X200 hx (hb hby at_264) (feq hc264_202).2 (by decide) (by decide) ?_
            refine own_iconst (pc' := 282) (z := (0 : Int32)) X200 hx (hb hby at_281) rfl rfl ?_
            refine own_istore (pc' := 284) (l' := #[.val (.int p0), .val (.int p1), .val (.int p2), .val (.int p3), .val (.int p4), .val (.int (2 : Int32)), .val (.int (2 : Int32)), .val (.int ((own_ushr p0 (4 : Int32)) &&& (3 : Int32))), .val (.int (4 : Int32)), .val (.int q144), .val (.ref a146), .val (.int (own_rv l188 (3 : Int32) (own_spread q144) (2 : Int32) (2 : Int32))), .val (.int (own_rv (own_rl l188 (3 : Int32) (own_spread q144)) (3 : Int32) (own_spread q144) (2 : Int32) (2 : Int32))), .val (.int (3 : Int32)), .val (.int ((own_spread q144) &&& (3 : Int32))), .val (.int (2 : Int32)), .val (.int p2), .val (.int (0 : Int32))]) X200 hx (hb hby at_282) rfl rfl ?_
            refine own_iload (pc' := 286) X200 hx (hb hby at_284) rfl rfl ?_
            refine own_iload (pc' := 288) X200 hx (hb hby at_286) rfl rfl ?_
            have sl204 : own_slot l188 (3 : Int32) (own_spread q144) = own_pack (own_spread p2) (2 : Int64) := by
              rw [el188, el184]
              exact (own_slE (Or.inr (Or.inl ⟨rfl, rfl⟩)) (by simp) hc202_201)
            refine own_icmpNo (pc' := 291) X200 hx (hb hby at_288) rfl (teq ((own_hitv (i := 2) sl204 (by decide) (by decide)).trans (if_neg hc264_202))).2 ?_
            refine own_iload (pc' := 293) X200 hx (hb hby at_291) rfl rfl ?_
            refine own_ifNo (pc' := 296) X200 hx (hb hby at_293) rfl (teq (own_second (Or.inr (Or.inl ⟨rfl, rfl⟩)) hl189)).2 ?_
            refine own_iconst (pc' := 297) (z := (1 : Int32)) X200 hx (hb hby at_296) rfl rfl ?_
            refine own_goto (pc' := 301) X200 hx (hb hby at_297) (by decide) (by decide) ?_
            refine own_retN X200 hx hlk hret (by simp) (hb hby at_301) (by decide) (by decide) ?_
            exact ⟨rfl, N200⟩
        · refine own_icmpYes (pc' := 211) X200 hx (hb hby at_202) (feq hc202_201).2 (by decide) (by decide) ?_
          refine own_iload (pc' := 213) X200 hx (hb hby at_211) rfl rfl ?_
          refine own_iconst (pc' := 214) (z := (1 : Int32)) X200 hx (hb hby at_213) rfl rfl ?_
          refine own_icmpNo (pc' := 217) X200 hx (hb hby at_214) rfl (flt (by decide)).1 ?_
          refine own_iloadN (pc' := 218) X200 hx (hb hby at_217) rfl rfl ?_
          refine own_callS (pc' := 221) (y := (⟨"com/example/larder/larder/cache/UseCounts", "spread", "(I)I"⟩ : MethodName)) (W := 0) (rm := own_room5) (argsL := [(.int p1)]) (rest := []) X200 hx hZ Kq200 hown (by rw [hml]; rfl) (own_w23 hw) (own_w24 hw) (own_w25 hw) (own_w26 hw) (by decide) (own_rm5 lch Z a0 hw [] p1 T196.heap n0) (by decide) (by decide) (by decide) (by decide) (lenOf own_pd0 rfl) rfl (by exact Nat.le_of_eq rfl) (hb hby at_218) rfl ?_
          intro T205 Lc205 v205 X205 hQ205
          obtain ⟨rfl, Nq205, Kq205⟩ := hQ205
          have N205 := Fr.app N200 Nq205
          show own_Ends prg e below s _ _ _ T205 (mkF m 221 #[.val (.int p0), .val (.int p1), .val (.int p2), .val (.int p3), .val (.int p4), .val (.int (2 : Int32)), .val (.int (2 : Int32)), .val (.int ((own_ushr p0 (4 : Int32)) &&& (3 : Int32))), .val (.int (4 : Int32)), .val (.int q144), .val (.ref a146), .val (.int (own_rv l188 (3 : Int32) (own_spread q144) (2 : Int32) (2 : Int32))), .val (.int (own_rv (own_rl l188 (3 : Int32) (own_spread q144)) (3 : Int32) (own_spread q144) (2 : Int32) (2 : Int32))), .val (.int (3 : Int32)), .val (.int ((own_spread q144) &&& (3 : Int32))), .val (.int (0 : Int32)), .unset, .unset] [(.int (own_spread p1))])
          refine own_iload (pc' := 223) X205 hx (hb hby at_221) rfl rfl ?_
          refine own_iand (pc' := 224) (z := ((own_spread p1) &&& (3 : Int32))) X205 hx (hb hby at_223) rfl rfl ?_
          refine own_iload (pc' := 226) X205 hx (hb hby at_224) rfl rfl ?_
          by_cases hc226_206 : ((own_spread p1) &&& (3 : Int32)) = ((own_spread q144) &&& (3 : Int32))
          · refine own_icmpNo (pc' := 229) X205 hx (hb hby at_226) rfl (teq hc226_206).2 ?_
            refine own_iconst (pc' := 230) (z := (1 : Int32)) X205 hx (hb hby at_229) rfl rfl ?_
            refine own_istore (pc' := 232) (l' := #[.val (.int p0), .val (.int p1), .val (.int p2), .val (.int p3), .val (.int p4), .val (.int (2 : Int32)), .val (.int (2 : Int32)), .val (.int ((own_ushr p0 (4 : Int32)) &&& (3 : Int32))), .val (.int (4 : Int32)), .val (.int q144), .val (.ref a146), .val (.int (own_rv l188 (3 : Int32) (own_spread q144) (2 : Int32) (2 : Int32))), .val (.int (own_rv (own_rl l188 (3 : Int32) (own_spread q144)) (3 : Int32) (own_spread q144) (2 : Int32) (2 : Int32))), .val (.int (3 : Int32)), .val (.int ((own_spread q144) &&& (3 : Int32))), .val (.int (1 : Int32)), .unset, .unset]) X205 hx (hb hby at_230) rfl rfl ?_
            refine own_iload (pc' := 234) X205 hx (hb hby at_232) rfl rfl ?_
            refine own_iconst (pc' := 235) (z := (3 : Int32)) X205 hx (hb hby at_234) rfl rfl ?_
            refine own_icmpYes (pc' := 242) X205 hx (hb hby at_235) (feq (by decide)).2 (by decide) (by decide) ?_
            refine own_iload (pc' := 244) X205 hx (hb hby at_242) rfl rfl ?_
            refine own_iconst (pc' := 245) (z := (2 : Int32)) X205 hx (hb hby at_244) rfl rfl ?_
            refine own_icmpYes (pc' := 252) X205 hx (hb hby at_245) (feq (by decide)).2 (by decide) (by decide) ?_
            refine own_iloadN (pc' := 253) X205 hx (hb hby at_252) rfl rfl ?_
            refine own_istore (pc' := 255) (l' := #[.val (.int p0), .val (.int p1), .val (.int p2), .val (.int p3), .val (.int p4), .val (.int (2 : Int32)), .val (.int (2 : Int32)), .val (.int ((own_ushr p0 (4 : Int32)) &&& (3 : Int32))), .val (.int (4 : Int32)), .val (.int q144), .val (.ref a146), .val (.int (own_rv l188 (3 : Int32) (own_spread q144) (2 : Int32) (2 : Int32))), .val (.int (own_rv (own_rl l188 (3 : Int32) (own_spread q144)) (3 : Int32) (own_spread q144) (2 : Int32) (2 : Int32))), .val (.int (3 : Int32)), .val (.int ((own_spread q144) &&& (3 : Int32))), .val (.int (1 : Int32)), .val (.int p1), .unset]) X205 hx (hb hby at_253) rfl rfl ?_
            refine own_iload (pc' := 257) X205 hx (hb hby at_255) rfl rfl ?_
            refine own_ifNo (pc' := 260) X205 hx (hb hby at_257) rfl (feq (by decide)).1 ?_
            refine own_iload (pc' := 262) X205 hx (hb hby at_260) rfl rfl ?_
            refine own_iload (pc' := 264) X205 hx (hb hby at_262) rfl rfl ?_
            by_cases hc264_207 : p1 = q144
            · refine own_icmpNo (pc' := 267) X205 hx (hb hby at_264) rfl (teq hc264_207).2 ?_
              refine own_iload (pc' := 269) X205 hx (hb hby at_267) rfl rfl ?_
              refine own_iload (pc' := 271) X205 hx (hb hby at_269) rfl rfl ?_
              refine own_isub (pc' := 272) (z := (1 : Int32)) X205 hx (hb hby at_271) rfl (by decide) ?_
              refine own_iload (pc' := 274) X205 hx (hb hby at_272) rfl rfl ?_
              refine own_icmpNo (pc' := 277) X205 hx (hb hby at_274) rfl (tlt (by decide)).2.1 ?_
              refine own_iconst (pc' := 278) (z := (1 : Int32)) X205 hx (hb hby at_277) rfl rfl ?_
              refine own_goto (pc' := 282) X205 hx (hb hby at_278) (by decide) (by decide) ?_
              refine own_istore (pc' := 284) (l' := #[.val (.int p0), .val (.int p1), .val (.int p2), .val (.int p3), .val (.int p4), .val (.int (2 : Int32)), .val (.int (2 : Int32)), .val (.int ((own_ushr p0 (4 : Int32)) &&& (3 : Int32))), .val (.int (4 : Int32)), .val (.int q144), .val (.ref a146), .val (.int (own_rv l188 (3 : Int32) (own_spread q144) (2 : Int32) (2 : Int32))), .val (.int (own_rv (own_rl l188 (3 : Int32) (own_spread q144)) (3 : Int32) (own_spread q144) (2 : Int32) (2 : Int32))), .val (.int (3 : Int32)), .val (.int ((own_spread q144) &&& (3 : Int32))), .val (.int (1 : Int32)), .val (.int p1), .val (.int (1 : Int32))]) X205 hx (hb hby at_282) rfl rfl ?_
              refine own_iload (pc' := 286) X205 hx (hb hby at_284) rfl rfl ?_
              refine own_iload (pc' := 288) X205 hx (hb hby at_286) rfl rfl ?_
              have sl208 : own_slot l188 (3 : Int32) (own_spread q144) = own_pack (own_spread p1) (1 : Int64) := by
                rw [el188, el184]
                exact ((own_slN (Or.inr (Or.inl ⟨rfl, rfl⟩)) (by simp) hc202_201).trans (own_slE (Or.inr (Or.inl ⟨rfl, rfl⟩)) (List.length_replicate) hc226_206))
              refine own_icmpNo (pc' := 291) X205 hx (hb hby at_288) rfl (teq ((own_hitv (i := 1) sl208 (by decide) (by decide)).trans ((if_pos hc264_207).trans (by decide)))).2 ?_
              refine own_iload (pc' := 293) X205 hx (hb hby at_291) rfl rfl ?_
              refine own_ifNo (pc' := 296) X205 hx (hb hby at_293) rfl (teq (own_second (Or.inr (Or.inl ⟨rfl, rfl⟩)) hl189)).2 ?_
              refine own_iconst (pc' := 297) (z := (1 : Int32)) X205 hx (hb hby at_296) rfl rfl ?_
              refine own_goto (pc' := 301) X205 hx (hb hby at_297) (by decide) (by decide) ?_
              refine own_retN X205 hx hlk hret (by simp) (hb hby at_301) (by decide) (by decide) ?_
              exact ⟨rfl, N205⟩
            · refine own_icmpYes (pc' := 281) X205 hx (hb hby at_264) (feq hc264_207).2 (by decide) (by decide) ?_
              refine own_iconst (pc' := 282) (z := (0 : Int32)) X205 hx (hb hby at_281) rfl rfl ?_
              refine own_istore (pc' := 284) (l' := #[.val (.int p0), .val (.int p1), .val (.int p2), .val (.int p3), .val (.int p4), .val (.int (2 : Int32)), .val (.int (2 : Int32)), .val (.int ((own_ushr p0 (4 : Int32)) &&& (3 : Int32))), .val (.int (4 : Int32)), .val (.int q144), .val (.ref a146), .val (.int (own_rv l188 (3 : Int32) (own_spread q144) (2 : Int32) (2 : Int32))), .val (.int (own_rv (own_rl l188 (3 : Int32) (own_spread q144)) (3 : Int32) (own_spread q144) (2 : Int32) (2 : Int32))), .val (.int (3 : Int32)), .val (.int ((own_spread q144) &&& (3 : Int32))), .val (.int (1 : Int32)), .val (.int p1), .val (.int (0 : Int32))]) X205 hx (hb hby at_282) rfl rfl ?_
              refine own_iload (pc' := 286) X205 hx (hb hby at_284) rfl rfl ?_
              refine own_iload (pc' := 288) X205 hx (hb hby at_286) rfl rfl ?_
              have sl209 : own_slot l188 (3 : Int32) (own_spread q144) = own_pack (own_spread p1) (1 : Int64) := by
                rw [el188, el184]
                exact ((own_slN (Or.inr (Or.inl ⟨rfl, rfl⟩)) (by simp) hc202_201).trans (own_slE (Or.inr (Or.inl ⟨rfl, rfl⟩)) (List.length_replicate) hc226_206))
              refine own_icmpNo (pc' := 291) X205 hx (hb hby at_288) rfl (teq ((own_hitv (i := 1) sl209 (by decide) (by decide)).trans (if_neg hc264_207))).2 ?_
              refine own_iload (pc' := 293) X205 hx (hb hby at_291) rfl rfl ?_
              refine own_ifNo (pc' := 296) X205 hx (hb hby at_293) rfl (teq (own_second (Or.inr (Or.inl ⟨rfl, rfl⟩)) hl189)).2 ?_
              refine own_iconst (pc' := 297) (z := (1 : Int32)) X205 hx (hb hby at_296) rfl rfl ?_
              refine own_goto (pc' := 301) X205 hx (hb hby at_297) (by decide) (by decide) ?_
              refine own_retN X205 hx hlk hret (by simp) (hb hby at_301) (by decide) (by decide) ?_
              exact ⟨rfl, N205⟩
          · refine own_icmpYes (pc' := 232) X205 hx (hb hby at_226) (feq hc226_206).2 (by decide) (by decide) ?_
            refine own_iload (pc' := 234) X205 hx (hb hby at_232) rfl rfl ?_
            refine own_iconst (pc' := 235) (z := (3 : Int32)) X205 hx (hb hby at_234) rfl rfl ?_
            refine own_icmpYes (pc' := 242) X205 hx (hb hby at_235) (feq (by decide)).2 (by decide) (by decide) ?_
            refine own_iload (pc' := 244) X205 hx (hb hby at_242) rfl rfl ?_
            refine own_iconst (pc' := 245) (z := (2 : Int32)) X205 hx (hb hby at_244) rfl rfl ?_
            refine own_icmpYes (pc' := 252) X205 hx (hb hby at_245) (feq (by decide)).2 (by decide) (by decide) ?_
            refine own_iloadN (pc' := 253) X205 hx (hb hby at_252) rfl rfl ?_
            refine own_istore (pc' := 255) (l' := #[.val (.int p0), .val (.int p1), .val (.int p2), .val (.int p3), .val (.int p4), .val (.int (2 : Int32)), .val (.int (2 : Int32)), .val (.int ((own_ushr p0 (4 : Int32)) &&& (3 : Int32))), .val (.int (4 : Int32)), .val (.int q144), .val (.ref a146), .val (.int (own_rv l188 (3 : Int32) (own_spread q144) (2 : Int32) (2 : Int32))), .val (.int (own_rv (own_rl l188 (3 : Int32) (own_spread q144)) (3 : Int32) (own_spread q144) (2 : Int32) (2 : Int32))), .val (.int (3 : Int32)), .val (.int ((own_spread q144) &&& (3 : Int32))), .val (.int (0 : Int32)), .val (.int p1), .unset]) X205 hx (hb hby at_253) rfl rfl ?_
            refine own_iload (pc' := 257) X205 hx (hb hby at_255) rfl rfl ?_
            refine own_ifYes (pc' := 281) X205 hx (hb hby at_257) (teq (by decide)).1 (by decide) (by decide) ?_
            refine own_iconst (pc' := 282) (z := (0 : Int32)) X205 hx (hb hby at_281) rfl rfl ?_
            refine own_istore (pc' := 284) (l' := #[.val (.int p0), .val (.int p1), .val (.int p2), .val (.int p3), .val (.int p4), .val (.int (2 : Int32)), .val (.int (2 : Int32)), .val (.int ((own_ushr p0 (4 : Int32)) &&& (3 : Int32))), .val (.int (4 : Int32)), .val (.int q144), .val (.ref a146), .val (.int (own_rv l188 (3 : Int32) (own_spread q144) (2 : Int32) (2 : Int32))), .val (.int (own_rv (own_rl l188 (3 : Int32) (own_spread q144)) (3 : Int32) (own_spread q144) (2 : Int32) (2 : Int32))), .val (.int (3 : Int32)), .val (.int ((own_spread q144) &&& (3 : Int32))), .val (.int (0 : Int32)), .val (.int p1), .val (.int (0 : Int32))]) X205 hx (hb hby at_282) rfl rfl ?_
            refine own_iload (pc' := 286) X205 hx (hb hby at_284) rfl rfl ?_
            refine own_iload (pc' := 288) X205 hx (hb hby at_286) rfl rfl ?_
            have sl210 : own_slot l188 (3 : Int32) (own_spread q144) = 0 := by
              rw [el188, el184]
              exact ((own_slN (Or.inr (Or.inl ⟨rfl, rfl⟩)) (by simp) hc202_201).trans ((own_slN (Or.inr (Or.inl ⟨rfl, rfl⟩)) (List.length_replicate) hc226_206).trans (own_sl0 _ _ _)))
            refine own_icmpNo (pc' := 291) X205 hx (hb hby at_288) rfl (teq (own_miss sl210)).2 ?_
            refine own_iload (pc' := 293) X205 hx (hb hby at_291) rfl rfl ?_
            refine own_ifNo (pc' := 296) X205 hx (hb hby at_293) rfl (teq (own_second (Or.inr (Or.inl ⟨rfl, rfl⟩)) hl189)).2 ?_
            refine own_iconst (pc' := 297) (z := (1 : Int32)) X205 hx (hb hby at_296) rfl rfl ?_
            refine own_goto (pc' := 301) X205 hx (hb hby at_297) (by decide) (by decide) ?_
            refine own_retN X205 hx hlk hret (by simp) (hb hby at_301) (by decide) (by decide) ?_
            exact ⟨rfl, N205⟩
      · refine own_iload (pc' := 92) X151 hx (hb hby at_90) rfl rfl ?_
        refine own_iconst (pc' := 93) (z := (1 : Int32)) X151 hx (hb hby at_92) rfl rfl ?_
        refine own_icmpNo (pc' := 96) X151 hx (hb hby at_93) rfl (flt (by decide)).1 ?_
        refine own_aload (pc' := 98) X151 hx (hb hby at_96) rfl rfl rfl ?_
        refine own_iloadN (pc' := 99) X151 hx (hb hby at_98) rfl rfl ?_
        have f211 := (A146.keep Kq151)
        have f212 := (Nat.le_trans (Nat.le_trans Z0 E146.1) Kq151.1)
        refine own_callV (pc' := 102) (y := (⟨"com/example/larder/larder/cache/EvictedKeys", "remember", "(I)V"⟩ : MethodName)) (W := 0) (rm := own_room6_2_0) (argsL := [(.int p1)]) (rest := []) (b := a146) (C := "com/example/larder/larder/cache/EvictedKeys") X151 hx hZ rfl hown (by rw [hml]; rfl) f211 (own_w28 hw) (own_w29 hw) (own_w31 hw) (own_w30 hw) (own_w2 hw) (own_w32 hw) (by decide) (own_rm6_2_0 lch Z a0 hw [] a146 p1 T151.heap n0 f212 f211 G151_0 G151_1 G151_2 ge147) (by decide) (by decide) (by decide) (by decide) (lenOf own_pd4 rfl) rfl (by exact Nat.le_of_eq rfl) (hb hby at_99) rfl ?_
        intro T213 Lc213 v213 X213 hQ213
        obtain ⟨b213, bk213, rfl, Nq213, Kq213, G213_0, G213_1, G213_2, G213_3, G213_4⟩ := hQ213
        have N213 := Fr.app N151 Nq213
        have ge214 : n0 ≤ b213 := Nat.le_trans f212 G213_0
        have ne215 : a146 ≠ b213 := Nat.ne_of_lt (Nat.lt_of_lt_of_le f211.lt G213_0)
        obtain ⟨l216, el216⟩ : ∃ z, z = ((List.replicate 4 (0 : Int64)).set (own_ixm (3 : Int32) (own_spread p1)) (own_pack (own_spread p1) (1 : Int64))) := ⟨_, rfl⟩
        rw [← el216] at G213_4
        have hl217 : l216.length = 4 := by rw [el216, List.length_set]; rfl
        show own_Ends prg e below s _ _ _ T213 (mkF m 102 #[.val (.int p0), .val (.int p1), .val (.int p2), .val (.int p3), .val (.int p4), .val (.int (2 : Int32)), .val (.int (3 : Int32)), .val (.int ((own_ushr p0 (4 : Int32)) &&& (3 : Int32))), .val (.int (4 : Int32)), .val (.int q144), .val (.ref a146), .unset, .unset, .unset, .unset, .unset, .unset, .unset] [])
        refine own_iload (pc' := 104) X213 hx (hb hby at_102) rfl rfl ?_
        refine own_iconst (pc' := 105) (z := (2 : Int32)) X213 hx (hb hby at_104) rfl rfl ?_
        refine own_icmpNo (pc' := 108) X213 hx (hb hby at_105) rfl (flt (by decide)).1 ?_
        refine own_aload (pc' := 110) X213 hx (hb hby at_108) rfl rfl rfl ?_
        refine own_iloadN (pc' := 111) X213 hx (hb hby at_110) rfl rfl ?_
        have f218 := (f211.keep Kq213)
        refine own_callV (pc' := 114) (y := (⟨"com/example/larder/larder/cache/EvictedKeys", "remember", "(I)V"⟩ : MethodName)) (W := 0) (rm := own_room6_2_1) (argsL := [(.int p2)]) (rest := []) (b := a146) (C := "com/example/larder/larder/cache/EvictedKeys") X213 hx hZ rfl hown (by rw [hml]; rfl) f218 (own_w28 hw) (own_w29 hw) (own_w31 hw) (own_w30 hw) (own_w2 hw) (own_w32 hw) (by decide) (own_rm6_2_1 lch Z a0 hw [] a146 p2 b213 bk213 l216 T213.heap n0 f218 G213_1 G213_2 G213_3 ge147 G213_4 hl217 ge214 ne215) (by decide) (by decide) (by decide) (by decide) (lenOf own_pd4 rfl) rfl (by exact Nat.le_of_eq rfl) (hb hby at_111) rfl ?_
        intro T219 Lc219 v219 X219 hQ219
        obtain ⟨rfl, Nq219, Kq219, G219_0, G219_1, G219_2, G219_3⟩ := hQ219
        have N219 := Fr.app N213 Nq219
        obtain ⟨l220, el220⟩ : ∃ z, z = (l216.set (own_ixm (3 : Int32) (own_spread p2)) (own_pack (own_spread p2) (2 : Int64))) := ⟨_, rfl⟩
        rw [← el220] at G219_3
        have hl221 : l220.length = 4 := by rw [el220, List.length_set]; exact hl217
        show own_Ends prg e below s _ _ _ T219 (mkF m 114 #[.val (.int p0), .val (.int p1), .val (.int p2), .val (.int p3), .val (.int p4), .val (.int (2 : Int32)), .val (.int (3 : Int32)), .val (.int ((own_ushr p0 (4 : Int32)) &&& (3 : Int32))), .val (.int (4 : Int32)), .val (.int q144), .val (.ref a146), .unset, .unset, .unset, .unset, .unset, .unset, .unset] [])
        refine own_iload (pc' := 116) X219 hx (hb hby at_114) rfl rfl ?_
        refine own_iconst (pc' := 117) (z := (3 : Int32)) X219 hx (hb hby at_116) rfl rfl ?_
        refine own_icmpNo (pc' := 120) X219 hx (hb hby at_117) rfl (flt (by decide)).1 ?_
        refine own_aload (pc' := 122) X219 hx (hb hby at_120) rfl rfl rfl ?_
        refine own_iloadN (pc' := 123) X219 hx (hb hby at_122) rfl rfl ?_
        have f222 := (f218.keep Kq219)
        refine own_callV (pc' := 126) (y := (⟨"com/example/larder/larder/cache/EvictedKeys", "remember", "(I)V"⟩ : MethodName)) (W := 0) (rm := own_room6_2_2) (argsL := [(.int p3)]) (rest := []) (b := a146) (C := "com/example/larder/larder/cache/EvictedKeys") X219 hx hZ rfl hown (by rw [hml]; rfl) f222 (own_w28 hw) (own_w29 hw) (own_w31 hw) (own_w30 hw) (own_w2 hw) (own_w32 hw) (by decide) (own_rm6_2_2 lch Z a0 hw [] a146 p3 b213 bk213 l220 T219.heap n0 f222 G219_0 G219_1 G219_2 ge147 G219_3 hl221 ge214 ne215) (by decide) (by decide) (by decide) (by decide) (lenOf own_pd4 rfl) rfl (by exact Nat.le_of_eq rfl) (hb hby at_123) rfl ?_
        intro T223 Lc223 v223 X223 hQ223
        obtain ⟨rfl, Nq223, Kq223, G223_0, G223_1, G223_2, G223_3⟩ := hQ223
        have N223 := Fr.app N219 Nq223
        obtain ⟨l224, el224⟩ : ∃ z, z = (l220.set (own_ixm (3 : Int32) (own_spread p3)) (own_pack (own_spread p3) (3 : Int64))) := ⟨_, rfl⟩
        rw [← el224] at G223_3
        have hl225 : l224.length = 4 := by rw [el224, List.length_set]; exact hl221
        show own_Ends prg e below s _ _ _ T223 (mkF m 126 #[.val (.int p0), .val (.int p1), .val (.int p2), .val (.int p3), .val (.int p4), .val (.int (2 : Int32)), .val (.int (3 : Int32)), .val (.int ((own_ushr p0 (4 : Int32)) &&& (3 : Int32))), .val (.int (4 : Int32)), .val (.int q144), .val (.ref a146), .unset, .unset, .unset, .unset, .unset, .unset, .unset] [])
        refine own_aload (pc' := 128) X223 hx (hb hby at_126) rfl rfl rfl ?_
        refine own_iload (pc' := 130) X223 hx (hb hby at_128) rfl rfl ?_
        have f227 := (f222.keep Kq223)
        refine own_callV (pc' := 133) (y := (⟨"com/example/larder/larder/cache/EvictedKeys", "recall", "(I)Z"⟩ : MethodName)) (W := 0) (rm := own_room4_4) (argsL := [(.int q144)]) (rest := []) (b := a146) (C := "com/example/larder/larder/cache/EvictedKeys") X223 hx hZ rfl hown (by rw [hml]; rfl) f227 (own_w16 hw) (own_w17 hw) (own_w19 hw) (own_w18 hw) (own_w2 hw) (own_w20 hw) (by decide) (own_rm4_4 lch Z a0 hw [] a146 q144 b213 bk213 l224 (3 : Int32) (2 : Int32) T223.heap n0 G223_0 G223_1 G223_2 G223_3 hl225 ge214 ne215) (by decide) (by decide) (by decide) (by decide) (lenOf own_pd3 rfl) rfl (by exact Nat.le_of_eq rfl) (hb hby at_130) rfl ?_
        intro T226 Lc226 v226 X226 hQ226
        obtain ⟨rfl, Nq226, Kq226, G226_0⟩ := hQ226
        have N226 := Fr.app N223 Nq226
        have hl228 : (own_rl l224 (3 : Int32) (own_spread q144)).length = 4 := (own_rllen _ _ _).trans hl225
        show own_Ends prg e below s _ _ _ T226 (mkF m 133 #[.val (.int p0), .val (.int p1), .val (.int p2), .val (.int p3), .val (.int p4), .val (.int (2 : Int32)), .val (.int (3 : Int32)), .val (.int ((own_ushr p0 (4 : Int32)) &&& (3 : Int32))), .val (.int (4 : Int32)), .val (.int q144), .val (.ref a146), .unset, .unset, .unset, .unset, .unset, .unset, .unset] [(.int (own_rv l224 (3 : Int32) (own_spread q144) (3 : Int32) (2 : Int32)))])
        refine own_istore (pc' := 135) (l' := #[.val (.int p0), .val (.int p1), .val (.int p2), .val (.int p3), .val (.int p4), .val (.int (2 : Int32)), .val (.int (3 : Int32)), .val (.int ((own_ushr p0 (4 : Int32)) &&& (3 : Int32))), .val (.int (4 : Int32)), .val (.int q144), .val (.ref a146), .val (.int (own_rv l224 (3 : Int32) (own_spread q144) (3 : Int32) (2 : Int32))), .unset, .unset, .unset, .unset, .unset, .unset]) X226 hx (hb hby at_133) rfl rfl ?_
        refine own_aload (pc' := 137) X226 hx (hb hby at_135) rfl rfl rfl ?_
        refine own_iload (pc' := 139) X226 hx (hb hby at_137) rfl rfl ?_
        have f229 := (G223_0.keep Kq226 (ninS ne215 nin0))
        have f230 := (G223_1.keep Kq226 (ninS ne215 nin0))
        have f231 := (G223_2.keep Kq226 (ninS ne215 nin0))
        have f233 := (f227.keep Kq226)
        refine own_callV (pc' := 142) (y := (⟨"com/example/larder/larder/cache/EvictedKeys", "recall", "(I)Z"⟩ : MethodName)) (W := 0) (rm := own_room4_4) (argsL := [(.int q144)]) (rest := []) (b := a146) (C := "com/example/larder/larder/cache/EvictedKeys") X226 hx hZ rfl hown (by rw [hml]; rfl) f233 (own_w16 hw) (own_w17 hw) (own_w19 hw) (own_w18 hw) (own_w2 hw) (own_w20 hw) (by decide) (own_rm4_4 lch Z a0 hw [] a146 q144 b213 bk213 (own_rl l224 (3 : Int32) (own_spread q144)) (3 : Int32) (2 : Int32) T226.heap n0 f229 f230 f231 G226_0 hl228 ge214 ne215) (by decide) (by decide) (by decide) (by decide) (lenOf own_pd3 rfl) rfl (by exact Nat.le_of_eq rfl) (hb hby at_139) rfl ?_
        intro T232 Lc232 v232 X232 hQ232
        obtain ⟨rfl, Nq232, Kq232, G232_0⟩ := hQ232
        have N232 := Fr.app N226 Nq232
        have hl234 : (own_rl (own_rl l224 (3 : Int32) (own_spread q144)) (3 : Int32) (own_spread q144)).length = 4 := (own_rllen _ _ _).trans hl228
        show own_Ends prg e below s _ _ _ T232 (mkF m 142 #[.val (.int p0), .val (.int p1), .val (.int p2), .val (.int p3), .val (.int p4), .val (.int (2 : Int32)), .val (.int (3 : Int32)), .val (.int ((own_ushr p0 (4 : Int32)) &&& (3 : Int32))), .val (.int (4 : Int32)), .val (.int q144), .val (.ref a146), .val (.int (own_rv l224 (3 : Int32) (own_spread q144) (3 : Int32) (2 : Int32))), .unset, .unset, .unset, .unset, .unset, .unset] [(.int (own_rv (own_rl l224 (3 : Int32) (own_spread q144)) (3 : Int32) (own_spread q144) (3 : Int32) (2 : Int32)))])
        refine own_istore (pc' := 144) (l' := #[.val (.int p0), .val (.int p1), .val (.int p2), .val (.int p3), .val (.int p4), .val (.int (2 : Int32)), .val (.int (3 : Int32)), .val (.int ((own_ushr p0 (4 : Int32)) &&& (3 : Int32))), .val (.int (4 : Int32)), .val (.int q144), .val (.ref a146), .val (.int (own_rv l224 (3 : Int32) (own_spread q144) (3 : Int32) (2 : Int32))), .val (.int (own_rv (own_rl l224 (3 : Int32) (own_spread q144)) (3 : Int32) (own_spread q144) (3 : Int32) (2 : Int32))), .unset, .unset, .unset, .unset, .unset]) X232 hx (hb hby at_142) rfl rfl ?_
        refine own_iload (pc' := 146) X232 hx (hb hby at_144) rfl rfl ?_
        refine own_iconst (pc' := 147) (z := (1 : Int32)) X232 hx (hb hby at_146) rfl rfl ?_
        refine own_isub (pc' := 148) (z := (3 : Int32)) X232 hx (hb hby at_147) rfl (by decide) ?_
        refine own_istore (pc' := 150) (l' := #[.val (.int p0), .val (.int p1), .val (.int p2), .val (.int p3), .val (.int p4), .val (.int (2 : Int32)), .val (.int (3 : Int32)), .val (.int ((own_ushr p0 (4 : Int32)) &&& (3 : Int32))), .val (.int (4 : Int32)), .val (.int q144), .val (.ref a146), .val (.int (own_rv l224 (3 : Int32) (own_spread q144) (3 : Int32) (2 : Int32))), .val (.int (own_rv (own_rl l224 (3 : Int32) (own_spread q144)) (3 : Int32) (own_spread q144) (3 : Int32) (2 : Int32))), .val (.int (3 : Int32)), .unset, .unset, .unset, .unset]) X232 hx (hb hby at_148) rfl rfl ?_
        refine own_iload (pc' := 152) X232 hx (hb hby at_150) rfl rfl ?_
        refine own_callS (pc' := 155) (y := (⟨"com/example/larder/larder/cache/UseCounts", "spread", "(I)I"⟩ : MethodName)) (W := 0) (rm := own_room5) (argsL := [(.int q144)]) (rest := []) X232 hx hZ rfl hown (by rw [hml]; rfl) (own_w23 hw) (own_w24 hw) (own_w25 hw) (own_w26 hw) (by decide) (own_rm5 lch Z a0 hw [] q144 T232.heap n0) (by decide) (by decide) (by decide) (by decide) (lenOf own_pd0 rfl) rfl (by exact Nat.le_of_eq rfl) (hb hby at_152) rfl ?_
        intro T235 Lc235 v235 X235 hQ235
        obtain ⟨rfl, Nq235, Kq235⟩ := hQ235
        have N235 := Fr.app N232 Nq235
        show own_Ends prg e below s _ _ _ T235 (mkF m 155 #[.val (.int p0), .val (.int p1), .val (.int p2), .val (.int p3), .val (.int p4), .val (.int (2 : Int32)), .val (.int (3 : Int32)), .val (.int ((own_ushr p0 (4 : Int32)) &&& (3 : Int32))), .val (.int (4 : Int32)), .val (.int q144), .val (.ref a146), .val (.int (own_rv l224 (3 : Int32) (own_spread q144) (3 : Int32) (2 : Int32))), .val (.int (own_rv (own_rl l224 (3 : Int32) (own_spread q144)) (3 : Int32) (own_spread q144) (3 : Int32) (2 : Int32))), .val (.int (3 : Int32)), .unset, .unset, .unset, .unset] [(.int (own_spread q144))])
        refine own_iload (pc' := 157) X235 hx (hb hby at_155) rfl rfl ?_
        refine own_iand (pc' := 158) (z := ((own_spread q144) &&& (3 : Int32))) X235 hx (hb hby at_157) rfl rfl ?_
        refine own_istore (pc' := 160) (l' := #[.val (.int p0), .val (.int p1), .val (.int p2), .val (.int p3), .val (.int p4), .val (.int (2 : Int32)), .val (.int (3 : Int32)), .val (.int ((own_ushr p0 (4 : Int32)) &&& (3 : Int32))), .val (.int (4 : Int32)), .val (.int q144), .val (.ref a146), .val (.int (own_rv l224 (3 : Int32) (own_spread q144) (3 : Int32) (2 : Int32))), .val (.int (own_rv (own_rl l224 (3 : Int32) (own_spread q144)) (3 : Int32) (own_spread q144) (3 : Int32) (2 : Int32))), .val (.int (3 : Int32)), .val (.int ((own_spread q144) &&& (3 : Int32))), .unset, .unset, .unset]) X235 hx (hb hby at_158) rfl rfl ?_
        refine own_iconst (pc' := 161) (z := (0 : Int32)) X235 hx (hb hby at_160) rfl rfl ?_
        refine own_istore (pc' := 163) (l' := #[.val (.int p0), .val (.int p1), .val (.int p2), .val (.int p3), .val (.int p4), .val (.int (2 : Int32)), .val (.int (3 : Int32)), .val (.int ((own_ushr p0 (4 : Int32)) &&& (3 : Int32))), .val (.int (4 : Int32)), .val (.int q144), .val (.ref a146), .val (.int (own_rv l224 (3 : Int32) (own_spread q144) (3 : Int32) (2 : Int32))), .val (.int (own_rv (own_rl l224 (3 : Int32) (own_spread q144)) (3 : Int32) (own_spread q144) (3 : Int32) (2 : Int32))), .val (.int (3 : Int32)), .val (.int ((own_spread q144) &&& (3 : Int32))), .val (.int (0 : Int32)), .unset, .unset]) X235 hx (hb hby at_161) rfl rfl ?_
        refine own_iload (pc' := 165) X235 hx (hb hby at_163) rfl rfl ?_
        refine own_iconst (pc' := 166) (z := (3 : Int32)) X235 hx (hb hby at_165) rfl rfl ?_
        refine own_icmpNo (pc' := 169) X235 hx (hb hby at_166) rfl (flt (by decide)).1 ?_
        refine own_iloadN (pc' := 170) X235 hx (hb hby at_169) rfl rfl ?_
        refine own_callS (pc' := 173) (y := (⟨"com/example/larder/larder/cache/UseCounts", "spread", "(I)I"⟩ : MethodName)) (W := 0) (rm := own_room5) (argsL := [(.int p3)]) (rest := []) X235 hx hZ Kq235 hown (by rw [hml]; rfl) (own_w23 hw) (own_w24 hw) (own_w25 hw) (own_w26 hw) (by decide) (own_rm5 lch Z a0 hw [] p3 T232.heap n0) (by decide) (by decide) (by decide) (by decide) (lenOf own_pd0 rfl) rfl (by exact Nat.le_of_eq rfl) (hb hby at_170) rfl ?_
        intro T236 Lc236 v236 X236 hQ236
        obtain ⟨rfl, Nq236, Kq236⟩ := hQ236
        have N236 := Fr.app N235 Nq236
        show own_Ends prg e below s _ _ _ T236 (mkF m 173 #[.val (.int p0), .val (.int p1), .val (.int p2), .val (.int p3), .val (.int p4), .val (.int (2 : Int32)), .val (.int (3 : Int32)), .val (.int ((own_ushr p0 (4 : Int32)) &&& (3 : Int32))), .val (.int (4 : Int32)), .val (.int q144), .val (.ref a146), .val (.int (own_rv l224 (3 : Int32) (own_spread q144) (3 : Int32) (2 : Int32))), .val (.int (own_rv (own_rl l224 (3 : Int32) (own_spread q144)) (3 : Int32) (own_spread q144) (3 : Int32) (2 : Int32))), .val (.int (3 : Int32)), .val (.int ((own_spread q144) &&& (3 : Int32))), .val (.int (0 : Int32)), .unset, .unset] [(.int (own_spread p3))])
        refine own_iload (pc' := 175) X236 hx (hb hby at_173) rfl rfl ?_
        refine own_iand (pc' := 176) (z := ((own_spread p3) &&& (3 : Int32))) X236 hx (hb hby at_175) rfl rfl ?_
        refine own_iload (pc' := 178) X236 hx (hb hby at_176) rfl rfl ?_
        by_cases hc178_237 : ((own_spread p3) &&& (3 : Int32)) = ((own_spread q144) &&& (3 : Int32))
        · refine own_icmpNo (pc' := 181) X236 hx (hb hby at_178) rfl (teq hc178_237).2 ?_
          refine own_iconst (pc' := 182) (z := (3 : Int32)) X236 hx (hb hby at_181) rfl rfl ?_
          refine own_istore (pc' := 184) (l' := #[.val (.int p0), .val (.int p1), .val (.int p2), .val (.int p3), .val (.int p4), .val (.int (2 : Int32)), .val (.int (3 : Int32)), .val (.int ((own_ushr p0 (4 : Int32)) &&& (3 : Int32))), .val (.int (4 : Int32)), .val (.int q144), .val (.ref a146), .val (.int (own_rv l224 (3 : Int32) (own_spread q144) (3 : Int32) (2 : Int32))), .val (.int (own_rv (own_rl l224 (3 : Int32) (own_spread q144)) (3 : Int32) (own_spread q144) (3 : Int32) (2 : Int32))), .val (.int (3 : Int32)), .val (.int ((own_spread q144) &&& (3 : Int32))), .val (.int (3 : Int32)), .unset, .unset]) X236 hx (hb hby at_182) rfl rfl ?_
          refine own_goto (pc' := 232) X236 hx (hb hby at_184) (by decide) (by decide) ?_
          refine own_iload (pc' := 234) X236 hx (hb hby at_232) rfl rfl ?_
          refine own_iconst (pc' := 235) (z := (3 : Int32)) X236 hx (hb hby at_234) rfl rfl ?_
          refine own_icmpNo (pc' := 238) X236 hx (hb hby at_235) rfl (teq (by decide)).2 ?_
          refine own_iloadN (pc' := 239) X236 hx (hb hby at_238) rfl rfl ?_
          refine own_goto (pc' := 253) X236 hx (hb hby at_239) (by decide) (by decide) ?_
          refine own_istore (pc' := 255) (l' := #[.val (.int p0), .val (.int p1), .val (.int p2), .val (.int p3), .val (.int p4), .val (.int (2 : Int32)), .val (.int (3 : Int32)), .val (.int ((own_ushr p0 (4 : Int32)) &&& (3 : Int32))), .val (.int (4 : Int32)), .val (.int q144), .val (.ref a146), .val (.int (own_rv l224 (3 : Int32) (own_spread q144) (3 : Int32) (2 : Int32))), .val (.int (own_rv (own_rl l224 (3 : Int32) (own_spread q144)) (3 : Int32) (own_spread q144) (3 : Int32) (2 : Int32))), .val (.int (3 : Int32)), .val (.int ((own_spread q144) &&& (3 : Int32))), .val (.int (3 : Int32)), .val (.int p3), .unset]) X236 hx (hb hby at_253) rfl rfl ?_
          refine own_iload (pc' := 257) X236 hx (hb hby at_255) rfl rfl ?_
          refine own_ifNo (pc' := 260) X236 hx (hb hby at_257) rfl (feq (by decide)).1 ?_
          refine own_iload (pc' := 262) X236 hx (hb hby at_260) rfl rfl ?_
          refine own_iload (pc' := 264) X236 hx (hb hby at_262) rfl rfl ?_
          by_cases hc264_238 : p3 = q144
          · refine own_icmpNo (pc' := 267) X236 hx (hb hby at_264) rfl (teq hc264_238).2 ?_
            refine own_iload (pc' := 269) X236 hx (hb hby at_267) rfl rfl ?_
            refine own_iload (pc' := 271) X236 hx (hb hby at_269) rfl rfl ?_
            refine own_isub (pc' := 272) (z := (0 : Int32)) X236 hx (hb hby at_271) rfl (by decide) ?_
            refine own_iload (pc' := 274) X236 hx (hb hby at_272) rfl rfl ?_
            refine own_icmpNo (pc' := 277) X236 hx (hb hby at_274) rfl (tlt (by decide)).2.1 ?_
            refine own_iconst (pc' := 278) (z := (1 : Int32)) X236 hx (hb hby at_277) rfl rfl ?_
            refine own_goto (pc' := 282) X236 hx (hb hby at_278) (by decide) (by decide) ?_
            refine own_istore (pc' := 284) (l' := #[.val (.int p0), .val (.int p1), .val (.int p2), .val (.int p3), .val (.int p4), .val (.int (2 : Int32)), .val (.int (3 : Int32)), .val (.int ((own_ushr p0 (4 : Int32)) &&& (3 : Int32))), .val (.int (4 : Int32)), .val (.int q144), .val (.ref a146), .val (.int (own_rv l224 (3 : Int32) (own_spread q144) (3 : Int32) (2 : Int32))), .val (.int (own_rv (own_rl l224 (3 : Int32) (own_spread q144)) (3 : Int32) (own_spread q144) (3 : Int32) (2 : Int32))), .val (.int (3 : Int32)), .val (.int ((own_spread q144) &&& (3 : Int32))), .val (.int (3 : Int32)), .val (.int p3), .val (.int (1 : Int32))]) X236 hx (hb hby at_282) rfl rfl ?_
            refine own_iload (pc' := 286) X236 hx (hb hby at_284) rfl rfl ?_
            refine own_iload (pc' := 288) X236 hx (hb hby at_286) rfl rfl ?_
            have sl239 : own_slot l224 (3 : Int32) (own_spread q144) = own_pack (own_spread p3) (3 : Int64) := by
              rw [el224, el220, el216]
              exact (own_slE (Or.inr (Or.inl ⟨rfl, rfl⟩)) (by simp) hc178_237)
            refine own_icmpNo (pc' := 291) X236 hx (hb hby at_288) rfl (teq ((own_hitv (i := 3) sl239 (by decide) (by decide)).trans ((if_pos hc264_238).trans (by decide)))).2 ?_
            refine own_iload (pc' := 293) X236 hx (hb hby at_291) rfl rfl ?_
            refine own_ifNo (pc' := 296) X236 hx (hb hby at_293) rfl (teq (own_second (Or.inr (Or.inl ⟨rfl, rfl⟩)) hl225)).2 ?_
            refine own_iconst (pc' := 297) (z := (1 : Int32)) X236 hx (hb hby at_296) rfl rfl ?_
            refine own_goto (pc' := 301) X236 hx (hb hby at_297) (by decide) (by decide) ?_
            refine own_retN X236 hx hlk hret (by simp) (hb hby at_301) (by decide) (by decide) ?_
            exact ⟨rfl, N236⟩
          · refine own_icmpYes (pc' := 281) X236 hx (hb hby at_264) (feq hc264_238).2 (by decide) (by decide) ?_
            refine own_iconst (pc' := 282) (z := (0 : Int32)) X236 hx (hb hby at_281) rfl rfl ?_
            refine own_istore (pc' := 284) (l' := #[.val (.int p0), .val (.int p1), .val (.int p2), .val (.int p3), .val (.int p4), .val (.int (2 : Int32)), .val (.int (3 : Int32)), .val (.int ((own_ushr p0 (4 : Int32)) &&& (3 : Int32))), .val (.int (4 : Int32)), .val (.int q144), .val (.ref a146), .val (.int (own_rv l224 (3 : Int32) (own_spread q144) (3 : Int32) (2 : Int32))), .val (.int (own_rv (own_rl l224 (3 : Int32) (own_spread q144)) (3 : Int32) (own_spread q144) (3 : Int32) (2 : Int32))), .val (.int (3 : Int32)), .val (.int ((own_spread q144) &&& (3 : Int32))), .val (.int (3 : Int32)), .val (.int p3), .val (.int (0 : Int32))]) X236 hx (hb hby at_282) rfl rfl ?_
            refine own_iload (pc' := 286) X236 hx (hb hby at_284) rfl rfl ?_
            refine own_iload (pc' := 288) X236 hx (hb hby at_286) rfl rfl ?_
            have sl240 : own_slot l224 (3 : Int32) (own_spread q144) = own_pack (own_spread p3) (3 : Int64) := by
              rw [el224, el220, el216]
              exact (own_slE (Or.inr (Or.inl ⟨rfl, rfl⟩)) (by simp) hc178_237)
            refine own_icmpNo (pc' := 291) X236 hx (hb hby at_288) rfl (teq ((own_hitv (i := 3) sl240 (by decide) (by decide)).trans (if_neg hc264_238))).2 ?_
            refine own_iload (pc' := 293) X236 hx (hb hby at_291) rfl rfl ?_
            refine own_ifNo (pc' := 296) X236 hx (hb hby at_293) rfl (teq (own_second (Or.inr (Or.inl ⟨rfl, rfl⟩)) hl225)).2 ?_
            refine own_iconst (pc' := 297) (z := (1 : Int32)) X236 hx (hb hby at_296) rfl rfl ?_
            refine own_goto (pc' := 301) X236 hx (hb hby at_297) (by decide) (by decide) ?_
            refine own_retN X236 hx hlk hret (by simp) (hb hby at_301) (by decide) (by decide) ?_
            exact ⟨rfl, N236⟩
        · refine own_icmpYes (pc' := 187) X236 hx (hb hby at_178) (feq hc178_237).2 (by decide) (by decide) ?_
          refine own_iload (pc' := 189) X236 hx (hb hby at_187) rfl rfl ?_
          refine own_iconst (pc' := 190) (z := (2 : Int32)) X236 hx (hb hby at_189) rfl rfl ?_
          refine own_icmpNo (pc' := 193) X236 hx (hb hby at_190) rfl (flt (by decide)).1 ?_
          refine own_iloadN (pc' := 194) X236 hx (hb hby at_193) rfl rfl ?_
          refine own_callS (pc' := 197) (y := (⟨"com/example/larder/larder/cache/UseCounts", "spread", "(I)I"⟩ : MethodName)) (W := 0) (rm := own_room5) (argsL := [(.int p2)]) (rest := []) X236 hx hZ Kq236 hown (by rw [hml]; rfl) (own_w23 hw) (own_w24 hw) (own_w25 hw) (own_w26 hw) (by decide) (own_rm5 lch Z a0 hw [] p2 T232.heap n0) (by decide) (by decide) (by decide) (by decide) (lenOf own_pd0 rfl) rfl (by exact Nat.le_of_eq rfl) (hb hby at_194) rfl ?_
          intro T241 Lc241 v241 X241 hQ241
          obtain ⟨rfl, Nq241, Kq241⟩ := hQ241
          have N241 := Fr.app N236 Nq241
          show own_Ends prg e below s _ _ _ T241 (mkF m 197 #[.val (.int p0), .val (.int p1), .val (.int p2), .val (.int p3), .val (.int p4), .val (.int (2 : Int32)), .val (.int (3 : Int32)), .val (.int ((own_ushr p0 (4 : Int32)) &&& (3 : Int32))), .val (.int (4 : Int32)), .val (.int q144), .val (.ref a146), .val (.int (own_rv l224 (3 : Int32) (own_spread q144) (3 : Int32) (2 : Int32))), .val (.int (own_rv (own_rl l224 (3 : Int32) (own_spread q144)) (3 : Int32) (own_spread q144) (3 : Int32) (2 : Int32))), .val (.int (3 : Int32)), .val (.int ((own_spread q144) &&& (3 : Int32))), .val (.int (0 : Int32)), .unset, .unset] [(.int (own_spread p2))])
          refine own_iload (pc' := 199) X241 hx (hb hby at_197) rfl rfl ?_
          refine own_iand (pc' := 200) (z := ((own_spread p2) &&& (3 : Int32))) X241 hx (hb hby at_199) rfl rfl ?_
          refine own_iload (pc' := 202) X241 hx (hb hby at_200) rfl rfl ?_
          by_cases hc202_242 : ((own_spread p2) &&& (3 : Int32)) = ((own_spread q144) &&& (3 : Int32))
          · refine own_icmpNo (pc' := 205) X241 hx (hb hby at_202) rfl (teq hc202_242).2 ?_
            refine own_iconst (pc' := 206) (z := (2 : Int32)) X241 hx (hb hby at_205) rfl rfl ?_
            refine own_istore (pc' := 208) (l' := #[.val (.int p0), .val (.int p1), .val (.int p2), .val (.int p3), .val (.int p4), .val (.int (2 : Int32)), .val (.int (3 : Int32)), .val (.int ((own_ushr p0 (4 : Int32)) &&& (3 : Int32))), .val (.int (4 : Int32)), .val (.int q144), .val (.ref a146), .val (.int (own_rv l224 (3 : Int32) (own_spread q144) (3 : Int32) (2 : Int32))), .val (.int (own_rv (own_rl l224 (3 : Int32) (own_spread q144)) (3 : Int32) (own_spread q144) (3 : Int32) (2 : Int32))), .val (.int (3 : Int32)), .val (.int ((own_spread q144) &&& (3 : Int32))), .val (.int (2 : Int32)), .unset, .unset]) X241 hx (hb hby at_206) rfl rfl ?_
            refine own_goto (pc' := 232) X241 hx (hb hby at_208) (by decide) (by decide) ?_
            refine own_iload (pc' := 234) X241 hx (hb hby at_232) rfl rfl ?_
            refine own_iconst (pc' := 235) (z := (3 : Int32)) X241 hx (hb hby at_234) rfl rfl ?_
            refine own_icmpYes (pc' := 242) X241 hx (hb hby at_235) (feq (by decide)).2 (by decide) (by decide) ?_
            refine own_iload (pc' := 244) X241 hx (hb hby at_242) rfl rfl ?_
            refine own_iconst (pc' := 245) (z := (2 : Int32)) X241 hx (hb hby at_244) rfl rfl ?_
            refine own_icmpNo (pc' := 248) X241 hx (hb hby at_245) rfl (teq (by decide)).2 ?_
            refine own_iloadN (pc' := 249) X241 hx (hb hby at_248) rfl rfl ?_
            refine own_goto (pc' := 253) X241 hx (hb hby at_249) (by decide) (by decide) ?_
            refine own_istore (pc' := 255) (l' := #[.val (.int p0), .val (.int p1), .val (.int p2), .val (.int p3), .val (.int p4), .val (.int (2 : Int32)), .val (.int (3 : Int32)), .val (.int ((own_ushr p0 (4 : Int32)) &&& (3 : Int32))), .val (.int (4 : Int32)), .val (.int q144), .val (.ref a146), .val (.int (own_rv l224 (3 : Int32) (own_spread q144) (3 : Int32) (2 : Int32))), .val (.int (own_rv (own_rl l224 (3 : Int32) (own_spread q144)) (3 : Int32) (own_spread q144) (3 : Int32) (2 : Int32))), .val (.int (3 : Int32)), .val (.int ((own_spread q144) &&& (3 : Int32))), .val (.int (2 : Int32)), .val (.int p2), .unset]) X241 hx (hb hby at_253) rfl rfl ?_
            refine own_iload (pc' := 257) X241 hx (hb hby at_255) rfl rfl ?_
            refine own_ifNo (pc' := 260) X241 hx (hb hby at_257) rfl (feq (by decide)).1 ?_
            refine own_iload (pc' := 262) X241 hx (hb hby at_260) rfl rfl ?_
            refine own_iload (pc' := 264) X241 hx (hb hby at_262) rfl rfl ?_
            by_cases hc264_243 : p2 = q144
            · refine own_icmpNo (pc' := 267) X241 hx (hb hby at_264) rfl (teq hc264_243).2 ?_
              refine own_iload (pc' := 269) X241 hx (hb hby at_267) rfl rfl ?_
              refine own_iload (pc' := 271) X241 hx (hb hby at_269) rfl rfl ?_
              refine own_isub (pc' := 272) (z := (1 : Int32)) X241 hx (hb hby at_271) rfl (by decide) ?_
              refine own_iload (pc' := 274) X241 hx (hb hby at_272) rfl rfl ?_
              refine own_icmpNo (pc' := 277) X241 hx (hb hby at_274) rfl (tlt (by decide)).2.1 ?_
              refine own_iconst (pc' := 278) (z := (1 : Int32)) X241 hx (hb hby at_277) rfl rfl ?_
              refine own_goto (pc' := 282) X241 hx (hb hby at_278) (by decide) (by decide) ?_
              refine own_istore (pc' := 284) (l' := #[.val (.int p0), .val (.int p1), .val (.int p2), .val (.int p3), .val (.int p4), .val (.int (2 : Int32)), .val (.int (3 : Int32)), .val (.int ((own_ushr p0 (4 : Int32)) &&& (3 : Int32))), .val (.int (4 : Int32)), .val (.int q144), .val (.ref a146), .val (.int (own_rv l224 (3 : Int32) (own_spread q144) (3 : Int32) (2 : Int32))), .val (.int (own_rv (own_rl l224 (3 : Int32) (own_spread q144)) (3 : Int32) (own_spread q144) (3 : Int32) (2 : Int32))), .val (.int (3 : Int32)), .val (.int ((own_spread q144) &&& (3 : Int32))), .val (.int (2 : Int32)), .val (.int p2), .val (.int (1 : Int32))]) X241 hx (hb hby at_282) rfl rfl ?_
              refine own_iload (pc' := 286) X241 hx (hb hby at_284) rfl rfl ?_
              refine own_iload (pc' := 288) X241 hx (hb hby at_286) rfl rfl ?_
              have sl244 : own_slot l224 (3 : Int32) (own_spread q144) = own_pack (own_spread p2) (2 : Int64) := by
                rw [el224, el220, el216]
                exact ((own_slN (Or.inr (Or.inl ⟨rfl, rfl⟩)) (by simp) hc178_237).trans (own_slE (Or.inr (Or.inl ⟨rfl, rfl⟩)) (by simp) hc202_242))
              refine own_icmpNo (pc' := 291) X241 hx (hb hby at_288) rfl (teq ((own_hitv (i := 2) sl244 (by decide) (by decide)).trans ((if_pos hc264_243).trans (by decide)))).2 ?_
              refine own_iload (pc' := 293) X241 hx (hb hby at_291) rfl rfl ?_
              refine own_ifNo (pc' := 296) X241 hx (hb hby at_293) rfl (teq (own_second (Or.inr (Or.inl ⟨rfl, rfl⟩)) hl225)).2 ?_
              refine own_iconst (pc' := 297) (z := (1 : Int32)) X241 hx (hb hby at_296) rfl rfl ?_
              refine own_goto (pc' := 301) X241 hx (hb hby at_297) (by decide) (by decide) ?_
              refine own_retN X241 hx hlk hret (by simp) (hb hby at_301) (by decide) (by decide) ?_
              exact ⟨rfl, N241⟩
            · refine own_icmpYes (pc' := 281) X241 hx (hb hby at_264) (feq hc264_243).2 (by decide) (by decide) ?_
              refine own_iconst (pc' := 282) (z := (0 : Int32)) X241 hx (hb hby at_281) rfl rfl ?_
              refine own_istore (pc' := 284) (l' := #[.val (.int p0), .val (.int p1), .val (.int p2), .val (.int p3), .val (.int p4), .val (.int (2 : Int32)), .val (.int (3 : Int32)), .val (.int ((own_ushr p0 (4 : Int32)) &&& (3 : Int32))), .val (.int (4 : Int32)), .val (.int q144), .val (.ref a146), .val (.int (own_rv l224 (3 : Int32) (own_spread q144) (3 : Int32) (2 : Int32))), .val (.int (own_rv (own_rl l224 (3 : Int32) (own_spread q144)) (3 : Int32) (own_spread q144) (3 : Int32) (2 : Int32))), .val (.int (3 : Int32)), .val (.int ((own_spread q144) &&& (3 : Int32))), .val (.int (2 : Int32)), .val (.int p2), .val (.int (0 : Int32))]) X241 hx (hb hby at_282) rfl rfl ?_
              refine own_iload (pc' := 286) X241 hx (hb hby at_284) rfl rfl ?_
              refine own_iload (pc' := 288) X241 hx (hb hby at_286) rfl rfl ?_
              have sl245 : own_slot l224 (3 : Int32) (own_spread q144) = own_pack (own_spread p2) (2 : Int64) := by
                rw [el224, el220, el216]
                exact ((own_slN (Or.inr (Or.inl ⟨rfl, rfl⟩)) (by simp) hc178_237).trans (own_slE (Or.inr (Or.inl ⟨rfl, rfl⟩)) (by simp) hc202_242))
              refine own_icmpNo (pc' := 291) X241 hx (hb hby at_288) rfl (teq ((own_hitv (i := 2) sl245 (by decide) (by decide)).trans (if_neg hc264_243))).2 ?_
              refine own_iload (pc' := 293) X241 hx (hb hby at_291) rfl rfl ?_
              refine own_ifNo (pc' := 296) X241 hx (hb hby at_293) rfl (teq (own_second (Or.inr (Or.inl ⟨rfl, rfl⟩)) hl225)).2 ?_
              refine own_iconst (pc' := 297) (z := (1 : Int32)) X241 hx (hb hby at_296) rfl rfl ?_
              refine own_goto (pc' := 301) X241 hx (hb hby at_297) (by decide) (by decide) ?_
              refine own_retN X241 hx hlk hret (by simp) (hb hby at_301) (by decide) (by decide) ?_
              exact ⟨rfl, N241⟩
          · refine own_icmpYes (pc' := 211) X241 hx (hb hby at_202) (feq hc202_242).2 (by decide) (by decide) ?_
            refine own_iload (pc' := 213) X241 hx (hb hby at_211) rfl rfl ?_
            refine own_iconst (pc' := 214) (z := (1 : Int32)) X241 hx (hb hby at_213) rfl rfl ?_
            refine own_icmpNo (pc' := 217) X241 hx (hb hby at_214) rfl (flt (by decide)).1 ?_
            refine own_iloadN (pc' := 218) X241 hx (hb hby at_217) rfl rfl ?_
            refine own_callS (pc' := 221) (y := (⟨"com/example/larder/larder/cache/UseCounts", "spread", "(I)I"⟩ : MethodName)) (W := 0) (rm := own_room5) (argsL := [(.int p1)]) (rest := []) X241 hx hZ Kq241 hown (by rw [hml]; rfl) (own_w23 hw) (own_w24 hw) (own_w25 hw) (own_w26 hw) (by decide) (own_rm5 lch Z a0 hw [] p1 T232.heap n0) (by decide) (by decide) (by decide) (by decide) (lenOf own_pd0 rfl) rfl (by exact Nat.le_of_eq rfl) (hb hby at_218) rfl ?_
            intro T246 Lc246 v246 X246 hQ246
            obtain ⟨rfl, Nq246, Kq246⟩ := hQ246
            have N246 := Fr.app N241 Nq246
            show own_Ends prg e below s _ _ _ T246 (mkF m 221 #[.val (.int p0), .val (.int p1), .val (.int p2), .val (.int p3), .val (.int p4), .val (.int (2 : Int32)), .val (.int (3 : Int32)), .val (.int ((own_ushr p0 (4 : Int32)) &&& (3 : Int32))), .val (.int (4 : Int32)), .val (.int q144), .val (.ref a146), .val (.int (own_rv l224 (3 : Int32) (own_spread q144) (3 : Int32) (2 : Int32))), .val (.int (own_rv (own_rl l224 (3 : Int32) (own_spread q144)) (3 : Int32) (own_spread q144) (3 : Int32) (2 : Int32))), .val (.int (3 : Int32)), .val (.int ((own_spread q144) &&& (3 : Int32))), .val (.int (0 : Int32)), .unset, .unset] [(.int (own_spread p1))])
            refine own_iload (pc' := 223) X246 hx (hb hby at_221) rfl rfl ?_
            refine own_iand (pc' := 224) (z := ((own_spread p1) &&& (3 : Int32))) X246 hx (hb hby at_223) rfl rfl ?_
            refine own_iload (pc' := 226) X246 hx (hb hby at_224) rfl rfl ?_
            by_cases hc226_247 : ((own_spread p1) &&& (3 : Int32)) = ((own_spread q144) &&& (3 : Int32))
            · refine own_icmpNo (pc' := 229) X246 hx (hb hby at_226) rfl (teq hc226_247).2 ?_
              refine own_iconst (pc' := 230) (z := (1 : Int32)) X246 hx (hb hby at_229) rfl rfl ?_
              refine own_istore (pc' := 232) (l' := #[.val (.int p0), .val (.int p1), .val (.int p2), .val (.int p3), .val (.int p4), .val (.int (2 : Int32)), .val (.int (3 : Int32)), .val (.int ((own_ushr p0 (4 : Int32)) &&& (3 : Int32))), .val (.int (4 : Int32)), .val (.int q144), .val (.ref a146), .val (.int (own_rv l224 (3 : Int32) (own_spread q144) (3 : Int32) (2 : Int32))), .val (.int (own_rv (own_rl l224 (3 : Int32) (own_spread q144)) (3 : Int32) (own_spread q144) (3 : Int32) (2 : Int32))), .val (.int (3 : Int32)), .val (.int ((own_spread q144) &&& (3 : Int32))), .val (.int (1 : Int32)), .unset, .unset]) X246 hx (hb hby at_230) rfl rfl ?_
              refine own_iload (pc' := 234) X246 hx (hb hby at_232) rfl rfl ?_
              refine own_iconst (pc' := 235) (z := (3 : Int32)) X246 hx (hb hby at_234) rfl rfl ?_
              refine own_icmpYes (pc' := 242) X246 hx (hb hby at_235) (feq (by decide)).2 (by decide) (by decide) ?_
              refine own_iload (pc' := 244) X246 hx (hb hby at_242) rfl rfl ?_
              refine own_iconst (pc' := 245) (z := (2 : Int32)) X246 hx (hb hby at_244) rfl rfl ?_
              refine own_icmpYes (pc' := 252) X246 hx (hb hby at_245) (feq (by decide)).2 (by decide) (by decide) ?_
              refine own_iloadN (pc' := 253) X246 hx (hb hby at_252) rfl rfl ?_
              refine own_istore (pc' := 255) (l' := #[.val (.int p0), .val (.int p1), .val (.int p2), .val (.int p3), .val (.int p4), .val (.int (2 : Int32)), .val (.int (3 : Int32)), .val (.int ((own_ushr p0 (4 : Int32)) &&& (3 : Int32))), .val (.int (4 : Int32)), .val (.int q144), .val (.ref a146), .val (.int (own_rv l224 (3 : Int32) (own_spread q144) (3 : Int32) (2 : Int32))), .val (.int (own_rv (own_rl l224 (3 : Int32) (own_spread q144)) (3 : Int32) (own_spread q144) (3 : Int32) (2 : Int32))), .val (.int (3 : Int32)), .val (.int ((own_spread q144) &&& (3 : Int32))), .val (.int (1 : Int32)), .val (.int p1), .unset]) X246 hx (hb hby at_253) rfl rfl ?_
              refine own_iload (pc' := 257) X246 hx (hb hby at_255) rfl rfl ?_
              refine own_ifNo (pc' := 260) X246 hx (hb hby at_257) rfl (feq (by decide)).1 ?_
              refine own_iload (pc' := 262) X246 hx (hb hby at_260) rfl rfl ?_
              refine own_iload (pc' := 264) X246 hx (hb hby at_262) rfl rfl ?_
              by_cases hc264_248 : p1 = q144
              · refine own_icmpNo (pc' := 267) X246 hx (hb hby at_264) rfl (teq hc264_248).2 ?_
                refine own_iload (pc' := 269) X246 hx (hb hby at_267) rfl rfl ?_
                refine own_iload (pc' := 271) X246 hx (hb hby at_269) rfl rfl ?_
                refine own_isub (pc' := 272) (z := (2 : Int32)) X246 hx (hb hby at_271) rfl (by decide) ?_
                refine own_iload (pc' := 274) X246 hx (hb hby at_272) rfl rfl ?_
                refine own_icmpYes (pc' := 281) X246 hx (hb hby at_274) (flt (by decide)).2.1 (by decide) (by decide) ?_
                refine own_iconst (pc' := 282) (z := (0 : Int32)) X246 hx (hb hby at_281) rfl rfl ?_
                refine own_istore (pc' := 284) (l' := #[.val (.int p0), .val (.int p1), .val (.int p2), .val (.int p3), .val (.int p4), .val (.int (2 : Int32)), .val (.int (3 : Int32)), .val (.int ((own_ushr p0 (4 : Int32)) &&& (3 : Int32))), .val (.int (4 : Int32)), .val (.int q144), .val (.ref a146), .val (.int (own_rv l224 (3 : Int32) (own_spread q144) (3 : Int32) (2 : Int32))), .val (.int (own_rv (own_rl l224 (3 : Int32) (own_spread q144)) (3 : Int32) (own_spread q144) (3 : Int32) (2 : Int32))), .val (.int (3 : Int32)), .val (.int ((own_spread q144) &&& (3 : Int32))), .val (.int (1 : Int32)), .val (.int p1), .val (.int (0 : Int32))]) X246 hx (hb hby at_282) rfl rfl ?_
                refine own_iload (pc' := 286) X246 hx (hb hby at_284) rfl rfl ?_
                refine own_iload (pc' := 288) X246 hx (hb hby at_286) rfl rfl ?_
                have sl249 : own_slot l224 (3 : Int32) (own_spread q144) = own_pack (own_spread p1) (1 : Int64) := by
                  rw [el224, el220, el216]
                  exact ((own_slN (Or.inr (Or.inl ⟨rfl, rfl⟩)) (by simp) hc178_237).trans ((own_slN (Or.inr (Or.inl ⟨rfl, rfl⟩)) (by simp) hc202_242).trans (own_slE (Or.inr (Or.inl ⟨rfl, rfl⟩)) (List.length_replicate) hc226_247)))
                refine own_icmpNo (pc' := 291) X246 hx (hb hby at_288) rfl (teq ((own_hitv (i := 1) sl249 (by decide) (by decide)).trans ((if_pos hc264_248).trans (by decide)))).2 ?_
                refine own_iload (pc' := 293) X246 hx (hb hby at_291) rfl rfl ?_
                refine own_ifNo (pc' := 296) X246 hx (hb hby at_293) rfl (teq (own_second (Or.inr (Or.inl ⟨rfl, rfl⟩)) hl225)).2 ?_
                refine own_iconst (pc' := 297) (z := (1 : Int32)) X246 hx (hb hby at_296) rfl rfl ?_
                refine own_goto (pc' := 301) X246 hx (hb hby at_297) (by decide) (by decide) ?_
                refine own_retN X246 hx hlk hret (by simp) (hb hby at_301) (by decide) (by decide) ?_
                exact ⟨rfl, N246⟩
              · refine own_icmpYes (pc' := 281) X246 hx (hb hby at_264) (feq hc264_248).2 (by decide) (by decide) ?_
                refine own_iconst (pc' := 282) (z := (0 : Int32)) X246 hx (hb hby at_281) rfl rfl ?_
                refine own_istore (pc' := 284) (l' := #[.val (.int p0), .val (.int p1), .val (.int p2), .val (.int p3), .val (.int p4), .val (.int (2 : Int32)), .val (.int (3 : Int32)), .val (.int ((own_ushr p0 (4 : Int32)) &&& (3 : Int32))), .val (.int (4 : Int32)), .val (.int q144), .val (.ref a146), .val (.int (own_rv l224 (3 : Int32) (own_spread q144) (3 : Int32) (2 : Int32))), .val (.int (own_rv (own_rl l224 (3 : Int32) (own_spread q144)) (3 : Int32) (own_spread q144) (3 : Int32) (2 : Int32))), .val (.int (3 : Int32)), .val (.int ((own_spread q144) &&& (3 : Int32))), .val (.int (1 : Int32)), .val (.int p1), .val (.int (0 : Int32))]) X246 hx (hb hby at_282) rfl rfl ?_
                refine own_iload (pc' := 286) X246 hx (hb hby at_284) rfl rfl ?_
                refine own_iload (pc' := 288) X246 hx (hb hby at_286) rfl rfl ?_
                have sl250 : own_slot l224 (3 : Int32) (own_spread q144) = own_pack (own_spread p1) (1 : Int64) := by
                  rw [el224, el220, el216]
                  exact ((own_slN (Or.inr (Or.inl ⟨rfl, rfl⟩)) (by simp) hc178_237).trans ((own_slN (Or.inr (Or.inl ⟨rfl, rfl⟩)) (by simp) hc202_242).trans (own_slE (Or.inr (Or.inl ⟨rfl, rfl⟩)) (List.length_replicate) hc226_247)))
                refine own_icmpNo (pc' := 291) X246 hx (hb hby at_288) rfl (teq ((own_hitv (i := 1) sl250 (by decide) (by decide)).trans (if_neg hc264_248))).2 ?_
                refine own_iload (pc' := 293) X246 hx (hb hby at_291) rfl rfl ?_
                refine own_ifNo (pc' := 296) X246 hx (hb hby at_293) rfl (teq (own_second (Or.inr (Or.inl ⟨rfl, rfl⟩)) hl225)).2 ?_
                refine own_iconst (pc' := 297) (z := (1 : Int32)) X246 hx (hb hby at_296) rfl rfl ?_
                refine own_goto (pc' := 301) X246 hx (hb hby at_297) (by decide) (by decide) ?_
                refine own_retN X246 hx hlk hret (by simp) (hb hby at_301) (by decide) (by decide) ?_
                exact ⟨rfl, N246⟩
            · refine own_icmpYes (pc' := 232) X246 hx (hb hby at_226) (feq hc226_247).2 (by decide) (by decide) ?_
              refine own_iload (pc' := 234) X246 hx (hb hby at_232) rfl rfl ?_
              refine own_iconst (pc' := 235) (z := (3 : Int32)) X246 hx (hb hby at_234) rfl rfl ?_
              refine own_icmpYes (pc' := 242) X246 hx (hb hby at_235) (feq (by decide)).2 (by decide) (by decide) ?_
              refine own_iload (pc' := 244) X246 hx (hb hby at_242) rfl rfl ?_
              refine own_iconst (pc' := 245) (z := (2 : Int32)) X246 hx (hb hby at_244) rfl rfl ?_
              refine own_icmpYes (pc' := 252) X246 hx (hb hby at_245) (feq (by decide)).2 (by decide) (by decide) ?_
              refine own_iloadN (pc' := 253) X246 hx (hb hby at_252) rfl rfl ?_
              refine own_istore (pc' := 255) (l' := #[.val (.int p0), .val (.int p1), .val (.int p2), .val (.int p3), .val (.int p4), .val (.int (2 : Int32)), .val (.int (3 : Int32)), .val (.int ((own_ushr p0 (4 : Int32)) &&& (3 : Int32))), .val (.int (4 : Int32)), .val (.int q144), .val (.ref a146), .val (.int (own_rv l224 (3 : Int32) (own_spread q144) (3 : Int32) (2 : Int32))), .val (.int (own_rv (own_rl l224 (3 : Int32) (own_spread q144)) (3 : Int32) (own_spread q144) (3 : Int32) (2 : Int32))), .val (.int (3 : Int32)), .val (.int ((own_spread q144) &&& (3 : Int32))), .val (.int (0 : Int32)), .val (.int p1), .unset]) X246 hx (hb hby at_253) rfl rfl ?_
              refine own_iload (pc' := 257) X246 hx (hb hby at_255) rfl rfl ?_
              refine own_ifYes (pc' := 281) X246 hx (hb hby at_257) (teq (by decide)).1 (by decide) (by decide) ?_
              refine own_iconst (pc' := 282) (z := (0 : Int32)) X246 hx (hb hby at_281) rfl rfl ?_
              refine own_istore (pc' := 284) (l' := #[.val (.int p0), .val (.int p1), .val (.int p2), .val (.int p3), .val (.int p4), .val (.int (2 : Int32)), .val (.int (3 : Int32)), .val (.int ((own_ushr p0 (4 : Int32)) &&& (3 : Int32))), .val (.int (4 : Int32)), .val (.int q144), .val (.ref a146), .val (.int (own_rv l224 (3 : Int32) (own_spread q144) (3 : Int32) (2 : Int32))), .val (.int (own_rv (own_rl l224 (3 : Int32) (own_spread q144)) (3 : Int32) (own_spread q144) (3 : Int32) (2 : Int32))), .val (.int (3 : Int32)), .val (.int ((own_spread q144) &&& (3 : Int32))), .val (.int (0 : Int32)), .val (.int p1), .val (.int (0 : Int32))]) X246 hx (hb hby at_282) rfl rfl ?_
              refine own_iload (pc' := 286) X246 hx (hb hby at_284) rfl rfl ?_
              refine own_iload (pc' := 288) X246 hx (hb hby at_286) rfl rfl ?_
              have sl251 : own_slot l224 (3 : Int32) (own_spread q144) = 0 := by
                rw [el224, el220, el216]
                exact ((own_slN (Or.inr (Or.inl ⟨rfl, rfl⟩)) (by simp) hc178_237).trans ((own_slN (Or.inr (Or.inl ⟨rfl, rfl⟩)) (by simp) hc202_242).trans ((own_slN (Or.inr (Or.inl ⟨rfl, rfl⟩)) (List.length_replicate) hc226_247).trans (own_sl0 _ _ _))))
              refine own_icmpNo (pc' := 291) X246 hx (hb hby at_288) rfl (teq (own_miss sl251)).2 ?_
              refine own_iload (pc' := 293) X246 hx (hb hby at_291) rfl rfl ?_
              refine own_ifNo (pc' := 296) X246 hx (hb hby at_293) rfl (teq (own_second (Or.inr (Or.inl ⟨rfl, rfl⟩)) hl225)).2 ?_
              refine own_iconst (pc' := 297) (z := (1 : Int32)) X246 hx (hb hby at_296) rfl rfl ?_
              refine own_goto (pc' := 301) X246 hx (hb hby at_297) (by decide) (by decide) ?_
              refine own_retN X246 hx hlk hret (by simp) (hb hby at_301) (by decide) (by decide) ?_
              exact ⟨rfl, N246⟩
    refine own_iload (pc' := 47) X0 hx (hb hby at_45) rfl rfl ?_
    by_cases hc47_252 : ((own_ushr p0 (4 : Int32)) &&& (3 : Int32)) = (0 : Int32)
    · refine own_ifNo (pc' := 50) X0 hx (hb hby at_47) rfl (teq hc47_252).2 ?_
      refine own_iload (pc' := 52) X0 hx (hb hby at_50) rfl rfl ?_
      refine own_goto (pc' := 76) X0 hx (hb hby at_52) (by decide) (by decide) ?_
      exact K145 _
    · refine own_ifYes (pc' := 55) X0 hx (hb hby at_47) (feq hc47_252).2 (by decide) (by decide) ?_
      refine own_iload (pc' := 57) X0 hx (hb hby at_55) rfl rfl ?_
      refine own_iconst (pc' := 58) (z := (1 : Int32)) X0 hx (hb hby at_57) rfl rfl ?_
      by_cases hc58_253 : ((own_ushr p0 (4 : Int32)) &&& (3 : Int32)) = (1 : Int32)
      · refine own_icmpNo (pc' := 61) X0 hx (hb hby at_58) rfl (teq hc58_253).2 ?_
        refine own_iloadN (pc' := 62) X0 hx (hb hby at_61) rfl rfl ?_
        refine own_goto (pc' := 76) X0 hx (hb hby at_62) (by decide) (by decide) ?_
        exact K145 _
      · refine own_icmpYes (pc' := 65) X0 hx (hb hby at_58) (feq hc58_253).2 (by decide) (by decide) ?_
        refine own_iload (pc' := 67) X0 hx (hb hby at_65) rfl rfl ?_
        refine own_iconst (pc' := 68) (z := (2 : Int32)) X0 hx (hb hby at_67) rfl rfl ?_
        by_cases hc68_254 : ((own_ushr p0 (4 : Int32)) &&& (3 : Int32)) = (2 : Int32)
        · refine own_icmpNo (pc' := 71) X0 hx (hb hby at_68) rfl (teq hc68_254).2 ?_
          refine own_iloadN (pc' := 72) X0 hx (hb hby at_71) rfl rfl ?_
          refine own_goto (pc' := 76) X0 hx (hb hby at_72) (by decide) (by decide) ?_
          exact K145 _
        · refine own_icmpYes (pc' := 75) X0 hx (hb hby at_68) (feq hc68_254).2 (by decide) (by decide) ?_
          refine own_iloadN (pc' := 76) X0 hx (hb hby at_75) rfl rfl ?_
          exact K145 _
  · refine own_iload (pc' := 23) X0 hx (hb hby at_21) rfl rfl ?_
    refine own_iconst (pc' := 24) (z := (1 : Int32)) X0 hx (hb hby at_23) rfl rfl ?_
    refine own_icmpYes (pc' := 31) X0 hx (hb hby at_24) (feq (by decide)).2 (by decide) (by decide) ?_
    refine own_iload (pc' := 33) X0 hx (hb hby at_31) rfl rfl ?_
    refine own_iconst (pc' := 34) (z := (2 : Int32)) X0 hx (hb hby at_33) rfl rfl ?_
    refine own_icmpYes (pc' := 41) X0 hx (hb hby at_34) (feq (by decide)).2 (by decide) (by decide) ?_
    refine own_bipush (pc' := 43) (z := (8 : Int32)) X0 hx (hb hby at_41) rfl rfl ?_
    refine own_istore (pc' := 45) (l' := #[.val (.int p0), .val (.int p1), .val (.int p2), .val (.int p3), .val (.int p4), .val (.int (3 : Int32)), .val (.int n32), .val (.int ((own_ushr p0 (4 : Int32)) &&& (3 : Int32))), .val (.int (8 : Int32)), .unset, .unset, .unset, .unset, .unset, .unset, .unset, .unset, .unset]) X0 hx (hb hby at_43) rfl rfl ?_
    have K256 : ∀ (q255 : Int32), own_Ends prg e below s (own_Q0 Z p0 p1 p2 p3 p4 h0 n0) 16 128 s₁ (mkF m 76 #[.val (.int p0), .val (.int p1), .val (.int p2), .val (.int p3), .val (.int p4), .val (.int (3 : Int32)), .val (.int n32), .val (.int ((own_ushr p0 (4 : Int32)) &&& (3 : Int32))), .val (.int (8 : Int32)), .unset, .unset, .unset, .unset, .unset, .unset, .unset, .unset, .unset] [(.int q255)]) := by
      intro q255
      refine own_istore (pc' := 78) (l' := #[.val (.int p0), .val (.int p1), .val (.int p2), .val (.int p3), .val (.int p4), .val (.int (3 : Int32)), .val (.int n32), .val (.int ((own_ushr p0 (4 : Int32)) &&& (3 : Int32))), .val (.int (8 : Int32)), .val (.int q255), .unset, .unset, .unset, .unset, .unset, .unset, .unset, .unset]) X0 hx (hb hby at_76) rfl rfl ?_
      obtain ⟨T257, h257, X257, e257, E257, A257, D257, -, st257⟩ := newO X0 hx hZ hown (own_w0 hw) (own_w1 hw) (own_w2 hw) e0 (g := (mkF m 78 #[.val (.int p0), .val (.int p1), .val (.int p2), .val (.int p3), .val (.int p4), .val (.int (3 : Int32)), .val (.int n32), .val (.int ((own_ushr p0 (4 : Int32)) &&& (3 : Int32))), .val (.int (8 : Int32)), .val (.int q255), .unset, .unset, .unset, .unset, .unset, .unset, .unset, .unset] [])) rfl (hb hby at_78) (by decide) (by decide)
      refine own_go st257 ?_
      obtain ⟨a257, g257⟩ : ∃ z, z = h0.size := ⟨_, rfl⟩
      rw [← g257] at A257 D257
      have ge258 : n0 ≤ a257 := by rw [g257]; exact Z0
      have F259 : Fld Z h257 a257 "com/example/larder/larder/cache/EvictedKeys" "depth" "I" (.int (0 : Int32)) := D257 (Or.inr (own_w15 hw)) (ty := .int) (by decide)
      have F260 : Fld Z h257 a257 "com/example/larder/larder/cache/EvictedKeys" "slots" "[J" .null := D257 (Or.inl (own_w22 hw)) (ty := (.array .long)) (by decide)
      have F261 : Fld Z h257 a257 "com/example/larder/larder/cache/EvictedKeys" "remembered" "I" (.int (0 : Int32)) := D257 (Or.inl (own_w45 hw)) (ty := .int) (by decide)
      show own_Ends prg e below s _ _ _ T257 (mkF m 81 #[.val (.int p0), .val (.int p1), .val (.int p2), .val (.int p3), .val (.int p4), .val (.int (3 : Int32)), .val (.int n32), .val (.int ((own_ushr p0 (4 : Int32)) &&& (3 : Int32))), .val (.int (8 : Int32)), .val (.int q255), .unset, .unset, .unset, .unset, .unset, .unset, .unset, .unset] [(.ref h0.size)])
      rw [← g257]
      refine own_dup (pc' := 82) X257 hx (hb hby at_81) rfl rfl ?_
      refine own_iload (pc' := 84) X257 hx (hb hby at_82) rfl rfl ?_
      refine own_i2l (pc' := 85) (z := (3 : Int64)) X257 hx (hb hby at_84) rfl (by decide) ?_
      refine own_callC (pc' := 88) (y := (⟨"com/example/larder/larder/cache/EvictedKeys", "<init>", "(J)V"⟩ : MethodName)) (W := 1) (rm := own_room1_3) (argsL := [(.long (3 : Int64))]) (rest := [(.ref a257)]) (b := a257) X257 hx hZ e257 hown (by rw [hml]; rfl) rfl rfl (own_w3 hw) (own_w4 hw) (own_w2 hw) (own_w5 hw) (by decide) (own_rm1_3 lch Z a0 hw [] a257 _ h257 n0 A257 F259 F260 F261 ge258) (by decide) (by decide) (by decide) (by decide) (lenOf own_pd2 rfl) rfl (by exact Nat.le_of_eq rfl) (hb hby at_85) rfl ?_
      intro T262 Lc262 v262 X262 hQ262
      obtain ⟨rfl, Nq262, Kq262, G262_0, G262_1, G262_2⟩ := hQ262
      have N262 := Fr.app N0 Nq262
      show own_Ends prg e below s _ _ _ T262 (mkF m 88 #[.val (.int p0), .val (.int p1), .val (.int p2), .val (.int p3), .val (.int p4), .val (.int (3 : Int32)), .val (.int n32), .val (.int ((own_ushr p0 (4 : Int32)) &&& (3 : Int32))), .val (.int (8 : Int32)), .val (.int q255), .unset, .unset, .unset, .unset, .unset, .unset, .unset, .unset] [(.ref a257)])
      refine own_astore (pc' := 90) (l' := #[.val (.int p0), .val (.int p1), .val (.int p2), .val (.int p3), .val (.int p4), .val (.int (3 : Int32)), .val (.int n32), .val (.int ((own_ushr p0 (4 : Int32)) &&& (3 : Int32))), .val (.int (8 : Int32)), .val (.int q255), .val (.ref a257), .unset, .unset, .unset, .unset, .unset, .unset, .unset]) X262 hx (hb hby at_88) rfl rfl rfl ?_
      rcases own_and3 hn32 with rfl | rfl | rfl | rfl
      · refine own_iload (pc' := 92) X262 hx (hb hby at_90) rfl rfl ?_
        refine own_iconst (pc' := 93) (z := (1 : Int32)) X262 hx (hb hby at_92) rfl rfl ?_
        refine own_icmpYes (pc' := 102) X262 hx (hb hby at_93) (tlt (by decide)).1 (by decide) (by decide) ?_
        refine own_iload (pc' := 104) X262 hx (hb hby at_102) rfl rfl ?_
        refine own_iconst (pc' := 105) (z := (2 : Int32)) X262 hx (hb hby at_104) rfl rfl ?_
        refine own_icmpYes (pc' := 114) X262 hx (hb hby at_105) (tlt (by decide)).1 (by decide) (by decide) ?_
        refine own_iload (pc' := 116) X262 hx (hb hby at_114) rfl rfl ?_
        refine own_iconst (pc' := 117) (z := (3 : Int32)) X262 hx (hb hby at_116) rfl rfl ?_
        refine own_icmpYes (pc' := 126) X262 hx (hb hby at_117) (tlt (by decide)).1 (by decide) (by decide) ?_
        refine own_aload (pc' := 128) X262 hx (hb hby at_126) rfl rfl rfl ?_
        refine own_iload (pc' := 130) X262 hx (hb hby at_128) rfl rfl ?_
        have f264 := (A257.keep Kq262)
        refine own_callV (pc' := 133) (y := (⟨"com/example/larder/larder/cache/EvictedKeys", "recall", "(I)Z"⟩ : MethodName)) (W := 0) (rm := own_room4_0) (argsL := [(.int q255)]) (rest := []) (b := a257) (C := "com/example/larder/larder/cache/EvictedKeys") X262 hx hZ rfl hown (by rw [hml]; rfl) f264 (own_w16 hw) (own_w17 hw) (own_w19 hw) (own_w18 hw) (own_w2 hw) (own_w20 hw) (by decide) (own_rm4_0 lch Z a0 hw [] a257 q255 T262.heap n0 G262_1) (by decide) (by decide) (by decide) (by decide) (lenOf own_pd3 rfl) rfl (by exact Nat.le_of_eq rfl) (hb hby at_130) rfl ?_
        intro T263 Lc263 v263 X263 hQ263
        obtain ⟨rfl, Nq263, Kq263⟩ := hQ263
        have N263 := Fr.app N262 Nq263
        show own_Ends prg e below s _ _ _ T263 (mkF m 133 #[.val (.int p0), .val (.int p1), .val (.int p2), .val (.int p3), .val (.int p4), .val (.int (3 : Int32)), .val (.int (0 : Int32)), .val (.int ((own_ushr p0 (4 : Int32)) &&& (3 : Int32))), .val (.int (8 : Int32)), .val (.int q255), .val (.ref a257), .unset, .unset, .unset, .unset, .unset, .unset, .unset] [(.int (0 : Int32))])
        refine own_istore (pc' := 135) (l' := #[.val (.int p0), .val (.int p1), .val (.int p2), .val (.int p3), .val (.int p4), .val (.int (3 : Int32)), .val (.int (0 : Int32)), .val (.int ((own_ushr p0 (4 : Int32)) &&& (3 : Int32))), .val (.int (8 : Int32)), .val (.int q255), .val (.ref a257), .val (.int (0 : Int32)), .unset, .unset, .unset, .unset, .unset, .unset]) X263 hx (hb hby at_133) rfl rfl ?_
        refine own_aload (pc' := 137) X263 hx (hb hby at_135) rfl rfl rfl ?_
        refine own_iload (pc' := 139) X263 hx (hb hby at_137) rfl rfl ?_
        refine own_callV (pc' := 142) (y := (⟨"com/example/larder/larder/cache/EvictedKeys", "recall", "(I)Z"⟩ : MethodName)) (W := 0) (rm := own_room4_0) (argsL := [(.int q255)]) (rest := []) (b := a257) (C := "com/example/larder/larder/cache/EvictedKeys") X263 hx hZ Kq263 hown (by rw [hml]; rfl) f264 (own_w16 hw) (own_w17 hw) (own_w19 hw) (own_w18 hw) (own_w2 hw) (own_w20 hw) (by decide) (own_rm4_0 lch Z a0 hw [] a257 q255 T262.heap n0 G262_1) (by decide) (by decide) (by decide) (by decide) (lenOf own_pd3 rfl) rfl (by exact Nat.le_of_eq rfl) (hb hby at_139) rfl ?_
        intro T265 Lc265 v265 X265 hQ265
        obtain ⟨rfl, Nq265, Kq265⟩ := hQ265
        have N265 := Fr.app N263 Nq265
        show own_Ends prg e below s _ _ _ T265 (mkF m 142 #[.val (.int p0), .val (.int p1), .val (.int p2), .val (.int p3), .val (.int p4), .val (.int (3 : Int32)), .val (.int (0 : Int32)), .val (.int ((own_ushr p0 (4 : Int32)) &&& (3 : Int32))), .val (.int (8 : Int32)), .val (.int q255), .val (.ref a257), .val (.int (0 : Int32)), .unset, .unset, .unset, .unset, .unset, .unset] [(.int (0 : Int32))])
        refine own_istore (pc' := 144) (l' := #[.val (.int p0), .val (.int p1), .val (.int p2), .val (.int p3), .val (.int p4), .val (.int (3 : Int32)), .val (.int (0 : Int32)), .val (.int ((own_ushr p0 (4 : Int32)) &&& (3 : Int32))), .val (.int (8 : Int32)), .val (.int q255), .val (.ref a257), .val (.int (0 : Int32)), .val (.int (0 : Int32)), .unset, .unset, .unset, .unset, .unset]) X265 hx (hb hby at_142) rfl rfl ?_
        refine own_iload (pc' := 146) X265 hx (hb hby at_144) rfl rfl ?_
        refine own_iconst (pc' := 147) (z := (1 : Int32)) X265 hx (hb hby at_146) rfl rfl ?_
        refine own_isub (pc' := 148) (z := (7 : Int32)) X265 hx (hb hby at_147) rfl (by decide) ?_
        refine own_istore (pc' := 150) (l' := #[.val (.int p0), .val (.int p1), .val (.int p2), .val (.int p3), .val (.int p4), .val (.int (3 : Int32)), .val (.int (0 : Int32)), .val (.int ((own_ushr p0 (4 : Int32)) &&& (3 : Int32))), .val (.int (8 : Int32)), .val (.int q255), .val (.ref a257), .val (.int (0 : Int32)), .val (.int (0 : Int32)), .val (.int (7 : Int32)), .unset, .unset, .unset, .unset]) X265 hx (hb hby at_148) rfl rfl ?_
        refine own_iload (pc' := 152) X265 hx (hb hby at_150) rfl rfl ?_
        refine own_callS (pc' := 155) (y := (⟨"com/example/larder/larder/cache/UseCounts", "spread", "(I)I"⟩ : MethodName)) (W := 0) (rm := own_room5) (argsL := [(.int q255)]) (rest := []) X265 hx hZ Kq265 hown (by rw [hml]; rfl) (own_w23 hw) (own_w24 hw) (own_w25 hw) (own_w26 hw) (by decide) (own_rm5 lch Z a0 hw [] q255 T262.heap n0) (by decide) (by decide) (by decide) (by decide) (lenOf own_pd0 rfl) rfl (by exact Nat.le_of_eq rfl) (hb hby at_152) rfl ?_
        intro T266 Lc266 v266 X266 hQ266
        obtain ⟨rfl, Nq266, Kq266⟩ := hQ266
        have N266 := Fr.app N265 Nq266
        show own_Ends prg e below s _ _ _ T266 (mkF m 155 #[.val (.int p0), .val (.int p1), .val (.int p2), .val (.int p3), .val (.int p4), .val (.int (3 : Int32)), .val (.int (0 : Int32)), .val (.int ((own_ushr p0 (4 : Int32)) &&& (3 : Int32))), .val (.int (8 : Int32)), .val (.int q255), .val (.ref a257), .val (.int (0 : Int32)), .val (.int (0 : Int32)), .val (.int (7 : Int32)), .unset, .unset, .unset, .unset] [(.int (own_spread q255))])
        refine own_iload (pc' := 157) X266 hx (hb hby at_155) rfl rfl ?_
        refine own_iand (pc' := 158) (z := ((own_spread q255) &&& (7 : Int32))) X266 hx (hb hby at_157) rfl rfl ?_
        refine own_istore (pc' := 160) (l' := #[.val (.int p0), .val (.int p1), .val (.int p2), .val (.int p3), .val (.int p4), .val (.int (3 : Int32)), .val (.int (0 : Int32)), .val (.int ((own_ushr p0 (4 : Int32)) &&& (3 : Int32))), .val (.int (8 : Int32)), .val (.int q255), .val (.ref a257), .val (.int (0 : Int32)), .val (.int (0 : Int32)), .val (.int (7 : Int32)), .val (.int ((own_spread q255) &&& (7 : Int32))), .unset, .unset, .unset]) X266 hx (hb hby at_158) rfl rfl ?_
        refine own_iconst (pc' := 161) (z := (0 : Int32)) X266 hx (hb hby at_160) rfl rfl ?_
        refine own_istore (pc' := 163) (l' := #[.val (.int p0), .val (.int p1), .val (.int p2), .val (.int p3), .val (.int p4), .val (.int (3 : Int32)), .val (.int (0 : Int32)), .val (.int ((own_ushr p0 (4 : Int32)) &&& (3 : Int32))), .val (.int (8 : Int32)), .val (.int q255), .val (.ref a257), .val (.int (0 : Int32)), .val (.int (0 : Int32)), .val (.int (7 : Int32)), .val (.int ((own_spread q255) &&& (7 : Int32))), .val (.int (0 : Int32)), .unset, .unset]) X266 hx (hb hby at_161) rfl rfl ?_
        refine own_iload (pc' := 165) X266 hx (hb hby at_163) rfl rfl ?_
        refine own_iconst (pc' := 166) (z := (3 : Int32)) X266 hx (hb hby at_165) rfl rfl ?_
        refine own_icmpYes (pc' := 187) X266 hx (hb hby at_166) (tlt (by decide)).1 (by decide) (by decide) ?_
        refine own_iload (pc' := 189) X266 hx (hb hby at_187) rfl rfl ?_
        refine own_iconst (pc' := 190) (z := (2 : Int32)) X266 hx (hb hby at_189) rfl rfl ?_
        refine own_icmpYes (pc' := 211) X266 hx (hb hby at_190) (tlt (by decide)).1 (by decide) (by decide) ?_
        refine own_iload (pc' := 213) X266 hx (hb hby at_211) rfl rfl ?_
        refine own_iconst (pc' := 214) (z := (1 : Int32)) X266 hx (hb hby at_213) rfl rfl ?_
        refine own_icmpYes (pc' := 232) X266 hx (hb hby at_214) (tlt (by decide)).1 (by decide) (by decide) ?_
        refine own_iload (pc' := 234) X266 hx (hb hby at_232) rfl rfl ?_
        refine own_iconst (pc' := 235) (z := (3 : Int32)) X266 hx (hb hby at_234) rfl rfl ?_
        refine own_icmpYes (pc' := 242) X266 hx (hb hby at_235) (feq (by decide)).2 (by decide) (by decide) ?_
        refine own_iload (pc' := 244) X266 hx (hb hby at_242) rfl rfl ?_
        refine own_iconst (pc' := 245) (z := (2 : Int32)) X266 hx (hb hby at_244) rfl rfl ?_
        refine own_icmpYes (pc' := 252) X266 hx (hb hby at_245) (feq (by decide)).2 (by decide) (by decide) ?_
        refine own_iloadN (pc' := 253) X266 hx (hb hby at_252) rfl rfl ?_
        refine own_istore (pc' := 255) (l' := #[.val (.int p0), .val (.int p1), .val (.int p2), .val (.int p3), .val (.int p4), .val (.int (3 : Int32)), .val (.int (0 : Int32)), .val (.int ((own_ushr p0 (4 : Int32)) &&& (3 : Int32))), .val (.int (8 : Int32)), .val (.int q255), .val (.ref a257), .val (.int (0 : Int32)), .val (.int (0 : Int32)), .val (.int (7 : Int32)), .val (.int ((own_spread q255) &&& (7 : Int32))), .val (.int (0 : Int32)), .val (.int p1), .unset]) X266 hx (hb hby at_253) rfl rfl ?_
        refine own_iload (pc' := 257) X266 hx (hb hby at_255) rfl rfl ?_
        refine own_ifYes (pc' := 281) X266 hx (hb hby at_257) (teq (by decide)).1 (by decide) (by decide) ?_
        refine own_iconst (pc' := 282) (z := (0 : Int32)) X266 hx (hb hby at_281) rfl rfl ?_
        refine own_istore (pc' := 284) (l' := #[.val (.int p0), .val (.int p1), .val (.int p2), .val (.int p3), .val (.int p4), .val (.int (3 : Int32)), .val (.int (0 : Int32)), .val (.int ((own_ushr p0 (4 : Int32)) &&& (3 : Int32))), .val (.int (8 : Int32)), .val (.int q255), .val (.ref a257), .val (.int (0 : Int32)), .val (.int (0 : Int32)), .val (.int (7 : Int32)), .val (.int ((own_spread q255) &&& (7 : Int32))), .val (.int (0 : Int32)), .val (.int p1), .val (.int (0 : Int32))]) X266 hx (hb hby at_282) rfl rfl ?_
        refine own_iload (pc' := 286) X266 hx (hb hby at_284) rfl rfl ?_
        refine own_iload (pc' := 288) X266 hx (hb hby at_286) rfl rfl ?_
        refine own_icmpNo (pc' := 291) X266 hx (hb hby at_288) rfl (teq (by decide)).2 ?_
        refine own_iload (pc' := 293) X266 hx (hb hby at_291) rfl rfl ?_
        refine own_ifNo (pc' := 296) X266 hx (hb hby at_293) rfl (teq (by decide)).2 ?_
        refine own_iconst (pc' := 297) (z := (1 : Int32)) X266 hx (hb hby at_296) rfl rfl ?_
        refine own_goto (pc' := 301) X266 hx (hb hby at_297) (by decide) (by decide) ?_
        refine own_retN X266 hx hlk hret (by simp) (hb hby at_301) (by decide) (by decide) ?_
        exact ⟨rfl, N266⟩
      · refine own_iload (pc' := 92) X262 hx (hb hby at_90) rfl rfl ?_
        refine own_iconst (pc' := 93) (z := (1 : Int32)) X262 hx (hb hby at_92) rfl rfl ?_
        refine own_icmpNo (pc' := 96) X262 hx (hb hby at_93) rfl (flt (by decide)).1 ?_
        refine own_aload (pc' := 98) X262 hx (hb hby at_96) rfl rfl rfl ?_
        refine own_iloadN (pc' := 99) X262 hx (hb hby at_98) rfl rfl ?_
        have f267 := (A257.keep Kq262)
        have f268 := (Nat.le_trans (Nat.le_trans Z0 E257.1) Kq262.1)
        refine own_callV (pc' := 102) (y := (⟨"com/example/larder/larder/cache/EvictedKeys", "remember", "(I)V"⟩ : MethodName)) (W := 0) (rm := own_room6_3_0) (argsL := [(.int p1)]) (rest := []) (b := a257) (C := "com/example/larder/larder/cache/EvictedKeys") X262 hx hZ rfl hown (by rw [hml]; rfl) f267 (own_w28 hw) (own_w29 hw) (own_w31 hw) (own_w30 hw) (own_w2 hw) (own_w32 hw) (by decide) (own_rm6_3_0 lch Z a0 hw [] a257 p1 T262.heap n0 f268 f267 G262_0 G262_1 G262_2 ge258) (by decide) (by decide) (by decide) (by decide) (lenOf own_pd4 rfl) rfl (by exact Nat.le_of_eq rfl) (hb hby at_99) rfl ?_
        intro T269 Lc269 v269 X269 hQ269
        obtain ⟨b269, bk269, rfl, Nq269, Kq269, G269_0, G269_1, G269_2, G269_3, G269_4⟩ := hQ269
        have N269 := Fr.app N262 Nq269
        have ge270 : n0 ≤ b269 := Nat.le_trans f268 G269_0
        have ne271 : a257 ≠ b269 := Nat.ne_of_lt (Nat.lt_of_lt_of_le f267.lt G269_0)
        obtain ⟨l272, el272⟩ : ∃ z, z = ((List.replicate 8 (0 : Int64)).set (own_ixm (7 : Int32) (own_spread p1)) (own_pack (own_spread p1) (1 : Int64))) := ⟨_, rfl⟩
        rw [← el272] at G269_4
        have hl273 : l272.length = 8 := by rw [el272, List.length_set]; rfl
        show own_Ends prg e below s _ _ _ T269 (mkF m 102 #[.val (.int p0), .val (.int p1), .val (.int p2), .val (.int p3), .val (.int p4), .val (.int (3 : Int32)), .val (.int (1 : Int32)), .val (.int ((own_ushr p0 (4 : Int32)) &&& (3 : Int32))), .val (.int (8 : Int32)), .val (.int q255), .val (.ref a257), .unset, .unset, .unset, .unset, .unset, .unset, .unset] [])
        refine own_iload (pc' := 104) X269 hx (hb hby at_102) rfl rfl ?_
        refine own_iconst (pc' := 105) (z := (2 : Int32)) X269 hx (hb hby at_104) rfl rfl ?_
        refine own_icmpYes (pc' := 114) X269 hx (hb hby at_105) (tlt (by decide)).1 (by decide) (by decide) ?_
        refine own_iload (pc' := 116) X269 hx (hb hby at_114) rfl rfl ?_
        refine own_iconst (pc' := 117) (z := (3 : Int32)) X269 hx (hb hby at_116) rfl rfl ?_
        refine own_icmpYes (pc' := 126) X269 hx (hb hby at_117) (tlt (by decide)).1 (by decide) (by decide) ?_
        refine own_aload (pc' := 128) X269 hx (hb hby at_126) rfl rfl rfl ?_
        refine own_iload (pc' := 130) X269 hx (hb hby at_128) rfl rfl ?_
        have f275 := (f267.keep Kq269)
        refine own_callV (pc' := 133) (y := (⟨"com/example/larder/larder/cache/EvictedKeys", "recall", "(I)Z"⟩ : MethodName)) (W := 0) (rm := own_room4_8) (argsL := [(.int q255)]) (rest := []) (b := a257) (C := "com/example/larder/larder/cache/EvictedKeys") X269 hx hZ rfl hown (by rw [hml]; rfl) f275 (own_w16 hw) (own_w17 hw) (own_w19 hw) (own_w18 hw) (own_w2 hw) (own_w20 hw) (by decide) (own_rm4_8 lch Z a0 hw [] a257 q255 b269 bk269 l272 (1 : Int32) (3 : Int32) T269.heap n0 G269_1 G269_2 G269_3 G269_4 hl273 ge270 ne271) (by decide) (by decide) (by decide) (by decide) (lenOf own_pd3 rfl) rfl (by exact Nat.le_of_eq rfl) (hb hby at_130) rfl ?_
        intro T274 Lc274 v274 X274 hQ274
        obtain ⟨rfl, Nq274, Kq274, G274_0⟩ := hQ274
        have N274 := Fr.app N269 Nq274
        have hl276 : (own_rl l272 (7 : Int32) (own_spread q255)).length = 8 := (own_rllen _ _ _).trans hl273
        show own_Ends prg e below s _ _ _ T274 (mkF m 133 #[.val (.int p0), .val (.int p1), .val (.int p2), .val (.int p3), .val (.int p4), .val (.int (3 : Int32)), .val (.int (1 : Int32)), .val (.int ((own_ushr p0 (4 : Int32)) &&& (3 : Int32))), .val (.int (8 : Int32)), .val (.int q255), .val (.ref a257), .unset, .unset, .unset, .unset, .unset, .unset, .unset] [(.int (own_rv l272 (7 : Int32) (own_spread q255) (1 : Int32) (3 : Int32)))])
        refine own_istore (pc' := 135) (l' := #[.val (.int p0), .val (.int p1), .val (.int p2), .val (.int p3), .val (.int p4), .val (.int (3 : Int32)), .val (.int (1 : Int32)), .val (.int ((own_ushr p0 (4 : Int32)) &&& (3 : Int32))), .val (.int (8 : Int32)), .val (.int q255), .val (.ref a257), .val (.int (own_rv l272 (7 : Int32) (own_spread q255) (1 : Int32) (3 : Int32))), .unset, .unset, .unset, .unset, .unset, .unset]) X274 hx (hb hby at_133) rfl rfl ?_
        refine own_aload (pc' := 137) X274 hx (hb hby at_135) rfl rfl rfl ?_
        refine own_iload (pc' := 139) X274 hx (hb hby at_137) rfl rfl ?_
        have f277 := (G269_1.keep Kq274 (ninS ne271 nin0))
        have f278 := (G269_2.keep Kq274 (ninS ne271 nin0))
        have f279 := (G269_3.keep Kq274 (ninS ne271 nin0))
        have f281 := (f275.keep Kq274)
        refine own_callV (pc' := 142) (y := (⟨"com/example/larder/larder/cache/EvictedKeys", "recall", "(I)Z"⟩ : MethodName)) (W := 0) (rm := own_room4_8) (argsL := [(.int q255)]) (rest := []) (b := a257) (C := "com/example/larder/larder/cache/EvictedKeys") X274 hx hZ rfl hown (by rw [hml]; rfl) f281 (own_w16 hw) (own_w17 hw) (own_w19 hw) (own_w18 hw) (own_w2 hw) (own_w20 hw) (by decide) (own_rm4_8 lch Z a0 hw [] a257 q255 b269 bk269 (own_rl l272 (7 : Int32) (own_spread q255)) (1 : Int32) (3 : Int32) T274.heap n0 f277 f278 f279 G274_0 hl276 ge270 ne271) (by decide) (by decide) (by decide) (by decide) (lenOf own_pd3 rfl) rfl (by exact Nat.le_of_eq rfl) (hb hby at_139) rfl ?_
        intro T280 Lc280 v280 X280 hQ280
        obtain ⟨rfl, Nq280, Kq280, G280_0⟩ := hQ280
        have N280 := Fr.app N274 Nq280
        have hl282 : (own_rl (own_rl l272 (7 : Int32) (own_spread q255)) (7 : Int32) (own_spread q255)).length = 8 := (own_rllen _ _ _).trans hl276
        show own_Ends prg e below s _ _ _ T280 (mkF m 142 #[.val (.int p0), .val (.int p1), .val (.int p2), .val (.int p3), .val (.int p4), .val (.int (3 : Int32)), .val (.int (1 : Int32)), .val (.int ((own_ushr p0 (4 : Int32)) &&& (3 : Int32))), .val (.int (8 : Int32)), .val (.int q255), .val (.ref a257), .val (.int (own_rv l272 (7 : Int32) (own_spread q255) (1 : Int32) (3 : Int32))), .unset, .unset, .unset, .unset, .unset, .unset] [(.int (own_rv (own_rl l272 (7 : Int32) (own_spread q255)) (7 : Int32) (own_spread q255) (1 : Int32) (3 : Int32)))])
        refine own_istore (pc' := 144) (l' := #[.val (.int p0), .val (.int p1), .val (.int p2), .val (.int p3), .val (.int p4), .val (.int (3 : Int32)), .val (.int (1 : Int32)), .val (.int ((own_ushr p0 (4 : Int32)) &&& (3 : Int32))), .val (.int (8 : Int32)), .val (.int q255), .val (.ref a257), .val (.int (own_rv l272 (7 : Int32) (own_spread q255) (1 : Int32) (3 : Int32))), .val (.int (own_rv (own_rl l272 (7 : Int32) (own_spread q255)) (7 : Int32) (own_spread q255) (1 : Int32) (3 : Int32))), .unset, .unset, .unset, .unset, .unset]) X280 hx (hb hby at_142) rfl rfl ?_
        refine own_iload (pc' := 146) X280 hx (hb hby at_144) rfl rfl ?_
        refine own_iconst (pc' := 147) (z := (1 : Int32)) X280 hx (hb hby at_146) rfl rfl ?_
        refine own_isub (pc' := 148) (z := (7 : Int32)) X280 hx (hb hby at_147) rfl (by decide) ?_
        refine own_istore (pc' := 150) (l' := #[.val (.int p0), .val (.int p1), .val (.int p2), .val (.int p3), .val (.int p4), .val (.int (3 : Int32)), .val (.int (1 : Int32)), .val (.int ((own_ushr p0 (4 : Int32)) &&& (3 : Int32))), .val (.int (8 : Int32)), .val (.int q255), .val (.ref a257), .val (.int (own_rv l272 (7 : Int32) (own_spread q255) (1 : Int32) (3 : Int32))), .val (.int (own_rv (own_rl l272 (7 : Int32) (own_spread q255)) (7 : Int32) (own_spread q255) (1 : Int32) (3 : Int32))), .val (.int (7 : Int32)), .unset, .unset, .unset, .unset]) X280 hx (hb hby at_148) rfl rfl ?_
        refine own_iload (pc' := 152) X280 hx (hb hby at_150) rfl rfl ?_
        refine own_callS (pc' := 155) (y := (⟨"com/example/larder/larder/cache/UseCounts", "spread", "(I)I"⟩ : MethodName)) (W := 0) (rm := own_room5) (argsL := [(.int q255)]) (rest := []) X280 hx hZ rfl hown (by rw [hml]; rfl) (own_w23 hw) (own_w24 hw) (own_w25 hw) (own_w26 hw) (by decide) (own_rm5 lch Z a0 hw [] q255 T280.heap n0) (by decide) (by decide) (by decide) (by decide) (lenOf own_pd0 rfl) rfl (by exact Nat.le_of_eq rfl) (hb hby at_152) rfl ?_
        intro T283 Lc283 v283 X283 hQ283
        obtain ⟨rfl, Nq283, Kq283⟩ := hQ283
        have N283 := Fr.app N280 Nq283
        show own_Ends prg e below s _ _ _ T283 (mkF m 155 #[.val (.int p0), .val (.int p1), .val (.int p2), .val (.int p3), .val (.int p4), .val (.int (3 : Int32)), .val (.int (1 : Int32)), .val (.int ((own_ushr p0 (4 : Int32)) &&& (3 : Int32))), .val (.int (8 : Int32)), .val (.int q255), .val (.ref a257), .val (.int (own_rv l272 (7 : Int32) (own_spread q255) (1 : Int32) (3 : Int32))), .val (.int (own_rv (own_rl l272 (7 : Int32) (own_spread q255)) (7 : Int32) (own_spread q255) (1 : Int32) (3 : Int32))), .val (.int (7 : Int32)), .unset, .unset, .unset, .unset] [(.int (own_spread q255))])
        refine own_iload (pc' := 157) X283 hx (hb hby at_155) rfl rfl ?_
        refine own_iand (pc' := 158) (z := ((own_spread q255) &&& (7 : Int32))) X283 hx (hb hby at_157) rfl rfl ?_
        refine own_istore (pc' := 160) (l' := #[.val (.int p0), .val (.int p1), .val (.int p2), .val (.int p3), .val (.int p4), .val (.int (3 : Int32)), .val (.int (1 : Int32)), .val (.int ((own_ushr p0 (4 : Int32)) &&& (3 : Int32))), .val (.int (8 : Int32)), .val (.int q255), .val (.ref a257), .val (.int (own_rv l272 (7 : Int32) (own_spread q255) (1 : Int32) (3 : Int32))), .val (.int (own_rv (own_rl l272 (7 : Int32) (own_spread q255)) (7 : Int32) (own_spread q255) (1 : Int32) (3 : Int32))), .val (.int (7 : Int32)), .val (.int ((own_spread q255) &&& (7 : Int32))), .unset, .unset, .unset]) X283 hx (hb hby at_158) rfl rfl ?_
        refine own_iconst (pc' := 161) (z := (0 : Int32)) X283 hx (hb hby at_160) rfl rfl ?_
        refine own_istore (pc' := 163) (l' := #[.val (.int p0), .val (.int p1), .val (.int p2), .val (.int p3), .val (.int p4), .val (.int (3 : Int32)), .val (.int (1 : Int32)), .val (.int ((own_ushr p0 (4 : Int32)) &&& (3 : Int32))), .val (.int (8 : Int32)), .val (.int q255), .val (.ref a257), .val (.int (own_rv l272 (7 : Int32) (own_spread q255) (1 : Int32) (3 : Int32))), .val (.int (own_rv (own_rl l272 (7 : Int32) (own_spread q255)) (7 : Int32) (own_spread q255) (1 : Int32) (3 : Int32))), .val (.int (7 : Int32)), .val (.int ((own_spread q255) &&& (7 : Int32))), .val (.int (0 : Int32)), .unset, .unset]) X283 hx (hb hby at_161) rfl rfl ?_
        refine own_iload (pc' := 165) X283 hx (hb hby at_163) rfl rfl ?_
        refine own_iconst (pc' := 166) (z := (3 : Int32)) X283 hx (hb hby at_165) rfl rfl ?_
        refine own_icmpYes (pc' := 187) X283 hx (hb hby at_166) (tlt (by decide)).1 (by decide) (by decide) ?_
        refine own_iload (pc' := 189) X283 hx (hb hby at_187) rfl rfl ?_
        refine own_iconst (pc' := 190) (z := (2 : Int32)) X283 hx (hb hby at_189) rfl rfl ?_
        refine own_icmpYes (pc' := 211) X283 hx (hb hby at_190) (tlt (by decide)).1 (by decide) (by decide) ?_
        refine own_iload (pc' := 213) X283 hx (hb hby at_211) rfl rfl ?_
        refine own_iconst (pc' := 214) (z := (1 : Int32)) X283 hx (hb hby at_213) rfl rfl ?_
        refine own_icmpNo (pc' := 217) X283 hx (hb hby at_214) rfl (flt (by decide)).1 ?_
        refine own_iloadN (pc' := 218) X283 hx (hb hby at_217) rfl rfl ?_
        refine own_callS (pc' := 221) (y := (⟨"com/example/larder/larder/cache/UseCounts", "spread", "(I)I"⟩ : MethodName)) (W := 0) (rm := own_room5) (argsL := [(.int p1)]) (rest := []) X283 hx hZ Kq283 hown (by rw [hml]; rfl) (own_w23 hw) (own_w24 hw) (own_w25 hw) (own_w26 hw) (by decide) (own_rm5 lch Z a0 hw [] p1 T280.heap n0) (by decide) (by decide) (by decide) (by decide) (lenOf own_pd0 rfl) rfl (by exact Nat.le_of_eq rfl) (hb hby at_218) rfl ?_
        intro T284 Lc284 v284 X284 hQ284
        obtain ⟨rfl, Nq284, Kq284⟩ := hQ284
        have N284 := Fr.app N283 Nq284
        show own_Ends prg e below s _ _ _ T284 (mkF m 221 #[.val (.int p0), .val (.int p1), .val (.int p2), .val (.int p3), .val (.int p4), .val (.int (3 : Int32)), .val (.int (1 : Int32)), .val (.int ((own_ushr p0 (4 : Int32)) &&& (3 : Int32))), .val (.int (8 : Int32)), .val (.int q255), .val (.ref a257), .val (.int (own_rv l272 (7 : Int32) (own_spread q255) (1 : Int32) (3 : Int32))), .val (.int (own_rv (own_rl l272 (7 : Int32) (own_spread q255)) (7 : Int32) (own_spread q255) (1 : Int32) (3 : Int32))), .val (.int (7 : Int32)), .val (.int ((own_spread q255) &&& (7 : Int32))), .val (.int (0 : Int32)), .unset, .unset] [(.int (own_spread p1))])
        refine own_iload (pc' := 223) X284 hx (hb hby at_221) rfl rfl ?_
        refine own_iand (pc' := 224) (z := ((own_spread p1) &&& (7 : Int32))) X284 hx (hb hby at_223) rfl rfl ?_
        refine own_iload (pc' := 226) X284 hx (hb hby at_224) rfl rfl ?_
        by_cases hc226_285 : ((own_spread p1) &&& (7 : Int32)) = ((own_spread q255) &&& (7 : Int32))
        · refine own_icmpNo (pc' := 229) X284 hx (hb hby at_226) rfl (teq hc226_285).2 ?_
          refine own_iconst (pc' := 230) (z := (1 : Int32)) X284 hx (hb hby at_229) rfl rfl ?_
          refine own_istore (pc' := 232) (l' := #[.val (.int p0), .val (.int p1), .val (.int p2), .val (.int p3), .val (.int p4), .val (.int (3 : Int32)), .val (.int (1 : Int32)), .val (.int ((own_ushr p0 (4 : Int32)) &&& (3 : Int32))), .val (.int (8 : Int32)), .val (.int q255), .val (.ref a257), .val (.int (own_rv l272 (7 : Int32) (own_spread q255) (1 : Int32) (3 : Int32))), .val (.int (own_rv (own_rl l272 (7 : Int32) (own_spread q255)) (7 : Int32) (own_spread q255) (1 : Int32) (3 : Int32))), .val (.int (7 : Int32)), .val (.int ((own_spread q255) &&& (7 : Int32))), .val (.int (1 : Int32)), .unset, .unset]) X284 hx (hb hby at_230) rfl rfl ?_
          refine own_iload (pc' := 234) X284 hx (hb hby at_232) rfl rfl ?_
          refine own_iconst (pc' := 235) (z := (3 : Int32)) X284 hx (hb hby at_234) rfl rfl ?_
          refine own_icmpYes (pc' := 242) X284 hx (hb hby at_235) (feq (by decide)).2 (by decide) (by decide) ?_
          refine own_iload (pc' := 244) X284 hx (hb hby at_242) rfl rfl ?_
          refine own_iconst (pc' := 245) (z := (2 : Int32)) X284 hx (hb hby at_244) rfl rfl ?_
          refine own_icmpYes (pc' := 252) X284 hx (hb hby at_245) (feq (by decide)).2 (by decide) (by decide) ?_
          refine own_iloadN (pc' := 253) X284 hx (hb hby at_252) rfl rfl ?_
          refine own_istore (pc' := 255) (l' := #[.val (.int p0), .val (.int p1), .val (.int p2), .val (.int p3), .val (.int p4), .val (.int (3 : Int32)), .val (.int (1 : Int32)), .val (.int ((own_ushr p0 (4 : Int32)) &&& (3 : Int32))), .val (.int (8 : Int32)), .val (.int q255), .val (.ref a257), .val (.int (own_rv l272 (7 : Int32) (own_spread q255) (1 : Int32) (3 : Int32))), .val (.int (own_rv (own_rl l272 (7 : Int32) (own_spread q255)) (7 : Int32) (own_spread q255) (1 : Int32) (3 : Int32))), .val (.int (7 : Int32)), .val (.int ((own_spread q255) &&& (7 : Int32))), .val (.int (1 : Int32)), .val (.int p1), .unset]) X284 hx (hb hby at_253) rfl rfl ?_
          refine own_iload (pc' := 257) X284 hx (hb hby at_255) rfl rfl ?_
          refine own_ifNo (pc' := 260) X284 hx (hb hby at_257) rfl (feq (by decide)).1 ?_
          refine own_iload (pc' := 262) X284 hx (hb hby at_260) rfl rfl ?_
          refine own_iload (pc' := 264) X284 hx (hb hby at_262) rfl rfl ?_
          by_cases hc264_286 : p1 = q255
          · refine own_icmpNo (pc' := 267) X284 hx (hb hby at_264) rfl (teq hc264_286).2 ?_
            refine own_iload (pc' := 269) X284 hx (hb hby at_267) rfl rfl ?_
            refine own_iload (pc' := 271) X284 hx (hb hby at_269) rfl rfl ?_
            refine own_isub (pc' := 272) (z := (0 : Int32)) X284 hx (hb hby at_271) rfl (by decide) ?_
            refine own_iload (pc' := 274) X284 hx (hb hby at_272) rfl rfl ?_
            refine own_icmpNo (pc' := 277) X284 hx (hb hby at_274) rfl (tlt (by decide)).2.1 ?_
            refine own_iconst (pc' := 278) (z := (1 : Int32)) X284 hx (hb hby at_277) rfl rfl ?_
            refine own_goto (pc' := 282) X284 hx (hb hby at_278) (by decide) (by decide) ?_
            refine own_istore (pc' := 284) (l' := #[.val (.int p0), .val (.int p1), .val (.int p2), .val (.int p3), .val (.int p4), .val (.int (3 : Int32)), .val (.int (1 : Int32)), .val (.int ((own_ushr p0 (4 : Int32)) &&& (3 : Int32))), .val (.int (8 : Int32)), .val (.int q255), .val (.ref a257), .val (.int (own_rv l272 (7 : Int32) (own_spread q255) (1 : Int32) (3 : Int32))), .val (.int (own_rv (own_rl l272 (7 : Int32) (own_spread q255)) (7 : Int32) (own_spread q255) (1 : Int32) (3 : Int32))), .val (.int (7 : Int32)), .val (.int ((own_spread q255) &&& (7 : Int32))), .val (.int (1 : Int32)), .val (.int p1), .val (.int (1 : Int32))]) X284 hx (hb hby at_282) rfl rfl ?_
            refine own_iload (pc' := 286) X284 hx (hb hby at_284) rfl rfl ?_
            refine own_iload (pc' := 288) X284 hx (hb hby at_286) rfl rfl ?_
            have sl287 : own_slot l272 (7 : Int32) (own_spread q255) = own_pack (own_spread p1) (1 : Int64) := by
              rw [el272]
              exact (own_slE (Or.inr (Or.inr ⟨rfl, rfl⟩)) (List.length_replicate) hc226_285)
            refine own_icmpNo (pc' := 291) X284 hx (hb hby at_288) rfl (teq ((own_hitv (i := 1) sl287 (by decide) (by decide)).trans ((if_pos hc264_286).trans (by decide)))).2 ?_
            refine own_iload (pc' := 293) X284 hx (hb hby at_291) rfl rfl ?_
            refine own_ifNo (pc' := 296) X284 hx (hb hby at_293) rfl (teq (own_second (Or.inr (Or.inr ⟨rfl, rfl⟩)) hl273)).2 ?_
            refine own_iconst (pc' := 297) (z := (1 : Int32)) X284 hx (hb hby at_296) rfl rfl ?_
            refine own_goto (pc' := 301) X284 hx (hb hby at_297) (by decide) (by decide) ?_
            refine own_retN X284 hx hlk hret (by simp) (hb hby at_301) (by decide) (by decide) ?_
            exact ⟨rfl, N284⟩
          · refine own_icmpYes (pc' := 281) X284 hx (hb hby at_264) (feq hc264_286).2 (by decide) (by decide) ?_
            refine own_iconst (pc' := 282) (z := (0 : Int32)) X284 hx (hb hby at_281) rfl rfl ?_
            refine own_istore (pc' := 284) (l' := #[.val (.int p0), .val (.int p1), .val (.int p2), .val (.int p3), .val (.int p4), .val (.int (3 : Int32)), .val (.int (1 : Int32)), .val (.int ((own_ushr p0 (4 : Int32)) &&& (3 : Int32))), .val (.int (8 : Int32)), .val (.int q255), .val (.ref a257), .val (.int (own_rv l272 (7 : Int32) (own_spread q255) (1 : Int32) (3 : Int32))), .val (.int (own_rv (own_rl l272 (7 : Int32) (own_spread q255)) (7 : Int32) (own_spread q255) (1 : Int32) (3 : Int32))), .val (.int (7 : Int32)), .val (.int ((own_spread q255) &&& (7 : Int32))), .val (.int (1 : Int32)), .val (.int p1), .val (.int (0 : Int32))]) X284 hx (hb hby at_282) rfl rfl ?_
            refine own_iload (pc' := 286) X284 hx (hb hby at_284) rfl rfl ?_
            refine own_iload (pc' := 288) X284 hx (hb hby at_286) rfl rfl ?_
            have sl288 : own_slot l272 (7 : Int32) (own_spread q255) = own_pack (own_spread p1) (1 : Int64) := by
              rw [el272]
              exact (own_slE (Or.inr (Or.inr ⟨rfl, rfl⟩)) (List.length_replicate) hc226_285)
            refine own_icmpNo (pc' := 291) X284 hx (hb hby at_288) rfl (teq ((own_hitv (i := 1) sl288 (by decide) (by decide)).trans (if_neg hc264_286))).2 ?_
            refine own_iload (pc' := 293) X284 hx (hb hby at_291) rfl rfl ?_
            refine own_ifNo (pc' := 296) X284 hx (hb hby at_293) rfl (teq (own_second (Or.inr (Or.inr ⟨rfl, rfl⟩)) hl273)).2 ?_
            refine own_iconst (pc' := 297) (z := (1 : Int32)) X284 hx (hb hby at_296) rfl rfl ?_
            refine own_goto (pc' := 301) X284 hx (hb hby at_297) (by decide) (by decide) ?_
            refine own_retN X284 hx hlk hret (by simp) (hb hby at_301) (by decide) (by decide) ?_
            exact ⟨rfl, N284⟩
        · refine own_icmpYes (pc' := 232) X284 hx (hb hby at_226) (feq hc226_285).2 (by decide) (by decide) ?_
          refine own_iload (pc' := 234) X284 hx (hb hby at_232) rfl rfl ?_
          refine own_iconst (pc' := 235) (z := (3 : Int32)) X284 hx (hb hby at_234) rfl rfl ?_
          refine own_icmpYes (pc' := 242) X284 hx (hb hby at_235) (feq (by decide)).2 (by decide) (by decide) ?_
          refine own_iload (pc' := 244) X284 hx (hb hby at_242) rfl rfl ?_
          refine own_iconst (pc' := 245) (z := (2 : Int32)) X284 hx (hb hby at_244) rfl rfl ?_
          refine own_icmpYes (pc' := 252) X284 hx (hb hby at_245) (feq (by decide)).2 (by decide) (by decide) ?_
          refine own_iloadN (pc' := 253) X284 hx (hb hby at_252) rfl rfl ?_
          refine own_istore (pc' := 255) (l' := #[.val (.int p0), .val (.int p1), .val (.int p2), .val (.int p3), .val (.int p4), .val (.int (3 : Int32)), .val (.int (1 : Int32)), .val (.int ((own_ushr p0 (4 : Int32)) &&& (3 : Int32))), .val (.int (8 : Int32)), .val (.int q255), .val (.ref a257), .val (.int (own_rv l272 (7 : Int32) (own_spread q255) (1 : Int32) (3 : Int32))), .val (.int (own_rv (own_rl l272 (7 : Int32) (own_spread q255)) (7 : Int32) (own_spread q255) (1 : Int32) (3 : Int32))), .val (.int (7 : Int32)), .val (.int ((own_spread q255) &&& (7 : Int32))), .val (.int (0 : Int32)), .val (.int p1), .unset]) X284 hx (hb hby at_253) rfl rfl ?_
          refine own_iload (pc' := 257) X284 hx (hb hby at_255) rfl rfl ?_
          refine own_ifYes (pc' := 281) X284 hx (hb hby at_257) (teq (by decide)).1 (by decide) (by decide) ?_
          refine own_iconst (pc' := 282) (z := (0 : Int32)) X284 hx (hb hby at_281) rfl rfl ?_
          refine own_istore (pc' := 284) (l' := #[.val (.int p0), .val (.int p1), .val (.int p2), .val (.int p3), .val (.int p4), .val (.int (3 : Int32)), .val (.int (1 : Int32)), .val (.int ((own_ushr p0 (4 : Int32)) &&& (3 : Int32))), .val (.int (8 : Int32)), .val (.int q255), .val (.ref a257), .val (.int (own_rv l272 (7 : Int32) (own_spread q255) (1 : Int32) (3 : Int32))), .val (.int (own_rv (own_rl l272 (7 : Int32) (own_spread q255)) (7 : Int32) (own_spread q255) (1 : Int32) (3 : Int32))), .val (.int (7 : Int32)), .val (.int ((own_spread q255) &&& (7 : Int32))), .val (.int (0 : Int32)), .val (.int p1), .val (.int (0 : Int32))]) X284 hx (hb hby at_282) rfl rfl ?_
          refine own_iload (pc' := 286) X284 hx (hb hby at_284) rfl rfl ?_
          refine own_iload (pc' := 288) X284 hx (hb hby at_286) rfl rfl ?_
          have sl289 : own_slot l272 (7 : Int32) (own_spread q255) = 0 := by
            rw [el272]
            exact ((own_slN (Or.inr (Or.inr ⟨rfl, rfl⟩)) (List.length_replicate) hc226_285).trans (own_sl0 _ _ _))
          refine own_icmpNo (pc' := 291) X284 hx (hb hby at_288) rfl (teq (own_miss sl289)).2 ?_
          refine own_iload (pc' := 293) X284 hx (hb hby at_291) rfl rfl ?_
          refine own_ifNo (pc' := 296) X284 hx (hb hby at_293) rfl (teq (own_second (Or.inr (Or.inr ⟨rfl, rfl⟩)) hl273)).2 ?_
          refine own_iconst (pc' := 297) (z := (1 : Int32)) X284 hx (hb hby at_296) rfl rfl ?_
          refine own_goto (pc' := 301) X284 hx (hb hby at_297) (by decide) (by decide) ?_
          refine own_retN X284 hx hlk hret (by simp) (hb hby at_301) (by decide) (by decide) ?_
          exact ⟨rfl, N284⟩
      · refine own_iload (pc' := 92) X262 hx (hb hby at_90) rfl rfl ?_
        refine own_iconst (pc' := 93) (z := (1 : Int32)) X262 hx (hb hby at_92) rfl rfl ?_
        refine own_icmpNo (pc' := 96) X262 hx (hb hby at_93) rfl (flt (by decide)).1 ?_
        refine own_aload (pc' := 98) X262 hx (hb hby at_96) rfl rfl rfl ?_
        refine own_iloadN (pc' := 99) X262 hx (hb hby at_98) rfl rfl ?_
        have f290 := (A257.keep Kq262)
        have f291 := (Nat.le_trans (Nat.le_trans Z0 E257.1) Kq262.1)
        refine own_callV (pc' := 102) (y := (⟨"com/example/larder/larder/cache/EvictedKeys", "remember", "(I)V"⟩ : MethodName)) (W := 0) (rm := own_room6_3_0) (argsL := [(.int p1)]) (rest := []) (b := a257) (C := "com/example/larder/larder/cache/EvictedKeys") X262 hx hZ rfl hown (by rw [hml]; rfl) f290 (own_w28 hw) (own_w29 hw) (own_w31 hw) (own_w30 hw) (own_w2 hw) (own_w32 hw) (by decide) (own_rm6_3_0 lch Z a0 hw [] a257 p1 T262.heap n0 f291 f290 G262_0 G262_1 G262_2 ge258) (by decide) (by decide) (by decide) (by decide) (lenOf own_pd4 rfl) rfl (by exact Nat.le_of_eq rfl) (hb hby at_99) rfl ?_
        intro T292 Lc292 v292 X292 hQ292
        obtain ⟨b292, bk292, rfl, Nq292, Kq292, G292_0, G292_1, G292_2, G292_3, G292_4⟩ := hQ292
        have N292 := Fr.app N262 Nq292
        have ge293 : n0 ≤ b292 := Nat.le_trans f291 G292_0
        have ne294 : a257 ≠ b292 := Nat.ne_of_lt (Nat.lt_of_lt_of_le f290.lt G292_0)
        obtain ⟨l295, el295⟩ : ∃ z, z = ((List.replicate 8 (0 : Int64)).set (own_ixm (7 : Int32) (own_spread p1)) (own_pack (own_spread p1) (1 : Int64))) := ⟨_, rfl⟩
        rw [← el295] at G292_4
        have hl296 : l295.length = 8 := by rw [el295, List.length_set]; rfl
        show own_Ends prg e below s _ _ _ T292 (mkF m 102 #[.val (.int p0), .val (.int p1), .val (.int p2), .val (.int p3), .val (.int p4), .val (.int (3 : Int32)), .val (.int (2 : Int32)), .val (.int ((own_ushr p0 (4 : Int32)) &&& (3 : Int32))), .val (.int (8 : Int32)), .val (.int q255), .val (.ref a257), .unset, .unset, .unset, .unset, .unset, .unset, .unset] [])
        refine own_iload (pc' := 104) X292 hx (hb hby at_102) rfl rfl ?_
        refine own_iconst (pc' := 105) (z := (2 : Int32)) X292 hx (hb hby at_104) rfl rfl ?_
        refine own_icmpNo (pc' := 108) X292 hx (hb hby at_105) rfl (flt (by decide)).1 ?_
        refine own_aload (pc' := 110) X292 hx (hb hby at_108) rfl rfl rfl ?_
        refine own_iloadN (pc' := 111) X292 hx (hb hby at_110) rfl rfl ?_
        have f297 := (f290.keep Kq292)
        refine own_callV (pc' := 114) (y := (⟨"com/example/larder/larder/cache/EvictedKeys", "remember", "(I)V"⟩ : MethodName)) (W := 0) (rm := own_room6_3_1) (argsL := [(.int p2)]) (rest := []) (b := a257) (C := "com/example/larder/larder/cache/EvictedKeys") X292 hx hZ rfl hown (by rw [hml]; rfl) f297 (own_w28 hw) (own_w29 hw) (own_w31 hw) (own_w30 hw) (own_w2 hw) (own_w32 hw) (by decide) (own_rm6_3_1 lch Z a0 hw [] a257 p2 b292 bk292 l295 T292.heap n0 f297 G292_1 G292_2 G292_3 ge258 G292_4 hl296 ge293 ne294) (by decide) (by decide) (by decide) (by decide) (lenOf own_pd4 rfl) rfl (by exact Nat.le_of_eq rfl) (hb hby at_111) rfl ?_
        intro T298 Lc298 v298 X298 hQ298
        obtain ⟨rfl, Nq298, Kq298, G298_0, G298_1, G298_2, G298_3⟩ := hQ298
        have N298 := Fr.app N292 Nq298
        obtain ⟨l299, el299⟩ : ∃ z, z = (l295.set (own_ixm (7 : Int32) (own_spread p2)) (own_pack (own_spread p2) (2 : Int64))) := ⟨_, rfl⟩
        rw [← el299] at G298_3
        have hl300 : l299.length = 8 := by rw [el299, List.length_set]; exact hl296
        show own_Ends prg e below s _ _ _ T298 (mkF m 114 #[.val (.int p0), .val (.int p1), .val (.int p2), .val (.int p3), .val (.int p4), .val (.int (3 : Int32)), .val (.int (2 : Int32)), .val (.int ((own_ushr p0 (4 : Int32)) &&& (3 : Int32))), .val (.int (8 : Int32)), .val (.int q255), .val (.ref a257), .unset, .unset, .unset, .unset, .unset, .unset, .unset] [])
        refine own_iload (pc' := 116) X298 hx (hb hby at_114) rfl rfl ?_
        refine own_iconst (pc' := 117) (z := (3 : Int32)) X298 hx (hb hby at_116) rfl rfl ?_
        refine own_icmpYes (pc' := 126) X298 hx (hb hby at_117) (tlt (by decide)).1 (by decide) (by decide) ?_
        refine own_aload (pc' := 128) X298 hx (hb hby at_126) rfl rfl rfl ?_
        refine own_iload (pc' := 130) X298 hx (hb hby at_128) rfl rfl ?_
        have f302 := (f297.keep Kq298)
        refine own_callV (pc' := 133) (y := (⟨"com/example/larder/larder/cache/EvictedKeys", "recall", "(I)Z"⟩ : MethodName)) (W := 0) (rm := own_room4_8) (argsL := [(.int q255)]) (rest := []) (b := a257) (C := "com/example/larder/larder/cache/EvictedKeys") X298 hx hZ rfl hown (by rw [hml]; rfl) f302 (own_w16 hw) (own_w17 hw) (own_w19 hw) (own_w18 hw) (own_w2 hw) (own_w20 hw) (by decide) (own_rm4_8 lch Z a0 hw [] a257 q255 b292 bk292 l299 (2 : Int32) (3 : Int32) T298.heap n0 G298_0 G298_1 G298_2 G298_3 hl300 ge293 ne294) (by decide) (by decide) (by decide) (by decide) (lenOf own_pd3 rfl) rfl (by exact Nat.le_of_eq rfl) (hb hby at_130) rfl ?_
        intro T301 Lc301 v301 X301 hQ301
        obtain ⟨rfl, Nq301, Kq301, G301_0⟩ := hQ301
        have N301 := Fr.app N298 Nq301
        have hl303 : (own_rl l299 (7 : Int32) (own_spread q255)).length = 8 := (own_rllen _ _ _).trans hl300
        show own_Ends prg e below s _ _ _ T301 (mkF m 133 #[.val (.int p0), .val (.int p1), .val (.int p2), .val (.int p3), .val (.int p4), .val (.int (3 : Int32)), .val (.int (2 : Int32)), .val (.int ((own_ushr p0 (4 : Int32)) &&& (3 : Int32))), .val (.int (8 : Int32)), .val (.int q255), .val (.ref a257), .unset, .unset, .unset, .unset, .unset, .unset, .unset] [(.int (own_rv l299 (7 : Int32) (own_spread q255) (2 : Int32) (3 : Int32)))])
        refine own_istore (pc' := 135) (l' := #[.val (.int p0), .val (.int p1), .val (.int p2), .val (.int p3), .val (.int p4), .val (.int (3 : Int32)), .val (.int (2 : Int32)), .val (.int ((own_ushr p0 (4 : Int32)) &&& (3 : Int32))), .val (.int (8 : Int32)), .val (.int q255), .val (.ref a257), .val (.int (own_rv l299 (7 : Int32) (own_spread q255) (2 : Int32) (3 : Int32))), .unset, .unset, .unset, .unset, .unset, .unset]) X301 hx (hb hby at_133) rfl rfl ?_
        refine own_aload (pc' := 137) X301 hx (hb hby at_135) rfl rfl rfl ?_
        refine own_iload (pc' := 139) X301 hx (hb hby at_137) rfl rfl ?_
        have f304 := (G298_0.keep Kq301 (ninS ne294 nin0))
        have f305 := (G298_1.keep Kq301 (ninS ne294 nin0))
        have f306 := (G298_2.keep Kq301 (ninS ne294 nin0))
        have f308 := (f302.keep Kq301)
        refine own_callV (pc' := 142) (y := (⟨"com/example/larder/larder/cache/EvictedKeys", "recall", "(I)Z"⟩ : MethodName)) (W := 0) (rm := own_room4_8) (argsL := [(.int q255)]) (rest := []) (b := a257) (C := "com/example/larder/larder/cache/EvictedKeys") X301 hx hZ rfl hown (by rw [hml]; rfl) f308 (own_w16 hw) (own_w17 hw) (own_w19 hw) (own_w18 hw) (own_w2 hw) (own_w20 hw) (by decide) (own_rm4_8 lch Z a0 hw [] a257 q255 b292 bk292 (own_rl l299 (7 : Int32) (own_spread q255)) (2 : Int32) (3 : Int32) T301.heap n0 f304 f305 f306 G301_0 hl303 ge293 ne294) (by decide) (by decide) (by decide) (by decide) (lenOf own_pd3 rfl) rfl (by exact Nat.le_of_eq rfl) (hb hby at_139) rfl ?_
        intro T307 Lc307 v307 X307 hQ307
        obtain ⟨rfl, Nq307, Kq307, G307_0⟩ := hQ307
        have N307 := Fr.app N301 Nq307
        have hl309 : (own_rl (own_rl l299 (7 : Int32) (own_spread q255)) (7 : Int32) (own_spread q255)).length = 8 := (own_rllen _ _ _).trans hl303
        show own_Ends prg e below s _ _ _ T307 (mkF m 142 #[.val (.int p0), .val (.int p1), .val (.int p2), .val (.int p3), .val (.int p4), .val (.int (3 : Int32)), .val (.int (2 : Int32)), .val (.int ((own_ushr p0 (4 : Int32)) &&& (3 : Int32))), .val (.int (8 : Int32)), .val (.int q255), .val (.ref a257), .val (.int (own_rv l299 (7 : Int32) (own_spread q255) (2 : Int32) (3 : Int32))), .unset, .unset, .unset, .unset, .unset, .unset] [(.int (own_rv (own_rl l299 (7 : Int32) (own_spread q255)) (7 : Int32) (own_spread q255) (2 : Int32) (3 : Int32)))])
        refine own_istore (pc' := 144) (l' := #[.val (.int p0), .val (.int p1), .val (.int p2), .val (.int p3), .val (.int p4), .val (.int (3 : Int32)), .val (.int (2 : Int32)), .val (.int ((own_ushr p0 (4 : Int32)) &&& (3 : Int32))), .val (.int (8 : Int32)), .val (.int q255), .val (.ref a257), .val (.int (own_rv l299 (7 : Int32) (own_spread q255) (2 : Int32) (3 : Int32))), .val (.int (own_rv (own_rl l299 (7 : Int32) (own_spread q255)) (7 : Int32) (own_spread q255) (2 : Int32) (3 : Int32))), .unset, .unset, .unset, .unset, .unset]) X307 hx (hb hby at_142) rfl rfl ?_
        refine own_iload (pc' := 146) X307 hx (hb hby at_144) rfl rfl ?_
        refine own_iconst (pc' := 147) (z := (1 : Int32)) X307 hx (hb hby at_146) rfl rfl ?_
        refine own_isub (pc' := 148) (z := (7 : Int32)) X307 hx (hb hby at_147) rfl (by decide) ?_
        refine own_istore (pc' := 150) (l' := #[.val (.int p0), .val (.int p1), .val (.int p2), .val (.int p3), .val (.int p4), .val (.int (3 : Int32)), .val (.int (2 : Int32)), .val (.int ((own_ushr p0 (4 : Int32)) &&& (3 : Int32))), .val (.int (8 : Int32)), .val (.int q255), .val (.ref a257), .val (.int (own_rv l299 (7 : Int32) (own_spread q255) (2 : Int32) (3 : Int32))), .val (.int (own_rv (own_rl l299 (7 : Int32) (own_spread q255)) (7 : Int32) (own_spread q255) (2 : Int32) (3 : Int32))), .val (.int (7 : Int32)), .unset, .unset, .unset, .unset]) X307 hx (hb hby at_148) rfl rfl ?_
        refine own_iload (pc' := 152) X307 hx (hb hby at_150) rfl rfl ?_
        refine own_callS (pc' := 155) (y := (⟨"com/example/larder/larder/cache/UseCounts", "spread", "(I)I"⟩ : MethodName)) (W := 0) (rm := own_room5) (argsL := [(.int q255)]) (rest := []) X307 hx hZ rfl hown (by rw [hml]; rfl) (own_w23 hw) (own_w24 hw) (own_w25 hw) (own_w26 hw) (by decide) (own_rm5 lch Z a0 hw [] q255 T307.heap n0) (by decide) (by decide) (by decide) (by decide) (lenOf own_pd0 rfl) rfl (by exact Nat.le_of_eq rfl) (hb hby at_152) rfl ?_
        intro T310 Lc310 v310 X310 hQ310
        obtain ⟨rfl, Nq310, Kq310⟩ := hQ310
        have N310 := Fr.app N307 Nq310
        show own_Ends prg e below s _ _ _ T310 (mkF m 155 #[.val (.int p0), .val (.int p1), .val (.int p2), .val (.int p3), .val (.int p4), .val (.int (3 : Int32)), .val (.int (2 : Int32)), .val (.int ((own_ushr p0 (4 : Int32)) &&& (3 : Int32))), .val (.int (8 : Int32)), .val (.int q255), .val (.ref a257), .val (.int (own_rv l299 (7 : Int32) (own_spread q255) (2 : Int32) (3 : Int32))), .val (.int (own_rv (own_rl l299 (7 : Int32) (own_spread q255)) (7 : Int32) (own_spread q255) (2 : Int32) (3 : Int32))), .val (.int (7 : Int32)), .unset, .unset, .unset, .unset] [(.int (own_spread q255))])
        refine own_iload (pc' := 157) X310 hx (hb hby at_155) rfl rfl ?_
        refine own_iand (pc' := 158) (z := ((own_spread q255) &&& (7 : Int32))) X310 hx (hb hby at_157) rfl rfl ?_
        refine own_istore (pc' := 160) (l' := #[.val (.int p0), .val (.int p1), .val (.int p2), .val (.int p3), .val (.int p4), .val (.int (3 : Int32)), .val (.int (2 : Int32)), .val (.int ((own_ushr p0 (4 : Int32)) &&& (3 : Int32))), .val (.int (8 : Int32)), .val (.int q255), .val (.ref a257), .val (.int (own_rv l299 (7 : Int32) (own_spread q255) (2 : Int32) (3 : Int32))), .val (.int (own_rv (own_rl l299 (7 : Int32) (own_spread q255)) (7 : Int32) (own_spread q255) (2 : Int32) (3 : Int32))), .val (.int (7 : Int32)), .val (.int ((own_spread q255) &&& (7 : Int32))), .unset, .unset, .unset]) X310 hx (hb hby at_158) rfl rfl ?_
        refine own_iconst (pc' := 161) (z := (0 : Int32)) X310 hx (hb hby at_160) rfl rfl ?_
        refine own_istore (pc' := 163) (l' := #[.val (.int p0), .val (.int p1), .val (.int p2), .val (.int p3), .val (.int p4), .val (.int (3 : Int32)), .val (.int (2 : Int32)), .val (.int ((own_ushr p0 (4 : Int32)) &&& (3 : Int32))), .val (.int (8 : Int32)), .val (.int q255), .val (.ref a257), .val (.int (own_rv l299 (7 : Int32) (own_spread q255) (2 : Int32) (3 : Int32))), .val (.int (own_rv (own_rl l299 (7 : Int32) (own_spread q255)) (7 : Int32) (own_spread q255) (2 : Int32) (3 : Int32))), .val (.int (7 : Int32)), .val (.int ((own_spread q255) &&& (7 : Int32))), .val (.int (0 : Int32)), .unset, .unset]) X310 hx (hb hby at_161) rfl rfl ?_
        refine own_iload (pc' := 165) X310 hx (hb hby at_163) rfl rfl ?_
        refine own_iconst (pc' := 166) (z := (3 : Int32)) X310 hx (hb hby at_165) rfl rfl ?_
        refine own_icmpYes (pc' := 187) X310 hx (hb hby at_166) (tlt (by decide)).1 (by decide) (by decide) ?_
        refine own_iload (pc' := 189) X310 hx (hb hby at_187) rfl rfl ?_
        refine own_iconst (pc' := 190) (z := (2 : Int32)) X310 hx (hb hby at_189) rfl rfl ?_
        refine own_icmpNo (pc' := 193) X310 hx (hb hby at_190) rfl (flt (by decide)).1 ?_
        refine own_iloadN (pc' := 194) X310 hx (hb hby at_193) rfl rfl ?_
        refine own_callS (pc' := 197) (y := (⟨"com/example/larder/larder/cache/UseCounts", "spread", "(I)I"⟩ : MethodName)) (W := 0) (rm := own_room5) (argsL := [(.int p2)]) (rest := []) X310 hx hZ Kq310 hown (by rw [hml]; rfl) (own_w23 hw) (own_w24 hw) (own_w25 hw) (own_w26 hw) (by decide) (own_rm5 lch Z a0 hw [] p2 T307.heap n0) (by decide) (by decide) (by decide) (by decide) (lenOf own_pd0 rfl) rfl (by exact Nat.le_of_eq rfl) (hb hby at_194) rfl ?_
        intro T311 Lc311 v311 X311 hQ311
        obtain ⟨rfl, Nq311, Kq311⟩ := hQ311
        have N311 := Fr.app N310 Nq311
        show own_Ends prg e below s _ _ _ T311 (mkF m 197 #[.val (.int p0), .val (.int p1), .val (.int p2), .val (.int p3), .val (.int p4), .val (.int (3 : Int32)), .val (.int (2 : Int32)), .val (.int ((own_ushr p0 (4 : Int32)) &&& (3 : Int32))), .val (.int (8 : Int32)), .val (.int q255), .val (.ref a257), .val (.int (own_rv l299 (7 : Int32) (own_spread q255) (2 : Int32) (3 : Int32))), .val (.int (own_rv (own_rl l299 (7 : Int32) (own_spread q255)) (7 : Int32) (own_spread q255) (2 : Int32) (3 : Int32))), .val (.int (7 : Int32)), .val (.int ((own_spread q255) &&& (7 : Int32))), .val (.int (0 : Int32)), .unset, .unset] [(.int (own_spread p2))])
        refine own_iload (pc' := 199) X311 hx (hb hby at_197) rfl rfl ?_
        refine own_iand (pc' := 200) (z := ((own_spread p2) &&& (7 : Int32))) X311 hx (hb hby at_199) rfl rfl ?_
        refine own_iload (pc' := 202) X311 hx (hb hby at_200) rfl rfl ?_
        by_cases hc202_312 : ((own_spread p2) &&& (7 : Int32)) = ((own_spread q255) &&& (7 : Int32))
        · refine own_icmpNo (pc' := 205) X311 hx (hb hby at_202) rfl (teq hc202_312).2 ?_
          refine own_iconst (pc' := 206) (z := (2 : Int32)) X311 hx (hb hby at_205) rfl rfl ?_
          refine own_istore (pc' := 208) (l' := #[.val (.int p0), .val (.int p1), .val (.int p2), .val (.int p3), .val (.int p4), .val (.int (3 : Int32)), .val (.int (2 : Int32)), .val (.int ((own_ushr p0 (4 : Int32)) &&& (3 : Int32))), .val (.int (8 : Int32)), .val (.int q255), .val (.ref a257), .val (.int (own_rv l299 (7 : Int32) (own_spread q255) (2 : Int32) (3 : Int32))), .val (.int (own_rv (own_rl l299 (7 : Int32) (own_spread q255)) (7 : Int32) (own_spread q255) (2 : Int32) (3 : Int32))), .val (.int (7 : Int32)), .val (.int ((own_spread q255) &&& (7 : Int32))), .val (.int (2 : Int32)), .unset, .unset]) X311 hx (hb hby at_206) rfl rfl ?_
          refine own_goto (pc' := 232) X311 hx (hb hby at_208) (by decide) (by decide) ?_
          refine own_iload (pc' := 234) X311 hx (hb hby at_232) rfl rfl ?_
          refine own_iconst (pc' := 235) (z := (3 : Int32)) X311 hx (hb hby at_234) rfl rfl ?_
          refine own_icmpYes (pc' := 242) X311 hx (hb hby at_235) (feq (by decide)).2 (by decide) (by decide) ?_
          refine own_iload (pc' := 244) X311 hx (hb hby at_242) rfl rfl ?_
          refine own_iconst (pc' := 245) (z := (2 : Int32)) X311 hx (hb hby at_244) rfl rfl ?_
          refine own_icmpNo (pc' := 248) X311 hx (hb hby at_245) rfl (teq (by decide)).2 ?_
          refine own_iloadN (pc' := 249) X311 hx (hb hby at_248) rfl rfl ?_
          refine own_goto (pc' := 253) X311 hx (hb hby at_249) (by decide) (by decide) ?_
          refine own_istore (pc' := 255) (l' := #[.val (.int p0), .val (.int p1), .val (.int p2), .val (.int p3), .val (.int p4), .val (.int (3 : Int32)), .val (.int (2 : Int32)), .val (.int ((own_ushr p0 (4 : Int32)) &&& (3 : Int32))), .val (.int (8 : Int32)), .val (.int q255), .val (.ref a257), .val (.int (own_rv l299 (7 : Int32) (own_spread q255) (2 : Int32) (3 : Int32))), .val (.int (own_rv (own_rl l299 (7 : Int32) (own_spread q255)) (7 : Int32) (own_spread q255) (2 : Int32) (3 : Int32))), .val (.int (7 : Int32)), .val (.int ((own_spread q255) &&& (7 : Int32))), .val (.int (2 : Int32)), .val (.int p2), .unset]) X311 hx (hb hby at_253) rfl rfl ?_
          refine own_iload (pc' := 257) X311 hx (hb hby at_255) rfl rfl ?_
          refine own_ifNo (pc' := 260) X311 hx (hb hby at_257) rfl (feq (by decide)).1 ?_
          refine own_iload (pc' := 262) X311 hx (hb hby at_260) rfl rfl ?_
          refine own_iload (pc' := 264) X311 hx (hb hby at_262) rfl rfl ?_
          by_cases hc264_313 : p2 = q255
          · refine own_icmpNo (pc' := 267) X311 hx (hb hby at_264) rfl (teq hc264_313).2 ?_
            refine own_iload (pc' := 269) X311 hx (hb hby at_267) rfl rfl ?_
            refine own_iload (pc' := 271) X311 hx (hb hby at_269) rfl rfl ?_
            refine own_isub (pc' := 272) (z := (0 : Int32)) X311 hx (hb hby at_271) rfl (by decide) ?_
            refine own_iload (pc' := 274) X311 hx (hb hby at_272) rfl rfl ?_
            refine own_icmpNo (pc' := 277) X311 hx (hb hby at_274) rfl (tlt (by decide)).2.1 ?_
            refine own_iconst (pc' := 278) (z := (1 : Int32)) X311 hx (hb hby at_277) rfl rfl ?_
            refine own_goto (pc' := 282) X311 hx (hb hby at_278) (by decide) (by decide) ?_
            refine own_istore (pc' := 284) (l' := #[.val (.int p0), .val (.int p1), .val (.int p2), .val (.int p3), .val (.int p4), .val (.int (3 : Int32)), .val (.int (2 : Int32)), .val (.int ((own_ushr p0 (4 : Int32)) &&& (3 : Int32))), .val (.int (8 : Int32)), .val (.int q255), .val (.ref a257), .val (.int (own_rv l299 (7 : Int32) (own_spread q255) (2 : Int32) (3 : Int32))), .val (.int (own_rv (own_rl l299 (7 : Int32) (own_spread q255)) (7 : Int32) (own_spread q255) (2 : Int32) (3 : Int32))), .val (.int (7 : Int32)), .val (.int ((own_spread q255) &&& (7 : Int32))), .val (.int (2 : Int32)), .val (.int p2), .val (.int (1 : Int32))]) X311 hx (hb hby at_282) rfl rfl ?_
            refine own_iload (pc' := 286) X311 hx (hb hby at_284) rfl rfl ?_
            refine own_iload (pc' := 288) X311 hx (hb hby at_286) rfl rfl ?_
            have sl314 : own_slot l299 (7 : Int32) (own_spread q255) = own_pack (own_spread p2) (2 : Int64) := by
              rw [el299, el295]
              exact (own_slE (Or.inr (Or.inr ⟨rfl, rfl⟩)) (by simp) hc202_312)
            refine own_icmpNo (pc' := 291) X311 hx (hb hby at_288) rfl (teq ((own_hitv (i := 2) sl314 (by decide) (by decide)).trans ((if_pos hc264_313).trans (by decide)))).2 ?_
            refine own_iload (pc' := 293) X311 hx (hb hby at_291) rfl rfl ?_
            refine own_ifNo (pc' := 296) X311 hx (hb hby at_293) rfl (teq (own_second (Or.inr (Or.inr ⟨rfl, rfl⟩)) hl300)).2 ?_
            refine own_iconst (pc' := 297) (z := (1 : Int32)) X311 hx (hb hby at_296) rfl rfl ?_
            refine own_goto (pc' := 301) X311 hx (hb hby at_297) (by decide) (by decide) ?_
            refine own_retN X311 hx hlk hret (by simp) (hb hby at_301) (by decide) (by decide) ?_
            exact ⟨rfl, N311⟩
          · refine own_icmpYes (pc' := 281) X311 hx (hb hby at_264) (feq hc264_313).2 (by decide) (by decide) ?_
            refine own_iconst (pc' := 282) (z := (0 : Int32)) X311 hx (hb hby at_281) rfl rfl ?_
            refine own_istore (pc' := 284) (l' := #[.val (.int p0), .val (.int p1), .val (.int p2), .val (.int p3), .val (.int p4), .val (.int (3 : Int32)), .val (.int (2 : Int32)), .val (.int ((own_ushr p0 (4 : Int32)) &&& (3 : Int32))), .val (.int (8 : Int32)), .val (.int q255), .val (.ref a257), .val (.int (own_rv l299 (7 : Int32) (own_spread q255) (2 : Int32) (3 : Int32))), .val (.int (own_rv (own_rl l299 (7 : Int32) (own_spread q255)) (7 : Int32) (own_spread q255) (2 : Int32) (3 : Int32))), .val (.int (7 : Int32)), .val (.int ((own_spread q255) &&& (7 : Int32))), .val (.int (2 : Int32)), .val (.int p2), .val (.int (0 : Int32))]) X311 hx (hb hby at_282) rfl rfl ?_
            refine own_iload (pc' := 286) X311 hx (hb hby at_284) rfl rfl ?_
            refine own_iload (pc' := 288) X311 hx (hb hby at_286) rfl rfl ?_
            have sl315 : own_slot l299 (7 : Int32) (own_spread q255) = own_pack (own_spread p2) (2 : Int64) := by
              rw [el299, el295]
              exact (own_slE (Or.inr (Or.inr ⟨rfl, rfl⟩)) (by simp) hc202_312)
            refine own_icmpNo (pc' := 291) X311 hx (hb hby at_288) rfl (teq ((own_hitv (i := 2) sl315 (by decide) (by decide)).trans (if_neg hc264_313))).2 ?_
            refine own_iload (pc' := 293) X311 hx (hb hby at_291) rfl rfl ?_
            refine own_ifNo (pc' := 296) X311 hx (hb hby at_293) rfl (teq (own_second (Or.inr (Or.inr ⟨rfl, rfl⟩)) hl300)).2 ?_
            refine own_iconst (pc' := 297) (z := (1 : Int32)) X311 hx (hb hby at_296) rfl rfl ?_
            refine own_goto (pc' := 301) X311 hx (hb hby at_297) (by decide) (by decide) ?_
            refine own_retN X311 hx hlk hret (by simp) (hb hby at_301) (by decide) (by decide) ?_
            exact ⟨rfl, N311⟩
        · refine own_icmpYes (pc' := 211) X311 hx (hb hby at_202) (feq hc202_312).2 (by decide) (by decide) ?_
          refine own_iload (pc' := 213) X311 hx (hb hby at_211) rfl rfl ?_
          refine own_iconst (pc' := 214) (z := (1 : Int32)) X311 hx (hb hby at_213) rfl rfl ?_
          refine own_icmpNo (pc' := 217) X311 hx (hb hby at_214) rfl (flt (by decide)).1 ?_
          refine own_iloadN (pc' := 218) X311 hx (hb hby at_217) rfl rfl ?_
          refine own_callS (pc' := 221) (y := (⟨"com/example/larder/larder/cache/UseCounts", "spread", "(I)I"⟩ : MethodName)) (W := 0) (rm := own_room5) (argsL := [(.int p1)]) (rest := []) X311 hx hZ Kq311 hown (by rw [hml]; rfl) (own_w23 hw) (own_w24 hw) (own_w25 hw) (own_w26 hw) (by decide) (own_rm5 lch Z a0 hw [] p1 T307.heap n0) (by decide) (by decide) (by decide) (by decide) (lenOf own_pd0 rfl) rfl (by exact Nat.le_of_eq rfl) (hb hby at_218) rfl ?_
          intro T316 Lc316 v316 X316 hQ316
          obtain ⟨rfl, Nq316, Kq316⟩ := hQ316
          have N316 := Fr.app N311 Nq316
          show own_Ends prg e below s _ _ _ T316 (mkF m 221 #[.val (.int p0), .val (.int p1), .val (.int p2), .val (.int p3), .val (.int p4), .val (.int (3 : Int32)), .val (.int (2 : Int32)), .val (.int ((own_ushr p0 (4 : Int32)) &&& (3 : Int32))), .val (.int (8 : Int32)), .val (.int q255), .val (.ref a257), .val (.int (own_rv l299 (7 : Int32) (own_spread q255) (2 : Int32) (3 : Int32))), .val (.int (own_rv (own_rl l299 (7 : Int32) (own_spread q255)) (7 : Int32) (own_spread q255) (2 : Int32) (3 : Int32))), .val (.int (7 : Int32)), .val (.int ((own_spread q255) &&& (7 : Int32))), .val (.int (0 : Int32)), .unset, .unset] [(.int (own_spread p1))])
          refine own_iload (pc' := 223) X316 hx (hb hby at_221) rfl rfl ?_
          refine own_iand (pc' := 224) (z := ((own_spread p1) &&& (7 : Int32))) X316 hx (hb hby at_223) rfl rfl ?_
          refine own_iload (pc' := 226) X316 hx (hb hby at_224) rfl rfl ?_
          by_cases hc226_317 : ((own_spread p1) &&& (7 : Int32)) = ((own_spread q255) &&& (7 : Int32))
          · refine own_icmpNo (pc' := 229) X316 hx (hb hby at_226) rfl (teq hc226_317).2 ?_
            refine own_iconst (pc' := 230) (z := (1 : Int32)) X316 hx (hb hby at_229) rfl rfl ?_
            refine own_istore (pc' := 232) (l' := #[.val (.int p0), .val (.int p1), .val (.int p2), .val (.int p3), .val (.int p4), .val (.int (3 : Int32)), .val (.int (2 : Int32)), .val (.int ((own_ushr p0 (4 : Int32)) &&& (3 : Int32))), .val (.int (8 : Int32)), .val (.int q255), .val (.ref a257), .val (.int (own_rv l299 (7 : Int32) (own_spread q255) (2 : Int32) (3 : Int32))), .val (.int (own_rv (own_rl l299 (7 : Int32) (own_spread q255)) (7 : Int32) (own_spread q255) (2 : Int32) (3 : Int32))), .val (.int (7 : Int32)), .val (.int ((own_spread q255) &&& (7 : Int32))), .val (.int (1 : Int32)), .unset, .unset]) X316 hx (hb hby at_230) rfl rfl ?_
            refine own_iload (pc' := 234) X316 hx (hb hby at_232) rfl rfl ?_
            refine own_iconst (pc' := 235) (z := (3 : Int32)) X316 hx (hb hby at_234) rfl rfl ?_
            refine own_icmpYes (pc' := 242) X316 hx (hb hby at_235) (feq (by decide)).2 (by decide) (by decide) ?_
            refine own_iload (pc' := 244) X316 hx (hb hby at_242) rfl rfl ?_
            refine own_iconst (pc' := 245) (z := (2 : Int32)) X316 hx (hb hby at_244) rfl rfl ?_
            refine own_icmpYes (pc' := 252) X316 hx (hb hby at_245) (feq (by decide)).2 (by decide) (by decide) ?_
            refine own_iloadN (pc' := 253) X316 hx (hb hby at_252) rfl rfl ?_
            refine own_istore (pc' := 255) (l' := #[.val (.int p0), .val (.int p1), .val (.int p2), .val (.int p3), .val (.int p4), .val (.int (3 : Int32)), .val (.int (2 : Int32)), .val (.int ((own_ushr p0 (4 : Int32)) &&& (3 : Int32))), .val (.int (8 : Int32)), .val (.int q255), .val (.ref a257), .val (.int (own_rv l299 (7 : Int32) (own_spread q255) (2 : Int32) (3 : Int32))), .val (.int (own_rv (own_rl l299 (7 : Int32) (own_spread q255)) (7 : Int32) (own_spread q255) (2 : Int32) (3 : Int32))), .val (.int (7 : Int32)), .val (.int ((own_spread q255) &&& (7 : Int32))), .val (.int (1 : Int32)), .val (.int p1), .unset]) X316 hx (hb hby at_253) rfl rfl ?_
            refine own_iload (pc' := 257) X316 hx (hb hby at_255) rfl rfl ?_
            refine own_ifNo (pc' := 260) X316 hx (hb hby at_257) rfl (feq (by decide)).1 ?_
            refine own_iload (pc' := 262) X316 hx (hb hby at_260) rfl rfl ?_
            refine own_iload (pc' := 264) X316 hx (hb hby at_262) rfl rfl ?_
            by_cases hc264_318 : p1 = q255
            · refine own_icmpNo (pc' := 267) X316 hx (hb hby at_264) rfl (teq hc264_318).2 ?_
              refine own_iload (pc' := 269) X316 hx (hb hby at_267) rfl rfl ?_
              refine own_iload (pc' := 271) X316 hx (hb hby at_269) rfl rfl ?_
              refine own_isub (pc' := 272) (z := (1 : Int32)) X316 hx (hb hby at_271) rfl (by decide) ?_
              refine own_iload (pc' := 274) X316 hx (hb hby at_272) rfl rfl ?_
              refine own_icmpNo (pc' := 277) X316 hx (hb hby at_274) rfl (tlt (by decide)).2.1 ?_
              refine own_iconst (pc' := 278) (z := (1 : Int32)) X316 hx (hb hby at_277) rfl rfl ?_
              refine own_goto (pc' := 282) X316 hx (hb hby at_278) (by decide) (by decide) ?_
              refine own_istore (pc' := 284) (l' := #[.val (.int p0), .val (.int p1), .val (.int p2), .val (.int p3), .val (.int p4), .val (.int (3 : Int32)), .val (.int (2 : Int32)), .val (.int ((own_ushr p0 (4 : Int32)) &&& (3 : Int32))), .val (.int (8 : Int32)), .val (.int q255), .val (.ref a257), .val (.int (own_rv l299 (7 : Int32) (own_spread q255) (2 : Int32) (3 : Int32))), .val (.int (own_rv (own_rl l299 (7 : Int32) (own_spread q255)) (7 : Int32) (own_spread q255) (2 : Int32) (3 : Int32))), .val (.int (7 : Int32)), .val (.int ((own_spread q255) &&& (7 : Int32))), .val (.int (1 : Int32)), .val (.int p1), .val (.int (1 : Int32))]) X316 hx (hb hby at_282) rfl rfl ?_
              refine own_iload (pc' := 286) X316 hx (hb hby at_284) rfl rfl ?_
              refine own_iload (pc' := 288) X316 hx (hb hby at_286) rfl rfl ?_
              have sl319 : own_slot l299 (7 : Int32) (own_spread q255) = own_pack (own_spread p1) (1 : Int64) := by
                rw [el299, el295]
                exact ((own_slN (Or.inr (Or.inr ⟨rfl, rfl⟩)) (by simp) hc202_312).trans (own_slE (Or.inr (Or.inr ⟨rfl, rfl⟩)) (List.length_replicate) hc226_317))
              refine own_icmpNo (pc' := 291) X316 hx (hb hby at_288) rfl (teq ((own_hitv (i := 1) sl319 (by decide) (by decide)).trans ((if_pos hc264_318).trans (by decide)))).2 ?_
              refine own_iload (pc' := 293) X316 hx (hb hby at_291) rfl rfl ?_
              refine own_ifNo (pc' := 296) X316 hx (hb hby at_293) rfl (teq (own_second (Or.inr (Or.inr ⟨rfl, rfl⟩)) hl300)).2 ?_
              refine own_iconst (pc' := 297) (z := (1 : Int32)) X316 hx (hb hby at_296) rfl rfl ?_
              refine own_goto (pc' := 301) X316 hx (hb hby at_297) (by decide) (by decide) ?_
              refine own_retN X316 hx hlk hret (by simp) (hb hby at_301) (by decide) (by decide) ?_
              exact ⟨rfl, N316⟩
            · refine own_icmpYes (pc' := 281) X316 hx (hb hby at_264) (feq hc264_318).2 (by decide) (by decide) ?_
              refine own_iconst (pc' := 282) (z := (0 : Int32)) X316 hx (hb hby at_281) rfl rfl ?_
              refine own_istore (pc' := 284) (l' := #[.val (.int p0), .val (.int p1), .val (.int p2), .val (.int p3), .val (.int p4), .val (.int (3 : Int32)), .val (.int (2 : Int32)), .val (.int ((own_ushr p0 (4 : Int32)) &&& (3 : Int32))), .val (.int (8 : Int32)), .val (.int q255), .val (.ref a257), .val (.int (own_rv l299 (7 : Int32) (own_spread q255) (2 : Int32) (3 : Int32))), .val (.int (own_rv (own_rl l299 (7 : Int32) (own_spread q255)) (7 : Int32) (own_spread q255) (2 : Int32) (3 : Int32))), .val (.int (7 : Int32)), .val (.int ((own_spread q255) &&& (7 : Int32))), .val (.int (1 : Int32)), .val (.int p1), .val (.int (0 : Int32))]) X316 hx (hb hby at_282) rfl rfl ?_
              refine own_iload (pc' := 286) X316 hx (hb hby at_284) rfl rfl ?_
              refine own_iload (pc' := 288) X316 hx (hb hby at_286) rfl rfl ?_
              have sl320 : own_slot l299 (7 : Int32) (own_spread q255) = own_pack (own_spread p1) (1 : Int64) := by
                rw [el299, el295]
                exact ((own_slN (Or.inr (Or.inr ⟨rfl, rfl⟩)) (by simp) hc202_312).trans (own_slE (Or.inr (Or.inr ⟨rfl, rfl⟩)) (List.length_replicate) hc226_317))
              refine own_icmpNo (pc' := 291) X316 hx (hb hby at_288) rfl (teq ((own_hitv (i := 1) sl320 (by decide) (by decide)).trans (if_neg hc264_318))).2 ?_
              refine own_iload (pc' := 293) X316 hx (hb hby at_291) rfl rfl ?_
              refine own_ifNo (pc' := 296) X316 hx (hb hby at_293) rfl (teq (own_second (Or.inr (Or.inr ⟨rfl, rfl⟩)) hl300)).2 ?_
              refine own_iconst (pc' := 297) (z := (1 : Int32)) X316 hx (hb hby at_296) rfl rfl ?_
              refine own_goto (pc' := 301) X316 hx (hb hby at_297) (by decide) (by decide) ?_
              refine own_retN X316 hx hlk hret (by simp) (hb hby at_301) (by decide) (by decide) ?_
              exact ⟨rfl, N316⟩
          · refine own_icmpYes (pc' := 232) X316 hx (hb hby at_226) (feq hc226_317).2 (by decide) (by decide) ?_
            refine own_iload (pc' := 234) X316 hx (hb hby at_232) rfl rfl ?_
            refine own_iconst (pc' := 235) (z := (3 : Int32)) X316 hx (hb hby at_234) rfl rfl ?_
            refine own_icmpYes (pc' := 242) X316 hx (hb hby at_235) (feq (by decide)).2 (by decide) (by decide) ?_
            refine own_iload (pc' := 244) X316 hx (hb hby at_242) rfl rfl ?_
            refine own_iconst (pc' := 245) (z := (2 : Int32)) X316 hx (hb hby at_244) rfl rfl ?_
            refine own_icmpYes (pc' := 252) X316 hx (hb hby at_245) (feq (by decide)).2 (by decide) (by decide) ?_
            refine own_iloadN (pc' := 253) X316 hx (hb hby at_252) rfl rfl ?_
            refine own_istore (pc' := 255) (l' := #[.val (.int p0), .val (.int p1), .val (.int p2), .val (.int p3), .val (.int p4), .val (.int (3 : Int32)), .val (.int (2 : Int32)), .val (.int ((own_ushr p0 (4 : Int32)) &&& (3 : Int32))), .val (.int (8 : Int32)), .val (.int q255), .val (.ref a257), .val (.int (own_rv l299 (7 : Int32) (own_spread q255) (2 : Int32) (3 : Int32))), .val (.int (own_rv (own_rl l299 (7 : Int32) (own_spread q255)) (7 : Int32) (own_spread q255) (2 : Int32) (3 : Int32))), .val (.int (7 : Int32)), .val (.int ((own_spread q255) &&& (7 : Int32))), .val (.int (0 : Int32)), .val (.int p1), .unset]) X316 hx (hb hby at_253) rfl rfl ?_
            refine own_iload (pc' := 257) X316 hx (hb hby at_255) rfl rfl ?_
            refine own_ifYes (pc' := 281) X316 hx (hb hby at_257) (teq (by decide)).1 (by decide) (by decide) ?_
            refine own_iconst (pc' := 282) (z := (0 : Int32)) X316 hx (hb hby at_281) rfl rfl ?_
            refine own_istore (pc' := 284) (l' := #[.val (.int p0), .val (.int p1), .val (.int p2), .val (.int p3), .val (.int p4), .val (.int (3 : Int32)), .val (.int (2 : Int32)), .val (.int ((own_ushr p0 (4 : Int32)) &&& (3 : Int32))), .val (.int (8 : Int32)), .val (.int q255), .val (.ref a257), .val (.int (own_rv l299 (7 : Int32) (own_spread q255) (2 : Int32) (3 : Int32))), .val (.int (own_rv (own_rl l299 (7 : Int32) (own_spread q255)) (7 : Int32) (own_spread q255) (2 : Int32) (3 : Int32))), .val (.int (7 : Int32)), .val (.int ((own_spread q255) &&& (7 : Int32))), .val (.int (0 : Int32)), .val (.int p1), .val (.int (0 : Int32))]) X316 hx (hb hby at_282) rfl rfl ?_
            refine own_iload (pc' := 286) X316 hx (hb hby at_284) rfl rfl ?_
            refine own_iload (pc' := 288) X316 hx (hb hby at_286) rfl rfl ?_
            have sl321 : own_slot l299 (7 : Int32) (own_spread q255) = 0 := by
              rw [el299, el295]
              exact ((own_slN (Or.inr (Or.inr ⟨rfl, rfl⟩)) (by simp) hc202_312).trans ((own_slN (Or.inr (Or.inr ⟨rfl, rfl⟩)) (List.length_replicate) hc226_317).trans (own_sl0 _ _ _)))
            refine own_icmpNo (pc' := 291) X316 hx (hb hby at_288) rfl (teq (own_miss sl321)).2 ?_
            refine own_iload (pc' := 293) X316 hx (hb hby at_291) rfl rfl ?_
            refine own_ifNo (pc' := 296) X316 hx (hb hby at_293) rfl (teq (own_second (Or.inr (Or.inr ⟨rfl, rfl⟩)) hl300)).2 ?_
            refine own_iconst (pc' := 297) (z := (1 : Int32)) X316 hx (hb hby at_296) rfl rfl ?_
            refine own_goto (pc' := 301) X316 hx (hb hby at_297) (by decide) (by decide) ?_
            refine own_retN X316 hx hlk hret (by simp) (hb hby at_301) (by decide) (by decide) ?_
            exact ⟨rfl, N316⟩
      · refine own_iload (pc' := 92) X262 hx (hb hby at_90) rfl rfl ?_
        refine own_iconst (pc' := 93) (z := (1 : Int32)) X262 hx (hb hby at_92) rfl rfl ?_
        refine own_icmpNo (pc' := 96) X262 hx (hb hby at_93) rfl (flt (by decide)).1 ?_
        refine own_aload (pc' := 98) X262 hx (hb hby at_96) rfl rfl rfl ?_
        refine own_iloadN (pc' := 99) X262 hx (hb hby at_98) rfl rfl ?_
        have f322 := (A257.keep Kq262)
        have f323 := (Nat.le_trans (Nat.le_trans Z0 E257.1) Kq262.1)
        refine own_callV (pc' := 102) (y := (⟨"com/example/larder/larder/cache/EvictedKeys", "remember", "(I)V"⟩ : MethodName)) (W := 0) (rm := own_room6_3_0) (argsL := [(.int p1)]) (rest := []) (b := a257) (C := "com/example/larder/larder/cache/EvictedKeys") X262 hx hZ rfl hown (by rw [hml]; rfl) f322 (own_w28 hw) (own_w29 hw) (own_w31 hw) (own_w30 hw) (own_w2 hw) (own_w32 hw) (by decide) (own_rm6_3_0 lch Z a0 hw [] a257 p1 T262.heap n0 f323 f322 G262_0 G262_1 G262_2 ge258) (by decide) (by decide) (by decide) (by decide) (lenOf own_pd4 rfl) rfl (by exact Nat.le_of_eq rfl) (hb hby at_99) rfl ?_
        intro T324 Lc324 v324 X324 hQ324
        obtain ⟨b324, bk324, rfl, Nq324, Kq324, G324_0, G324_1, G324_2, G324_3, G324_4⟩ := hQ324
        have N324 := Fr.app N262 Nq324
        have ge325 : n0 ≤ b324 := Nat.le_trans f323 G324_0
        have ne326 : a257 ≠ b324 := Nat.ne_of_lt (Nat.lt_of_lt_of_le f322.lt G324_0)
        obtain ⟨l327, el327⟩ : ∃ z, z = ((List.replicate 8 (0 : Int64)).set (own_ixm (7 : Int32) (own_spread p1)) (own_pack (own_spread p1) (1 : Int64))) := ⟨_, rfl⟩
        rw [← el327] at G324_4
        have hl328 : l327.length = 8 := by rw [el327, List.length_set]; rfl
        show own_Ends prg e below s _ _ _ T324 (mkF m 102 #[.val (.int p0), .val (.int p1), .val (.int p2), .val (.int p3), .val (.int p4), .val (.int (3 : Int32)), .val (.int (3 : Int32)), .val (.int ((own_ushr p0 (4 : Int32)) &&& (3 : Int32))), .val (.int (8 : Int32)), .val (.int q255), .val (.ref a257), .unset, .unset, .unset, .unset, .unset, .unset, .unset] [])
        refine own_iload (pc' := 104) X324 hx (hb hby at_102) rfl rfl ?_
        refine own_iconst (pc' := 105) (z := (2 : Int32)) X324 hx (hb hby at_104) rfl rfl ?_
        refine own_icmpNo (pc' := 108) X324 hx (hb hby at_105) rfl (flt (by decide)).1 ?_
        refine own_aload (pc' := 110) X324 hx (hb hby at_108) rfl rfl rfl ?_
        refine own_iloadN (pc' := 111) X324 hx (hb hby at_110) rfl rfl ?_
        have f329 := (f322.keep Kq324)
        refine own_callV (pc' := 114) (y := (⟨"com/example/larder/larder/cache/EvictedKeys", "remember", "(I)V"⟩ : MethodName)) (W := 0) (rm := own_room6_3_1) (argsL := [(.int p2)]) (rest := []) (b := a257) (C := "com/example/larder/larder/cache/EvictedKeys") X324 hx hZ rfl hown (by rw [hml]; rfl) f329 (own_w28 hw) (own_w29 hw) (own_w31 hw) (own_w30 hw) (own_w2 hw) (own_w32 hw) (by decide) (own_rm6_3_1 lch Z a0 hw [] a257 p2 b324 bk324 l327 T324.heap n0 f329 G324_1 G324_2 G324_3 ge258 G324_4 hl328 ge325 ne326) (by decide) (by decide) (by decide) (by decide) (lenOf own_pd4 rfl) rfl (by exact Nat.le_of_eq rfl) (hb hby at_111) rfl ?_
        intro T330 Lc330 v330 X330 hQ330
        obtain ⟨rfl, Nq330, Kq330, G330_0, G330_1, G330_2, G330_3⟩ := hQ330
        have N330 := Fr.app N324 Nq330
        obtain ⟨l331, el331⟩ : ∃ z, z = (l327.set (own_ixm (7 : Int32) (own_spread p2)) (own_pack (own_spread p2) (2 : Int64))) := ⟨_, rfl⟩
        rw [← el331] at G330_3
        have hl332 : l331.length = 8 := by rw [el331, List.length_set]; exact hl328
        show own_Ends prg e below s _ _ _ T330 (mkF m 114 #[.val (.int p0), .val (.int p1), .val (.int p2), .val (.int p3), .val (.int p4), .val (.int (3 : Int32)), .val (.int (3 : Int32)), .val (.int ((own_ushr p0 (4 : Int32)) &&& (3 : Int32))), .val (.int (8 : Int32)), .val (.int q255), .val (.ref a257), .unset, .unset, .unset, .unset, .unset, .unset, .unset] [])
        refine own_iload (pc' := 116) X330 hx (hb hby at_114) rfl rfl ?_
        refine own_iconst (pc' := 117) (z := (3 : Int32)) X330 hx (hb hby at_116) rfl rfl ?_
        refine own_icmpNo (pc' := 120) X330 hx (hb hby at_117) rfl (flt (by decide)).1 ?_
        refine own_aload (pc' := 122) X330 hx (hb hby at_120) rfl rfl rfl ?_
        refine own_iloadN (pc' := 123) X330 hx (hb hby at_122) rfl rfl ?_
        have f333 := (f329.keep Kq330)
        refine own_callV (pc' := 126) (y := (⟨"com/example/larder/larder/cache/EvictedKeys", "remember", "(I)V"⟩ : MethodName)) (W := 0) (rm := own_room6_3_2) (argsL := [(.int p3)]) (rest := []) (b := a257) (C := "com/example/larder/larder/cache/EvictedKeys") X330 hx hZ rfl hown (by rw [hml]; rfl) f333 (own_w28 hw) (own_w29 hw) (own_w31 hw) (own_w30 hw) (own_w2 hw) (own_w32 hw) (by decide) (own_rm6_3_2 lch Z a0 hw [] a257 p3 b324 bk324 l331 T330.heap n0 f333 G330_0 G330_1 G330_2 ge258 G330_3 hl332 ge325 ne326) (by decide) (by decide) (by decide) (by decide) (lenOf own_pd4 rfl) rfl (by exact Nat.le_of_eq rfl) (hb hby at_123) rfl ?_
        intro T334 Lc334 v334 X334 hQ334
        obtain ⟨rfl, Nq334, Kq334, G334_0, G334_1, G334_2, G334_3⟩ := hQ334
        have N334 := Fr.app N330 Nq334
        obtain ⟨l335, el335⟩ : ∃ z, z = (l331.set (own_ixm (7 : Int32) (own_spread p3)) (own_pack (own_spread p3) (3 : Int64))) := ⟨_, rfl⟩
        rw [← el335] at G334_3
        have hl336 : l335.length = 8 := by rw [el335, List.length_set]; exact hl332
        show own_Ends prg e below s _ _ _ T334 (mkF m 126 #[.val (.int p0), .val (.int p1), .val (.int p2), .val (.int p3), .val (.int p4), .val (.int (3 : Int32)), .val (.int (3 : Int32)), .val (.int ((own_ushr p0 (4 : Int32)) &&& (3 : Int32))), .val (.int (8 : Int32)), .val (.int q255), .val (.ref a257), .unset, .unset, .unset, .unset, .unset, .unset, .unset] [])
        refine own_aload (pc' := 128) X334 hx (hb hby at_126) rfl rfl rfl ?_
        refine own_iload (pc' := 130) X334 hx (hb hby at_128) rfl rfl ?_
        have f338 := (f333.keep Kq334)
        refine own_callV (pc' := 133) (y := (⟨"com/example/larder/larder/cache/EvictedKeys", "recall", "(I)Z"⟩ : MethodName)) (W := 0) (rm := own_room4_8) (argsL := [(.int q255)]) (rest := []) (b := a257) (C := "com/example/larder/larder/cache/EvictedKeys") X334 hx hZ rfl hown (by rw [hml]; rfl) f338 (own_w16 hw) (own_w17 hw) (own_w19 hw) (own_w18 hw) (own_w2 hw) (own_w20 hw) (by decide) (own_rm4_8 lch Z a0 hw [] a257 q255 b324 bk324 l335 (3 : Int32) (3 : Int32) T334.heap n0 G334_0 G334_1 G334_2 G334_3 hl336 ge325 ne326) (by decide) (by decide) (by decide) (by decide) (lenOf own_pd3 rfl) rfl (by exact Nat.le_of_eq rfl) (hb hby at_130) rfl ?_
        intro T337 Lc337 v337 X337 hQ337
        obtain ⟨rfl, Nq337, Kq337, G337_0⟩ := hQ337
        have N337 := Fr.app N334 Nq337
        have hl339 : (own_rl l335 (7 : Int32) (own_spread q255)).length = 8 := (own_rllen _ _ _).trans hl336
        show own_Ends prg e below s _ _ _ T337 (mkF m 133 #[.val (.int p0), .val (.int p1), .val (.int p2), .val (.int p3), .val (.int p4), .val (.int (3 : Int32)), .val (.int (3 : Int32)), .val (.int ((own_ushr p0 (4 : Int32)) &&& (3 : Int32))), .val (.int (8 : Int32)), .val (.int q255), .val (.ref a257), .unset, .unset, .unset, .unset, .unset, .unset, .unset] [(.int (own_rv l335 (7 : Int32) (own_spread q255) (3 : Int32) (3 : Int32)))])
        refine own_istore (pc' := 135) (l' := #[.val (.int p0), .val (.int p1), .val (.int p2), .val (.int p3), .val (.int p4), .val (.int (3 : Int32)), .val (.int (3 : Int32)), .val (.int ((own_ushr p0 (4 : Int32)) &&& (3 : Int32))), .val (.int (8 : Int32)), .val (.int q255), .val (.ref a257), .val (.int (own_rv l335 (7 : Int32) (own_spread q255) (3 : Int32) (3 : Int32))), .unset, .unset, .unset, .unset, .unset, .unset]) X337 hx (hb hby at_133) rfl rfl ?_
        refine own_aload (pc' := 137) X337 hx (hb hby at_135) rfl rfl rfl ?_
        refine own_iload (pc' := 139) X337 hx (hb hby at_137) rfl rfl ?_
        have f340 := (G334_0.keep Kq337 (ninS ne326 nin0))
        have f341 := (G334_1.keep Kq337 (ninS ne326 nin0))
        have f342 := (G334_2.keep Kq337 (ninS ne326 nin0))
        have f344 := (f338.keep Kq337)
        refine own_callV (pc' := 142) (y := (⟨"com/example/larder/larder/cache/EvictedKeys", "recall", "(I)Z"⟩ : MethodName)) (W := 0) (rm := own_room4_8) (argsL := [(.int q255)]) (rest := []) (b := a257) (C := "com/example/larder/larder/cache/EvictedKeys") X337 hx hZ rfl hown (by rw [hml]; rfl) f344 (own_w16 hw) (own_w17 hw) (own_w19 hw) (own_w18 hw) (own_w2 hw) (own_w20 hw) (by decide) (own_rm4_8 lch Z a0 hw [] a257 q255 b324 bk324 (own_rl l335 (7 : Int32) (own_spread q255)) (3 : Int32) (3 : Int32) T337.heap n0 f340 f341 f342 G337_0 hl339 ge325 ne326) (by decide) (by decide) (by decide) (by decide) (lenOf own_pd3 rfl) rfl (by exact Nat.le_of_eq rfl) (hb hby at_139) rfl ?_
        intro T343 Lc343 v343 X343 hQ343
        obtain ⟨rfl, Nq343, Kq343, G343_0⟩ := hQ343
        have N343 := Fr.app N337 Nq343
        have hl345 : (own_rl (own_rl l335 (7 : Int32) (own_spread q255)) (7 : Int32) (own_spread q255)).length = 8 := (own_rllen _ _ _).trans hl339
        show own_Ends prg e below s _ _ _ T343 (mkF m 142 #[.val (.int p0), .val (.int p1), .val (.int p2), .val (.int p3), .val (.int p4), .val (.int (3 : Int32)), .val (.int (3 : Int32)), .val (.int ((own_ushr p0 (4 : Int32)) &&& (3 : Int32))), .val (.int (8 : Int32)), .val (.int q255), .val (.ref a257), .val (.int (own_rv l335 (7 : Int32) (own_spread q255) (3 : Int32) (3 : Int32))), .unset, .unset, .unset, .unset, .unset, .unset] [(.int (own_rv (own_rl l335 (7 : Int32) (own_spread q255)) (7 : Int32) (own_spread q255) (3 : Int32) (3 : Int32)))])
        refine own_istore (pc' := 144) (l' := #[.val (.int p0), .val (.int p1), .val (.int p2), .val (.int p3), .val (.int p4), .val (.int (3 : Int32)), .val (.int (3 : Int32)), .val (.int ((own_ushr p0 (4 : Int32)) &&& (3 : Int32))), .val (.int (8 : Int32)), .val (.int q255), .val (.ref a257), .val (.int (own_rv l335 (7 : Int32) (own_spread q255) (3 : Int32) (3 : Int32))), .val (.int (own_rv (own_rl l335 (7 : Int32) (own_spread q255)) (7 : Int32) (own_spread q255) (3 : Int32) (3 : Int32))), .unset, .unset, .unset, .unset, .unset]) X343 hx (hb hby at_142) rfl rfl ?_
        refine own_iload (pc' := 146) X343 hx (hb hby at_144) rfl rfl ?_
        refine own_iconst (pc' := 147) (z := (1 : Int32)) X343 hx (hb hby at_146) rfl rfl ?_
        refine own_isub (pc' := 148) (z := (7 : Int32)) X343 hx (hb hby at_147) rfl (by decide) ?_
        refine own_istore (pc' := 150) (l' := #[.val (.int p0), .val (.int p1), .val (.int p2), .val (.int p3), .val (.int p4), .val (.int (3 : Int32)), .val (.int (3 : Int32)), .val (.int ((own_ushr p0 (4 : Int32)) &&& (3 : Int32))), .val (.int (8 : Int32)), .val (.int q255), .val (.ref a257), .val (.int (own_rv l335 (7 : Int32) (own_spread q255) (3 : Int32) (3 : Int32))), .val (.int (own_rv (own_rl l335 (7 : Int32) (own_spread q255)) (7 : Int32) (own_spread q255) (3 : Int32) (3 : Int32))), .val (.int (7 : Int32)), .unset, .unset, .unset, .unset]) X343 hx (hb hby at_148) rfl rfl ?_
        refine own_iload (pc' := 152) X343 hx (hb hby at_150) rfl rfl ?_
        refine own_callS (pc' := 155) (y := (⟨"com/example/larder/larder/cache/UseCounts", "spread", "(I)I"⟩ : MethodName)) (W := 0) (rm := own_room5) (argsL := [(.int q255)]) (rest := []) X343 hx hZ rfl hown (by rw [hml]; rfl) (own_w23 hw) (own_w24 hw) (own_w25 hw) (own_w26 hw) (by decide) (own_rm5 lch Z a0 hw [] q255 T343.heap n0) (by decide) (by decide) (by decide) (by decide) (lenOf own_pd0 rfl) rfl (by exact Nat.le_of_eq rfl) (hb hby at_152) rfl ?_
        intro T346 Lc346 v346 X346 hQ346
        obtain ⟨rfl, Nq346, Kq346⟩ := hQ346
        have N346 := Fr.app N343 Nq346
        show own_Ends prg e below s _ _ _ T346 (mkF m 155 #[.val (.int p0), .val (.int p1), .val (.int p2), .val (.int p3), .val (.int p4), .val (.int (3 : Int32)), .val (.int (3 : Int32)), .val (.int ((own_ushr p0 (4 : Int32)) &&& (3 : Int32))), .val (.int (8 : Int32)), .val (.int q255), .val (.ref a257), .val (.int (own_rv l335 (7 : Int32) (own_spread q255) (3 : Int32) (3 : Int32))), .val (.int (own_rv (own_rl l335 (7 : Int32) (own_spread q255)) (7 : Int32) (own_spread q255) (3 : Int32) (3 : Int32))), .val (.int (7 : Int32)), .unset, .unset, .unset, .unset] [(.int (own_spread q255))])
        refine own_iload (pc' := 157) X346 hx (hb hby at_155) rfl rfl ?_
        refine own_iand (pc' := 158) (z := ((own_spread q255) &&& (7 : Int32))) X346 hx (hb hby at_157) rfl rfl ?_
        refine own_istore (pc' := 160) (l' := #[.val (.int p0), .val (.int p1), .val (.int p2), .val (.int p3), .val (.int p4), .val (.int (3 : Int32)), .val (.int (3 : Int32)), .val (.int ((own_ushr p0 (4 : Int32)) &&& (3 : Int32))), .val (.int (8 : Int32)), .val (.int q255), .val (.ref a257), .val (.int (own_rv l335 (7 : Int32) (own_spread q255) (3 : Int32) (3 : Int32))), .val (.int (own_rv (own_rl l335 (7 : Int32) (own_spread q255)) (7 : Int32) (own_spread q255) (3 : Int32) (3 : Int32))), .val (.int (7 : Int32)), .val (.int ((own_spread q255) &&& (7 : Int32))), .unset, .unset, .unset]) X346 hx (hb hby at_158) rfl rfl ?_
        refine own_iconst (pc' := 161) (z := (0 : Int32)) X346 hx (hb hby at_160) rfl rfl ?_
        refine own_istore (pc' := 163) (l' := #[.val (.int p0), .val (.int p1), .val (.int p2), .val (.int p3), .val (.int p4), .val (.int (3 : Int32)), .val (.int (3 : Int32)), .val (.int ((own_ushr p0 (4 : Int32)) &&& (3 : Int32))), .val (.int (8 : Int32)), .val (.int q255), .val (.ref a257), .val (.int (own_rv l335 (7 : Int32) (own_spread q255) (3 : Int32) (3 : Int32))), .val (.int (own_rv (own_rl l335 (7 : Int32) (own_spread q255)) (7 : Int32) (own_spread q255) (3 : Int32) (3 : Int32))), .val (.int (7 : Int32)), .val (.int ((own_spread q255) &&& (7 : Int32))), .val (.int (0 : Int32)), .unset, .unset]) X346 hx (hb hby at_161) rfl rfl ?_
        refine own_iload (pc' := 165) X346 hx (hb hby at_163) rfl rfl ?_
        refine own_iconst (pc' := 166) (z := (3 : Int32)) X346 hx (hb hby at_165) rfl rfl ?_
        refine own_icmpNo (pc' := 169) X346 hx (hb hby at_166) rfl (flt (by decide)).1 ?_
        refine own_iloadN (pc' := 170) X346 hx (hb hby at_169) rfl rfl ?_
        refine own_callS (pc' := 173) (y := (⟨"com/example/larder/larder/cache/UseCounts", "spread", "(I)I"⟩ : MethodName)) (W := 0) (rm := own_room5) (argsL := [(.int p3)]) (rest := []) X346 hx hZ Kq346 hown (by rw [hml]; rfl) (own_w23 hw) (own_w24 hw) (own_w25 hw) (own_w26 hw) (by decide) (own_rm5 lch Z a0 hw [] p3 T343.heap n0) (by decide) (by decide) (by decide) (by decide) (lenOf own_pd0 rfl) rfl (by exact Nat.le_of_eq rfl) (hb hby at_170) rfl ?_
        intro T347 Lc347 v347 X347 hQ347
        obtain ⟨rfl, Nq347, Kq347⟩ := hQ347
        have N347 := Fr.app N346 Nq347
        show own_Ends prg e below s _ _ _ T347 (mkF m 173 #[.val (.int p0), .val (.int p1), .val (.int p2), .val (.int p3), .val (.int p4), .val (.int (3 : Int32)), .val (.int (3 : Int32)), .val (.int ((own_ushr p0 (4 : Int32)) &&& (3 : Int32))), .val (.int (8 : Int32)), .val (.int q255), .val (.ref a257), .val (.int (own_rv l335 (7 : Int32) (own_spread q255) (3 : Int32) (3 : Int32))), .val (.int (own_rv (own_rl l335 (7 : Int32) (own_spread q255)) (7 : Int32) (own_spread q255) (3 : Int32) (3 : Int32))), .val (.int (7 : Int32)), .val (.int ((own_spread q255) &&& (7 : Int32))), .val (.int (0 : Int32)), .unset, .unset] [(.int (own_spread p3))])
        refine own_iload (pc' := 175) X347 hx (hb hby at_173) rfl rfl ?_
        refine own_iand (pc' := 176) (z := ((own_spread p3) &&& (7 : Int32))) X347 hx (hb hby at_175) rfl rfl ?_
        refine own_iload (pc' := 178) X347 hx (hb hby at_176) rfl rfl ?_
        by_cases hc178_348 : ((own_spread p3) &&& (7 : Int32)) = ((own_spread q255) &&& (7 : Int32))
        · refine own_icmpNo (pc' := 181) X347 hx (hb hby at_178) rfl (teq hc178_348).2 ?_
          refine own_iconst (pc' := 182) (z := (3 : Int32)) X347 hx (hb hby at_181) rfl rfl ?_
          refine own_istore (pc' := 184) (l' := #[.val (.int p0), .val (.int p1), .val (.int p2), .val (.int p3), .val (.int p4), .val (.int (3 : Int32)), .val (.int (3 : Int32)), .val (.int ((own_ushr p0 (4 : Int32)) &&& (3 : Int32))), .val (.int (8 : Int32)), .val (.int q255), .val (.ref a257), .val (.int (own_rv l335 (7 : Int32) (own_spread q255) (3 : Int32) (3 : Int32))), .val (.int (own_rv (own_rl l335 (7 : Int32) (own_spread q255)) (7 : Int32) (own_spread q255) (3 : Int32) (3 : Int32))), .val (.int (7 : Int32)), .val (.int ((own_spread q255) &&& (7 : Int32))), .val (.int (3 : Int32)), .unset, .unset]) X347 hx (hb hby at_182) rfl rfl ?_
          refine own_goto (pc' := 232) X347 hx (hb hby at_184) (by decide) (by decide) ?_
          refine own_iload (pc' := 234) X347 hx (hb hby at_232) rfl rfl ?_
          refine own_iconst (pc' := 235) (z := (3 : Int32)) X347 hx (hb hby at_234) rfl rfl ?_
          refine own_icmpNo (pc' := 238) X347 hx (hb hby at_235) rfl (teq (by decide)).2 ?_
          refine own_iloadN (pc' := 239) X347 hx (hb hby at_238) rfl rfl ?_
          refine own_goto (pc' := 253) X347 hx (hb hby at_239) (by decide) (by decide) ?_
          refine own_istore (pc' := 255) (l' := #[.val (.int p0), .val (.int p1), .val (.int p2), .val (.int p3), .val (.int p4), .val (.int (3 : Int32)), .val (.int (3 : Int32)), .val (.int ((own_ushr p0 (4 : Int32)) &&& (3 : Int32))), .val (.int (8 : Int32)), .val (.int q255), .val (.ref a257), .val (.int (own_rv l335 (7 : Int32) (own_spread q255) (3 : Int32) (3 : Int32))), .val (.int (own_rv (own_rl l335 (7 : Int32) (own_spread q255)) (7 : Int32) (own_spread q255) (3 : Int32) (3 : Int32))), .val (.int (7 : Int32)), .val (.int ((own_spread q255) &&& (7 : Int32))), .val (.int (3 : Int32)), .val (.int p3), .unset]) X347 hx (hb hby at_253) rfl rfl ?_
          refine own_iload (pc' := 257) X347 hx (hb hby at_255) rfl rfl ?_
          refine own_ifNo (pc' := 260) X347 hx (hb hby at_257) rfl (feq (by decide)).1 ?_
          refine own_iload (pc' := 262) X347 hx (hb hby at_260) rfl rfl ?_
          refine own_iload (pc' := 264) X347 hx (hb hby at_262) rfl rfl ?_
          by_cases hc264_349 : p3 = q255
          · refine own_icmpNo (pc' := 267) X347 hx (hb hby at_264) rfl (teq hc264_349).2 ?_
            refine own_iload (pc' := 269) X347 hx (hb hby at_267) rfl rfl ?_
            refine own_iload (pc' := 271) X347 hx (hb hby at_269) rfl rfl ?_
            refine own_isub (pc' := 272) (z := (0 : Int32)) X347 hx (hb hby at_271) rfl (by decide) ?_
            refine own_iload (pc' := 274) X347 hx (hb hby at_272) rfl rfl ?_
            refine own_icmpNo (pc' := 277) X347 hx (hb hby at_274) rfl (tlt (by decide)).2.1 ?_
            refine own_iconst (pc' := 278) (z := (1 : Int32)) X347 hx (hb hby at_277) rfl rfl ?_
            refine own_goto (pc' := 282) X347 hx (hb hby at_278) (by decide) (by decide) ?_
            refine own_istore (pc' := 284) (l' := #[.val (.int p0), .val (.int p1), .val (.int p2), .val (.int p3), .val (.int p4), .val (.int (3 : Int32)), .val (.int (3 : Int32)), .val (.int ((own_ushr p0 (4 : Int32)) &&& (3 : Int32))), .val (.int (8 : Int32)), .val (.int q255), .val (.ref a257), .val (.int (own_rv l335 (7 : Int32) (own_spread q255) (3 : Int32) (3 : Int32))), .val (.int (own_rv (own_rl l335 (7 : Int32) (own_spread q255)) (7 : Int32) (own_spread q255) (3 : Int32) (3 : Int32))), .val (.int (7 : Int32)), .val (.int ((own_spread q255) &&& (7 : Int32))), .val (.int (3 : Int32)), .val (.int p3), .val (.int (1 : Int32))]) X347 hx (hb hby at_282) rfl rfl ?_
            refine own_iload (pc' := 286) X347 hx (hb hby at_284) rfl rfl ?_
            refine own_iload (pc' := 288) X347 hx (hb hby at_286) rfl rfl ?_
            have sl350 : own_slot l335 (7 : Int32) (own_spread q255) = own_pack (own_spread p3) (3 : Int64) := by
              rw [el335, el331, el327]
              exact (own_slE (Or.inr (Or.inr ⟨rfl, rfl⟩)) (by simp) hc178_348)
            refine own_icmpNo (pc' := 291) X347 hx (hb hby at_288) rfl (teq ((own_hitv (i := 3) sl350 (by decide) (by decide)).trans ((if_pos hc264_349).trans (by decide)))).2 ?_
            refine own_iload (pc' := 293) X347 hx (hb hby at_291) rfl rfl ?_
            refine own_ifNo (pc' := 296) X347 hx (hb hby at_293) rfl (teq (own_second (Or.inr (Or.inr ⟨rfl, rfl⟩)) hl336)).2 ?_
            refine own_iconst (pc' := 297) (z := (1 : Int32)) X347 hx (hb hby at_296) rfl rfl ?_
            refine own_goto (pc' := 301) X347 hx (hb hby at_297) (by decide) (by decide) ?_
            refine own_retN X347 hx hlk hret (by simp) (hb hby at_301) (by decide) (by decide) ?_
            exact ⟨rfl, N347⟩
          · refine own_icmpYes (pc' := 281) X347 hx (hb hby at_264) (feq hc264_349).2 (by decide) (by decide) ?_
            refine own_iconst (pc' := 282) (z := (0 : Int32)) X347 hx (hb hby at_281) rfl rfl ?_
            refine own_istore (pc' := 284) (l' := #[.val (.int p0), .val (.int p1), .val (.int p2), .val (.int p3), .val (.int p4), .val (.int (3 : Int32)), .val (.int (3 : Int32)), .val (.int ((own_ushr p0 (4 : Int32)) &&& (3 : Int32))), .val (.int (8 : Int32)), .val (.int q255), .val (.ref a257), .val (.int (own_rv l335 (7 : Int32) (own_spread q255) (3 : Int32) (3 : Int32))), .val (.int (own_rv (own_rl l335 (7 : Int32) (own_spread q255)) (7 : Int32) (own_spread q255) (3 : Int32) (3 : Int32))), .val (.int (7 : Int32)), .val (.int ((own_spread q255) &&& (7 : Int32))), .val (.int (3 : Int32)), .val (.int p3), .val (.int (0 : Int32))]) X347 hx (hb hby at_282) rfl rfl ?_
            refine own_iload (pc' := 286) X347 hx (hb hby at_284) rfl rfl ?_
            refine own_iload (pc' := 288) X347 hx (hb hby at_286) rfl rfl ?_
            have sl351 : own_slot l335 (7 : Int32) (own_spread q255) = own_pack (own_spread p3) (3 : Int64) := by
              rw [el335, el331, el327]
              exact (own_slE (Or.inr (Or.inr ⟨rfl, rfl⟩)) (by simp) hc178_348)
            refine own_icmpNo (pc' := 291) X347 hx (hb hby at_288) rfl (teq ((own_hitv (i := 3) sl351 (by decide) (by decide)).trans (if_neg hc264_349))).2 ?_
            refine own_iload (pc' := 293) X347 hx (hb hby at_291) rfl rfl ?_
            refine own_ifNo (pc' := 296) X347 hx (hb hby at_293) rfl (teq (own_second (Or.inr (Or.inr ⟨rfl, rfl⟩)) hl336)).2 ?_
            refine own_iconst (pc' := 297) (z := (1 : Int32)) X347 hx (hb hby at_296) rfl rfl ?_
            refine own_goto (pc' := 301) X347 hx (hb hby at_297) (by decide) (by decide) ?_
            refine own_retN X347 hx hlk hret (by simp) (hb hby at_301) (by decide) (by decide) ?_
            exact ⟨rfl, N347⟩
        · refine own_icmpYes (pc' := 187) X347 hx (hb hby at_178) (feq hc178_348).2 (by decide) (by decide) ?_
          refine own_iload (pc' := 189) X347 hx (hb hby at_187) rfl rfl ?_
          refine own_iconst (pc' := 190) (z := (2 : Int32)) X347 hx (hb hby at_189) rfl rfl ?_
          refine own_icmpNo (pc' := 193) X347 hx (hb hby at_190) rfl (flt (by decide)).1 ?_
          refine own_iloadN (pc' := 194) X347 hx (hb hby at_193) rfl rfl ?_
          refine own_callS (pc' := 197) (y := (⟨"com/example/larder/larder/cache/UseCounts", "spread", "(I)I"⟩ : MethodName)) (W := 0) (rm := own_room5) (argsL := [(.int p2)]) (rest := []) X347 hx hZ Kq347 hown (by rw [hml]; rfl) (own_w23 hw) (own_w24 hw) (own_w25 hw) (own_w26 hw) (by decide) (own_rm5 lch Z a0 hw [] p2 T343.heap n0) (by decide) (by decide) (by decide) (by decide) (lenOf own_pd0 rfl) rfl (by exact Nat.le_of_eq rfl) (hb hby at_194) rfl ?_
          intro T352 Lc352 v352 X352 hQ352
          obtain ⟨rfl, Nq352, Kq352⟩ := hQ352
          have N352 := Fr.app N347 Nq352
          show own_Ends prg e below s _ _ _ T352 (mkF m 197 #[.val (.int p0), .val (.int p1), .val (.int p2), .val (.int p3), .val (.int p4), .val (.int (3 : Int32)), .val (.int (3 : Int32)), .val (.int ((own_ushr p0 (4 : Int32)) &&& (3 : Int32))), .val (.int (8 : Int32)), .val (.int q255), .val (.ref a257), .val (.int (own_rv l335 (7 : Int32) (own_spread q255) (3 : Int32) (3 : Int32))), .val (.int (own_rv (own_rl l335 (7 : Int32) (own_spread q255)) (7 : Int32) (own_spread q255) (3 : Int32) (3 : Int32))), .val (.int (7 : Int32)), .val (.int ((own_spread q255) &&& (7 : Int32))), .val (.int (0 : Int32)), .unset, .unset] [(.int (own_spread p2))])
          refine own_iload (pc' := 199) X352 hx (hb hby at_197) rfl rfl ?_
          refine own_iand (pc' := 200) (z := ((own_spread p2) &&& (7 : Int32))) X352 hx (hb hby at_199) rfl rfl ?_
          refine own_iload (pc' := 202) X352 hx (hb hby at_200) rfl rfl ?_
          by_cases hc202_353 : ((own_spread p2) &&& (7 : Int32)) = ((own_spread q255) &&& (7 : Int32))
          · refine own_icmpNo (pc' := 205) X352 hx (hb hby at_202) rfl (teq hc202_353).2 ?_
            refine own_iconst (pc' := 206) (z := (2 : Int32)) X352 hx (hb hby at_205) rfl rfl ?_
            refine own_istore (pc' := 208) (l' := #[.val (.int p0), .val (.int p1), .val (.int p2), .val (.int p3), .val (.int p4), .val (.int (3 : Int32)), .val (.int (3 : Int32)), .val (.int ((own_ushr p0 (4 : Int32)) &&& (3 : Int32))), .val (.int (8 : Int32)), .val (.int q255), .val (.ref a257), .val (.int (own_rv l335 (7 : Int32) (own_spread q255) (3 : Int32) (3 : Int32))), .val (.int (own_rv (own_rl l335 (7 : Int32) (own_spread q255)) (7 : Int32) (own_spread q255) (3 : Int32) (3 : Int32))), .val (.int (7 : Int32)), .val (.int ((own_spread q255) &&& (7 : Int32))), .val (.int (2 : Int32)), .unset, .unset]) X352 hx (hb hby at_206) rfl rfl ?_
            refine own_goto (pc' := 232) X352 hx (hb hby at_208) (by decide) (by decide) ?_
            refine own_iload (pc' := 234) X352 hx (hb hby at_232) rfl rfl ?_
            refine own_iconst (pc' := 235) (z := (3 : Int32)) X352 hx (hb hby at_234) rfl rfl ?_
            refine own_icmpYes (pc' := 242) X352 hx (hb hby at_235) (feq (by decide)).2 (by decide) (by decide) ?_
            refine own_iload (pc' := 244) X352 hx (hb hby at_242) rfl rfl ?_
            refine own_iconst (pc' := 245) (z := (2 : Int32)) X352 hx (hb hby at_244) rfl rfl ?_
            refine own_icmpNo (pc' := 248) X352 hx (hb hby at_245) rfl (teq (by decide)).2 ?_
            refine own_iloadN (pc' := 249) X352 hx (hb hby at_248) rfl rfl ?_
            refine own_goto (pc' := 253) X352 hx (hb hby at_249) (by decide) (by decide) ?_
            refine own_istore (pc' := 255) (l' := #[.val (.int p0), .val (.int p1), .val (.int p2), .val (.int p3), .val (.int p4), .val (.int (3 : Int32)), .val (.int (3 : Int32)), .val (.int ((own_ushr p0 (4 : Int32)) &&& (3 : Int32))), .val (.int (8 : Int32)), .val (.int q255), .val (.ref a257), .val (.int (own_rv l335 (7 : Int32) (own_spread q255) (3 : Int32) (3 : Int32))), .val (.int (own_rv (own_rl l335 (7 : Int32) (own_spread q255)) (7 : Int32) (own_spread q255) (3 : Int32) (3 : Int32))), .val (.int (7 : Int32)), .val (.int ((own_spread q255) &&& (7 : Int32))), .val (.int (2 : Int32)), .val (.int p2), .unset]) X352 hx (hb hby at_253) rfl rfl ?_
            refine own_iload (pc' := 257) X352 hx (hb hby at_255) rfl rfl ?_
            refine own_ifNo (pc' := 260) X352 hx (hb hby at_257) rfl (feq (by decide)).1 ?_
            refine own_iload (pc' := 262) X352 hx (hb hby at_260) rfl rfl ?_
            refine own_iload (pc' := 264) X352 hx (hb hby at_262) rfl rfl ?_
            by_cases hc264_354 : p2 = q255
            · refine own_icmpNo (pc' := 267) X352 hx (hb hby at_264) rfl (teq hc264_354).2 ?_
              refine own_iload (pc' := 269) X352 hx (hb hby at_267) rfl rfl ?_
              refine own_iload (pc' := 271) X352 hx (hb hby at_269) rfl rfl ?_
              refine own_isub (pc' := 272) (z := (1 : Int32)) X352 hx (hb hby at_271) rfl (by decide) ?_
              refine own_iload (pc' := 274) X352 hx (hb hby at_272) rfl rfl ?_
              refine own_icmpNo (pc' := 277) X352 hx (hb hby at_274) rfl (tlt (by decide)).2.1 ?_
              refine own_iconst (pc' := 278) (z := (1 : Int32)) X352 hx (hb hby at_277) rfl rfl ?_
              refine own_goto (pc' := 282) X352 hx (hb hby at_278) (by decide) (by decide) ?_
              refine own_istore (pc' := 284) (l' := #[.val (.int p0), .val (.int p1), .val (.int p2), .val (.int p3), .val (.int p4), .val (.int (3 : Int32)), .val (.int (3 : Int32)), .val (.int ((own_ushr p0 (4 : Int32)) &&& (3 : Int32))), .val (.int (8 : Int32)), .val (.int q255), .val (.ref a257), .val (.int (own_rv l335 (7 : Int32) (own_spread q255) (3 : Int32) (3 : Int32))), .val (.int (own_rv (own_rl l335 (7 : Int32) (own_spread q255)) (7 : Int32) (own_spread q255) (3 : Int32) (3 : Int32))), .val (.int (7 : Int32)), .val (.int ((own_spread q255) &&& (7 : Int32))), .val (.int (2 : Int32)), .val (.int p2), .val (.int (1 : Int32))]) X352 hx (hb hby at_282) rfl rfl ?_
              refine own_iload (pc' := 286) X352 hx (hb hby at_284) rfl rfl ?_
              refine own_iload (pc' := 288) X352 hx (hb hby at_286) rfl rfl ?_
              have sl355 : own_slot l335 (7 : Int32) (own_spread q255) = own_pack (own_spread p2) (2 : Int64) := by
                rw [el335, el331, el327]
                exact ((own_slN (Or.inr (Or.inr ⟨rfl, rfl⟩)) (by simp) hc178_348).trans (own_slE (Or.inr (Or.inr ⟨rfl, rfl⟩)) (by simp) hc202_353))
              refine own_icmpNo (pc' := 291) X352 hx (hb hby at_288) rfl (teq ((own_hitv (i := 2) sl355 (by decide) (by decide)).trans ((if_pos hc264_354).trans (by decide)))).2 ?_
              refine own_iload (pc' := 293) X352 hx (hb hby at_291) rfl rfl ?_
              refine own_ifNo (pc' := 296) X352 hx (hb hby at_293) rfl (teq (own_second (Or.inr (Or.inr ⟨rfl, rfl⟩)) hl336)).2 ?_
              refine own_iconst (pc' := 297) (z := (1 : Int32)) X352 hx (hb hby at_296) rfl rfl ?_
              refine own_goto (pc' := 301) X352 hx (hb hby at_297) (by decide) (by decide) ?_
              refine own_retN X352 hx hlk hret (by simp) (hb hby at_301) (by decide) (by decide) ?_
              exact ⟨rfl, N352⟩
            · refine own_icmpYes (pc' := 281) X352 hx (hb hby at_264) (feq hc264_354).2 (by decide) (by decide) ?_
              refine own_iconst (pc' := 282) (z := (0 : Int32)) X352 hx (hb hby at_281) rfl rfl ?_
              refine own_istore (pc' := 284) (l' := #[.val (.int p0), .val (.int p1), .val (.int p2), .val (.int p3), .val (.int p4), .val (.int (3 : Int32)), .val (.int (3 : Int32)), .val (.int ((own_ushr p0 (4 : Int32)) &&& (3 : Int32))), .val (.int (8 : Int32)), .val (.int q255), .val (.ref a257), .val (.int (own_rv l335 (7 : Int32) (own_spread q255) (3 : Int32) (3 : Int32))), .val (.int (own_rv (own_rl l335 (7 : Int32) (own_spread q255)) (7 : Int32) (own_spread q255) (3 : Int32) (3 : Int32))), .val (.int (7 : Int32)), .val (.int ((own_spread q255) &&& (7 : Int32))), .val (.int (2 : Int32)), .val (.int p2), .val (.int (0 : Int32))]) X352 hx (hb hby at_282) rfl rfl ?_
              refine own_iload (pc' := 286) X352 hx (hb hby at_284) rfl rfl ?_
              refine own_iload (pc' := 288) X352 hx (hb hby at_286) rfl rfl ?_
              have sl356 : own_slot l335 (7 : Int32) (own_spread q255) = own_pack (own_spread p2) (2 : Int64) := by
                rw [el335, el331, el327]
                exact ((own_slN (Or.inr (Or.inr ⟨rfl, rfl⟩)) (by simp) hc178_348).trans (own_slE (Or.inr (Or.inr ⟨rfl, rfl⟩)) (by simp) hc202_353))
              refine own_icmpNo (pc' := 291) X352 hx (hb hby at_288) rfl (teq ((own_hitv (i := 2) sl356 (by decide) (by decide)).trans (if_neg hc264_354))).2 ?_
              refine own_iload (pc' := 293) X352 hx (hb hby at_291) rfl rfl ?_
              refine own_ifNo (pc' := 296) X352 hx (hb hby at_293) rfl (teq (own_second (Or.inr (Or.inr ⟨rfl, rfl⟩)) hl336)).2 ?_
              refine own_iconst (pc' := 297) (z := (1 : Int32)) X352 hx (hb hby at_296) rfl rfl ?_
              refine own_goto (pc' := 301) X352 hx (hb hby at_297) (by decide) (by decide) ?_
              refine own_retN X352 hx hlk hret (by simp) (hb hby at_301) (by decide) (by decide) ?_
              exact ⟨rfl, N352⟩
          · refine own_icmpYes (pc' := 211) X352 hx (hb hby at_202) (feq hc202_353).2 (by decide) (by decide) ?_
            refine own_iload (pc' := 213) X352 hx (hb hby at_211) rfl rfl ?_
            refine own_iconst (pc' := 214) (z := (1 : Int32)) X352 hx (hb hby at_213) rfl rfl ?_
            refine own_icmpNo (pc' := 217) X352 hx (hb hby at_214) rfl (flt (by decide)).1 ?_
            refine own_iloadN (pc' := 218) X352 hx (hb hby at_217) rfl rfl ?_
            refine own_callS (pc' := 221) (y := (⟨"com/example/larder/larder/cache/UseCounts", "spread", "(I)I"⟩ : MethodName)) (W := 0) (rm := own_room5) (argsL := [(.int p1)]) (rest := []) X352 hx hZ Kq352 hown (by rw [hml]; rfl) (own_w23 hw) (own_w24 hw) (own_w25 hw) (own_w26 hw) (by decide) (own_rm5 lch Z a0 hw [] p1 T343.heap n0) (by decide) (by decide) (by decide) (by decide) (lenOf own_pd0 rfl) rfl (by exact Nat.le_of_eq rfl) (hb hby at_218) rfl ?_
            intro T357 Lc357 v357 X357 hQ357
            obtain ⟨rfl, Nq357, Kq357⟩ := hQ357
            have N357 := Fr.app N352 Nq357
            show own_Ends prg e below s _ _ _ T357 (mkF m 221 #[.val (.int p0), .val (.int p1), .val (.int p2), .val (.int p3), .val (.int p4), .val (.int (3 : Int32)), .val (.int (3 : Int32)), .val (.int ((own_ushr p0 (4 : Int32)) &&& (3 : Int32))), .val (.int (8 : Int32)), .val (.int q255), .val (.ref a257), .val (.int (own_rv l335 (7 : Int32) (own_spread q255) (3 : Int32) (3 : Int32))), .val (.int (own_rv (own_rl l335 (7 : Int32) (own_spread q255)) (7 : Int32) (own_spread q255) (3 : Int32) (3 : Int32))), .val (.int (7 : Int32)), .val (.int ((own_spread q255) &&& (7 : Int32))), .val (.int (0 : Int32)), .unset, .unset] [(.int (own_spread p1))])
            refine own_iload (pc' := 223) X357 hx (hb hby at_221) rfl rfl ?_
            refine own_iand (pc' := 224) (z := ((own_spread p1) &&& (7 : Int32))) X357 hx (hb hby at_223) rfl rfl ?_
            refine own_iload (pc' := 226) X357 hx (hb hby at_224) rfl rfl ?_
            by_cases hc226_358 : ((own_spread p1) &&& (7 : Int32)) = ((own_spread q255) &&& (7 : Int32))
            · refine own_icmpNo (pc' := 229) X357 hx (hb hby at_226) rfl (teq hc226_358).2 ?_
              refine own_iconst (pc' := 230) (z := (1 : Int32)) X357 hx (hb hby at_229) rfl rfl ?_
              refine own_istore (pc' := 232) (l' := #[.val (.int p0), .val (.int p1), .val (.int p2), .val (.int p3), .val (.int p4), .val (.int (3 : Int32)), .val (.int (3 : Int32)), .val (.int ((own_ushr p0 (4 : Int32)) &&& (3 : Int32))), .val (.int (8 : Int32)), .val (.int q255), .val (.ref a257), .val (.int (own_rv l335 (7 : Int32) (own_spread q255) (3 : Int32) (3 : Int32))), .val (.int (own_rv (own_rl l335 (7 : Int32) (own_spread q255)) (7 : Int32) (own_spread q255) (3 : Int32) (3 : Int32))), .val (.int (7 : Int32)), .val (.int ((own_spread q255) &&& (7 : Int32))), .val (.int (1 : Int32)), .unset, .unset]) X357 hx (hb hby at_230) rfl rfl ?_
              refine own_iload (pc' := 234) X357 hx (hb hby at_232) rfl rfl ?_
              refine own_iconst (pc' := 235) (z := (3 : Int32)) X357 hx (hb hby at_234) rfl rfl ?_
              refine own_icmpYes (pc' := 242) X357 hx (hb hby at_235) (feq (by decide)).2 (by decide) (by decide) ?_
              refine own_iload (pc' := 244) X357 hx (hb hby at_242) rfl rfl ?_
              refine own_iconst (pc' := 245) (z := (2 : Int32)) X357 hx (hb hby at_244) rfl rfl ?_
              refine own_icmpYes (pc' := 252) X357 hx (hb hby at_245) (feq (by decide)).2 (by decide) (by decide) ?_
              refine own_iloadN (pc' := 253) X357 hx (hb hby at_252) rfl rfl ?_
              refine own_istore (pc' := 255) (l' := #[.val (.int p0), .val (.int p1), .val (.int p2), .val (.int p3), .val (.int p4), .val (.int (3 : Int32)), .val (.int (3 : Int32)), .val (.int ((own_ushr p0 (4 : Int32)) &&& (3 : Int32))), .val (.int (8 : Int32)), .val (.int q255), .val (.ref a257), .val (.int (own_rv l335 (7 : Int32) (own_spread q255) (3 : Int32) (3 : Int32))), .val (.int (own_rv (own_rl l335 (7 : Int32) (own_spread q255)) (7 : Int32) (own_spread q255) (3 : Int32) (3 : Int32))), .val (.int (7 : Int32)), .val (.int ((own_spread q255) &&& (7 : Int32))), .val (.int (1 : Int32)), .val (.int p1), .unset]) X357 hx (hb hby at_253) rfl rfl ?_
              refine own_iload (pc' := 257) X357 hx (hb hby at_255) rfl rfl ?_
              refine own_ifNo (pc' := 260) X357 hx (hb hby at_257) rfl (feq (by decide)).1 ?_
              refine own_iload (pc' := 262) X357 hx (hb hby at_260) rfl rfl ?_
              refine own_iload (pc' := 264) X357 hx (hb hby at_262) rfl rfl ?_
              by_cases hc264_359 : p1 = q255
              · refine own_icmpNo (pc' := 267) X357 hx (hb hby at_264) rfl (teq hc264_359).2 ?_
                refine own_iload (pc' := 269) X357 hx (hb hby at_267) rfl rfl ?_
                refine own_iload (pc' := 271) X357 hx (hb hby at_269) rfl rfl ?_
                refine own_isub (pc' := 272) (z := (2 : Int32)) X357 hx (hb hby at_271) rfl (by decide) ?_
                refine own_iload (pc' := 274) X357 hx (hb hby at_272) rfl rfl ?_
                refine own_icmpNo (pc' := 277) X357 hx (hb hby at_274) rfl (tlt (by decide)).2.1 ?_
                refine own_iconst (pc' := 278) (z := (1 : Int32)) X357 hx (hb hby at_277) rfl rfl ?_
                refine own_goto (pc' := 282) X357 hx (hb hby at_278) (by decide) (by decide) ?_
                refine own_istore (pc' := 284) (l' := #[.val (.int p0), .val (.int p1), .val (.int p2), .val (.int p3), .val (.int p4), .val (.int (3 : Int32)), .val (.int (3 : Int32)), .val (.int ((own_ushr p0 (4 : Int32)) &&& (3 : Int32))), .val (.int (8 : Int32)), .val (.int q255), .val (.ref a257), .val (.int (own_rv l335 (7 : Int32) (own_spread q255) (3 : Int32) (3 : Int32))), .val (.int (own_rv (own_rl l335 (7 : Int32) (own_spread q255)) (7 : Int32) (own_spread q255) (3 : Int32) (3 : Int32))), .val (.int (7 : Int32)), .val (.int ((own_spread q255) &&& (7 : Int32))), .val (.int (1 : Int32)), .val (.int p1), .val (.int (1 : Int32))]) X357 hx (hb hby at_282) rfl rfl ?_
                refine own_iload (pc' := 286) X357 hx (hb hby at_284) rfl rfl ?_
                refine own_iload (pc' := 288) X357 hx (hb hby at_286) rfl rfl ?_
                have sl360 : own_slot l335 (7 : Int32) (own_spread q255) = own_pack (own_spread p1) (1 : Int64) := by
                  rw [el335, el331, el327]
                  exact ((own_slN (Or.inr (Or.inr ⟨rfl, rfl⟩)) (by simp) hc178_348).trans ((own_slN (Or.inr (Or.inr ⟨rfl, rfl⟩)) (by simp) hc202_353).trans (own_slE (Or.inr (Or.inr ⟨rfl, rfl⟩)) (List.length_replicate) hc226_358)))
                refine own_icmpNo (pc' := 291) X357 hx (hb hby at_288) rfl (teq ((own_hitv (i := 1) sl360 (by decide) (by decide)).trans ((if_pos hc264_359).trans (by decide)))).2 ?_
                refine own_iload (pc' := 293) X357 hx (hb hby at_291) rfl rfl ?_
                refine own_ifNo (pc' := 296) X357 hx (hb hby at_293) rfl (teq (own_second (Or.inr (Or.inr ⟨rfl, rfl⟩)) hl336)).2 ?_
                refine own_iconst (pc' := 297) (z := (1 : Int32)) X357 hx (hb hby at_296) rfl rfl ?_
                refine own_goto (pc' := 301) X357 hx (hb hby at_297) (by decide) (by decide) ?_
                refine own_retN X357 hx hlk hret (by simp) (hb hby at_301) (by decide) (by decide) ?_
                exact ⟨rfl, N357⟩
              · refine own_icmpYes (pc' := 281) X357 hx (hb hby at_264) (feq hc264_359).2 (by decide) (by decide) ?_
                refine own_iconst (pc' := 282) (z := (0 : Int32)) X357 hx (hb hby at_281) rfl rfl ?_
                refine own_istore (pc' := 284) (l' := #[.val (.int p0), .val (.int p1), .val (.int p2), .val (.int p3), .val (.int p4), .val (.int (3 : Int32)), .val (.int (3 : Int32)), .val (.int ((own_ushr p0 (4 : Int32)) &&& (3 : Int32))), .val (.int (8 : Int32)), .val (.int q255), .val (.ref a257), .val (.int (own_rv l335 (7 : Int32) (own_spread q255) (3 : Int32) (3 : Int32))), .val (.int (own_rv (own_rl l335 (7 : Int32) (own_spread q255)) (7 : Int32) (own_spread q255) (3 : Int32) (3 : Int32))), .val (.int (7 : Int32)), .val (.int ((own_spread q255) &&& (7 : Int32))), .val (.int (1 : Int32)), .val (.int p1), .val (.int (0 : Int32))]) X357 hx (hb hby at_282) rfl rfl ?_
                refine own_iload (pc' := 286) X357 hx (hb hby at_284) rfl rfl ?_
                refine own_iload (pc' := 288) X357 hx (hb hby at_286) rfl rfl ?_
                have sl361 : own_slot l335 (7 : Int32) (own_spread q255) = own_pack (own_spread p1) (1 : Int64) := by
                  rw [el335, el331, el327]
                  exact ((own_slN (Or.inr (Or.inr ⟨rfl, rfl⟩)) (by simp) hc178_348).trans ((own_slN (Or.inr (Or.inr ⟨rfl, rfl⟩)) (by simp) hc202_353).trans (own_slE (Or.inr (Or.inr ⟨rfl, rfl⟩)) (List.length_replicate) hc226_358)))
                refine own_icmpNo (pc' := 291) X357 hx (hb hby at_288) rfl (teq ((own_hitv (i := 1) sl361 (by decide) (by decide)).trans (if_neg hc264_359))).2 ?_
                refine own_iload (pc' := 293) X357 hx (hb hby at_291) rfl rfl ?_
                refine own_ifNo (pc' := 296) X357 hx (hb hby at_293) rfl (teq (own_second (Or.inr (Or.inr ⟨rfl, rfl⟩)) hl336)).2 ?_
                refine own_iconst (pc' := 297) (z := (1 : Int32)) X357 hx (hb hby at_296) rfl rfl ?_
                refine own_goto (pc' := 301) X357 hx (hb hby at_297) (by decide) (by decide) ?_
                refine own_retN X357 hx hlk hret (by simp) (hb hby at_301) (by decide) (by decide) ?_
                exact ⟨rfl, N357⟩
            · refine own_icmpYes (pc' := 232) X357 hx (hb hby at_226) (feq hc226_358).2 (by decide) (by decide) ?_
              refine own_iload (pc' := 234) X357 hx (hb hby at_232) rfl rfl ?_
              refine own_iconst (pc' := 235) (z := (3 : Int32)) X357 hx (hb hby at_234) rfl rfl ?_
              refine own_icmpYes (pc' := 242) X357 hx (hb hby at_235) (feq (by decide)).2 (by decide) (by decide) ?_
              refine own_iload (pc' := 244) X357 hx (hb hby at_242) rfl rfl ?_
              refine own_iconst (pc' := 245) (z := (2 : Int32)) X357 hx (hb hby at_244) rfl rfl ?_
              refine own_icmpYes (pc' := 252) X357 hx (hb hby at_245) (feq (by decide)).2 (by decide) (by decide) ?_
              refine own_iloadN (pc' := 253) X357 hx (hb hby at_252) rfl rfl ?_
              refine own_istore (pc' := 255) (l' := #[.val (.int p0), .val (.int p1), .val (.int p2), .val (.int p3), .val (.int p4), .val (.int (3 : Int32)), .val (.int (3 : Int32)), .val (.int ((own_ushr p0 (4 : Int32)) &&& (3 : Int32))), .val (.int (8 : Int32)), .val (.int q255), .val (.ref a257), .val (.int (own_rv l335 (7 : Int32) (own_spread q255) (3 : Int32) (3 : Int32))), .val (.int (own_rv (own_rl l335 (7 : Int32) (own_spread q255)) (7 : Int32) (own_spread q255) (3 : Int32) (3 : Int32))), .val (.int (7 : Int32)), .val (.int ((own_spread q255) &&& (7 : Int32))), .val (.int (0 : Int32)), .val (.int p1), .unset]) X357 hx (hb hby at_253) rfl rfl ?_
              refine own_iload (pc' := 257) X357 hx (hb hby at_255) rfl rfl ?_
              refine own_ifYes (pc' := 281) X357 hx (hb hby at_257) (teq (by decide)).1 (by decide) (by decide) ?_
              refine own_iconst (pc' := 282) (z := (0 : Int32)) X357 hx (hb hby at_281) rfl rfl ?_
              refine own_istore (pc' := 284) (l' := #[.val (.int p0), .val (.int p1), .val (.int p2), .val (.int p3), .val (.int p4), .val (.int (3 : Int32)), .val (.int (3 : Int32)), .val (.int ((own_ushr p0 (4 : Int32)) &&& (3 : Int32))), .val (.int (8 : Int32)), .val (.int q255), .val (.ref a257), .val (.int (own_rv l335 (7 : Int32) (own_spread q255) (3 : Int32) (3 : Int32))), .val (.int (own_rv (own_rl l335 (7 : Int32) (own_spread q255)) (7 : Int32) (own_spread q255) (3 : Int32) (3 : Int32))), .val (.int (7 : Int32)), .val (.int ((own_spread q255) &&& (7 : Int32))), .val (.int (0 : Int32)), .val (.int p1), .val (.int (0 : Int32))]) X357 hx (hb hby at_282) rfl rfl ?_
              refine own_iload (pc' := 286) X357 hx (hb hby at_284) rfl rfl ?_
              refine own_iload (pc' := 288) X357 hx (hb hby at_286) rfl rfl ?_
              have sl362 : own_slot l335 (7 : Int32) (own_spread q255) = 0 := by
                rw [el335, el331, el327]
                exact ((own_slN (Or.inr (Or.inr ⟨rfl, rfl⟩)) (by simp) hc178_348).trans ((own_slN (Or.inr (Or.inr ⟨rfl, rfl⟩)) (by simp) hc202_353).trans ((own_slN (Or.inr (Or.inr ⟨rfl, rfl⟩)) (List.length_replicate) hc226_358).trans (own_sl0 _ _ _))))
              refine own_icmpNo (pc' := 291) X357 hx (hb hby at_288) rfl (teq (own_miss sl362)).2 ?_
              refine own_iload (pc' := 293) X357 hx (hb hby at_291) rfl rfl ?_
              refine own_ifNo (pc' := 296) X357 hx (hb hby at_293) rfl (teq (own_second (Or.inr (Or.inr ⟨rfl, rfl⟩)) hl336)).2 ?_
              refine own_iconst (pc' := 297) (z := (1 : Int32)) X357 hx (hb hby at_296) rfl rfl ?_
              refine own_goto (pc' := 301) X357 hx (hb hby at_297) (by decide) (by decide) ?_
              refine own_retN X357 hx hlk hret (by simp) (hb hby at_301) (by decide) (by decide) ?_
              exact ⟨rfl, N357⟩
    refine own_iload (pc' := 47) X0 hx (hb hby at_45) rfl rfl ?_
    by_cases hc47_363 : ((own_ushr p0 (4 : Int32)) &&& (3 : Int32)) = (0 : Int32)
    · refine own_ifNo (pc' := 50) X0 hx (hb hby at_47) rfl (teq hc47_363).2 ?_
      refine own_iload (pc' := 52) X0 hx (hb hby at_50) rfl rfl ?_
      refine own_goto (pc' := 76) X0 hx (hb hby at_52) (by decide) (by decide) ?_
      exact K256 _
    · refine own_ifYes (pc' := 55) X0 hx (hb hby at_47) (feq hc47_363).2 (by decide) (by decide) ?_
      refine own_iload (pc' := 57) X0 hx (hb hby at_55) rfl rfl ?_
      refine own_iconst (pc' := 58) (z := (1 : Int32)) X0 hx (hb hby at_57) rfl rfl ?_
      by_cases hc58_364 : ((own_ushr p0 (4 : Int32)) &&& (3 : Int32)) = (1 : Int32)
      · refine own_icmpNo (pc' := 61) X0 hx (hb hby at_58) rfl (teq hc58_364).2 ?_
        refine own_iloadN (pc' := 62) X0 hx (hb hby at_61) rfl rfl ?_
        refine own_goto (pc' := 76) X0 hx (hb hby at_62) (by decide) (by decide) ?_
        exact K256 _
      · refine own_icmpYes (pc' := 65) X0 hx (hb hby at_58) (feq hc58_364).2 (by decide) (by decide) ?_
        refine own_iload (pc' := 67) X0 hx (hb hby at_65) rfl rfl ?_
        refine own_iconst (pc' := 68) (z := (2 : Int32)) X0 hx (hb hby at_67) rfl rfl ?_
        by_cases hc68_365 : ((own_ushr p0 (4 : Int32)) &&& (3 : Int32)) = (2 : Int32)
        · refine own_icmpNo (pc' := 71) X0 hx (hb hby at_68) rfl (teq hc68_365).2 ?_
          refine own_iloadN (pc' := 72) X0 hx (hb hby at_71) rfl rfl ?_
          refine own_goto (pc' := 76) X0 hx (hb hby at_72) (by decide) (by decide) ?_
          exact K256 _
        · refine own_icmpYes (pc' := 75) X0 hx (hb hby at_68) (feq hc68_365).2 (by decide) (by decide) ?_
          refine own_iloadN (pc' := 76) X0 hx (hb hby at_75) rfl rfl ?_
          exact K256 _
  · refine own_iload (pc' := 23) X0 hx (hb hby at_21) rfl rfl ?_
    refine own_iconst (pc' := 24) (z := (1 : Int32)) X0 hx (hb hby at_23) rfl rfl ?_
    refine own_icmpYes (pc' := 31) X0 hx (hb hby at_24) (feq (by decide)).2 (by decide) (by decide) ?_
    refine own_iload (pc' := 33) X0 hx (hb hby at_31) rfl rfl ?_
    refine own_iconst (pc' := 34) (z := (2 : Int32)) X0 hx (hb hby at_33) rfl rfl ?_
    refine own_icmpYes (pc' := 41) X0 hx (hb hby at_34) (feq (by decide)).2 (by decide) (by decide) ?_
    refine own_bipush (pc' := 43) (z := (8 : Int32)) X0 hx (hb hby at_41) rfl rfl ?_
    refine own_istore (pc' := 45) (l' := #[.val (.int p0), .val (.int p1), .val (.int p2), .val (.int p3), .val (.int p4), .val (.int (4 : Int32)), .val (.int n32), .val (.int ((own_ushr p0 (4 : Int32)) &&& (3 : Int32))), .val (.int (8 : Int32)), .unset, .unset, .unset, .unset, .unset, .unset, .unset, .unset, .unset]) X0 hx (hb hby at_43) rfl rfl ?_
    have K367 : ∀ (q366 : Int32), own_Ends prg e below s (own_Q0 Z p0 p1 p2 p3 p4 h0 n0) 16 128 s₁ (mkF m 76 #[.val (.int p0), .val (.int p1), .val (.int p2), .val (.int p3), .val (.int p4), .val (.int (4 : Int32)), .val (.int n32), .val (.int ((own_ushr p0 (4 : Int32)) &&& (3 : Int32))), .val (.int (8 : Int32)), .unset, .unset, .unset, .unset, .unset, .unset, .unset, .unset, .unset] [(.int q366)]) := by
      intro q366
      refine own_istore (pc' := 78) (l' := #[.val (.int p0), .val (.int p1), .val (.int p2), .val (.int p3), .val (.int p4), .val (.int (4 : Int32)), .val (.int n32), .val (.int ((own_ushr p0 (4 : Int32)) &&& (3 : Int32))), .val (.int (8 : Int32)), .val (.int q366), .unset, .unset, .unset, .unset, .unset, .unset, .unset, .unset]) X0 hx (hb hby at_76) rfl rfl ?_
      obtain ⟨T368, h368, X368, e368, E368, A368, D368, -, st368⟩ := newO X0 hx hZ hown (own_w0 hw) (own_w1 hw) (own_w2 hw) e0 (g := (mkF m 78 #[.val (.int p0), .val (.int p1), .val (.int p2), .val (.int p3), .val (.int p4), .val (.int (4 : Int32)), .val (.int n32), .val (.int ((own_ushr p0 (4 : Int32)) &&& (3 : Int32))), .val (.int (8 : Int32)), .val (.int q366), .unset, .unset, .unset, .unset, .unset, .unset, .unset, .unset] [])) rfl (hb hby at_78) (by decide) (by decide)
      refine own_go st368 ?_
      obtain ⟨a368, g368⟩ : ∃ z, z = h0.size := ⟨_, rfl⟩
      rw [← g368] at A368 D368
      have ge369 : n0 ≤ a368 := by rw [g368]; exact Z0
      have F370 : Fld Z h368 a368 "com/example/larder/larder/cache/EvictedKeys" "depth" "I" (.int (0 : Int32)) := D368 (Or.inr (own_w15 hw)) (ty := .int) (by decide)
      have F371 : Fld Z h368 a368 "com/example/larder/larder/cache/EvictedKeys" "slots" "[J" .null := D368 (Or.inl (own_w22 hw)) (ty := (.array .long)) (by decide)
      have F372 : Fld Z h368 a368 "com/example/larder/larder/cache/EvictedKeys" "remembered" "I" (.int (0 : Int32)) := D368 (Or.inl (own_w45 hw)) (ty := .int) (by decide)
      show own_Ends prg e below s _ _ _ T368 (mkF m 81 #[.val (.int p0), .val (.int p1), .val (.int p2), .val (.int p3), .val (.int p4), .val (.int (4 : Int32)), .val (.int n32), .val (.int ((own_ushr p0 (4 : Int32)) &&& (3 : Int32))), .val (.int (8 : Int32)), .val (.int q366), .unset, .unset, .unset, .unset, .unset, .unset, .unset, .unset] [(.ref h0.size)])
      rw [← g368]
      refine own_dup (pc' := 82) X368 hx (hb hby at_81) rfl rfl ?_
      refine own_iload (pc' := 84) X368 hx (hb hby at_82) rfl rfl ?_
      refine own_i2l (pc' := 85) (z := (4 : Int64)) X368 hx (hb hby at_84) rfl (by decide) ?_
      refine own_callC (pc' := 88) (y := (⟨"com/example/larder/larder/cache/EvictedKeys", "<init>", "(J)V"⟩ : MethodName)) (W := 1) (rm := own_room1_4) (argsL := [(.long (4 : Int64))]) (rest := [(.ref a368)]) (b := a368) X368 hx hZ e368 hown (by rw [hml]; rfl) rfl rfl (own_w3 hw) (own_w4 hw) (own_w2 hw) (own_w5 hw) (by decide) (own_rm1_4 lch Z a0 hw [] a368 _ h368 n0 A368 F370 F371 F372 ge369) (by decide) (by decide) (by decide) (by decide) (lenOf own_pd2 rfl) rfl (by exact Nat.le_of_eq rfl) (hb hby at_85) rfl ?_
      intro T373 Lc373 v373 X373 hQ373
      obtain ⟨rfl, Nq373, Kq373, G373_0, G373_1, G373_2⟩ := hQ373
      have N373 := Fr.app N0 Nq373
      show own_Ends prg e below s _ _ _ T373 (mkF m 88 #[.val (.int p0), .val (.int p1), .val (.int p2), .val (.int p3), .val (.int p4), .val (.int (4 : Int32)), .val (.int n32), .val (.int ((own_ushr p0 (4 : Int32)) &&& (3 : Int32))), .val (.int (8 : Int32)), .val (.int q366), .unset, .unset, .unset, .unset, .unset, .unset, .unset, .unset] [(.ref a368)])
      refine own_astore (pc' := 90) (l' := #[.val (.int p0), .val (.int p1), .val (.int p2), .val (.int p3), .val (.int p4), .val (.int (4 : Int32)), .val (.int n32), .val (.int ((own_ushr p0 (4 : Int32)) &&& (3 : Int32))), .val (.int (8 : Int32)), .val (.int q366), .val (.ref a368), .unset, .unset, .unset, .unset, .unset, .unset, .unset]) X373 hx (hb hby at_88) rfl rfl rfl ?_
      rcases own_and3 hn32 with rfl | rfl | rfl | rfl
      · refine own_iload (pc' := 92) X373 hx (hb hby at_90) rfl rfl ?_
        refine own_iconst (pc' := 93) (z := (1 : Int32)) X373 hx (hb hby at_92) rfl rfl ?_
        refine own_icmpYes (pc' := 102) X373 hx (hb hby at_93) (tlt (by decide)).1 (by decide) (by decide) ?_
        refine own_iload (pc' := 104) X373 hx (hb hby at_102) rfl rfl ?_
        refine own_iconst (pc' := 105) (z := (2 : Int32)) X373 hx (hb hby at_104) rfl rfl ?_
        refine own_icmpYes (pc' := 114) X373 hx (hb hby at_105) (tlt (by decide)).1 (by decide) (by decide) ?_
        refine own_iload (pc' := 116) X373 hx (hb hby at_114) rfl rfl ?_
        refine own_iconst (pc' := 117) (z := (3 : Int32)) X373 hx (hb hby at_116) rfl rfl ?_
        refine own_icmpYes (pc' := 126) X373 hx (hb hby at_117) (tlt (by decide)).1 (by decide) (by decide) ?_
        refine own_aload (pc' := 128) X373 hx (hb hby at_126) rfl rfl rfl ?_
        refine own_iload (pc' := 130) X373 hx (hb hby at_128) rfl rfl ?_
        have f375 := (A368.keep Kq373)
        refine own_callV (pc' := 133) (y := (⟨"com/example/larder/larder/cache/EvictedKeys", "recall", "(I)Z"⟩ : MethodName)) (W := 0) (rm := own_room4_0) (argsL := [(.int q366)]) (rest := []) (b := a368) (C := "com/example/larder/larder/cache/EvictedKeys") X373 hx hZ rfl hown (by rw [hml]; rfl) f375 (own_w16 hw) (own_w17 hw) (own_w19 hw) (own_w18 hw) (own_w2 hw) (own_w20 hw) (by decide) (own_rm4_0 lch Z a0 hw [] a368 q366 T373.heap n0 G373_1) (by decide) (by decide) (by decide) (by decide) (lenOf own_pd3 rfl) rfl (by exact Nat.le_of_eq rfl) (hb hby at_130) rfl ?_
        intro T374 Lc374 v374 X374 hQ374
        obtain ⟨rfl, Nq374, Kq374⟩ := hQ374
        have N374 := Fr.app N373 Nq374
        show own_Ends prg e below s _ _ _ T374 (mkF m 133 #[.val (.int p0), .val (.int p1), .val (.int p2), .val (.int p3), .val (.int p4), .val (.int (4 : Int32)), .val (.int (0 : Int32)), .val (.int ((own_ushr p0 (4 : Int32)) &&& (3 : Int32))), .val (.int (8 : Int32)), .val (.int q366), .val (.ref a368), .unset, .unset, .unset, .unset, .unset, .unset, .unset] [(.int (0 : Int32))])
        refine own_istore (pc' := 135) (l' := #[.val (.int p0), .val (.int p1), .val (.int p2), .val (.int p3), .val (.int p4), .val (.int (4 : Int32)), .val (.int (0 : Int32)), .val (.int ((own_ushr p0 (4 : Int32)) &&& (3 : Int32))), .val (.int (8 : Int32)), .val (.int q366), .val (.ref a368), .val (.int (0 : Int32)), .unset, .unset, .unset, .unset, .unset, .unset]) X374 hx (hb hby at_133) rfl rfl ?_
        refine own_aload (pc' := 137) X374 hx (hb hby at_135) rfl rfl rfl ?_
        refine own_iload (pc' := 139) X374 hx (hb hby at_137) rfl rfl ?_
        refine own_callV (pc' := 142) (y := (⟨"com/example/larder/larder/cache/EvictedKeys", "recall", "(I)Z"⟩ : MethodName)) (W := 0) (rm := own_room4_0) (argsL := [(.int q366)]) (rest := []) (b := a368) (C := "com/example/larder/larder/cache/EvictedKeys") X374 hx hZ Kq374 hown (by rw [hml]; rfl) f375 (own_w16 hw) (own_w17 hw) (own_w19 hw) (own_w18 hw) (own_w2 hw) (own_w20 hw) (by decide) (own_rm4_0 lch Z a0 hw [] a368 q366 T373.heap n0 G373_1) (by decide) (by decide) (by decide) (by decide) (lenOf own_pd3 rfl) rfl (by exact Nat.le_of_eq rfl) (hb hby at_139) rfl ?_
        intro T376 Lc376 v376 X376 hQ376
        obtain ⟨rfl, Nq376, Kq376⟩ := hQ376
        have N376 := Fr.app N374 Nq376
        show own_Ends prg e below s _ _ _ T376 (mkF m 142 #[.val (.int p0), .val (.int p1), .val (.int p2), .val (.int p3), .val (.int p4), .val (.int (4 : Int32)), .val (.int (0 : Int32)), .val (.int ((own_ushr p0 (4 : Int32)) &&& (3 : Int32))), .val (.int (8 : Int32)), .val (.int q366), .val (.ref a368), .val (.int (0 : Int32)), .unset, .unset, .unset, .unset, .unset, .unset] [(.int (0 : Int32))])
        refine own_istore (pc' := 144) (l' := #[.val (.int p0), .val (.int p1), .val (.int p2), .val (.int p3), .val (.int p4), .val (.int (4 : Int32)), .val (.int (0 : Int32)), .val (.int ((own_ushr p0 (4 : Int32)) &&& (3 : Int32))), .val (.int (8 : Int32)), .val (.int q366), .val (.ref a368), .val (.int (0 : Int32)), .val (.int (0 : Int32)), .unset, .unset, .unset, .unset, .unset]) X376 hx (hb hby at_142) rfl rfl ?_
        refine own_iload (pc' := 146) X376 hx (hb hby at_144) rfl rfl ?_
        refine own_iconst (pc' := 147) (z := (1 : Int32)) X376 hx (hb hby at_146) rfl rfl ?_
        refine own_isub (pc' := 148) (z := (7 : Int32)) X376 hx (hb hby at_147) rfl (by decide) ?_
        refine own_istore (pc' := 150) (l' := #[.val (.int p0), .val (.int p1), .val (.int p2), .val (.int p3), .val (.int p4), .val (.int (4 : Int32)), .val (.int (0 : Int32)), .val (.int ((own_ushr p0 (4 : Int32)) &&& (3 : Int32))), .val (.int (8 : Int32)), .val (.int q366), .val (.ref a368), .val (.int (0 : Int32)), .val (.int (0 : Int32)), .val (.int (7 : Int32)), .unset, .unset, .unset, .unset]) X376 hx (hb hby at_148) rfl rfl ?_
        refine own_iload (pc' := 152) X376 hx (hb hby at_150) rfl rfl ?_
        refine own_callS (pc' := 155) (y := (⟨"com/example/larder/larder/cache/UseCounts", "spread", "(I)I"⟩ : MethodName)) (W := 0) (rm := own_room5) (argsL := [(.int q366)]) (rest := []) X376 hx hZ Kq376 hown (by rw [hml]; rfl) (own_w23 hw) (own_w24 hw) (own_w25 hw) (own_w26 hw) (by decide) (own_rm5 lch Z a0 hw [] q366 T373.heap n0) (by decide) (by decide) (by decide) (by decide) (lenOf own_pd0 rfl) rfl (by exact Nat.le_of_eq rfl) (hb hby at_152) rfl ?_
        intro T377 Lc377 v377 X377 hQ377
        obtain ⟨rfl, Nq377, Kq377⟩ := hQ377
        have N377 := Fr.app N376 Nq377
        show own_Ends prg e below s _ _ _ T377 (mkF m 155 #[.val (.int p0), .val (.int p1), .val (.int p2), .val (.int p3), .val (.int p4), .val (.int (4 : Int32)), .val (.int (0 : Int32)), .val (.int ((own_ushr p0 (4 : Int32)) &&& (3 : Int32))), .val (.int (8 : Int32)), .val (.int q366), .val (.ref a368), .val (.int (0 : Int32)), .val (.int (0 : Int32)), .val (.int (7 : Int32)), .unset, .unset, .unset, .unset] [(.int (own_spread q366))])
        refine own_iload (pc' := 157) X377 hx (hb hby at_155) rfl rfl ?_
        refine own_iand (pc' := 158) (z := ((own_spread q366) &&& (7 : Int32))) X377 hx (hb hby at_157) rfl rfl ?_
        refine own_istore (pc' := 160) (l' := #[.val (.int p0), .val (.int p1), .val (.int p2), .val (.int p3), .val (.int p4), .val (.int (4 : Int32)), .val (.int (0 : Int32)), .val (.int ((own_ushr p0 (4 : Int32)) &&& (3 : Int32))), .val (.int (8 : Int32)), .val (.int q366), .val (.ref a368), .val (.int (0 : Int32)), .val (.int (0 : Int32)), .val (.int (7 : Int32)), .val (.int ((own_spread q366) &&& (7 : Int32))), .unset, .unset, .unset]) X377 hx (hb hby at_158) rfl rfl ?_
        refine own_iconst (pc' := 161) (z := (0 : Int32)) X377 hx (hb hby at_160) rfl rfl ?_
        refine own_istore (pc' := 163) (l' := #[.val (.int p0), .val (.int p1), .val (.int p2), .val (.int p3), .val (.int p4), .val (.int (4 : Int32)), .val (.int (0 : Int32)), .val (.int ((own_ushr p0 (4 : Int32)) &&& (3 : Int32))), .val (.int (8 : Int32)), .val (.int q366), .val (.ref a368), .val (.int (0 : Int32)), .val (.int (0 : Int32)), .val (.int (7 : Int32)), .val (.int ((own_spread q366) &&& (7 : Int32))), .val (.int (0 : Int32)), .unset, .unset]) X377 hx (hb hby at_161) rfl rfl ?_
        refine own_iload (pc' := 165) X377 hx (hb hby at_163) rfl rfl ?_
        refine own_iconst (pc' := 166) (z := (3 : Int32)) X377 hx (hb hby at_165) rfl rfl ?_
        refine own_icmpYes (pc' := 187) X377 hx (hb hby at_166) (tlt (by decide)).1 (by decide) (by decide) ?_
        refine own_iload (pc' := 189) X377 hx (hb hby at_187) rfl rfl ?_
        refine own_iconst (pc' := 190) (z := (2 : Int32)) X377 hx (hb hby at_189) rfl rfl ?_
        refine own_icmpYes (pc' := 211) X377 hx (hb hby at_190) (tlt (by decide)).1 (by decide) (by decide) ?_
        refine own_iload (pc' := 213) X377 hx (hb hby at_211) rfl rfl ?_
        refine own_iconst (pc' := 214) (z := (1 : Int32)) X377 hx (hb hby at_213) rfl rfl ?_
        refine own_icmpYes (pc' := 232) X377 hx (hb hby at_214) (tlt (by decide)).1 (by decide) (by decide) ?_
        refine own_iload (pc' := 234) X377 hx (hb hby at_232) rfl rfl ?_
        refine own_iconst (pc' := 235) (z := (3 : Int32)) X377 hx (hb hby at_234) rfl rfl ?_
        refine own_icmpYes (pc' := 242) X377 hx (hb hby at_235) (feq (by decide)).2 (by decide) (by decide) ?_
        refine own_iload (pc' := 244) X377 hx (hb hby at_242) rfl rfl ?_
        refine own_iconst (pc' := 245) (z := (2 : Int32)) X377 hx (hb hby at_244) rfl rfl ?_
        refine own_icmpYes (pc' := 252) X377 hx (hb hby at_245) (feq (by decide)).2 (by decide) (by decide) ?_
        refine own_iloadN (pc' := 253) X377 hx (hb hby at_252) rfl rfl ?_
        refine own_istore (pc' := 255) (l' := #[.val (.int p0), .val (.int p1), .val (.int p2), .val (.int p3), .val (.int p4), .val (.int (4 : Int32)), .val (.int (0 : Int32)), .val (.int ((own_ushr p0 (4 : Int32)) &&& (3 : Int32))), .val (.int (8 : Int32)), .val (.int q366), .val (.ref a368), .val (.int (0 : Int32)), .val (.int (0 : Int32)), .val (.int (7 : Int32)), .val (.int ((own_spread q366) &&& (7 : Int32))), .val (.int (0 : Int32)), .val (.int p1), .unset]) X377 hx (hb hby at_253) rfl rfl ?_
        refine own_iload (pc' := 257) X377 hx (hb hby at_255) rfl rfl ?_
        refine own_ifYes (pc' := 281) X377 hx (hb hby at_257) (teq (by decide)).1 (by decide) (by decide) ?_
        refine own_iconst (pc' := 282) (z := (0 : Int32)) X377 hx (hb hby at_281) rfl rfl ?_
        refine own_istore (pc' := 284) (l' := #[.val (.int p0), .val (.int p1), .val (.int p2), .val (.int p3), .val (.int p4), .val (.int (4 : Int32)), .val (.int (0 : Int32)), .val (.int ((own_ushr p0 (4 : Int32)) &&& (3 : Int32))), .val (.int (8 : Int32)), .val (.int q366), .val (.ref a368), .val (.int (0 : Int32)), .val (.int (0 : Int32)), .val (.int (7 : Int32)), .val (.int ((own_spread q366) &&& (7 : Int32))), .val (.int (0 : Int32)), .val (.int p1), .val (.int (0 : Int32))]) X377 hx (hb hby at_282) rfl rfl ?_
        refine own_iload (pc' := 286) X377 hx (hb hby at_284) rfl rfl ?_
        refine own_iload (pc' := 288) X377 hx (hb hby at_286) rfl rfl ?_
        refine own_icmpNo (pc' := 291) X377 hx (hb hby at_288) rfl (teq (by decide)).2 ?_
        refine own_iload (pc' := 293) X377 hx (hb hby at_291) rfl rfl ?_
        refine own_ifNo (pc' := 296) X377 hx (hb hby at_293) rfl (teq (by decide)).2 ?_
        refine own_iconst (pc' := 297) (z := (1 : Int32)) X377 hx (hb hby at_296) rfl rfl ?_
        refine own_goto (pc' := 301) X377 hx (hb hby at_297) (by decide) (by decide) ?_
        refine own_retN X377 hx hlk hret (by simp) (hb hby at_301) (by decide) (by decide) ?_
        exact ⟨rfl, N377⟩
      · refine own_iload (pc' := 92) X373 hx (hb hby at_90) rfl rfl ?_
        refine own_iconst (pc' := 93) (z := (1 : Int32)) X373 hx (hb hby at_92) rfl rfl ?_
        refine own_icmpNo (pc' := 96) X373 hx (hb hby at_93) rfl (flt (by decide)).1 ?_
        refine own_aload (pc' := 98) X373 hx (hb hby at_96) rfl rfl rfl ?_
        refine own_iloadN (pc' := 99) X373 hx (hb hby at_98) rfl rfl ?_
        have f378 := (A368.keep Kq373)
        have f379 := (Nat.le_trans (Nat.le_trans Z0 E368.1) Kq373.1)
        refine own_callV (pc' := 102) (y := (⟨"com/example/larder/larder/cache/EvictedKeys", "remember", "(I)V"⟩ : MethodName)) (W := 0) (rm := own_room6_4_0) (argsL := [(.int p1)]) (rest := []) (b := a368) (C := "com/example/larder/larder/cache/EvictedKeys") X373 hx hZ rfl hown (by rw [hml]; rfl) f378 (own_w28 hw) (own_w29 hw) (own_w31 hw) (own_w30 hw) (own_w2 hw) (own_w32 hw) (by decide) (own_rm6_4_0 lch Z a0 hw [] a368 p1 T373.heap n0 f379 f378 G373_0 G373_1 G373_2 ge369) (by decide) (by decide) (by decide) (by decide) (lenOf own_pd4 rfl) rfl (by exact Nat.le_of_eq rfl) (hb hby at_99) rfl ?_
        intro T380 Lc380 v380 X380 hQ380
        obtain ⟨b380, bk380, rfl, Nq380, Kq380, G380_0, G380_1, G380_2, G380_3, G380_4⟩ := hQ380
        have N380 := Fr.app N373 Nq380
        have ge381 : n0 ≤ b380 := Nat.le_trans f379 G380_0
        have ne382 : a368 ≠ b380 := Nat.ne_of_lt (Nat.lt_of_lt_of_le f378.lt G380_0)
        obtain ⟨l383, el383⟩ : ∃ z, z = ((List.replicate 8 (0 : Int64)).set (own_ixm (7 : Int32) (own_spread p1)) (own_pack (own_spread p1) (1 : Int64))) := ⟨_, rfl⟩
        rw [← el383] at G380_4
        have hl384 : l383.length = 8 := by rw [el383, List.length_set]; rfl
        show own_Ends prg e below s _ _ _ T380 (mkF m 102 #[.val (.int p0), .val (.int p1), .val (.int p2), .val (.int p3), .val (.int p4), .val (.int (4 : Int32)), .val (.int (1 : Int32)), .val (.int ((own_ushr p0 (4 : Int32)) &&& (3 : Int32))), .val (.int (8 : Int32)), .val (.int q366), .val (.ref a368), .unset, .unset, .unset, .unset, .unset, .unset, .unset] [])
        refine own_iload (pc' := 104) X380 hx (hb hby at_102) rfl rfl ?_
        refine own_iconst (pc' := 105) (z := (2 : Int32)) X380 hx (hb hby at_104) rfl rfl ?_
        refine own_icmpYes (pc' := 114) X380 hx (hb hby at_105) (tlt (by decide)).1 (by decide) (by decide) ?_
        refine own_iload (pc' := 116) X380 hx (hb hby at_114) rfl rfl ?_
        refine own_iconst (pc' := 117) (z := (3 : Int32)) X380 hx (hb hby at_116) rfl rfl ?_
        refine own_icmpYes (pc' := 126) X380 hx (hb hby at_117) (tlt (by decide)).1 (by decide) (by decide) ?_
        refine own_aload (pc' := 128) X380 hx (hb hby at_126) rfl rfl rfl ?_
        refine own_iload (pc' := 130) X380 hx (hb hby at_128) rfl rfl ?_
        have f386 := (f378.keep Kq380)
        refine own_callV (pc' := 133) (y := (⟨"com/example/larder/larder/cache/EvictedKeys", "recall", "(I)Z"⟩ : MethodName)) (W := 0) (rm := own_room4_8) (argsL := [(.int q366)]) (rest := []) (b := a368) (C := "com/example/larder/larder/cache/EvictedKeys") X380 hx hZ rfl hown (by rw [hml]; rfl) f386 (own_w16 hw) (own_w17 hw) (own_w19 hw) (own_w18 hw) (own_w2 hw) (own_w20 hw) (by decide) (own_rm4_8 lch Z a0 hw [] a368 q366 b380 bk380 l383 (1 : Int32) (4 : Int32) T380.heap n0 G380_1 G380_2 G380_3 G380_4 hl384 ge381 ne382) (by decide) (by decide) (by decide) (by decide) (lenOf own_pd3 rfl) rfl (by exact Nat.le_of_eq rfl) (hb hby at_130) rfl ?_
        intro T385 Lc385 v385 X385 hQ385
        obtain ⟨rfl, Nq385, Kq385, G385_0⟩ := hQ385
        have N385 := Fr.app N380 Nq385
        have hl387 : (own_rl l383 (7 : Int32) (own_spread q366)).length = 8 := (own_rllen _ _ _).trans hl384
        show own_Ends prg e below s _ _ _ T385 (mkF m 133 #[.val (.int p0), .val (.int p1), .val (.int p2), .val (.int p3), .val (.int p4), .val (.int (4 : Int32)), .val (.int (1 : Int32)), .val (.int ((own_ushr p0 (4 : Int32)) &&& (3 : Int32))), .val (.int (8 : Int32)), .val (.int q366), .val (.ref a368), .unset, .unset, .unset, .unset, .unset, .unset, .unset] [(.int (own_rv l383 (7 : Int32) (own_spread q366) (1 : Int32) (4 : Int32)))])
        refine own_istore (pc' := 135) (l' := #[.val (.int p0), .val (.int p1), .val (.int p2), .val (.int p3), .val (.int p4), .val (.int (4 : Int32)), .val (.int (1 : Int32)), .val (.int ((own_ushr p0 (4 : Int32)) &&& (3 : Int32))), .val (.int (8 : Int32)), .val (.int q366), .val (.ref a368), .val (.int (own_rv l383 (7 : Int32) (own_spread q366) (1 : Int32) (4 : Int32))), .unset, .unset, .unset, .unset, .unset, .unset]) X385 hx (hb hby at_133) rfl rfl ?_
        refine own_aload (pc' := 137) X385 hx (hb hby at_135) rfl rfl rfl ?_
        refine own_iload (pc' := 139) X385 hx (hb hby at_137) rfl rfl ?_
        have f388 := (G380_1.keep Kq385 (ninS ne382 nin0))
        have f389 := (G380_2.keep Kq385 (ninS ne382 nin0))
        have f390 := (G380_3.keep Kq385 (ninS ne382 nin0))
        have f392 := (f386.keep Kq385)
        refine own_callV (pc' := 142) (y := (⟨"com/example/larder/larder/cache/EvictedKeys", "recall", "(I)Z"⟩ : MethodName)) (W := 0) (rm := own_room4_8) (argsL := [(.int q366)]) (rest := []) (b := a368) (C := "com/example/larder/larder/cache/EvictedKeys") X385 hx hZ rfl hown (by rw [hml]; rfl) f392 (own_w16 hw) (own_w17 hw) (own_w19 hw) (own_w18 hw) (own_w2 hw) (own_w20 hw) (by decide) (own_rm4_8 lch Z a0 hw [] a368 q366 b380 bk380 (own_rl l383 (7 : Int32) (own_spread q366)) (1 : Int32) (4 : Int32) T385.heap n0 f388 f389 f390 G385_0 hl387 ge381 ne382) (by decide) (by decide) (by decide) (by decide) (lenOf own_pd3 rfl) rfl (by exact Nat.le_of_eq rfl) (hb hby at_139) rfl ?_
        intro T391 Lc391 v391 X391 hQ391
        obtain ⟨rfl, Nq391, Kq391, G391_0⟩ := hQ391
        have N391 := Fr.app N385 Nq391
        have hl393 : (own_rl (own_rl l383 (7 : Int32) (own_spread q366)) (7 : Int32) (own_spread q366)).length = 8 := (own_rllen _ _ _).trans hl387
        show own_Ends prg e below s _ _ _ T391 (mkF m 142 #[.val (.int p0), .val (.int p1), .val (.int p2), .val (.int p3), .val (.int p4), .val (.int (4 : Int32)), .val (.int (1 : Int32)), .val (.int ((own_ushr p0 (4 : Int32)) &&& (3 : Int32))), .val (.int (8 : Int32)), .val (.int q366), .val (.ref a368), .val (.int (own_rv l383 (7 : Int32) (own_spread q366) (1 : Int32) (4 : Int32))), .unset, .unset, .unset, .unset, .unset, .unset] [(.int (own_rv (own_rl l383 (7 : Int32) (own_spread q366)) (7 : Int32) (own_spread q366) (1 : Int32) (4 : Int32)))])
        refine own_istore (pc' := 144) (l' := #[.val (.int p0), .val (.int p1), .val (.int p2), .val (.int p3), .val (.int p4), .val (.int (4 : Int32)), .val (.int (1 : Int32)), .val (.int ((own_ushr p0 (4 : Int32)) &&& (3 : Int32))), .val (.int (8 : Int32)), .val (.int q366), .val (.ref a368), .val (.int (own_rv l383 (7 : Int32) (own_spread q366) (1 : Int32) (4 : Int32))), .val (.int (own_rv (own_rl l383 (7 : Int32) (own_spread q366)) (7 : Int32) (own_spread q366) (1 : Int32) (4 : Int32))), .unset, .unset, .unset, .unset, .unset]) X391 hx (hb hby at_142) rfl rfl ?_
        refine own_iload (pc' := 146) X391 hx (hb hby at_144) rfl rfl ?_
        refine own_iconst (pc' := 147) (z := (1 : Int32)) X391 hx (hb hby at_146) rfl rfl ?_
        refine own_isub (pc' := 148) (z := (7 : Int32)) X391 hx (hb hby at_147) rfl (by decide) ?_
        refine own_istore (pc' := 150) (l' := #[.val (.int p0), .val (.int p1), .val (.int p2), .val (.int p3), .val (.int p4), .val (.int (4 : Int32)), .val (.int (1 : Int32)), .val (.int ((own_ushr p0 (4 : Int32)) &&& (3 : Int32))), .val (.int (8 : Int32)), .val (.int q366), .val (.ref a368), .val (.int (own_rv l383 (7 : Int32) (own_spread q366) (1 : Int32) (4 : Int32))), .val (.int (own_rv (own_rl l383 (7 : Int32) (own_spread q366)) (7 : Int32) (own_spread q366) (1 : Int32) (4 : Int32))), .val (.int (7 : Int32)), .unset, .unset, .unset, .unset]) X391 hx (hb hby at_148) rfl rfl ?_
        refine own_iload (pc' := 152) X391 hx (hb hby at_150) rfl rfl ?_
        refine own_callS (pc' := 155) (y := (⟨"com/example/larder/larder/cache/UseCounts", "spread", "(I)I"⟩ : MethodName)) (W := 0) (rm := own_room5) (argsL := [(.int q366)]) (rest := []) X391 hx hZ rfl hown (by rw [hml]; rfl) (own_w23 hw) (own_w24 hw) (own_w25 hw) (own_w26 hw) (by decide) (own_rm5 lch Z a0 hw [] q366 T391.heap n0) (by decide) (by decide) (by decide) (by decide) (lenOf own_pd0 rfl) rfl (by exact Nat.le_of_eq rfl) (hb hby at_152) rfl ?_
        intro T394 Lc394 v394 X394 hQ394
        obtain ⟨rfl, Nq394, Kq394⟩ := hQ394
        have N394 := Fr.app N391 Nq394
        show own_Ends prg e below s _ _ _ T394 (mkF m 155 #[.val (.int p0), .val (.int p1), .val (.int p2), .val (.int p3), .val (.int p4), .val (.int (4 : Int32)), .val (.int (1 : Int32)), .val (.int ((own_ushr p0 (4 : Int32)) &&& (3 : Int32))), .val (.int (8 : Int32)), .val (.int q366), .val (.ref a368), .val (.int (own_rv l383 (7 : Int32) (own_spread q366) (1 : Int32) (4 : Int32))), .val (.int (own_rv (own_rl l383 (7 : Int32) (own_spread q366)) (7 : Int32) (own_spread q366) (1 : Int32) (4 : Int32))), .val (.int (7 : Int32)), .unset, .unset, .unset, .unset] [(.int (own_spread q366))])
        refine own_iload (pc' := 157) X394 hx (hb hby at_155) rfl rfl ?_
        refine own_iand (pc' := 158) (z := ((own_spread q366) &&& (7 : Int32))) X394 hx (hb hby at_157) rfl rfl ?_
        refine own_istore (pc' := 160) (l' := #[.val (.int p0), .val (.int p1), .val (.int p2), .val (.int p3), .val (.int p4), .val (.int (4 : Int32)), .val (.int (1 : Int32)), .val (.int ((own_ushr p0 (4 : Int32)) &&& (3 : Int32))), .val (.int (8 : Int32)), .val (.int q366), .val (.ref a368), .val (.int (own_rv l383 (7 : Int32) (own_spread q366) (1 : Int32) (4 : Int32))), .val (.int (own_rv (own_rl l383 (7 : Int32) (own_spread q366)) (7 : Int32) (own_spread q366) (1 : Int32) (4 : Int32))), .val (.int (7 : Int32)), .val (.int ((own_spread q366) &&& (7 : Int32))), .unset, .unset, .unset]) X394 hx (hb hby at_158) rfl rfl ?_
        refine own_iconst (pc' := 161) (z := (0 : Int32)) X394 hx (hb hby at_160) rfl rfl ?_
        refine own_istore (pc' := 163) (l' := #[.val (.int p0), .val (.int p1), .val (.int p2), .val (.int p3), .val (.int p4), .val (.int (4 : Int32)), .val (.int (1 : Int32)), .val (.int ((own_ushr p0 (4 : Int32)) &&& (3 : Int32))), .val (.int (8 : Int32)), .val (.int q366), .val (.ref a368), .val (.int (own_rv l383 (7 : Int32) (own_spread q366) (1 : Int32) (4 : Int32))), .val (.int (own_rv (own_rl l383 (7 : Int32) (own_spread q366)) (7 : Int32) (own_spread q366) (1 : Int32) (4 : Int32))), .val (.int (7 : Int32)), .val (.int ((own_spread q366) &&& (7 : Int32))), .val (.int (0 : Int32)), .unset, .unset]) X394 hx (hb hby at_161) rfl rfl ?_
        refine own_iload (pc' := 165) X394 hx (hb hby at_163) rfl rfl ?_
        refine own_iconst (pc' := 166) (z := (3 : Int32)) X394 hx (hb hby at_165) rfl rfl ?_
        refine own_icmpYes (pc' := 187) X394 hx (hb hby at_166) (tlt (by decide)).1 (by decide) (by decide) ?_
        refine own_iload (pc' := 189) X394 hx (hb hby at_187) rfl rfl ?_
        refine own_iconst (pc' := 190) (z := (2 : Int32)) X394 hx (hb hby at_189) rfl rfl ?_
        refine own_icmpYes (pc' := 211) X394 hx (hb hby at_190) (tlt (by decide)).1 (by decide) (by decide) ?_
        refine own_iload (pc' := 213) X394 hx (hb hby at_211) rfl rfl ?_
        refine own_iconst (pc' := 214) (z := (1 : Int32)) X394 hx (hb hby at_213) rfl rfl ?_
        refine own_icmpNo (pc' := 217) X394 hx (hb hby at_214) rfl (flt (by decide)).1 ?_
        refine own_iloadN (pc' := 218) X394 hx (hb hby at_217) rfl rfl ?_
        refine own_callS (pc' := 221) (y := (⟨"com/example/larder/larder/cache/UseCounts", "spread", "(I)I"⟩ : MethodName)) (W := 0) (rm := own_room5) (argsL := [(.int p1)]) (rest := []) X394 hx hZ Kq394 hown (by rw [hml]; rfl) (own_w23 hw) (own_w24 hw) (own_w25 hw) (own_w26 hw) (by decide) (own_rm5 lch Z a0 hw [] p1 T391.heap n0) (by decide) (by decide) (by decide) (by decide) (lenOf own_pd0 rfl) rfl (by exact Nat.le_of_eq rfl) (hb hby at_218) rfl ?_
        intro T395 Lc395 v395 X395 hQ395
        obtain ⟨rfl, Nq395, Kq395⟩ := hQ395
        have N395 := Fr.app N394 Nq395
        show own_Ends prg e below s _ _ _ T395 (mkF m 221 #[.val (.int p0), .val (.int p1), .val (.int p2), .val (.int p3), .val (.int p4), .val (.int (4 : Int32)), .val (.int (1 : Int32)), .val (.int ((own_ushr p0 (4 : Int32)) &&& (3 : Int32))), .val (.int (8 : Int32)), .val (.int q366), .val (.ref a368), .val (.int (own_rv l383 (7 : Int32) (own_spread q366) (1 : Int32) (4 : Int32))), .val (.int (own_rv (own_rl l383 (7 : Int32) (own_spread q366)) (7 : Int32) (own_spread q366) (1 : Int32) (4 : Int32))), .val (.int (7 : Int32)), .val (.int ((own_spread q366) &&& (7 : Int32))), .val (.int (0 : Int32)), .unset, .unset] [(.int (own_spread p1))])
        refine own_iload (pc' := 223) X395 hx (hb hby at_221) rfl rfl ?_
        refine own_iand (pc' := 224) (z := ((own_spread p1) &&& (7 : Int32))) X395 hx (hb hby at_223) rfl rfl ?_
        refine own_iload (pc' := 226) X395 hx (hb hby at_224) rfl rfl ?_
        by_cases hc226_396 : ((own_spread p1) &&& (7 : Int32)) = ((own_spread q366) &&& (7 : Int32))
        · refine own_icmpNo (pc' := 229) X395 hx (hb hby at_226) rfl (teq hc226_396).2 ?_
          refine own_iconst (pc' := 230) (z := (1 : Int32)) X395 hx (hb hby at_229) rfl rfl ?_
          refine own_istore (pc' := 232) (l' := #[.val (.int p0), .val (.int p1), .val (.int p2), .val (.int p3), .val (.int p4), .val (.int (4 : Int32)), .val (.int (1 : Int32)), .val (.int ((own_ushr p0 (4 : Int32)) &&& (3 : Int32))), .val (.int (8 : Int32)), .val (.int q366), .val (.ref a368), .val (.int (own_rv l383 (7 : Int32) (own_spread q366) (1 : Int32) (4 : Int32))), .val (.int (own_rv (own_rl l383 (7 : Int32) (own_spread q366)) (7 : Int32) (own_spread q366) (1 : Int32) (4 : Int32))), .val (.int (7 : Int32)), .val (.int ((own_spread q366) &&& (7 : Int32))), .val (.int (1 : Int32)), .unset, .unset]) X395 hx (hb hby at_230) rfl rfl ?_
          refine own_iload (pc' := 234) X395 hx (hb hby at_232) rfl rfl ?_
          refine own_iconst (pc' := 235) (z := (3 : Int32)) X395 hx (hb hby at_234) rfl rfl ?_
          refine own_icmpYes (pc' := 242) X395 hx (hb hby at_235) (feq (by decide)).2 (by decide) (by decide) ?_
          refine own_iload (pc' := 244) X395 hx (hb hby at_242) rfl rfl ?_
          refine own_iconst (pc' := 245) (z := (2 : Int32)) X395 hx (hb hby at_244) rfl rfl ?_
          refine own_icmpYes (pc' := 252) X395 hx (hb hby at_245) (feq (by decide)).2 (by decide) (by decide) ?_
          refine own_iloadN (pc' := 253) X395 hx (hb hby at_252) rfl rfl ?_
          refine own_istore (pc' := 255) (l' := #[.val (.int p0), .val (.int p1), .val (.int p2), .val (.int p3), .val (.int p4), .val (.int (4 : Int32)), .val (.int (1 : Int32)), .val (.int ((own_ushr p0 (4 : Int32)) &&& (3 : Int32))), .val (.int (8 : Int32)), .val (.int q366), .val (.ref a368), .val (.int (own_rv l383 (7 : Int32) (own_spread q366) (1 : Int32) (4 : Int32))), .val (.int (own_rv (own_rl l383 (7 : Int32) (own_spread q366)) (7 : Int32) (own_spread q366) (1 : Int32) (4 : Int32))), .val (.int (7 : Int32)), .val (.int ((own_spread q366) &&& (7 : Int32))), .val (.int (1 : Int32)), .val (.int p1), .unset]) X395 hx (hb hby at_253) rfl rfl ?_
          refine own_iload (pc' := 257) X395 hx (hb hby at_255) rfl rfl ?_
          refine own_ifNo (pc' := 260) X395 hx (hb hby at_257) rfl (feq (by decide)).1 ?_
          refine own_iload (pc' := 262) X395 hx (hb hby at_260) rfl rfl ?_
          refine own_iload (pc' := 264) X395 hx (hb hby at_262) rfl rfl ?_
          by_cases hc264_397 : p1 = q366
          · refine own_icmpNo (pc' := 267) X395 hx (hb hby at_264) rfl (teq hc264_397).2 ?_
            refine own_iload (pc' := 269) X395 hx (hb hby at_267) rfl rfl ?_
            refine own_iload (pc' := 271) X395 hx (hb hby at_269) rfl rfl ?_
            refine own_isub (pc' := 272) (z := (0 : Int32)) X395 hx (hb hby at_271) rfl (by decide) ?_
            refine own_iload (pc' := 274) X395 hx (hb hby at_272) rfl rfl ?_
            refine own_icmpNo (pc' := 277) X395 hx (hb hby at_274) rfl (tlt (by decide)).2.1 ?_
            refine own_iconst (pc' := 278) (z := (1 : Int32)) X395 hx (hb hby at_277) rfl rfl ?_
            refine own_goto (pc' := 282) X395 hx (hb hby at_278) (by decide) (by decide) ?_
            refine own_istore (pc' := 284) (l' := #[.val (.int p0), .val (.int p1), .val (.int p2), .val (.int p3), .val (.int p4), .val (.int (4 : Int32)), .val (.int (1 : Int32)), .val (.int ((own_ushr p0 (4 : Int32)) &&& (3 : Int32))), .val (.int (8 : Int32)), .val (.int q366), .val (.ref a368), .val (.int (own_rv l383 (7 : Int32) (own_spread q366) (1 : Int32) (4 : Int32))), .val (.int (own_rv (own_rl l383 (7 : Int32) (own_spread q366)) (7 : Int32) (own_spread q366) (1 : Int32) (4 : Int32))), .val (.int (7 : Int32)), .val (.int ((own_spread q366) &&& (7 : Int32))), .val (.int (1 : Int32)), .val (.int p1), .val (.int (1 : Int32))]) X395 hx (hb hby at_282) rfl rfl ?_
            refine own_iload (pc' := 286) X395 hx (hb hby at_284) rfl rfl ?_
            refine own_iload (pc' := 288) X395 hx (hb hby at_286) rfl rfl ?_
            have sl398 : own_slot l383 (7 : Int32) (own_spread q366) = own_pack (own_spread p1) (1 : Int64) := by
              rw [el383]
              exact (own_slE (Or.inr (Or.inr ⟨rfl, rfl⟩)) (List.length_replicate) hc226_396)
            refine own_icmpNo (pc' := 291) X395 hx (hb hby at_288) rfl (teq ((own_hitv (i := 1) sl398 (by decide) (by decide)).trans ((if_pos hc264_397).trans (by decide)))).2 ?_
            refine own_iload (pc' := 293) X395 hx (hb hby at_291) rfl rfl ?_
            refine own_ifNo (pc' := 296) X395 hx (hb hby at_293) rfl (teq (own_second (Or.inr (Or.inr ⟨rfl, rfl⟩)) hl384)).2 ?_
            refine own_iconst (pc' := 297) (z := (1 : Int32)) X395 hx (hb hby at_296) rfl rfl ?_
            refine own_goto (pc' := 301) X395 hx (hb hby at_297) (by decide) (by decide) ?_
            refine own_retN X395 hx hlk hret (by simp) (hb hby at_301) (by decide) (by decide) ?_
            exact ⟨rfl, N395⟩
          · refine own_icmpYes (pc' := 281) X395 hx (hb hby at_264) (feq hc264_397).2 (by decide) (by decide) ?_
            refine own_iconst (pc' := 282) (z := (0 : Int32)) X395 hx (hb hby at_281) rfl rfl ?_
            refine own_istore (pc' := 284) (l' := #[.val (.int p0), .val (.int p1), .val (.int p2), .val (.int p3), .val (.int p4), .val (.int (4 : Int32)), .val (.int (1 : Int32)), .val (.int ((own_ushr p0 (4 : Int32)) &&& (3 : Int32))), .val (.int (8 : Int32)), .val (.int q366), .val (.ref a368), .val (.int (own_rv l383 (7 : Int32) (own_spread q366) (1 : Int32) (4 : Int32))), .val (.int (own_rv (own_rl l383 (7 : Int32) (own_spread q366)) (7 : Int32) (own_spread q366) (1 : Int32) (4 : Int32))), .val (.int (7 : Int32)), .val (.int ((own_spread q366) &&& (7 : Int32))), .val (.int (1 : Int32)), .val (.int p1), .val (.int (0 : Int32))]) X395 hx (hb hby at_282) rfl rfl ?_
            refine own_iload (pc' := 286) X395 hx (hb hby at_284) rfl rfl ?_
            refine own_iload (pc' := 288) X395 hx (hb hby at_286) rfl rfl ?_
            have sl399 : own_slot l383 (7 : Int32) (own_spread q366) = own_pack (own_spread p1) (1 : Int64) := by
              rw [el383]
              exact (own_slE (Or.inr (Or.inr ⟨rfl, rfl⟩)) (List.length_replicate) hc226_396)
            refine own_icmpNo (pc' := 291) X395 hx (hb hby at_288) rfl (teq ((own_hitv (i := 1) sl399 (by decide) (by decide)).trans (if_neg hc264_397))).2 ?_
            refine own_iload (pc' := 293) X395 hx (hb hby at_291) rfl rfl ?_
            refine own_ifNo (pc' := 296) X395 hx (hb hby at_293) rfl (teq (own_second (Or.inr (Or.inr ⟨rfl, rfl⟩)) hl384)).2 ?_
            refine own_iconst (pc' := 297) (z := (1 : Int32)) X395 hx (hb hby at_296) rfl rfl ?_
            refine own_goto (pc' := 301) X395 hx (hb hby at_297) (by decide) (by decide) ?_
            refine own_retN X395 hx hlk hret (by simp) (hb hby at_301) (by decide) (by decide) ?_
            exact ⟨rfl, N395⟩
        · refine own_icmpYes (pc' := 232) X395 hx (hb hby at_226) (feq hc226_396).2 (by decide) (by decide) ?_
          refine own_iload (pc' := 234) X395 hx (hb hby at_232) rfl rfl ?_
          refine own_iconst (pc' := 235) (z := (3 : Int32)) X395 hx (hb hby at_234) rfl rfl ?_
          refine own_icmpYes (pc' := 242) X395 hx (hb hby at_235) (feq (by decide)).2 (by decide) (by decide) ?_
          refine own_iload (pc' := 244) X395 hx (hb hby at_242) rfl rfl ?_
          refine own_iconst (pc' := 245) (z := (2 : Int32)) X395 hx (hb hby at_244) rfl rfl ?_
          refine own_icmpYes (pc' := 252) X395 hx (hb hby at_245) (feq (by decide)).2 (by decide) (by decide) ?_
          refine own_iloadN (pc' := 253) X395 hx (hb hby at_252) rfl rfl ?_
          refine own_istore (pc' := 255) (l' := #[.val (.int p0), .val (.int p1), .val (.int p2), .val (.int p3), .val (.int p4), .val (.int (4 : Int32)), .val (.int (1 : Int32)), .val (.int ((own_ushr p0 (4 : Int32)) &&& (3 : Int32))), .val (.int (8 : Int32)), .val (.int q366), .val (.ref a368), .val (.int (own_rv l383 (7 : Int32) (own_spread q366) (1 : Int32) (4 : Int32))), .val (.int (own_rv (own_rl l383 (7 : Int32) (own_spread q366)) (7 : Int32) (own_spread q366) (1 : Int32) (4 : Int32))), .val (.int (7 : Int32)), .val (.int ((own_spread q366) &&& (7 : Int32))), .val (.int (0 : Int32)), .val (.int p1), .unset]) X395 hx (hb hby at_253) rfl rfl ?_
          refine own_iload (pc' := 257) X395 hx (hb hby at_255) rfl rfl ?_
          refine own_ifYes (pc' := 281) X395 hx (hb hby at_257) (teq (by decide)).1 (by decide) (by decide) ?_
          refine own_iconst (pc' := 282) (z := (0 : Int32)) X395 hx (hb hby at_281) rfl rfl ?_
          refine own_istore (pc' := 284) (l' := #[.val (.int p0), .val (.int p1), .val (.int p2), .val (.int p3), .val (.int p4), .val (.int (4 : Int32)), .val (.int (1 : Int32)), .val (.int ((own_ushr p0 (4 : Int32)) &&& (3 : Int32))), .val (.int (8 : Int32)), .val (.int q366), .val (.ref a368), .val (.int (own_rv l383 (7 : Int32) (own_spread q366) (1 : Int32) (4 : Int32))), .val (.int (own_rv (own_rl l383 (7 : Int32) (own_spread q366)) (7 : Int32) (own_spread q366) (1 : Int32) (4 : Int32))), .val (.int (7 : Int32)), .val (.int ((own_spread q366) &&& (7 : Int32))), .val (.int (0 : Int32)), .val (.int p1), .val (.int (0 : Int32))]) X395 hx (hb hby at_282) rfl rfl ?_
          refine own_iload (pc' := 286) X395 hx (hb hby at_284) rfl rfl ?_
          refine own_iload (pc' := 288) X395 hx (hb hby at_286) rfl rfl ?_
          have sl400 : own_slot l383 (7 : Int32) (own_spread q366) = 0 := by
            rw [el383]
            exact ((own_slN (Or.inr (Or.inr ⟨rfl, rfl⟩)) (List.length_replicate) hc226_396).trans (own_sl0 _ _ _))
          refine own_icmpNo (pc' := 291) X395 hx (hb hby at_288) rfl (teq (own_miss sl400)).2 ?_
          refine own_iload (pc' := 293) X395 hx (hb hby at_291) rfl rfl ?_
          refine own_ifNo (pc' := 296) X395 hx (hb hby at_293) rfl (teq (own_second (Or.inr (Or.inr ⟨rfl, rfl⟩)) hl384)).2 ?_
          refine own_iconst (pc' := 297) (z := (1 : Int32)) X395 hx (hb hby at_296) rfl rfl ?_
          refine own_goto (pc' := 301) X395 hx (hb hby at_297) (by decide) (by decide) ?_
          refine own_retN X395 hx hlk hret (by simp) (hb hby at_301) (by decide) (by decide) ?_
          exact ⟨rfl, N395⟩
      · refine own_iload (pc' := 92) X373 hx (hb hby at_90) rfl rfl ?_
        refine own_iconst (pc' := 93) (z := (1 : Int32)) X373 hx (hb hby at_92) rfl rfl ?_
        refine own_icmpNo (pc' := 96) X373 hx (hb hby at_93) rfl (flt (by decide)).1 ?_
        refine own_aload (pc' := 98) X373 hx (hb hby at_96) rfl rfl rfl ?_
        refine own_iloadN (pc' := 99) X373 hx (hb hby at_98) rfl rfl ?_
        have f401 := (A368.keep Kq373)
        have f402 := (Nat.le_trans (Nat.le_trans Z0 E368.1) Kq373.1)
        refine own_callV (pc' := 102) (y := (⟨"com/example/larder/larder/cache/EvictedKeys", "remember", "(I)V"⟩ : MethodName)) (W := 0) (rm := own_room6_4_0) (argsL := [(.int p1)]) (rest := []) (b := a368) (C := "com/example/larder/larder/cache/EvictedKeys") X373 hx hZ rfl hown (by rw [hml]; rfl) f401 (own_w28 hw) (own_w29 hw) (own_w31 hw) (own_w30 hw) (own_w2 hw) (own_w32 hw) (by decide) (own_rm6_4_0 lch Z a0 hw [] a368 p1 T373.heap n0 f402 f401 G373_0 G373_1 G373_2 ge369) (by decide) (by decide) (by decide) (by decide) (lenOf own_pd4 rfl) rfl (by exact Nat.le_of_eq rfl) (hb hby at_99) rfl ?_
        intro T403 Lc403 v403 X403 hQ403
        obtain ⟨b403, bk403, rfl, Nq403, Kq403, G403_0, G403_1, G403_2, G403_3, G403_4⟩ := hQ403
        have N403 := Fr.app N373 Nq403
        have ge404 : n0 ≤ b403 := Nat.le_trans f402 G403_0
        have ne405 : a368 ≠ b403 := Nat.ne_of_lt (Nat.lt_of_lt_of_le f401.lt G403_0)
        obtain ⟨l406, el406⟩ : ∃ z, z = ((List.replicate 8 (0 : Int64)).set (own_ixm (7 : Int32) (own_spread p1)) (own_pack (own_spread p1) (1 : Int64))) := ⟨_, rfl⟩
        rw [← el406] at G403_4
        have hl407 : l406.length = 8 := by rw [el406, List.length_set]; rfl
        show own_Ends prg e below s _ _ _ T403 (mkF m 102 #[.val (.int p0), .val (.int p1), .val (.int p2), .val (.int p3), .val (.int p4), .val (.int (4 : Int32)), .val (.int (2 : Int32)), .val (.int ((own_ushr p0 (4 : Int32)) &&& (3 : Int32))), .val (.int (8 : Int32)), .val (.int q366), .val (.ref a368), .unset, .unset, .unset, .unset, .unset, .unset, .unset] [])
        refine own_iload (pc' := 104) X403 hx (hb hby at_102) rfl rfl ?_
        refine own_iconst (pc' := 105) (z := (2 : Int32)) X403 hx (hb hby at_104) rfl rfl ?_
        refine own_icmpNo (pc' := 108) X403 hx (hb hby at_105) rfl (flt (by decide)).1 ?_
        refine own_aload (pc' := 110) X403 hx (hb hby at_108) rfl rfl rfl ?_
        refine own_iloadN (pc' := 111) X403 hx (hb hby at_110) rfl rfl ?_
        have f408 := (f401.keep Kq403)
        refine own_callV (pc' := 114) (y := (⟨"com/example/larder/larder/cache/EvictedKeys", "remember", "(I)V"⟩ : MethodName)) (W := 0) (rm := own_room6_4_1) (argsL := [(.int p2)]) (rest := []) (b := a368) (C := "com/example/larder/larder/cache/EvictedKeys") X403 hx hZ rfl hown (by rw [hml]; rfl) f408 (own_w28 hw) (own_w29 hw) (own_w31 hw) (own_w30 hw) (own_w2 hw) (own_w32 hw) (by decide) (own_rm6_4_1 lch Z a0 hw [] a368 p2 b403 bk403 l406 T403.heap n0 f408 G403_1 G403_2 G403_3 ge369 G403_4 hl407 ge404 ne405) (by decide) (by decide) (by decide) (by decide) (lenOf own_pd4 rfl) rfl (by exact Nat.le_of_eq rfl) (hb hby at_111) rfl ?_
        intro T409 Lc409 v409 X409 hQ409
        obtain ⟨rfl, Nq409, Kq409, G409_0, G409_1, G409_2, G409_3⟩ := hQ409
        have N409 := Fr.app N403 Nq409
        obtain ⟨l410, el410⟩ : ∃ z, z = (l406.set (own_ixm (7 : Int32) (own_spread p2)) (own_pack (own_spread p2) (2 : Int64))) := ⟨_, rfl⟩
        rw [← el410] at G409_3
        have hl411 : l410.length = 8 := by rw [el410, List.length_set]; exact hl407
        show own_Ends prg e below s _ _ _ T409 (mkF m 114 #[.val (.int p0), .val (.int p1), .val (.int p2), .val (.int p3), .val (.int p4), .val (.int (4 : Int32)), .val (.int (2 : Int32)), .val (.int ((own_ushr p0 (4 : Int32)) &&& (3 : Int32))), .val (.int (8 : Int32)), .val (.int q366), .val (.ref a368), .unset, .unset, .unset, .unset, .unset, .unset, .unset] [])
        refine own_iload (pc' := 116) X409 hx (hb hby at_114) rfl rfl ?_
        refine own_iconst (pc' := 117) (z := (3 : Int32)) X409 hx (hb hby at_116) rfl rfl ?_
        refine own_icmpYes (pc' := 126) X409 hx (hb hby at_117) (tlt (by decide)).1 (by decide) (by decide) ?_
        refine own_aload (pc' := 128) X409 hx (hb hby at_126) rfl rfl rfl ?_
        refine own_iload (pc' := 130) X409 hx (hb hby at_128) rfl rfl ?_
        have f413 := (f408.keep Kq409)
        refine own_callV (pc' := 133) (y := (⟨"com/example/larder/larder/cache/EvictedKeys", "recall", "(I)Z"⟩ : MethodName)) (W := 0) (rm := own_room4_8) (argsL := [(.int q366)]) (rest := []) (b := a368) (C := "com/example/larder/larder/cache/EvictedKeys") X409 hx hZ rfl hown (by rw [hml]; rfl) f413 (own_w16 hw) (own_w17 hw) (own_w19 hw) (own_w18 hw) (own_w2 hw) (own_w20 hw) (by decide) (own_rm4_8 lch Z a0 hw [] a368 q366 b403 bk403 l410 (2 : Int32) (4 : Int32) T409.heap n0 G409_0 G409_1 G409_2 G409_3 hl411 ge404 ne405) (by decide) (by decide) (by decide) (by decide) (lenOf own_pd3 rfl) rfl (by exact Nat.le_of_eq rfl) (hb hby at_130) rfl ?_
        intro T412 Lc412 v412 X412 hQ412
        obtain ⟨rfl, Nq412, Kq412, G412_0⟩ := hQ412
        have N412 := Fr.app N409 Nq412
        have hl414 : (own_rl l410 (7 : Int32) (own_spread q366)).length = 8 := (own_rllen _ _ _).trans hl411
        show own_Ends prg e below s _ _ _ T412 (mkF m 133 #[.val (.int p0), .val (.int p1), .val (.int p2), .val (.int p3), .val (.int p4), .val (.int (4 : Int32)), .val (.int (2 : Int32)), .val (.int ((own_ushr p0 (4 : Int32)) &&& (3 : Int32))), .val (.int (8 : Int32)), .val (.int q366), .val (.ref a368), .unset, .unset, .unset, .unset, .unset, .unset, .unset] [(.int (own_rv l410 (7 : Int32) (own_spread q366) (2 : Int32) (4 : Int32)))])
        refine own_istore (pc' := 135) (l' := #[.val (.int p0), .val (.int p1), .val (.int p2), .val (.int p3), .val (.int p4), .val (.int (4 : Int32)), .val (.int (2 : Int32)), .val (.int ((own_ushr p0 (4 : Int32)) &&& (3 : Int32))), .val (.int (8 : Int32)), .val (.int q366), .val (.ref a368), .val (.int (own_rv l410 (7 : Int32) (own_spread q366) (2 : Int32) (4 : Int32))), .unset, .unset, .unset, .unset, .unset, .unset]) X412 hx (hb hby at_133) rfl rfl ?_
        refine own_aload (pc' := 137) X412 hx (hb hby at_135) rfl rfl rfl ?_
        refine own_iload (pc' := 139) X412 hx (hb hby at_137) rfl rfl ?_
        have f415 := (G409_0.keep Kq412 (ninS ne405 nin0))
        have f416 := (G409_1.keep Kq412 (ninS ne405 nin0))
        have f417 := (G409_2.keep Kq412 (ninS ne405 nin0))
        have f419 := (f413.keep Kq412)
        refine own_callV (pc' := 142) (y := (⟨"com/example/larder/larder/cache/EvictedKeys", "recall", "(I)Z"⟩ : MethodName)) (W := 0) (rm := own_room4_8) (argsL := [(.int q366)]) (rest := []) (b := a368) (C := "com/example/larder/larder/cache/EvictedKeys") X412 hx hZ rfl hown (by rw [hml]; rfl) f419 (own_w16 hw) (own_w17 hw) (own_w19 hw) (own_w18 hw) (own_w2 hw) (own_w20 hw) (by decide) (own_rm4_8 lch Z a0 hw [] a368 q366 b403 bk403 (own_rl l410 (7 : Int32) (own_spread q366)) (2 : Int32) (4 : Int32) T412.heap n0 f415 f416 f417 G412_0 hl414 ge404 ne405) (by decide) (by decide) (by decide) (by decide) (lenOf own_pd3 rfl) rfl (by exact Nat.le_of_eq rfl) (hb hby at_139) rfl ?_
        intro T418 Lc418 v418 X418 hQ418
        obtain ⟨rfl, Nq418, Kq418, G418_0⟩ := hQ418
        have N418 := Fr.app N412 Nq418
        have hl420 : (own_rl (own_rl l410 (7 : Int32) (own_spread q366)) (7 : Int32) (own_spread q366)).length = 8 := (own_rllen _ _ _).trans hl414
        show own_Ends prg e below s _ _ _ T418 (mkF m 142 #[.val (.int p0), .val (.int p1), .val (.int p2), .val (.int p3), .val (.int p4), .val (.int (4 : Int32)), .val (.int (2 : Int32)), .val (.int ((own_ushr p0 (4 : Int32)) &&& (3 : Int32))), .val (.int (8 : Int32)), .val (.int q366), .val (.ref a368), .val (.int (own_rv l410 (7 : Int32) (own_spread q366) (2 : Int32) (4 : Int32))), .unset, .unset, .unset, .unset, .unset, .unset] [(.int (own_rv (own_rl l410 (7 : Int32) (own_spread q366)) (7 : Int32) (own_spread q366) (2 : Int32) (4 : Int32)))])
        refine own_istore (pc' := 144) (l' := #[.val (.int p0), .val (.int p1), .val (.int p2), .val (.int p3), .val (.int p4), .val (.int (4 : Int32)), .val (.int (2 : Int32)), .val (.int ((own_ushr p0 (4 : Int32)) &&& (3 : Int32))), .val (.int (8 : Int32)), .val (.int q366), .val (.ref a368), .val (.int (own_rv l410 (7 : Int32) (own_spread q366) (2 : Int32) (4 : Int32))), .val (.int (own_rv (own_rl l410 (7 : Int32) (own_spread q366)) (7 : Int32) (own_spread q366) (2 : Int32) (4 : Int32))), .unset, .unset, .unset, .unset, .unset]) X418 hx (hb hby at_142) rfl rfl ?_
        refine own_iload (pc' := 146) X418 hx (hb hby at_144) rfl rfl ?_
        refine own_iconst (pc' := 147) (z := (1 : Int32)) X418 hx (hb hby at_146) rfl rfl ?_
        refine own_isub (pc' := 148) (z := (7 : Int32)) X418 hx (hb hby at_147) rfl (by decide) ?_
        refine own_istore (pc' := 150) (l' := #[.val (.int p0), .val (.int p1), .val (.int p2), .val (.int p3), .val (.int p4), .val (.int (4 : Int32)), .val (.int (2 : Int32)), .val (.int ((own_ushr p0 (4 : Int32)) &&& (3 : Int32))), .val (.int (8 : Int32)), .val (.int q366), .val (.ref a368), .val (.int (own_rv l410 (7 : Int32) (own_spread q366) (2 : Int32) (4 : Int32))), .val (.int (own_rv (own_rl l410 (7 : Int32) (own_spread q366)) (7 : Int32) (own_spread q366) (2 : Int32) (4 : Int32))), .val (.int (7 : Int32)), .unset, .unset, .unset, .unset]) X418 hx (hb hby at_148) rfl rfl ?_
        refine own_iload (pc' := 152) X418 hx (hb hby at_150) rfl rfl ?_
        refine own_callS (pc' := 155) (y := (⟨"com/example/larder/larder/cache/UseCounts", "spread", "(I)I"⟩ : MethodName)) (W := 0) (rm := own_room5) (argsL := [(.int q366)]) (rest := []) X418 hx hZ rfl hown (by rw [hml]; rfl) (own_w23 hw) (own_w24 hw) (own_w25 hw) (own_w26 hw) (by decide) (own_rm5 lch Z a0 hw [] q366 T418.heap n0) (by decide) (by decide) (by decide) (by decide) (lenOf own_pd0 rfl) rfl (by exact Nat.le_of_eq rfl) (hb hby at_152) rfl ?_
        intro T421 Lc421 v421 X421 hQ421
        obtain ⟨rfl, Nq421, Kq421⟩ := hQ421
        have N421 := Fr.app N418 Nq421
        show own_Ends prg e below s _ _ _ T421 (mkF m 155 #[.val (.int p0), .val (.int p1), .val (.int p2), .val (.int p3), .val (.int p4), .val (.int (4 : Int32)), .val (.int (2 : Int32)), .val (.int ((own_ushr p0 (4 : Int32)) &&& (3 : Int32))), .val (.int (8 : Int32)), .val (.int q366), .val (.ref a368), .val (.int (own_rv l410 (7 : Int32) (own_spread q366) (2 : Int32) (4 : Int32))), .val (.int (own_rv (own_rl l410 (7 : Int32) (own_spread q366)) (7 : Int32) (own_spread q366) (2 : Int32) (4 : Int32))), .val (.int (7 : Int32)), .unset, .unset, .unset, .unset] [(.int (own_spread q366))])
        refine own_iload (pc' := 157) X421 hx (hb hby at_155) rfl rfl ?_
        refine own_iand (pc' := 158) (z := ((own_spread q366) &&& (7 : Int32))) X421 hx (hb hby at_157) rfl rfl ?_
        refine own_istore (pc' := 160) (l' := #[.val (.int p0), .val (.int p1), .val (.int p2), .val (.int p3), .val (.int p4), .val (.int (4 : Int32)), .val (.int (2 : Int32)), .val (.int ((own_ushr p0 (4 : Int32)) &&& (3 : Int32))), .val (.int (8 : Int32)), .val (.int q366), .val (.ref a368), .val (.int (own_rv l410 (7 : Int32) (own_spread q366) (2 : Int32) (4 : Int32))), .val (.int (own_rv (own_rl l410 (7 : Int32) (own_spread q366)) (7 : Int32) (own_spread q366) (2 : Int32) (4 : Int32))), .val (.int (7 : Int32)), .val (.int ((own_spread q366) &&& (7 : Int32))), .unset, .unset, .unset]) X421 hx (hb hby at_158) rfl rfl ?_
        refine own_iconst (pc' := 161) (z := (0 : Int32)) X421 hx (hb hby at_160) rfl rfl ?_
        refine own_istore (pc' := 163) (l' := #[.val (.int p0), .val (.int p1), .val (.int p2), .val (.int p3), .val (.int p4), .val (.int (4 : Int32)), .val (.int (2 : Int32)), .val (.int ((own_ushr p0 (4 : Int32)) &&& (3 : Int32))), .val (.int (8 : Int32)), .val (.int q366), .val (.ref a368), .val (.int (own_rv l410 (7 : Int32) (own_spread q366) (2 : Int32) (4 : Int32))), .val (.int (own_rv (own_rl l410 (7 : Int32) (own_spread q366)) (7 : Int32) (own_spread q366) (2 : Int32) (4 : Int32))), .val (.int (7 : Int32)), .val (.int ((own_spread q366) &&& (7 : Int32))), .val (.int (0 : Int32)), .unset, .unset]) X421 hx (hb hby at_161) rfl rfl ?_
        refine own_iload (pc' := 165) X421 hx (hb hby at_163) rfl rfl ?_
        refine own_iconst (pc' := 166) (z := (3 : Int32)) X421 hx (hb hby at_165) rfl rfl ?_
        refine own_icmpYes (pc' := 187) X421 hx (hb hby at_166) (tlt (by decide)).1 (by decide) (by decide) ?_
        refine own_iload (pc' := 189) X421 hx (hb hby at_187) rfl rfl ?_
        refine own_iconst (pc' := 190) (z := (2 : Int32)) X421 hx (hb hby at_189) rfl rfl ?_
        refine own_icmpNo (pc' := 193) X421 hx (hb hby at_190) rfl (flt (by decide)).1 ?_
        refine own_iloadN (pc' := 194) X421 hx (hb hby at_193) rfl rfl ?_
        refine own_callS (pc' := 197) (y := (⟨"com/example/larder/larder/cache/UseCounts", "spread", "(I)I"⟩ : MethodName)) (W := 0) (rm := own_room5) (argsL := [(.int p2)]) (rest := []) X421 hx hZ Kq421 hown (by rw [hml]; rfl) (own_w23 hw) (own_w24 hw) (own_w25 hw) (own_w26 hw) (by decide) (own_rm5 lch Z a0 hw [] p2 T418.heap n0) (by decide) (by decide) (by decide) (by decide) (lenOf own_pd0 rfl) rfl (by exact Nat.le_of_eq rfl) (hb hby at_194) rfl ?_
        intro T422 Lc422 v422 X422 hQ422
        obtain ⟨rfl, Nq422, Kq422⟩ := hQ422
        have N422 := Fr.app N421 Nq422
        show own_Ends prg e below s _ _ _ T422 (mkF m 197 #[.val (.int p0), .val (.int p1), .val (.int p2), .val (.int p3), .val (.int p4), .val (.int (4 : Int32)), .val (.int (2 : Int32)), .val (.int ((own_ushr p0 (4 : Int32)) &&& (3 : Int32))), .val (.int (8 : Int32)), .val (.int q366), .val (.ref a368), .val (.int (own_rv l410 (7 : Int32) (own_spread q366) (2 : Int32) (4 : Int32))), .val (.int (own_rv (own_rl l410 (7 : Int32) (own_spread q366)) (7 : Int32) (own_spread q366) (2 : Int32) (4 : Int32))), .val (.int (7 : Int32)), .val (.int ((own_spread q366) &&& (7 : Int32))), .val (.int (0 : Int32)), .unset, .unset] [(.int (own_spread p2))])
        refine own_iload (pc' := 199) X422 hx (hb hby at_197) rfl rfl ?_
        refine own_iand (pc' := 200) (z := ((own_spread p2) &&& (7 : Int32))) X422 hx (hb hby at_199) rfl rfl ?_
        refine own_iload (pc' := 202) X422 hx (hb hby at_200) rfl rfl ?_
        by_cases hc202_423 : ((own_spread p2) &&& (7 : Int32)) = ((own_spread q366) &&& (7 : Int32))
        · refine own_icmpNo (pc' := 205) X422 hx (hb hby at_202) rfl (teq hc202_423).2 ?_
          refine own_iconst (pc' := 206) (z := (2 : Int32)) X422 hx (hb hby at_205) rfl rfl ?_
          refine own_istore (pc' := 208) (l' := #[.val (.int p0), .val (.int p1), .val (.int p2), .val (.int p3), .val (.int p4), .val (.int (4 : Int32)), .val (.int (2 : Int32)), .val (.int ((own_ushr p0 (4 : Int32)) &&& (3 : Int32))), .val (.int (8 : Int32)), .val (.int q366), .val (.ref a368), .val (.int (own_rv l410 (7 : Int32) (own_spread q366) (2 : Int32) (4 : Int32))), .val (.int (own_rv (own_rl l410 (7 : Int32) (own_spread q366)) (7 : Int32) (own_spread q366) (2 : Int32) (4 : Int32))), .val (.int (7 : Int32)), .val (.int ((own_spread q366) &&& (7 : Int32))), .val (.int (2 : Int32)), .unset, .unset]) X422 hx (hb hby at_206) rfl rfl ?_
          refine own_goto (pc' := 232) X422 hx (hb hby at_208) (by decide) (by decide) ?_
          refine own_iload (pc' := 234) X422 hx (hb hby at_232) rfl rfl ?_
          refine own_iconst (pc' := 235) (z := (3 : Int32)) X422 hx (hb hby at_234) rfl rfl ?_
          refine own_icmpYes (pc' := 242) X422 hx (hb hby at_235) (feq (by decide)).2 (by decide) (by decide) ?_
          refine own_iload (pc' := 244) X422 hx (hb hby at_242) rfl rfl ?_
          refine own_iconst (pc' := 245) (z := (2 : Int32)) X422 hx (hb hby at_244) rfl rfl ?_
          refine own_icmpNo (pc' := 248) X422 hx (hb hby at_245) rfl (teq (by decide)).2 ?_
          refine own_iloadN (pc' := 249) X422 hx (hb hby at_248) rfl rfl ?_
          refine own_goto (pc' := 253) X422 hx (hb hby at_249) (by decide) (by decide) ?_
          refine own_istore (pc' := 255) (l' := #[.val (.int p0), .val (.int p1), .val (.int p2), .val (.int p3), .val (.int p4), .val (.int (4 : Int32)), .val (.int (2 : Int32)), .val (.int ((own_ushr p0 (4 : Int32)) &&& (3 : Int32))), .val (.int (8 : Int32)), .val (.int q366), .val (.ref a368), .val (.int (own_rv l410 (7 : Int32) (own_spread q366) (2 : Int32) (4 : Int32))), .val (.int (own_rv (own_rl l410 (7 : Int32) (own_spread q366)) (7 : Int32) (own_spread q366) (2 : Int32) (4 : Int32))), .val (.int (7 : Int32)), .val (.int ((own_spread q366) &&& (7 : Int32))), .val (.int (2 : Int32)), .val (.int p2), .unset]) X422 hx (hb hby at_253) rfl rfl ?_
          refine own_iload (pc' := 257) X422 hx (hb hby at_255) rfl rfl ?_
          refine own_ifNo (pc' := 260) X422 hx (hb hby at_257) rfl (feq (by decide)).1 ?_
          refine own_iload (pc' := 262) X422 hx (hb hby at_260) rfl rfl ?_
          refine own_iload (pc' := 264) X422 hx (hb hby at_262) rfl rfl ?_
          by_cases hc264_424 : p2 = q366
          · refine own_icmpNo (pc' := 267) X422 hx (hb hby at_264) rfl (teq hc264_424).2 ?_
            refine own_iload (pc' := 269) X422 hx (hb hby at_267) rfl rfl ?_
            refine own_iload (pc' := 271) X422 hx (hb hby at_269) rfl rfl ?_
            refine own_isub (pc' := 272) (z := (0 : Int32)) X422 hx (hb hby at_271) rfl (by decide) ?_
            refine own_iload (pc' := 274) X422 hx (hb hby at_272) rfl rfl ?_
            refine own_icmpNo (pc' := 277) X422 hx (hb hby at_274) rfl (tlt (by decide)).2.1 ?_
            refine own_iconst (pc' := 278) (z := (1 : Int32)) X422 hx (hb hby at_277) rfl rfl ?_
            refine own_goto (pc' := 282) X422 hx (hb hby at_278) (by decide) (by decide) ?_
            refine own_istore (pc' := 284) (l' := #[.val (.int p0), .val (.int p1), .val (.int p2), .val (.int p3), .val (.int p4), .val (.int (4 : Int32)), .val (.int (2 : Int32)), .val (.int ((own_ushr p0 (4 : Int32)) &&& (3 : Int32))), .val (.int (8 : Int32)), .val (.int q366), .val (.ref a368), .val (.int (own_rv l410 (7 : Int32) (own_spread q366) (2 : Int32) (4 : Int32))), .val (.int (own_rv (own_rl l410 (7 : Int32) (own_spread q366)) (7 : Int32) (own_spread q366) (2 : Int32) (4 : Int32))), .val (.int (7 : Int32)), .val (.int ((own_spread q366) &&& (7 : Int32))), .val (.int (2 : Int32)), .val (.int p2), .val (.int (1 : Int32))]) X422 hx (hb hby at_282) rfl rfl ?_
            refine own_iload (pc' := 286) X422 hx (hb hby at_284) rfl rfl ?_
            refine own_iload (pc' := 288) X422 hx (hb hby at_286) rfl rfl ?_
            have sl425 : own_slot l410 (7 : Int32) (own_spread q366) = own_pack (own_spread p2) (2 : Int64) := by
              rw [el410, el406]
              exact (own_slE (Or.inr (Or.inr ⟨rfl, rfl⟩)) (by simp) hc202_423)
            refine own_icmpNo (pc' := 291) X422 hx (hb hby at_288) rfl (teq ((own_hitv (i := 2) sl425 (by decide) (by decide)).trans ((if_pos hc264_424).trans (by decide)))).2 ?_
            refine own_iload (pc' := 293) X422 hx (hb hby at_291) rfl rfl ?_
            refine own_ifNo (pc' := 296) X422 hx (hb hby at_293) rfl (teq (own_second (Or.inr (Or.inr ⟨rfl, rfl⟩)) hl411)).2 ?_
            refine own_iconst (pc' := 297) (z := (1 : Int32)) X422 hx (hb hby at_296) rfl rfl ?_
            refine own_goto (pc' := 301) X422 hx (hb hby at_297) (by decide) (by decide) ?_
            refine own_retN X422 hx hlk hret (by simp) (hb hby at_301) (by decide) (by decide) ?_
            exact ⟨rfl, N422⟩
          · refine own_icmpYes (pc' := 281) X422 hx (hb hby at_264) (feq hc264_424).2 (by decide) (by decide) ?_
            refine own_iconst (pc' := 282) (z := (0 : Int32)) X422 hx (hb hby at_281) rfl rfl ?_
            refine own_istore (pc' := 284) (l' := #[.val (.int p0), .val (.int p1), .val (.int p2), .val (.int p3), .val (.int p4), .val (.int (4 : Int32)), .val (.int (2 : Int32)), .val (.int ((own_ushr p0 (4 : Int32)) &&& (3 : Int32))), .val (.int (8 : Int32)), .val (.int q366), .val (.ref a368), .val (.int (own_rv l410 (7 : Int32) (own_spread q366) (2 : Int32) (4 : Int32))), .val (.int (own_rv (own_rl l410 (7 : Int32) (own_spread q366)) (7 : Int32) (own_spread q366) (2 : Int32) (4 : Int32))), .val (.int (7 : Int32)), .val (.int ((own_spread q366) &&& (7 : Int32))), .val (.int (2 : Int32)), .val (.int p2), .val (.int (0 : Int32))]) X422 hx (hb hby at_282) rfl rfl ?_
            refine own_iload (pc' := 286) X422 hx (hb hby at_284) rfl rfl ?_
            refine own_iload (pc' := 288) X422 hx (hb hby at_286) rfl rfl ?_
            have sl426 : own_slot l410 (7 : Int32) (own_spread q366) = own_pack (own_spread p2) (2 : Int64) := by
              rw [el410, el406]
              exact (own_slE (Or.inr (Or.inr ⟨rfl, rfl⟩)) (by simp) hc202_423)
            refine own_icmpNo (pc' := 291) X422 hx (hb hby at_288) rfl (teq ((own_hitv (i := 2) sl426 (by decide) (by decide)).trans (if_neg hc264_424))).2 ?_
            refine own_iload (pc' := 293) X422 hx (hb hby at_291) rfl rfl ?_
            refine own_ifNo (pc' := 296) X422 hx (hb hby at_293) rfl (teq (own_second (Or.inr (Or.inr ⟨rfl, rfl⟩)) hl411)).2 ?_
            refine own_iconst (pc' := 297) (z := (1 : Int32)) X422 hx (hb hby at_296) rfl rfl ?_
            refine own_goto (pc' := 301) X422 hx (hb hby at_297) (by decide) (by decide) ?_
            refine own_retN X422 hx hlk hret (by simp) (hb hby at_301) (by decide) (by decide) ?_
            exact ⟨rfl, N422⟩
        · refine own_icmpYes (pc' := 211) X422 hx (hb hby at_202) (feq hc202_423).2 (by decide) (by decide) ?_
          refine own_iload (pc' := 213) X422 hx (hb hby at_211) rfl rfl ?_
          refine own_iconst (pc' := 214) (z := (1 : Int32)) X422 hx (hb hby at_213) rfl rfl ?_
          refine own_icmpNo (pc' := 217) X422 hx (hb hby at_214) rfl (flt (by decide)).1 ?_
          refine own_iloadN (pc' := 218) X422 hx (hb hby at_217) rfl rfl ?_
          refine own_callS (pc' := 221) (y := (⟨"com/example/larder/larder/cache/UseCounts", "spread", "(I)I"⟩ : MethodName)) (W := 0) (rm := own_room5) (argsL := [(.int p1)]) (rest := []) X422 hx hZ Kq422 hown (by rw [hml]; rfl) (own_w23 hw) (own_w24 hw) (own_w25 hw) (own_w26 hw) (by decide) (own_rm5 lch Z a0 hw [] p1 T418.heap n0) (by decide) (by decide) (by decide) (by decide) (lenOf own_pd0 rfl) rfl (by exact Nat.le_of_eq rfl) (hb hby at_218) rfl ?_
          intro T427 Lc427 v427 X427 hQ427
          obtain ⟨rfl, Nq427, Kq427⟩ := hQ427
          have N427 := Fr.app N422 Nq427
          show own_Ends prg e below s _ _ _ T427 (mkF m 221 #[.val (.int p0), .val (.int p1), .val (.int p2), .val (.int p3), .val (.int p4), .val (.int (4 : Int32)), .val (.int (2 : Int32)), .val (.int ((own_ushr p0 (4 : Int32)) &&& (3 : Int32))), .val (.int (8 : Int32)), .val (.int q366), .val (.ref a368), .val (.int (own_rv l410 (7 : Int32) (own_spread q366) (2 : Int32) (4 : Int32))), .val (.int (own_rv (own_rl l410 (7 : Int32) (own_spread q366)) (7 : Int32) (own_spread q366) (2 : Int32) (4 : Int32))), .val (.int (7 : Int32)), .val (.int ((own_spread q366) &&& (7 : Int32))), .val (.int (0 : Int32)), .unset, .unset] [(.int (own_spread p1))])
          refine own_iload (pc' := 223) X427 hx (hb hby at_221) rfl rfl ?_
          refine own_iand (pc' := 224) (z := ((own_spread p1) &&& (7 : Int32))) X427 hx (hb hby at_223) rfl rfl ?_
          refine own_iload (pc' := 226) X427 hx (hb hby at_224) rfl rfl ?_
          by_cases hc226_428 : ((own_spread p1) &&& (7 : Int32)) = ((own_spread q366) &&& (7 : Int32))
          · refine own_icmpNo (pc' := 229) X427 hx (hb hby at_226) rfl (teq hc226_428).2 ?_
            refine own_iconst (pc' := 230) (z := (1 : Int32)) X427 hx (hb hby at_229) rfl rfl ?_
            refine own_istore (pc' := 232) (l' := #[.val (.int p0), .val (.int p1), .val (.int p2), .val (.int p3), .val (.int p4), .val (.int (4 : Int32)), .val (.int (2 : Int32)), .val (.int ((own_ushr p0 (4 : Int32)) &&& (3 : Int32))), .val (.int (8 : Int32)), .val (.int q366), .val (.ref a368), .val (.int (own_rv l410 (7 : Int32) (own_spread q366) (2 : Int32) (4 : Int32))), .val (.int (own_rv (own_rl l410 (7 : Int32) (own_spread q366)) (7 : Int32) (own_spread q366) (2 : Int32) (4 : Int32))), .val (.int (7 : Int32)), .val (.int ((own_spread q366) &&& (7 : Int32))), .val (.int (1 : Int32)), .unset, .unset]) X427 hx (hb hby at_230) rfl rfl ?_
            refine own_iload (pc' := 234) X427 hx (hb hby at_232) rfl rfl ?_
            refine own_iconst (pc' := 235) (z := (3 : Int32)) X427 hx (hb hby at_234) rfl rfl ?_
            refine own_icmpYes (pc' := 242) X427 hx (hb hby at_235) (feq (by decide)).2 (by decide) (by decide) ?_
            refine own_iload (pc' := 244) X427 hx (hb hby at_242) rfl rfl ?_
            refine own_iconst (pc' := 245) (z := (2 : Int32)) X427 hx (hb hby at_244) rfl rfl ?_
            refine own_icmpYes (pc' := 252) X427 hx (hb hby at_245) (feq (by decide)).2 (by decide) (by decide) ?_
            refine own_iloadN (pc' := 253) X427 hx (hb hby at_252) rfl rfl ?_
            refine own_istore (pc' := 255) (l' := #[.val (.int p0), .val (.int p1), .val (.int p2), .val (.int p3), .val (.int p4), .val (.int (4 : Int32)), .val (.int (2 : Int32)), .val (.int ((own_ushr p0 (4 : Int32)) &&& (3 : Int32))), .val (.int (8 : Int32)), .val (.int q366), .val (.ref a368), .val (.int (own_rv l410 (7 : Int32) (own_spread q366) (2 : Int32) (4 : Int32))), .val (.int (own_rv (own_rl l410 (7 : Int32) (own_spread q366)) (7 : Int32) (own_spread q366) (2 : Int32) (4 : Int32))), .val (.int (7 : Int32)), .val (.int ((own_spread q366) &&& (7 : Int32))), .val (.int (1 : Int32)), .val (.int p1), .unset]) X427 hx (hb hby at_253) rfl rfl ?_
            refine own_iload (pc' := 257) X427 hx (hb hby at_255) rfl rfl ?_
            refine own_ifNo (pc' := 260) X427 hx (hb hby at_257) rfl (feq (by decide)).1 ?_
            refine own_iload (pc' := 262) X427 hx (hb hby at_260) rfl rfl ?_
            refine own_iload (pc' := 264) X427 hx (hb hby at_262) rfl rfl ?_
            by_cases hc264_429 : p1 = q366
            · refine own_icmpNo (pc' := 267) X427 hx (hb hby at_264) rfl (teq hc264_429).2 ?_
              refine own_iload (pc' := 269) X427 hx (hb hby at_267) rfl rfl ?_
              refine own_iload (pc' := 271) X427 hx (hb hby at_269) rfl rfl ?_
              refine own_isub (pc' := 272) (z := (1 : Int32)) X427 hx (hb hby at_271) rfl (by decide) ?_
              refine own_iload (pc' := 274) X427 hx (hb hby at_272) rfl rfl ?_
              refine own_icmpNo (pc' := 277) X427 hx (hb hby at_274) rfl (tlt (by decide)).2.1 ?_
              refine own_iconst (pc' := 278) (z := (1 : Int32)) X427 hx (hb hby at_277) rfl rfl ?_
              refine own_goto (pc' := 282) X427 hx (hb hby at_278) (by decide) (by decide) ?_
              refine own_istore (pc' := 284) (l' := #[.val (.int p0), .val (.int p1), .val (.int p2), .val (.int p3), .val (.int p4), .val (.int (4 : Int32)), .val (.int (2 : Int32)), .val (.int ((own_ushr p0 (4 : Int32)) &&& (3 : Int32))), .val (.int (8 : Int32)), .val (.int q366), .val (.ref a368), .val (.int (own_rv l410 (7 : Int32) (own_spread q366) (2 : Int32) (4 : Int32))), .val (.int (own_rv (own_rl l410 (7 : Int32) (own_spread q366)) (7 : Int32) (own_spread q366) (2 : Int32) (4 : Int32))), .val (.int (7 : Int32)), .val (.int ((own_spread q366) &&& (7 : Int32))), .val (.int (1 : Int32)), .val (.int p1), .val (.int (1 : Int32))]) X427 hx (hb hby at_282) rfl rfl ?_
              refine own_iload (pc' := 286) X427 hx (hb hby at_284) rfl rfl ?_
              refine own_iload (pc' := 288) X427 hx (hb hby at_286) rfl rfl ?_
              have sl430 : own_slot l410 (7 : Int32) (own_spread q366) = own_pack (own_spread p1) (1 : Int64) := by
                rw [el410, el406]
                exact ((own_slN (Or.inr (Or.inr ⟨rfl, rfl⟩)) (by simp) hc202_423).trans (own_slE (Or.inr (Or.inr ⟨rfl, rfl⟩)) (List.length_replicate) hc226_428))
              refine own_icmpNo (pc' := 291) X427 hx (hb hby at_288) rfl (teq ((own_hitv (i := 1) sl430 (by decide) (by decide)).trans ((if_pos hc264_429).trans (by decide)))).2 ?_
              refine own_iload (pc' := 293) X427 hx (hb hby at_291) rfl rfl ?_
              refine own_ifNo (pc' := 296) X427 hx (hb hby at_293) rfl (teq (own_second (Or.inr (Or.inr ⟨rfl, rfl⟩)) hl411)).2 ?_
              refine own_iconst (pc' := 297) (z := (1 : Int32)) X427 hx (hb hby at_296) rfl rfl ?_
              refine own_goto (pc' := 301) X427 hx (hb hby at_297) (by decide) (by decide) ?_
              refine own_retN X427 hx hlk hret (by simp) (hb hby at_301) (by decide) (by decide) ?_
              exact ⟨rfl, N427⟩
            · refine own_icmpYes (pc' := 281) X427 hx (hb hby at_264) (feq hc264_429).2 (by decide) (by decide) ?_
              refine own_iconst (pc' := 282) (z := (0 : Int32)) X427 hx (hb hby at_281) rfl rfl ?_
              refine own_istore (pc' := 284) (l' := #[.val (.int p0), .val (.int p1), .val (.int p2), .val (.int p3), .val (.int p4), .val (.int (4 : Int32)), .val (.int (2 : Int32)), .val (.int ((own_ushr p0 (4 : Int32)) &&& (3 : Int32))), .val (.int (8 : Int32)), .val (.int q366), .val (.ref a368), .val (.int (own_rv l410 (7 : Int32) (own_spread q366) (2 : Int32) (4 : Int32))), .val (.int (own_rv (own_rl l410 (7 : Int32) (own_spread q366)) (7 : Int32) (own_spread q366) (2 : Int32) (4 : Int32))), .val (.int (7 : Int32)), .val (.int ((own_spread q366) &&& (7 : Int32))), .val (.int (1 : Int32)), .val (.int p1), .val (.int (0 : Int32))]) X427 hx (hb hby at_282) rfl rfl ?_
              refine own_iload (pc' := 286) X427 hx (hb hby at_284) rfl rfl ?_
              refine own_iload (pc' := 288) X427 hx (hb hby at_286) rfl rfl ?_
              have sl431 : own_slot l410 (7 : Int32) (own_spread q366) = own_pack (own_spread p1) (1 : Int64) := by
                rw [el410, el406]
                exact ((own_slN (Or.inr (Or.inr ⟨rfl, rfl⟩)) (by simp) hc202_423).trans (own_slE (Or.inr (Or.inr ⟨rfl, rfl⟩)) (List.length_replicate) hc226_428))
              refine own_icmpNo (pc' := 291) X427 hx (hb hby at_288) rfl (teq ((own_hitv (i := 1) sl431 (by decide) (by decide)).trans (if_neg hc264_429))).2 ?_
              refine own_iload (pc' := 293) X427 hx (hb hby at_291) rfl rfl ?_
              refine own_ifNo (pc' := 296) X427 hx (hb hby at_293) rfl (teq (own_second (Or.inr (Or.inr ⟨rfl, rfl⟩)) hl411)).2 ?_
              refine own_iconst (pc' := 297) (z := (1 : Int32)) X427 hx (hb hby at_296) rfl rfl ?_
              refine own_goto (pc' := 301) X427 hx (hb hby at_297) (by decide) (by decide) ?_
              refine own_retN X427 hx hlk hret (by simp) (hb hby at_301) (by decide) (by decide) ?_
              exact ⟨rfl, N427⟩
          · refine own_icmpYes (pc' := 232) X427 hx (hb hby at_226) (feq hc226_428).2 (by decide) (by decide) ?_
            refine own_iload (pc' := 234) X427 hx (hb hby at_232) rfl rfl ?_
            refine own_iconst (pc' := 235) (z := (3 : Int32)) X427 hx (hb hby at_234) rfl rfl ?_
            refine own_icmpYes (pc' := 242) X427 hx (hb hby at_235) (feq (by decide)).2 (by decide) (by decide) ?_
            refine own_iload (pc' := 244) X427 hx (hb hby at_242) rfl rfl ?_
            refine own_iconst (pc' := 245) (z := (2 : Int32)) X427 hx (hb hby at_244) rfl rfl ?_
            refine own_icmpYes (pc' := 252) X427 hx (hb hby at_245) (feq (by decide)).2 (by decide) (by decide) ?_
            refine own_iloadN (pc' := 253) X427 hx (hb hby at_252) rfl rfl ?_
            refine own_istore (pc' := 255) (l' := #[.val (.int p0), .val (.int p1), .val (.int p2), .val (.int p3), .val (.int p4), .val (.int (4 : Int32)), .val (.int (2 : Int32)), .val (.int ((own_ushr p0 (4 : Int32)) &&& (3 : Int32))), .val (.int (8 : Int32)), .val (.int q366), .val (.ref a368), .val (.int (own_rv l410 (7 : Int32) (own_spread q366) (2 : Int32) (4 : Int32))), .val (.int (own_rv (own_rl l410 (7 : Int32) (own_spread q366)) (7 : Int32) (own_spread q366) (2 : Int32) (4 : Int32))), .val (.int (7 : Int32)), .val (.int ((own_spread q366) &&& (7 : Int32))), .val (.int (0 : Int32)), .val (.int p1), .unset]) X427 hx (hb hby at_253) rfl rfl ?_
            refine own_iload (pc' := 257) X427 hx (hb hby at_255) rfl rfl ?_
            refine own_ifYes (pc' := 281) X427 hx (hb hby at_257) (teq (by decide)).1 (by decide) (by decide) ?_
            refine own_iconst (pc' := 282) (z := (0 : Int32)) X427 hx (hb hby at_281) rfl rfl ?_
            refine own_istore (pc' := 284) (l' := #[.val (.int p0), .val (.int p1), .val (.int p2), .val (.int p3), .val (.int p4), .val (.int (4 : Int32)), .val (.int (2 : Int32)), .val (.int ((own_ushr p0 (4 : Int32)) &&& (3 : Int32))), .val (.int (8 : Int32)), .val (.int q366), .val (.ref a368), .val (.int (own_rv l410 (7 : Int32) (own_spread q366) (2 : Int32) (4 : Int32))), .val (.int (own_rv (own_rl l410 (7 : Int32) (own_spread q366)) (7 : Int32) (own_spread q366) (2 : Int32) (4 : Int32))), .val (.int (7 : Int32)), .val (.int ((own_spread q366) &&& (7 : Int32))), .val (.int (0 : Int32)), .val (.int p1), .val (.int (0 : Int32))]) X427 hx (hb hby at_282) rfl rfl ?_
            refine own_iload (pc' := 286) X427 hx (hb hby at_284) rfl rfl ?_
            refine own_iload (pc' := 288) X427 hx (hb hby at_286) rfl rfl ?_
            have sl432 : own_slot l410 (7 : Int32) (own_spread q366) = 0 := by
              rw [el410, el406]
              exact ((own_slN (Or.inr (Or.inr ⟨rfl, rfl⟩)) (by simp) hc202_423).trans ((own_slN (Or.inr (Or.inr ⟨rfl, rfl⟩)) (List.length_replicate) hc226_428).trans (own_sl0 _ _ _)))
            refine own_icmpNo (pc' := 291) X427 hx (hb hby at_288) rfl (teq (own_miss sl432)).2 ?_
            refine own_iload (pc' := 293) X427 hx (hb hby at_291) rfl rfl ?_
            refine own_ifNo (pc' := 296) X427 hx (hb hby at_293) rfl (teq (own_second (Or.inr (Or.inr ⟨rfl, rfl⟩)) hl411)).2 ?_
            refine own_iconst (pc' := 297) (z := (1 : Int32)) X427 hx (hb hby at_296) rfl rfl ?_
            refine own_goto (pc' := 301) X427 hx (hb hby at_297) (by decide) (by decide) ?_
            refine own_retN X427 hx hlk hret (by simp) (hb hby at_301) (by decide) (by decide) ?_
            exact ⟨rfl, N427⟩
      · refine own_iload (pc' := 92) X373 hx (hb hby at_90) rfl rfl ?_
        refine own_iconst (pc' := 93) (z := (1 : Int32)) X373 hx (hb hby at_92) rfl rfl ?_
        refine own_icmpNo (pc' := 96) X373 hx (hb hby at_93) rfl (flt (by decide)).1 ?_
        refine own_aload (pc' := 98) X373 hx (hb hby at_96) rfl rfl rfl ?_
        refine own_iloadN (pc' := 99) X373 hx (hb hby at_98) rfl rfl ?_
        have f433 := (A368.keep Kq373)
        have f434 := (Nat.le_trans (Nat.le_trans Z0 E368.1) Kq373.1)
        refine own_callV (pc' := 102) (y := (⟨"com/example/larder/larder/cache/EvictedKeys", "remember", "(I)V"⟩ : MethodName)) (W := 0) (rm := own_room6_4_0) (argsL := [(.int p1)]) (rest := []) (b := a368) (C := "com/example/larder/larder/cache/EvictedKeys") X373 hx hZ rfl hown (by rw [hml]; rfl) f433 (own_w28 hw) (own_w29 hw) (own_w31 hw) (own_w30 hw) (own_w2 hw) (own_w32 hw) (by decide) (own_rm6_4_0 lch Z a0 hw [] a368 p1 T373.heap n0 f434 f433 G373_0 G373_1 G373_2 ge369) (by decide) (by decide) (by decide) (by decide) (lenOf own_pd4 rfl) rfl (by exact Nat.le_of_eq rfl) (hb hby at_99) rfl ?_
        intro T435 Lc435 v435 X435 hQ435
        obtain ⟨b435, bk435, rfl, Nq435, Kq435, G435_0, G435_1, G435_2, G435_3, G435_4⟩ := hQ435
        have N435 := Fr.app N373 Nq435
        have ge436 : n0 ≤ b435 := Nat.le_trans f434 G435_0
        have ne437 : a368 ≠ b435 := Nat.ne_of_lt (Nat.lt_of_lt_of_le f433.lt G435_0)
        obtain ⟨l438, el438⟩ : ∃ z, z = ((List.replicate 8 (0 : Int64)).set (own_ixm (7 : Int32) (own_spread p1)) (own_pack (own_spread p1) (1 : Int64))) := ⟨_, rfl⟩
        rw [← el438] at G435_4
        have hl439 : l438.length = 8 := by rw [el438, List.length_set]; rfl
        show own_Ends prg e below s _ _ _ T435 (mkF m 102 #[.val (.int p0), .val (.int p1), .val (.int p2), .val (.int p3), .val (.int p4), .val (.int (4 : Int32)), .val (.int (3 : Int32)), .val (.int ((own_ushr p0 (4 : Int32)) &&& (3 : Int32))), .val (.int (8 : Int32)), .val (.int q366), .val (.ref a368), .unset, .unset, .unset, .unset, .unset, .unset, .unset] [])
        refine own_iload (pc' := 104) X435 hx (hb hby at_102) rfl rfl ?_
        refine own_iconst (pc' := 105) (z := (2 : Int32)) X435 hx (hb hby at_104) rfl rfl ?_
        refine own_icmpNo (pc' := 108) X435 hx (hb hby at_105) rfl (flt (by decide)).1 ?_
        refine own_aload (pc' := 110) X435 hx (hb hby at_108) rfl rfl rfl ?_
        refine own_iloadN (pc' := 111) X435 hx (hb hby at_110) rfl rfl ?_
        have f440 := (f433.keep Kq435)
        refine own_callV (pc' := 114) (y := (⟨"com/example/larder/larder/cache/EvictedKeys", "remember", "(I)V"⟩ : MethodName)) (W := 0) (rm := own_room6_4_1) (argsL := [(.int p2)]) (rest := []) (b := a368) (C := "com/example/larder/larder/cache/EvictedKeys") X435 hx hZ rfl hown (by rw [hml]; rfl) f440 (own_w28 hw) (own_w29 hw) (own_w31 hw) (own_w30 hw) (own_w2 hw) (own_w32 hw) (by decide) (own_rm6_4_1 lch Z a0 hw [] a368 p2 b435 bk435 l438 T435.heap n0 f440 G435_1 G435_2 G435_3 ge369 G435_4 hl439 ge436 ne437) (by decide) (by decide) (by decide) (by decide) (lenOf own_pd4 rfl) rfl (by exact Nat.le_of_eq rfl) (hb hby at_111) rfl ?_
        intro T441 Lc441 v441 X441 hQ441
        obtain ⟨rfl, Nq441, Kq441, G441_0, G441_1, G441_2, G441_3⟩ := hQ441
        have N441 := Fr.app N435 Nq441
        obtain ⟨l442, el442⟩ : ∃ z, z = (l438.set (own_ixm (7 : Int32) (own_spread p2)) (own_pack (own_spread p2) (2 : Int64))) := ⟨_, rfl⟩
        rw [← el442] at G441_3
        have hl443 : l442.length = 8 := by rw [el442, List.length_set]; exact hl439
        show own_Ends prg e below s _ _ _ T441 (mkF m 114 #[.val (.int p0), .val (.int p1), .val (.int p2), .val (.int p3), .val (.int p4), .val (.int (4 : Int32)), .val (.int (3 : Int32)), .val (.int ((own_ushr p0 (4 : Int32)) &&& (3 : Int32))), .val (.int (8 : Int32)), .val (.int q366), .val (.ref a368), .unset, .unset, .unset, .unset, .unset, .unset, .unset] [])
        refine own_iload (pc' := 116) X441 hx (hb hby at_114) rfl rfl ?_
        refine own_iconst (pc' := 117) (z := (3 : Int32)) X441 hx (hb hby at_116) rfl rfl ?_
        refine own_icmpNo (pc' := 120) X441 hx (hb hby at_117) rfl (flt (by decide)).1 ?_
        refine own_aload (pc' := 122) X441 hx (hb hby at_120) rfl rfl rfl ?_
        refine own_iloadN (pc' := 123) X441 hx (hb hby at_122) rfl rfl ?_
        have f444 := (f440.keep Kq441)
        refine own_callV (pc' := 126) (y := (⟨"com/example/larder/larder/cache/EvictedKeys", "remember", "(I)V"⟩ : MethodName)) (W := 0) (rm := own_room6_4_2) (argsL := [(.int p3)]) (rest := []) (b := a368) (C := "com/example/larder/larder/cache/EvictedKeys") X441 hx hZ rfl hown (by rw [hml]; rfl) f444 (own_w28 hw) (own_w29 hw) (own_w31 hw) (own_w30 hw) (own_w2 hw) (own_w32 hw) (by decide) (own_rm6_4_2 lch Z a0 hw [] a368 p3 b435 bk435 l442 T441.heap n0 f444 G441_0 G441_1 G441_2 ge369 G441_3 hl443 ge436 ne437) (by decide) (by decide) (by decide) (by decide) (lenOf own_pd4 rfl) rfl (by exact Nat.le_of_eq rfl) (hb hby at_123) rfl ?_
        intro T445 Lc445 v445 X445 hQ445
        obtain ⟨rfl, Nq445, Kq445, G445_0, G445_1, G445_2, G445_3⟩ := hQ445
        have N445 := Fr.app N441 Nq445
        obtain ⟨l446, el446⟩ : ∃ z, z = (l442.set (own_ixm (7 : Int32) (own_spread p3)) (own_pack (own_spread p3) (3 : Int64))) := ⟨_, rfl⟩
        rw [← el446] at G445_3
        have hl447 : l446.length = 8 := by rw [el446, List.length_set]; exact hl443
        show own_Ends prg e below s _ _ _ T445 (mkF m 126 #[.val (.int p0), .val (.int p1), .val (.int p2), .val (.int p3), .val (.int p4), .val (.int (4 : Int32)), .val (.int (3 : Int32)), .val (.int ((own_ushr p0 (4 : Int32)) &&& (3 : Int32))), .val (.int (8 : Int32)), .val (.int q366), .val (.ref a368), .unset, .unset, .unset, .unset, .unset, .unset, .unset] [])
        refine own_aload (pc' := 128) X445 hx (hb hby at_126) rfl rfl rfl ?_
        refine own_iload (pc' := 130) X445 hx (hb hby at_128) rfl rfl ?_
        have f449 := (f444.keep Kq445)
        refine own_callV (pc' := 133) (y := (⟨"com/example/larder/larder/cache/EvictedKeys", "recall", "(I)Z"⟩ : MethodName)) (W := 0) (rm := own_room4_8) (argsL := [(.int q366)]) (rest := []) (b := a368) (C := "com/example/larder/larder/cache/EvictedKeys") X445 hx hZ rfl hown (by rw [hml]; rfl) f449 (own_w16 hw) (own_w17 hw) (own_w19 hw) (own_w18 hw) (own_w2 hw) (own_w20 hw) (by decide) (own_rm4_8 lch Z a0 hw [] a368 q366 b435 bk435 l446 (3 : Int32) (4 : Int32) T445.heap n0 G445_0 G445_1 G445_2 G445_3 hl447 ge436 ne437) (by decide) (by decide) (by decide) (by decide) (lenOf own_pd3 rfl) rfl (by exact Nat.le_of_eq rfl) (hb hby at_130) rfl ?_
        intro T448 Lc448 v448 X448 hQ448
        obtain ⟨rfl, Nq448, Kq448, G448_0⟩ := hQ448
        have N448 := Fr.app N445 Nq448
        have hl450 : (own_rl l446 (7 : Int32) (own_spread q366)).length = 8 := (own_rllen _ _ _).trans hl447
        show own_Ends prg e below s _ _ _ T448 (mkF m 133 #[.val (.int p0), .val (.int p1), .val (.int p2), .val (.int p3), .val (.int p4), .val (.int (4 : Int32)), .val (.int (3 : Int32)), .val (.int ((own_ushr p0 (4 : Int32)) &&& (3 : Int32))), .val (.int (8 : Int32)), .val (.int q366), .val (.ref a368), .unset, .unset, .unset, .unset, .unset, .unset, .unset] [(.int (own_rv l446 (7 : Int32) (own_spread q366) (3 : Int32) (4 : Int32)))])
        refine own_istore (pc' := 135) (l' := #[.val (.int p0), .val (.int p1), .val (.int p2), .val (.int p3), .val (.int p4), .val (.int (4 : Int32)), .val (.int (3 : Int32)), .val (.int ((own_ushr p0 (4 : Int32)) &&& (3 : Int32))), .val (.int (8 : Int32)), .val (.int q366), .val (.ref a368), .val (.int (own_rv l446 (7 : Int32) (own_spread q366) (3 : Int32) (4 : Int32))), .unset, .unset, .unset, .unset, .unset, .unset]) X448 hx (hb hby at_133) rfl rfl ?_
        refine own_aload (pc' := 137) X448 hx (hb hby at_135) rfl rfl rfl ?_
        refine own_iload (pc' := 139) X448 hx (hb hby at_137) rfl rfl ?_
        have f451 := (G445_0.keep Kq448 (ninS ne437 nin0))
        have f452 := (G445_1.keep Kq448 (ninS ne437 nin0))
        have f453 := (G445_2.keep Kq448 (ninS ne437 nin0))
        have f455 := (f449.keep Kq448)
        refine own_callV (pc' := 142) (y := (⟨"com/example/larder/larder/cache/EvictedKeys", "recall", "(I)Z"⟩ : MethodName)) (W := 0) (rm := own_room4_8) (argsL := [(.int q366)]) (rest := []) (b := a368) (C := "com/example/larder/larder/cache/EvictedKeys") X448 hx hZ rfl hown (by rw [hml]; rfl) f455 (own_w16 hw) (own_w17 hw) (own_w19 hw) (own_w18 hw) (own_w2 hw) (own_w20 hw) (by decide) (own_rm4_8 lch Z a0 hw [] a368 q366 b435 bk435 (own_rl l446 (7 : Int32) (own_spread q366)) (3 : Int32) (4 : Int32) T448.heap n0 f451 f452 f453 G448_0 hl450 ge436 ne437) (by decide) (by decide) (by decide) (by decide) (lenOf own_pd3 rfl) rfl (by exact Nat.le_of_eq rfl) (hb hby at_139) rfl ?_
        intro T454 Lc454 v454 X454 hQ454
        obtain ⟨rfl, Nq454, Kq454, G454_0⟩ := hQ454
        have N454 := Fr.app N448 Nq454
        have hl456 : (own_rl (own_rl l446 (7 : Int32) (own_spread q366)) (7 : Int32) (own_spread q366)).length = 8 := (own_rllen _ _ _).trans hl450
        show own_Ends prg e below s _ _ _ T454 (mkF m 142 #[.val (.int p0), .val (.int p1), .val (.int p2), .val (.int p3), .val (.int p4), .val (.int (4 : Int32)), .val (.int (3 : Int32)), .val (.int ((own_ushr p0 (4 : Int32)) &&& (3 : Int32))), .val (.int (8 : Int32)), .val (.int q366), .val (.ref a368), .val (.int (own_rv l446 (7 : Int32) (own_spread q366) (3 : Int32) (4 : Int32))), .unset, .unset, .unset, .unset, .unset, .unset] [(.int (own_rv (own_rl l446 (7 : Int32) (own_spread q366)) (7 : Int32) (own_spread q366) (3 : Int32) (4 : Int32)))])
        refine own_istore (pc' := 144) (l' := #[.val (.int p0), .val (.int p1), .val (.int p2), .val (.int p3), .val (.int p4), .val (.int (4 : Int32)), .val (.int (3 : Int32)), .val (.int ((own_ushr p0 (4 : Int32)) &&& (3 : Int32))), .val (.int (8 : Int32)), .val (.int q366), .val (.ref a368), .val (.int (own_rv l446 (7 : Int32) (own_spread q366) (3 : Int32) (4 : Int32))), .val (.int (own_rv (own_rl l446 (7 : Int32) (own_spread q366)) (7 : Int32) (own_spread q366) (3 : Int32) (4 : Int32))), .unset, .unset, .unset, .unset, .unset]) X454 hx (hb hby at_142) rfl rfl ?_
        refine own_iload (pc' := 146) X454 hx (hb hby at_144) rfl rfl ?_
        refine own_iconst (pc' := 147) (z := (1 : Int32)) X454 hx (hb hby at_146) rfl rfl ?_
        refine own_isub (pc' := 148) (z := (7 : Int32)) X454 hx (hb hby at_147) rfl (by decide) ?_
        refine own_istore (pc' := 150) (l' := #[.val (.int p0), .val (.int p1), .val (.int p2), .val (.int p3), .val (.int p4), .val (.int (4 : Int32)), .val (.int (3 : Int32)), .val (.int ((own_ushr p0 (4 : Int32)) &&& (3 : Int32))), .val (.int (8 : Int32)), .val (.int q366), .val (.ref a368), .val (.int (own_rv l446 (7 : Int32) (own_spread q366) (3 : Int32) (4 : Int32))), .val (.int (own_rv (own_rl l446 (7 : Int32) (own_spread q366)) (7 : Int32) (own_spread q366) (3 : Int32) (4 : Int32))), .val (.int (7 : Int32)), .unset, .unset, .unset, .unset]) X454 hx (hb hby at_148) rfl rfl ?_
        refine own_iload (pc' := 152) X454 hx (hb hby at_150) rfl rfl ?_
        refine own_callS (pc' := 155) (y := (⟨"com/example/larder/larder/cache/UseCounts", "spread", "(I)I"⟩ : MethodName)) (W := 0) (rm := own_room5) (argsL := [(.int q366)]) (rest := []) X454 hx hZ rfl hown (by rw [hml]; rfl) (own_w23 hw) (own_w24 hw) (own_w25 hw) (own_w26 hw) (by decide) (own_rm5 lch Z a0 hw [] q366 T454.heap n0) (by decide) (by decide) (by decide) (by decide) (lenOf own_pd0 rfl) rfl (by exact Nat.le_of_eq rfl) (hb hby at_152) rfl ?_
        intro T457 Lc457 v457 X457 hQ457
        obtain ⟨rfl, Nq457, Kq457⟩ := hQ457
        have N457 := Fr.app N454 Nq457
        show own_Ends prg e below s _ _ _ T457 (mkF m 155 #[.val (.int p0), .val (.int p1), .val (.int p2), .val (.int p3), .val (.int p4), .val (.int (4 : Int32)), .val (.int (3 : Int32)), .val (.int ((own_ushr p0 (4 : Int32)) &&& (3 : Int32))), .val (.int (8 : Int32)), .val (.int q366), .val (.ref a368), .val (.int (own_rv l446 (7 : Int32) (own_spread q366) (3 : Int32) (4 : Int32))), .val (.int (own_rv (own_rl l446 (7 : Int32) (own_spread q366)) (7 : Int32) (own_spread q366) (3 : Int32) (4 : Int32))), .val (.int (7 : Int32)), .unset, .unset, .unset, .unset] [(.int (own_spread q366))])
        refine own_iload (pc' := 157) X457 hx (hb hby at_155) rfl rfl ?_
        refine own_iand (pc' := 158) (z := ((own_spread q366) &&& (7 : Int32))) X457 hx (hb hby at_157) rfl rfl ?_
        refine own_istore (pc' := 160) (l' := #[.val (.int p0), .val (.int p1), .val (.int p2), .val (.int p3), .val (.int p4), .val (.int (4 : Int32)), .val (.int (3 : Int32)), .val (.int ((own_ushr p0 (4 : Int32)) &&& (3 : Int32))), .val (.int (8 : Int32)), .val (.int q366), .val (.ref a368), .val (.int (own_rv l446 (7 : Int32) (own_spread q366) (3 : Int32) (4 : Int32))), .val (.int (own_rv (own_rl l446 (7 : Int32) (own_spread q366)) (7 : Int32) (own_spread q366) (3 : Int32) (4 : Int32))), .val (.int (7 : Int32)), .val (.int ((own_spread q366) &&& (7 : Int32))), .unset, .unset, .unset]) X457 hx (hb hby at_158) rfl rfl ?_
        refine own_iconst (pc' := 161) (z := (0 : Int32)) X457 hx (hb hby at_160) rfl rfl ?_
        refine own_istore (pc' := 163) (l' := #[.val (.int p0), .val (.int p1), .val (.int p2), .val (.int p3), .val (.int p4), .val (.int (4 : Int32)), .val (.int (3 : Int32)), .val (.int ((own_ushr p0 (4 : Int32)) &&& (3 : Int32))), .val (.int (8 : Int32)), .val (.int q366), .val (.ref a368), .val (.int (own_rv l446 (7 : Int32) (own_spread q366) (3 : Int32) (4 : Int32))), .val (.int (own_rv (own_rl l446 (7 : Int32) (own_spread q366)) (7 : Int32) (own_spread q366) (3 : Int32) (4 : Int32))), .val (.int (7 : Int32)), .val (.int ((own_spread q366) &&& (7 : Int32))), .val (.int (0 : Int32)), .unset, .unset]) X457 hx (hb hby at_161) rfl rfl ?_
        refine own_iload (pc' := 165) X457 hx (hb hby at_163) rfl rfl ?_
        refine own_iconst (pc' := 166) (z := (3 : Int32)) X457 hx (hb hby at_165) rfl rfl ?_
        refine own_icmpNo (pc' := 169) X457 hx (hb hby at_166) rfl (flt (by decide)).1 ?_
        refine own_iloadN (pc' := 170) X457 hx (hb hby at_169) rfl rfl ?_
        refine own_callS (pc' := 173) (y := (⟨"com/example/larder/larder/cache/UseCounts", "spread", "(I)I"⟩ : MethodName)) (W := 0) (rm := own_room5) (argsL := [(.int p3)]) (rest := []) X457 hx hZ Kq457 hown (by rw [hml]; rfl) (own_w23 hw) (own_w24 hw) (own_w25 hw) (own_w26 hw) (by decide) (own_rm5 lch Z a0 hw [] p3 T454.heap n0) (by decide) (by decide) (by decide) (by decide) (lenOf own_pd0 rfl) rfl (by exact Nat.le_of_eq rfl) (hb hby at_170) rfl ?_
        intro T458 Lc458 v458 X458 hQ458
        obtain ⟨rfl, Nq458, Kq458⟩ := hQ458
        have N458 := Fr.app N457 Nq458
        show own_Ends prg e below s _ _ _ T458 (mkF m 173 #[.val (.int p0), .val (.int p1), .val (.int p2), .val (.int p3), .val (.int p4), .val (.int (4 : Int32)), .val (.int (3 : Int32)), .val (.int ((own_ushr p0 (4 : Int32)) &&& (3 : Int32))), .val (.int (8 : Int32)), .val (.int q366), .val (.ref a368), .val (.int (own_rv l446 (7 : Int32) (own_spread q366) (3 : Int32) (4 : Int32))), .val (.int (own_rv (own_rl l446 (7 : Int32) (own_spread q366)) (7 : Int32) (own_spread q366) (3 : Int32) (4 : Int32))), .val (.int (7 : Int32)), .val (.int ((own_spread q366) &&& (7 : Int32))), .val (.int (0 : Int32)), .unset, .unset] [(.int (own_spread p3))])
        refine own_iload (pc' := 175) X458 hx (hb hby at_173) rfl rfl ?_
        refine own_iand (pc' := 176) (z := ((own_spread p3) &&& (7 : Int32))) X458 hx (hb hby at_175) rfl rfl ?_
        refine own_iload (pc' := 178) X458 hx (hb hby at_176) rfl rfl ?_
        by_cases hc178_459 : ((own_spread p3) &&& (7 : Int32)) = ((own_spread q366) &&& (7 : Int32))
        · refine own_icmpNo (pc' := 181) X458 hx (hb hby at_178) rfl (teq hc178_459).2 ?_
          refine own_iconst (pc' := 182) (z := (3 : Int32)) X458 hx (hb hby at_181) rfl rfl ?_
          refine own_istore (pc' := 184) (l' := #[.val (.int p0), .val (.int p1), .val (.int p2), .val (.int p3), .val (.int p4), .val (.int (4 : Int32)), .val (.int (3 : Int32)), .val (.int ((own_ushr p0 (4 : Int32)) &&& (3 : Int32))), .val (.int (8 : Int32)), .val (.int q366), .val (.ref a368), .val (.int (own_rv l446 (7 : Int32) (own_spread q366) (3 : Int32) (4 : Int32))), .val (.int (own_rv (own_rl l446 (7 : Int32) (own_spread q366)) (7 : Int32) (own_spread q366) (3 : Int32) (4 : Int32))), .val (.int (7 : Int32)), .val (.int ((own_spread q366) &&& (7 : Int32))), .val (.int (3 : Int32)), .unset, .unset]) X458 hx (hb hby at_182) rfl rfl ?_
          refine own_goto (pc' := 232) X458 hx (hb hby at_184) (by decide) (by decide) ?_
          refine own_iload (pc' := 234) X458 hx (hb hby at_232) rfl rfl ?_
          refine own_iconst (pc' := 235) (z := (3 : Int32)) X458 hx (hb hby at_234) rfl rfl ?_
          refine own_icmpNo (pc' := 238) X458 hx (hb hby at_235) rfl (teq (by decide)).2 ?_
          refine own_iloadN (pc' := 239) X458 hx (hb hby at_238) rfl rfl ?_
          refine own_goto (pc' := 253) X458 hx (hb hby at_239) (by decide) (by decide) ?_
          refine own_istore (pc' := 255) (l' := #[.val (.int p0), .val (.int p1), .val (.int p2), .val (.int p3), .val (.int p4), .val (.int (4 : Int32)), .val (.int (3 : Int32)), .val (.int ((own_ushr p0 (4 : Int32)) &&& (3 : Int32))), .val (.int (8 : Int32)), .val (.int q366), .val (.ref a368), .val (.int (own_rv l446 (7 : Int32) (own_spread q366) (3 : Int32) (4 : Int32))), .val (.int (own_rv (own_rl l446 (7 : Int32) (own_spread q366)) (7 : Int32) (own_spread q366) (3 : Int32) (4 : Int32))), .val (.int (7 : Int32)), .val (.int ((own_spread q366) &&& (7 : Int32))), .val (.int (3 : Int32)), .val (.int p3), .unset]) X458 hx (hb hby at_253) rfl rfl ?_
          refine own_iload (pc' := 257) X458 hx (hb hby at_255) rfl rfl ?_
          refine own_ifNo (pc' := 260) X458 hx (hb hby at_257) rfl (feq (by decide)).1 ?_
          refine own_iload (pc' := 262) X458 hx (hb hby at_260) rfl rfl ?_
          refine own_iload (pc' := 264) X458 hx (hb hby at_262) rfl rfl ?_
          by_cases hc264_460 : p3 = q366
          · refine own_icmpNo (pc' := 267) X458 hx (hb hby at_264) rfl (teq hc264_460).2 ?_
            refine own_iload (pc' := 269) X458 hx (hb hby at_267) rfl rfl ?_
            refine own_iload (pc' := 271) X458 hx (hb hby at_269) rfl rfl ?_
            refine own_isub (pc' := 272) (z := (0 : Int32)) X458 hx (hb hby at_271) rfl (by decide) ?_
            refine own_iload (pc' := 274) X458 hx (hb hby at_272) rfl rfl ?_
            refine own_icmpNo (pc' := 277) X458 hx (hb hby at_274) rfl (tlt (by decide)).2.1 ?_
            refine own_iconst (pc' := 278) (z := (1 : Int32)) X458 hx (hb hby at_277) rfl rfl ?_
            refine own_goto (pc' := 282) X458 hx (hb hby at_278) (by decide) (by decide) ?_
            refine own_istore (pc' := 284) (l' := #[.val (.int p0), .val (.int p1), .val (.int p2), .val (.int p3), .val (.int p4), .val (.int (4 : Int32)), .val (.int (3 : Int32)), .val (.int ((own_ushr p0 (4 : Int32)) &&& (3 : Int32))), .val (.int (8 : Int32)), .val (.int q366), .val (.ref a368), .val (.int (own_rv l446 (7 : Int32) (own_spread q366) (3 : Int32) (4 : Int32))), .val (.int (own_rv (own_rl l446 (7 : Int32) (own_spread q366)) (7 : Int32) (own_spread q366) (3 : Int32) (4 : Int32))), .val (.int (7 : Int32)), .val (.int ((own_spread q366) &&& (7 : Int32))), .val (.int (3 : Int32)), .val (.int p3), .val (.int (1 : Int32))]) X458 hx (hb hby at_282) rfl rfl ?_
            refine own_iload (pc' := 286) X458 hx (hb hby at_284) rfl rfl ?_
            refine own_iload (pc' := 288) X458 hx (hb hby at_286) rfl rfl ?_
            have sl461 : own_slot l446 (7 : Int32) (own_spread q366) = own_pack (own_spread p3) (3 : Int64) := by
              rw [el446, el442, el438]
              exact (own_slE (Or.inr (Or.inr ⟨rfl, rfl⟩)) (by simp) hc178_459)
            refine own_icmpNo (pc' := 291) X458 hx (hb hby at_288) rfl (teq ((own_hitv (i := 3) sl461 (by decide) (by decide)).trans ((if_pos hc264_460).trans (by decide)))).2 ?_
            refine own_iload (pc' := 293) X458 hx (hb hby at_291) rfl rfl ?_
            refine own_ifNo (pc' := 296) X458 hx (hb hby at_293) rfl (teq (own_second (Or.inr (Or.inr ⟨rfl, rfl⟩)) hl447)).2 ?_
            refine own_iconst (pc' := 297) (z := (1 : Int32)) X458 hx (hb hby at_296) rfl rfl ?_
            refine own_goto (pc' := 301) X458 hx (hb hby at_297) (by decide) (by decide) ?_
            refine own_retN X458 hx hlk hret (by simp) (hb hby at_301) (by decide) (by decide) ?_
            exact ⟨rfl, N458⟩
          · refine own_icmpYes (pc' := 281) X458 hx (hb hby at_264) (feq hc264_460).2 (by decide) (by decide) ?_
            refine own_iconst (pc' := 282) (z := (0 : Int32)) X458 hx (hb hby at_281) rfl rfl ?_
            refine own_istore (pc' := 284) (l' := #[.val (.int p0), .val (.int p1), .val (.int p2), .val (.int p3), .val (.int p4), .val (.int (4 : Int32)), .val (.int (3 : Int32)), .val (.int ((own_ushr p0 (4 : Int32)) &&& (3 : Int32))), .val (.int (8 : Int32)), .val (.int q366), .val (.ref a368), .val (.int (own_rv l446 (7 : Int32) (own_spread q366) (3 : Int32) (4 : Int32))), .val (.int (own_rv (own_rl l446 (7 : Int32) (own_spread q366)) (7 : Int32) (own_spread q366) (3 : Int32) (4 : Int32))), .val (.int (7 : Int32)), .val (.int ((own_spread q366) &&& (7 : Int32))), .val (.int (3 : Int32)), .val (.int p3), .val (.int (0 : Int32))]) X458 hx (hb hby at_282) rfl rfl ?_
            refine own_iload (pc' := 286) X458 hx (hb hby at_284) rfl rfl ?_
            refine own_iload (pc' := 288) X458 hx (hb hby at_286) rfl rfl ?_
            have sl462 : own_slot l446 (7 : Int32) (own_spread q366) = own_pack (own_spread p3) (3 : Int64) := by
              rw [el446, el442, el438]
              exact (own_slE (Or.inr (Or.inr ⟨rfl, rfl⟩)) (by simp) hc178_459)
            refine own_icmpNo (pc' := 291) X458 hx (hb hby at_288) rfl (teq ((own_hitv (i := 3) sl462 (by decide) (by decide)).trans (if_neg hc264_460))).2 ?_
            refine own_iload (pc' := 293) X458 hx (hb hby at_291) rfl rfl ?_
            refine own_ifNo (pc' := 296) X458 hx (hb hby at_293) rfl (teq (own_second (Or.inr (Or.inr ⟨rfl, rfl⟩)) hl447)).2 ?_
            refine own_iconst (pc' := 297) (z := (1 : Int32)) X458 hx (hb hby at_296) rfl rfl ?_
            refine own_goto (pc' := 301) X458 hx (hb hby at_297) (by decide) (by decide) ?_
            refine own_retN X458 hx hlk hret (by simp) (hb hby at_301) (by decide) (by decide) ?_
            exact ⟨rfl, N458⟩
        · refine own_icmpYes (pc' := 187) X458 hx (hb hby at_178) (feq hc178_459).2 (by decide) (by decide) ?_
          refine own_iload (pc' := 189) X458 hx (hb hby at_187) rfl rfl ?_
          refine own_iconst (pc' := 190) (z := (2 : Int32)) X458 hx (hb hby at_189) rfl rfl ?_
          refine own_icmpNo (pc' := 193) X458 hx (hb hby at_190) rfl (flt (by decide)).1 ?_
          refine own_iloadN (pc' := 194) X458 hx (hb hby at_193) rfl rfl ?_
          refine own_callS (pc' := 197) (y := (⟨"com/example/larder/larder/cache/UseCounts", "spread", "(I)I"⟩ : MethodName)) (W := 0) (rm := own_room5) (argsL := [(.int p2)]) (rest := []) X458 hx hZ Kq458 hown (by rw [hml]; rfl) (own_w23 hw) (own_w24 hw) (own_w25 hw) (own_w26 hw) (by decide) (own_rm5 lch Z a0 hw [] p2 T454.heap n0) (by decide) (by decide) (by decide) (by decide) (lenOf own_pd0 rfl) rfl (by exact Nat.le_of_eq rfl) (hb hby at_194) rfl ?_
          intro T463 Lc463 v463 X463 hQ463
          obtain ⟨rfl, Nq463, Kq463⟩ := hQ463
          have N463 := Fr.app N458 Nq463
          show own_Ends prg e below s _ _ _ T463 (mkF m 197 #[.val (.int p0), .val (.int p1), .val (.int p2), .val (.int p3), .val (.int p4), .val (.int (4 : Int32)), .val (.int (3 : Int32)), .val (.int ((own_ushr p0 (4 : Int32)) &&& (3 : Int32))), .val (.int (8 : Int32)), .val (.int q366), .val (.ref a368), .val (.int (own_rv l446 (7 : Int32) (own_spread q366) (3 : Int32) (4 : Int32))), .val (.int (own_rv (own_rl l446 (7 : Int32) (own_spread q366)) (7 : Int32) (own_spread q366) (3 : Int32) (4 : Int32))), .val (.int (7 : Int32)), .val (.int ((own_spread q366) &&& (7 : Int32))), .val (.int (0 : Int32)), .unset, .unset] [(.int (own_spread p2))])
          refine own_iload (pc' := 199) X463 hx (hb hby at_197) rfl rfl ?_
          refine own_iand (pc' := 200) (z := ((own_spread p2) &&& (7 : Int32))) X463 hx (hb hby at_199) rfl rfl ?_
          refine own_iload (pc' := 202) X463 hx (hb hby at_200) rfl rfl ?_
          by_cases hc202_464 : ((own_spread p2) &&& (7 : Int32)) = ((own_spread q366) &&& (7 : Int32))
          · refine own_icmpNo (pc' := 205) X463 hx (hb hby at_202) rfl (teq hc202_464).2 ?_
            refine own_iconst (pc' := 206) (z := (2 : Int32)) X463 hx (hb hby at_205) rfl rfl ?_
            refine own_istore (pc' := 208) (l' := #[.val (.int p0), .val (.int p1), .val (.int p2), .val (.int p3), .val (.int p4), .val (.int (4 : Int32)), .val (.int (3 : Int32)), .val (.int ((own_ushr p0 (4 : Int32)) &&& (3 : Int32))), .val (.int (8 : Int32)), .val (.int q366), .val (.ref a368), .val (.int (own_rv l446 (7 : Int32) (own_spread q366) (3 : Int32) (4 : Int32))), .val (.int (own_rv (own_rl l446 (7 : Int32) (own_spread q366)) (7 : Int32) (own_spread q366) (3 : Int32) (4 : Int32))), .val (.int (7 : Int32)), .val (.int ((own_spread q366) &&& (7 : Int32))), .val (.int (2 : Int32)), .unset, .unset]) X463 hx (hb hby at_206) rfl rfl ?_
            refine own_goto (pc' := 232) X463 hx (hb hby at_208) (by decide) (by decide) ?_
            refine own_iload (pc' := 234) X463 hx (hb hby at_232) rfl rfl ?_
            refine own_iconst (pc' := 235) (z := (3 : Int32)) X463 hx (hb hby at_234) rfl rfl ?_
            refine own_icmpYes (pc' := 242) X463 hx (hb hby at_235) (feq (by decide)).2 (by decide) (by decide) ?_
            refine own_iload (pc' := 244) X463 hx (hb hby at_242) rfl rfl ?_
            refine own_iconst (pc' := 245) (z := (2 : Int32)) X463 hx (hb hby at_244) rfl rfl ?_
            refine own_icmpNo (pc' := 248) X463 hx (hb hby at_245) rfl (teq (by decide)).2 ?_
            refine own_iloadN (pc' := 249) X463 hx (hb hby at_248) rfl rfl ?_
            refine own_goto (pc' := 253) X463 hx (hb hby at_249) (by decide) (by decide) ?_
            refine own_istore (pc' := 255) (l' := #[.val (.int p0), .val (.int p1), .val (.int p2), .val (.int p3), .val (.int p4), .val (.int (4 : Int32)), .val (.int (3 : Int32)), .val (.int ((own_ushr p0 (4 : Int32)) &&& (3 : Int32))), .val (.int (8 : Int32)), .val (.int q366), .val (.ref a368), .val (.int (own_rv l446 (7 : Int32) (own_spread q366) (3 : Int32) (4 : Int32))), .val (.int (own_rv (own_rl l446 (7 : Int32) (own_spread q366)) (7 : Int32) (own_spread q366) (3 : Int32) (4 : Int32))), .val (.int (7 : Int32)), .val (.int ((own_spread q366) &&& (7 : Int32))), .val (.int (2 : Int32)), .val (.int p2), .unset]) X463 hx (hb hby at_253) rfl rfl ?_
            refine own_iload (pc' := 257) X463 hx (hb hby at_255) rfl rfl ?_
            refine own_ifNo (pc' := 260) X463 hx (hb hby at_257) rfl (feq (by decide)).1 ?_
            refine own_iload (pc' := 262) X463 hx (hb hby at_260) rfl rfl ?_
            refine own_iload (pc' := 264) X463 hx (hb hby at_262) rfl rfl ?_
            by_cases hc264_465 : p2 = q366
            · refine own_icmpNo (pc' := 267) X463 hx (hb hby at_264) rfl (teq hc264_465).2 ?_
              refine own_iload (pc' := 269) X463 hx (hb hby at_267) rfl rfl ?_
              refine own_iload (pc' := 271) X463 hx (hb hby at_269) rfl rfl ?_
              refine own_isub (pc' := 272) (z := (1 : Int32)) X463 hx (hb hby at_271) rfl (by decide) ?_
              refine own_iload (pc' := 274) X463 hx (hb hby at_272) rfl rfl ?_
              refine own_icmpNo (pc' := 277) X463 hx (hb hby at_274) rfl (tlt (by decide)).2.1 ?_
              refine own_iconst (pc' := 278) (z := (1 : Int32)) X463 hx (hb hby at_277) rfl rfl ?_
              refine own_goto (pc' := 282) X463 hx (hb hby at_278) (by decide) (by decide) ?_
              refine own_istore (pc' := 284) (l' := #[.val (.int p0), .val (.int p1), .val (.int p2), .val (.int p3), .val (.int p4), .val (.int (4 : Int32)), .val (.int (3 : Int32)), .val (.int ((own_ushr p0 (4 : Int32)) &&& (3 : Int32))), .val (.int (8 : Int32)), .val (.int q366), .val (.ref a368), .val (.int (own_rv l446 (7 : Int32) (own_spread q366) (3 : Int32) (4 : Int32))), .val (.int (own_rv (own_rl l446 (7 : Int32) (own_spread q366)) (7 : Int32) (own_spread q366) (3 : Int32) (4 : Int32))), .val (.int (7 : Int32)), .val (.int ((own_spread q366) &&& (7 : Int32))), .val (.int (2 : Int32)), .val (.int p2), .val (.int (1 : Int32))]) X463 hx (hb hby at_282) rfl rfl ?_
              refine own_iload (pc' := 286) X463 hx (hb hby at_284) rfl rfl ?_
              refine own_iload (pc' := 288) X463 hx (hb hby at_286) rfl rfl ?_
              have sl466 : own_slot l446 (7 : Int32) (own_spread q366) = own_pack (own_spread p2) (2 : Int64) := by
                rw [el446, el442, el438]
                exact ((own_slN (Or.inr (Or.inr ⟨rfl, rfl⟩)) (by simp) hc178_459).trans (own_slE (Or.inr (Or.inr ⟨rfl, rfl⟩)) (by simp) hc202_464))
              refine own_icmpNo (pc' := 291) X463 hx (hb hby at_288) rfl (teq ((own_hitv (i := 2) sl466 (by decide) (by decide)).trans ((if_pos hc264_465).trans (by decide)))).2 ?_
              refine own_iload (pc' := 293) X463 hx (hb hby at_291) rfl rfl ?_
              refine own_ifNo (pc' := 296) X463 hx (hb hby at_293) rfl (teq (own_second (Or.inr (Or.inr ⟨rfl, rfl⟩)) hl447)).2 ?_
              refine own_iconst (pc' := 297) (z := (1 : Int32)) X463 hx (hb hby at_296) rfl rfl ?_
              refine own_goto (pc' := 301) X463 hx (hb hby at_297) (by decide) (by decide) ?_
              refine own_retN X463 hx hlk hret (by simp) (hb hby at_301) (by decide) (by decide) ?_
              exact ⟨rfl, N463⟩
            · refine own_icmpYes (pc' := 281) X463 hx (hb hby at_264) (feq hc264_465).2 (by decide) (by decide) ?_
              refine own_iconst (pc' := 282) (z := (0 : Int32)) X463 hx (hb hby at_281) rfl rfl ?_
              refine own_istore (pc' := 284) (l' := #[.val (.int p0), .val (.int p1), .val (.int p2), .val (.int p3), .val (.int p4), .val (.int (4 : Int32)), .val (.int (3 : Int32)), .val (.int ((own_ushr p0 (4 : Int32)) &&& (3 : Int32))), .val (.int (8 : Int32)), .val (.int q366), .val (.ref a368), .val (.int (own_rv l446 (7 : Int32) (own_spread q366) (3 : Int32) (4 : Int32))), .val (.int (own_rv (own_rl l446 (7 : Int32) (own_spread q366)) (7 : Int32) (own_spread q366) (3 : Int32) (4 : Int32))), .val (.int (7 : Int32)), .val (.int ((own_spread q366) &&& (7 : Int32))), .val (.int (2 : Int32)), .val (.int p2), .val (.int (0 : Int32))]) X463 hx (hb hby at_282) rfl rfl ?_
              refine own_iload (pc' := 286) X463 hx (hb hby at_284) rfl rfl ?_
              refine own_iload (pc' := 288) X463 hx (hb hby at_286) rfl rfl ?_
              have sl467 : own_slot l446 (7 : Int32) (own_spread q366) = own_pack (own_spread p2) (2 : Int64) := by
                rw [el446, el442, el438]
                exact ((own_slN (Or.inr (Or.inr ⟨rfl, rfl⟩)) (by simp) hc178_459).trans (own_slE (Or.inr (Or.inr ⟨rfl, rfl⟩)) (by simp) hc202_464))
              refine own_icmpNo (pc' := 291) X463 hx (hb hby at_288) rfl (teq ((own_hitv (i := 2) sl467 (by decide) (by decide)).trans (if_neg hc264_465))).2 ?_
              refine own_iload (pc' := 293) X463 hx (hb hby at_291) rfl rfl ?_
              refine own_ifNo (pc' := 296) X463 hx (hb hby at_293) rfl (teq (own_second (Or.inr (Or.inr ⟨rfl, rfl⟩)) hl447)).2 ?_
              refine own_iconst (pc' := 297) (z := (1 : Int32)) X463 hx (hb hby at_296) rfl rfl ?_
              refine own_goto (pc' := 301) X463 hx (hb hby at_297) (by decide) (by decide) ?_
              refine own_retN X463 hx hlk hret (by simp) (hb hby at_301) (by decide) (by decide) ?_
              exact ⟨rfl, N463⟩
          · refine own_icmpYes (pc' := 211) X463 hx (hb hby at_202) (feq hc202_464).2 (by decide) (by decide) ?_
            refine own_iload (pc' := 213) X463 hx (hb hby at_211) rfl rfl ?_
            refine own_iconst (pc' := 214) (z := (1 : Int32)) X463 hx (hb hby at_213) rfl rfl ?_
            refine own_icmpNo (pc' := 217) X463 hx (hb hby at_214) rfl (flt (by decide)).1 ?_
            refine own_iloadN (pc' := 218) X463 hx (hb hby at_217) rfl rfl ?_
            refine own_callS (pc' := 221) (y := (⟨"com/example/larder/larder/cache/UseCounts", "spread", "(I)I"⟩ : MethodName)) (W := 0) (rm := own_room5) (argsL := [(.int p1)]) (rest := []) X463 hx hZ Kq463 hown (by rw [hml]; rfl) (own_w23 hw) (own_w24 hw) (own_w25 hw) (own_w26 hw) (by decide) (own_rm5 lch Z a0 hw [] p1 T454.heap n0) (by decide) (by decide) (by decide) (by decide) (lenOf own_pd0 rfl) rfl (by exact Nat.le_of_eq rfl) (hb hby at_218) rfl ?_
            intro T468 Lc468 v468 X468 hQ468
            obtain ⟨rfl, Nq468, Kq468⟩ := hQ468
            have N468 := Fr.app N463 Nq468
            show own_Ends prg e below s _ _ _ T468 (mkF m 221 #[.val (.int p0), .val (.int p1), .val (.int p2), .val (.int p3), .val (.int p4), .val (.int (4 : Int32)), .val (.int (3 : Int32)), .val (.int ((own_ushr p0 (4 : Int32)) &&& (3 : Int32))), .val (.int (8 : Int32)), .val (.int q366), .val (.ref a368), .val (.int (own_rv l446 (7 : Int32) (own_spread q366) (3 : Int32) (4 : Int32))), .val (.int (own_rv (own_rl l446 (7 : Int32) (own_spread q366)) (7 : Int32) (own_spread q366) (3 : Int32) (4 : Int32))), .val (.int (7 : Int32)), .val (.int ((own_spread q366) &&& (7 : Int32))), .val (.int (0 : Int32)), .unset, .unset] [(.int (own_spread p1))])
            refine own_iload (pc' := 223) X468 hx (hb hby at_221) rfl rfl ?_
            refine own_iand (pc' := 224) (z := ((own_spread p1) &&& (7 : Int32))) X468 hx (hb hby at_223) rfl rfl ?_
            refine own_iload (pc' := 226) X468 hx (hb hby at_224) rfl rfl ?_
            by_cases hc226_469 : ((own_spread p1) &&& (7 : Int32)) = ((own_spread q366) &&& (7 : Int32))
            · refine own_icmpNo (pc' := 229) X468 hx (hb hby at_226) rfl (teq hc226_469).2 ?_
              refine own_iconst (pc' := 230) (z := (1 : Int32)) X468 hx (hb hby at_229) rfl rfl ?_
              refine own_istore (pc' := 232) (l' := #[.val (.int p0), .val (.int p1), .val (.int p2), .val (.int p3), .val (.int p4), .val (.int (4 : Int32)), .val (.int (3 : Int32)), .val (.int ((own_ushr p0 (4 : Int32)) &&& (3 : Int32))), .val (.int (8 : Int32)), .val (.int q366), .val (.ref a368), .val (.int (own_rv l446 (7 : Int32) (own_spread q366) (3 : Int32) (4 : Int32))), .val (.int (own_rv (own_rl l446 (7 : Int32) (own_spread q366)) (7 : Int32) (own_spread q366) (3 : Int32) (4 : Int32))), .val (.int (7 : Int32)), .val (.int ((own_spread q366) &&& (7 : Int32))), .val (.int (1 : Int32)), .unset, .unset]) X468 hx (hb hby at_230) rfl rfl ?_
              refine own_iload (pc' := 234) X468 hx (hb hby at_232) rfl rfl ?_
              refine own_iconst (pc' := 235) (z := (3 : Int32)) X468 hx (hb hby at_234) rfl rfl ?_
              refine own_icmpYes (pc' := 242) X468 hx (hb hby at_235) (feq (by decide)).2 (by decide) (by decide) ?_
              refine own_iload (pc' := 244) X468 hx (hb hby at_242) rfl rfl ?_
              refine own_iconst (pc' := 245) (z := (2 : Int32)) X468 hx (hb hby at_244) rfl rfl ?_
              refine own_icmpYes (pc' := 252) X468 hx (hb hby at_245) (feq (by decide)).2 (by decide) (by decide) ?_
              refine own_iloadN (pc' := 253) X468 hx (hb hby at_252) rfl rfl ?_
              refine own_istore (pc' := 255) (l' := #[.val (.int p0), .val (.int p1), .val (.int p2), .val (.int p3), .val (.int p4), .val (.int (4 : Int32)), .val (.int (3 : Int32)), .val (.int ((own_ushr p0 (4 : Int32)) &&& (3 : Int32))), .val (.int (8 : Int32)), .val (.int q366), .val (.ref a368), .val (.int (own_rv l446 (7 : Int32) (own_spread q366) (3 : Int32) (4 : Int32))), .val (.int (own_rv (own_rl l446 (7 : Int32) (own_spread q366)) (7 : Int32) (own_spread q366) (3 : Int32) (4 : Int32))), .val (.int (7 : Int32)), .val (.int ((own_spread q366) &&& (7 : Int32))), .val (.int (1 : Int32)), .val (.int p1), .unset]) X468 hx (hb hby at_253) rfl rfl ?_
              refine own_iload (pc' := 257) X468 hx (hb hby at_255) rfl rfl ?_
              refine own_ifNo (pc' := 260) X468 hx (hb hby at_257) rfl (feq (by decide)).1 ?_
              refine own_iload (pc' := 262) X468 hx (hb hby at_260) rfl rfl ?_
              refine own_iload (pc' := 264) X468 hx (hb hby at_262) rfl rfl ?_
              by_cases hc264_470 : p1 = q366
              · refine own_icmpNo (pc' := 267) X468 hx (hb hby at_264) rfl (teq hc264_470).2 ?_
                refine own_iload (pc' := 269) X468 hx (hb hby at_267) rfl rfl ?_
                refine own_iload (pc' := 271) X468 hx (hb hby at_269) rfl rfl ?_
                refine own_isub (pc' := 272) (z := (2 : Int32)) X468 hx (hb hby at_271) rfl (by decide) ?_
                refine own_iload (pc' := 274) X468 hx (hb hby at_272) rfl rfl ?_
                refine own_icmpNo (pc' := 277) X468 hx (hb hby at_274) rfl (tlt (by decide)).2.1 ?_
                refine own_iconst (pc' := 278) (z := (1 : Int32)) X468 hx (hb hby at_277) rfl rfl ?_
                refine own_goto (pc' := 282) X468 hx (hb hby at_278) (by decide) (by decide) ?_
                refine own_istore (pc' := 284) (l' := #[.val (.int p0), .val (.int p1), .val (.int p2), .val (.int p3), .val (.int p4), .val (.int (4 : Int32)), .val (.int (3 : Int32)), .val (.int ((own_ushr p0 (4 : Int32)) &&& (3 : Int32))), .val (.int (8 : Int32)), .val (.int q366), .val (.ref a368), .val (.int (own_rv l446 (7 : Int32) (own_spread q366) (3 : Int32) (4 : Int32))), .val (.int (own_rv (own_rl l446 (7 : Int32) (own_spread q366)) (7 : Int32) (own_spread q366) (3 : Int32) (4 : Int32))), .val (.int (7 : Int32)), .val (.int ((own_spread q366) &&& (7 : Int32))), .val (.int (1 : Int32)), .val (.int p1), .val (.int (1 : Int32))]) X468 hx (hb hby at_282) rfl rfl ?_
                refine own_iload (pc' := 286) X468 hx (hb hby at_284) rfl rfl ?_
                refine own_iload (pc' := 288) X468 hx (hb hby at_286) rfl rfl ?_
                have sl471 : own_slot l446 (7 : Int32) (own_spread q366) = own_pack (own_spread p1) (1 : Int64) := by
                  rw [el446, el442, el438]
                  exact ((own_slN (Or.inr (Or.inr ⟨rfl, rfl⟩)) (by simp) hc178_459).trans ((own_slN (Or.inr (Or.inr ⟨rfl, rfl⟩)) (by simp) hc202_464).trans (own_slE (Or.inr (Or.inr ⟨rfl, rfl⟩)) (List.length_replicate) hc226_469)))
                refine own_icmpNo (pc' := 291) X468 hx (hb hby at_288) rfl (teq ((own_hitv (i := 1) sl471 (by decide) (by decide)).trans ((if_pos hc264_470).trans (by decide)))).2 ?_
                refine own_iload (pc' := 293) X468 hx (hb hby at_291) rfl rfl ?_
                refine own_ifNo (pc' := 296) X468 hx (hb hby at_293) rfl (teq (own_second (Or.inr (Or.inr ⟨rfl, rfl⟩)) hl447)).2 ?_
                refine own_iconst (pc' := 297) (z := (1 : Int32)) X468 hx (hb hby at_296) rfl rfl ?_
                refine own_goto (pc' := 301) X468 hx (hb hby at_297) (by decide) (by decide) ?_
                refine own_retN X468 hx hlk hret (by simp) (hb hby at_301) (by decide) (by decide) ?_
                exact ⟨rfl, N468⟩
              · refine own_icmpYes (pc' := 281) X468 hx (hb hby at_264) (feq hc264_470).2 (by decide) (by decide) ?_
                refine own_iconst (pc' := 282) (z := (0 : Int32)) X468 hx (hb hby at_281) rfl rfl ?_
                refine own_istore (pc' := 284) (l' := #[.val (.int p0), .val (.int p1), .val (.int p2), .val (.int p3), .val (.int p4), .val (.int (4 : Int32)), .val (.int (3 : Int32)), .val (.int ((own_ushr p0 (4 : Int32)) &&& (3 : Int32))), .val (.int (8 : Int32)), .val (.int q366), .val (.ref a368), .val (.int (own_rv l446 (7 : Int32) (own_spread q366) (3 : Int32) (4 : Int32))), .val (.int (own_rv (own_rl l446 (7 : Int32) (own_spread q366)) (7 : Int32) (own_spread q366) (3 : Int32) (4 : Int32))), .val (.int (7 : Int32)), .val (.int ((own_spread q366) &&& (7 : Int32))), .val (.int (1 : Int32)), .val (.int p1), .val (.int (0 : Int32))]) X468 hx (hb hby at_282) rfl rfl ?_
                refine own_iload (pc' := 286) X468 hx (hb hby at_284) rfl rfl ?_
                refine own_iload (pc' := 288) X468 hx (hb hby at_286) rfl rfl ?_
                have sl472 : own_slot l446 (7 : Int32) (own_spread q366) = own_pack (own_spread p1) (1 : Int64) := by
                  rw [el446, el442, el438]
                  exact ((own_slN (Or.inr (Or.inr ⟨rfl, rfl⟩)) (by simp) hc178_459).trans ((own_slN (Or.inr (Or.inr ⟨rfl, rfl⟩)) (by simp) hc202_464).trans (own_slE (Or.inr (Or.inr ⟨rfl, rfl⟩)) (List.length_replicate) hc226_469)))
                refine own_icmpNo (pc' := 291) X468 hx (hb hby at_288) rfl (teq ((own_hitv (i := 1) sl472 (by decide) (by decide)).trans (if_neg hc264_470))).2 ?_
                refine own_iload (pc' := 293) X468 hx (hb hby at_291) rfl rfl ?_
                refine own_ifNo (pc' := 296) X468 hx (hb hby at_293) rfl (teq (own_second (Or.inr (Or.inr ⟨rfl, rfl⟩)) hl447)).2 ?_
                refine own_iconst (pc' := 297) (z := (1 : Int32)) X468 hx (hb hby at_296) rfl rfl ?_
                refine own_goto (pc' := 301) X468 hx (hb hby at_297) (by decide) (by decide) ?_
                refine own_retN X468 hx hlk hret (by simp) (hb hby at_301) (by decide) (by decide) ?_
                exact ⟨rfl, N468⟩
            · refine own_icmpYes (pc' := 232) X468 hx (hb hby at_226) (feq hc226_469).2 (by decide) (by decide) ?_
              refine own_iload (pc' := 234) X468 hx (hb hby at_232) rfl rfl ?_
              refine own_iconst (pc' := 235) (z := (3 : Int32)) X468 hx (hb hby at_234) rfl rfl ?_
              refine own_icmpYes (pc' := 242) X468 hx (hb hby at_235) (feq (by decide)).2 (by decide) (by decide) ?_
              refine own_iload (pc' := 244) X468 hx (hb hby at_242) rfl rfl ?_
              refine own_iconst (pc' := 245) (z := (2 : Int32)) X468 hx (hb hby at_244) rfl rfl ?_
              refine own_icmpYes (pc' := 252) X468 hx (hb hby at_245) (feq (by decide)).2 (by decide) (by decide) ?_
              refine own_iloadN (pc' := 253) X468 hx (hb hby at_252) rfl rfl ?_
              refine own_istore (pc' := 255) (l' := #[.val (.int p0), .val (.int p1), .val (.int p2), .val (.int p3), .val (.int p4), .val (.int (4 : Int32)), .val (.int (3 : Int32)), .val (.int ((own_ushr p0 (4 : Int32)) &&& (3 : Int32))), .val (.int (8 : Int32)), .val (.int q366), .val (.ref a368), .val (.int (own_rv l446 (7 : Int32) (own_spread q366) (3 : Int32) (4 : Int32))), .val (.int (own_rv (own_rl l446 (7 : Int32) (own_spread q366)) (7 : Int32) (own_spread q366) (3 : Int32) (4 : Int32))), .val (.int (7 : Int32)), .val (.int ((own_spread q366) &&& (7 : Int32))), .val (.int (0 : Int32)), .val (.int p1), .unset]) X468 hx (hb hby at_253) rfl rfl ?_
              refine own_iload (pc' := 257) X468 hx (hb hby at_255) rfl rfl ?_
              refine own_ifYes (pc' := 281) X468 hx (hb hby at_257) (teq (by decide)).1 (by decide) (by decide) ?_
              refine own_iconst (pc' := 282) (z := (0 : Int32)) X468 hx (hb hby at_281) rfl rfl ?_
              refine own_istore (pc' := 284) (l' := #[.val (.int p0), .val (.int p1), .val (.int p2), .val (.int p3), .val (.int p4), .val (.int (4 : Int32)), .val (.int (3 : Int32)), .val (.int ((own_ushr p0 (4 : Int32)) &&& (3 : Int32))), .val (.int (8 : Int32)), .val (.int q366), .val (.ref a368), .val (.int (own_rv l446 (7 : Int32) (own_spread q366) (3 : Int32) (4 : Int32))), .val (.int (own_rv (own_rl l446 (7 : Int32) (own_spread q366)) (7 : Int32) (own_spread q366) (3 : Int32) (4 : Int32))), .val (.int (7 : Int32)), .val (.int ((own_spread q366) &&& (7 : Int32))), .val (.int (0 : Int32)), .val (.int p1), .val (.int (0 : Int32))]) X468 hx (hb hby at_282) rfl rfl ?_
              refine own_iload (pc' := 286) X468 hx (hb hby at_284) rfl rfl ?_
              refine own_iload (pc' := 288) X468 hx (hb hby at_286) rfl rfl ?_
              have sl473 : own_slot l446 (7 : Int32) (own_spread q366) = 0 := by
                rw [el446, el442, el438]
                exact ((own_slN (Or.inr (Or.inr ⟨rfl, rfl⟩)) (by simp) hc178_459).trans ((own_slN (Or.inr (Or.inr ⟨rfl, rfl⟩)) (by simp) hc202_464).trans ((own_slN (Or.inr (Or.inr ⟨rfl, rfl⟩)) (List.length_replicate) hc226_469).trans (own_sl0 _ _ _))))
              refine own_icmpNo (pc' := 291) X468 hx (hb hby at_288) rfl (teq (own_miss sl473)).2 ?_
              refine own_iload (pc' := 293) X468 hx (hb hby at_291) rfl rfl ?_
              refine own_ifNo (pc' := 296) X468 hx (hb hby at_293) rfl (teq (own_second (Or.inr (Or.inr ⟨rfl, rfl⟩)) hl447)).2 ?_
              refine own_iconst (pc' := 297) (z := (1 : Int32)) X468 hx (hb hby at_296) rfl rfl ?_
              refine own_goto (pc' := 301) X468 hx (hb hby at_297) (by decide) (by decide) ?_
              refine own_retN X468 hx hlk hret (by simp) (hb hby at_301) (by decide) (by decide) ?_
              exact ⟨rfl, N468⟩
    refine own_iload (pc' := 47) X0 hx (hb hby at_45) rfl rfl ?_
    by_cases hc47_474 : ((own_ushr p0 (4 : Int32)) &&& (3 : Int32)) = (0 : Int32)
    · refine own_ifNo (pc' := 50) X0 hx (hb hby at_47) rfl (teq hc47_474).2 ?_
      refine own_iload (pc' := 52) X0 hx (hb hby at_50) rfl rfl ?_
      refine own_goto (pc' := 76) X0 hx (hb hby at_52) (by decide) (by decide) ?_
      exact K367 _
    · refine own_ifYes (pc' := 55) X0 hx (hb hby at_47) (feq hc47_474).2 (by decide) (by decide) ?_
      refine own_iload (pc' := 57) X0 hx (hb hby at_55) rfl rfl ?_
      refine own_iconst (pc' := 58) (z := (1 : Int32)) X0 hx (hb hby at_57) rfl rfl ?_
      by_cases hc58_475 : ((own_ushr p0 (4 : Int32)) &&& (3 : Int32)) = (1 : Int32)
      · refine own_icmpNo (pc' := 61) X0 hx (hb hby at_58) rfl (teq hc58_475).2 ?_
        refine own_iloadN (pc' := 62) X0 hx (hb hby at_61) rfl rfl ?_
        refine own_goto (pc' := 76) X0 hx (hb hby at_62) (by decide) (by decide) ?_
        exact K367 _
      · refine own_icmpYes (pc' := 65) X0 hx (hb hby at_58) (feq hc58_475).2 (by decide) (by decide) ?_
        refine own_iload (pc' := 67) X0 hx (hb hby at_65) rfl rfl ?_
        refine own_iconst (pc' := 68) (z := (2 : Int32)) X0 hx (hb hby at_67) rfl rfl ?_
        by_cases hc68_476 : ((own_ushr p0 (4 : Int32)) &&& (3 : Int32)) = (2 : Int32)
        · refine own_icmpNo (pc' := 71) X0 hx (hb hby at_68) rfl (teq hc68_476).2 ?_
          refine own_iloadN (pc' := 72) X0 hx (hb hby at_71) rfl rfl ?_
          refine own_goto (pc' := 76) X0 hx (hb hby at_72) (by decide) (by decide) ?_
          exact K367 _
        · refine own_icmpYes (pc' := 75) X0 hx (hb hby at_68) (feq hc68_476).2 (by decide) (by decide) ?_
          refine own_iloadN (pc' := 76) X0 hx (hb hby at_75) rfl rfl ?_
          exact K367 _
set_option maxRecDepth 65536 in
set_option maxHeartbeats 40000000 in
theorem own_comes {Post : Tables → Env → Array Value → State → Outcome → State → Prop} (hpost : ∀ tb e args s v u, (limb_1_1.after args s (.returned v) u = true ∧ limb_1_2.after args s (.returned v) u = true ∧ True) → FrameEnd s (.returned v) u (Jvm.fieldLocs frame_1_writes args s ++ Jvm.arrayLocs frame_1_arrays args s ++ Jvm.staticLocs frame_1_statics s) 16 128 → Post tb e args s (.returned v) u) :
    ArmFor flags0 classFile x code maxLocals ret World_1 tables_1 room_1 Calls_1 rest_1 Pre_1 Post := by
  intro l hfl _ _ p e ha hc hk s m args below hf hA hF happ hP
  obtain ⟨hcalls, hrest, hpre⟩ := hP
  obtain ⟨-, -, -, hnamed, -, -, -, hat⟩ := (Spec.applies_iff hf).mp happ
  obtain ⟨hg, hn⟩ := and_e (Cond.before_iff.mp (show (Jvm.Cond.and given_1 narrow_1).before args s = true from hpre))
  obtain ⟨g1, g2⟩ := and_e hg
  obtain ⟨g3, g4⟩ := and_e g2
  obtain ⟨g5, g6⟩ := and_e g4
  obtain ⟨g7, g8⟩ := and_e g6
  obtain ⟨g9, g10⟩ := and_e g8
  obtain ⟨w0, w1, w2, w3, w4, rfl⟩ : ∃ w0 w1 w2 w3 w4 : Value, args = #[w0, w1, w2, w3, w4] := by
    have hs : args.size = 5 := by simpa [Cond.value, given_1] using g1
    obtain ⟨L⟩ := args
    match L, hs with
    | [w0, w1, w2, w3, w4], _ => exact ⟨w0, w1, w2, w3, w4, rfl⟩
  have hw := fun d (hd : d ∈ tables_1) => atoms_spec (ws := Jvm.Cond.code x code maxLocals ret :: tables_1) hat d (List.mem_cons_of_mem _ hd)
  have hfit : Fit s := fun {y c} hc i hi => by
    obtain ⟨ha, rfl⟩ := Array.getElem?_eq_some_iff.mp hc
    have q := List.all_eq_true.mp ((Array.all_eq_true_iff_forall_mem.mp hF) _ (Array.getElem_mem ha)) i (List.mem_range.mpr hi)
    simpa [Array.getElem?_eq_getElem hi] using q
  obtain ⟨i0, ei0⟩ := is_v g3
  obtain rfl : w0 = (.int i0) := Option.some.inj ei0
  obtain ⟨i1, ei1⟩ := is_v g5
  obtain rfl : w1 = (.int i1) := Option.some.inj ei1
  obtain ⟨i2, ei2⟩ := is_v g7
  obtain rfl : w2 = (.int i2) := Option.some.inj ei2
  obtain ⟨i3, ei3⟩ := is_v g9
  obtain rfl : w3 = (.int i3) := Option.some.inj ei3
  obtain ⟨i4, ei4⟩ := is_v g10
  obtain rfl : w4 = (.int i4) := Option.some.inj ei4
  obtain ⟨n, o, h1, h2, h3, _, L, rfl, ⟨rfl, N⟩, hq⟩ := own_rm0 l s _ hw tables_1 i0 i1 i2 i3 i4 s.heap s.heap.size (Nat.le_refl _) p e ha hc hk s m _ below hf ((Spec.applies_iff_loose hf).mp happ).1 ⟨rfl, State.Warmed39.refl s, rfl⟩ trivial
  refine ⟨n, _, h1, h2, h3, hpost _ _ _ _ _ _ ⟨Cond.after_iff.mpr rfl, Cond.after_iff.mpr (eq_i res_at (Term.int_eval (1)) rfl), trivial⟩ ⟨hq.1, hq.2.1, (hq.2.2.sift fun y hy => Or.inr (N y hy)).mono (by decide) (by decide)⟩⟩
theorem main_1_1 : Claimed_1_1 := own_comes fun _ _ _ _ _ _ h hF => ⟨h.1, hF⟩
theorem main_1_2 : Claimed_1_2 := own_comes fun _ _ _ _ _ _ h hF => ⟨h.2.1, hF⟩
end Jvm.Pilot.@@N@@
namespace Jvm.Pilot.@@N@@
open Jvm Jvm.ClassFile Sem Op Lib Jvm.Free Jvm.Stand Jvm.Pilot.@@N@@.Jvm.D
/-! MADE BY PROGRAM (witnessworld.py) out of the Statement's table words and the real class files: 18 classes; the members and pool entries that the words name. The judged class is class 1, her method 1. -/
namespace start1
open Jvm.ClassFile
def u (s : String) : CpInfo := .utf8 (stringToUtf16 s)
/-- a pool by its gaps: so many unusable entries, then the entry; so many at the end -/
def gap : Nat → List CpInfo → List CpInfo
  | 0, r => r
  | n + 1, r => .unusable :: gap n r
def poolList (es : List (Nat × CpInfo)) (last : Nat) : List CpInfo := es.foldr (fun e r => gap e.1 (e.2 :: r)) (gap last [])
def pool (es : List (Nat × CpInfo)) (last : Nat) : Array CpInfo := ⟨poolList es last⟩
def fileOf (pool : Array CpInfo) (this : Nat) (attrs : Array Attribute := #[]) (ms : Array MethodInfo := #[]) (fl : Nat := 33) (sup : Nat := 0) (ifs : Array Nat := #[]) (fds : Array FieldInfo := #[]) : ClassFile where
  minorVersion := 0
  majorVersion := 65
  constantPool := pool
  accessFlags := fl
  thisClass := this
  superClass := sup
  interfaces := ifs
  fields := fds
  methods := ms
  attributes := attrs
def plain (name : String) (sup : Option ClassId) : Class where
  name := name
  kind := .ordinary
  loader := none
  accessFlags := 33
  super := sup
  interfaces := #[]
  cf := none
  fields := #[]
  methods := #[]
  instanceTypes := #[]
  staticTypes := #[]
  resolved := #[]
  callSites := []
  init := .initialized
  statics := none
  mirror := none

def pool0 : Array CpInfo := pool [(5, u "<init>"), (0, u "()V"), (1, .class_ 10), (1, u "java/lang/Object")] 113

def k0c0 : Code := { maxStack := 0, maxLocals := 1, code := object_method_1_code, exceptionTable := #[], attributes := #[] }
def k0m0 : Method := { name := "<init>", desc := "()V", sig := { parameters := [], returnType := none }, accessFlags := 1, code := some k0c0 }
/-- java/lang/Object -/
def k0 : Class := { plain "java/lang/Object" none with
  accessFlags := 33
  interfaces := #[]
  cf := some (fileOf pool0 8 #[] #[{ accessFlags := 1, nameIndex := 5, descriptorIndex := 6, attributes := #[] }] 33 0 #[] #[])
  fields := #[]
  methods := #[k0m0]
  instanceTypes := #[]
  staticTypes := #[]
  resolved := Array.replicate 124 none
  statics := none }

def pool1 : Array CpInfo := pool [(2, .class_ 4), (1, u "java/lang/Object"), (0, u "<init>"), (0, u "()V"), (0, .class_ 8), (0, u "com/example/larder/larder/cache/EvictedKeys"), (0, .methodref 7 10), (0, .nameAndType 5 11), (0, u "(J)V"), (0, .methodref 7 13), (0, .nameAndType 14 15), (0, u "remember"), (0, u "(I)V"), (0, .methodref 7 17), (0, .nameAndType 18 19), (0, u "recall"), (0, u "(I)Z"), (0, .methodref 21 22), (0, .class_ 23), (0, .nameAndType 24 25), (0, u "com/example/larder/larder/cache/UseCounts"), (0, u "spread"), (0, u "(I)I"), (0, .class_ 27), (0, u "com/example/larder/larder/cache/EvictedKeysRecallPinLaw"), (2, u "law"), (0, u "(IIIII)Z")] 3

def k1m0 : Method := { name := "<init>", desc := "()V", sig := { parameters := [], returnType := none }, accessFlags := 1, code := none }
def k1c1 : Code := { maxStack := 4, maxLocals := 18, code := code, exceptionTable := #[], attributes := #[] }
def k1m1 : Method := { name := "law", desc := "(IIIII)Z", sig := { parameters := [.int, .int, .int, .int, .int], returnType := some .boolean }, accessFlags := 9, code := some k1c1 }
/-- com/example/larder/larder/cache/EvictedKeysRecallPinLaw -/
def k1 : Class := { plain "com/example/larder/larder/cache/EvictedKeysRecallPinLaw" (some 0) with
  accessFlags := 49
  interfaces := #[]
  cf := some (fileOf pool1 26 #[] #[{ accessFlags := 1, nameIndex := 5, descriptorIndex := 6, attributes := #[] }, { accessFlags := 9, nameIndex := 30, descriptorIndex := 31, attributes := #[] }] 49 2 #[] #[])
  fields := #[]
  methods := #[k1m0, k1m1]
  instanceTypes := #[]
  staticTypes := #[]
  resolved := Array.replicate 35 none
  statics := none }

def pool2 : Array CpInfo := pool [(1, .methodref 2 3), (0, .class_ 4), (0, .nameAndType 5 6), (0, u "java/lang/Object"), (0, u "<init>"), (0, u "()V"), (0, .class_ 8), (0, u "com/example/larder/larder/cache/EvictedKeys"), (0, .long 134217728), (1, .methodref 12 13), (0, .class_ 14), (0, .nameAndType 15 16), (0, u "java/lang/Math"), (0, u "min"), (0, u "(JJ)J"), (0, .fieldref 7 18), (0, .nameAndType 19 20), (0, u "depth"), (0, u "I"), (0, .fieldref 7 22), (0, .nameAndType 23 24), (0, u "slots"), (0, u "[J"), (0, .methodref 26 27), (0, .class_ 28), (0, .nameAndType 29 30), (0, u "java/lang/Integer"), (0, u "highestOneBit"), (0, u "(I)I"), (0, .methodref 32 33), (0, .class_ 34), (0, .nameAndType 35 30), (0, u "com/example/larder/larder/cache/UseCounts"), (0, u "spread"), (0, .fieldref 7 37), (0, .nameAndType 38 20), (0, u "remembered"), (0, .long 4294967295), (1, u "DEEPEST"), (2, u "(J)V"), (2, u "remember"), (0, u "(I)V"), (1, u "recall"), (0, u "(I)Z")] 2

def k2c0 : Code := { maxStack := 5, maxLocals := 3, code := prog_5_method_1_code, exceptionTable := #[], attributes := #[] }
def k2m0 : Method := { name := "<init>", desc := "(J)V", sig := { parameters := [.long], returnType := none }, accessFlags := 0, code := some k2c0 }
def k2c1 : Code := { maxStack := 8, maxLocals := 3, code := prog_5_method_2_code, exceptionTable := #[], attributes := #[] }
def k2m1 : Method := { name := "remember", desc := "(I)V", sig := { parameters := [.int], returnType := none }, accessFlags := 0, code := some k2c1 }
def k2c2 : Code := { maxStack := 4, maxLocals := 7, code := prog_5_method_3_code, exceptionTable := #[], attributes := #[] }
def k2m2 : Method := { name := "recall", desc := "(I)Z", sig := { parameters := [.int], returnType := some .boolean }, accessFlags := 0, code := some k2c2 }
/-- com/example/larder/larder/cache/EvictedKeys -/
def k2 : Class := { plain "com/example/larder/larder/cache/EvictedKeys" (some 0) with
  accessFlags := 48
  interfaces := #[]
  cf := some (fileOf pool2 7 #[] #[{ accessFlags := 0, nameIndex := 5, descriptorIndex := 44, attributes := #[] }, { accessFlags := 0, nameIndex := 47, descriptorIndex := 48, attributes := #[] }, { accessFlags := 0, nameIndex := 50, descriptorIndex := 51, attributes := #[] }] 48 2 #[] #[{ accessFlags := 26, nameIndex := 41, descriptorIndex := 20, attributes := #[] }, { accessFlags := 18, nameIndex := 19, descriptorIndex := 20, attributes := #[] }, { accessFlags := 2, nameIndex := 23, descriptorIndex := 24, attributes := #[] }, { accessFlags := 2, nameIndex := 38, descriptorIndex := 20, attributes := #[] }])
  fields := #[{ name := "DEEPEST", type := .int, accessFlags := 26, slot := 0, constantValue := 0 }, { name := "depth", type := .int, accessFlags := 18, slot := 0, constantValue := 0 }, { name := "slots", type := (.array .long), accessFlags := 2, slot := 1, constantValue := 0 }, { name := "remembered", type := .int, accessFlags := 2, slot := 2, constantValue := 0 }]
  methods := #[k2m0, k2m1, k2m2]
  instanceTypes := #[.int, (.array .long), .int]
  staticTypes := #[.int]
  resolved := Array.replicate 54 none
  statics := none }

def pool3 : Array CpInfo := pool [(1, .class_ 2), (0, u "java/lang/Math"), (1, .class_ 6), (1, u "java/lang/Object"), (0, u "<init>"), (0, u "()V"), (89, .class_ 100), (1, u "java/lang/Math$RandomNumberGeneratorHolder"), (20, u "(JJ)J"), (50, u "negativeZeroFloatBits"), (0, u "J"), (2, u "negativeZeroDoubleBits"), (24, u "min"), (43, u "$assertionsDisabled"), (0, u "Z"), (91, u "twoToTheDoubleScaleDown"), (0, u "D"), (4, u "twoToTheDoubleScaleUp"), (9, u "E"), (3, u "PI"), (2, u "TAU"), (2, u "DEGREES_TO_RADIANS"), (0, u "RADIANS_TO_DEGREES")] 94

def k3m0 : Method := { name := "<init>", desc := "()V", sig := { parameters := [], returnType := none }, accessFlags := 2, code := none }
def k3c1 : Code := { maxStack := 4, maxLocals := 4, code := jdk_29_method_70_code, exceptionTable := #[], attributes := #[] }
def k3m1 : Method := { name := "min", desc := "(JJ)J", sig := { parameters := [.long, .long], returnType := some .long }, accessFlags := 9, code := some k3c1 }
/-- java/lang/Math -/
def k3 : Class := { plain "java/lang/Math" (some 0) with
  accessFlags := 49
  interfaces := #[]
  cf := some (fileOf pool3 1 #[.nestMembers #[98]] #[{ accessFlags := 2, nameIndex := 7, descriptorIndex := 8, attributes := #[] }, { accessFlags := 9, nameIndex := 201, descriptorIndex := 121, attributes := #[] }] 49 4 #[] #[{ accessFlags := 25, nameIndex := 354, descriptorIndex := 339, attributes := #[] }, { accessFlags := 25, nameIndex := 358, descriptorIndex := 339, attributes := #[] }, { accessFlags := 25, nameIndex := 361, descriptorIndex := 339, attributes := #[] }, { accessFlags := 26, nameIndex := 364, descriptorIndex := 339, attributes := #[] }, { accessFlags := 26, nameIndex := 365, descriptorIndex := 339, attributes := #[] }, { accessFlags := 26, nameIndex := 172, descriptorIndex := 173, attributes := #[] }, { accessFlags := 26, nameIndex := 176, descriptorIndex := 173, attributes := #[] }, { accessFlags := 8, nameIndex := 344, descriptorIndex := 339, attributes := #[] }, { accessFlags := 8, nameIndex := 338, descriptorIndex := 339, attributes := #[] }, { accessFlags := 4120, nameIndex := 245, descriptorIndex := 246, attributes := #[] }])
  fields := #[{ name := "E", type := .double, accessFlags := 25, slot := 0, constantValue := 0 }, { name := "PI", type := .double, accessFlags := 25, slot := 1, constantValue := 0 }, { name := "TAU", type := .double, accessFlags := 25, slot := 2, constantValue := 0 }, { name := "DEGREES_TO_RADIANS", type := .double, accessFlags := 26, slot := 3, constantValue := 0 }, { name := "RADIANS_TO_DEGREES", type := .double, accessFlags := 26, slot := 4, constantValue := 0 }, { name := "negativeZeroFloatBits", type := .long, accessFlags := 26, slot := 5, constantValue := 0 }, { name := "negativeZeroDoubleBits", type := .long, accessFlags := 26, slot := 6, constantValue := 0 }, { name := "twoToTheDoubleScaleUp", type := .double, accessFlags := 8, slot := 7, constantValue := 0 }, { name := "twoToTheDoubleScaleDown", type := .double, accessFlags := 8, slot := 8, constantValue := 0 }, { name := "$assertionsDisabled", type := .boolean, accessFlags := 4120, slot := 9, constantValue := 0 }]
  methods := #[k3m0, k3m1]
  instanceTypes := #[]
  staticTypes := #[.double, .double, .double, .double, .double, .long, .long, .double, .double, .boolean]
  resolved := Array.replicate 460 none
  statics := none }

def pool4 : Array CpInfo := pool [(2, .class_ 4), (1, u "java/lang/Object"), (0, u "<init>"), (0, u "()V"), (0, .class_ 8), (0, u "com/example/larder/larder/cache/UseCounts"), (2, u "table"), (0, u "[I"), (2, u "spread"), (0, u "(I)I"), (10, u "additions"), (0, u "I"), (22, .integer 73244475), (2, u "SEEDS"), (4, u "ROWS"), (2, u "CEILING"), (1, u "HALF_MASK"), (0, u "SMALLEST"), (1, u "LARGEST"), (0, u "ADDITIONS_PER_INT")] 13

def k4m0 : Method := { name := "<init>", desc := "()V", sig := { parameters := [], returnType := none }, accessFlags := 0, code := none }
def k4c1 : Code := { maxStack := 3, maxLocals := 2, code := prog_12_method_6_code, exceptionTable := #[], attributes := #[] }
def k4m1 : Method := { name := "spread", desc := "(I)I", sig := { parameters := [.int], returnType := some .int }, accessFlags := 8, code := some k4c1 }
/-- com/example/larder/larder/cache/UseCounts -/
def k4 : Class := { plain "com/example/larder/larder/cache/UseCounts" (some 0) with
  accessFlags := 48
  interfaces := #[]
  cf := some (fileOf pool4 7 #[] #[{ accessFlags := 0, nameIndex := 5, descriptorIndex := 6, attributes := #[] }, { accessFlags := 8, nameIndex := 15, descriptorIndex := 16, attributes := #[] }] 48 2 #[] #[{ accessFlags := 26, nameIndex := 59, descriptorIndex := 28, attributes := #[] }, { accessFlags := 26, nameIndex := 54, descriptorIndex := 12, attributes := #[] }, { accessFlags := 26, nameIndex := 62, descriptorIndex := 28, attributes := #[] }, { accessFlags := 26, nameIndex := 64, descriptorIndex := 28, attributes := #[] }, { accessFlags := 26, nameIndex := 65, descriptorIndex := 28, attributes := #[] }, { accessFlags := 26, nameIndex := 67, descriptorIndex := 28, attributes := #[] }, { accessFlags := 26, nameIndex := 68, descriptorIndex := 28, attributes := #[] }, { accessFlags := 66, nameIndex := 11, descriptorIndex := 12, attributes := #[] }, { accessFlags := 2, nameIndex := 27, descriptorIndex := 28, attributes := #[] }])
  fields := #[{ name := "ROWS", type := .int, accessFlags := 26, slot := 0, constantValue := 0 }, { name := "SEEDS", type := (.array .int), accessFlags := 26, slot := 1, constantValue := 0 }, { name := "CEILING", type := .int, accessFlags := 26, slot := 2, constantValue := 0 }, { name := "HALF_MASK", type := .int, accessFlags := 26, slot := 3, constantValue := 0 }, { name := "SMALLEST", type := .int, accessFlags := 26, slot := 4, constantValue := 0 }, { name := "LARGEST", type := .int, accessFlags := 26, slot := 5, constantValue := 0 }, { name := "ADDITIONS_PER_INT", type := .int, accessFlags := 26, slot := 6, constantValue := 0 }, { name := "table", type := (.array .int), accessFlags := 66, slot := 0, constantValue := 0 }, { name := "additions", type := .int, accessFlags := 2, slot := 1, constantValue := 0 }]
  methods := #[k4m0, k4m1]
  instanceTypes := #[(.array .int), .int]
  staticTypes := #[.int, (.array .int), .int, .int, .int, .int, .int]
  resolved := Array.replicate 82 none
  statics := none }

def pool5 : Array CpInfo := pool [(1, .class_ 2), (0, u "java/io/Serializable"), (0, .class_ 4), (0, u "java/lang/Object")] 2

/-- java/io/Serializable -/
def k5 : Class := { plain "java/io/Serializable" (some 0) with
  accessFlags := 1537
  interfaces := #[]
  cf := some (fileOf pool5 1 #[] #[] 1537 3 #[] #[])
  fields := #[]
  methods := #[]
  instanceTypes := #[]
  staticTypes := #[]
  resolved := Array.replicate 7 none
  statics := none }

def pool6 : Array CpInfo := pool [(2, .class_ 4), (1, u "java/lang/Object"), (0, u "<init>"), (0, u "()V"), (1, .class_ 10), (1, u "java/lang/Number"), (2, .class_ 14), (0, u "java/io/Serializable"), (0, u "serialVersionUID"), (0, u "J")] 20

def k6m0 : Method := { name := "<init>", desc := "()V", sig := { parameters := [], returnType := none }, accessFlags := 1, code := none }
/-- java/lang/Number -/
def k6 : Class := { plain "java/lang/Number" (some 0) with
  accessFlags := 1057
  interfaces := #[5]
  cf := some (fileOf pool6 8 #[] #[{ accessFlags := 1, nameIndex := 5, descriptorIndex := 6, attributes := #[] }] 1057 2 #[13] #[{ accessFlags := 26, nameIndex := 15, descriptorIndex := 16, attributes := #[] }])
  fields := #[{ name := "serialVersionUID", type := .long, accessFlags := 26, slot := 0, constantValue := 0 }]
  methods := #[k6m0]
  instanceTypes := #[]
  staticTypes := #[.long]
  resolved := Array.replicate 37 none
  statics := none }

def pool7 : Array CpInfo := pool [(1, .class_ 2), (0, u "java/lang/Comparable"), (0, .class_ 4), (0, u "java/lang/Object")] 7

/-- java/lang/Comparable -/
def k7 : Class := { plain "java/lang/Comparable" (some 0) with
  accessFlags := 1537
  interfaces := #[]
  cf := some (fileOf pool7 1 #[] #[] 1537 3 #[] #[])
  fields := #[]
  methods := #[]
  instanceTypes := #[]
  staticTypes := #[]
  resolved := Array.replicate 12 none
  statics := none }

def pool8 : Array CpInfo := pool [(1, .class_ 2), (0, u "java/lang/constant/Constable"), (0, .class_ 4), (0, u "java/lang/Object")] 6

/-- java/lang/constant/Constable -/
def k8 : Class := { plain "java/lang/constant/Constable" (some 0) with
  accessFlags := 1537
  interfaces := #[]
  cf := some (fileOf pool8 1 #[] #[] 1537 3 #[] #[])
  fields := #[]
  methods := #[]
  instanceTypes := #[]
  staticTypes := #[]
  resolved := Array.replicate 11 none
  statics := none }

def pool9 : Array CpInfo := pool [(1, .class_ 2), (0, u "java/lang/constant/ConstantDesc"), (0, .class_ 4), (0, u "java/lang/Object")] 32

/-- java/lang/constant/ConstantDesc -/
def k9 : Class := { plain "java/lang/constant/ConstantDesc" (some 0) with
  accessFlags := 1537
  interfaces := #[]
  cf := some (fileOf pool9 1 #[] #[] 1537 3 #[] #[])
  fields := #[]
  methods := #[]
  instanceTypes := #[]
  staticTypes := #[]
  resolved := Array.replicate 37 none
  statics := none }

def pool10 : Array CpInfo := pool [(1, .class_ 2), (0, u "java/lang/Integer"), (16, u "digits"), (0, u "[C"), (30, .methodref 1 52), (0, .nameAndType 53 54), (0, u "numberOfLeadingZeros"), (0, u "(I)I"), (30, u "DigitOnes"), (0, u "[B"), (2, u "DigitTens"), (37, .integer 2147483648), (61, .class_ 190), (0, u "java/lang/Integer$IntegerCache"), (3, u "I"), (8, .class_ 204), (0, u "java/lang/Number"), (2, u "value"), (56, .integer 65536), (37, u "TYPE"), (0, u "Ljava/lang/Class;"), (0, .class_ 305), (0, u "java/lang/Comparable"), (0, .class_ 307), (0, u "java/lang/constant/Constable"), (0, .class_ 309), (0, u "java/lang/constant/ConstantDesc"), (0, u "MIN_VALUE"), (1, u "MAX_VALUE"), (3, u "SIZE"), (1, u "BYTES"), (1, u "serialVersionUID"), (0, u "J"), (81, u "highestOneBit")] 49

def k10c0 : Code := { maxStack := 3, maxLocals := 1, code := jdk_33_method_45_code, exceptionTable := #[], attributes := #[] }
def k10m0 : Method := { name := "highestOneBit", desc := "(I)I", sig := { parameters := [.int], returnType := some .int }, accessFlags := 9, code := some k10c0 }
def k10c1 : Code := { maxStack := 3, maxLocals := 2, code := jdk_33_method_47_code, exceptionTable := #[], attributes := #[] }
def k10m1 : Method := { name := "numberOfLeadingZeros", desc := "(I)I", sig := { parameters := [.int], returnType := some .int }, accessFlags := 9, code := some k10c1 }
/-- java/lang/Integer -/
def k10 : Class := { plain "java/lang/Integer" (some 6) with
  accessFlags := 49
  interfaces := #[7, 8, 9]
  cf := some (fileOf pool10 1 #[.nestMembers #[189]] #[{ accessFlags := 9, nameIndex := 403, descriptorIndex := 54, attributes := #[] }, { accessFlags := 9, nameIndex := 53, descriptorIndex := 54, attributes := #[] }] 49 203 #[304, 306, 308] #[{ accessFlags := 25, nameIndex := 310, descriptorIndex := 194, attributes := #[] }, { accessFlags := 25, nameIndex := 312, descriptorIndex := 194, attributes := #[] }, { accessFlags := 25, nameIndex := 302, descriptorIndex := 303, attributes := #[] }, { accessFlags := 24, nameIndex := 19, descriptorIndex := 20, attributes := #[] }, { accessFlags := 24, nameIndex := 89, descriptorIndex := 86, attributes := #[] }, { accessFlags := 24, nameIndex := 85, descriptorIndex := 86, attributes := #[] }, { accessFlags := 18, nameIndex := 207, descriptorIndex := 194, attributes := #[] }, { accessFlags := 25, nameIndex := 316, descriptorIndex := 194, attributes := #[] }, { accessFlags := 25, nameIndex := 318, descriptorIndex := 194, attributes := #[] }, { accessFlags := 26, nameIndex := 320, descriptorIndex := 321, attributes := #[] }])
  fields := #[{ name := "MIN_VALUE", type := .int, accessFlags := 25, slot := 0, constantValue := 0 }, { name := "MAX_VALUE", type := .int, accessFlags := 25, slot := 1, constantValue := 0 }, { name := "TYPE", type := (.object "java/lang/Class"), accessFlags := 25, slot := 2, constantValue := 0 }, { name := "digits", type := (.array .char), accessFlags := 24, slot := 3, constantValue := 0 }, { name := "DigitTens", type := (.array .byte), accessFlags := 24, slot := 4, constantValue := 0 }, { name := "DigitOnes", type := (.array .byte), accessFlags := 24, slot := 5, constantValue := 0 }, { name := "value", type := .int, accessFlags := 18, slot := 0, constantValue := 0 }, { name := "SIZE", type := .int, accessFlags := 25, slot := 6, constantValue := 0 }, { name := "BYTES", type := .int, accessFlags := 25, slot := 7, constantValue := 0 }, { name := "serialVersionUID", type := .long, accessFlags := 26, slot := 8, constantValue := 0 }]
  methods := #[k10m0, k10m1]
  instanceTypes := #[.int]
  staticTypes := #[.int, .int, (.object "java/lang/Class"), (.array .char), (.array .byte), (.array .byte), .int, .int, .long]
  resolved := Array.replicate 453 none
  statics := none }

def pool11 : Array CpInfo := pool [(1, u "java/lang/Cloneable"), (0, .class_ 1), (0, u "java/lang/Object"), (0, .class_ 3)] 3

/-- java/lang/Cloneable -/
def k11 : Class := { plain "java/lang/Cloneable" (some 0) with
  accessFlags := 1537
  interfaces := #[]
  cf := some (fileOf pool11 2 #[] #[] 1537 4 #[] #[])
  fields := #[]
  methods := #[]
  instanceTypes := #[]
  staticTypes := #[]
  resolved := Array.replicate 8 none
  statics := none }

/-- the primitive byte -/
def k12 : Class := { plain "byte" none with kind := .primitive 'B', accessFlags := 0x411 }
/-- [B -/
def k13 : Class := { plain "[B" (some 0) with kind := .array 12 .byte, interfaces := #[11, 5], accessFlags := 1041 }

/-- the primitive int -/
def k14 : Class := { plain "int" none with kind := .primitive 'I', accessFlags := 0x411 }
/-- [I -/
def k15 : Class := { plain "[I" (some 0) with kind := .array 14 .int, interfaces := #[11, 5], accessFlags := 1041 }

/-- the primitive long -/
def k16 : Class := { plain "long" none with kind := .primitive 'J', accessFlags := 0x411 }
/-- [J -/
def k17 : Class := { plain "[J" (some 0) with kind := .array 16 .long, interfaces := #[11, 5], accessFlags := 1041 }

def heap : Heap := #[]
def classes : Array Class := #[k0, k1, k2, k3, k4, k5, k6, k7, k8, k9, k10, k11, k12, k13, k14, k15, k16, k17]
def interned : List (Array UInt16 × Addr) := []
def slotsUsed : Nat := 0
def theMethod : MethodId := ⟨1, 1⟩
def args0 : Array Value := #[.int 5, .int 5, .int 5, .int 5, .int 5]
def aboutOver (below : List Frame) : State where
  vm := { classes := classes, interned := interned.toArray }
  heap := heap
  slotsUsed := slotsUsed
  threads := #[{ frames := .invoking theMethod args0 :: below }]
def below0 : List Frame := [.native { method := ⟨0, 0⟩, args := #[] }]
def about1 : State := aboutOver below0
def p0 : Program := .bare "" "" ""
def e0 : Env := launch0.env 0 0 0
theorem w_frames : about1.frames = Frame.invoking theMethod args0 :: below0 := rfl
set_option maxRecDepth 65536 in
theorem w_args : argsFit about1.vm theMethod args0 = true := by decide +kernel
set_option maxRecDepth 65536 in
theorem w_heap : heapFits about1 = true := by decide +kernel
set_option maxRecDepth 65536 in
theorem w_runnable : about1.curStatus? = some .runnable := by decide +kernel
set_option maxRecDepth 65536 in
theorem w_alone : about1.alone = true := by decide +kernel
set_option maxRecDepth 65536 in
theorem w_named : about1.methodNamed? x = some theMethod := by decide +kernel
set_option maxRecDepth 65536 in
theorem w_hears : about1.hears theMethod below0 = true := by decide +kernel
set_option maxRecDepth 65536 in
theorem w_ripe : about1.ripe theMethod args0 below0 = true := by decide +kernel
theorem w_running : about1.status = .running := rfl
set_option maxRecDepth 65536 in
theorem w_room : about1.hasRoom e0.platform room_1 = true :=
  launch0.hasRoom_least _ room_1 (by decide +kernel) (by decide +kernel) (by decide +kernel) (by decide +kernel) (by decide +kernel) (by decide +kernel)
theorem allAtoms_all (ts : List Jvm.Cond) (a : Array Jvm.Value) (st : Jvm.State) : (allAtoms ts).before a st = ts.all (fun c => c.before a st) := by
  induction ts with
  | nil => rfl
  | cons c t ih =>
    show (Jvm.Cond.and c (allAtoms t)).before a st = _
    rw [Jvm.Cond.before_and, ih, List.all_cons]
def words1 : List Jvm.Cond := Jvm.Cond.code x code maxLocals ret :: tables_1
/-- a 'code' word, met by the world's own term for the bytes: nothing is compared byte by byte -/
theorem code_word {y : MethodName} {bytes : ByteArray} {mx : Nat} {rt : Option FieldType} {a : Array Value} {s : State} {m : MethodId} {meth : Method} {c : Code} (h1 : s.methodNamed? y = some m) (h2 : s.vm.method? m = some meth) (h3 : meth.code = some c) (h4 : c.code = bytes)
    (h5 : (c.maxLocals == mx && c.exceptionTable.isEmpty && decide (c.maxStack ≤ mostOperands) && decide (meth.sig.returnType = rt) && !meth.locks && decide (parseMethodDescriptor y.desc = some meth.sig)) = true) : (Jvm.Cond.code y bytes mx rt).before a s = true := by
  simp only [Bool.and_eq_true, beq_iff_eq, Bool.not_eq_true', decide_eq_true_eq] at h5
  obtain ⟨⟨⟨⟨⟨g1, g2⟩, g3⟩, g4⟩, g5⟩, g6⟩ := h5
  simp [Cond.before, Cond.holds, Cond.value, h1, h2, h3, h4, g1, g2, g3, g4, g5, g6]
def isCode : Jvm.Cond → Bool
  | .code _ _ _ _ => true
  | _ => false
theorem all_split {L : List Jvm.Cond} {P : Jvm.Cond → Bool} (h1 : L.all (fun c => isCode c || P c) = true) (h2 : ∀ c ∈ L.filter isCode, P c = true) : L.all P = true := by
  refine List.all_eq_true.mpr fun c hc => ?_
  have h := List.all_eq_true.mp h1 c hc
  rcases Bool.eq_false_or_eq_true (isCode c) with hi | hi
  · exact h2 c (List.mem_filter.mpr ⟨hc, hi⟩)
  · simpa [hi] using h
set_option maxRecDepth 65536 in
theorem w_c0 : (Jvm.Cond.code x code maxLocals ret).before args0 about1 = true := code_word (m := ⟨1, 1⟩) (meth := k1m1) (c := k1c1) (by decide +kernel) rfl rfl rfl (by decide +kernel)
set_option maxRecDepth 65536 in
theorem w_c1 : (Jvm.Cond.code ({ cls := "com/example/larder/larder/cache/EvictedKeys", name := "<init>", desc := "(J)V" } : Jvm.MethodName) prog_5_method_1_code (3 : Nat) (Option.none : Option Jvm.ClassFile.FieldType)).before args0 about1 = true := code_word (m := ⟨2, 0⟩) (meth := k2m0) (c := k2c0) (by decide +kernel) rfl rfl rfl (by decide +kernel)
set_option maxRecDepth 65536 in
theorem w_c2 : (Jvm.Cond.code ({ cls := "java/lang/Object", name := "<init>", desc := "()V" } : Jvm.MethodName) object_method_1_code (1 : Nat) (Option.none : Option Jvm.ClassFile.FieldType)).before args0 about1 = true := code_word (m := ⟨0, 0⟩) (meth := k0m0) (c := k0c0) (by decide +kernel) rfl rfl rfl (by decide +kernel)
set_option maxRecDepth 65536 in
theorem w_c3 : (Jvm.Cond.code ({ cls := "java/lang/Math", name := "min", desc := "(JJ)J" } : Jvm.MethodName) jdk_29_method_70_code (4 : Nat) (Option.some Jvm.ClassFile.FieldType.long)).before args0 about1 = true := code_word (m := ⟨3, 1⟩) (meth := k3m1) (c := k3c1) (by decide +kernel) rfl rfl rfl (by decide +kernel)
set_option maxRecDepth 65536 in
theorem w_c4 : (Jvm.Cond.code ({ cls := "com/example/larder/larder/cache/EvictedKeys", name := "recall", desc := "(I)Z" } : Jvm.MethodName) prog_5_method_3_code (7 : Nat) (Option.some Jvm.ClassFile.FieldType.boolean)).before args0 about1 = true := code_word (m := ⟨2, 2⟩) (meth := k2m2) (c := k2c2) (by decide +kernel) rfl rfl rfl (by decide +kernel)
set_option maxRecDepth 65536 in
theorem w_c5 : (Jvm.Cond.code ({ cls := "com/example/larder/larder/cache/UseCounts", name := "spread", desc := "(I)I" } : Jvm.MethodName) prog_12_method_6_code (2 : Nat) (Option.some Jvm.ClassFile.FieldType.int)).before args0 about1 = true := code_word (m := ⟨4, 1⟩) (meth := k4m1) (c := k4c1) (by decide +kernel) rfl rfl rfl (by decide +kernel)
set_option maxRecDepth 65536 in
theorem w_c6 : (Jvm.Cond.code ({ cls := "com/example/larder/larder/cache/EvictedKeys", name := "remember", desc := "(I)V" } : Jvm.MethodName) prog_5_method_2_code (3 : Nat) (Option.none : Option Jvm.ClassFile.FieldType)).before args0 about1 = true := code_word (m := ⟨2, 1⟩) (meth := k2m1) (c := k2c1) (by decide +kernel) rfl rfl rfl (by decide +kernel)
set_option maxRecDepth 65536 in
theorem w_c7 : (Jvm.Cond.code ({ cls := "java/lang/Integer", name := "highestOneBit", desc := "(I)I" } : Jvm.MethodName) jdk_33_method_45_code (1 : Nat) (Option.some Jvm.ClassFile.FieldType.int)).before args0 about1 = true := code_word (m := ⟨10, 0⟩) (meth := k10m0) (c := k10c0) (by decide +kernel) rfl rfl rfl (by decide +kernel)
set_option maxRecDepth 65536 in
theorem w_c8 : (Jvm.Cond.code ({ cls := "java/lang/Integer", name := "numberOfLeadingZeros", desc := "(I)I" } : Jvm.MethodName) jdk_33_method_47_code (2 : Nat) (Option.some Jvm.ClassFile.FieldType.int)).before args0 about1 = true := code_word (m := ⟨10, 1⟩) (meth := k10m1) (c := k10c1) (by decide +kernel) rfl rfl rfl (by decide +kernel)
def codes1 : List Jvm.Cond := [Jvm.Cond.code x code maxLocals ret, Jvm.Cond.code ({ cls := "com/example/larder/larder/cache/EvictedKeys", name := "<init>", desc := "(J)V" } : Jvm.MethodName) prog_5_method_1_code (3 : Nat) (Option.none : Option Jvm.ClassFile.FieldType), Jvm.Cond.code ({ cls := "java/lang/Object", name := "<init>", desc := "()V" } : Jvm.MethodName) object_method_1_code (1 : Nat) (Option.none : Option Jvm.ClassFile.FieldType), Jvm.Cond.code ({ cls := "java/lang/Math", name := "min", desc := "(JJ)J" } : Jvm.MethodName) jdk_29_method_70_code (4 : Nat) (Option.some Jvm.ClassFile.FieldType.long), Jvm.Cond.code ({ cls := "com/example/larder/larder/cache/EvictedKeys", name := "recall", desc := "(I)Z" } : Jvm.MethodName) prog_5_method_3_code (7 : Nat) (Option.some Jvm.ClassFile.FieldType.boolean), Jvm.Cond.code ({ cls := "com/example/larder/larder/cache/UseCounts", name := "spread", desc := "(I)I" } : Jvm.MethodName) prog_12_method_6_code (2 : Nat) (Option.some Jvm.ClassFile.FieldType.int), Jvm.Cond.code ({ cls := "com/example/larder/larder/cache/EvictedKeys", name := "remember", desc := "(I)V" } : Jvm.MethodName) prog_5_method_2_code (3 : Nat) (Option.none : Option Jvm.ClassFile.FieldType), Jvm.Cond.code ({ cls := "java/lang/Integer", name := "highestOneBit", desc := "(I)I" } : Jvm.MethodName) jdk_33_method_45_code (1 : Nat) (Option.some Jvm.ClassFile.FieldType.int), Jvm.Cond.code ({ cls := "java/lang/Integer", name := "numberOfLeadingZeros", desc := "(I)I" } : Jvm.MethodName) jdk_33_method_47_code (2 : Nat) (Option.some Jvm.ClassFile.FieldType.int)]
set_option maxRecDepth 65536 in
theorem codes_eq : words1.filter isCode = codes1 := rfl
theorem w_codes : ∀ c ∈ words1.filter isCode, c.before args0 about1 = true := by
  rw [codes_eq]
  intro c hc
  simp only [codes1, List.mem_cons, List.not_mem_nil, or_false] at hc
  rcases hc with rfl | rfl | rfl | rfl | rfl | rfl | rfl | rfl | rfl
  · exact w_c0
  · exact w_c1
  · exact w_c2
  · exact w_c3
  · exact w_c4
  · exact w_c5
  · exact w_c6
  · exact w_c7
  · exact w_c8
set_option maxRecDepth 65536 in
theorem w_t1 : (words1.take 24).all (fun c => isCode c || c.before args0 about1) = true := by decide +kernel
set_option maxRecDepth 65536 in
theorem w_t2 : (words1.drop 24).all (fun c => isCode c || c.before args0 about1) = true := by decide +kernel
theorem w_tables : (allAtoms (Jvm.Cond.code x code maxLocals ret :: tables_1)).before args0 about1 = true := by
  rw [allAtoms_all]
  show words1.all (fun c => c.before args0 about1) = true
  refine all_split ?_ w_codes
  rw [← List.take_append_drop 24 words1, List.all_append, w_t1, w_t2]
  rfl
set_option maxRecDepth 65536 in
theorem w_case : (Jvm.Cond.and given_1 narrow_1).before args0 about1 = true := by decide +kernel
theorem w_applies : (headSpec (Jvm.Cond.code x code maxLocals ret :: tables_1) room_1).applies x e0.platform about1 = true :=
  (Spec.applies_iff w_frames).mpr ⟨w_running, w_runnable, w_alone, w_named, w_hears, w_ripe, w_room, w_tables⟩
theorem atStart : AtStart classFile x code maxLocals ret World_1 tables_1 room_1 Calls_1 rest_1 Pre_1 launch0 p0 e0 about1 theMethod args0 below0 :=
  ⟨lists_1, trivial, launch0.admits_env _ _ _, launch0.least_env, fairChoices_fair.cas, fairChoices_fair.clock, w_frames, w_args, w_heap, w_applies, trivial, trivial, w_case⟩
end start1
theorem witness_1 : WitnessClaimed_1 := ⟨start1.p0, start1.e0, start1.about1, start1.theMethod, start1.args0, start1.below0, start1.atStart⟩
end Jvm.Pilot.@@N@@
