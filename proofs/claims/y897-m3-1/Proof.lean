import JvmDerived
import JvmDerived.Pilot.@@N@@Statement
import JvmDerived.Pilot.@@N@@Code
set_option linter.unusedVariables false
set_option linter.unusedSimpArgs false
namespace Jvm.RoadKit
open Sem ClassFile Op Lib Jvm.Stand Jvm.Free Jvm.LawKit
section New
variable {p : Program} {l : Launch} {e : Env} {R : Room} {s : State} {m : MethodId} {args : Array Value} {below : List Frame} {meth : Method} {c : Code} {T : State} {locs : List Loc} {cells slots : Nat}
theorem retI (X : Stand p l e R s m args below meth c T locs cells slots) (hx : p.tables.exec = Jvm.exec) {pc : Nat} {Ls : Array Slot} {z : Int32} {rest : List Value} (hret : meth.sig.returnType = some .int) (hd : decode c.code pc = .ok (.ireturn, 1)) {fs : List Frame}
    (hl : ∀ (f : JFrame) (acts : List Action), f.method = m → f.locked = none → f.entered = [] → (doReturn e (T.setTop f) acts (some (.int z))).1 = T.setFrames fs) : Steps p.tables e below (T.setTop (mkF m pc Ls (.int z :: rest))) (T.setFrames fs) := by
  have hm' : T.vm.method? m = some meth := X.method'
  have hn : narrow .int (.int z) = .int z := rfl
  show Steps p.tables e below (T.setTop { method := m, pc := pc, locals := Ls, stack := _ :: rest, locked := none }) _
  jvm_step X.here [X.here.top, hx, hd, hm', hret, hn]
  first | (intro acts; rw [hl _ acts rfl rfl rfl]) | rw [hl _ _ rfl rfl rfl]
  exact Steps.refl _
end New
end Jvm.RoadKit
namespace Jvm.Pilot.@@N@@
open Jvm Jvm.ClassFile Sem Op Lib Jvm.Free Jvm.Stand Jvm.LawKit Jvm.RoadKit Bundle Jvm.Pilot.@@N@@.Jvm.D
section Own
variable {p : Program} {l : Launch} {e : Env} {R : Room} {s : State} {m : MethodId} {args : Array Value} {below : List Frame} {meth : Method} {c : Code} {T T' : State} {locs : List Loc} {cells slots : Nat} {Q : Option Value → Heap → List Loc → Prop} {kc ks : Nat} {pc pc' : Nat} {ls : Array Slot} {st : List Value}
/-- from T with the frame g on top the run comes to its end, as Q asks -/
def own_Ends (p : Program) (e : Env) (below : List Frame) (s : State) (Q : Option Value → Heap → List Loc → Prop) (kc ks : Nat) (T : State) (g : JFrame) : Prop :=
  ∃ s₂ o, Steps p.tables e below (T.setTop g) s₂ ∧ s₂.status = .running ∧ Ended s₂ below o ∧ ∃ v L, o = .returned v ∧ Q v s₂.heap L ∧ FrameEnd s o s₂ L kc ks
theorem own_go {g g' : JFrame} (h : ∀ t, Steps p.tables e below (T'.setTop g') t → Steps p.tables e below (T.setTop g) t) (K : own_Ends p e below s Q kc ks T' g') : own_Ends p e below s Q kc ks T g := by
  obtain ⟨s2, o, h1, r⟩ := K
  exact ⟨s2, o, h _ h1, r⟩
theorem own_cast {g g' : JFrame} (q : g = g') (K : own_Ends p e below s Q kc ks T g') : own_Ends p e below s Q kc ks T g := q ▸ K
theorem own_leave {v : Option Value} {g : JFrame} (X : Stand p l e R s m args below meth c T locs cells slots) (hlk : meth.locks = false) (hv : meth.sig.returnType = none → v = none)
    (hs : ∀ fs, (∀ (f : JFrame) (acts : List Action), f.method = m → f.locked = none → f.entered = [] → (doReturn e (T.setTop f) acts v).1 = T.setFrames fs) → Steps p.tables e below (T.setTop g) (T.setFrames fs)) (hc : cells ≤ kc) (hn : slots ≤ ks) (hQ : Q v T.heap locs) : own_Ends p e below s Q kc ks T g := by
  obtain ⟨fs, hr, hrun, hended, hW, hsame⟩ := X.leave (v := v) hv hlk
  exact ⟨_, _, hs fs hr, hrun, hended, _, _, rfl, hQ, ⟨_, rfl⟩, hW, hsame.mono hc hn⟩
theorem own_retI (X : Stand p l e R s m args below meth c T locs cells slots) (hx : p.tables.exec = Jvm.exec) (hlk : meth.locks = false) {z : Int32} (hret : meth.sig.returnType = some .int) (hd : decode c.code pc = .ok (.ireturn, 1)) (hc : cells ≤ kc) (hn : slots ≤ ks) (hQ : Q (some (.int z)) T.heap locs) : own_Ends p e below s Q kc ks T (mkF m pc ls (.int z :: st)) :=
  own_leave X hlk (fun h => by rw [hret] at h; cases h) (fun fs hr => retI X hx hret hd hr) hc hn hQ
theorem own_retN (X : Stand p l e R s m args below meth c T locs cells slots) (hx : p.tables.exec = Jvm.exec) (hlk : meth.locks = false) {z : Int32} {ty : FieldType} (hret : meth.sig.returnType = some ty) (ht : ty = .boolean ∨ ty = .byte ∨ ty = .char ∨ ty = .short) (hd : decode c.code pc = .ok (.ireturn, 1)) (hc : cells ≤ kc) (hn : slots ≤ ks) (hQ : Q (some (.int (nar ty z))) T.heap locs) : own_Ends p e below s Q kc ks T (mkF m pc ls (.int z :: st)) :=
  own_leave X hlk (fun h => by rw [hret] at h; cases h) (fun fs hr => retN X hx (t := ty) hret ht hd hr) hc hn hQ
theorem own_retL (X : Stand p l e R s m args below meth c T locs cells slots) (hx : p.tables.exec = Jvm.exec) (hlk : meth.locks = false) {z : Int64} (hret : meth.sig.returnType = some .long) (hd : decode c.code pc = .ok (.lreturn, 1)) (hc : cells ≤ kc) (hn : slots ≤ ks) (hQ : Q (some (.long z)) T.heap locs) : own_Ends p e below s Q kc ks T (mkF m pc ls [.long z]) :=
  own_leave X hlk (fun h => by rw [hret] at h; cases h) (fun fs hr => retOut X hx (t := .long) hret rfl (Or.inr (Or.inl ⟨rfl, rfl, _, rfl⟩)) hd hr) hc hn hQ
theorem own_retD (X : Stand p l e R s m args below meth c T locs cells slots) (hx : p.tables.exec = Jvm.exec) (hlk : meth.locks = false) {z : UInt64} (hret : meth.sig.returnType = some .double) (hd : decode c.code pc = .ok (.dreturn, 1)) (hc : cells ≤ kc) (hn : slots ≤ ks) (hQ : Q (some (.double z)) T.heap locs) : own_Ends p e below s Q kc ks T (mkF m pc ls [.double z]) :=
  own_leave X hlk (fun h => by rw [hret] at h; cases h) (fun fs hr => retOut X hx (t := .double) hret rfl (Or.inr (Or.inr (Or.inl ⟨rfl, rfl, _, rfl⟩))) hd hr) hc hn hQ
theorem own_retA (X : Stand p l e R s m args below meth c T locs cells slots) (hx : p.tables.exec = Jvm.exec) (hlk : meth.locks = false) {w : Value} {ty : FieldType} (hret : meth.sig.returnType = some ty) (ht : ty.isReference = true) (hw : w.isRef = true) (hn1 : narrow ty w = w) (hd : decode c.code pc = .ok (.areturn, 1)) (hc : cells ≤ kc) (hn : slots ≤ ks) (hQ : Q (some w) T.heap locs) : own_Ends p e below s Q kc ks T (mkF m pc ls (w :: st)) :=
  own_leave X hlk (fun h => by rw [hret] at h; cases h) (fun fs hr => retOut X hx (t := ty) hret hn1 (Or.inr (Or.inr (Or.inr (Or.inr ⟨rfl, ht, hw⟩)))) hd hr) hc hn hQ
theorem own_retV (X : Stand p l e R s m args below meth c T locs cells slots) (hx : p.tables.exec = Jvm.exec) (hlk : meth.locks = false) (hret : meth.sig.returnType = none) (hd : decode c.code pc = .ok (.return_, 1)) (hc : cells ≤ kc) (hn : slots ≤ ks) (hQ : Q none T.heap locs) : own_Ends p e below s Q kc ks T (mkF m pc ls []) :=
  own_leave X hlk (fun _ => rfl) (fun fs hr => X.returnOut hx hret hd hr) hc hn hQ
theorem own_iloadN (X : Stand p l e R s m args below meth c T locs cells slots) (hx : p.tables.exec = Jvm.exec) {k : Fin 4} {v : Int32} (hd : decode c.code pc = .ok (.iload_n k, 1)) (hp : pc + 1 = pc') (hl : ls[k.val]? = some (.val (.int v))) (K : own_Ends p e below s Q kc ks T (mkF m pc' ls (.int v :: st))) : own_Ends p e below s Q kc ks T (mkF m pc ls st) := by
  subst hp
  exact own_go (fun t k => XS.iloadN X.here hx rfl hd hl k) K
theorem own_iload (X : Stand p l e R s m args below meth c T locs cells slots) (hx : p.tables.exec = Jvm.exec) {k : Nat} {v : Int32} (hd : decode c.code pc = .ok (.iload k, 2)) (hp : pc + 2 = pc') (hl : ls[k]? = some (.val (.int v))) (K : own_Ends p e below s Q kc ks T (mkF m pc' ls (.int v :: st))) : own_Ends p e below s Q kc ks T (mkF m pc ls st) := by
  subst hp
  exact own_go (fun t k => XS.iload X.here hx rfl hd hl k) K
theorem own_istoreN (X : Stand p l e R s m args below meth c T locs cells slots) (hx : p.tables.exec = Jvm.exec) {k : Fin 4} {v : Int32} {l' : Array Slot} (hd : decode c.code pc = .ok (.istore_n k, 1)) (hp : pc + 1 = pc') (hl : storeLocals ls k.val (.int v) = some l') (K : own_Ends p e below s Q kc ks T (mkF m pc' l' st)) : own_Ends p e below s Q kc ks T (mkF m pc ls (.int v :: st)) := by
  subst hp
  exact own_go (fun t k => XS.istoreN X.here hx rfl hd rfl hl k) K
theorem own_istore (X : Stand p l e R s m args below meth c T locs cells slots) (hx : p.tables.exec = Jvm.exec) {k : Nat} {v : Int32} {l' : Array Slot} (hd : decode c.code pc = .ok (.istore k, 2)) (hp : pc + 2 = pc') (hl : storeLocals ls k (.int v) = some l') (K : own_Ends p e below s Q kc ks T (mkF m pc' l' st)) : own_Ends p e below s Q kc ks T (mkF m pc ls (.int v :: st)) := by
  subst hp
  exact own_go (fun t k => XS.istore X.here hx rfl hd rfl hl k) K
theorem own_lloadN (X : Stand p l e R s m args below meth c T locs cells slots) (hx : p.tables.exec = Jvm.exec) {k : Fin 4} {v : Int64} (hd : decode c.code pc = .ok (.lload_n k, 1)) (hp : pc + 1 = pc') (hl : ls[k.val]? = some (.val (.long v))) (K : own_Ends p e below s Q kc ks T (mkF m pc' ls (.long v :: st))) : own_Ends p e below s Q kc ks T (mkF m pc ls st) := by
  subst hp
  exact own_go (fun t k => XS.lloadN X.here hx rfl hd hl k) K
theorem own_lload (X : Stand p l e R s m args below meth c T locs cells slots) (hx : p.tables.exec = Jvm.exec) {k : Nat} {v : Int64} (hd : decode c.code pc = .ok (.lload k, 2)) (hp : pc + 2 = pc') (hl : ls[k]? = some (.val (.long v))) (K : own_Ends p e below s Q kc ks T (mkF m pc' ls (.long v :: st))) : own_Ends p e below s Q kc ks T (mkF m pc ls st) := by
  subst hp
  exact own_go (fun t k => XS.lload X.here hx rfl hd hl k) K
theorem own_lstoreN (X : Stand p l e R s m args below meth c T locs cells slots) (hx : p.tables.exec = Jvm.exec) {k : Fin 4} {v : Int64} {l' : Array Slot} (hd : decode c.code pc = .ok (.lstore_n k, 1)) (hp : pc + 1 = pc') (hl : storeLocals ls k.val (.long v) = some l') (K : own_Ends p e below s Q kc ks T (mkF m pc' l' st)) : own_Ends p e below s Q kc ks T (mkF m pc ls (.long v :: st)) := by
  subst hp
  exact own_go (fun t k => XS.lstoreN X.here hx rfl hd rfl hl k) K
theorem own_lstore (X : Stand p l e R s m args below meth c T locs cells slots) (hx : p.tables.exec = Jvm.exec) {k : Nat} {v : Int64} {l' : Array Slot} (hd : decode c.code pc = .ok (.lstore k, 2)) (hp : pc + 2 = pc') (hl : storeLocals ls k (.long v) = some l') (K : own_Ends p e below s Q kc ks T (mkF m pc' l' st)) : own_Ends p e below s Q kc ks T (mkF m pc ls (.long v :: st)) := by
  subst hp
  exact own_go (fun t k => XS.lstore X.here hx rfl hd rfl hl k) K
theorem own_dloadN (X : Stand p l e R s m args below meth c T locs cells slots) (hx : p.tables.exec = Jvm.exec) {k : Fin 4} {v : UInt64} (hd : decode c.code pc = .ok (.dload_n k, 1)) (hp : pc + 1 = pc') (hl : ls[k.val]? = some (.val (.double v))) (K : own_Ends p e below s Q kc ks T (mkF m pc' ls (.double v :: st))) : own_Ends p e below s Q kc ks T (mkF m pc ls st) := by
  subst hp
  exact own_go (fun t k => XS.dloadN X.here hx rfl hd hl k) K
theorem own_dload (X : Stand p l e R s m args below meth c T locs cells slots) (hx : p.tables.exec = Jvm.exec) {k : Nat} {v : UInt64} (hd : decode c.code pc = .ok (.dload k, 2)) (hp : pc + 2 = pc') (hl : ls[k]? = some (.val (.double v))) (K : own_Ends p e below s Q kc ks T (mkF m pc' ls (.double v :: st))) : own_Ends p e below s Q kc ks T (mkF m pc ls st) := by
  subst hp
  exact own_go (fun t k => XS.dload X.here hx rfl hd hl k) K
theorem own_dstoreN (X : Stand p l e R s m args below meth c T locs cells slots) (hx : p.tables.exec = Jvm.exec) {k : Fin 4} {v : UInt64} {l' : Array Slot} (hd : decode c.code pc = .ok (.dstore_n k, 1)) (hp : pc + 1 = pc') (hl : storeLocals ls k.val (.double v) = some l') (K : own_Ends p e below s Q kc ks T (mkF m pc' l' st)) : own_Ends p e below s Q kc ks T (mkF m pc ls (.double v :: st)) := by
  subst hp
  exact own_go (fun t k => XS.dstoreN X.here hx rfl hd rfl hl k) K
theorem own_dstore (X : Stand p l e R s m args below meth c T locs cells slots) (hx : p.tables.exec = Jvm.exec) {k : Nat} {v : UInt64} {l' : Array Slot} (hd : decode c.code pc = .ok (.dstore k, 2)) (hp : pc + 2 = pc') (hl : storeLocals ls k (.double v) = some l') (K : own_Ends p e below s Q kc ks T (mkF m pc' l' st)) : own_Ends p e below s Q kc ks T (mkF m pc ls (.double v :: st)) := by
  subst hp
  exact own_go (fun t k => XS.dstore X.here hx rfl hd rfl hl k) K
theorem own_aloadN (X : Stand p l e R s m args below meth c T locs cells slots) (hx : p.tables.exec = Jvm.exec) {k : Fin 4} {v : Value} (hd : decode c.code pc = .ok (.aload_n k, 1)) (hp : pc + 1 = pc') (hl : ls[k.val]? = some (.val v)) (hv : v.isRef = true) (K : own_Ends p e below s Q kc ks T (mkF m pc' ls (v :: st))) : own_Ends p e below s Q kc ks T (mkF m pc ls st) := by
  subst hp
  exact own_go (fun t k => XS.aloadN X.here hx rfl hd hl hv k) K
theorem own_aload (X : Stand p l e R s m args below meth c T locs cells slots) (hx : p.tables.exec = Jvm.exec) {k : Nat} {v : Value} (hd : decode c.code pc = .ok (.aload k, 2)) (hp : pc + 2 = pc') (hl : ls[k]? = some (.val v)) (hv : v.isRef = true) (K : own_Ends p e below s Q kc ks T (mkF m pc' ls (v :: st))) : own_Ends p e below s Q kc ks T (mkF m pc ls st) := by
  subst hp
  exact own_go (fun t k => XS.aload X.here hx rfl hd hl hv k) K
theorem own_astoreN (X : Stand p l e R s m args below meth c T locs cells slots) (hx : p.tables.exec = Jvm.exec) {k : Fin 4} {v : Value} {l' : Array Slot} (hd : decode c.code pc = .ok (.astore_n k, 1)) (hp : pc + 1 = pc') (hv : v.isRef = true) (hl : storeLocals ls k.val v = some l') (K : own_Ends p e below s Q kc ks T (mkF m pc' l' st)) : own_Ends p e below s Q kc ks T (mkF m pc ls (v :: st)) := by
  subst hp
  exact own_go (fun t k => XS.astoreN X.here hx rfl hd rfl hv hl k) K
theorem own_astore (X : Stand p l e R s m args below meth c T locs cells slots) (hx : p.tables.exec = Jvm.exec) {k : Nat} {v : Value} {l' : Array Slot} (hd : decode c.code pc = .ok (.astore k, 2)) (hp : pc + 2 = pc') (hv : v.isRef = true) (hl : storeLocals ls k v = some l') (K : own_Ends p e below s Q kc ks T (mkF m pc' l' st)) : own_Ends p e below s Q kc ks T (mkF m pc ls (v :: st)) := by
  subst hp
  exact own_go (fun t k => XS.astore X.here hx rfl hd rfl hv hl k) K
theorem own_iconst (X : Stand p l e R s m args below meth c T locs cells slots) (hx : p.tables.exec = Jvm.exec) {i : Int} {z : Int32} (hd : decode c.code pc = .ok (.iconst i, 1)) (hp : pc + 1 = pc') (hz : Int32.ofInt i = z) (K : own_Ends p e below s Q kc ks T (mkF m pc' ls (.int z :: st))) : own_Ends p e below s Q kc ks T (mkF m pc ls st) := by
  subst hp hz
  exact own_go (fun t k => XS.iconst X.here hx rfl hd k) K
theorem own_bipush (X : Stand p l e R s m args below meth c T locs cells slots) (hx : p.tables.exec = Jvm.exec) {i : Int} {z : Int32} (hd : decode c.code pc = .ok (.bipush i, 2)) (hp : pc + 2 = pc') (hz : (Int8.ofInt i).toInt32 = z) (K : own_Ends p e below s Q kc ks T (mkF m pc' ls (.int z :: st))) : own_Ends p e below s Q kc ks T (mkF m pc ls st) := by
  subst hp hz
  exact own_go (fun t k => XS.bipush X.here hx rfl hd k) K
theorem own_sipush (X : Stand p l e R s m args below meth c T locs cells slots) (hx : p.tables.exec = Jvm.exec) {i : Int} {z : Int32} (hd : decode c.code pc = .ok (.sipush i, 3)) (hp : pc + 3 = pc') (hz : (Int16.ofInt i).toInt32 = z) (K : own_Ends p e below s Q kc ks T (mkF m pc' ls (.int z :: st))) : own_Ends p e below s Q kc ks T (mkF m pc ls st) := by
  subst hp hz
  exact own_go (fun t k => XS.sipush X.here hx rfl hd k) K
theorem own_lconst (X : Stand p l e R s m args below meth c T locs cells slots) (hx : p.tables.exec = Jvm.exec) {k : Fin 2} {z : Int64} (hd : decode c.code pc = .ok (.lconst k, 1)) (hp : pc + 1 = pc') (hz : Int64.ofNat k = z) (K : own_Ends p e below s Q kc ks T (mkF m pc' ls (.long z :: st))) : own_Ends p e below s Q kc ks T (mkF m pc ls st) := by
  subst hp hz
  exact own_go (fun t k => XS.lconst X.here hx rfl hd k) K
theorem own_anull (X : Stand p l e R s m args below meth c T locs cells slots) (hx : p.tables.exec = Jvm.exec) (hd : decode c.code pc = .ok (.aconst_null, 1)) (hp : pc + 1 = pc')  (K : own_Ends p e below s Q kc ks T (mkF m pc' ls (.null :: st))) : own_Ends p e below s Q kc ks T (mkF m pc ls st) := by
  subst hp
  exact own_go (fun t k => XS.aconstNull X.here hx rfl hd k) K
theorem own_iadd (X : Stand p l e R s m args below meth c T locs cells slots) (hx : p.tables.exec = Jvm.exec) {x y z : Int32} (hd : decode c.code pc = .ok (.iadd, 1)) (hp : pc + 1 = pc') (hz : x + y = z) (K : own_Ends p e below s Q kc ks T (mkF m pc' ls (.int z :: st))) : own_Ends p e below s Q kc ks T (mkF m pc ls (.int y :: .int x :: st)) := by
  subst hp hz
  exact own_go (fun t k => XS.iadd X.here hx rfl hd rfl k) K
theorem own_ladd (X : Stand p l e R s m args below meth c T locs cells slots) (hx : p.tables.exec = Jvm.exec) {x y z : Int64} (hd : decode c.code pc = .ok (.ladd, 1)) (hp : pc + 1 = pc') (hz : x + y = z) (K : own_Ends p e below s Q kc ks T (mkF m pc' ls (.long z :: st))) : own_Ends p e below s Q kc ks T (mkF m pc ls (.long y :: .long x :: st)) := by
  subst hp hz
  exact own_go (fun t k => XS.ladd X.here hx rfl hd rfl k) K
theorem own_isub (X : Stand p l e R s m args below meth c T locs cells slots) (hx : p.tables.exec = Jvm.exec) {x y z : Int32} (hd : decode c.code pc = .ok (.isub, 1)) (hp : pc + 1 = pc') (hz : x - y = z) (K : own_Ends p e below s Q kc ks T (mkF m pc' ls (.int z :: st))) : own_Ends p e below s Q kc ks T (mkF m pc ls (.int y :: .int x :: st)) := by
  subst hp hz
  exact own_go (fun t k => XS.isub X.here hx rfl hd rfl k) K
theorem own_lsub (X : Stand p l e R s m args below meth c T locs cells slots) (hx : p.tables.exec = Jvm.exec) {x y z : Int64} (hd : decode c.code pc = .ok (.lsub, 1)) (hp : pc + 1 = pc') (hz : x - y = z) (K : own_Ends p e below s Q kc ks T (mkF m pc' ls (.long z :: st))) : own_Ends p e below s Q kc ks T (mkF m pc ls (.long y :: .long x :: st)) := by
  subst hp hz
  exact own_go (fun t k => XS.lsub X.here hx rfl hd rfl k) K
theorem own_imul (X : Stand p l e R s m args below meth c T locs cells slots) (hx : p.tables.exec = Jvm.exec) {x y z : Int32} (hd : decode c.code pc = .ok (.imul, 1)) (hp : pc + 1 = pc') (hz : x * y = z) (K : own_Ends p e below s Q kc ks T (mkF m pc' ls (.int z :: st))) : own_Ends p e below s Q kc ks T (mkF m pc ls (.int y :: .int x :: st)) := by
  subst hp hz
  exact own_go (fun t k => XS.imul X.here hx rfl hd rfl k) K
theorem own_lmul (X : Stand p l e R s m args below meth c T locs cells slots) (hx : p.tables.exec = Jvm.exec) {x y z : Int64} (hd : decode c.code pc = .ok (.lmul, 1)) (hp : pc + 1 = pc') (hz : x * y = z) (K : own_Ends p e below s Q kc ks T (mkF m pc' ls (.long z :: st))) : own_Ends p e below s Q kc ks T (mkF m pc ls (.long y :: .long x :: st)) := by
  subst hp hz
  exact own_go (fun t k => XS.lmul X.here hx rfl hd rfl k) K
theorem own_iand (X : Stand p l e R s m args below meth c T locs cells slots) (hx : p.tables.exec = Jvm.exec) {x y z : Int32} (hd : decode c.code pc = .ok (.iand, 1)) (hp : pc + 1 = pc') (hz : x &&& y = z) (K : own_Ends p e below s Q kc ks T (mkF m pc' ls (.int z :: st))) : own_Ends p e below s Q kc ks T (mkF m pc ls (.int y :: .int x :: st)) := by
  subst hp hz
  exact own_go (fun t k => XS.iand X.here hx rfl hd rfl k) K
theorem own_land (X : Stand p l e R s m args below meth c T locs cells slots) (hx : p.tables.exec = Jvm.exec) {x y z : Int64} (hd : decode c.code pc = .ok (.land, 1)) (hp : pc + 1 = pc') (hz : x &&& y = z) (K : own_Ends p e below s Q kc ks T (mkF m pc' ls (.long z :: st))) : own_Ends p e below s Q kc ks T (mkF m pc ls (.long y :: .long x :: st)) := by
  subst hp hz
  exact own_go (fun t k => XS.land X.here hx rfl hd rfl k) K
theorem own_ior (X : Stand p l e R s m args below meth c T locs cells slots) (hx : p.tables.exec = Jvm.exec) {x y z : Int32} (hd : decode c.code pc = .ok (.ior, 1)) (hp : pc + 1 = pc') (hz : x ||| y = z) (K : own_Ends p e below s Q kc ks T (mkF m pc' ls (.int z :: st))) : own_Ends p e below s Q kc ks T (mkF m pc ls (.int y :: .int x :: st)) := by
  subst hp hz
  exact own_go (fun t k => XS.ior X.here hx rfl hd rfl k) K
theorem own_lor (X : Stand p l e R s m args below meth c T locs cells slots) (hx : p.tables.exec = Jvm.exec) {x y z : Int64} (hd : decode c.code pc = .ok (.lor, 1)) (hp : pc + 1 = pc') (hz : x ||| y = z) (K : own_Ends p e below s Q kc ks T (mkF m pc' ls (.long z :: st))) : own_Ends p e below s Q kc ks T (mkF m pc ls (.long y :: .long x :: st)) := by
  subst hp hz
  exact own_go (fun t k => XS.lor X.here hx rfl hd rfl k) K
theorem own_ixor (X : Stand p l e R s m args below meth c T locs cells slots) (hx : p.tables.exec = Jvm.exec) {x y z : Int32} (hd : decode c.code pc = .ok (.ixor, 1)) (hp : pc + 1 = pc') (hz : x ^^^ y = z) (K : own_Ends p e below s Q kc ks T (mkF m pc' ls (.int z :: st))) : own_Ends p e below s Q kc ks T (mkF m pc ls (.int y :: .int x :: st)) := by
  subst hp hz
  exact own_go (fun t k => XS.ixor X.here hx rfl hd rfl k) K
theorem own_lxor (X : Stand p l e R s m args below meth c T locs cells slots) (hx : p.tables.exec = Jvm.exec) {x y z : Int64} (hd : decode c.code pc = .ok (.lxor, 1)) (hp : pc + 1 = pc') (hz : x ^^^ y = z) (K : own_Ends p e below s Q kc ks T (mkF m pc' ls (.long z :: st))) : own_Ends p e below s Q kc ks T (mkF m pc ls (.long y :: .long x :: st)) := by
  subst hp hz
  exact own_go (fun t k => XS.lxor X.here hx rfl hd rfl k) K
theorem own_ishl (X : Stand p l e R s m args below meth c T locs cells slots) (hx : p.tables.exec = Jvm.exec) {x y z : Int32} (hd : decode c.code pc = .ok (.ishl, 1)) (hp : pc + 1 = pc') (hz : x <<< (y &&& 31) = z) (K : own_Ends p e below s Q kc ks T (mkF m pc' ls (.int z :: st))) : own_Ends p e below s Q kc ks T (mkF m pc ls (.int y :: .int x :: st)) := by
  subst hp hz
  exact own_go (fun t k => XS.ishl X.here hx rfl hd rfl k) K
theorem own_ishr (X : Stand p l e R s m args below meth c T locs cells slots) (hx : p.tables.exec = Jvm.exec) {x y z : Int32} (hd : decode c.code pc = .ok (.ishr, 1)) (hp : pc + 1 = pc') (hz : x >>> (y &&& 31) = z) (K : own_Ends p e below s Q kc ks T (mkF m pc' ls (.int z :: st))) : own_Ends p e below s Q kc ks T (mkF m pc ls (.int y :: .int x :: st)) := by
  subst hp hz
  exact own_go (fun t k => XS.ishr X.here hx rfl hd rfl k) K
theorem own_iushr (X : Stand p l e R s m args below meth c T locs cells slots) (hx : p.tables.exec = Jvm.exec) {x y z : Int32} (hd : decode c.code pc = .ok (.iushr, 1)) (hp : pc + 1 = pc') (hz : (x.toUInt32 >>> (y &&& 31).toUInt32).toInt32 = z) (K : own_Ends p e below s Q kc ks T (mkF m pc' ls (.int z :: st))) : own_Ends p e below s Q kc ks T (mkF m pc ls (.int y :: .int x :: st)) := by
  subst hp hz
  exact own_go (fun t k => XS.iushr X.here hx rfl hd rfl k) K
theorem own_lshl (X : Stand p l e R s m args below meth c T locs cells slots) (hx : p.tables.exec = Jvm.exec) {x z : Int64} {y : Int32} (hd : decode c.code pc = .ok (.lshl, 1)) (hp : pc + 1 = pc') (hz : x <<< (y &&& 0x3f).toInt64 = z) (K : own_Ends p e below s Q kc ks T (mkF m pc' ls (.long z :: st))) : own_Ends p e below s Q kc ks T (mkF m pc ls (.int y :: .long x :: st)) := by
  subst hp hz
  exact own_go (fun t k => XS.lshl X.here hx rfl hd rfl k) K
theorem own_lshr (X : Stand p l e R s m args below meth c T locs cells slots) (hx : p.tables.exec = Jvm.exec) {x z : Int64} {y : Int32} (hd : decode c.code pc = .ok (.lshr, 1)) (hp : pc + 1 = pc') (hz : x >>> (y &&& 0x3f).toInt64 = z) (K : own_Ends p e below s Q kc ks T (mkF m pc' ls (.long z :: st))) : own_Ends p e below s Q kc ks T (mkF m pc ls (.int y :: .long x :: st)) := by
  subst hp hz
  exact own_go (fun t k => XS.lshr X.here hx rfl hd rfl k) K
theorem own_lushr (X : Stand p l e R s m args below meth c T locs cells slots) (hx : p.tables.exec = Jvm.exec) {x z : Int64} {y : Int32} (hd : decode c.code pc = .ok (.lushr, 1)) (hp : pc + 1 = pc') (hz : (x.toUInt64 >>> (y &&& 0x3f).toInt64.toUInt64).toInt64 = z) (K : own_Ends p e below s Q kc ks T (mkF m pc' ls (.long z :: st))) : own_Ends p e below s Q kc ks T (mkF m pc ls (.int y :: .long x :: st)) := by
  subst hp hz
  exact own_go (fun t k => XS.lushr X.here hx rfl hd rfl k) K
theorem own_idiv (X : Stand p l e R s m args below meth c T locs cells slots) (hx : p.tables.exec = Jvm.exec) {x y z : Int32} (hd : decode c.code pc = .ok (.idiv, 1)) (hp : pc + 1 = pc') (hy : y ≠ 0) (hz : x / y = z) (K : own_Ends p e below s Q kc ks T (mkF m pc' ls (.int z :: st))) : own_Ends p e below s Q kc ks T (mkF m pc ls (.int y :: .int x :: st)) := by
  subst hp hz
  exact own_go (fun t k => XS.idiv X.here hx rfl hd rfl hy k) K
theorem own_irem (X : Stand p l e R s m args below meth c T locs cells slots) (hx : p.tables.exec = Jvm.exec) {x y z : Int32} (hd : decode c.code pc = .ok (.irem, 1)) (hp : pc + 1 = pc') (hy : y ≠ 0) (hz : x % y = z) (K : own_Ends p e below s Q kc ks T (mkF m pc' ls (.int z :: st))) : own_Ends p e below s Q kc ks T (mkF m pc ls (.int y :: .int x :: st)) := by
  subst hp hz
  exact own_go (fun t k => iremM (g := mkF m pc ls (.int y :: .int x :: st)) X hx rfl hd rfl hy k) K
theorem own_ldiv (X : Stand p l e R s m args below meth c T locs cells slots) (hx : p.tables.exec = Jvm.exec) {x y z : Int64} (hd : decode c.code pc = .ok (.ldiv, 1)) (hp : pc + 1 = pc') (hy : y ≠ 0) (hz : x / y = z) (K : own_Ends p e below s Q kc ks T (mkF m pc' ls (.long z :: st))) : own_Ends p e below s Q kc ks T (mkF m pc ls (.long y :: .long x :: st)) := by
  subst hp hz
  exact own_go (fun t k => XS.ldiv X.here hx rfl hd rfl hy k) K
theorem own_lrem (X : Stand p l e R s m args below meth c T locs cells slots) (hx : p.tables.exec = Jvm.exec) {x y z : Int64} (hd : decode c.code pc = .ok (.lrem, 1)) (hp : pc + 1 = pc') (hy : y ≠ 0) (hz : x - (x / y) * y = z) (K : own_Ends p e below s Q kc ks T (mkF m pc' ls (.long z :: st))) : own_Ends p e below s Q kc ks T (mkF m pc ls (.long y :: .long x :: st)) := by
  subst hp hz
  exact own_go (fun t k => XS.lrem X.here hx rfl hd rfl hy k) K
theorem own_ineg (X : Stand p l e R s m args below meth c T locs cells slots) (hx : p.tables.exec = Jvm.exec) {x : Int32} {z : Int32} (hd : decode c.code pc = .ok (.ineg, 1)) (hp : pc + 1 = pc') (hz : -x = z) (K : own_Ends p e below s Q kc ks T (mkF m pc' ls (.int z :: st))) : own_Ends p e below s Q kc ks T (mkF m pc ls (.int x :: st)) := by
  subst hp hz
  exact own_go (fun t k => XS.ineg X.here hx rfl hd rfl k) K
theorem own_lneg (X : Stand p l e R s m args below meth c T locs cells slots) (hx : p.tables.exec = Jvm.exec) {x : Int64} {z : Int64} (hd : decode c.code pc = .ok (.lneg, 1)) (hp : pc + 1 = pc') (hz : -x = z) (K : own_Ends p e below s Q kc ks T (mkF m pc' ls (.long z :: st))) : own_Ends p e below s Q kc ks T (mkF m pc ls (.long x :: st)) := by
  subst hp hz
  exact own_go (fun t k => XS.lneg X.here hx rfl hd rfl k) K
theorem own_i2l (X : Stand p l e R s m args below meth c T locs cells slots) (hx : p.tables.exec = Jvm.exec) {x : Int32} {z : Int64} (hd : decode c.code pc = .ok (.i2l, 1)) (hp : pc + 1 = pc') (hz : x.toInt64 = z) (K : own_Ends p e below s Q kc ks T (mkF m pc' ls (.long z :: st))) : own_Ends p e below s Q kc ks T (mkF m pc ls (.int x :: st)) := by
  subst hp hz
  exact own_go (fun t k => XS.i2l X.here hx rfl hd rfl k) K
theorem own_l2i (X : Stand p l e R s m args below meth c T locs cells slots) (hx : p.tables.exec = Jvm.exec) {x : Int64} {z : Int32} (hd : decode c.code pc = .ok (.l2i, 1)) (hp : pc + 1 = pc') (hz : x.toInt32 = z) (K : own_Ends p e below s Q kc ks T (mkF m pc' ls (.int z :: st))) : own_Ends p e below s Q kc ks T (mkF m pc ls (.long x :: st)) := by
  subst hp hz
  exact own_go (fun t k => XS.l2i X.here hx rfl hd rfl k) K
theorem own_i2b (X : Stand p l e R s m args below meth c T locs cells slots) (hx : p.tables.exec = Jvm.exec) {x : Int32} {z : Int32} (hd : decode c.code pc = .ok (.i2b, 1)) (hp : pc + 1 = pc') (hz : x.toInt8.toInt32 = z) (K : own_Ends p e below s Q kc ks T (mkF m pc' ls (.int z :: st))) : own_Ends p e below s Q kc ks T (mkF m pc ls (.int x :: st)) := by
  subst hp hz
  exact own_go (fun t k => XS.i2b X.here hx rfl hd rfl k) K
theorem own_i2s (X : Stand p l e R s m args below meth c T locs cells slots) (hx : p.tables.exec = Jvm.exec) {x : Int32} {z : Int32} (hd : decode c.code pc = .ok (.i2s, 1)) (hp : pc + 1 = pc') (hz : x.toInt16.toInt32 = z) (K : own_Ends p e below s Q kc ks T (mkF m pc' ls (.int z :: st))) : own_Ends p e below s Q kc ks T (mkF m pc ls (.int x :: st)) := by
  subst hp hz
  exact own_go (fun t k => XS.i2s X.here hx rfl hd rfl k) K
theorem own_i2c (X : Stand p l e R s m args below meth c T locs cells slots) (hx : p.tables.exec = Jvm.exec) {x : Int32} {z : Int32} (hd : decode c.code pc = .ok (.i2c, 1)) (hp : pc + 1 = pc') (hz : x.toUInt32.toUInt16.toUInt32.toInt32 = z) (K : own_Ends p e below s Q kc ks T (mkF m pc' ls (.int z :: st))) : own_Ends p e below s Q kc ks T (mkF m pc ls (.int x :: st)) := by
  subst hp hz
  exact own_go (fun t k => XS.i2c X.here hx rfl hd rfl k) K
theorem own_i2d (X : Stand p l e R s m args below meth c T locs cells slots) (hx : p.tables.exec = Jvm.exec) {x : Int32} {z : UInt64} (hd : decode c.code pc = .ok (.i2d, 1)) (hp : pc + 1 = pc') (hz : FP.i2d x = z) (K : own_Ends p e below s Q kc ks T (mkF m pc' ls (.double z :: st))) : own_Ends p e below s Q kc ks T (mkF m pc ls (.int x :: st)) := by
  subst hp hz
  exact own_go (fun t k => XS.i2dS (g := mkF m pc ls (.int x :: st)) X.here hx rfl hd rfl rfl k) K
theorem own_dadd (X : Stand p l e R s m args below meth c T locs cells slots) (hx : p.tables.exec = Jvm.exec) {x y z : UInt64} (hd : decode c.code pc = .ok (.dadd, 1)) (hp : pc + 1 = pc') (hn : Jvm.Free.Fl.NoNaN64 (FP.dadd x y)) (hz : FP.dadd x y = z) (K : own_Ends p e below s Q kc ks T (mkF m pc' ls (.double z :: st))) : own_Ends p e below s Q kc ks T (mkF m pc ls (.double y :: .double x :: st)) := by
  subst hp hz
  exact own_go (fun t k => XS.daddS (g := mkF m pc ls (.double y :: .double x :: st)) X.here hx rfl hd rfl hn rfl k) K
theorem own_dmul (X : Stand p l e R s m args below meth c T locs cells slots) (hx : p.tables.exec = Jvm.exec) {x y z : UInt64} (hd : decode c.code pc = .ok (.dmul, 1)) (hp : pc + 1 = pc') (hn : Jvm.Free.Fl.NoNaN64 (FP.dmul x y)) (hz : FP.dmul x y = z) (K : own_Ends p e below s Q kc ks T (mkF m pc' ls (.double z :: st))) : own_Ends p e below s Q kc ks T (mkF m pc ls (.double y :: .double x :: st)) := by
  subst hp hz
  exact own_go (fun t k => XS.dmulS (g := mkF m pc ls (.double y :: .double x :: st)) X.here hx rfl hd rfl hn rfl k) K
theorem own_dcmp (X : Stand p l e R s m args below meth c T locs cells slots) (hx : p.tables.exec = Jvm.exec) {o : CmpOp} {x y : UInt64} {z : Int32} (hd : decode c.code pc = .ok (.dcmp o, 1)) (hp : pc + 1 = pc') (hz : cmpValue (FP.dcmp x y) o = z) (K : own_Ends p e below s Q kc ks T (mkF m pc' ls (.int z :: st))) : own_Ends p e below s Q kc ks T (mkF m pc ls (.double y :: .double x :: st)) := by
  subst hp hz
  exact own_go (fun t k => XS.dcmpS (g := mkF m pc ls (.double y :: .double x :: st)) X.here hx rfl hd rfl rfl k) K
theorem own_lcmp (X : Stand p l e R s m args below meth c T locs cells slots) (hx : p.tables.exec = Jvm.exec) {x y : Int64} {z : Int32} (hd : decode c.code pc = .ok (.lcmp, 1)) (hp : pc + 1 = pc') (hz : lcmpW x y = z) (K : own_Ends p e below s Q kc ks T (mkF m pc' ls (.int z :: st))) : own_Ends p e below s Q kc ks T (mkF m pc ls (.long y :: .long x :: st)) := by
  subst hp hz
  exact own_go (fun t k => XS.lcmp X.here hx rfl hd rfl k) K
theorem own_pop (X : Stand p l e R s m args below meth c T locs cells slots) (hx : p.tables.exec = Jvm.exec) {v : Value} (hd : decode c.code pc = .ok (.pop, 1)) (hp : pc + 1 = pc') (hc : v.category = 1) (K : own_Ends p e below s Q kc ks T (mkF m pc' ls st)) : own_Ends p e below s Q kc ks T (mkF m pc ls (v :: st)) := by
  subst hp
  exact own_go (fun t k => XS.pop X.here hx rfl hd rfl hc k) K
theorem own_dup (X : Stand p l e R s m args below meth c T locs cells slots) (hx : p.tables.exec = Jvm.exec) {v : Value} (hd : decode c.code pc = .ok (.dup, 1)) (hp : pc + 1 = pc') (hc : v.category = 1) (K : own_Ends p e below s Q kc ks T (mkF m pc' ls (v :: v :: st))) : own_Ends p e below s Q kc ks T (mkF m pc ls (v :: st)) := by
  subst hp
  exact own_go (fun t k => XS.dup X.here hx rfl hd rfl hc k) K
theorem own_dupX1 (X : Stand p l e R s m args below meth c T locs cells slots) (hx : p.tables.exec = Jvm.exec) {v w : Value} (hd : decode c.code pc = .ok (.dup_x1, 1)) (hp : pc + 1 = pc') (hc : v.category = 1) (hc' : w.category = 1) (K : own_Ends p e below s Q kc ks T (mkF m pc' ls (v :: w :: v :: st))) : own_Ends p e below s Q kc ks T (mkF m pc ls (v :: w :: st)) := by
  subst hp
  exact own_go (fun t k => XS.dupX1 X.here hx rfl hd rfl hc hc' k) K
theorem own_dup2 (X : Stand p l e R s m args below meth c T locs cells slots) (hx : p.tables.exec = Jvm.exec) {v w : Value} (hd : decode c.code pc = .ok (.dup2, 1)) (hp : pc + 1 = pc') (hc : v.category = 1) (hc' : w.category = 1) (K : own_Ends p e below s Q kc ks T (mkF m pc' ls (v :: w :: v :: w :: st))) : own_Ends p e below s Q kc ks T (mkF m pc ls (v :: w :: st)) := by
  subst hp
  exact own_go (fun t k => XT.dup2 X.here hx rfl hd rfl hc hc' k) K
theorem own_dup2L (X : Stand p l e R s m args below meth c T locs cells slots) (hx : p.tables.exec = Jvm.exec) {x : Int64} (hd : decode c.code pc = .ok (.dup2, 1)) (hp : pc + 1 = pc')  (K : own_Ends p e below s Q kc ks T (mkF m pc' ls (.long x :: .long x :: st))) : own_Ends p e below s Q kc ks T (mkF m pc ls (.long x :: st)) := by
  subst hp
  exact own_go (fun t k => XT.dup2L X.here hx rfl hd rfl k) K
theorem own_iinc (X : Stand p l e R s m args below meth c T locs cells slots) (hx : p.tables.exec = Jvm.exec) {k : Nat} {i : Int} {x z : Int32} {l' : Array Slot} (hd : decode c.code pc = .ok (.iinc k i, 3)) (hp : pc + 3 = pc') (hl : ls[k]? = some (.val (.int x))) (hz : x + Int32.ofInt i = z) (hl' : storeLocals ls k (.int z) = some l') (K : own_Ends p e below s Q kc ks T (mkF m pc' l' st)) : own_Ends p e below s Q kc ks T (mkF m pc ls st) := by
  subst hp hz
  exact own_go (fun t k => XS.iinc X.here hx rfl hd hl hl' k) K
theorem own_goto (X : Stand p l e R s m args below meth c T locs cells slots) (hx : p.tables.exec = Jvm.exec) {o : Int} (hd : decode c.code pc = .ok (.goto o, 3)) (ho : 0 ≤ (pc : Int) + o) (hp : ((pc : Int) + o).toNat = pc') (K : own_Ends p e below s Q kc ks T (mkF m pc' ls st)) : own_Ends p e below s Q kc ks T (mkF m pc ls st) :=
  own_go (fun t k => XS.goto X.here hx rfl rfl hd ho hp k) K
theorem own_ifYes (X : Stand p l e R s m args below meth c T locs cells slots) (hx : p.tables.exec = Jvm.exec) {o : Int} {cd : ClassFile.Cond} {x : Int32} (hd : decode c.code pc = .ok (.ifCond cd o, 3)) (hc : if_icmp.holds cd x 0 = true) (ho : 0 ≤ (pc : Int) + o) (hp : ((pc : Int) + o).toNat = pc') (K : own_Ends p e below s Q kc ks T (mkF m pc' ls st)) : own_Ends p e below s Q kc ks T (mkF m pc ls (.int x :: st)) :=
  own_go (fun t k => XS.ifYes X.here hx rfl rfl hd rfl ((if0 _ _).trans hc) ho hp k) K
theorem own_ifNo (X : Stand p l e R s m args below meth c T locs cells slots) (hx : p.tables.exec = Jvm.exec) {o : Int} {cd : ClassFile.Cond} {x : Int32} (hd : decode c.code pc = .ok (.ifCond cd o, 3)) (hp : pc + 3 = pc') (hc : if_icmp.holds cd x 0 = false) (K : own_Ends p e below s Q kc ks T (mkF m pc' ls st)) : own_Ends p e below s Q kc ks T (mkF m pc ls (.int x :: st)) := by
  subst hp
  exact own_go (fun t k => XS.ifNo X.here hx rfl hd rfl ((if0 _ _).trans hc) k) K
theorem own_icmpYes (X : Stand p l e R s m args below meth c T locs cells slots) (hx : p.tables.exec = Jvm.exec) {o : Int} {cd : ClassFile.Cond} {x y : Int32} (hd : decode c.code pc = .ok (.if_icmp cd o, 3)) (hc : if_icmp.holds cd x y = true) (ho : 0 ≤ (pc : Int) + o) (hp : ((pc : Int) + o).toNat = pc') (K : own_Ends p e below s Q kc ks T (mkF m pc' ls st)) : own_Ends p e below s Q kc ks T (mkF m pc ls (.int y :: .int x :: st)) :=
  own_go (fun t k => XS.icmpYes X.here hx rfl rfl hd rfl hc ho hp k) K
theorem own_icmpNo (X : Stand p l e R s m args below meth c T locs cells slots) (hx : p.tables.exec = Jvm.exec) {o : Int} {cd : ClassFile.Cond} {x y : Int32} (hd : decode c.code pc = .ok (.if_icmp cd o, 3)) (hp : pc + 3 = pc') (hc : if_icmp.holds cd x y = false) (K : own_Ends p e below s Q kc ks T (mkF m pc' ls st)) : own_Ends p e below s Q kc ks T (mkF m pc ls (.int y :: .int x :: st)) := by
  subst hp
  exact own_go (fun t k => XS.icmpNo X.here hx rfl hd rfl hc k) K
theorem own_ifnullYes (X : Stand p l e R s m args below meth c T locs cells slots) (hx : p.tables.exec = Jvm.exec) {o : Int} (hd : decode c.code pc = .ok (.ifnull o, 3)) (ho : 0 ≤ (pc : Int) + o) (hp : ((pc : Int) + o).toNat = pc') (K : own_Ends p e below s Q kc ks T (mkF m pc' ls st)) : own_Ends p e below s Q kc ks T (mkF m pc ls (.null :: st)) :=
  own_go (fun t k => XS.ifnullYes X.here hx rfl rfl hd rfl ho hp k) K
theorem own_ifnullNo (X : Stand p l e R s m args below meth c T locs cells slots) (hx : p.tables.exec = Jvm.exec) {o : Int} {b : Addr} (hd : decode c.code pc = .ok (.ifnull o, 3)) (hp : pc + 3 = pc')  (K : own_Ends p e below s Q kc ks T (mkF m pc' ls st)) : own_Ends p e below s Q kc ks T (mkF m pc ls (.ref b :: st)) := by
  subst hp
  exact own_go (fun t k => XS.ifnullNo X.here hx rfl hd rfl k) K
theorem own_ifnonnullYes (X : Stand p l e R s m args below meth c T locs cells slots) (hx : p.tables.exec = Jvm.exec) {o : Int} {b : Addr} (hd : decode c.code pc = .ok (.ifnonnull o, 3)) (ho : 0 ≤ (pc : Int) + o) (hp : ((pc : Int) + o).toNat = pc') (K : own_Ends p e below s Q kc ks T (mkF m pc' ls st)) : own_Ends p e below s Q kc ks T (mkF m pc ls (.ref b :: st)) :=
  own_go (fun t k => XS.ifnonnullYes X.here hx rfl rfl hd rfl ho hp k) K
theorem own_ifnonnullNo (X : Stand p l e R s m args below meth c T locs cells slots) (hx : p.tables.exec = Jvm.exec) {o : Int} (hd : decode c.code pc = .ok (.ifnonnull o, 3)) (hp : pc + 3 = pc')  (K : own_Ends p e below s Q kc ks T (mkF m pc' ls st)) : own_Ends p e below s Q kc ks T (mkF m pc ls (.null :: st)) := by
  subst hp
  exact own_go (fun t k => XS.ifnonnullNo X.here hx rfl hd rfl k) K
theorem own_acmpYes (X : Stand p l e R s m args below meth c T locs cells slots) (hx : p.tables.exec = Jvm.exec) {o : Int} {cd : ACond} {v w : Value} (hd : decode c.code pc = .ok (.if_acmp cd o, 3)) (h1 : v.isRef = true) (h2 : w.isRef = true) (hc : XT.acmp cd v w = true) (ho : 0 ≤ (pc : Int) + o) (hp : ((pc : Int) + o).toNat = pc') (K : own_Ends p e below s Q kc ks T (mkF m pc' ls st)) : own_Ends p e below s Q kc ks T (mkF m pc ls (w :: v :: st)) :=
  own_go (fun t k => XT.acmpYes X.here hx rfl rfl hd rfl h1 h2 hc ho hp k) K
theorem own_acmpNo (X : Stand p l e R s m args below meth c T locs cells slots) (hx : p.tables.exec = Jvm.exec) {o : Int} {cd : ACond} {v w : Value} (hd : decode c.code pc = .ok (.if_acmp cd o, 3)) (hp : pc + 3 = pc') (h1 : v.isRef = true) (h2 : w.isRef = true) (hc : XT.acmp cd v w = false) (K : own_Ends p e below s Q kc ks T (mkF m pc' ls st)) : own_Ends p e below s Q kc ks T (mkF m pc ls (w :: v :: st)) := by
  subst hp
  exact own_go (fun t k => XT.acmpNo X.here hx rfl hd rfl h1 h2 hc k) K
theorem own_ldcI (X : Stand p l e R s m args below meth c T locs cells slots) (hx : p.tables.exec = Jvm.exec) {own : String} {ix : Nat} {v : Int32} {Z : State} {a0 : Array Value} (hZ : Z.Warmed39 s.vm) (hown : s.vm.findClass own = some m.cls) (w : (Jvm.Cond.constant own ix v).before a0 Z = true) (hd : decode c.code pc = .ok (.ldc ix, 2)) (hp : pc + 2 = pc')  (K : own_Ends p e below s Q kc ks T (mkF m pc' ls (.int v :: st))) : own_Ends p e below s Q kc ks T (mkF m pc ls st) := by
  subst hp
  exact own_go (fun t k => X.ldcInt hx hown (mvT hZ w) (g := mkF m pc ls st) rfl hd t k) K
theorem own_ldcwI (X : Stand p l e R s m args below meth c T locs cells slots) (hx : p.tables.exec = Jvm.exec) {own : String} {ix : Nat} {v : Int32} {Z : State} {a0 : Array Value} (hZ : Z.Warmed39 s.vm) (hown : s.vm.findClass own = some m.cls) (w : (Jvm.Cond.constant own ix v).before a0 Z = true) (hd : decode c.code pc = .ok (.ldc_w ix, 3)) (hp : pc + 3 = pc')  (K : own_Ends p e below s Q kc ks T (mkF m pc' ls (.int v :: st))) : own_Ends p e below s Q kc ks T (mkF m pc ls st) := by
  subst hp
  exact own_go (fun t k => X.ldcwInt hx hown (mvT hZ w) (g := mkF m pc ls st) rfl hd t k) K
theorem own_ldc2J (X : Stand p l e R s m args below meth c T locs cells slots) (hx : p.tables.exec = Jvm.exec) {own : String} {ix : Nat} {v : Int64} {Z : State} {a0 : Array Value} (hZ : Z.Warmed39 s.vm) (hown : s.vm.findClass own = some m.cls) (w : (Jvm.Cond.constantLong own ix v).before a0 Z = true) (hd : decode c.code pc = .ok (.ldc2_w ix, 3)) (hp : pc + 3 = pc')  (K : own_Ends p e below s Q kc ks T (mkF m pc' ls (.long v :: st))) : own_Ends p e below s Q kc ks T (mkF m pc ls st) := by
  subst hp
  exact own_go (fun t k => X.ldc2Long hx hown (mvT hZ w) (g := mkF m pc ls st) rfl hd t k) K
theorem own_iaload (X : Stand p l e R s m args below meth c T locs cells slots) (hx : p.tables.exec = Jvm.exec) {Z : State} {h : Heap} {a : Addr} {k : ClassId} {n j : Int32} {vs : List Value} {d v : Value} (hZ : Z.Warmed39 s.vm) (eT : T.heap = h) (V : Arv Z h a k .int n vs d) (hd : decode c.code pc = .ok (.iaload, 1)) (hp : pc + 1 = pc') (hj : ¬ j < 0 ∧ j < n) (hv : vs.getD j.toNatClampNeg d = v) (K : own_Ends p e below s Q kc ks T (mkF m pc' ls (v :: st))) : own_Ends p e below s Q kc ks T (mkF m pc ls (.int j :: .ref a :: st)) := by
  subst hp
  obtain ⟨cl, A, q1, S, q2, H, G⟩ := V
  have hin := inb_of S hj
  exact own_go (fun t k => X.iaload hx (by rw [eT]; exact A.1) (State.isArrayOf_alike hZ.alike A.2.1) A.2.2 hin (H.at hin hv) (g := mkF m pc ls (.int j :: .ref a :: st)) rfl rfl hd t k) K
theorem own_laload (X : Stand p l e R s m args below meth c T locs cells slots) (hx : p.tables.exec = Jvm.exec) {Z : State} {h : Heap} {a : Addr} {k : ClassId} {n j : Int32} {vs : List Value} {d v : Value} (hZ : Z.Warmed39 s.vm) (eT : T.heap = h) (V : Arv Z h a k .long n vs d) (hd : decode c.code pc = .ok (.laload, 1)) (hp : pc + 1 = pc') (hj : ¬ j < 0 ∧ j < n) (hv : vs.getD j.toNatClampNeg d = v) (K : own_Ends p e below s Q kc ks T (mkF m pc' ls (v :: st))) : own_Ends p e below s Q kc ks T (mkF m pc ls (.int j :: .ref a :: st)) := by
  subst hp
  obtain ⟨cl, A, q1, S, q2, H, G⟩ := V
  have hin := inb_of S hj
  exact own_go (fun t k => X.laload hx (by rw [eT]; exact A.1) (State.isArrayOf_alike hZ.alike A.2.1) A.2.2 hin (H.at hin hv) (g := mkF m pc ls (.int j :: .ref a :: st)) rfl rfl hd t k) K
theorem own_caload (X : Stand p l e R s m args below meth c T locs cells slots) (hx : p.tables.exec = Jvm.exec) {Z : State} {h : Heap} {a : Addr} {k : ClassId} {n j : Int32} {vs : List Value} {d v : Value} (hZ : Z.Warmed39 s.vm) (eT : T.heap = h) (V : Arv Z h a k .char n vs d) (hd : decode c.code pc = .ok (.caload, 1)) (hp : pc + 1 = pc') (hj : ¬ j < 0 ∧ j < n) (hv : vs.getD j.toNatClampNeg d = v) (K : own_Ends p e below s Q kc ks T (mkF m pc' ls (v :: st))) : own_Ends p e below s Q kc ks T (mkF m pc ls (.int j :: .ref a :: st)) := by
  subst hp
  obtain ⟨cl, A, q1, S, q2, H, G⟩ := V
  have hin := inb_of S hj
  exact own_go (fun t k => X.caload hx (by rw [eT]; exact A.1) (State.isArrayOf_alike hZ.alike A.2.1) A.2.2 hin (H.at hin hv) (g := mkF m pc ls (.int j :: .ref a :: st)) rfl rfl hd t k) K
theorem own_baload (X : Stand p l e R s m args below meth c T locs cells slots) (hx : p.tables.exec = Jvm.exec) {Z : State} {h : Heap} {a : Addr} {k : ClassId} {n j : Int32} {vs : List Value} {d v : Value} (hZ : Z.Warmed39 s.vm) (eT : T.heap = h) (V : Arv Z h a k .byte n vs d) (hd : decode c.code pc = .ok (.baload, 1)) (hp : pc + 1 = pc') (hj : ¬ j < 0 ∧ j < n) (hv : vs.getD j.toNatClampNeg d = v) (K : own_Ends p e below s Q kc ks T (mkF m pc' ls (v :: st))) : own_Ends p e below s Q kc ks T (mkF m pc ls (.int j :: .ref a :: st)) := by
  subst hp
  obtain ⟨cl, A, q1, S, q2, H, G⟩ := V
  have hin := inb_of S hj
  exact own_go (fun t k => X.baloadBytes hx (by rw [eT]; exact A.1) (State.isArrayOf_alike hZ.alike A.2.1) A.2.2 hin (H.at hin hv) (g := mkF m pc ls (.int j :: .ref a :: st)) rfl rfl hd t k) K
theorem own_zaload (X : Stand p l e R s m args below meth c T locs cells slots) (hx : p.tables.exec = Jvm.exec) {Z : State} {h : Heap} {a : Addr} {k : ClassId} {n j : Int32} {vs : List Value} {d v : Value} (hZ : Z.Warmed39 s.vm) (eT : T.heap = h) (V : Arv Z h a k .boolean n vs d) (hd : decode c.code pc = .ok (.baload, 1)) (hp : pc + 1 = pc') (hj : ¬ j < 0 ∧ j < n) (hv : vs.getD j.toNatClampNeg d = v) (K : own_Ends p e below s Q kc ks T (mkF m pc' ls (v :: st))) : own_Ends p e below s Q kc ks T (mkF m pc ls (.int j :: .ref a :: st)) := by
  subst hp
  obtain ⟨cl, A, q1, S, q2, H, G⟩ := V
  have hin := inb_of S hj
  exact own_go (fun t k => X.baloadBooleans hx (by rw [eT]; exact A.1) (State.isArrayOf_alike hZ.alike A.2.1) A.2.2 hin (H.at hin hv) (g := mkF m pc ls (.int j :: .ref a :: st)) rfl rfl hd t k) K
theorem own_daload (X : Stand p l e R s m args below meth c T locs cells slots) (hx : p.tables.exec = Jvm.exec) {Z : State} {h : Heap} {a : Addr} {k : ClassId} {n j : Int32} {vs : List Value} {d v : Value} (hZ : Z.Warmed39 s.vm) (eT : T.heap = h) (V : Arv Z h a k .double n vs d) (hd : decode c.code pc = .ok (.daload, 1)) (hp : pc + 1 = pc') (hj : ¬ j < 0 ∧ j < n) (hv : vs.getD j.toNatClampNeg d = v) (K : own_Ends p e below s Q kc ks T (mkF m pc' ls (v :: st))) : own_Ends p e below s Q kc ks T (mkF m pc ls (.int j :: .ref a :: st)) := by
  subst hp
  obtain ⟨cl, A, q1, S, q2, H, G⟩ := V
  have hin := inb_of S hj
  exact own_go (fun t k => X.daload hx (by rw [eT]; exact A.1) (State.isArrayOf_alike hZ.alike A.2.1) A.2.2 hin (H.at hin hv) (g := mkF m pc ls (.int j :: .ref a :: st)) rfl rfl hd t k) K
theorem own_alen (X : Stand p l e R s m args below meth c T locs cells slots) (hx : p.tables.exec = Jvm.exec) {Z : State} {h : Heap} {a : Addr} {k : ClassId} {ty : FieldType} {n : Int32} {vs : List Value} {d : Value} (hZ : Z.Warmed39 s.vm) (eT : T.heap = h) (V : Arv Z h a k ty n vs d) (hd : decode c.code pc = .ok (.arraylength, 1)) (hp : pc + 1 = pc')  (K : own_Ends p e below s Q kc ks T (mkF m pc' ls (.int n :: st))) : own_Ends p e below s Q kc ks T (mkF m pc ls (.ref a :: st)) := by
  subst hp
  obtain ⟨cl, A, q1, S, q2, H, G⟩ := V
  rw [← len_of S q2] at K
  exact own_go (fun t k => X.arraylength hx (by rw [eT]; exact A.1) (State.isArrayOf_alike hZ.alike A.2.1) (g := mkF m pc ls (.ref a :: st)) rfl rfl hd t k) K
theorem own_iastore (X : Stand p l e R s m args below meth c T locs cells slots) (hx : p.tables.exec = Jvm.exec) {Z : State} {h : Heap} {a : Addr} {k : ClassId} {n j : Int32} {vs : List Value} {d : Value} {x : Int32} (hZ : Z.Warmed39 s.vm) (eT : T.heap = h) (V : Arv Z h a k .int n vs d) (hd : decode c.code pc = .ok (.iastore, 1)) (hp : pc + 1 = pc') (hj : ¬ j < 0 ∧ j < n) (i : Nat) (hi : j.toNatClampNeg = i) (hl : i < vs.length) {n0 : Nat} (N : Fr n0 locs) (ge : n0 ≤ a)
    (K : ∀ T' h' L, Stand p l e R s m args below meth c T' L cells slots → T'.heap = h' → Fr n0 L → Wr h h' a j.toNatClampNeg (.int x) → Arv Z h' a k .int n (vs.set i (.int x)) d → own_Ends p e below s Q kc ks T' (mkF m pc' ls st)) : own_Ends p e below s Q kc ks T (mkF m pc ls (.int x :: .int j :: .ref a :: st)) := by
  subst hp
  obtain ⟨cl, A, q1, S, q2, H, G⟩ := V
  have hin := inb_of S hj
  obtain ⟨T1, h1, X1, e1, W1, st1⟩ := stI X hx hZ eT A (j := j) hin (g := mkF m pc ls (.int x :: .int j :: .ref a :: st)) rfl rfl hd
  exact own_go st1 (K T1 h1 _ X1 e1 (Fr.snoc X1 N ge) W1 (Arv.set A q1 S q2 H G rfl W1 i hi hl))
theorem own_lastore (X : Stand p l e R s m args below meth c T locs cells slots) (hx : p.tables.exec = Jvm.exec) {Z : State} {h : Heap} {a : Addr} {k : ClassId} {n j : Int32} {vs : List Value} {d : Value} {x : Int64} (hZ : Z.Warmed39 s.vm) (eT : T.heap = h) (V : Arv Z h a k .long n vs d) (hd : decode c.code pc = .ok (.lastore, 1)) (hp : pc + 1 = pc') (hj : ¬ j < 0 ∧ j < n) (i : Nat) (hi : j.toNatClampNeg = i) (hl : i < vs.length) {n0 : Nat} (N : Fr n0 locs) (ge : n0 ≤ a)
    (K : ∀ T' h' L, Stand p l e R s m args below meth c T' L cells slots → T'.heap = h' → Fr n0 L → Wr h h' a j.toNatClampNeg (.long x) → Arv Z h' a k .long n (vs.set i (.long x)) d → own_Ends p e below s Q kc ks T' (mkF m pc' ls st)) : own_Ends p e below s Q kc ks T (mkF m pc ls (.long x :: .int j :: .ref a :: st)) := by
  subst hp
  obtain ⟨cl, A, q1, S, q2, H, G⟩ := V
  have hin := inb_of S hj
  obtain ⟨T1, h1, X1, e1, W1, st1⟩ := stJ X hx hZ eT A (j := j) hin (g := mkF m pc ls (.long x :: .int j :: .ref a :: st)) rfl rfl hd
  exact own_go st1 (K T1 h1 _ X1 e1 (Fr.snoc X1 N ge) W1 (Arv.set A q1 S q2 H G rfl W1 i hi hl))
theorem own_dastore (X : Stand p l e R s m args below meth c T locs cells slots) (hx : p.tables.exec = Jvm.exec) {Z : State} {h : Heap} {a : Addr} {k : ClassId} {n j : Int32} {vs : List Value} {d : Value} {x : UInt64} (hZ : Z.Warmed39 s.vm) (eT : T.heap = h) (V : Arv Z h a k .double n vs d) (hd : decode c.code pc = .ok (.dastore, 1)) (hp : pc + 1 = pc') (hj : ¬ j < 0 ∧ j < n) (i : Nat) (hi : j.toNatClampNeg = i) (hl : i < vs.length) {n0 : Nat} (N : Fr n0 locs) (ge : n0 ≤ a)
    (K : ∀ T' h' L, Stand p l e R s m args below meth c T' L cells slots → T'.heap = h' → Fr n0 L → Wr h h' a j.toNatClampNeg (.double x) → Arv Z h' a k .double n (vs.set i (.double x)) d → own_Ends p e below s Q kc ks T' (mkF m pc' ls st)) : own_Ends p e below s Q kc ks T (mkF m pc ls (.double x :: .int j :: .ref a :: st)) := by
  subst hp
  obtain ⟨cl, A, q1, S, q2, H, G⟩ := V
  have hin := inb_of S hj
  obtain ⟨T1, h1, X1, e1, W1, st1⟩ := stD X hx hZ eT A (j := j) hin (g := mkF m pc ls (.double x :: .int j :: .ref a :: st)) rfl rfl hd
  exact own_go st1 (K T1 h1 _ X1 e1 (Fr.snoc X1 N ge) W1 (Arv.set A q1 S q2 H G rfl W1 i hi hl))
theorem own_castore (X : Stand p l e R s m args below meth c T locs cells slots) (hx : p.tables.exec = Jvm.exec) {Z : State} {h : Heap} {a : Addr} {k : ClassId} {n j : Int32} {vs : List Value} {d : Value} {x : Int32} (hZ : Z.Warmed39 s.vm) (eT : T.heap = h) (V : Arv Z h a k .char n vs d) (hd : decode c.code pc = .ok (.castore, 1)) (hp : pc + 1 = pc') (hj : ¬ j < 0 ∧ j < n) (i : Nat) (hi : j.toNatClampNeg = i) (hl : i < vs.length) {n0 : Nat} (N : Fr n0 locs) (ge : n0 ≤ a)
    (K : ∀ T' h' L, Stand p l e R s m args below meth c T' L cells slots → T'.heap = h' → Fr n0 L → Wr h h' a j.toNatClampNeg (.int (nar .char x)) → Arv Z h' a k .char n (vs.set i (.int (nar .char x))) d → own_Ends p e below s Q kc ks T' (mkF m pc' ls st)) : own_Ends p e below s Q kc ks T (mkF m pc ls (.int x :: .int j :: .ref a :: st)) := by
  subst hp
  obtain ⟨cl, A, q1, S, q2, H, G⟩ := V
  have hin := inb_of S hj
  obtain ⟨T1, h1, X1, e1, W1, st1⟩ := stC X hx hZ eT A (j := j) hin (g := mkF m pc ls (.int x :: .int j :: .ref a :: st)) rfl rfl hd
  exact own_go st1 (K T1 h1 _ X1 e1 (Fr.snoc X1 N ge) W1 (Arv.set A q1 S q2 H G (fits_nar_char _) W1 i hi hl))
theorem own_bastore (X : Stand p l e R s m args below meth c T locs cells slots) (hx : p.tables.exec = Jvm.exec) {Z : State} {h : Heap} {a : Addr} {k : ClassId} {n j : Int32} {vs : List Value} {d : Value} {x : Int32} (hZ : Z.Warmed39 s.vm) (eT : T.heap = h) (V : Arv Z h a k .byte n vs d) (hd : decode c.code pc = .ok (.bastore, 1)) (hp : pc + 1 = pc') (hj : ¬ j < 0 ∧ j < n) (i : Nat) (hi : j.toNatClampNeg = i) (hl : i < vs.length) {n0 : Nat} (N : Fr n0 locs) (ge : n0 ≤ a)
    (K : ∀ T' h' L, Stand p l e R s m args below meth c T' L cells slots → T'.heap = h' → Fr n0 L → Wr h h' a j.toNatClampNeg (.int (nar .byte x)) → Arv Z h' a k .byte n (vs.set i (.int (nar .byte x))) d → own_Ends p e below s Q kc ks T' (mkF m pc' ls st)) : own_Ends p e below s Q kc ks T (mkF m pc ls (.int x :: .int j :: .ref a :: st)) := by
  subst hp
  obtain ⟨cl, A, q1, S, q2, H, G⟩ := V
  have hin := inb_of S hj
  obtain ⟨T1, h1, X1, e1, W1, st1⟩ := stB X hx hZ eT A (j := j) hin (g := mkF m pc ls (.int x :: .int j :: .ref a :: st)) rfl rfl hd
  exact own_go st1 (K T1 h1 _ X1 e1 (Fr.snoc X1 N ge) W1 (Arv.set A q1 S q2 H G (fits_nar_byte _) W1 i hi hl))
theorem own_zastore (X : Stand p l e R s m args below meth c T locs cells slots) (hx : p.tables.exec = Jvm.exec) {Z : State} {h : Heap} {a : Addr} {k : ClassId} {n j : Int32} {vs : List Value} {d : Value} {x : Int32} (hZ : Z.Warmed39 s.vm) (eT : T.heap = h) (V : Arv Z h a k .boolean n vs d) (hd : decode c.code pc = .ok (.bastore, 1)) (hp : pc + 1 = pc') (hj : ¬ j < 0 ∧ j < n) (i : Nat) (hi : j.toNatClampNeg = i) (hl : i < vs.length) {n0 : Nat} (N : Fr n0 locs) (ge : n0 ≤ a)
    (K : ∀ T' h' L, Stand p l e R s m args below meth c T' L cells slots → T'.heap = h' → Fr n0 L → Wr h h' a j.toNatClampNeg (.int (nar .boolean x)) → Arv Z h' a k .boolean n (vs.set i (.int (nar .boolean x))) d → own_Ends p e below s Q kc ks T' (mkF m pc' ls st)) : own_Ends p e below s Q kc ks T (mkF m pc ls (.int x :: .int j :: .ref a :: st)) := by
  subst hp
  obtain ⟨cl, A, q1, S, q2, H, G⟩ := V
  have hin := inb_of S hj
  obtain ⟨T1, h1, X1, e1, W1, st1⟩ := stZ X hx hZ eT A (j := j) hin (g := mkF m pc ls (.int x :: .int j :: .ref a :: st)) rfl rfl hd
  exact own_go st1 (K T1 h1 _ X1 e1 (Fr.snoc X1 N ge) W1 (Arv.set A q1 S q2 H G (fits_nar_bool _) W1 i hi hl))
theorem own_newarr (X : Stand p l e R s m args below meth c T locs cells slots) (hx : p.tables.exec = Jvm.exec) {Z : State} {a0 : Array Value} {h : Heap} {aty : ArrayType} (hZ : Z.Warmed39 s.vm) (w : (Jvm.Cond.arrayClass (newarray.typeOf aty)).before a0 Z = true) (eT : T.heap = h) (hd : decode c.code pc = .ok (.newarray aty, 2)) (hp : pc + 2 = pc') {n : Int32} (hn : ¬ n < 0) (cap q : Nat) (hcap : n.toNatClampNeg ≤ cap) (hb : cap * 8 ≤ 536870912) (hc : cells + 1 ≤ R.cells) (hl : slots + cap ≤ R.slots)
    (K : ∀ T' h' a k, Stand p l e R s m args below meth c T' locs (cells + 1) (slots + cap) → T'.heap = h' → Ext h h' → a = h.size → Arv Z h' a k (newarray.typeOf aty) n (List.replicate q (defaultValue (newarray.typeOf aty))) (defaultValue (newarray.typeOf aty)) → own_Ends p e below s Q kc ks T' (mkF m pc' ls (.ref a :: st))) : own_Ends p e below s Q kc ks T (mkF m pc ls (.int n :: st)) := by
  subst hp
  obtain ⟨T1, h1, k1, X1, e1, E1, A1, st1⟩ := newP X hx hZ w eT (g := mkF m pc ls (.int n :: st)) rfl hd rfl hn (cap := cap) hcap hb hc hl
  exact own_go st1 (K T1 h1 _ k1 X1 e1 E1 rfl ((Arv.new A1 hn).pad (pad_rep [] _ q)))
theorem own_newarrE (X : Stand p l e R s m args below meth c T locs cells slots) (hx : p.tables.exec = Jvm.exec) {Z : State} {a0 : Array Value} {h : Heap} {aty : ArrayType} (hZ : Z.Warmed39 s.vm) (w : (Jvm.Cond.arrayClass (newarray.typeOf aty)).before a0 Z = true) (eT : T.heap = h) (hd : decode c.code pc = .ok (.newarray aty, 2)) (hp : pc + 2 = pc') {n : Int32} (hn : ¬ n < 0) (cap q : Nat) (hcap : n.toNatClampNeg ≤ cap) (hb : cap * 8 ≤ 536870912) (hc : cells + 1 ≤ R.cells) (hl : slots + cap ≤ R.slots) {ad : String} (had : "[" ++ (newarray.typeOf aty).toString = ad)
    (K : ∀ T' h' a k, Stand p l e R s m args below meth c T' locs (cells + 1) (slots + cap) → T'.heap = h' → Ext h h' → a = h.size → Arv Z h' a k (newarray.typeOf aty) n (List.replicate q (defaultValue (newarray.typeOf aty))) (defaultValue (newarray.typeOf aty)) → Exa Z h' a ad → own_Ends p e below s Q kc ks T' (mkF m pc' ls (.ref a :: st))) : own_Ends p e below s Q kc ks T (mkF m pc ls (.int n :: st)) := by
  subst hp
  obtain ⟨T1, h1, k1, X1, e1, E1, A1, Z1, st1⟩ := newPE X hx hZ w eT (g := mkF m pc ls (.int n :: st)) rfl hd rfl hn (cap := cap) hcap hb hc hl had
  exact own_go st1 (K T1 h1 _ k1 X1 e1 E1 rfl ((Arv.new A1 hn).pad (pad_rep [] _ q)) Z1)
theorem own_callS (X : Stand p l e R s m args below meth c T locs cells slots) (hx : p.tables.exec = Jvm.exec) {Z : State} {a0 : Array Value} {h : Heap} {own : String} {ix : Nat} {y : MethodName} {bytes : ByteArray} {maxL W : Nat} {ret : Option FieldType} {rm : Room} {Qc : Option Value → Heap → List Loc → Prop} {argsL rest : List Value} (hZ : Z.Warmed39 s.vm) (eT : T.heap = h) (hown : s.vm.findClass own = some m.cls) (hsz : ls.size = c.maxLocals) (wl : (Jvm.Cond.methodLink own ix y).before a0 Z = true) (ws : (Jvm.Cond.static y).before a0 Z = true) (wi : (Jvm.Cond.initialized y.cls).before a0 Z = true) (wc : (Jvm.Cond.code y bytes maxL ret).before a0 Z = true) (hy : y.cls ≠ "java/lang/invoke/MethodHandle" ∧ y.cls ≠ "java/lang/invoke/VarHandle") (hM : MetFree l y (head1 [Jvm.Cond.code y bytes maxL ret] rm) (fun a U => a = argsL.toArray ∧ Z.Warmed39 U.vm ∧ U.heap = h) (fun _ _ _ _ _ => True) (fun _ U o U' => ∃ v L, o = .returned v ∧ Qc v U'.heap L ∧ FrameEnd U o U' L rm.cells rm.slots)) (hf : rm.frames + 1 ≤ R.frames) (hlo : W + (maxL + 11) + rm.locals ≤ R.locals) (hcl : cells + rm.cells ≤ R.cells) (hsl : slots + rm.slots ≤ R.slots)
    (hlen : ∀ sig, parseMethodDescriptor y.desc = some sig → argsL.length = sig.parameters.length) (hst : st = argsL.reverse ++ rest) (hW : 2 * 0 + (rest.map fun v => v.category).sum ≤ W) (hd : decode c.code pc = .ok (.invokestatic ix, 3)) (hp : pc + 3 = pc') (K : ∀ T' L v, Stand p l e R s m args below meth c T' (locs ++ L) (cells + rm.cells) (slots + rm.slots) → Qc v T'.heap L → own_Ends p e below s Q kc ks T' (mkF m pc' ls (v.toList ++ rest))) : own_Ends p e below s Q kc ks T (mkF m pc ls st) := by
  subst hp
  obtain ⟨v, _, ⟨T1, L1, k1, n1⟩, -, X1, ⟨Lc, hQ, r1, r2, r3⟩, st1⟩ := Jvm.LawKit.callS X hx (y := y) hown (mvT hZ wl) (mvT hZ ws) (mvT hZ wi) (mvT hZ wc) hy (backOf (W := W) hM hZ wc wi hf hlo) (g := mkF m pc ls st) rfl hsz (argsL := argsL) (rest := rest) hlen hst hW hd (fun _ _ => ⟨rfl, eT, hcl, hsl⟩)
  dsimp only [Pt.U, Pt.locs, Pt.cells, Pt.slots] at X1 r1 r2 r3 st1 hQ
  subst r1 r2 r3
  exact own_go (st1) (K T1 Lc v X1 hQ)
theorem own_callC (X : Stand p l e R s m args below meth c T locs cells slots) (hx : p.tables.exec = Jvm.exec) {b : Addr} {Z : State} {a0 : Array Value} {h : Heap} {own : String} {ix : Nat} {y : MethodName} {bytes : ByteArray} {maxL W : Nat} {ret : Option FieldType} {rm : Room} {Qc : Option Value → Heap → List Loc → Prop} {argsL rest : List Value} (hZ : Z.Warmed39 s.vm) (eT : T.heap = h) (hown : s.vm.findClass own = some m.cls) (hsz : ls.size = c.maxLocals) (hret : ret = none) (hinit : y.name = "<init>") (wl : (Jvm.Cond.methodLink own ix y).before a0 Z = true) (wm : (Jvm.Cond.instanceMethod y).before a0 Z = true) (wi : (Jvm.Cond.initialized y.cls).before a0 Z = true) (wc : (Jvm.Cond.code y bytes maxL ret).before a0 Z = true) (hy : y.cls ≠ "java/lang/invoke/MethodHandle" ∧ y.cls ≠ "java/lang/invoke/VarHandle") (hM : MetFree l y (head1 [Jvm.Cond.code y bytes maxL ret] rm) (fun a U => a = (Value.ref b :: argsL).toArray ∧ Z.Warmed39 U.vm ∧ U.heap = h) (fun _ _ _ _ _ => True) (fun _ U o U' => ∃ v L, o = .returned v ∧ Qc v U'.heap L ∧ FrameEnd U o U' L rm.cells rm.slots)) (hf : rm.frames + 1 ≤ R.frames) (hlo : W + (maxL + 11) + rm.locals ≤ R.locals) (hcl : cells + rm.cells ≤ R.cells) (hsl : slots + rm.slots ≤ R.slots)
    (hlen : ∀ sig, parseMethodDescriptor y.desc = some sig → argsL.length = sig.parameters.length) (hst : st = argsL.reverse ++ .ref b :: rest) (hW : 2 * 0 + (rest.map fun v => v.category).sum ≤ W) (hd : decode c.code pc = .ok (.invokespecial ix, 3)) (hp : pc + 3 = pc') (K : ∀ T' L v, Stand p l e R s m args below meth c T' (locs ++ L) (cells + rm.cells) (slots + rm.slots) → Qc v T'.heap L → own_Ends p e below s Q kc ks T' (mkF m pc' ls (v.toList ++ rest))) : own_Ends p e below s Q kc ks T (mkF m pc ls st) := by
  subst hp hret
  obtain ⟨v, _, ⟨T1, L1, k1, n1⟩, -, X1, ⟨Lc, hQ, r1, r2, r3⟩, st1⟩ := X.specialBack hx (y := y) hinit hown (mvT hZ wl) (mvT hZ wm) (mvT hZ wc) hy (backOf (W := W) hM hZ wc wi hf hlo) (g := mkF m pc ls st) rfl hsz (Steps.refl _) (a := b) (argsL := argsL) (rest := rest) hlen hst hW hd (fun _ _ => ⟨rfl, eT, hcl, hsl⟩)
  dsimp only [Pt.U, Pt.locs, Pt.cells, Pt.slots] at X1 r1 r2 r3 st1 hQ
  subst r1 r2 r3
  exact own_go (fun t k => st1.trans k) (K T1 Lc v X1 hQ)
theorem own_callV (X : Stand p l e R s m args below meth c T locs cells slots) (hx : p.tables.exec = Jvm.exec) {b : Addr} {C : String} {Z : State} {a0 : Array Value} {h : Heap} {own : String} {ix : Nat} {y : MethodName} {bytes : ByteArray} {maxL W : Nat} {ret : Option FieldType} {rm : Room} {Qc : Option Value → Heap → List Loc → Prop} {argsL rest : List Value} (hZ : Z.Warmed39 s.vm) (eT : T.heap = h) (hown : s.vm.findClass own = some m.cls) (hsz : ls.size = c.maxLocals) (E : Exa Z h b C) (wl : (Jvm.Cond.methodLink own ix y).before a0 Z = true) (wd : (Jvm.Cond.declares y).before a0 Z = true) (wsel : (Jvm.Cond.selects C y y).before a0 Z = true) (wm : (Jvm.Cond.instanceMethod y).before a0 Z = true) (wi : (Jvm.Cond.initialized y.cls).before a0 Z = true) (wc : (Jvm.Cond.code y bytes maxL ret).before a0 Z = true) (hy : y.cls ≠ "java/lang/invoke/MethodHandle" ∧ y.cls ≠ "java/lang/invoke/VarHandle") (hM : MetFree l y (head1 [Jvm.Cond.code y bytes maxL ret] rm) (fun a U => a = (Value.ref b :: argsL).toArray ∧ Z.Warmed39 U.vm ∧ U.heap = h) (fun _ _ _ _ _ => True) (fun _ U o U' => ∃ v L, o = .returned v ∧ Qc v U'.heap L ∧ FrameEnd U o U' L rm.cells rm.slots)) (hf : rm.frames + 1 ≤ R.frames) (hlo : W + (maxL + 11) + rm.locals ≤ R.locals) (hcl : cells + rm.cells ≤ R.cells) (hsl : slots + rm.slots ≤ R.slots)
    (hlen : ∀ sig, parseMethodDescriptor y.desc = some sig → argsL.length = sig.parameters.length) (hst : st = argsL.reverse ++ .ref b :: rest) (hW : 2 * 0 + (rest.map fun v => v.category).sum ≤ W) (hd : decode c.code pc = .ok (.invokevirtual ix, 3)) (hp : pc + 3 = pc') (K : ∀ T' L v, Stand p l e R s m args below meth c T' (locs ++ L) (cells + rm.cells) (slots + rm.slots) → Qc v T'.heap L → own_Ends p e below s Q kc ks T' (mkF m pc' ls (v.toList ++ rest))) : own_Ends p e below s Q kc ks T (mkF m pc ls st) := by
  subst hp
  obtain ⟨cq, kq, qa, qb, qc⟩ := isOf hZ eT E
  obtain ⟨v, _, ⟨T1, L1, k1, n1⟩, -, X1, ⟨Lc, hQ, r1, r2, r3⟩, st1⟩ := X.virtualBack hx (y := y) (z := y) hown (mvT hZ wl) (mvT hZ wd) (notFace_of_selects (args := #[]) (mvT hZ wsel)) (mvT hZ wsel) (mvT hZ wm) hy (backOf (W := W) hM hZ wc wi hf hlo) qa qc (g := mkF m pc ls st) rfl hsz (Steps.refl _) (argsL := argsL) (rest := rest) hlen hst hW hd (fun _ _ => ⟨rfl, eT, hcl, hsl⟩)
  dsimp only [Pt.U, Pt.locs, Pt.cells, Pt.slots] at X1 r1 r2 r3 st1 hQ
  subst r1 r2 r3
  exact own_go (fun t k => st1.trans k) (K T1 Lc v X1 hQ)
theorem own_callP (X : Stand p l e R s m args below meth c T locs cells slots) (hx : p.tables.exec = Jvm.exec) {b : Addr} {C : String} {Z : State} {a0 : Array Value} {h : Heap} {own : String} {ix : Nat} {y : MethodName} {bytes : ByteArray} {maxL W : Nat} {ret : Option FieldType} {rm : Room} {Qc : Option Value → Heap → List Loc → Prop} {argsL rest : List Value} (hZ : Z.Warmed39 s.vm) (eT : T.heap = h) (hown : s.vm.findClass own = some m.cls) (hsz : ls.size = c.maxLocals) (E : Exa Z h b C) (wl : (Jvm.Cond.methodLink own ix y).before a0 Z = true) (wsel : (Jvm.Cond.selects y.cls y y).before a0 Z = true) (wp : (Jvm.Cond.privateMethod y).before a0 Z = true) (wm : (Jvm.Cond.instanceMethod y).before a0 Z = true) (wi : (Jvm.Cond.initialized y.cls).before a0 Z = true) (wc : (Jvm.Cond.code y bytes maxL ret).before a0 Z = true) (hy : y.cls ≠ "java/lang/invoke/MethodHandle" ∧ y.cls ≠ "java/lang/invoke/VarHandle") (hM : MetFree l y (head1 [Jvm.Cond.code y bytes maxL ret] rm) (fun a U => a = (Value.ref b :: argsL).toArray ∧ Z.Warmed39 U.vm ∧ U.heap = h) (fun _ _ _ _ _ => True) (fun _ U o U' => ∃ v L, o = .returned v ∧ Qc v U'.heap L ∧ FrameEnd U o U' L rm.cells rm.slots)) (hf : rm.frames + 1 ≤ R.frames) (hlo : W + (maxL + 11) + rm.locals ≤ R.locals) (hcl : cells + rm.cells ≤ R.cells) (hsl : slots + rm.slots ≤ R.slots)
    (hlen : ∀ sig, parseMethodDescriptor y.desc = some sig → argsL.length = sig.parameters.length) (hst : st = argsL.reverse ++ .ref b :: rest) (hW : 2 * 0 + (rest.map fun v => v.category).sum ≤ W) (hd : decode c.code pc = .ok (.invokevirtual ix, 3)) (hp : pc + 3 = pc') (K : ∀ T' L v, Stand p l e R s m args below meth c T' (locs ++ L) (cells + rm.cells) (slots + rm.slots) → Qc v T'.heap L → own_Ends p e below s Q kc ks T' (mkF m pc' ls (v.toList ++ rest))) : own_Ends p e below s Q kc ks T (mkF m pc ls st) := by
  subst hp
  obtain ⟨cq, qa, qb⟩ := E.cell
  obtain ⟨v, _, ⟨T1, L1, k1, n1⟩, -, X1, ⟨Lc, hQ, r1, r2, r3⟩, st1⟩ := X.privateBack hx (y := y) hown (mvT hZ wl) (mvT hZ wm) (mvT hZ wsel) (Jvm.Cond.privateMethod_at (mvP hZ wp (args := #[]))) (mvT hZ wc) hy (backOf (W := W) hM hZ wc wi hf hlo) (g := mkF m pc ls st) rfl hsz (Steps.refl _) (a := b) (by rw [eT]; exact qa) qb (argsL := argsL) (rest := rest) hlen hst hW hd (fun _ _ => ⟨rfl, eT, hcl, hsl⟩)
  dsimp only [Pt.U, Pt.locs, Pt.cells, Pt.slots] at X1 r1 r2 r3 st1 hQ
  subst r1 r2 r3
  exact own_go (fun t k => st1.trans k) (K T1 Lc v X1 hQ)
theorem own_mvM {Z : State} {a0 args : Array Value} {own host : String} {ix : Nat} {y : MethodName} (hZ : Z.Warmed39 s.vm) (w : (Jvm.Cond.methodLinkNest own ix y host).before a0 Z = true) : (Jvm.Cond.methodLinkNest own ix y host).before args s = true := (Jvm.Cond.methodLinkNest_wide hZ w :)
theorem own_callN (X : Stand p l e R s m args below meth c T locs cells slots) (hx : p.tables.exec = Jvm.exec) {b : Addr} {host : String} {Z : State} {a0 : Array Value} {h : Heap} {own : String} {ix : Nat} {y : MethodName} {bytes : ByteArray} {maxL W : Nat} {ret : Option FieldType} {rm : Room} {Qc : Option Value → Heap → List Loc → Prop} {argsL rest : List Value} (hZ : Z.Warmed39 s.vm) (eT : T.heap = h) (hown : s.vm.findClass own = some m.cls) (hsz : ls.size = c.maxLocals) (hret : ret = none) (hinit : y.name = "<init>") (wl : (Jvm.Cond.methodLinkNest own ix y host).before a0 Z = true) (wm : (Jvm.Cond.instanceMethod y).before a0 Z = true) (wi : (Jvm.Cond.initialized y.cls).before a0 Z = true) (wc : (Jvm.Cond.code y bytes maxL ret).before a0 Z = true) (hy : y.cls ≠ "java/lang/invoke/MethodHandle" ∧ y.cls ≠ "java/lang/invoke/VarHandle") (hM : MetFree l y (head1 [Jvm.Cond.code y bytes maxL ret] rm) (fun a U => a = (Value.ref b :: argsL).toArray ∧ Z.Warmed39 U.vm ∧ U.heap = h) (fun _ _ _ _ _ => True) (fun _ U o U' => ∃ v L, o = .returned v ∧ Qc v U'.heap L ∧ FrameEnd U o U' L rm.cells rm.slots)) (hf : rm.frames + 1 ≤ R.frames) (hlo : W + (maxL + 11) + rm.locals ≤ R.locals) (hcl : cells + rm.cells ≤ R.cells) (hsl : slots + rm.slots ≤ R.slots)
    (hlen : ∀ sig, parseMethodDescriptor y.desc = some sig → argsL.length = sig.parameters.length) (hst : st = argsL.reverse ++ .ref b :: rest) (hW : 2 * 0 + (rest.map fun v => v.category).sum ≤ W) (hd : decode c.code pc = .ok (.invokespecial ix, 3)) (hp : pc + 3 = pc') (K : ∀ T' L v, Stand p l e R s m args below meth c T' (locs ++ L) (cells + rm.cells) (slots + rm.slots) → Qc v T'.heap L → own_Ends p e below s Q kc ks T' (mkF m pc' ls (v.toList ++ rest))) : own_Ends p e below s Q kc ks T (mkF m pc ls st) := by
  subst hp hret
  obtain ⟨v, _, ⟨T1, L1, k1, n1⟩, -, X1, ⟨Lc, hQ, r1, r2, r3⟩, st1⟩ := X.specialBackNest hx (y := y) hinit hown (own_mvM hZ wl) (mvT hZ wm) (mvT hZ wc) hy (backOf (W := W) hM hZ wc wi hf hlo) (g := mkF m pc ls st) rfl hsz (Steps.refl _) (a := b) (argsL := argsL) (rest := rest) hlen hst hW hd (fun _ _ => ⟨rfl, eT, hcl, hsl⟩)
  dsimp only [Pt.U, Pt.locs, Pt.cells, Pt.slots] at X1 r1 r2 r3 st1 hQ
  subst r1 r2 r3
  exact own_go (fun t k => st1.trans k) (K T1 Lc v X1 hQ)
theorem own_anewarr (X : Stand p l e R s m args below meth c T locs cells slots) (hx : p.tables.exec = Jvm.exec) {Z : State} {a0 : Array Value} {h : Heap} {own C : String} {ix : Nat} (hZ : Z.Warmed39 s.vm) (hown : s.vm.findClass own = some m.cls) (w1 : (Jvm.Cond.classLink own ix C).before a0 Z = true) (w2 : (Jvm.Cond.arrayOver (.object C)).before a0 Z = true) (eT : T.heap = h) (hd : decode c.code pc = .ok (.anewarray ix, 3)) (hp : pc + 3 = pc') {n : Int32} (hn : ¬ n < 0) (cap q : Nat) (hcap : n.toNatClampNeg ≤ cap) (hb : cap * 8 ≤ 536870912) (hc : cells + 1 ≤ R.cells) (hl : slots + cap ≤ R.slots) {ad : String} (had : "[" ++ (FieldType.object C).toString = ad)
    (K : ∀ T' h' a k, Stand p l e R s m args below meth c T' locs (cells + 1) (slots + cap) → T'.heap = h' → Ext h h' → a = h.size → Arv Z h' a k (.object C) n (List.replicate q .null) .null → Exa Z h' a ad → Ovr Z k C → own_Ends p e below s Q kc ks T' (mkF m pc' ls (.ref a :: st))) : own_Ends p e below s Q kc ks T (mkF m pc ls (.int n :: st)) := by
  subst hp
  obtain ⟨T1, h1, k1, X1, e1, E1, A1, Z1, O1, st1⟩ := newRE X hx hZ hown w1 w2 eT (g := mkF m pc ls (.int n :: st)) rfl hd rfl hn (cap := cap) hcap hb hc hl had
  exact own_go st1 (K T1 h1 _ k1 X1 e1 E1 rfl ((Arv.new A1 hn).pad (pad_rep [] _ q)) Z1 O1)
theorem own_aastore (X : Stand p l e R s m args below meth c T locs cells slots) (hx : p.tables.exec = Jvm.exec) {Z : State} {h : Heap} {a b : Addr} {k : ClassId} {C D : String} {n j : Int32} {vs : List Value} {d : Value} (hZ : Z.Warmed39 s.vm) (eT : T.heap = h) (V : Arv Z h a k (.object D) n vs d) (O : Ovr Z k C) (I : Ins Z h b C true) (hd : decode c.code pc = .ok (.aastore, 1)) (hp : pc + 1 = pc') (hj : ¬ j < 0 ∧ j < n) (i : Nat) (hi : j.toNatClampNeg = i) (hl : i < vs.length) {n0 : Nat} (N : Fr n0 locs) (ge : n0 ≤ a)
    (K : ∀ T' h' L, Stand p l e R s m args below meth c T' L cells slots → T'.heap = h' → Fr n0 L → Wr h h' a j.toNatClampNeg (.ref b) → Arv Z h' a k (.object D) n (vs.set i (.ref b)) d → own_Ends p e below s Q kc ks T' (mkF m pc' ls st)) : own_Ends p e below s Q kc ks T (mkF m pc ls (.ref b :: .int j :: .ref a :: st)) := by
  subst hp
  obtain ⟨cl, A, q1, S, q2, H, G⟩ := V
  have hin := inb_of S hj
  obtain ⟨T1, h1, X1, e1, W1, st1⟩ := stR X hx hZ eT A (j := j) hin rfl (Sto.ofV A q1 O I) (g := mkF m pc ls (.ref b :: .int j :: .ref a :: st)) rfl rfl hd
  exact own_go st1 (K T1 h1 _ X1 e1 (Fr.snoc X1 N ge) W1 (Arv.set A q1 S q2 H G rfl W1 i hi hl))
theorem own_tswIn (X : Stand p l e R s m args below meth c T locs cells slots) (hx : p.tables.exec = Jvm.exec) {d lo hi o : Int} {offs : Array Int} {len : Nat} {i : Int32} (hd : decode c.code pc = .ok (.tableswitch d lo hi offs, len)) (hin : ¬ (i.toInt < lo ∨ i.toInt > hi)) (hoff : offs[(i.toInt - lo).toNat]? = some o) (ho : 0 ≤ (pc : Int) + o) (hp : ((pc : Int) + o).toNat = pc') (K : own_Ends p e below s Q kc ks T (mkF m pc' ls st)) : own_Ends p e below s Q kc ks T (mkF m pc ls (.int i :: st)) :=
  own_go (fun t k => XS.tswIn X.here hx rfl rfl hd rfl hin hoff ho hp k) K
theorem own_tswOut (X : Stand p l e R s m args below meth c T locs cells slots) (hx : p.tables.exec = Jvm.exec) {d lo hi : Int} {offs : Array Int} {len : Nat} {i : Int32} (hd : decode c.code pc = .ok (.tableswitch d lo hi offs, len)) (hout : i.toInt < lo ∨ i.toInt > hi) (ho : 0 ≤ (pc : Int) + d) (hp : ((pc : Int) + d).toNat = pc') (K : own_Ends p e below s Q kc ks T (mkF m pc' ls st)) : own_Ends p e below s Q kc ks T (mkF m pc ls (.int i :: st)) :=
  own_go (fun t k => XS.tswOut X.here hx rfl rfl hd rfl hout ho hp k) K
theorem own_ext {h h' : Heap} (K : Keep h h' []) : Ext h h' := ⟨K.1, fun a c q => K.2.1 a c q nin0⟩
theorem own_stak {Z : State} {h h' : Heap} {ws : List Addr} {C n d : String} {v : Value} (F : Sta Z h C n d v) (K : Keep h h' ws) (q : ∀ x ∈ ws, ∃ c : Cell, h[x]? = some c ∧ c.vm.isStatics = false) : Sta Z h' C n d v := by
  obtain ⟨cf, i, k, f, st, cell, h1, h2, h3, h4, h5, h6, h7⟩ := F
  refine ⟨cf, i, k, f, st, cell, h1, h2, h3, h4, K.2.1 st cell h5 (fun z => ?_), h6, h7⟩
  obtain ⟨c, q1, q2⟩ := q st z
  cases h5.symm.trans q1
  rw [h6] at q2; cases q2
theorem own_exac {Z : State} {h : Heap} {a : Addr} {C : String} (F : Exa Z h a C) : ∃ c : Cell, h[a]? = some c ∧ c.vm.isStatics = false := by
  obtain ⟨c, _, h1, -, -, h4, -⟩ := F; exact ⟨c, h1, h4⟩
theorem own_arvc {Z : State} {h : Heap} {a : Addr} {k : ClassId} {ty : FieldType} {n : Int32} {vs : List Value} {d : Value} (F : Arv Z h a k ty n vs d) : ∃ c : Cell, h[a]? = some c ∧ c.vm.isStatics = false := by
  obtain ⟨c, A, -⟩ := F; exact ⟨c, A.1, A.plain⟩
end Own
theorem own_w0 {Z : State} {a0 : Array Value} (hw : ∀ d ∈ tables_1, d.before a0 Z = true) : (Jvm.Cond.classLink "com/example/larder/larder/cache/UseCountsAddPinLaw" (7 : Nat) "com/example/larder/larder/cache/UseCounts").before a0 Z = true := hw _ (List.mem_of_getElem? (i := 0) rfl)
theorem own_w1 {Z : State} {a0 : Array Value} (hw : ∀ d ∈ tables_1, d.before a0 Z = true) : (Jvm.Cond.instantiable "com/example/larder/larder/cache/UseCounts" (2 : Nat)).before a0 Z = true := hw _ (List.mem_of_getElem? (i := 1) rfl)
theorem own_w2 {Z : State} {a0 : Array Value} (hw : ∀ d ∈ tables_1, d.before a0 Z = true) : (Jvm.Cond.initialized "com/example/larder/larder/cache/UseCounts").before a0 Z = true := hw _ (List.mem_of_getElem? (i := 2) rfl)
theorem own_w3 {Z : State} {a0 : Array Value} (hw : ∀ d ∈ tables_1, d.before a0 Z = true) : (Jvm.Cond.methodLink "com/example/larder/larder/cache/UseCountsAddPinLaw" (9 : Nat) ({ cls := "com/example/larder/larder/cache/UseCounts", name := "<init>", desc := "()V" } : Jvm.MethodName)).before a0 Z = true := hw _ (List.mem_of_getElem? (i := 3) rfl)
theorem own_w4 {Z : State} {a0 : Array Value} (hw : ∀ d ∈ tables_1, d.before a0 Z = true) : (Jvm.Cond.instanceMethod ({ cls := "com/example/larder/larder/cache/UseCounts", name := "<init>", desc := "()V" } : Jvm.MethodName)).before a0 Z = true := hw _ (List.mem_of_getElem? (i := 4) rfl)
theorem own_w5 {Z : State} {a0 : Array Value} (hw : ∀ d ∈ tables_1, d.before a0 Z = true) : (Jvm.Cond.code ({ cls := "com/example/larder/larder/cache/UseCounts", name := "<init>", desc := "()V" } : Jvm.MethodName) prog_11_method_1_code (1 : Nat) (Option.none : Option Jvm.ClassFile.FieldType)).before a0 Z = true := hw _ (List.mem_of_getElem? (i := 5) rfl)
theorem own_w6 {Z : State} {a0 : Array Value} (hw : ∀ d ∈ tables_1, d.before a0 Z = true) : (Jvm.Cond.methodLink "com/example/larder/larder/cache/UseCounts" (1 : Nat) ({ cls := "java/lang/Object", name := "<init>", desc := "()V" } : Jvm.MethodName)).before a0 Z = true := hw _ (List.mem_of_getElem? (i := 6) rfl)
theorem own_w7 {Z : State} {a0 : Array Value} (hw : ∀ d ∈ tables_1, d.before a0 Z = true) : (Jvm.Cond.instanceMethod ({ cls := "java/lang/Object", name := "<init>", desc := "()V" } : Jvm.MethodName)).before a0 Z = true := hw _ (List.mem_of_getElem? (i := 7) rfl)
theorem own_w8 {Z : State} {a0 : Array Value} (hw : ∀ d ∈ tables_1, d.before a0 Z = true) : (Jvm.Cond.code ({ cls := "java/lang/Object", name := "<init>", desc := "()V" } : Jvm.MethodName) object_method_1_code (1 : Nat) (Option.none : Option Jvm.ClassFile.FieldType)).before a0 Z = true := hw _ (List.mem_of_getElem? (i := 8) rfl)
theorem own_w9 {Z : State} {a0 : Array Value} (hw : ∀ d ∈ tables_1, d.before a0 Z = true) : (Jvm.Cond.arrayClass Jvm.ClassFile.FieldType.int).before a0 Z = true := hw _ (List.mem_of_getElem? (i := 9) rfl)
theorem own_w10 {Z : State} {a0 : Array Value} (hw : ∀ d ∈ tables_1, d.before a0 Z = true) : (Jvm.Cond.fieldLink "com/example/larder/larder/cache/UseCounts" (9 : Nat) "com/example/larder/larder/cache/UseCounts" "table" "[I").before a0 Z = true := hw _ (List.mem_of_getElem? (i := 10) rfl)
theorem own_w11 {Z : State} {a0 : Array Value} (hw : ∀ d ∈ tables_1, d.before a0 Z = true) : (Jvm.Cond.lays "com/example/larder/larder/cache/UseCounts" "com/example/larder/larder/cache/UseCounts" "table" "[I").before a0 Z = true := hw _ (List.mem_of_getElem? (i := 11) rfl)
theorem own_w12 {Z : State} {a0 : Array Value} (hw : ∀ d ∈ tables_1, d.before a0 Z = true) : (Jvm.Cond.methodLink "com/example/larder/larder/cache/UseCountsAddPinLaw" (10 : Nat) ({ cls := "com/example/larder/larder/cache/UseCounts", name := "add", desc := "(I)V" } : Jvm.MethodName)).before a0 Z = true := hw _ (List.mem_of_getElem? (i := 12) rfl)
theorem own_w13 {Z : State} {a0 : Array Value} (hw : ∀ d ∈ tables_1, d.before a0 Z = true) : (Jvm.Cond.declares ({ cls := "com/example/larder/larder/cache/UseCounts", name := "add", desc := "(I)V" } : Jvm.MethodName)).before a0 Z = true := hw _ (List.mem_of_getElem? (i := 13) rfl)
theorem own_w14 {Z : State} {a0 : Array Value} (hw : ∀ d ∈ tables_1, d.before a0 Z = true) : (Jvm.Cond.instanceMethod ({ cls := "com/example/larder/larder/cache/UseCounts", name := "add", desc := "(I)V" } : Jvm.MethodName)).before a0 Z = true := hw _ (List.mem_of_getElem? (i := 14) rfl)
theorem own_w15 {Z : State} {a0 : Array Value} (hw : ∀ d ∈ tables_1, d.before a0 Z = true) : (Jvm.Cond.selects "com/example/larder/larder/cache/UseCounts" ({ cls := "com/example/larder/larder/cache/UseCounts", name := "add", desc := "(I)V" } : Jvm.MethodName) ({ cls := "com/example/larder/larder/cache/UseCounts", name := "add", desc := "(I)V" } : Jvm.MethodName)).before a0 Z = true := hw _ (List.mem_of_getElem? (i := 15) rfl)
theorem own_w16 {Z : State} {a0 : Array Value} (hw : ∀ d ∈ tables_1, d.before a0 Z = true) : (Jvm.Cond.code ({ cls := "com/example/larder/larder/cache/UseCounts", name := "add", desc := "(I)V" } : Jvm.MethodName) prog_11_method_2_code (9 : Nat) (Option.none : Option Jvm.ClassFile.FieldType)).before a0 Z = true := hw _ (List.mem_of_getElem? (i := 16) rfl)
theorem own_w17 {Z : State} {a0 : Array Value} (hw : ∀ d ∈ tables_1, d.before a0 Z = true) : (Jvm.Cond.methodLink "com/example/larder/larder/cache/UseCounts" (13 : Nat) ({ cls := "com/example/larder/larder/cache/UseCounts", name := "spread", desc := "(I)I" } : Jvm.MethodName)).before a0 Z = true := hw _ (List.mem_of_getElem? (i := 17) rfl)
theorem own_w18 {Z : State} {a0 : Array Value} (hw : ∀ d ∈ tables_1, d.before a0 Z = true) : (Jvm.Cond.static ({ cls := "com/example/larder/larder/cache/UseCounts", name := "spread", desc := "(I)I" } : Jvm.MethodName)).before a0 Z = true := hw _ (List.mem_of_getElem? (i := 18) rfl)
theorem own_w19 {Z : State} {a0 : Array Value} (hw : ∀ d ∈ tables_1, d.before a0 Z = true) : (Jvm.Cond.code ({ cls := "com/example/larder/larder/cache/UseCounts", name := "spread", desc := "(I)I" } : Jvm.MethodName) prog_11_method_6_code (2 : Nat) (Option.some Jvm.ClassFile.FieldType.int)).before a0 Z = true := hw _ (List.mem_of_getElem? (i := 19) rfl)
theorem own_w20 {Z : State} {a0 : Array Value} (hw : ∀ d ∈ tables_1, d.before a0 Z = true) : (Jvm.Cond.constant "com/example/larder/larder/cache/UseCounts" (51 : Nat) (73244475 : Int32)).before a0 Z = true := hw _ (List.mem_of_getElem? (i := 20) rfl)
theorem own_w21 {Z : State} {a0 : Array Value} (hw : ∀ d ∈ tables_1, d.before a0 Z = true) : (Jvm.Cond.methodLink "com/example/larder/larder/cache/UseCounts" (17 : Nat) ({ cls := "com/example/larder/larder/cache/UseCounts", name := "index", desc := "(III)I" } : Jvm.MethodName)).before a0 Z = true := hw _ (List.mem_of_getElem? (i := 21) rfl)
theorem own_w22 {Z : State} {a0 : Array Value} (hw : ∀ d ∈ tables_1, d.before a0 Z = true) : (Jvm.Cond.static ({ cls := "com/example/larder/larder/cache/UseCounts", name := "index", desc := "(III)I" } : Jvm.MethodName)).before a0 Z = true := hw _ (List.mem_of_getElem? (i := 22) rfl)
theorem own_w23 {Z : State} {a0 : Array Value} (hw : ∀ d ∈ tables_1, d.before a0 Z = true) : (Jvm.Cond.code ({ cls := "com/example/larder/larder/cache/UseCounts", name := "index", desc := "(III)I" } : Jvm.MethodName) prog_11_method_7_code (4 : Nat) (Option.some Jvm.ClassFile.FieldType.int)).before a0 Z = true := hw _ (List.mem_of_getElem? (i := 23) rfl)
theorem own_w24 {Z : State} {a0 : Array Value} (hw : ∀ d ∈ tables_1, d.before a0 Z = true) : (Jvm.Cond.fieldLink "com/example/larder/larder/cache/UseCounts" (52 : Nat) "com/example/larder/larder/cache/UseCounts" "SEEDS" "[I").before a0 Z = true := hw _ (List.mem_of_getElem? (i := 24) rfl)
theorem own_w26 {Z : State} {a0 : Array Value} (hw : ∀ d ∈ tables_1, d.before a0 Z = true) : (Jvm.Cond.methodLink "com/example/larder/larder/cache/UseCounts" (21 : Nat) ({ cls := "com/example/larder/larder/cache/UseCounts", name := "shift", desc := "(II)I" } : Jvm.MethodName)).before a0 Z = true := hw _ (List.mem_of_getElem? (i := 26) rfl)
theorem own_w27 {Z : State} {a0 : Array Value} (hw : ∀ d ∈ tables_1, d.before a0 Z = true) : (Jvm.Cond.static ({ cls := "com/example/larder/larder/cache/UseCounts", name := "shift", desc := "(II)I" } : Jvm.MethodName)).before a0 Z = true := hw _ (List.mem_of_getElem? (i := 27) rfl)
theorem own_w28 {Z : State} {a0 : Array Value} (hw : ∀ d ∈ tables_1, d.before a0 Z = true) : (Jvm.Cond.code ({ cls := "com/example/larder/larder/cache/UseCounts", name := "shift", desc := "(II)I" } : Jvm.MethodName) prog_11_method_8_code (3 : Nat) (Option.some Jvm.ClassFile.FieldType.int)).before a0 Z = true := hw _ (List.mem_of_getElem? (i := 28) rfl)
theorem own_w29 {Z : State} {a0 : Array Value} (hw : ∀ d ∈ tables_1, d.before a0 Z = true) : (Jvm.Cond.fieldLink "com/example/larder/larder/cache/UseCounts" (25 : Nat) "com/example/larder/larder/cache/UseCounts" "additions" "I").before a0 Z = true := hw _ (List.mem_of_getElem? (i := 29) rfl)
theorem own_w30 {Z : State} {a0 : Array Value} (hw : ∀ d ∈ tables_1, d.before a0 Z = true) : (Jvm.Cond.lays "com/example/larder/larder/cache/UseCounts" "com/example/larder/larder/cache/UseCounts" "additions" "I").before a0 Z = true := hw _ (List.mem_of_getElem? (i := 30) rfl)
theorem own_w31 {Z : State} {a0 : Array Value} (hw : ∀ d ∈ tables_1, d.before a0 Z = true) : (Jvm.Cond.methodLink "com/example/larder/larder/cache/UseCountsAddPinLaw" (14 : Nat) ({ cls := "com/example/larder/larder/cache/UseCounts", name := "of", desc := "(I)I" } : Jvm.MethodName)).before a0 Z = true := hw _ (List.mem_of_getElem? (i := 31) rfl)
theorem own_w32 {Z : State} {a0 : Array Value} (hw : ∀ d ∈ tables_1, d.before a0 Z = true) : (Jvm.Cond.declares ({ cls := "com/example/larder/larder/cache/UseCounts", name := "of", desc := "(I)I" } : Jvm.MethodName)).before a0 Z = true := hw _ (List.mem_of_getElem? (i := 32) rfl)
theorem own_w33 {Z : State} {a0 : Array Value} (hw : ∀ d ∈ tables_1, d.before a0 Z = true) : (Jvm.Cond.instanceMethod ({ cls := "com/example/larder/larder/cache/UseCounts", name := "of", desc := "(I)I" } : Jvm.MethodName)).before a0 Z = true := hw _ (List.mem_of_getElem? (i := 33) rfl)
theorem own_w34 {Z : State} {a0 : Array Value} (hw : ∀ d ∈ tables_1, d.before a0 Z = true) : (Jvm.Cond.selects "com/example/larder/larder/cache/UseCounts" ({ cls := "com/example/larder/larder/cache/UseCounts", name := "of", desc := "(I)I" } : Jvm.MethodName) ({ cls := "com/example/larder/larder/cache/UseCounts", name := "of", desc := "(I)I" } : Jvm.MethodName)).before a0 Z = true := hw _ (List.mem_of_getElem? (i := 34) rfl)
theorem own_w35 {Z : State} {a0 : Array Value} (hw : ∀ d ∈ tables_1, d.before a0 Z = true) : (Jvm.Cond.code ({ cls := "com/example/larder/larder/cache/UseCounts", name := "of", desc := "(I)I" } : Jvm.MethodName) prog_11_method_3_code (7 : Nat) (Option.some Jvm.ClassFile.FieldType.int)).before a0 Z = true := hw _ (List.mem_of_getElem? (i := 35) rfl)
theorem own_w36 {Z : State} {a0 : Array Value} (hw : ∀ d ∈ tables_1, d.before a0 Z = true) : (Jvm.Cond.methodLink "com/example/larder/larder/cache/UseCounts" (33 : Nat) ({ cls := "java/lang/Math", name := "min", desc := "(II)I" } : Jvm.MethodName)).before a0 Z = true := hw _ (List.mem_of_getElem? (i := 36) rfl)
theorem own_w37 {Z : State} {a0 : Array Value} (hw : ∀ d ∈ tables_1, d.before a0 Z = true) : (Jvm.Cond.static ({ cls := "java/lang/Math", name := "min", desc := "(II)I" } : Jvm.MethodName)).before a0 Z = true := hw _ (List.mem_of_getElem? (i := 37) rfl)
theorem own_w38 {Z : State} {a0 : Array Value} (hw : ∀ d ∈ tables_1, d.before a0 Z = true) : (Jvm.Cond.initialized "java/lang/Math").before a0 Z = true := hw _ (List.mem_of_getElem? (i := 38) rfl)
theorem own_w39 {Z : State} {a0 : Array Value} (hw : ∀ d ∈ tables_1, d.before a0 Z = true) : (Jvm.Cond.code ({ cls := "java/lang/Math", name := "min", desc := "(II)I" } : Jvm.MethodName) jdk_29_method_69_code (2 : Nat) (Option.some Jvm.ClassFile.FieldType.int)).before a0 Z = true := hw _ (List.mem_of_getElem? (i := 39) rfl)
theorem own_w40 {Z : State} {a0 : Array Value} (hw : ∀ d ∈ tables_1, d.before a0 Z = true) : (Jvm.Cond.methodLink "com/example/larder/larder/cache/UseCountsAddPinLaw" (18 : Nat) ({ cls := "com/example/larder/larder/cache/UseCountsAddPinLaw", name := "own", desc := "(IIIIIII)I" } : Jvm.MethodName)).before a0 Z = true := hw _ (List.mem_of_getElem? (i := 40) rfl)
theorem own_w41 {Z : State} {a0 : Array Value} (hw : ∀ d ∈ tables_1, d.before a0 Z = true) : (Jvm.Cond.static ({ cls := "com/example/larder/larder/cache/UseCountsAddPinLaw", name := "own", desc := "(IIIIIII)I" } : Jvm.MethodName)).before a0 Z = true := hw _ (List.mem_of_getElem? (i := 41) rfl)
theorem own_w42 {Z : State} {a0 : Array Value} (hw : ∀ d ∈ tables_1, d.before a0 Z = true) : (Jvm.Cond.initialized "com/example/larder/larder/cache/UseCountsAddPinLaw").before a0 Z = true := hw _ (List.mem_of_getElem? (i := 42) rfl)
theorem own_w43 {Z : State} {a0 : Array Value} (hw : ∀ d ∈ tables_1, d.before a0 Z = true) : (Jvm.Cond.code ({ cls := "com/example/larder/larder/cache/UseCountsAddPinLaw", name := "own", desc := "(IIIIIII)I" } : Jvm.MethodName) method_3_code (8 : Nat) (Option.some Jvm.ClassFile.FieldType.int)).before a0 Z = true := hw _ (List.mem_of_getElem? (i := 43) rfl)
theorem own_w44 {Z : State} {a0 : Array Value} (hw : ∀ d ∈ tables_1, d.before a0 Z = true) : (Jvm.Cond.methodLink "com/example/larder/larder/cache/UseCountsAddPinLaw" (24 : Nat) ({ cls := "com/example/larder/larder/cache/UseCountsAddPinLaw", name := "within", desc := "(III)Z" } : Jvm.MethodName)).before a0 Z = true := hw _ (List.mem_of_getElem? (i := 44) rfl)
theorem own_w45 {Z : State} {a0 : Array Value} (hw : ∀ d ∈ tables_1, d.before a0 Z = true) : (Jvm.Cond.static ({ cls := "com/example/larder/larder/cache/UseCountsAddPinLaw", name := "within", desc := "(III)Z" } : Jvm.MethodName)).before a0 Z = true := hw _ (List.mem_of_getElem? (i := 45) rfl)
theorem own_w46 {Z : State} {a0 : Array Value} (hw : ∀ d ∈ tables_1, d.before a0 Z = true) : (Jvm.Cond.code ({ cls := "com/example/larder/larder/cache/UseCountsAddPinLaw", name := "within", desc := "(III)Z" } : Jvm.MethodName) method_4_code (3 : Nat) (Option.some Jvm.ClassFile.FieldType.boolean)).before a0 Z = true := hw _ (List.mem_of_getElem? (i := 46) rfl)
theorem own_pd0 : parseMethodDescriptor "(I)I" = some ⟨[.int], some .int⟩ := by decide +kernel
theorem own_pd1 : parseMethodDescriptor "(III)I" = some ⟨[.int, .int, .int], some .int⟩ := by decide +kernel
theorem own_pd2 : parseMethodDescriptor "(II)I" = some ⟨[.int, .int], some .int⟩ := by decide +kernel
theorem own_pd3 : parseMethodDescriptor "()V" = some ⟨[], none⟩ := by decide +kernel
theorem own_pd4 : parseMethodDescriptor "(IIIIIII)I" = some ⟨[.int, .int, .int, .int, .int, .int, .int], some .int⟩ := by decide +kernel
theorem own_pd5 : parseMethodDescriptor "(III)Z" = some ⟨[.int, .int, .int], some .boolean⟩ := by decide +kernel
theorem own_pd6 : parseMethodDescriptor "(I)V" = some ⟨[.int], none⟩ := by decide +kernel
theorem own_pn0 : plainName "com/example/larder/larder/cache/UseCounts" = true := by first | (simp [plainName, overriddenIn]; done) | decide +kernel
theorem own_pn1 : plainName "com/example/larder/larder/cache/UseCountsAddPinLaw" = true := by first | (simp [plainName, overriddenIn]; done) | decide +kernel
theorem own_arrat {s : State} {a : Addr} {c : Cell} (h : s.arrayAt? a = some c) : s.heap[a]? = some c := by
  unfold State.arrayAt? at h
  cases q : s.heap[a]? with
  | none => simp [q] at h
  | some d =>
    simp [q] at h
    obtain ⟨k, -, h2⟩ := Option.bind_eq_some_iff.mp h
    split at h2
    · cases h2
    · split at h2
      · exact h2
      · cases h2
theorem own_b1 {x a b : Int32} (h : x < a) (q : ¬ b < a) : x < b := by rw [Int32.lt_iff_toInt_lt] at *; omega
theorem own_b2 {x a b : Int32} (h : ¬ x < a) (q : ¬ a < b) : ¬ x < b := by rw [Int32.lt_iff_toInt_lt] at *; omega
theorem own_b3 {x a b : Int32} (h : a < x) (q : ¬ a < b) : b < x := by rw [Int32.lt_iff_toInt_lt] at *; omega
theorem own_b4 {x a b : Int32} (h : ¬ a < x) (q : ¬ b < a) : ¬ b < x := by rw [Int32.lt_iff_toInt_lt] at *; omega
theorem own_b5 {x a b : Int32} (h : x < a) (q : ¬ b < a - 1 ∧ a - 1 < a) : ¬ b < x := by
  obtain ⟨q1, q2⟩ := q
  have := c_isub a 1; have := rng32 a; have := rng32 (a - 1); have e1 : (1 : Int32).toInt = 1 := rfl
  rw [Int32.lt_iff_toInt_lt] at *; omega
theorem own_b6 {x a b : Int32} (h : ¬ x < a) (q : b < a) : b < x := by rw [Int32.lt_iff_toInt_lt] at *; omega
theorem own_b7 {x a b : Int32} (h : a < x) (q : ¬ a + 1 < b ∧ a < a + 1) : ¬ x < b := by
  obtain ⟨q1, q2⟩ := q
  have := c_iadd a 1; have := rng32 a; have := rng32 (a + 1); have e1 : (1 : Int32).toInt = 1 := rfl
  rw [Int32.lt_iff_toInt_lt] at *; omega
theorem own_b8 {x a b : Int32} (h : ¬ a < x) (q : a < b) : x < b := by rw [Int32.lt_iff_toInt_lt] at *; omega
theorem own_n1 {x b : Int32} (h : x < b) : ¬ x = b := fun q => by subst q; rw [Int32.lt_iff_toInt_lt] at h; omega
theorem own_n2 {x b : Int32} (h : b < x) : ¬ x = b := fun q => by subst q; rw [Int32.lt_iff_toInt_lt] at h; omega
theorem own_i1 {x y : Int32} (h : x < y) : x.toInt < y.toInt := Int32.lt_iff_toInt_lt.mp h
theorem own_i2 {x y : Int32} (h : ¬ x < y) : y.toInt ≤ x.toInt := Int.not_lt.mp fun q => h (Int32.lt_iff_toInt_lt.mpr q)
theorem own_i3 {x y : Int32} (h : x = y) : x.toInt = y.toInt := congrArg Int32.toInt h
theorem own_i4 {x y : Int32} (h : ¬ x = y) : ¬ x.toInt = y.toInt := fun q => h (Int32.toInt_inj.mp q)
theorem own_some {x y : Int32} (h : x = y) : some (Value.int x) = some (Value.int y) := congrArg (fun z => some (Value.int z)) h
theorem own_ae1 {a b : Addr} (h : a = b) : XT.acmp .eq (.ref a) (.ref b) = true ∧ XT.acmp .ne (.ref a) (.ref b) = false := ⟨decide_eq_true (congrArg Value.ref h), decide_eq_false fun q => q (congrArg Value.ref h)⟩
theorem own_ae0 {a b : Addr} (h : ¬ a = b) : XT.acmp .eq (.ref a) (.ref b) = false ∧ XT.acmp .ne (.ref a) (.ref b) = true := ⟨decide_eq_false fun q => h (Value.ref.inj q), decide_eq_true fun q => h (Value.ref.inj q)⟩
theorem own_ann : XT.acmp .eq .null .null = true ∧ XT.acmp .ne .null .null = false := ⟨rfl, rfl⟩
theorem own_anr (b : Addr) : XT.acmp .eq .null (.ref b) = false ∧ XT.acmp .ne .null (.ref b) = true := by constructor <;> first | rfl | (simp [XT.acmp]; done) | decide
theorem own_arn (b : Addr) : XT.acmp .eq (.ref b) .null = false ∧ XT.acmp .ne (.ref b) .null = true := by constructor <;> first | rfl | (simp [XT.acmp]; done) | decide
theorem own_eqi {args : Array Value} {s : State} {t : Term} {k : Int32} (h : (Jvm.Cond.eq t (Term.int k)).value args s none s [] = some true) : t.eval args s none [] s = some (.int k) := by
  obtain ⟨x, y, e1, e2, k1, k2⟩ := cmp_v (Or.inl h)
  obtain rfl : Value.int k = y := Option.some.inj ((Term.int_eval k).symm.trans e2)
  obtain ⟨z, rfl⟩ : ∃ z, x = .int z := k2
  have q : z = k := gotT (Cond.eq_ints e1 (Term.int_eval k)) h
  rw [e1, q]
theorem own_eql {args : Array Value} {s : State} {t : Term} {k : Int64} (h : (Jvm.Cond.eq t (Term.long k)).value args s none s [] = some true) : t.eval args s none [] s = some (.long k) := by
  obtain ⟨x, y, e1, e2, k1, k2⟩ := cmp_v (Or.inl h)
  obtain rfl : Value.long k = y := Option.some.inj ((show (Term.long k).eval args s none [] s = some (.long k) from rfl).symm.trans e2)
  obtain ⟨z, rfl⟩ : ∃ z, x = .long z := k2
  have q : z = k := gotT (eq_L e1 (show (Term.long k).eval args s none [] s = some (.long k) from rfl)) h
  rw [e1, q]
theorem own_len {args : Array Value} {s : State} {t : Term} {k : Int32} {a : Addr} {c : Cell} (h : (Term.length t).eval args s none [] s = some (.int k)) (ht : t.eval args s none [] s = some (.ref a)) (hc : s.heap[a]? = some c) : c.slots.size.toInt32 = k ∧ c.slots.size < 2 ^ 31 := by
  obtain ⟨a', cell, e1, e2, e3⟩ := Term.length_spec h
  cases ht.symm.trans e1
  have e4 : s.heap[a]? = some cell := own_arrat e2
  cases hc.symm.trans e4
  refine ⟨(Value.int.inj e3).symm, ?_⟩
  by_cases q : c.slots.size < 2 ^ 31
  · exact q
  · simp [Term.eval, ht, e2, q] at h
theorem own_nb0 : nar .boolean 0 = 0 := by decide
theorem own_nb1 : nar .boolean 1 = 1 := by decide
def own_ushr (x y : Int32) : Int32 := (x.toUInt32 >>> (y &&& 31).toUInt32).toInt32
def own_ushrL (x : Int64) (y : Int32) : Int64 := (x.toUInt64 >>> (y &&& 0x3f).toInt64.toUInt64).toInt64
theorem own_d1_0 : decode prog_11_method_1_code 0 = .ok (.aload_n 0, 1) := by decide +kernel
theorem own_d1_1 : decode prog_11_method_1_code 1 = .ok (.invokespecial 1, 3) := by decide +kernel
theorem own_d1_4 : decode prog_11_method_1_code 4 = .ok (.aload_n 0, 1) := by decide +kernel
theorem own_d1_5 : decode prog_11_method_1_code 5 = .ok (.bipush 16, 2) := by decide +kernel
theorem own_d1_7 : decode prog_11_method_1_code 7 = .ok (.newarray .int, 2) := by decide +kernel
theorem own_d1_9 : decode prog_11_method_1_code 9 = .ok (.putfield 9, 3) := by decide +kernel
theorem own_d1_12 : decode prog_11_method_1_code 12 = .ok (.return_, 1) := by decide +kernel
theorem own_d3_0 : decode prog_11_method_2_code 0 = .ok (.aload_n 0, 1) := by decide +kernel
theorem own_d3_1 : decode prog_11_method_2_code 1 = .ok (.getfield 9, 3) := by decide +kernel
theorem own_d3_4 : decode prog_11_method_2_code 4 = .ok (.astore_n 2, 1) := by decide +kernel
theorem own_d3_5 : decode prog_11_method_2_code 5 = .ok (.iload_n 1, 1) := by decide +kernel
theorem own_d3_6 : decode prog_11_method_2_code 6 = .ok (.invokestatic 13, 3) := by decide +kernel
theorem own_d3_9 : decode prog_11_method_2_code 9 = .ok (.istore_n 3, 1) := by decide +kernel
theorem own_d3_10 : decode prog_11_method_2_code 10 = .ok (.iconst 0, 1) := by decide +kernel
theorem own_d3_11 : decode prog_11_method_2_code 11 = .ok (.istore 4, 2) := by decide +kernel
theorem own_d3_13 : decode prog_11_method_2_code 13 = .ok (.iconst 0, 1) := by decide +kernel
theorem own_d3_14 : decode prog_11_method_2_code 14 = .ok (.istore 5, 2) := by decide +kernel
theorem own_d3_16 : decode prog_11_method_2_code 16 = .ok (.iload 5, 2) := by decide +kernel
theorem own_d3_18 : decode prog_11_method_2_code 18 = .ok (.iconst 4, 1) := by decide +kernel
theorem own_d3_19 : decode prog_11_method_2_code 19 = .ok (.if_icmp .ge 60, 3) := by decide +kernel
theorem own_d3_22 : decode prog_11_method_2_code 22 = .ok (.iload_n 3, 1) := by decide +kernel
theorem own_d3_23 : decode prog_11_method_2_code 23 = .ok (.iload 5, 2) := by decide +kernel
theorem own_d3_25 : decode prog_11_method_2_code 25 = .ok (.aload_n 2, 1) := by decide +kernel
theorem own_d3_26 : decode prog_11_method_2_code 26 = .ok (.arraylength, 1) := by decide +kernel
theorem own_d3_27 : decode prog_11_method_2_code 27 = .ok (.invokestatic 17, 3) := by decide +kernel
theorem own_d3_30 : decode prog_11_method_2_code 30 = .ok (.istore 6, 2) := by decide +kernel
theorem own_d3_32 : decode prog_11_method_2_code 32 = .ok (.iload_n 3, 1) := by decide +kernel
theorem own_d3_33 : decode prog_11_method_2_code 33 = .ok (.iload 5, 2) := by decide +kernel
theorem own_d3_35 : decode prog_11_method_2_code 35 = .ok (.invokestatic 21, 3) := by decide +kernel
theorem own_d3_38 : decode prog_11_method_2_code 38 = .ok (.istore 7, 2) := by decide +kernel
theorem own_d3_40 : decode prog_11_method_2_code 40 = .ok (.aload_n 2, 1) := by decide +kernel
theorem own_d3_41 : decode prog_11_method_2_code 41 = .ok (.iload 6, 2) := by decide +kernel
theorem own_d3_43 : decode prog_11_method_2_code 43 = .ok (.iaload, 1) := by decide +kernel
theorem own_d3_44 : decode prog_11_method_2_code 44 = .ok (.istore 8, 2) := by decide +kernel
theorem own_d3_46 : decode prog_11_method_2_code 46 = .ok (.iload 8, 2) := by decide +kernel
theorem own_d3_48 : decode prog_11_method_2_code 48 = .ok (.iload 7, 2) := by decide +kernel
theorem own_d3_50 : decode prog_11_method_2_code 50 = .ok (.iushr, 1) := by decide +kernel
theorem own_d3_51 : decode prog_11_method_2_code 51 = .ok (.bipush 15, 2) := by decide +kernel
theorem own_d3_53 : decode prog_11_method_2_code 53 = .ok (.iand, 1) := by decide +kernel
theorem own_d3_54 : decode prog_11_method_2_code 54 = .ok (.bipush 15, 2) := by decide +kernel
theorem own_d3_56 : decode prog_11_method_2_code 56 = .ok (.if_icmp .ge 17, 3) := by decide +kernel
theorem own_d3_59 : decode prog_11_method_2_code 59 = .ok (.aload_n 2, 1) := by decide +kernel
theorem own_d3_60 : decode prog_11_method_2_code 60 = .ok (.iload 6, 2) := by decide +kernel
theorem own_d3_62 : decode prog_11_method_2_code 62 = .ok (.iload 8, 2) := by decide +kernel
theorem own_d3_64 : decode prog_11_method_2_code 64 = .ok (.iconst 1, 1) := by decide +kernel
theorem own_d3_65 : decode prog_11_method_2_code 65 = .ok (.iload 7, 2) := by decide +kernel
theorem own_d3_67 : decode prog_11_method_2_code 67 = .ok (.ishl, 1) := by decide +kernel
theorem own_d3_68 : decode prog_11_method_2_code 68 = .ok (.iadd, 1) := by decide +kernel
theorem own_d3_69 : decode prog_11_method_2_code 69 = .ok (.iastore, 1) := by decide +kernel
theorem own_d3_70 : decode prog_11_method_2_code 70 = .ok (.iconst 1, 1) := by decide +kernel
theorem own_d3_71 : decode prog_11_method_2_code 71 = .ok (.istore 4, 2) := by decide +kernel
theorem own_d3_73 : decode prog_11_method_2_code 73 = .ok (.iinc 5 1, 3) := by decide +kernel
theorem own_d3_76 : decode prog_11_method_2_code 76 = .ok (.goto (-60), 3) := by decide +kernel
theorem own_d3_79 : decode prog_11_method_2_code 79 = .ok (.iload 4, 2) := by decide +kernel
theorem own_d3_81 : decode prog_11_method_2_code 81 = .ok (.ifCond .eq 29, 3) := by decide +kernel
theorem own_d3_84 : decode prog_11_method_2_code 84 = .ok (.aload_n 0, 1) := by decide +kernel
theorem own_d3_85 : decode prog_11_method_2_code 85 = .ok (.dup, 1) := by decide +kernel
theorem own_d3_86 : decode prog_11_method_2_code 86 = .ok (.getfield 25, 3) := by decide +kernel
theorem own_d3_89 : decode prog_11_method_2_code 89 = .ok (.iconst 1, 1) := by decide +kernel
theorem own_d3_90 : decode prog_11_method_2_code 90 = .ok (.iadd, 1) := by decide +kernel
theorem own_d3_91 : decode prog_11_method_2_code 91 = .ok (.putfield 25, 3) := by decide +kernel
theorem own_d3_94 : decode prog_11_method_2_code 94 = .ok (.aload_n 0, 1) := by decide +kernel
theorem own_d3_95 : decode prog_11_method_2_code 95 = .ok (.getfield 25, 3) := by decide +kernel
theorem own_d3_98 : decode prog_11_method_2_code 98 = .ok (.aload_n 2, 1) := by decide +kernel
theorem own_d3_99 : decode prog_11_method_2_code 99 = .ok (.arraylength, 1) := by decide +kernel
theorem own_d3_100 : decode prog_11_method_2_code 100 = .ok (.iconst 5, 1) := by decide +kernel
theorem own_d3_101 : decode prog_11_method_2_code 101 = .ok (.imul, 1) := by decide +kernel
theorem own_d3_102 : decode prog_11_method_2_code 102 = .ok (.if_icmp .lt 8, 3) := by decide +kernel
theorem own_d3_105 : decode prog_11_method_2_code 105 = .ok (.aload_n 0, 1) := by decide +kernel
theorem own_d3_106 : decode prog_11_method_2_code 106 = .ok (.aload_n 2, 1) := by decide +kernel
theorem own_d3_107 : decode prog_11_method_2_code 107 = .ok (.invokevirtual 29, 3) := by decide +kernel
theorem own_d3_110 : decode prog_11_method_2_code 110 = .ok (.return_, 1) := by decide +kernel
theorem own_d4_0 : decode prog_11_method_6_code 0 = .ok (.iload_n 0, 1) := by decide +kernel
theorem own_d4_1 : decode prog_11_method_6_code 1 = .ok (.iload_n 0, 1) := by decide +kernel
theorem own_d4_2 : decode prog_11_method_6_code 2 = .ok (.bipush 16, 2) := by decide +kernel
theorem own_d4_4 : decode prog_11_method_6_code 4 = .ok (.iushr, 1) := by decide +kernel
theorem own_d4_5 : decode prog_11_method_6_code 5 = .ok (.ixor, 1) := by decide +kernel
theorem own_d4_6 : decode prog_11_method_6_code 6 = .ok (.ldc 51, 2) := by decide +kernel
theorem own_d4_8 : decode prog_11_method_6_code 8 = .ok (.imul, 1) := by decide +kernel
theorem own_d4_9 : decode prog_11_method_6_code 9 = .ok (.istore_n 1, 1) := by decide +kernel
theorem own_d4_10 : decode prog_11_method_6_code 10 = .ok (.iload_n 1, 1) := by decide +kernel
theorem own_d4_11 : decode prog_11_method_6_code 11 = .ok (.iload_n 1, 1) := by decide +kernel
theorem own_d4_12 : decode prog_11_method_6_code 12 = .ok (.bipush 16, 2) := by decide +kernel
theorem own_d4_14 : decode prog_11_method_6_code 14 = .ok (.iushr, 1) := by decide +kernel
theorem own_d4_15 : decode prog_11_method_6_code 15 = .ok (.ixor, 1) := by decide +kernel
theorem own_d4_16 : decode prog_11_method_6_code 16 = .ok (.ldc 51, 2) := by decide +kernel
theorem own_d4_18 : decode prog_11_method_6_code 18 = .ok (.imul, 1) := by decide +kernel
theorem own_d4_19 : decode prog_11_method_6_code 19 = .ok (.istore_n 1, 1) := by decide +kernel
theorem own_d4_20 : decode prog_11_method_6_code 20 = .ok (.iload_n 1, 1) := by decide +kernel
theorem own_d4_21 : decode prog_11_method_6_code 21 = .ok (.iload_n 1, 1) := by decide +kernel
theorem own_d4_22 : decode prog_11_method_6_code 22 = .ok (.bipush 16, 2) := by decide +kernel
theorem own_d4_24 : decode prog_11_method_6_code 24 = .ok (.iushr, 1) := by decide +kernel
theorem own_d4_25 : decode prog_11_method_6_code 25 = .ok (.ixor, 1) := by decide +kernel
theorem own_d4_26 : decode prog_11_method_6_code 26 = .ok (.ireturn, 1) := by decide +kernel
theorem own_d5_0 : decode prog_11_method_7_code 0 = .ok (.iload_n 0, 1) := by decide +kernel
theorem own_d5_1 : decode prog_11_method_7_code 1 = .ok (.getstatic 52, 3) := by decide +kernel
theorem own_d5_4 : decode prog_11_method_7_code 4 = .ok (.iload_n 1, 1) := by decide +kernel
theorem own_d5_5 : decode prog_11_method_7_code 5 = .ok (.iaload, 1) := by decide +kernel
theorem own_d5_6 : decode prog_11_method_7_code 6 = .ok (.iadd, 1) := by decide +kernel
theorem own_d5_7 : decode prog_11_method_7_code 7 = .ok (.getstatic 52, 3) := by decide +kernel
theorem own_d5_10 : decode prog_11_method_7_code 10 = .ok (.iload_n 1, 1) := by decide +kernel
theorem own_d5_11 : decode prog_11_method_7_code 11 = .ok (.iaload, 1) := by decide +kernel
theorem own_d5_12 : decode prog_11_method_7_code 12 = .ok (.imul, 1) := by decide +kernel
theorem own_d5_13 : decode prog_11_method_7_code 13 = .ok (.istore_n 3, 1) := by decide +kernel
theorem own_d5_14 : decode prog_11_method_7_code 14 = .ok (.iload_n 3, 1) := by decide +kernel
theorem own_d5_15 : decode prog_11_method_7_code 15 = .ok (.iload_n 3, 1) := by decide +kernel
theorem own_d5_16 : decode prog_11_method_7_code 16 = .ok (.bipush 16, 2) := by decide +kernel
theorem own_d5_18 : decode prog_11_method_7_code 18 = .ok (.iushr, 1) := by decide +kernel
theorem own_d5_19 : decode prog_11_method_7_code 19 = .ok (.ixor, 1) := by decide +kernel
theorem own_d5_20 : decode prog_11_method_7_code 20 = .ok (.iload_n 2, 1) := by decide +kernel
theorem own_d5_21 : decode prog_11_method_7_code 21 = .ok (.iconst 1, 1) := by decide +kernel
theorem own_d5_22 : decode prog_11_method_7_code 22 = .ok (.isub, 1) := by decide +kernel
theorem own_d5_23 : decode prog_11_method_7_code 23 = .ok (.iand, 1) := by decide +kernel
theorem own_d5_24 : decode prog_11_method_7_code 24 = .ok (.ireturn, 1) := by decide +kernel
theorem own_d6_0 : decode prog_11_method_8_code 0 = .ok (.iload_n 1, 1) := by decide +kernel
theorem own_d6_1 : decode prog_11_method_8_code 1 = .ok (.iconst 4, 1) := by decide +kernel
theorem own_d6_2 : decode prog_11_method_8_code 2 = .ok (.iload_n 0, 1) := by decide +kernel
theorem own_d6_3 : decode prog_11_method_8_code 3 = .ok (.iload_n 1, 1) := by decide +kernel
theorem own_d6_4 : decode prog_11_method_8_code 4 = .ok (.bipush 8, 2) := by decide +kernel
theorem own_d6_6 : decode prog_11_method_8_code 6 = .ok (.imul, 1) := by decide +kernel
theorem own_d6_7 : decode prog_11_method_8_code 7 = .ok (.iushr, 1) := by decide +kernel
theorem own_d6_8 : decode prog_11_method_8_code 8 = .ok (.iconst 1, 1) := by decide +kernel
theorem own_d6_9 : decode prog_11_method_8_code 9 = .ok (.iand, 1) := by decide +kernel
theorem own_d6_10 : decode prog_11_method_8_code 10 = .ok (.imul, 1) := by decide +kernel
theorem own_d6_11 : decode prog_11_method_8_code 11 = .ok (.iadd, 1) := by decide +kernel
theorem own_d6_12 : decode prog_11_method_8_code 12 = .ok (.istore_n 2, 1) := by decide +kernel
theorem own_d6_13 : decode prog_11_method_8_code 13 = .ok (.iload_n 2, 1) := by decide +kernel
theorem own_d6_14 : decode prog_11_method_8_code 14 = .ok (.iconst 4, 1) := by decide +kernel
theorem own_d6_15 : decode prog_11_method_8_code 15 = .ok (.imul, 1) := by decide +kernel
theorem own_d6_16 : decode prog_11_method_8_code 16 = .ok (.ireturn, 1) := by decide +kernel
theorem own_d7_0 : decode prog_11_method_3_code 0 = .ok (.aload_n 0, 1) := by decide +kernel
theorem own_d7_1 : decode prog_11_method_3_code 1 = .ok (.getfield 9, 3) := by decide +kernel
theorem own_d7_4 : decode prog_11_method_3_code 4 = .ok (.astore_n 2, 1) := by decide +kernel
theorem own_d7_5 : decode prog_11_method_3_code 5 = .ok (.iload_n 1, 1) := by decide +kernel
theorem own_d7_6 : decode prog_11_method_3_code 6 = .ok (.invokestatic 13, 3) := by decide +kernel
theorem own_d7_9 : decode prog_11_method_3_code 9 = .ok (.istore_n 3, 1) := by decide +kernel
theorem own_d7_10 : decode prog_11_method_3_code 10 = .ok (.bipush 15, 2) := by decide +kernel
theorem own_d7_12 : decode prog_11_method_3_code 12 = .ok (.istore 4, 2) := by decide +kernel
theorem own_d7_14 : decode prog_11_method_3_code 14 = .ok (.iconst 0, 1) := by decide +kernel
theorem own_d7_15 : decode prog_11_method_3_code 15 = .ok (.istore 5, 2) := by decide +kernel
theorem own_d7_17 : decode prog_11_method_3_code 17 = .ok (.iload 5, 2) := by decide +kernel
theorem own_d7_19 : decode prog_11_method_3_code 19 = .ok (.iconst 4, 1) := by decide +kernel
theorem own_d7_20 : decode prog_11_method_3_code 20 = .ok (.if_icmp .ge 40, 3) := by decide +kernel
theorem own_d7_23 : decode prog_11_method_3_code 23 = .ok (.aload_n 2, 1) := by decide +kernel
theorem own_d7_24 : decode prog_11_method_3_code 24 = .ok (.iload_n 3, 1) := by decide +kernel
theorem own_d7_25 : decode prog_11_method_3_code 25 = .ok (.iload 5, 2) := by decide +kernel
theorem own_d7_27 : decode prog_11_method_3_code 27 = .ok (.aload_n 2, 1) := by decide +kernel
theorem own_d7_28 : decode prog_11_method_3_code 28 = .ok (.arraylength, 1) := by decide +kernel
theorem own_d7_29 : decode prog_11_method_3_code 29 = .ok (.invokestatic 17, 3) := by decide +kernel
theorem own_d7_32 : decode prog_11_method_3_code 32 = .ok (.iaload, 1) := by decide +kernel
theorem own_d7_33 : decode prog_11_method_3_code 33 = .ok (.istore 6, 2) := by decide +kernel
theorem own_d7_35 : decode prog_11_method_3_code 35 = .ok (.iload 4, 2) := by decide +kernel
theorem own_d7_37 : decode prog_11_method_3_code 37 = .ok (.iload 6, 2) := by decide +kernel
theorem own_d7_39 : decode prog_11_method_3_code 39 = .ok (.iload_n 3, 1) := by decide +kernel
theorem own_d7_40 : decode prog_11_method_3_code 40 = .ok (.iload 5, 2) := by decide +kernel
theorem own_d7_42 : decode prog_11_method_3_code 42 = .ok (.invokestatic 21, 3) := by decide +kernel
theorem own_d7_45 : decode prog_11_method_3_code 45 = .ok (.iushr, 1) := by decide +kernel
theorem own_d7_46 : decode prog_11_method_3_code 46 = .ok (.bipush 15, 2) := by decide +kernel
theorem own_d7_48 : decode prog_11_method_3_code 48 = .ok (.iand, 1) := by decide +kernel
theorem own_d7_49 : decode prog_11_method_3_code 49 = .ok (.invokestatic 33, 3) := by decide +kernel
theorem own_d7_52 : decode prog_11_method_3_code 52 = .ok (.istore 4, 2) := by decide +kernel
theorem own_d7_54 : decode prog_11_method_3_code 54 = .ok (.iinc 5 1, 3) := by decide +kernel
theorem own_d7_57 : decode prog_11_method_3_code 57 = .ok (.goto (-40), 3) := by decide +kernel
theorem own_d7_60 : decode prog_11_method_3_code 60 = .ok (.iload 4, 2) := by decide +kernel
theorem own_d7_62 : decode prog_11_method_3_code 62 = .ok (.ireturn, 1) := by decide +kernel
theorem own_d8_0 : decode jdk_29_method_69_code 0 = .ok (.iload_n 0, 1) := by decide +kernel
theorem own_d8_1 : decode jdk_29_method_69_code 1 = .ok (.iload_n 1, 1) := by decide +kernel
theorem own_d8_2 : decode jdk_29_method_69_code 2 = .ok (.if_icmp .gt 7, 3) := by decide +kernel
theorem own_d8_5 : decode jdk_29_method_69_code 5 = .ok (.iload_n 0, 1) := by decide +kernel
theorem own_d8_6 : decode jdk_29_method_69_code 6 = .ok (.goto 4, 3) := by decide +kernel
theorem own_d8_9 : decode jdk_29_method_69_code 9 = .ok (.iload_n 1, 1) := by decide +kernel
theorem own_d8_10 : decode jdk_29_method_69_code 10 = .ok (.ireturn, 1) := by decide +kernel
theorem own_d9_0 : decode method_3_code 0 = .ok (.iconst 0, 1) := by decide +kernel
theorem own_d9_1 : decode method_3_code 1 = .ok (.istore 7, 2) := by decide +kernel
theorem own_d9_3 : decode method_3_code 3 = .ok (.iload_n 0, 1) := by decide +kernel
theorem own_d9_4 : decode method_3_code 4 = .ok (.iload_n 1, 1) := by decide +kernel
theorem own_d9_5 : decode method_3_code 5 = .ok (.if_icmp .ne 10, 3) := by decide +kernel
theorem own_d9_8 : decode method_3_code 8 = .ok (.iload 7, 2) := by decide +kernel
theorem own_d9_10 : decode method_3_code 10 = .ok (.iload 4, 2) := by decide +kernel
theorem own_d9_12 : decode method_3_code 12 = .ok (.iadd, 1) := by decide +kernel
theorem own_d9_13 : decode method_3_code 13 = .ok (.istore 7, 2) := by decide +kernel
theorem own_d9_15 : decode method_3_code 15 = .ok (.iload_n 0, 1) := by decide +kernel
theorem own_d9_16 : decode method_3_code 16 = .ok (.iload_n 2, 1) := by decide +kernel
theorem own_d9_17 : decode method_3_code 17 = .ok (.if_icmp .ne 10, 3) := by decide +kernel
theorem own_d9_20 : decode method_3_code 20 = .ok (.iload 7, 2) := by decide +kernel
theorem own_d9_22 : decode method_3_code 22 = .ok (.iload 5, 2) := by decide +kernel
theorem own_d9_24 : decode method_3_code 24 = .ok (.iadd, 1) := by decide +kernel
theorem own_d9_25 : decode method_3_code 25 = .ok (.istore 7, 2) := by decide +kernel
theorem own_d9_27 : decode method_3_code 27 = .ok (.iload_n 0, 1) := by decide +kernel
theorem own_d9_28 : decode method_3_code 28 = .ok (.iload_n 3, 1) := by decide +kernel
theorem own_d9_29 : decode method_3_code 29 = .ok (.if_icmp .ne 10, 3) := by decide +kernel
theorem own_d9_32 : decode method_3_code 32 = .ok (.iload 7, 2) := by decide +kernel
theorem own_d9_34 : decode method_3_code 34 = .ok (.iload 6, 2) := by decide +kernel
theorem own_d9_36 : decode method_3_code 36 = .ok (.iadd, 1) := by decide +kernel
theorem own_d9_37 : decode method_3_code 37 = .ok (.istore 7, 2) := by decide +kernel
theorem own_d9_39 : decode method_3_code 39 = .ok (.iload 7, 2) := by decide +kernel
theorem own_d9_41 : decode method_3_code 41 = .ok (.ireturn, 1) := by decide +kernel
theorem own_d10_0 : decode method_4_code 0 = .ok (.iload_n 1, 1) := by decide +kernel
theorem own_d10_1 : decode method_4_code 1 = .ok (.iload_n 0, 1) := by decide +kernel
theorem own_d10_2 : decode method_4_code 2 = .ok (.if_icmp .gt 12, 3) := by decide +kernel
theorem own_d10_5 : decode method_4_code 5 = .ok (.iload_n 0, 1) := by decide +kernel
theorem own_d10_6 : decode method_4_code 6 = .ok (.iload_n 2, 1) := by decide +kernel
theorem own_d10_7 : decode method_4_code 7 = .ok (.if_icmp .gt 7, 3) := by decide +kernel
theorem own_d10_10 : decode method_4_code 10 = .ok (.iconst 1, 1) := by decide +kernel
theorem own_d10_11 : decode method_4_code 11 = .ok (.goto 4, 3) := by decide +kernel
theorem own_d10_14 : decode method_4_code 14 = .ok (.iconst 0, 1) := by decide +kernel
theorem own_d10_15 : decode method_4_code 15 = .ok (.ireturn, 1) := by decide +kernel
theorem own_ushr_bv (x y : Int32) (k : Nat) (hy : ((y &&& 31).toUInt32.toBitVec % 32).toNat = k) : (own_ushr x y).toBitVec = x.toBitVec >>> k := by
  show x.toBitVec >>> ((y &&& 31).toUInt32.toBitVec % 32) = _
  rw [← hy]; rfl
def own_NI32 (x : Int32) : Nat := x.toBitVec.toNat
def own_nib (x : Int32) (j : Nat) : Nat := (own_NI32 x / 16 ^ j) % 16
def own_bit1 (s : Int32) (r : Nat) : Int32 := (own_ushr s ((Int32.ofNat r) * 8)) &&& 1
def own_nb (r : Nat) (s : Int32) : Nat := if own_bit1 s r = 0 then r else r + 4
theorem own_b01 (x : Int32) : x &&& 1 = 0 ∨ x &&& 1 = 1 := by
  have h : (x &&& 1).toBitVec.toNat = x.toBitVec.toNat % 2 := by
    rw [Int32.toBitVec_and, BitVec.toNat_and]; exact Nat.and_one_is_mod _
  have : x.toBitVec.toNat % 2 = 0 ∨ x.toBitVec.toNat % 2 = 1 := by omega
  rcases this with q | q
  · left; apply Int32.toBitVec_inj.mp; apply BitVec.eq_of_toNat_eq; rw [h, q]; rfl
  · right; apply Int32.toBitVec_inj.mp; apply BitVec.eq_of_toNat_eq; rw [h, q]; rfl
theorem own_nb_lt {r : Nat} (hr : r < 4) (s : Int32) : own_nb r s < 8 ∧ own_nb r s % 4 = r := by unfold own_nb; split <;> omega
def own_shf (r : Int32) (b : Int32) : Int32 := (r + (4 : Int32) * b) * (4 : Int32)
theorem own_shv (r : Nat) (hr : r < 4) (s : Int32) : own_shf (Int32.ofNat r) (own_bit1 s r) = Int32.ofNat (4 * own_nb r s) := by
  unfold own_nb
  rcases own_b01 (own_ushr s ((Int32.ofNat r) * 8)) with q | q <;> rw [show own_bit1 s r = _ from q]
  · have : r = 0 ∨ r = 1 ∨ r = 2 ∨ r = 3 := by omega
    rcases this with rfl | rfl | rfl | rfl <;> decide
  · have : r = 0 ∨ r = 1 ∨ r = 2 ∨ r = 3 := by omega
    rcases this with rfl | rfl | rfl | rfl <;> decide
theorem own_sh32 : ∀ n : Fin 8, ((((Int32.ofNat (4 * n.1)) &&& 31).toUInt32.toBitVec % 32).toNat = 4 * n.1) ∧ ((1 : Int32) <<< ((Int32.ofNat (4 * n.1)) &&& 31)).toBitVec.toNat = 16 ^ n.1 := by decide
theorem own_nibR (x : Int32) {n : Nat} (h : n < 8) : (own_ushr x (Int32.ofNat (4 * n)) &&& 15).toBitVec.toNat = own_nib x n := by
  rw [Int32.toBitVec_and, BitVec.toNat_and, own_ushr_bv x _ (4 * n) (own_sh32 ⟨n, h⟩).1, BitVec.toNat_ushiftRight, Nat.shiftRight_eq_div_pow]
  unfold own_nib own_NI32
  rw [show (15 : Int32).toBitVec.toNat = 2 ^ 4 - 1 from rfl, Nat.and_two_pow_sub_one_eq_mod, Nat.pow_mul]
theorem own_nibA (x : Int32) {n j : Nat} (h : n < 8) (hj : j < 8) (hl : own_nib x n < 15) : own_nib (x + (1 : Int32) <<< ((Int32.ofNat (4 * n)) &&& 31)) j = own_nib x j + if j = n then 1 else 0 := by
  unfold own_nib own_NI32 at *
  rw [Int32.toBitVec_add, BitVec.toNat_add, (own_sh32 ⟨n, h⟩).2]
  have hb := x.toBitVec.isLt
  generalize x.toBitVec.toNat = X at *
  have a : n = 0 ∨ n = 1 ∨ n = 2 ∨ n = 3 ∨ n = 4 ∨ n = 5 ∨ n = 6 ∨ n = 7 := by omega
  have b : j = 0 ∨ j = 1 ∨ j = 2 ∨ j = 3 ∨ j = 4 ∨ j = 5 ∨ j = 6 ∨ j = 7 := by omega
  rcases a with rfl | rfl | rfl | rfl | rfl | rfl | rfl | rfl <;> rcases b with rfl | rfl | rfl | rfl | rfl | rfl | rfl | rfl <;> simp only [Nat.reducePow, reduceIte, Nat.reduceEqDiff] at * <;> omega
def own_seed (r : Nat) : Int32 := [(-1640531535 : Int32), -2048144777, -1028477379, 668265263].getD r 0
def own_ixf (s k : Int32) : Int32 := (((s + k) * k) ^^^ own_ushr ((s + k) * k) 16) &&& 15
def own_ix (r : Nat) (s : Int32) : Int32 := own_ixf s (own_seed r)
theorem own_ixr (s k : Int32) : (own_ixf s k).toBitVec.toNat < 16 := by
  unfold own_ixf
  rw [Int32.toBitVec_and, BitVec.toNat_and, show (15 : Int32).toBitVec.toNat = 2 ^ 4 - 1 from rfl, Nat.and_two_pow_sub_one_eq_mod]
  omega
theorem own_small {x : Int32} {n : Nat} (h : x.toBitVec.toNat < n) (hn : n ≤ 2 ^ 31) : x.toInt = x.toBitVec.toNat ∧ x.toNatClampNeg = x.toBitVec.toNat := by
  have e : x.toInt = x.toBitVec.toInt := rfl
  have : x.toInt = x.toBitVec.toNat := by
    rw [e, BitVec.toInt_eq_toNat_cond]
    split <;> omega
  refine ⟨this, ?_⟩
  show x.toInt.toNat = _
  rw [this]; rfl
def own_at (r : Nat) (s : Int32) : Nat := (own_ix r s).toNatClampNeg
theorem own_at_lt (r : Nat) (s : Int32) : own_at r s < 16 := by
  unfold own_at own_ix
  have h := own_ixr s (own_seed r)
  rw [(own_small h (by decide)).2]; exact h
def own_cnt (ks : List Int32) (i j : Nat) : Nat := (ks.filter fun k => own_at (j % 4) k = i ∧ own_nb (j % 4) k = j).length
def own_repr (l : List Int32) (ks : List Int32) (s : Int32) (r : Nat) : Prop := l.length = 16 ∧ ∀ i j, i < 16 → j < 8 → own_nib (l.getD i 0) j = own_cnt (if j % 4 < r then s :: ks else ks) i j
theorem own_cnt_le (ks : List Int32) (i j : Nat) : own_cnt ks i j ≤ ks.length := List.length_filter_le _ _
theorem own_cnt_cons (s : Int32) (ks : List Int32) (i j : Nat) : own_cnt (s :: ks) i j = own_cnt ks i j + if own_at (j % 4) s = i ∧ own_nb (j % 4) s = j then 1 else 0 := by
  unfold own_cnt
  rw [List.filter_cons]
  by_cases h : own_at (j % 4) s = i ∧ own_nb (j % 4) s = j
  · simp [h]
  · simp only [h, decide_false]; simp
theorem own_getD_set (l : List Int32) (i k : Nat) (x : Int32) (h : i < l.length) : (l.set i x).getD k 0 = if k = i then x else l.getD k 0 := by
  simp only [List.getD_eq_getElem?_getD]
  by_cases q : k = i
  · subst q; simp [h]
  · rw [List.getElem?_set_ne (Ne.symm q)]; simp [q]
theorem own_step {l ks : List Int32} {s : Int32} {r : Nat} (H : own_repr l ks s r) (hr : r < 4) (hk : ks.length ≤ 13) :
    own_nib (l.getD (own_at r s) 0) (own_nb r s) < 15 ∧ own_repr (l.set (own_at r s) (l.getD (own_at r s) 0 + (1 : Int32) <<< ((Int32.ofNat (4 * own_nb r s)) &&& 31))) ks s (r + 1) := by
  obtain ⟨H1, H2⟩ := H
  have hi := own_at_lt r s
  obtain ⟨hn, hm⟩ := own_nb_lt hr s
  have hx := H2 (own_at r s) (own_nb r s) hi hn
  rw [hm, if_neg (by omega)] at hx
  have hc := own_cnt_le ks (own_at r s) (own_nb r s)
  have h15 : own_nib (l.getD (own_at r s) 0) (own_nb r s) < 15 := by omega
  refine ⟨h15, by rw [List.length_set]; exact H1, fun i j hi' hj => ?_⟩
  rw [own_getD_set _ _ _ _ (by omega)]
  have hb := H2 i j hi' hj
  by_cases q : i = own_at r s
  · rw [if_pos q, own_nibA _ hn hj h15]
    rw [q] at hb ⊢
    rw [hb]
    by_cases q1 : j % 4 < r
    · have e1 : ¬ j = own_nb r s := by intro y; rw [y, hm] at q1; omega
      have E : (if j % 4 < r + 1 then s :: ks else ks) = s :: ks := if_pos (by omega)
      have F : (if j % 4 < r then s :: ks else ks) = s :: ks := if_pos q1
      rw [E, F, if_neg e1]; rfl
    · have F : (if j % 4 < r then s :: ks else ks) = ks := if_neg q1
      by_cases q2 : j % 4 = r
      · have E : (if j % 4 < r + 1 then s :: ks else ks) = s :: ks := if_pos (by omega)
        rw [E, F, own_cnt_cons, q2]
        congr 1
        by_cases q3 : j = own_nb r s
        · rw [if_pos q3, if_pos ⟨rfl, q3.symm⟩]
        · rw [if_neg q3, if_neg (fun y => q3 y.2.symm)]
      · have e1 : ¬ j = own_nb r s := by intro y; rw [y, hm] at q2; exact q2 rfl
        have E : (if j % 4 < r + 1 then s :: ks else ks) = ks := if_neg (by omega)
        rw [E, F, if_neg e1]; rfl
  · rw [if_neg q, hb]
    by_cases q1 : j % 4 < r
    · have E : (if j % 4 < r + 1 then s :: ks else ks) = s :: ks := if_pos (by omega)
      have F : (if j % 4 < r then s :: ks else ks) = s :: ks := if_pos q1
      rw [E, F]
    · have F : (if j % 4 < r then s :: ks else ks) = ks := if_neg q1
      by_cases q2 : j % 4 = r
      · have E : (if j % 4 < r + 1 then s :: ks else ks) = s :: ks := if_pos (by omega)
        rw [E, F, own_cnt_cons, q2, if_neg (fun y => q y.1.symm)]; rfl
      · have E : (if j % 4 < r + 1 then s :: ks else ks) = ks := if_neg (by omega)
        rw [E, F]
def own_rep (l ks : List Int32) : Prop := l.length = 16 ∧ ∀ i j, i < 16 → j < 8 → own_nib (l.getD i 0) j = own_cnt ks i j
theorem own_rep0 {l ks : List Int32} (H : own_rep l ks) (s : Int32) : own_repr l ks s 0 := ⟨H.1, fun i j hi hj => by rw [if_neg (by omega)]; exact H.2 i j hi hj⟩
theorem own_rep4 {l ks : List Int32} {s : Int32} (H : own_repr l ks s 4) : own_rep l (s :: ks) := ⟨H.1, fun i j hi hj => by have := H.2 i j hi hj; rwa [if_pos (by omega)] at this⟩
theorem own_repZ : own_rep (List.replicate 16 0) [] := ⟨rfl, fun i j hi hj => by
  rw [List.getD_eq_getElem?_getD, List.getElem?_replicate, if_pos hi]
  show own_nib 0 j = 0
  unfold own_nib own_NI32
  show (0 / 16 ^ j) % 16 = 0
  simp⟩
def own_same (ks : List Int32) (s : Int32) : Nat := (ks.filter fun k => k = s).length
theorem own_mono {p q : Int32 → Bool} (ks : List Int32) (h : ∀ k, p k = true → q k = true) : (ks.filter p).length ≤ (ks.filter q).length := by
  rw [← List.countP_eq_length_filter, ← List.countP_eq_length_filter]
  exact List.countP_mono_left fun x _ hx => h x hx
theorem own_read {l ks : List Int32} (H : own_rep l ks) (s : Int32) {r : Nat} (hr : r < 4) : own_same ks s ≤ own_nib (l.getD (own_at r s) 0) (own_nb r s) ∧ own_nib (l.getD (own_at r s) 0) (own_nb r s) ≤ ks.length := by
  obtain ⟨hn, hm⟩ := own_nb_lt hr s
  rw [H.2 _ _ (own_at_lt r s) hn]
  refine ⟨?_, own_cnt_le _ _ _⟩
  unfold own_same own_cnt
  rw [hm]
  apply own_mono
  intro k hk
  have : k = s := by simpa using hk
  subst this
  simp
def own_own (k h1 k2 k3 a b c : Int32) : Int32 :=
  let n1 := if k = h1 then 0 + a else 0
  let n2 := if k = k2 then n1 + b else n1
  if k = k3 then n2 + c else n2
theorem own_samec (x : Int32) (ks : List Int32) (s : Int32) : own_same (x :: ks) s = own_same ks s + if x = s then 1 else 0 := by
  unfold own_same
  rw [List.filter_cons]
  by_cases h : x = s
  · simp [h]
  · simp [h]
theorem own_same0 (s : Int32) : own_same [] s = 0 := rfl
theorem own_rnn (n : Nat) (x : Int32) (ks : List Int32) (s : Int32) : own_same (List.replicate n x ++ ks) s = own_same ks s + if x = s then n else 0 := by
  induction n with
  | zero => simp
  | succ n ih => rw [List.replicate_succ, List.cons_append, own_samec, ih]; split <;> omega
theorem own_ownv (P1 P2 P3 : Prop) [Decidable P1] [Decidable P2] [Decidable P3] {a b c : Nat} (ha : a ≤ 3) (hb : b ≤ 1) (hc : c ≤ 1) :
    (if P3 then (if P2 then (if P1 then 0 + Int32.ofNat a else 0) + Int32.ofNat b else (if P1 then 0 + Int32.ofNat a else 0)) + Int32.ofNat c else (if P2 then (if P1 then 0 + Int32.ofNat a else 0) + Int32.ofNat b else (if P1 then 0 + Int32.ofNat a else 0)) : Int32).toInt = (((if P1 then a else 0) + (if P2 then b else 0) + (if P3 then c else 0) : Nat) : Int) := by
  have a' : a = 0 ∨ a = 1 ∨ a = 2 ∨ a = 3 := by omega
  have b' : b = 0 ∨ b = 1 := by omega
  have c' : c = 0 ∨ c = 1 := by omega
  by_cases q1 : P1 <;> by_cases q2 : P2 <;> by_cases q3 : P3 <;> simp only [q1, q2, q3, if_true, if_false] <;>
    rcases a' with rfl | rfl | rfl | rfl <;> rcases b' with rfl | rfl <;> rcases c' with rfl | rfl <;> rfl
theorem own_low (sp : Int32 → Int32) (k h1 k2 k3 : Int32) {a b c : Nat} (ha : a ≤ 3) (hb : b ≤ 1) (hc : c ≤ 1) :
    (own_own k h1 k2 k3 (Int32.ofNat a) (Int32.ofNat b) (Int32.ofNat c)).toInt ≤ (own_same (List.replicate c (sp k3) ++ (List.replicate b (sp k2) ++ (List.replicate a (sp h1) ++ []))) (sp k) : Int) := by
  rw [own_rnn, own_rnn, own_rnn, own_same0]
  have h : (own_own k h1 k2 k3 (Int32.ofNat a) (Int32.ofNat b) (Int32.ofNat c)).toInt = (((if k = h1 then a else 0) + (if k = k2 then b else 0) + (if k = k3 then c else 0) : Nat) : Int) := by
    exact own_ownv _ _ _ ha hb hc
  rw [h]
  have e1 : (if k = h1 then a else 0) ≤ (if sp h1 = sp k then a else 0) := by split <;> simp_all
  have e2 : (if k = k2 then b else 0) ≤ (if sp k2 = sp k then b else 0) := by split <;> simp_all
  have e3 : (if k = k3 then c else 0) ≤ (if sp k3 = sp k then c else 0) := by split <;> simp_all
  omega
def own_min (a b : Int32) : Int32 := if b < a then b else a
theorem own_min_b {a b : Int32} {L U : Int} (h1 : L ≤ a.toInt ∧ a.toInt ≤ U) (h2 : L ≤ b.toInt ∧ b.toInt ≤ U) : L ≤ (own_min a b).toInt ∧ (own_min a b).toInt ≤ U := by
  unfold own_min; split <;> assumption
theorem own_min_c {a b : Int32} {L U : Int} (h1 : L ≤ a.toInt) (h2 : L ≤ b.toInt ∧ b.toInt ≤ U) : L ≤ (own_min a b).toInt ∧ (own_min a b).toInt ≤ U := by
  unfold own_min
  by_cases q : b < a
  · rw [if_pos q]; exact h2
  · rw [if_neg q]; rw [Int32.lt_iff_toInt_lt] at q; omega
def own_spread (h : Int32) : Int32 :=
  let a := (h ^^^ own_ushr h 16) * 73244475
  let b := (a ^^^ own_ushr a 16) * 73244475
  b ^^^ own_ushr b 16
def own_LI (l : List Int32) : List Value := l.map Value.int
theorem own_LIget (l : List Int32) (n : Nat) : (own_LI l).getD n (.int (0 : Int32)) = .int (l.getD n 0) := by
  simp only [own_LI, List.getD_eq_getElem?_getD, List.getElem?_map]
  cases l[n]? <;> rfl
theorem own_LIset (l : List Int32) (i : Nat) (x : Int32) : (own_LI l).set i (.int x) = own_LI (l.set i x) := by simp only [own_LI, List.map_set]
theorem own_LIlen (l : List Int32) : (own_LI l).length = l.length := by simp [own_LI]
theorem own_in16 (r : Nat) (s : Int32) : ¬ own_ix r s < 0 ∧ own_ix r s < 16 := by
  have h := own_ixr s (own_seed r)
  have h2 := (own_small h (by decide)).1
  have e0 : (0 : Int32).toInt = 0 := rfl
  have e1 : (16 : Int32).toInt = 16 := rfl
  unfold own_ix
  rw [Int32.lt_iff_toInt_lt, Int32.lt_iff_toInt_lt, e0, e1, h2]
  omega
theorem own_nibI {x : Int32} {n : Nat} (h : n < 8) : (own_ushr x (Int32.ofNat (4 * n)) &&& 15).toInt = own_nib x n := by
  have h1 := own_nibR x h
  have h2 : own_nib x n < 16 := by unfold own_nib; omega
  have h3 := (own_small (x := own_ushr x (Int32.ofNat (4 * n)) &&& 15) (n := 16) (by rw [h1]; exact h2) (by decide)).1
  rw [h3, h1]
theorem own_lt15 {x : Int32} {n : Nat} (h : n < 8) (q : own_nib x n < 15) : own_ushr x (Int32.ofNat (4 * n)) &&& 15 < 15 := by
  have e1 : (15 : Int32).toInt = 15 := rfl
  rw [Int32.lt_iff_toInt_lt, e1, own_nibI h]; omega
theorem own_lt80 {n : Int32} (h : 0 ≤ n.toInt ∧ n.toInt ≤ 10) : n + 1 < 80 := by
  have h1 := c_iadd n 1
  have e1 : (1 : Int32).toInt = 1 := rfl
  have e2 : (80 : Int32).toInt = 80 := rfl
  have := rng32 (n + 1)
  rw [Int32.lt_iff_toInt_lt, e2]; omega
theorem own_up1 {n : Int32} (h : 0 ≤ n.toInt ∧ n.toInt ≤ 10) : (n + 1).toInt = n.toInt + 1 := by
  have h1 := c_iadd n 1
  have e1 : (1 : Int32).toInt = 1 := rfl
  have := rng32 (n + 1)
  omega
def own_room4 : Room := { frames := 0, cells := 0, slots := 0, locals := 0 }
def own_Q4 (Z : State) (p0 : Int32) (h0 : Heap) (n0 : Nat) (v : Option Value) (h : Heap) (L : List Loc) : Prop := v = some (.int (own_spread p0)) ∧ Fr n0 L ∧ h = h0
theorem own_ef_rm4 (m : MethodId) (x0 : Int32) : entryFrame m #[(.int x0)] 2 = mkF m 0 #[.val (.int x0), .unset] [] := by first | (simp [entryFrame, mkF, argsToLocals, Value.category]; done) | rfl
set_option maxRecDepth 65536 in
set_option maxHeartbeats 40000000 in
theorem own_rm4 (lch : Launch) (Z : State) (a0 : Array Value) (hw : ∀ d ∈ tables_1, d.before a0 Z = true) (ws : List Jvm.Cond) (p0 : Int32) (h0 : Heap) (n0 : Nat) :
    MetFree lch (⟨"com/example/larder/larder/cache/UseCounts", "spread", "(I)I"⟩ : MethodName) (head1 (Jvm.Cond.code (⟨"com/example/larder/larder/cache/UseCounts", "spread", "(I)I"⟩ : MethodName) prog_11_method_6_code 2 (some .int) :: ws) own_room4) (fun zz U => zz = #[(.int p0)] ∧ Z.Warmed39 U.vm ∧ U.heap = h0) (fun _ _ _ _ _ => True) (fun _ U o U' => ∃ v L, o = .returned v ∧ own_Q4 Z p0 h0 n0 v U'.heap L ∧ FrameEnd U o U' L own_room4.cells own_room4.slots) := by
  refine MetFree.of_bodySF (plainFor_of_name own_pn0) hisR ?_
  intro prg e s m args below meth c s₁ Bd hml0 hP hK
  obtain ⟨rfl, hZ, hh⟩ := hP
  have hx := Bd.exec
  have hby := Bd.bytes
  have hml : c.maxLocals = 2 := hml0
  have hown : s.vm.findClass "com/example/larder/larder/cache/UseCounts" = some m.cls := findClass_of_methodNamed Bd.named
  have hnm := (name_of_methodNamed Bd.named Bd.method).1
  have hlk : meth.locks = false := BodyLoose.notSynchronized Bd
  have hret := Bd.returns
  have X0 : Stand prg lch e own_room4 s m #[(.int p0)] below meth c s₁ [] 0 0 := Stand.of_body Bd
  have e0 : s₁.heap = h0 := by rw [← hh, Bd.state]; rfl
  have N0 := Fr.nil n0
  show own_Ends prg e below s (own_Q4 Z p0 h0 n0) own_room4.cells own_room4.slots s₁ (entryFrame m #[(.int p0)] 2)
  refine own_cast (own_ef_rm4 m p0) ?_
  refine own_iloadN (pc' := 1) X0 hx (hb hby own_d4_0) rfl rfl ?_
  refine own_iloadN (pc' := 2) X0 hx (hb hby own_d4_1) rfl rfl ?_
  refine own_bipush (pc' := 4) (z := (16 : Int32)) X0 hx (hb hby own_d4_2) rfl rfl ?_
  refine own_iushr (pc' := 5) (z := (own_ushr p0 (16 : Int32))) X0 hx (hb hby own_d4_4) rfl rfl ?_
  refine own_ixor (pc' := 6) (z := (p0 ^^^ (own_ushr p0 (16 : Int32)))) X0 hx (hb hby own_d4_5) rfl rfl ?_
  refine own_ldcI (pc' := 8) X0 hx hZ hown (own_w20 hw) (hb hby own_d4_6) rfl ?_
  refine own_imul (pc' := 9) (z := ((p0 ^^^ (own_ushr p0 (16 : Int32))) * (73244475 : Int32))) X0 hx (hb hby own_d4_8) rfl rfl ?_
  refine own_istoreN (pc' := 10) (l' := #[.val (.int p0), .val (.int ((p0 ^^^ (own_ushr p0 (16 : Int32))) * (73244475 : Int32)))]) X0 hx (hb hby own_d4_9) rfl rfl ?_
  refine own_iloadN (pc' := 11) X0 hx (hb hby own_d4_10) rfl rfl ?_
  refine own_iloadN (pc' := 12) X0 hx (hb hby own_d4_11) rfl rfl ?_
  refine own_bipush (pc' := 14) (z := (16 : Int32)) X0 hx (hb hby own_d4_12) rfl rfl ?_
  refine own_iushr (pc' := 15) (z := (own_ushr ((p0 ^^^ (own_ushr p0 (16 : Int32))) * (73244475 : Int32)) (16 : Int32))) X0 hx (hb hby own_d4_14) rfl rfl ?_
  refine own_ixor (pc' := 16) (z := (((p0 ^^^ (own_ushr p0 (16 : Int32))) * (73244475 : Int32)) ^^^ (own_ushr ((p0 ^^^ (own_ushr p0 (16 : Int32))) * (73244475 : Int32)) (16 : Int32)))) X0 hx (hb hby own_d4_15) rfl rfl ?_
  refine own_ldcI (pc' := 18) X0 hx hZ hown (own_w20 hw) (hb hby own_d4_16) rfl ?_
  refine own_imul (pc' := 19) (z := ((((p0 ^^^ (own_ushr p0 (16 : Int32))) * (73244475 : Int32)) ^^^ (own_ushr ((p0 ^^^ (own_ushr p0 (16 : Int32))) * (73244475 : Int32)) (16 : Int32))) * (73244475 : Int32))) X0 hx (hb hby own_d4_18) rfl rfl ?_
  refine own_istoreN (pc' := 20) (l' := #[.val (.int p0), .val (.int ((((p0 ^^^ (own_ushr p0 (16 : Int32))) * (73244475 : Int32)) ^^^ (own_ushr ((p0 ^^^ (own_ushr p0 (16 : Int32))) * (73244475 : Int32)) (16 : Int32))) * (73244475 : Int32)))]) X0 hx (hb hby own_d4_19) rfl rfl ?_
  refine own_iloadN (pc' := 21) X0 hx (hb hby own_d4_20) rfl rfl ?_
  refine own_iloadN (pc' := 22) X0 hx (hb hby own_d4_21) rfl rfl ?_
  refine own_bipush (pc' := 24) (z := (16 : Int32)) X0 hx (hb hby own_d4_22) rfl rfl ?_
  refine own_iushr (pc' := 25) (z := (own_ushr ((((p0 ^^^ (own_ushr p0 (16 : Int32))) * (73244475 : Int32)) ^^^ (own_ushr ((p0 ^^^ (own_ushr p0 (16 : Int32))) * (73244475 : Int32)) (16 : Int32))) * (73244475 : Int32)) (16 : Int32))) X0 hx (hb hby own_d4_24) rfl rfl ?_
  refine own_ixor (pc' := 26) (z := (((((p0 ^^^ (own_ushr p0 (16 : Int32))) * (73244475 : Int32)) ^^^ (own_ushr ((p0 ^^^ (own_ushr p0 (16 : Int32))) * (73244475 : Int32)) (16 : Int32))) * (73244475 : Int32)) ^^^ (own_ushr ((((p0 ^^^ (own_ushr p0 (16 : Int32))) * (73244475 : Int32)) ^^^ (own_ushr ((p0 ^^^ (own_ushr p0 (16 : Int32))) * (73244475 : Int32)) (16 : Int32))) * (73244475 : Int32)) (16 : Int32)))) X0 hx (hb hby own_d4_25) rfl rfl ?_
  refine own_retI X0 hx hlk hret (hb hby own_d4_26) (by decide) (by decide) ?_
  exact ⟨rfl, N0, e0⟩
def own_room5_0 : Room := { frames := 0, cells := 0, slots := 0, locals := 0 }
def own_Q5_0 (Z : State) (q : Int32) (pa : Addr) (pk : ClassId) (h0 : Heap) (n0 : Nat) (v : Option Value) (h : Heap) (L : List Loc) : Prop := v = some (.int (own_ix 0 q)) ∧ Fr n0 L ∧ h = h0
theorem own_ef_rm5_0 (m : MethodId) (x0 : Int32) (x1 : Int32) (x2 : Int32) : entryFrame m #[(.int x0), (.int x1), (.int x2)] 4 = mkF m 0 #[.val (.int x0), .val (.int x1), .val (.int x2), .unset] [] := by first | (simp [entryFrame, mkF, argsToLocals, Value.category]; done) | rfl
set_option maxRecDepth 65536 in
set_option maxHeartbeats 40000000 in
theorem own_rm5_0 (lch : Launch) (Z : State) (a0 : Array Value) (hw : ∀ d ∈ tables_1, d.before a0 Z = true) (ws : List Jvm.Cond) (q : Int32) (pa : Addr) (pk : ClassId) (h0 : Heap) (n0 : Nat) (S0 : Sta Z h0 "com/example/larder/larder/cache/UseCounts" "SEEDS" "[I" (.ref pa)) (VS : Arv Z h0 pa pk .int (4 : Int32) [(.int (-1640531535 : Int32)), (.int (-2048144777 : Int32)), (.int (-1028477379 : Int32)), (.int (668265263 : Int32))] (.int (0 : Int32))) :
    MetFree lch (⟨"com/example/larder/larder/cache/UseCounts", "index", "(III)I"⟩ : MethodName) (head1 (Jvm.Cond.code (⟨"com/example/larder/larder/cache/UseCounts", "index", "(III)I"⟩ : MethodName) prog_11_method_7_code 4 (some .int) :: ws) own_room5_0) (fun zz U => zz = #[(.int q), (.int (0 : Int32)), (.int (16 : Int32))] ∧ Z.Warmed39 U.vm ∧ U.heap = h0) (fun _ _ _ _ _ => True) (fun _ U o U' => ∃ v L, o = .returned v ∧ own_Q5_0 Z q pa pk h0 n0 v U'.heap L ∧ FrameEnd U o U' L own_room5_0.cells own_room5_0.slots) := by
  refine MetFree.of_bodySF (plainFor_of_name own_pn0) hisR ?_
  intro prg e s m args below meth c s₁ Bd hml0 hP hK
  obtain ⟨rfl, hZ, hh⟩ := hP
  have hx := Bd.exec
  have hby := Bd.bytes
  have hml : c.maxLocals = 4 := hml0
  have hown : s.vm.findClass "com/example/larder/larder/cache/UseCounts" = some m.cls := findClass_of_methodNamed Bd.named
  have hnm := (name_of_methodNamed Bd.named Bd.method).1
  have hlk : meth.locks = false := BodyLoose.notSynchronized Bd
  have hret := Bd.returns
  have X0 : Stand prg lch e own_room5_0 s m #[(.int q), (.int (0 : Int32)), (.int (16 : Int32))] below meth c s₁ [] 0 0 := Stand.of_body Bd
  have e0 : s₁.heap = h0 := by rw [← hh, Bd.state]; rfl
  have N0 := Fr.nil n0
  show own_Ends prg e below s (own_Q5_0 Z q pa pk h0 n0) own_room5_0.cells own_room5_0.slots s₁ (entryFrame m #[(.int q), (.int (0 : Int32)), (.int (16 : Int32))] 4)
  refine own_cast (own_ef_rm5_0 m q (0 : Int32) (16 : Int32)) ?_
  refine own_iloadN (pc' := 1) X0 hx (hb hby own_d5_0) rfl rfl ?_
  obtain ⟨T31, X31, e31, st31⟩ := getS2 X0 hx hZ hown (host := "") (Or.inl (own_w24 hw)) Via.refl e0 S0 (g := (mkF m 1 #[.val (.int q), .val (.int (0 : Int32)), .val (.int (16 : Int32)), .unset] [(.int q)])) rfl (hb hby own_d5_1)
  refine own_go st31 ?_
  show own_Ends prg e below s _ _ _ T31 (mkF m 4 #[.val (.int q), .val (.int (0 : Int32)), .val (.int (16 : Int32)), .unset] [(.ref pa), (.int q)])
  refine own_iloadN (pc' := 5) X31 hx (hb hby own_d5_4) rfl rfl ?_
  refine own_iaload (pc' := 6) (v := (.int (-1640531535 : Int32))) X31 hx hZ e31 VS (hb hby own_d5_5) rfl (by decide) rfl ?_
  refine own_iadd (pc' := 7) (z := (q + (-1640531535 : Int32))) X31 hx (hb hby own_d5_6) rfl rfl ?_
  obtain ⟨T32, X32, e32, st32⟩ := getS2 X31 hx hZ hown (host := "") (Or.inl (own_w24 hw)) Via.refl e31 S0 (g := (mkF m 7 #[.val (.int q), .val (.int (0 : Int32)), .val (.int (16 : Int32)), .unset] [(.int (q + (-1640531535 : Int32)))])) rfl (hb hby own_d5_7)
  refine own_go st32 ?_
  show own_Ends prg e below s _ _ _ T32 (mkF m 10 #[.val (.int q), .val (.int (0 : Int32)), .val (.int (16 : Int32)), .unset] [(.ref pa), (.int (q + (-1640531535 : Int32)))])
  refine own_iloadN (pc' := 11) X32 hx (hb hby own_d5_10) rfl rfl ?_
  refine own_iaload (pc' := 12) (v := (.int (-1640531535 : Int32))) X32 hx hZ e32 VS (hb hby own_d5_11) rfl (by decide) rfl ?_
  refine own_imul (pc' := 13) (z := ((q + (-1640531535 : Int32)) * (-1640531535 : Int32))) X32 hx (hb hby own_d5_12) rfl rfl ?_
  refine own_istoreN (pc' := 14) (l' := #[.val (.int q), .val (.int (0 : Int32)), .val (.int (16 : Int32)), .val (.int ((q + (-1640531535 : Int32)) * (-1640531535 : Int32)))]) X32 hx (hb hby own_d5_13) rfl rfl ?_
  refine own_iloadN (pc' := 15) X32 hx (hb hby own_d5_14) rfl rfl ?_
  refine own_iloadN (pc' := 16) X32 hx (hb hby own_d5_15) rfl rfl ?_
  refine own_bipush (pc' := 18) (z := (16 : Int32)) X32 hx (hb hby own_d5_16) rfl rfl ?_
  refine own_iushr (pc' := 19) (z := (own_ushr ((q + (-1640531535 : Int32)) * (-1640531535 : Int32)) (16 : Int32))) X32 hx (hb hby own_d5_18) rfl rfl ?_
  refine own_ixor (pc' := 20) (z := (((q + (-1640531535 : Int32)) * (-1640531535 : Int32)) ^^^ (own_ushr ((q + (-1640531535 : Int32)) * (-1640531535 : Int32)) (16 : Int32)))) X32 hx (hb hby own_d5_19) rfl rfl ?_
  refine own_iloadN (pc' := 21) X32 hx (hb hby own_d5_20) rfl rfl ?_
  refine own_iconst (pc' := 22) (z := (1 : Int32)) X32 hx (hb hby own_d5_21) rfl rfl ?_
  refine own_isub (pc' := 23) (z := (15 : Int32)) X32 hx (hb hby own_d5_22) rfl (by decide) ?_
  refine own_iand (pc' := 24) (z := ((((q + (-1640531535 : Int32)) * (-1640531535 : Int32)) ^^^ (own_ushr ((q + (-1640531535 : Int32)) * (-1640531535 : Int32)) (16 : Int32))) &&& (15 : Int32))) X32 hx (hb hby own_d5_23) rfl rfl ?_
  refine own_retI X32 hx hlk hret (hb hby own_d5_24) (by decide) (by decide) ?_
  exact ⟨rfl, N0, e32⟩
def own_room6_0 : Room := { frames := 0, cells := 0, slots := 0, locals := 0 }
def own_Q6_0 (Z : State) (q : Int32) (h0 : Heap) (n0 : Nat) (v : Option Value) (h : Heap) (L : List Loc) : Prop := v = some (.int (Int32.ofNat (4 * own_nb 0 q))) ∧ Fr n0 L ∧ h = h0
theorem own_ef_rm6_0 (m : MethodId) (x0 : Int32) (x1 : Int32) : entryFrame m #[(.int x0), (.int x1)] 3 = mkF m 0 #[.val (.int x0), .val (.int x1), .unset] [] := by first | (simp [entryFrame, mkF, argsToLocals, Value.category]; done) | rfl
set_option maxRecDepth 65536 in
set_option maxHeartbeats 40000000 in
theorem own_rm6_0 (lch : Launch) (Z : State) (a0 : Array Value) (hw : ∀ d ∈ tables_1, d.before a0 Z = true) (ws : List Jvm.Cond) (q : Int32) (h0 : Heap) (n0 : Nat) :
    MetFree lch (⟨"com/example/larder/larder/cache/UseCounts", "shift", "(II)I"⟩ : MethodName) (head1 (Jvm.Cond.code (⟨"com/example/larder/larder/cache/UseCounts", "shift", "(II)I"⟩ : MethodName) prog_11_method_8_code 3 (some .int) :: ws) own_room6_0) (fun zz U => zz = #[(.int q), (.int (0 : Int32))] ∧ Z.Warmed39 U.vm ∧ U.heap = h0) (fun _ _ _ _ _ => True) (fun _ U o U' => ∃ v L, o = .returned v ∧ own_Q6_0 Z q h0 n0 v U'.heap L ∧ FrameEnd U o U' L own_room6_0.cells own_room6_0.slots) := by
  refine MetFree.of_bodySF (plainFor_of_name own_pn0) hisR ?_
  intro prg e s m args below meth c s₁ Bd hml0 hP hK
  obtain ⟨rfl, hZ, hh⟩ := hP
  have hx := Bd.exec
  have hby := Bd.bytes
  have hml : c.maxLocals = 3 := hml0
  have hown : s.vm.findClass "com/example/larder/larder/cache/UseCounts" = some m.cls := findClass_of_methodNamed Bd.named
  have hnm := (name_of_methodNamed Bd.named Bd.method).1
  have hlk : meth.locks = false := BodyLoose.notSynchronized Bd
  have hret := Bd.returns
  have X0 : Stand prg lch e own_room6_0 s m #[(.int q), (.int (0 : Int32))] below meth c s₁ [] 0 0 := Stand.of_body Bd
  have e0 : s₁.heap = h0 := by rw [← hh, Bd.state]; rfl
  have N0 := Fr.nil n0
  show own_Ends prg e below s (own_Q6_0 Z q h0 n0) own_room6_0.cells own_room6_0.slots s₁ (entryFrame m #[(.int q), (.int (0 : Int32))] 3)
  refine own_cast (own_ef_rm6_0 m q (0 : Int32)) ?_
  refine own_iloadN (pc' := 1) X0 hx (hb hby own_d6_0) rfl rfl ?_
  refine own_iconst (pc' := 2) (z := (4 : Int32)) X0 hx (hb hby own_d6_1) rfl rfl ?_
  refine own_iloadN (pc' := 3) X0 hx (hb hby own_d6_2) rfl rfl ?_
  refine own_iloadN (pc' := 4) X0 hx (hb hby own_d6_3) rfl rfl ?_
  refine own_bipush (pc' := 6) (z := (8 : Int32)) X0 hx (hb hby own_d6_4) rfl rfl ?_
  refine own_imul (pc' := 7) (z := (0 : Int32)) X0 hx (hb hby own_d6_6) rfl (by decide) ?_
  refine own_iushr (pc' := 8) (z := (own_ushr q (0 : Int32))) X0 hx (hb hby own_d6_7) rfl rfl ?_
  refine own_iconst (pc' := 9) (z := (1 : Int32)) X0 hx (hb hby own_d6_8) rfl rfl ?_
  refine own_iand (pc' := 10) (z := ((own_ushr q (0 : Int32)) &&& (1 : Int32))) X0 hx (hb hby own_d6_9) rfl rfl ?_
  refine own_imul (pc' := 11) (z := ((4 : Int32) * ((own_ushr q (0 : Int32)) &&& (1 : Int32)))) X0 hx (hb hby own_d6_10) rfl rfl ?_
  refine own_iadd (pc' := 12) (z := ((0 : Int32) + ((4 : Int32) * ((own_ushr q (0 : Int32)) &&& (1 : Int32))))) X0 hx (hb hby own_d6_11) rfl rfl ?_
  refine own_istoreN (pc' := 13) (l' := #[.val (.int q), .val (.int (0 : Int32)), .val (.int ((0 : Int32) + ((4 : Int32) * ((own_ushr q (0 : Int32)) &&& (1 : Int32)))))]) X0 hx (hb hby own_d6_12) rfl rfl ?_
  refine own_iloadN (pc' := 14) X0 hx (hb hby own_d6_13) rfl rfl ?_
  refine own_iconst (pc' := 15) (z := (4 : Int32)) X0 hx (hb hby own_d6_14) rfl rfl ?_
  refine own_imul (pc' := 16) (z := (((0 : Int32) + ((4 : Int32) * ((own_ushr q (0 : Int32)) &&& (1 : Int32)))) * (4 : Int32))) X0 hx (hb hby own_d6_15) rfl rfl ?_
  refine own_retI X0 hx hlk hret (hb hby own_d6_16) (by decide) (by decide) ?_
  exact ⟨own_some (own_shv 0 (by decide) q), N0, e0⟩
def own_room5_1 : Room := { frames := 0, cells := 0, slots := 0, locals := 0 }
def own_Q5_1 (Z : State) (q : Int32) (pa : Addr) (pk : ClassId) (h0 : Heap) (n0 : Nat) (v : Option Value) (h : Heap) (L : List Loc) : Prop := v = some (.int (own_ix 1 q)) ∧ Fr n0 L ∧ h = h0
theorem own_ef_rm5_1 (m : MethodId) (x0 : Int32) (x1 : Int32) (x2 : Int32) : entryFrame m #[(.int x0), (.int x1), (.int x2)] 4 = mkF m 0 #[.val (.int x0), .val (.int x1), .val (.int x2), .unset] [] := by first | (simp [entryFrame, mkF, argsToLocals, Value.category]; done) | rfl
set_option maxRecDepth 65536 in
set_option maxHeartbeats 40000000 in
theorem own_rm5_1 (lch : Launch) (Z : State) (a0 : Array Value) (hw : ∀ d ∈ tables_1, d.before a0 Z = true) (ws : List Jvm.Cond) (q : Int32) (pa : Addr) (pk : ClassId) (h0 : Heap) (n0 : Nat) (S0 : Sta Z h0 "com/example/larder/larder/cache/UseCounts" "SEEDS" "[I" (.ref pa)) (VS : Arv Z h0 pa pk .int (4 : Int32) [(.int (-1640531535 : Int32)), (.int (-2048144777 : Int32)), (.int (-1028477379 : Int32)), (.int (668265263 : Int32))] (.int (0 : Int32))) :
    MetFree lch (⟨"com/example/larder/larder/cache/UseCounts", "index", "(III)I"⟩ : MethodName) (head1 (Jvm.Cond.code (⟨"com/example/larder/larder/cache/UseCounts", "index", "(III)I"⟩ : MethodName) prog_11_method_7_code 4 (some .int) :: ws) own_room5_1) (fun zz U => zz = #[(.int q), (.int (1 : Int32)), (.int (16 : Int32))] ∧ Z.Warmed39 U.vm ∧ U.heap = h0) (fun _ _ _ _ _ => True) (fun _ U o U' => ∃ v L, o = .returned v ∧ own_Q5_1 Z q pa pk h0 n0 v U'.heap L ∧ FrameEnd U o U' L own_room5_1.cells own_room5_1.slots) := by
  refine MetFree.of_bodySF (plainFor_of_name own_pn0) hisR ?_
  intro prg e s m args below meth c s₁ Bd hml0 hP hK
  obtain ⟨rfl, hZ, hh⟩ := hP
  have hx := Bd.exec
  have hby := Bd.bytes
  have hml : c.maxLocals = 4 := hml0
  have hown : s.vm.findClass "com/example/larder/larder/cache/UseCounts" = some m.cls := findClass_of_methodNamed Bd.named
  have hnm := (name_of_methodNamed Bd.named Bd.method).1
  have hlk : meth.locks = false := BodyLoose.notSynchronized Bd
  have hret := Bd.returns
  have X0 : Stand prg lch e own_room5_1 s m #[(.int q), (.int (1 : Int32)), (.int (16 : Int32))] below meth c s₁ [] 0 0 := Stand.of_body Bd
  have e0 : s₁.heap = h0 := by rw [← hh, Bd.state]; rfl
  have N0 := Fr.nil n0
  show own_Ends prg e below s (own_Q5_1 Z q pa pk h0 n0) own_room5_1.cells own_room5_1.slots s₁ (entryFrame m #[(.int q), (.int (1 : Int32)), (.int (16 : Int32))] 4)
  refine own_cast (own_ef_rm5_1 m q (1 : Int32) (16 : Int32)) ?_
  refine own_iloadN (pc' := 1) X0 hx (hb hby own_d5_0) rfl rfl ?_
  obtain ⟨T31, X31, e31, st31⟩ := getS2 X0 hx hZ hown (host := "") (Or.inl (own_w24 hw)) Via.refl e0 S0 (g := (mkF m 1 #[.val (.int q), .val (.int (1 : Int32)), .val (.int (16 : Int32)), .unset] [(.int q)])) rfl (hb hby own_d5_1)
  refine own_go st31 ?_
  show own_Ends prg e below s _ _ _ T31 (mkF m 4 #[.val (.int q), .val (.int (1 : Int32)), .val (.int (16 : Int32)), .unset] [(.ref pa), (.int q)])
  refine own_iloadN (pc' := 5) X31 hx (hb hby own_d5_4) rfl rfl ?_
  refine own_iaload (pc' := 6) (v := (.int (-2048144777 : Int32))) X31 hx hZ e31 VS (hb hby own_d5_5) rfl (by decide) rfl ?_
  refine own_iadd (pc' := 7) (z := (q + (-2048144777 : Int32))) X31 hx (hb hby own_d5_6) rfl rfl ?_
  obtain ⟨T32, X32, e32, st32⟩ := getS2 X31 hx hZ hown (host := "") (Or.inl (own_w24 hw)) Via.refl e31 S0 (g := (mkF m 7 #[.val (.int q), .val (.int (1 : Int32)), .val (.int (16 : Int32)), .unset] [(.int (q + (-2048144777 : Int32)))])) rfl (hb hby own_d5_7)
  refine own_go st32 ?_
  show own_Ends prg e below s _ _ _ T32 (mkF m 10 #[.val (.int q), .val (.int (1 : Int32)), .val (.int (16 : Int32)), .unset] [(.ref pa), (.int (q + (-2048144777 : Int32)))])
  refine own_iloadN (pc' := 11) X32 hx (hb hby own_d5_10) rfl rfl ?_
  refine own_iaload (pc' := 12) (v := (.int (-2048144777 : Int32))) X32 hx hZ e32 VS (hb hby own_d5_11) rfl (by decide) rfl ?_
  refine own_imul (pc' := 13) (z := ((q + (-2048144777 : Int32)) * (-2048144777 : Int32))) X32 hx (hb hby own_d5_12) rfl rfl ?_
  refine own_istoreN (pc' := 14) (l' := #[.val (.int q), .val (.int (1 : Int32)), .val (.int (16 : Int32)), .val (.int ((q + (-2048144777 : Int32)) * (-2048144777 : Int32)))]) X32 hx (hb hby own_d5_13) rfl rfl ?_
  refine own_iloadN (pc' := 15) X32 hx (hb hby own_d5_14) rfl rfl ?_
  refine own_iloadN (pc' := 16) X32 hx (hb hby own_d5_15) rfl rfl ?_
  refine own_bipush (pc' := 18) (z := (16 : Int32)) X32 hx (hb hby own_d5_16) rfl rfl ?_
  refine own_iushr (pc' := 19) (z := (own_ushr ((q + (-2048144777 : Int32)) * (-2048144777 : Int32)) (16 : Int32))) X32 hx (hb hby own_d5_18) rfl rfl ?_
  refine own_ixor (pc' := 20) (z := (((q + (-2048144777 : Int32)) * (-2048144777 : Int32)) ^^^ (own_ushr ((q + (-2048144777 : Int32)) * (-2048144777 : Int32)) (16 : Int32)))) X32 hx (hb hby own_d5_19) rfl rfl ?_
  refine own_iloadN (pc' := 21) X32 hx (hb hby own_d5_20) rfl rfl ?_
  refine own_iconst (pc' := 22) (z := (1 : Int32)) X32 hx (hb hby own_d5_21) rfl rfl ?_
  refine own_isub (pc' := 23) (z := (15 : Int32)) X32 hx (hb hby own_d5_22) rfl (by decide) ?_
  refine own_iand (pc' := 24) (z := ((((q + (-2048144777 : Int32)) * (-2048144777 : Int32)) ^^^ (own_ushr ((q + (-2048144777 : Int32)) * (-2048144777 : Int32)) (16 : Int32))) &&& (15 : Int32))) X32 hx (hb hby own_d5_23) rfl rfl ?_
  refine own_retI X32 hx hlk hret (hb hby own_d5_24) (by decide) (by decide) ?_
  exact ⟨rfl, N0, e32⟩
def own_room6_1 : Room := { frames := 0, cells := 0, slots := 0, locals := 0 }
def own_Q6_1 (Z : State) (q : Int32) (h0 : Heap) (n0 : Nat) (v : Option Value) (h : Heap) (L : List Loc) : Prop := v = some (.int (Int32.ofNat (4 * own_nb 1 q))) ∧ Fr n0 L ∧ h = h0
theorem own_ef_rm6_1 (m : MethodId) (x0 : Int32) (x1 : Int32) : entryFrame m #[(.int x0), (.int x1)] 3 = mkF m 0 #[.val (.int x0), .val (.int x1), .unset] [] := by first | (simp [entryFrame, mkF, argsToLocals, Value.category]; done) | rfl
set_option maxRecDepth 65536 in
set_option maxHeartbeats 40000000 in
theorem own_rm6_1 (lch : Launch) (Z : State) (a0 : Array Value) (hw : ∀ d ∈ tables_1, d.before a0 Z = true) (ws : List Jvm.Cond) (q : Int32) (h0 : Heap) (n0 : Nat) :
    MetFree lch (⟨"com/example/larder/larder/cache/UseCounts", "shift", "(II)I"⟩ : MethodName) (head1 (Jvm.Cond.code (⟨"com/example/larder/larder/cache/UseCounts", "shift", "(II)I"⟩ : MethodName) prog_11_method_8_code 3 (some .int) :: ws) own_room6_1) (fun zz U => zz = #[(.int q), (.int (1 : Int32))] ∧ Z.Warmed39 U.vm ∧ U.heap = h0) (fun _ _ _ _ _ => True) (fun _ U o U' => ∃ v L, o = .returned v ∧ own_Q6_1 Z q h0 n0 v U'.heap L ∧ FrameEnd U o U' L own_room6_1.cells own_room6_1.slots) := by
  refine MetFree.of_bodySF (plainFor_of_name own_pn0) hisR ?_
  intro prg e s m args below meth c s₁ Bd hml0 hP hK
  obtain ⟨rfl, hZ, hh⟩ := hP
  have hx := Bd.exec
  have hby := Bd.bytes
  have hml : c.maxLocals = 3 := hml0
  have hown : s.vm.findClass "com/example/larder/larder/cache/UseCounts" = some m.cls := findClass_of_methodNamed Bd.named
  have hnm := (name_of_methodNamed Bd.named Bd.method).1
  have hlk : meth.locks = false := BodyLoose.notSynchronized Bd
  have hret := Bd.returns
  have X0 : Stand prg lch e own_room6_1 s m #[(.int q), (.int (1 : Int32))] below meth c s₁ [] 0 0 := Stand.of_body Bd
  have e0 : s₁.heap = h0 := by rw [← hh, Bd.state]; rfl
  have N0 := Fr.nil n0
  show own_Ends prg e below s (own_Q6_1 Z q h0 n0) own_room6_1.cells own_room6_1.slots s₁ (entryFrame m #[(.int q), (.int (1 : Int32))] 3)
  refine own_cast (own_ef_rm6_1 m q (1 : Int32)) ?_
  refine own_iloadN (pc' := 1) X0 hx (hb hby own_d6_0) rfl rfl ?_
  refine own_iconst (pc' := 2) (z := (4 : Int32)) X0 hx (hb hby own_d6_1) rfl rfl ?_
  refine own_iloadN (pc' := 3) X0 hx (hb hby own_d6_2) rfl rfl ?_
  refine own_iloadN (pc' := 4) X0 hx (hb hby own_d6_3) rfl rfl ?_
  refine own_bipush (pc' := 6) (z := (8 : Int32)) X0 hx (hb hby own_d6_4) rfl rfl ?_
  refine own_imul (pc' := 7) (z := (8 : Int32)) X0 hx (hb hby own_d6_6) rfl (by decide) ?_
  refine own_iushr (pc' := 8) (z := (own_ushr q (8 : Int32))) X0 hx (hb hby own_d6_7) rfl rfl ?_
  refine own_iconst (pc' := 9) (z := (1 : Int32)) X0 hx (hb hby own_d6_8) rfl rfl ?_
  refine own_iand (pc' := 10) (z := ((own_ushr q (8 : Int32)) &&& (1 : Int32))) X0 hx (hb hby own_d6_9) rfl rfl ?_
  refine own_imul (pc' := 11) (z := ((4 : Int32) * ((own_ushr q (8 : Int32)) &&& (1 : Int32)))) X0 hx (hb hby own_d6_10) rfl rfl ?_
  refine own_iadd (pc' := 12) (z := ((1 : Int32) + ((4 : Int32) * ((own_ushr q (8 : Int32)) &&& (1 : Int32))))) X0 hx (hb hby own_d6_11) rfl rfl ?_
  refine own_istoreN (pc' := 13) (l' := #[.val (.int q), .val (.int (1 : Int32)), .val (.int ((1 : Int32) + ((4 : Int32) * ((own_ushr q (8 : Int32)) &&& (1 : Int32)))))]) X0 hx (hb hby own_d6_12) rfl rfl ?_
  refine own_iloadN (pc' := 14) X0 hx (hb hby own_d6_13) rfl rfl ?_
  refine own_iconst (pc' := 15) (z := (4 : Int32)) X0 hx (hb hby own_d6_14) rfl rfl ?_
  refine own_imul (pc' := 16) (z := (((1 : Int32) + ((4 : Int32) * ((own_ushr q (8 : Int32)) &&& (1 : Int32)))) * (4 : Int32))) X0 hx (hb hby own_d6_15) rfl rfl ?_
  refine own_retI X0 hx hlk hret (hb hby own_d6_16) (by decide) (by decide) ?_
  exact ⟨own_some (own_shv 1 (by decide) q), N0, e0⟩
def own_room5_2 : Room := { frames := 0, cells := 0, slots := 0, locals := 0 }
def own_Q5_2 (Z : State) (q : Int32) (pa : Addr) (pk : ClassId) (h0 : Heap) (n0 : Nat) (v : Option Value) (h : Heap) (L : List Loc) : Prop := v = some (.int (own_ix 2 q)) ∧ Fr n0 L ∧ h = h0
theorem own_ef_rm5_2 (m : MethodId) (x0 : Int32) (x1 : Int32) (x2 : Int32) : entryFrame m #[(.int x0), (.int x1), (.int x2)] 4 = mkF m 0 #[.val (.int x0), .val (.int x1), .val (.int x2), .unset] [] := by first | (simp [entryFrame, mkF, argsToLocals, Value.category]; done) | rfl
set_option maxRecDepth 65536 in
set_option maxHeartbeats 40000000 in
theorem own_rm5_2 (lch : Launch) (Z : State) (a0 : Array Value) (hw : ∀ d ∈ tables_1, d.before a0 Z = true) (ws : List Jvm.Cond) (q : Int32) (pa : Addr) (pk : ClassId) (h0 : Heap) (n0 : Nat) (S0 : Sta Z h0 "com/example/larder/larder/cache/UseCounts" "SEEDS" "[I" (.ref pa)) (VS : Arv Z h0 pa pk .int (4 : Int32) [(.int (-1640531535 : Int32)), (.int (-2048144777 : Int32)), (.int (-1028477379 : Int32)), (.int (668265263 : Int32))] (.int (0 : Int32))) :
    MetFree lch (⟨"com/example/larder/larder/cache/UseCounts", "index", "(III)I"⟩ : MethodName) (head1 (Jvm.Cond.code (⟨"com/example/larder/larder/cache/UseCounts", "index", "(III)I"⟩ : MethodName) prog_11_method_7_code 4 (some .int) :: ws) own_room5_2) (fun zz U => zz = #[(.int q), (.int (2 : Int32)), (.int (16 : Int32))] ∧ Z.Warmed39 U.vm ∧ U.heap = h0) (fun _ _ _ _ _ => True) (fun _ U o U' => ∃ v L, o = .returned v ∧ own_Q5_2 Z q pa pk h0 n0 v U'.heap L ∧ FrameEnd U o U' L own_room5_2.cells own_room5_2.slots) := by
  refine MetFree.of_bodySF (plainFor_of_name own_pn0) hisR ?_
  intro prg e s m args below meth c s₁ Bd hml0 hP hK
  obtain ⟨rfl, hZ, hh⟩ := hP
  have hx := Bd.exec
  have hby := Bd.bytes
  have hml : c.maxLocals = 4 := hml0
  have hown : s.vm.findClass "com/example/larder/larder/cache/UseCounts" = some m.cls := findClass_of_methodNamed Bd.named
  have hnm := (name_of_methodNamed Bd.named Bd.method).1
  have hlk : meth.locks = false := BodyLoose.notSynchronized Bd
  have hret := Bd.returns
  have X0 : Stand prg lch e own_room5_2 s m #[(.int q), (.int (2 : Int32)), (.int (16 : Int32))] below meth c s₁ [] 0 0 := Stand.of_body Bd
  have e0 : s₁.heap = h0 := by rw [← hh, Bd.state]; rfl
  have N0 := Fr.nil n0
  show own_Ends prg e below s (own_Q5_2 Z q pa pk h0 n0) own_room5_2.cells own_room5_2.slots s₁ (entryFrame m #[(.int q), (.int (2 : Int32)), (.int (16 : Int32))] 4)
  refine own_cast (own_ef_rm5_2 m q (2 : Int32) (16 : Int32)) ?_
  refine own_iloadN (pc' := 1) X0 hx (hb hby own_d5_0) rfl rfl ?_
  obtain ⟨T31, X31, e31, st31⟩ := getS2 X0 hx hZ hown (host := "") (Or.inl (own_w24 hw)) Via.refl e0 S0 (g := (mkF m 1 #[.val (.int q), .val (.int (2 : Int32)), .val (.int (16 : Int32)), .unset] [(.int q)])) rfl (hb hby own_d5_1)
  refine own_go st31 ?_
  show own_Ends prg e below s _ _ _ T31 (mkF m 4 #[.val (.int q), .val (.int (2 : Int32)), .val (.int (16 : Int32)), .unset] [(.ref pa), (.int q)])
  refine own_iloadN (pc' := 5) X31 hx (hb hby own_d5_4) rfl rfl ?_
  refine own_iaload (pc' := 6) (v := (.int (-1028477379 : Int32))) X31 hx hZ e31 VS (hb hby own_d5_5) rfl (by decide) rfl ?_
  refine own_iadd (pc' := 7) (z := (q + (-1028477379 : Int32))) X31 hx (hb hby own_d5_6) rfl rfl ?_
  obtain ⟨T32, X32, e32, st32⟩ := getS2 X31 hx hZ hown (host := "") (Or.inl (own_w24 hw)) Via.refl e31 S0 (g := (mkF m 7 #[.val (.int q), .val (.int (2 : Int32)), .val (.int (16 : Int32)), .unset] [(.int (q + (-1028477379 : Int32)))])) rfl (hb hby own_d5_7)
  refine own_go st32 ?_
  show own_Ends prg e below s _ _ _ T32 (mkF m 10 #[.val (.int q), .val (.int (2 : Int32)), .val (.int (16 : Int32)), .unset] [(.ref pa), (.int (q + (-1028477379 : Int32)))])
  refine own_iloadN (pc' := 11) X32 hx (hb hby own_d5_10) rfl rfl ?_
  refine own_iaload (pc' := 12) (v := (.int (-1028477379 : Int32))) X32 hx hZ e32 VS (hb hby own_d5_11) rfl (by decide) rfl ?_
  refine own_imul (pc' := 13) (z := ((q + (-1028477379 : Int32)) * (-1028477379 : Int32))) X32 hx (hb hby own_d5_12) rfl rfl ?_
  refine own_istoreN (pc' := 14) (l' := #[.val (.int q), .val (.int (2 : Int32)), .val (.int (16 : Int32)), .val (.int ((q + (-1028477379 : Int32)) * (-1028477379 : Int32)))]) X32 hx (hb hby own_d5_13) rfl rfl ?_
  refine own_iloadN (pc' := 15) X32 hx (hb hby own_d5_14) rfl rfl ?_
  refine own_iloadN (pc' := 16) X32 hx (hb hby own_d5_15) rfl rfl ?_
  refine own_bipush (pc' := 18) (z := (16 : Int32)) X32 hx (hb hby own_d5_16) rfl rfl ?_
  refine own_iushr (pc' := 19) (z := (own_ushr ((q + (-1028477379 : Int32)) * (-1028477379 : Int32)) (16 : Int32))) X32 hx (hb hby own_d5_18) rfl rfl ?_
  refine own_ixor (pc' := 20) (z := (((q + (-1028477379 : Int32)) * (-1028477379 : Int32)) ^^^ (own_ushr ((q + (-1028477379 : Int32)) * (-1028477379 : Int32)) (16 : Int32)))) X32 hx (hb hby own_d5_19) rfl rfl ?_
  refine own_iloadN (pc' := 21) X32 hx (hb hby own_d5_20) rfl rfl ?_
  refine own_iconst (pc' := 22) (z := (1 : Int32)) X32 hx (hb hby own_d5_21) rfl rfl ?_
  refine own_isub (pc' := 23) (z := (15 : Int32)) X32 hx (hb hby own_d5_22) rfl (by decide) ?_
  refine own_iand (pc' := 24) (z := ((((q + (-1028477379 : Int32)) * (-1028477379 : Int32)) ^^^ (own_ushr ((q + (-1028477379 : Int32)) * (-1028477379 : Int32)) (16 : Int32))) &&& (15 : Int32))) X32 hx (hb hby own_d5_23) rfl rfl ?_
  refine own_retI X32 hx hlk hret (hb hby own_d5_24) (by decide) (by decide) ?_
  exact ⟨rfl, N0, e32⟩
def own_room6_2 : Room := { frames := 0, cells := 0, slots := 0, locals := 0 }
def own_Q6_2 (Z : State) (q : Int32) (h0 : Heap) (n0 : Nat) (v : Option Value) (h : Heap) (L : List Loc) : Prop := v = some (.int (Int32.ofNat (4 * own_nb 2 q))) ∧ Fr n0 L ∧ h = h0
theorem own_ef_rm6_2 (m : MethodId) (x0 : Int32) (x1 : Int32) : entryFrame m #[(.int x0), (.int x1)] 3 = mkF m 0 #[.val (.int x0), .val (.int x1), .unset] [] := by first | (simp [entryFrame, mkF, argsToLocals, Value.category]; done) | rfl
set_option maxRecDepth 65536 in
set_option maxHeartbeats 40000000 in
theorem own_rm6_2 (lch : Launch) (Z : State) (a0 : Array Value) (hw : ∀ d ∈ tables_1, d.before a0 Z = true) (ws : List Jvm.Cond) (q : Int32) (h0 : Heap) (n0 : Nat) :
    MetFree lch (⟨"com/example/larder/larder/cache/UseCounts", "shift", "(II)I"⟩ : MethodName) (head1 (Jvm.Cond.code (⟨"com/example/larder/larder/cache/UseCounts", "shift", "(II)I"⟩ : MethodName) prog_11_method_8_code 3 (some .int) :: ws) own_room6_2) (fun zz U => zz = #[(.int q), (.int (2 : Int32))] ∧ Z.Warmed39 U.vm ∧ U.heap = h0) (fun _ _ _ _ _ => True) (fun _ U o U' => ∃ v L, o = .returned v ∧ own_Q6_2 Z q h0 n0 v U'.heap L ∧ FrameEnd U o U' L own_room6_2.cells own_room6_2.slots) := by
  refine MetFree.of_bodySF (plainFor_of_name own_pn0) hisR ?_
  intro prg e s m args below meth c s₁ Bd hml0 hP hK
  obtain ⟨rfl, hZ, hh⟩ := hP
  have hx := Bd.exec
  have hby := Bd.bytes
  have hml : c.maxLocals = 3 := hml0
  have hown : s.vm.findClass "com/example/larder/larder/cache/UseCounts" = some m.cls := findClass_of_methodNamed Bd.named
  have hnm := (name_of_methodNamed Bd.named Bd.method).1
  have hlk : meth.locks = false := BodyLoose.notSynchronized Bd
  have hret := Bd.returns
  have X0 : Stand prg lch e own_room6_2 s m #[(.int q), (.int (2 : Int32))] below meth c s₁ [] 0 0 := Stand.of_body Bd
  have e0 : s₁.heap = h0 := by rw [← hh, Bd.state]; rfl
  have N0 := Fr.nil n0
  show own_Ends prg e below s (own_Q6_2 Z q h0 n0) own_room6_2.cells own_room6_2.slots s₁ (entryFrame m #[(.int q), (.int (2 : Int32))] 3)
  refine own_cast (own_ef_rm6_2 m q (2 : Int32)) ?_
  refine own_iloadN (pc' := 1) X0 hx (hb hby own_d6_0) rfl rfl ?_
  refine own_iconst (pc' := 2) (z := (4 : Int32)) X0 hx (hb hby own_d6_1) rfl rfl ?_
  refine own_iloadN (pc' := 3) X0 hx (hb hby own_d6_2) rfl rfl ?_
  refine own_iloadN (pc' := 4) X0 hx (hb hby own_d6_3) rfl rfl ?_
  refine own_bipush (pc' := 6) (z := (8 : Int32)) X0 hx (hb hby own_d6_4) rfl rfl ?_
  refine own_imul (pc' := 7) (z := (16 : Int32)) X0 hx (hb hby own_d6_6) rfl (by decide) ?_
  refine own_iushr (pc' := 8) (z := (own_ushr q (16 : Int32))) X0 hx (hb hby own_d6_7) rfl rfl ?_
  refine own_iconst (pc' := 9) (z := (1 : Int32)) X0 hx (hb hby own_d6_8) rfl rfl ?_
  refine own_iand (pc' := 10) (z := ((own_ushr q (16 : Int32)) &&& (1 : Int32))) X0 hx (hb hby own_d6_9) rfl rfl ?_
  refine own_imul (pc' := 11) (z := ((4 : Int32) * ((own_ushr q (16 : Int32)) &&& (1 : Int32)))) X0 hx (hb hby own_d6_10) rfl rfl ?_
  refine own_iadd (pc' := 12) (z := ((2 : Int32) + ((4 : Int32) * ((own_ushr q (16 : Int32)) &&& (1 : Int32))))) X0 hx (hb hby own_d6_11) rfl rfl ?_
  refine own_istoreN (pc' := 13) (l' := #[.val (.int q), .val (.int (2 : Int32)), .val (.int ((2 : Int32) + ((4 : Int32) * ((own_ushr q (16 : Int32)) &&& (1 : Int32)))))]) X0 hx (hb hby own_d6_12) rfl rfl ?_
  refine own_iloadN (pc' := 14) X0 hx (hb hby own_d6_13) rfl rfl ?_
  refine own_iconst (pc' := 15) (z := (4 : Int32)) X0 hx (hb hby own_d6_14) rfl rfl ?_
  refine own_imul (pc' := 16) (z := (((2 : Int32) + ((4 : Int32) * ((own_ushr q (16 : Int32)) &&& (1 : Int32)))) * (4 : Int32))) X0 hx (hb hby own_d6_15) rfl rfl ?_
  refine own_retI X0 hx hlk hret (hb hby own_d6_16) (by decide) (by decide) ?_
  exact ⟨own_some (own_shv 2 (by decide) q), N0, e0⟩
def own_room5_3 : Room := { frames := 0, cells := 0, slots := 0, locals := 0 }
def own_Q5_3 (Z : State) (q : Int32) (pa : Addr) (pk : ClassId) (h0 : Heap) (n0 : Nat) (v : Option Value) (h : Heap) (L : List Loc) : Prop := v = some (.int (own_ix 3 q)) ∧ Fr n0 L ∧ h = h0
theorem own_ef_rm5_3 (m : MethodId) (x0 : Int32) (x1 : Int32) (x2 : Int32) : entryFrame m #[(.int x0), (.int x1), (.int x2)] 4 = mkF m 0 #[.val (.int x0), .val (.int x1), .val (.int x2), .unset] [] := by first | (simp [entryFrame, mkF, argsToLocals, Value.category]; done) | rfl
set_option maxRecDepth 65536 in
set_option maxHeartbeats 40000000 in
theorem own_rm5_3 (lch : Launch) (Z : State) (a0 : Array Value) (hw : ∀ d ∈ tables_1, d.before a0 Z = true) (ws : List Jvm.Cond) (q : Int32) (pa : Addr) (pk : ClassId) (h0 : Heap) (n0 : Nat) (S0 : Sta Z h0 "com/example/larder/larder/cache/UseCounts" "SEEDS" "[I" (.ref pa)) (VS : Arv Z h0 pa pk .int (4 : Int32) [(.int (-1640531535 : Int32)), (.int (-2048144777 : Int32)), (.int (-1028477379 : Int32)), (.int (668265263 : Int32))] (.int (0 : Int32))) :
    MetFree lch (⟨"com/example/larder/larder/cache/UseCounts", "index", "(III)I"⟩ : MethodName) (head1 (Jvm.Cond.code (⟨"com/example/larder/larder/cache/UseCounts", "index", "(III)I"⟩ : MethodName) prog_11_method_7_code 4 (some .int) :: ws) own_room5_3) (fun zz U => zz = #[(.int q), (.int (3 : Int32)), (.int (16 : Int32))] ∧ Z.Warmed39 U.vm ∧ U.heap = h0) (fun _ _ _ _ _ => True) (fun _ U o U' => ∃ v L, o = .returned v ∧ own_Q5_3 Z q pa pk h0 n0 v U'.heap L ∧ FrameEnd U o U' L own_room5_3.cells own_room5_3.slots) := by
  refine MetFree.of_bodySF (plainFor_of_name own_pn0) hisR ?_
  intro prg e s m args below meth c s₁ Bd hml0 hP hK
  obtain ⟨rfl, hZ, hh⟩ := hP
  have hx := Bd.exec
  have hby := Bd.bytes
  have hml : c.maxLocals = 4 := hml0
  have hown : s.vm.findClass "com/example/larder/larder/cache/UseCounts" = some m.cls := findClass_of_methodNamed Bd.named
  have hnm := (name_of_methodNamed Bd.named Bd.method).1
  have hlk : meth.locks = false := BodyLoose.notSynchronized Bd
  have hret := Bd.returns
  have X0 : Stand prg lch e own_room5_3 s m #[(.int q), (.int (3 : Int32)), (.int (16 : Int32))] below meth c s₁ [] 0 0 := Stand.of_body Bd
  have e0 : s₁.heap = h0 := by rw [← hh, Bd.state]; rfl
  have N0 := Fr.nil n0
  show own_Ends prg e below s (own_Q5_3 Z q pa pk h0 n0) own_room5_3.cells own_room5_3.slots s₁ (entryFrame m #[(.int q), (.int (3 : Int32)), (.int (16 : Int32))] 4)
  refine own_cast (own_ef_rm5_3 m q (3 : Int32) (16 : Int32)) ?_
  refine own_iloadN (pc' := 1) X0 hx (hb hby own_d5_0) rfl rfl ?_
  obtain ⟨T31, X31, e31, st31⟩ := getS2 X0 hx hZ hown (host := "") (Or.inl (own_w24 hw)) Via.refl e0 S0 (g := (mkF m 1 #[.val (.int q), .val (.int (3 : Int32)), .val (.int (16 : Int32)), .unset] [(.int q)])) rfl (hb hby own_d5_1)
  refine own_go st31 ?_
  show own_Ends prg e below s _ _ _ T31 (mkF m 4 #[.val (.int q), .val (.int (3 : Int32)), .val (.int (16 : Int32)), .unset] [(.ref pa), (.int q)])
  refine own_iloadN (pc' := 5) X31 hx (hb hby own_d5_4) rfl rfl ?_
  refine own_iaload (pc' := 6) (v := (.int (668265263 : Int32))) X31 hx hZ e31 VS (hb hby own_d5_5) rfl (by decide) rfl ?_
  refine own_iadd (pc' := 7) (z := (q + (668265263 : Int32))) X31 hx (hb hby own_d5_6) rfl rfl ?_
  obtain ⟨T32, X32, e32, st32⟩ := getS2 X31 hx hZ hown (host := "") (Or.inl (own_w24 hw)) Via.refl e31 S0 (g := (mkF m 7 #[.val (.int q), .val (.int (3 : Int32)), .val (.int (16 : Int32)), .unset] [(.int (q + (668265263 : Int32)))])) rfl (hb hby own_d5_7)
  refine own_go st32 ?_
  show own_Ends prg e below s _ _ _ T32 (mkF m 10 #[.val (.int q), .val (.int (3 : Int32)), .val (.int (16 : Int32)), .unset] [(.ref pa), (.int (q + (668265263 : Int32)))])
  refine own_iloadN (pc' := 11) X32 hx (hb hby own_d5_10) rfl rfl ?_
  refine own_iaload (pc' := 12) (v := (.int (668265263 : Int32))) X32 hx hZ e32 VS (hb hby own_d5_11) rfl (by decide) rfl ?_
  refine own_imul (pc' := 13) (z := ((q + (668265263 : Int32)) * (668265263 : Int32))) X32 hx (hb hby own_d5_12) rfl rfl ?_
  refine own_istoreN (pc' := 14) (l' := #[.val (.int q), .val (.int (3 : Int32)), .val (.int (16 : Int32)), .val (.int ((q + (668265263 : Int32)) * (668265263 : Int32)))]) X32 hx (hb hby own_d5_13) rfl rfl ?_
  refine own_iloadN (pc' := 15) X32 hx (hb hby own_d5_14) rfl rfl ?_
  refine own_iloadN (pc' := 16) X32 hx (hb hby own_d5_15) rfl rfl ?_
  refine own_bipush (pc' := 18) (z := (16 : Int32)) X32 hx (hb hby own_d5_16) rfl rfl ?_
  refine own_iushr (pc' := 19) (z := (own_ushr ((q + (668265263 : Int32)) * (668265263 : Int32)) (16 : Int32))) X32 hx (hb hby own_d5_18) rfl rfl ?_
  refine own_ixor (pc' := 20) (z := (((q + (668265263 : Int32)) * (668265263 : Int32)) ^^^ (own_ushr ((q + (668265263 : Int32)) * (668265263 : Int32)) (16 : Int32)))) X32 hx (hb hby own_d5_19) rfl rfl ?_
  refine own_iloadN (pc' := 21) X32 hx (hb hby own_d5_20) rfl rfl ?_
  refine own_iconst (pc' := 22) (z := (1 : Int32)) X32 hx (hb hby own_d5_21) rfl rfl ?_
  refine own_isub (pc' := 23) (z := (15 : Int32)) X32 hx (hb hby own_d5_22) rfl (by decide) ?_
  refine own_iand (pc' := 24) (z := ((((q + (668265263 : Int32)) * (668265263 : Int32)) ^^^ (own_ushr ((q + (668265263 : Int32)) * (668265263 : Int32)) (16 : Int32))) &&& (15 : Int32))) X32 hx (hb hby own_d5_23) rfl rfl ?_
  refine own_retI X32 hx hlk hret (hb hby own_d5_24) (by decide) (by decide) ?_
  exact ⟨rfl, N0, e32⟩
def own_room6_3 : Room := { frames := 0, cells := 0, slots := 0, locals := 0 }
def own_Q6_3 (Z : State) (q : Int32) (h0 : Heap) (n0 : Nat) (v : Option Value) (h : Heap) (L : List Loc) : Prop := v = some (.int (Int32.ofNat (4 * own_nb 3 q))) ∧ Fr n0 L ∧ h = h0
theorem own_ef_rm6_3 (m : MethodId) (x0 : Int32) (x1 : Int32) : entryFrame m #[(.int x0), (.int x1)] 3 = mkF m 0 #[.val (.int x0), .val (.int x1), .unset] [] := by first | (simp [entryFrame, mkF, argsToLocals, Value.category]; done) | rfl
set_option maxRecDepth 65536 in
set_option maxHeartbeats 40000000 in
theorem own_rm6_3 (lch : Launch) (Z : State) (a0 : Array Value) (hw : ∀ d ∈ tables_1, d.before a0 Z = true) (ws : List Jvm.Cond) (q : Int32) (h0 : Heap) (n0 : Nat) :
    MetFree lch (⟨"com/example/larder/larder/cache/UseCounts", "shift", "(II)I"⟩ : MethodName) (head1 (Jvm.Cond.code (⟨"com/example/larder/larder/cache/UseCounts", "shift", "(II)I"⟩ : MethodName) prog_11_method_8_code 3 (some .int) :: ws) own_room6_3) (fun zz U => zz = #[(.int q), (.int (3 : Int32))] ∧ Z.Warmed39 U.vm ∧ U.heap = h0) (fun _ _ _ _ _ => True) (fun _ U o U' => ∃ v L, o = .returned v ∧ own_Q6_3 Z q h0 n0 v U'.heap L ∧ FrameEnd U o U' L own_room6_3.cells own_room6_3.slots) := by
  refine MetFree.of_bodySF (plainFor_of_name own_pn0) hisR ?_
  intro prg e s m args below meth c s₁ Bd hml0 hP hK
  obtain ⟨rfl, hZ, hh⟩ := hP
  have hx := Bd.exec
  have hby := Bd.bytes
  have hml : c.maxLocals = 3 := hml0
  have hown : s.vm.findClass "com/example/larder/larder/cache/UseCounts" = some m.cls := findClass_of_methodNamed Bd.named
  have hnm := (name_of_methodNamed Bd.named Bd.method).1
  have hlk : meth.locks = false := BodyLoose.notSynchronized Bd
  have hret := Bd.returns
  have X0 : Stand prg lch e own_room6_3 s m #[(.int q), (.int (3 : Int32))] below meth c s₁ [] 0 0 := Stand.of_body Bd
  have e0 : s₁.heap = h0 := by rw [← hh, Bd.state]; rfl
  have N0 := Fr.nil n0
  show own_Ends prg e below s (own_Q6_3 Z q h0 n0) own_room6_3.cells own_room6_3.slots s₁ (entryFrame m #[(.int q), (.int (3 : Int32))] 3)
  refine own_cast (own_ef_rm6_3 m q (3 : Int32)) ?_
  refine own_iloadN (pc' := 1) X0 hx (hb hby own_d6_0) rfl rfl ?_
  refine own_iconst (pc' := 2) (z := (4 : Int32)) X0 hx (hb hby own_d6_1) rfl rfl ?_
  refine own_iloadN (pc' := 3) X0 hx (hb hby own_d6_2) rfl rfl ?_
  refine own_iloadN (pc' := 4) X0 hx (hb hby own_d6_3) rfl rfl ?_
  refine own_bipush (pc' := 6) (z := (8 : Int32)) X0 hx (hb hby own_d6_4) rfl rfl ?_
  refine own_imul (pc' := 7) (z := (24 : Int32)) X0 hx (hb hby own_d6_6) rfl (by decide) ?_
  refine own_iushr (pc' := 8) (z := (own_ushr q (24 : Int32))) X0 hx (hb hby own_d6_7) rfl rfl ?_
  refine own_iconst (pc' := 9) (z := (1 : Int32)) X0 hx (hb hby own_d6_8) rfl rfl ?_
  refine own_iand (pc' := 10) (z := ((own_ushr q (24 : Int32)) &&& (1 : Int32))) X0 hx (hb hby own_d6_9) rfl rfl ?_
  refine own_imul (pc' := 11) (z := ((4 : Int32) * ((own_ushr q (24 : Int32)) &&& (1 : Int32)))) X0 hx (hb hby own_d6_10) rfl rfl ?_
  refine own_iadd (pc' := 12) (z := ((3 : Int32) + ((4 : Int32) * ((own_ushr q (24 : Int32)) &&& (1 : Int32))))) X0 hx (hb hby own_d6_11) rfl rfl ?_
  refine own_istoreN (pc' := 13) (l' := #[.val (.int q), .val (.int (3 : Int32)), .val (.int ((3 : Int32) + ((4 : Int32) * ((own_ushr q (24 : Int32)) &&& (1 : Int32)))))]) X0 hx (hb hby own_d6_12) rfl rfl ?_
  refine own_iloadN (pc' := 14) X0 hx (hb hby own_d6_13) rfl rfl ?_
  refine own_iconst (pc' := 15) (z := (4 : Int32)) X0 hx (hb hby own_d6_14) rfl rfl ?_
  refine own_imul (pc' := 16) (z := (((3 : Int32) + ((4 : Int32) * ((own_ushr q (24 : Int32)) &&& (1 : Int32)))) * (4 : Int32))) X0 hx (hb hby own_d6_15) rfl rfl ?_
  refine own_retI X0 hx hlk hret (hb hby own_d6_16) (by decide) (by decide) ?_
  exact ⟨own_some (own_shv 3 (by decide) q), N0, e0⟩
def own_room8 : Room := { frames := 0, cells := 0, slots := 0, locals := 0 }
def own_Q8 (Z : State) (p0 : Int32) (p1 : Int32) (h0 : Heap) (n0 : Nat) (v : Option Value) (h : Heap) (L : List Loc) : Prop := v = some (.int (own_min p0 p1)) ∧ Fr n0 L ∧ h = h0
theorem own_ef_rm8 (m : MethodId) (x0 : Int32) (x1 : Int32) : entryFrame m #[(.int x0), (.int x1)] 2 = mkF m 0 #[.val (.int x0), .val (.int x1)] [] := by first | (simp [entryFrame, mkF, argsToLocals, Value.category]; done) | rfl
set_option maxRecDepth 65536 in
set_option maxHeartbeats 40000000 in
theorem own_rm8 (lch : Launch) (Z : State) (a0 : Array Value) (hw : ∀ d ∈ tables_1, d.before a0 Z = true) (ws : List Jvm.Cond) (p0 : Int32) (p1 : Int32) (h0 : Heap) (n0 : Nat) :
    MetFree lch (⟨"java/lang/Math", "min", "(II)I"⟩ : MethodName) (head1 (Jvm.Cond.code (⟨"java/lang/Math", "min", "(II)I"⟩ : MethodName) jdk_29_method_69_code 2 (some .int) :: ws) own_room8) (fun zz U => zz = #[(.int p0), (.int p1)] ∧ Z.Warmed39 U.vm ∧ U.heap = h0) (fun _ _ _ _ _ => True) (fun _ U o U' => ∃ v L, o = .returned v ∧ own_Q8 Z p0 p1 h0 n0 v U'.heap L ∧ FrameEnd U o U' L own_room8.cells own_room8.slots) := by
  refine MetFree.of_bodySF (Jvm.Free.JP.mathPlain rfl (by decide +kernel)) hisR ?_
  intro prg e s m args below meth c s₁ Bd hml0 hP hK
  obtain ⟨rfl, hZ, hh⟩ := hP
  have hx := Bd.exec
  have hby := Bd.bytes
  have hml : c.maxLocals = 2 := hml0
  have hown : s.vm.findClass "java/lang/Math" = some m.cls := findClass_of_methodNamed Bd.named
  have hnm := (name_of_methodNamed Bd.named Bd.method).1
  have hlk : meth.locks = false := BodyLoose.notSynchronized Bd
  have hret := Bd.returns
  have X0 : Stand prg lch e own_room8 s m #[(.int p0), (.int p1)] below meth c s₁ [] 0 0 := Stand.of_body Bd
  have e0 : s₁.heap = h0 := by rw [← hh, Bd.state]; rfl
  have N0 := Fr.nil n0
  show own_Ends prg e below s (own_Q8 Z p0 p1 h0 n0) own_room8.cells own_room8.slots s₁ (entryFrame m #[(.int p0), (.int p1)] 2)
  refine own_cast (own_ef_rm8 m p0 p1) ?_
  refine own_iloadN (pc' := 1) X0 hx (hb hby own_d8_0) rfl rfl ?_
  refine own_iloadN (pc' := 2) X0 hx (hb hby own_d8_1) rfl rfl ?_
  by_cases hc2_31 : p1 < p0
  · refine own_icmpYes (pc' := 9) X0 hx (hb hby own_d8_2) (tlt hc2_31).2.2.1 (by decide) (by decide) ?_
    refine own_iloadN (pc' := 10) X0 hx (hb hby own_d8_9) rfl rfl ?_
    refine own_retI X0 hx hlk hret (hb hby own_d8_10) (by decide) (by decide) ?_
    exact ⟨own_some (by simp [own_min, hc2_31]), N0, e0⟩
  · refine own_icmpNo (pc' := 5) X0 hx (hb hby own_d8_2) rfl (flt hc2_31).2.2.1 ?_
    refine own_iloadN (pc' := 6) X0 hx (hb hby own_d8_5) rfl rfl ?_
    refine own_goto (pc' := 10) X0 hx (hb hby own_d8_6) (by decide) (by decide) ?_
    refine own_retI X0 hx hlk hret (hb hby own_d8_10) (by decide) (by decide) ?_
    exact ⟨own_some (by simp [own_min, hc2_31]), N0, e0⟩
def own_room3 : Room := { frames := 1, cells := 0, slots := 0, locals := 15 }
def own_Q3 (Z : State) (a : Addr) (p : Int32) (pa : Addr) (pk : ClassId) (b : Addr) (bk : ClassId) (n : Int32) (l : List Int32) (ks : List Int32) (h0 : Heap) (n0 : Nat) (v : Option Value) (h : Heap) (L : List Loc) : Prop := ∃ (l2 : List Int32), v = none ∧ Fr n0 L ∧ Keep h0 h [a, b] ∧ Fld Z h a "com/example/larder/larder/cache/UseCounts" "table" "[I" (.ref b) ∧ Fld Z h a "com/example/larder/larder/cache/UseCounts" "additions" "I" (.int (n + (1 : Int32))) ∧ Arv Z h b bk .int (16 : Int32) (own_LI l2) (.int (0 : Int32)) ∧ own_rep l2 (own_spread p :: ks)
theorem own_ef_rm3 (m : MethodId) (x0 : Addr) (x1 : Int32) : entryFrame m #[(.ref x0), (.int x1)] 9 = mkF m 0 #[.val (.ref x0), .val (.int x1), .unset, .unset, .unset, .unset, .unset, .unset, .unset] [] := by first | (simp [entryFrame, mkF, argsToLocals, Value.category]; done) | rfl
set_option maxRecDepth 65536 in
set_option maxHeartbeats 40000000 in
theorem own_rm3 (lch : Launch) (Z : State) (a0 : Array Value) (hw : ∀ d ∈ tables_1, d.before a0 Z = true) (ws : List Jvm.Cond) (a : Addr) (p : Int32) (pa : Addr) (pk : ClassId) (b : Addr) (bk : ClassId) (n : Int32) (l : List Int32) (ks : List Int32) (h0 : Heap) (n0 : Nat) (E0 : Exa Z h0 a "com/example/larder/larder/cache/UseCounts") (FT : Fld Z h0 a "com/example/larder/larder/cache/UseCounts" "table" "[I" (.ref b)) (FA : Fld Z h0 a "com/example/larder/larder/cache/UseCounts" "additions" "I" (.int n)) (VT : Arv Z h0 b bk .int (16 : Int32) (own_LI l) (.int (0 : Int32))) (HR : own_rep l ks) (hk : ks.length ≤ 5) (hn : 0 ≤ n.toInt ∧ n.toInt ≤ 10) (ga : n0 ≤ a) (gb : n0 ≤ b) (hne : a ≠ b) (hne2 : pa ≠ a) (hne3 : pa ≠ b) (S0 : Sta Z h0 "com/example/larder/larder/cache/UseCounts" "SEEDS" "[I" (.ref pa)) (VS : Arv Z h0 pa pk .int (4 : Int32) [(.int (-1640531535 : Int32)), (.int (-2048144777 : Int32)), (.int (-1028477379 : Int32)), (.int (668265263 : Int32))] (.int (0 : Int32))) :
    MetFree lch (⟨"com/example/larder/larder/cache/UseCounts", "add", "(I)V"⟩ : MethodName) (head1 (Jvm.Cond.code (⟨"com/example/larder/larder/cache/UseCounts", "add", "(I)V"⟩ : MethodName) prog_11_method_2_code 9 none :: ws) own_room3) (fun zz U => zz = #[(.ref a), (.int p)] ∧ Z.Warmed39 U.vm ∧ U.heap = h0) (fun _ _ _ _ _ => True) (fun _ U o U' => ∃ v L, o = .returned v ∧ own_Q3 Z a p pa pk b bk n l ks h0 n0 v U'.heap L ∧ FrameEnd U o U' L own_room3.cells own_room3.slots) := by
  refine MetFree.of_bodySF (plainFor_of_name own_pn0) hisR ?_
  intro prg e s m args below meth c s₁ Bd hml0 hP hK
  obtain ⟨rfl, hZ, hh⟩ := hP
  have hx := Bd.exec
  have hby := Bd.bytes
  have hml : c.maxLocals = 9 := hml0
  have hown : s.vm.findClass "com/example/larder/larder/cache/UseCounts" = some m.cls := findClass_of_methodNamed Bd.named
  have hnm := (name_of_methodNamed Bd.named Bd.method).1
  have hlk : meth.locks = false := BodyLoose.notSynchronized Bd
  have hret := Bd.returns
  have X0 : Stand prg lch e own_room3 s m #[(.ref a), (.int p)] below meth c s₁ [] 0 0 := Stand.of_body Bd
  have e0 : s₁.heap = h0 := by rw [← hh, Bd.state]; rfl
  have N0 := Fr.nil n0
  show own_Ends prg e below s (own_Q3 Z a p pa pk b bk n l ks h0 n0) own_room3.cells own_room3.slots s₁ (entryFrame m #[(.ref a), (.int p)] 9)
  refine own_cast (own_ef_rm3 m a p) ?_
  have K0 := Keep.refl h0 ([a, b] : List Addr)
  refine own_aloadN (pc' := 1) X0 hx (hb hby own_d3_0) rfl rfl rfl ?_
  obtain ⟨T31, X31, e31, st31⟩ := getF X0 hx hZ hown (host := "") (Or.inl (own_w10 hw)) Via.refl e0 FT (g := (mkF m 1 #[.val (.ref a), .val (.int p), .unset, .unset, .unset, .unset, .unset, .unset, .unset] [(.ref a)])) rfl rfl (hb hby own_d3_1)
  refine own_go st31 ?_
  show own_Ends prg e below s _ _ _ T31 (mkF m 4 #[.val (.ref a), .val (.int p), .unset, .unset, .unset, .unset, .unset, .unset, .unset] [(.ref b)])
  refine own_astoreN (pc' := 5) (l' := #[.val (.ref a), .val (.int p), .val (.ref b), .unset, .unset, .unset, .unset, .unset, .unset]) X31 hx (hb hby own_d3_4) rfl rfl rfl ?_
  refine own_iloadN (pc' := 6) X31 hx (hb hby own_d3_5) rfl rfl ?_
  refine own_callS (pc' := 9) (y := (⟨"com/example/larder/larder/cache/UseCounts", "spread", "(I)I"⟩ : MethodName)) (W := 0) (rm := own_room4) (argsL := [(.int p)]) (rest := []) X31 hx hZ e31 hown (by rw [hml]; rfl) (own_w17 hw) (own_w18 hw) (own_w2 hw) (own_w19 hw) (by decide) (own_rm4 lch Z a0 hw [] p h0 n0) (by decide) (by decide) (by decide) (by decide) (lenOf own_pd0 rfl) rfl (by exact Nat.le_of_eq rfl) (hb hby own_d3_6) rfl ?_
  intro T32 Lc32 v32 X32 hQ32
  obtain ⟨rfl, Nq32, Kq32⟩ := hQ32
  have N32 := Fr.app N0 Nq32
  show own_Ends prg e below s _ _ _ T32 (mkF m 9 #[.val (.ref a), .val (.int p), .val (.ref b), .unset, .unset, .unset, .unset, .unset, .unset] [(.int (own_spread p))])
  refine own_istoreN (pc' := 10) (l' := #[.val (.ref a), .val (.int p), .val (.ref b), .val (.int (own_spread p)), .unset, .unset, .unset, .unset, .unset]) X32 hx (hb hby own_d3_9) rfl rfl ?_
  have HR0 := own_rep0 HR (own_spread p)
  refine own_iconst (pc' := 11) (z := (0 : Int32)) X32 hx (hb hby own_d3_10) rfl rfl ?_
  refine own_istore (pc' := 13) (l' := #[.val (.ref a), .val (.int p), .val (.ref b), .val (.int (own_spread p)), .val (.int (0 : Int32)), .unset, .unset, .unset, .unset]) X32 hx (hb hby own_d3_11) rfl rfl ?_
  refine own_iconst (pc' := 14) (z := (0 : Int32)) X32 hx (hb hby own_d3_13) rfl rfl ?_
  refine own_istore (pc' := 16) (l' := #[.val (.ref a), .val (.int p), .val (.ref b), .val (.int (own_spread p)), .val (.int (0 : Int32)), .val (.int (0 : Int32)), .unset, .unset, .unset]) X32 hx (hb hby own_d3_14) rfl rfl ?_
  refine own_iload (pc' := 18) X32 hx (hb hby own_d3_16) rfl rfl ?_
  refine own_iconst (pc' := 19) (z := (4 : Int32)) X32 hx (hb hby own_d3_18) rfl rfl ?_
  refine own_icmpNo (pc' := 22) X32 hx (hb hby own_d3_19) rfl (tlt (by decide)).2.1 ?_
  refine own_iloadN (pc' := 23) X32 hx (hb hby own_d3_22) rfl rfl ?_
  refine own_iload (pc' := 25) X32 hx (hb hby own_d3_23) rfl rfl ?_
  refine own_aloadN (pc' := 26) X32 hx (hb hby own_d3_25) rfl rfl rfl ?_
  refine own_alen (pc' := 27) X32 hx hZ Kq32 VT (hb hby own_d3_26) rfl ?_
  refine own_callS (pc' := 30) (y := (⟨"com/example/larder/larder/cache/UseCounts", "index", "(III)I"⟩ : MethodName)) (W := 0) (rm := own_room5_0) (argsL := [(.int (own_spread p)), (.int (0 : Int32)), (.int (16 : Int32))]) (rest := []) X32 hx hZ Kq32 hown (by rw [hml]; rfl) (own_w21 hw) (own_w22 hw) (own_w2 hw) (own_w23 hw) (by decide) (own_rm5_0 lch Z a0 hw [] (own_spread p) pa pk h0 n0 S0 VS) (by decide) (by decide) (by decide) (by decide) (lenOf own_pd1 rfl) rfl (by exact Nat.le_of_eq rfl) (hb hby own_d3_27) rfl ?_
  intro T33 Lc33 v33 X33 hQ33
  obtain ⟨rfl, Nq33, Kq33⟩ := hQ33
  have N33 := Fr.app N32 Nq33
  show own_Ends prg e below s _ _ _ T33 (mkF m 30 #[.val (.ref a), .val (.int p), .val (.ref b), .val (.int (own_spread p)), .val (.int (0 : Int32)), .val (.int (0 : Int32)), .unset, .unset, .unset] [(.int (own_ix 0 (own_spread p)))])
  refine own_istore (pc' := 32) (l' := #[.val (.ref a), .val (.int p), .val (.ref b), .val (.int (own_spread p)), .val (.int (0 : Int32)), .val (.int (0 : Int32)), .val (.int (own_ix 0 (own_spread p))), .unset, .unset]) X33 hx (hb hby own_d3_30) rfl rfl ?_
  refine own_iloadN (pc' := 33) X33 hx (hb hby own_d3_32) rfl rfl ?_
  refine own_iload (pc' := 35) X33 hx (hb hby own_d3_33) rfl rfl ?_
  refine own_callS (pc' := 38) (y := (⟨"com/example/larder/larder/cache/UseCounts", "shift", "(II)I"⟩ : MethodName)) (W := 0) (rm := own_room6_0) (argsL := [(.int (own_spread p)), (.int (0 : Int32))]) (rest := []) X33 hx hZ Kq33 hown (by rw [hml]; rfl) (own_w26 hw) (own_w27 hw) (own_w2 hw) (own_w28 hw) (by decide) (own_rm6_0 lch Z a0 hw [] (own_spread p) h0 n0) (by decide) (by decide) (by decide) (by decide) (lenOf own_pd2 rfl) rfl (by exact Nat.le_of_eq rfl) (hb hby own_d3_35) rfl ?_
  intro T34 Lc34 v34 X34 hQ34
  obtain ⟨rfl, Nq34, Kq34⟩ := hQ34
  have N34 := Fr.app N33 Nq34
  show own_Ends prg e below s _ _ _ T34 (mkF m 38 #[.val (.ref a), .val (.int p), .val (.ref b), .val (.int (own_spread p)), .val (.int (0 : Int32)), .val (.int (0 : Int32)), .val (.int (own_ix 0 (own_spread p))), .unset, .unset] [(.int (Int32.ofNat (4 * own_nb 0 (own_spread p))))])
  refine own_istore (pc' := 40) (l' := #[.val (.ref a), .val (.int p), .val (.ref b), .val (.int (own_spread p)), .val (.int (0 : Int32)), .val (.int (0 : Int32)), .val (.int (own_ix 0 (own_spread p))), .val (.int (Int32.ofNat (4 * own_nb 0 (own_spread p)))), .unset]) X34 hx (hb hby own_d3_38) rfl rfl ?_
  refine own_aloadN (pc' := 41) X34 hx (hb hby own_d3_40) rfl rfl rfl ?_
  refine own_iload (pc' := 43) X34 hx (hb hby own_d3_41) rfl rfl ?_
  obtain ⟨x35, hx35⟩ : ∃ z, l.getD (own_at 0 (own_spread p)) 0 = z := ⟨_, rfl⟩
  refine own_iaload (pc' := 44) (v := (.int x35)) X34 hx hZ Kq34 VT (hb hby own_d3_43) rfl (own_in16 0 _) ((own_LIget _ _).trans (congrArg Value.int hx35)) ?_
  refine own_istore (pc' := 46) (l' := #[.val (.ref a), .val (.int p), .val (.ref b), .val (.int (own_spread p)), .val (.int (0 : Int32)), .val (.int (0 : Int32)), .val (.int (own_ix 0 (own_spread p))), .val (.int (Int32.ofNat (4 * own_nb 0 (own_spread p)))), .val (.int x35)]) X34 hx (hb hby own_d3_44) rfl rfl ?_
  refine own_iload (pc' := 48) X34 hx (hb hby own_d3_46) rfl rfl ?_
  refine own_iload (pc' := 50) X34 hx (hb hby own_d3_48) rfl rfl ?_
  refine own_iushr (pc' := 51) (z := (own_ushr x35 (Int32.ofNat (4 * own_nb 0 (own_spread p))))) X34 hx (hb hby own_d3_50) rfl rfl ?_
  refine own_bipush (pc' := 53) (z := (15 : Int32)) X34 hx (hb hby own_d3_51) rfl rfl ?_
  refine own_iand (pc' := 54) (z := ((own_ushr x35 (Int32.ofNat (4 * own_nb 0 (own_spread p)))) &&& (15 : Int32))) X34 hx (hb hby own_d3_53) rfl rfl ?_
  refine own_bipush (pc' := 56) (z := (15 : Int32)) X34 hx (hb hby own_d3_54) rfl rfl ?_
  have hq36 := (own_step HR0 (by decide) (by omega)).1
  rw [hx35] at hq36
  refine own_icmpNo (pc' := 59) X34 hx (hb hby own_d3_56) rfl (tlt (own_lt15 (own_nb_lt (by decide) _).1 hq36)).2.1 ?_
  refine own_aloadN (pc' := 60) X34 hx (hb hby own_d3_59) rfl rfl rfl ?_
  refine own_iload (pc' := 62) X34 hx (hb hby own_d3_60) rfl rfl ?_
  refine own_iload (pc' := 64) X34 hx (hb hby own_d3_62) rfl rfl ?_
  refine own_iconst (pc' := 65) (z := (1 : Int32)) X34 hx (hb hby own_d3_64) rfl rfl ?_
  refine own_iload (pc' := 67) X34 hx (hb hby own_d3_65) rfl rfl ?_
  refine own_ishl (pc' := 68) (z := ((1 : Int32) <<< ((Int32.ofNat (4 * own_nb 0 (own_spread p))) &&& 31))) X34 hx (hb hby own_d3_67) rfl rfl ?_
  refine own_iadd (pc' := 69) (z := (x35 + ((1 : Int32) <<< ((Int32.ofNat (4 * own_nb 0 (own_spread p))) &&& 31)))) X34 hx (hb hby own_d3_68) rfl rfl ?_
  refine own_iastore (pc' := 70) X34 hx hZ Kq34 VT (hb hby own_d3_69) rfl (own_in16 0 _) (own_at 0 (own_spread p)) rfl (by rw [own_LIlen, HR0.1]; exact own_at_lt _ _) N34 gb ?_
  intro T37 h37 L37 X37 e37 N37 W37 V37
  have H39 := (own_step HR0 (by decide) (by omega)).2
  rw [own_LIset] at V37
  rw [hx35] at H39
  obtain ⟨l38, el38⟩ : ∃ z, z = l.set (own_at 0 (own_spread p)) (x35 + ((1 : Int32) <<< ((Int32.ofNat (4 * own_nb 0 (own_spread p))) &&& 31))) := ⟨_, rfl⟩
  rw [← el38] at V37 H39
  show own_Ends prg e below s _ _ _ T37 (mkF m 70 #[.val (.ref a), .val (.int p), .val (.ref b), .val (.int (own_spread p)), .val (.int (0 : Int32)), .val (.int (0 : Int32)), .val (.int (own_ix 0 (own_spread p))), .val (.int (Int32.ofNat (4 * own_nb 0 (own_spread p)))), .val (.int x35)] [])
  refine own_iconst (pc' := 71) (z := (1 : Int32)) X37 hx (hb hby own_d3_70) rfl rfl ?_
  refine own_istore (pc' := 73) (l' := #[.val (.ref a), .val (.int p), .val (.ref b), .val (.int (own_spread p)), .val (.int (1 : Int32)), .val (.int (0 : Int32)), .val (.int (own_ix 0 (own_spread p))), .val (.int (Int32.ofNat (4 * own_nb 0 (own_spread p)))), .val (.int x35)]) X37 hx (hb hby own_d3_71) rfl rfl ?_
  refine own_iinc (pc' := 76) (z := (1 : Int32)) (l' := #[.val (.ref a), .val (.int p), .val (.ref b), .val (.int (own_spread p)), .val (.int (1 : Int32)), .val (.int (1 : Int32)), .val (.int (own_ix 0 (own_spread p))), .val (.int (Int32.ofNat (4 * own_nb 0 (own_spread p)))), .val (.int x35)]) X37 hx (hb hby own_d3_73) rfl rfl (by decide) rfl ?_
  refine own_goto (pc' := 16) X37 hx (hb hby own_d3_76) (by decide) (by decide) ?_
  refine own_iload (pc' := 18) X37 hx (hb hby own_d3_16) rfl rfl ?_
  refine own_iconst (pc' := 19) (z := (4 : Int32)) X37 hx (hb hby own_d3_18) rfl rfl ?_
  refine own_icmpNo (pc' := 22) X37 hx (hb hby own_d3_19) rfl (tlt (by decide)).2.1 ?_
  refine own_iloadN (pc' := 23) X37 hx (hb hby own_d3_22) rfl rfl ?_
  refine own_iload (pc' := 25) X37 hx (hb hby own_d3_23) rfl rfl ?_
  refine own_aloadN (pc' := 26) X37 hx (hb hby own_d3_25) rfl rfl rfl ?_
  refine own_alen (pc' := 27) X37 hx hZ e37 V37 (hb hby own_d3_26) rfl ?_
  have f40 := (S0.wr W37)
  have f41 := (VS.other W37 hne3)
  refine own_callS (pc' := 30) (y := (⟨"com/example/larder/larder/cache/UseCounts", "index", "(III)I"⟩ : MethodName)) (W := 0) (rm := own_room5_1) (argsL := [(.int (own_spread p)), (.int (1 : Int32)), (.int (16 : Int32))]) (rest := []) X37 hx hZ e37 hown (by rw [hml]; rfl) (own_w21 hw) (own_w22 hw) (own_w2 hw) (own_w23 hw) (by decide) (own_rm5_1 lch Z a0 hw [] (own_spread p) pa pk h37 n0 f40 f41) (by decide) (by decide) (by decide) (by decide) (lenOf own_pd1 rfl) rfl (by exact Nat.le_of_eq rfl) (hb hby own_d3_27) rfl ?_
  intro T42 Lc42 v42 X42 hQ42
  obtain ⟨rfl, Nq42, Kq42⟩ := hQ42
  have N42 := Fr.app N37 Nq42
  show own_Ends prg e below s _ _ _ T42 (mkF m 30 #[.val (.ref a), .val (.int p), .val (.ref b), .val (.int (own_spread p)), .val (.int (1 : Int32)), .val (.int (1 : Int32)), .val (.int (own_ix 0 (own_spread p))), .val (.int (Int32.ofNat (4 * own_nb 0 (own_spread p)))), .val (.int x35)] [(.int (own_ix 1 (own_spread p)))])
  refine own_istore (pc' := 32) (l' := #[.val (.ref a), .val (.int p), .val (.ref b), .val (.int (own_spread p)), .val (.int (1 : Int32)), .val (.int (1 : Int32)), .val (.int (own_ix 1 (own_spread p))), .val (.int (Int32.ofNat (4 * own_nb 0 (own_spread p)))), .val (.int x35)]) X42 hx (hb hby own_d3_30) rfl rfl ?_
  refine own_iloadN (pc' := 33) X42 hx (hb hby own_d3_32) rfl rfl ?_
  refine own_iload (pc' := 35) X42 hx (hb hby own_d3_33) rfl rfl ?_
  refine own_callS (pc' := 38) (y := (⟨"com/example/larder/larder/cache/UseCounts", "shift", "(II)I"⟩ : MethodName)) (W := 0) (rm := own_room6_1) (argsL := [(.int (own_spread p)), (.int (1 : Int32))]) (rest := []) X42 hx hZ Kq42 hown (by rw [hml]; rfl) (own_w26 hw) (own_w27 hw) (own_w2 hw) (own_w28 hw) (by decide) (own_rm6_1 lch Z a0 hw [] (own_spread p) h37 n0) (by decide) (by decide) (by decide) (by decide) (lenOf own_pd2 rfl) rfl (by exact Nat.le_of_eq rfl) (hb hby own_d3_35) rfl ?_
  intro T43 Lc43 v43 X43 hQ43
  obtain ⟨rfl, Nq43, Kq43⟩ := hQ43
  have N43 := Fr.app N42 Nq43
  show own_Ends prg e below s _ _ _ T43 (mkF m 38 #[.val (.ref a), .val (.int p), .val (.ref b), .val (.int (own_spread p)), .val (.int (1 : Int32)), .val (.int (1 : Int32)), .val (.int (own_ix 1 (own_spread p))), .val (.int (Int32.ofNat (4 * own_nb 0 (own_spread p)))), .val (.int x35)] [(.int (Int32.ofNat (4 * own_nb 1 (own_spread p))))])
  refine own_istore (pc' := 40) (l' := #[.val (.ref a), .val (.int p), .val (.ref b), .val (.int (own_spread p)), .val (.int (1 : Int32)), .val (.int (1 : Int32)), .val (.int (own_ix 1 (own_spread p))), .val (.int (Int32.ofNat (4 * own_nb 1 (own_spread p)))), .val (.int x35)]) X43 hx (hb hby own_d3_38) rfl rfl ?_
  refine own_aloadN (pc' := 41) X43 hx (hb hby own_d3_40) rfl rfl rfl ?_
  refine own_iload (pc' := 43) X43 hx (hb hby own_d3_41) rfl rfl ?_
  obtain ⟨x44, hx44⟩ : ∃ z, l38.getD (own_at 1 (own_spread p)) 0 = z := ⟨_, rfl⟩
  refine own_iaload (pc' := 44) (v := (.int x44)) X43 hx hZ Kq43 V37 (hb hby own_d3_43) rfl (own_in16 1 _) ((own_LIget _ _).trans (congrArg Value.int hx44)) ?_
  refine own_istore (pc' := 46) (l' := #[.val (.ref a), .val (.int p), .val (.ref b), .val (.int (own_spread p)), .val (.int (1 : Int32)), .val (.int (1 : Int32)), .val (.int (own_ix 1 (own_spread p))), .val (.int (Int32.ofNat (4 * own_nb 1 (own_spread p)))), .val (.int x44)]) X43 hx (hb hby own_d3_44) rfl rfl ?_
  refine own_iload (pc' := 48) X43 hx (hb hby own_d3_46) rfl rfl ?_
  refine own_iload (pc' := 50) X43 hx (hb hby own_d3_48) rfl rfl ?_
  refine own_iushr (pc' := 51) (z := (own_ushr x44 (Int32.ofNat (4 * own_nb 1 (own_spread p))))) X43 hx (hb hby own_d3_50) rfl rfl ?_
  refine own_bipush (pc' := 53) (z := (15 : Int32)) X43 hx (hb hby own_d3_51) rfl rfl ?_
  refine own_iand (pc' := 54) (z := ((own_ushr x44 (Int32.ofNat (4 * own_nb 1 (own_spread p)))) &&& (15 : Int32))) X43 hx (hb hby own_d3_53) rfl rfl ?_
  refine own_bipush (pc' := 56) (z := (15 : Int32)) X43 hx (hb hby own_d3_54) rfl rfl ?_
  have hq45 := (own_step H39 (by decide) (by omega)).1
  rw [hx44] at hq45
  refine own_icmpNo (pc' := 59) X43 hx (hb hby own_d3_56) rfl (tlt (own_lt15 (own_nb_lt (by decide) _).1 hq45)).2.1 ?_
  refine own_aloadN (pc' := 60) X43 hx (hb hby own_d3_59) rfl rfl rfl ?_
  refine own_iload (pc' := 62) X43 hx (hb hby own_d3_60) rfl rfl ?_
  refine own_iload (pc' := 64) X43 hx (hb hby own_d3_62) rfl rfl ?_
  refine own_iconst (pc' := 65) (z := (1 : Int32)) X43 hx (hb hby own_d3_64) rfl rfl ?_
  refine own_iload (pc' := 67) X43 hx (hb hby own_d3_65) rfl rfl ?_
  refine own_ishl (pc' := 68) (z := ((1 : Int32) <<< ((Int32.ofNat (4 * own_nb 1 (own_spread p))) &&& 31))) X43 hx (hb hby own_d3_67) rfl rfl ?_
  refine own_iadd (pc' := 69) (z := (x44 + ((1 : Int32) <<< ((Int32.ofNat (4 * own_nb 1 (own_spread p))) &&& 31)))) X43 hx (hb hby own_d3_68) rfl rfl ?_
  refine own_iastore (pc' := 70) X43 hx hZ Kq43 V37 (hb hby own_d3_69) rfl (own_in16 1 _) (own_at 1 (own_spread p)) rfl (by rw [own_LIlen, H39.1]; exact own_at_lt _ _) N43 gb ?_
  intro T46 h46 L46 X46 e46 N46 W46 V46
  have H48 := (own_step H39 (by decide) (by omega)).2
  rw [own_LIset] at V46
  rw [hx44] at H48
  obtain ⟨l47, el47⟩ : ∃ z, z = l38.set (own_at 1 (own_spread p)) (x44 + ((1 : Int32) <<< ((Int32.ofNat (4 * own_nb 1 (own_spread p))) &&& 31))) := ⟨_, rfl⟩
  rw [← el47] at V46 H48
  show own_Ends prg e below s _ _ _ T46 (mkF m 70 #[.val (.ref a), .val (.int p), .val (.ref b), .val (.int (own_spread p)), .val (.int (1 : Int32)), .val (.int (1 : Int32)), .val (.int (own_ix 1 (own_spread p))), .val (.int (Int32.ofNat (4 * own_nb 1 (own_spread p)))), .val (.int x44)] [])
  refine own_iconst (pc' := 71) (z := (1 : Int32)) X46 hx (hb hby own_d3_70) rfl rfl ?_
  refine own_istore (pc' := 73) (l' := #[.val (.ref a), .val (.int p), .val (.ref b), .val (.int (own_spread p)), .val (.int (1 : Int32)), .val (.int (1 : Int32)), .val (.int (own_ix 1 (own_spread p))), .val (.int (Int32.ofNat (4 * own_nb 1 (own_spread p)))), .val (.int x44)]) X46 hx (hb hby own_d3_71) rfl rfl ?_
  refine own_iinc (pc' := 76) (z := (2 : Int32)) (l' := #[.val (.ref a), .val (.int p), .val (.ref b), .val (.int (own_spread p)), .val (.int (1 : Int32)), .val (.int (2 : Int32)), .val (.int (own_ix 1 (own_spread p))), .val (.int (Int32.ofNat (4 * own_nb 1 (own_spread p)))), .val (.int x44)]) X46 hx (hb hby own_d3_73) rfl rfl (by decide) rfl ?_
  refine own_goto (pc' := 16) X46 hx (hb hby own_d3_76) (by decide) (by decide) ?_
  refine own_iload (pc' := 18) X46 hx (hb hby own_d3_16) rfl rfl ?_
  refine own_iconst (pc' := 19) (z := (4 : Int32)) X46 hx (hb hby own_d3_18) rfl rfl ?_
  refine own_icmpNo (pc' := 22) X46 hx (hb hby own_d3_19) rfl (tlt (by decide)).2.1 ?_
  refine own_iloadN (pc' := 23) X46 hx (hb hby own_d3_22) rfl rfl ?_
  refine own_iload (pc' := 25) X46 hx (hb hby own_d3_23) rfl rfl ?_
  refine own_aloadN (pc' := 26) X46 hx (hb hby own_d3_25) rfl rfl rfl ?_
  refine own_alen (pc' := 27) X46 hx hZ e46 V46 (hb hby own_d3_26) rfl ?_
  have f49 := (f40.wr W46)
  have f50 := (f41.other W46 hne3)
  refine own_callS (pc' := 30) (y := (⟨"com/example/larder/larder/cache/UseCounts", "index", "(III)I"⟩ : MethodName)) (W := 0) (rm := own_room5_2) (argsL := [(.int (own_spread p)), (.int (2 : Int32)), (.int (16 : Int32))]) (rest := []) X46 hx hZ e46 hown (by rw [hml]; rfl) (own_w21 hw) (own_w22 hw) (own_w2 hw) (own_w23 hw) (by decide) (own_rm5_2 lch Z a0 hw [] (own_spread p) pa pk h46 n0 f49 f50) (by decide) (by decide) (by decide) (by decide) (lenOf own_pd1 rfl) rfl (by exact Nat.le_of_eq rfl) (hb hby own_d3_27) rfl ?_
  intro T51 Lc51 v51 X51 hQ51
  obtain ⟨rfl, Nq51, Kq51⟩ := hQ51
  have N51 := Fr.app N46 Nq51
  show own_Ends prg e below s _ _ _ T51 (mkF m 30 #[.val (.ref a), .val (.int p), .val (.ref b), .val (.int (own_spread p)), .val (.int (1 : Int32)), .val (.int (2 : Int32)), .val (.int (own_ix 1 (own_spread p))), .val (.int (Int32.ofNat (4 * own_nb 1 (own_spread p)))), .val (.int x44)] [(.int (own_ix 2 (own_spread p)))])
  refine own_istore (pc' := 32) (l' := #[.val (.ref a), .val (.int p), .val (.ref b), .val (.int (own_spread p)), .val (.int (1 : Int32)), .val (.int (2 : Int32)), .val (.int (own_ix 2 (own_spread p))), .val (.int (Int32.ofNat (4 * own_nb 1 (own_spread p)))), .val (.int x44)]) X51 hx (hb hby own_d3_30) rfl rfl ?_
  refine own_iloadN (pc' := 33) X51 hx (hb hby own_d3_32) rfl rfl ?_
  refine own_iload (pc' := 35) X51 hx (hb hby own_d3_33) rfl rfl ?_
  refine own_callS (pc' := 38) (y := (⟨"com/example/larder/larder/cache/UseCounts", "shift", "(II)I"⟩ : MethodName)) (W := 0) (rm := own_room6_2) (argsL := [(.int (own_spread p)), (.int (2 : Int32))]) (rest := []) X51 hx hZ Kq51 hown (by rw [hml]; rfl) (own_w26 hw) (own_w27 hw) (own_w2 hw) (own_w28 hw) (by decide) (own_rm6_2 lch Z a0 hw [] (own_spread p) h46 n0) (by decide) (by decide) (by decide) (by decide) (lenOf own_pd2 rfl) rfl (by exact Nat.le_of_eq rfl) (hb hby own_d3_35) rfl ?_
  intro T52 Lc52 v52 X52 hQ52
  obtain ⟨rfl, Nq52, Kq52⟩ := hQ52
  have N52 := Fr.app N51 Nq52
  show own_Ends prg e below s _ _ _ T52 (mkF m 38 #[.val (.ref a), .val (.int p), .val (.ref b), .val (.int (own_spread p)), .val (.int (1 : Int32)), .val (.int (2 : Int32)), .val (.int (own_ix 2 (own_spread p))), .val (.int (Int32.ofNat (4 * own_nb 1 (own_spread p)))), .val (.int x44)] [(.int (Int32.ofNat (4 * own_nb 2 (own_spread p))))])
  refine own_istore (pc' := 40) (l' := #[.val (.ref a), .val (.int p), .val (.ref b), .val (.int (own_spread p)), .val (.int (1 : Int32)), .val (.int (2 : Int32)), .val (.int (own_ix 2 (own_spread p))), .val (.int (Int32.ofNat (4 * own_nb 2 (own_spread p)))), .val (.int x44)]) X52 hx (hb hby own_d3_38) rfl rfl ?_
  refine own_aloadN (pc' := 41) X52 hx (hb hby own_d3_40) rfl rfl rfl ?_
  refine own_iload (pc' := 43) X52 hx (hb hby own_d3_41) rfl rfl ?_
  obtain ⟨x53, hx53⟩ : ∃ z, l47.getD (own_at 2 (own_spread p)) 0 = z := ⟨_, rfl⟩
  refine own_iaload (pc' := 44) (v := (.int x53)) X52 hx hZ Kq52 V46 (hb hby own_d3_43) rfl (own_in16 2 _) ((own_LIget _ _).trans (congrArg Value.int hx53)) ?_
  refine own_istore (pc' := 46) (l' := #[.val (.ref a), .val (.int p), .val (.ref b), .val (.int (own_spread p)), .val (.int (1 : Int32)), .val (.int (2 : Int32)), .val (.int (own_ix 2 (own_spread p))), .val (.int (Int32.ofNat (4 * own_nb 2 (own_spread p)))), .val (.int x53)]) X52 hx (hb hby own_d3_44) rfl rfl ?_
  refine own_iload (pc' := 48) X52 hx (hb hby own_d3_46) rfl rfl ?_
  refine own_iload (pc' := 50) X52 hx (hb hby own_d3_48) rfl rfl ?_
  refine own_iushr (pc' := 51) (z := (own_ushr x53 (Int32.ofNat (4 * own_nb 2 (own_spread p))))) X52 hx (hb hby own_d3_50) rfl rfl ?_
  refine own_bipush (pc' := 53) (z := (15 : Int32)) X52 hx (hb hby own_d3_51) rfl rfl ?_
  refine own_iand (pc' := 54) (z := ((own_ushr x53 (Int32.ofNat (4 * own_nb 2 (own_spread p)))) &&& (15 : Int32))) X52 hx (hb hby own_d3_53) rfl rfl ?_
  refine own_bipush (pc' := 56) (z := (15 : Int32)) X52 hx (hb hby own_d3_54) rfl rfl ?_
  have hq54 := (own_step H48 (by decide) (by omega)).1
  rw [hx53] at hq54
  refine own_icmpNo (pc' := 59) X52 hx (hb hby own_d3_56) rfl (tlt (own_lt15 (own_nb_lt (by decide) _).1 hq54)).2.1 ?_
  refine own_aloadN (pc' := 60) X52 hx (hb hby own_d3_59) rfl rfl rfl ?_
  refine own_iload (pc' := 62) X52 hx (hb hby own_d3_60) rfl rfl ?_
  refine own_iload (pc' := 64) X52 hx (hb hby own_d3_62) rfl rfl ?_
  refine own_iconst (pc' := 65) (z := (1 : Int32)) X52 hx (hb hby own_d3_64) rfl rfl ?_
  refine own_iload (pc' := 67) X52 hx (hb hby own_d3_65) rfl rfl ?_
  refine own_ishl (pc' := 68) (z := ((1 : Int32) <<< ((Int32.ofNat (4 * own_nb 2 (own_spread p))) &&& 31))) X52 hx (hb hby own_d3_67) rfl rfl ?_
  refine own_iadd (pc' := 69) (z := (x53 + ((1 : Int32) <<< ((Int32.ofNat (4 * own_nb 2 (own_spread p))) &&& 31)))) X52 hx (hb hby own_d3_68) rfl rfl ?_
  refine own_iastore (pc' := 70) X52 hx hZ Kq52 V46 (hb hby own_d3_69) rfl (own_in16 2 _) (own_at 2 (own_spread p)) rfl (by rw [own_LIlen, H48.1]; exact own_at_lt _ _) N52 gb ?_
  intro T55 h55 L55 X55 e55 N55 W55 V55
  have H57 := (own_step H48 (by decide) (by omega)).2
  rw [own_LIset] at V55
  rw [hx53] at H57
  obtain ⟨l56, el56⟩ : ∃ z, z = l47.set (own_at 2 (own_spread p)) (x53 + ((1 : Int32) <<< ((Int32.ofNat (4 * own_nb 2 (own_spread p))) &&& 31))) := ⟨_, rfl⟩
  rw [← el56] at V55 H57
  show own_Ends prg e below s _ _ _ T55 (mkF m 70 #[.val (.ref a), .val (.int p), .val (.ref b), .val (.int (own_spread p)), .val (.int (1 : Int32)), .val (.int (2 : Int32)), .val (.int (own_ix 2 (own_spread p))), .val (.int (Int32.ofNat (4 * own_nb 2 (own_spread p)))), .val (.int x53)] [])
  refine own_iconst (pc' := 71) (z := (1 : Int32)) X55 hx (hb hby own_d3_70) rfl rfl ?_
  refine own_istore (pc' := 73) (l' := #[.val (.ref a), .val (.int p), .val (.ref b), .val (.int (own_spread p)), .val (.int (1 : Int32)), .val (.int (2 : Int32)), .val (.int (own_ix 2 (own_spread p))), .val (.int (Int32.ofNat (4 * own_nb 2 (own_spread p)))), .val (.int x53)]) X55 hx (hb hby own_d3_71) rfl rfl ?_
  refine own_iinc (pc' := 76) (z := (3 : Int32)) (l' := #[.val (.ref a), .val (.int p), .val (.ref b), .val (.int (own_spread p)), .val (.int (1 : Int32)), .val (.int (3 : Int32)), .val (.int (own_ix 2 (own_spread p))), .val (.int (Int32.ofNat (4 * own_nb 2 (own_spread p)))), .val (.int x53)]) X55 hx (hb hby own_d3_73) rfl rfl (by decide) rfl ?_
  refine own_goto (pc' := 16) X55 hx (hb hby own_d3_76) (by decide) (by decide) ?_
  refine own_iload (pc' := 18) X55 hx (hb hby own_d3_16) rfl rfl ?_
  refine own_iconst (pc' := 19) (z := (4 : Int32)) X55 hx (hb hby own_d3_18) rfl rfl ?_
  refine own_icmpNo (pc' := 22) X55 hx (hb hby own_d3_19) rfl (tlt (by decide)).2.1 ?_
  refine own_iloadN (pc' := 23) X55 hx (hb hby own_d3_22) rfl rfl ?_
  refine own_iload (pc' := 25) X55 hx (hb hby own_d3_23) rfl rfl ?_
  refine own_aloadN (pc' := 26) X55 hx (hb hby own_d3_25) rfl rfl rfl ?_
  refine own_alen (pc' := 27) X55 hx hZ e55 V55 (hb hby own_d3_26) rfl ?_
  have f58 := (f49.wr W55)
  have f59 := (f50.other W55 hne3)
  refine own_callS (pc' := 30) (y := (⟨"com/example/larder/larder/cache/UseCounts", "index", "(III)I"⟩ : MethodName)) (W := 0) (rm := own_room5_3) (argsL := [(.int (own_spread p)), (.int (3 : Int32)), (.int (16 : Int32))]) (rest := []) X55 hx hZ e55 hown (by rw [hml]; rfl) (own_w21 hw) (own_w22 hw) (own_w2 hw) (own_w23 hw) (by decide) (own_rm5_3 lch Z a0 hw [] (own_spread p) pa pk h55 n0 f58 f59) (by decide) (by decide) (by decide) (by decide) (lenOf own_pd1 rfl) rfl (by exact Nat.le_of_eq rfl) (hb hby own_d3_27) rfl ?_
  intro T60 Lc60 v60 X60 hQ60
  obtain ⟨rfl, Nq60, Kq60⟩ := hQ60
  have N60 := Fr.app N55 Nq60
  show own_Ends prg e below s _ _ _ T60 (mkF m 30 #[.val (.ref a), .val (.int p), .val (.ref b), .val (.int (own_spread p)), .val (.int (1 : Int32)), .val (.int (3 : Int32)), .val (.int (own_ix 2 (own_spread p))), .val (.int (Int32.ofNat (4 * own_nb 2 (own_spread p)))), .val (.int x53)] [(.int (own_ix 3 (own_spread p)))])
  refine own_istore (pc' := 32) (l' := #[.val (.ref a), .val (.int p), .val (.ref b), .val (.int (own_spread p)), .val (.int (1 : Int32)), .val (.int (3 : Int32)), .val (.int (own_ix 3 (own_spread p))), .val (.int (Int32.ofNat (4 * own_nb 2 (own_spread p)))), .val (.int x53)]) X60 hx (hb hby own_d3_30) rfl rfl ?_
  refine own_iloadN (pc' := 33) X60 hx (hb hby own_d3_32) rfl rfl ?_
  refine own_iload (pc' := 35) X60 hx (hb hby own_d3_33) rfl rfl ?_
  refine own_callS (pc' := 38) (y := (⟨"com/example/larder/larder/cache/UseCounts", "shift", "(II)I"⟩ : MethodName)) (W := 0) (rm := own_room6_3) (argsL := [(.int (own_spread p)), (.int (3 : Int32))]) (rest := []) X60 hx hZ Kq60 hown (by rw [hml]; rfl) (own_w26 hw) (own_w27 hw) (own_w2 hw) (own_w28 hw) (by decide) (own_rm6_3 lch Z a0 hw [] (own_spread p) h55 n0) (by decide) (by decide) (by decide) (by decide) (lenOf own_pd2 rfl) rfl (by exact Nat.le_of_eq rfl) (hb hby own_d3_35) rfl ?_
  intro T61 Lc61 v61 X61 hQ61
  obtain ⟨rfl, Nq61, Kq61⟩ := hQ61
  have N61 := Fr.app N60 Nq61
  show own_Ends prg e below s _ _ _ T61 (mkF m 38 #[.val (.ref a), .val (.int p), .val (.ref b), .val (.int (own_spread p)), .val (.int (1 : Int32)), .val (.int (3 : Int32)), .val (.int (own_ix 3 (own_spread p))), .val (.int (Int32.ofNat (4 * own_nb 2 (own_spread p)))), .val (.int x53)] [(.int (Int32.ofNat (4 * own_nb 3 (own_spread p))))])
  refine own_istore (pc' := 40) (l' := #[.val (.ref a), .val (.int p), .val (.ref b), .val (.int (own_spread p)), .val (.int (1 : Int32)), .val (.int (3 : Int32)), .val (.int (own_ix 3 (own_spread p))), .val (.int (Int32.ofNat (4 * own_nb 3 (own_spread p)))), .val (.int x53)]) X61 hx (hb hby own_d3_38) rfl rfl ?_
  refine own_aloadN (pc' := 41) X61 hx (hb hby own_d3_40) rfl rfl rfl ?_
  refine own_iload (pc' := 43) X61 hx (hb hby own_d3_41) rfl rfl ?_
  obtain ⟨x62, hx62⟩ : ∃ z, l56.getD (own_at 3 (own_spread p)) 0 = z := ⟨_, rfl⟩
  refine own_iaload (pc' := 44) (v := (.int x62)) X61 hx hZ Kq61 V55 (hb hby own_d3_43) rfl (own_in16 3 _) ((own_LIget _ _).trans (congrArg Value.int hx62)) ?_
  refine own_istore (pc' := 46) (l' := #[.val (.ref a), .val (.int p), .val (.ref b), .val (.int (own_spread p)), .val (.int (1 : Int32)), .val (.int (3 : Int32)), .val (.int (own_ix 3 (own_spread p))), .val (.int (Int32.ofNat (4 * own_nb 3 (own_spread p)))), .val (.int x62)]) X61 hx (hb hby own_d3_44) rfl rfl ?_
  refine own_iload (pc' := 48) X61 hx (hb hby own_d3_46) rfl rfl ?_
  refine own_iload (pc' := 50) X61 hx (hb hby own_d3_48) rfl rfl ?_
  refine own_iushr (pc' := 51) (z := (own_ushr x62 (Int32.ofNat (4 * own_nb 3 (own_spread p))))) X61 hx (hb hby own_d3_50) rfl rfl ?_
  refine own_bipush (pc' := 53) (z := (15 : Int32)) X61 hx (hb hby own_d3_51) rfl rfl ?_
  refine own_iand (pc' := 54) (z := ((own_ushr x62 (Int32.ofNat (4 * own_nb 3 (own_spread p)))) &&& (15 : Int32))) X61 hx (hb hby own_d3_53) rfl rfl ?_
  refine own_bipush (pc' := 56) (z := (15 : Int32)) X61 hx (hb hby own_d3_54) rfl rfl ?_
  have hq63 := (own_step H57 (by decide) (by omega)).1
  rw [hx62] at hq63
  refine own_icmpNo (pc' := 59) X61 hx (hb hby own_d3_56) rfl (tlt (own_lt15 (own_nb_lt (by decide) _).1 hq63)).2.1 ?_
  refine own_aloadN (pc' := 60) X61 hx (hb hby own_d3_59) rfl rfl rfl ?_
  refine own_iload (pc' := 62) X61 hx (hb hby own_d3_60) rfl rfl ?_
  refine own_iload (pc' := 64) X61 hx (hb hby own_d3_62) rfl rfl ?_
  refine own_iconst (pc' := 65) (z := (1 : Int32)) X61 hx (hb hby own_d3_64) rfl rfl ?_
  refine own_iload (pc' := 67) X61 hx (hb hby own_d3_65) rfl rfl ?_
  refine own_ishl (pc' := 68) (z := ((1 : Int32) <<< ((Int32.ofNat (4 * own_nb 3 (own_spread p))) &&& 31))) X61 hx (hb hby own_d3_67) rfl rfl ?_
  refine own_iadd (pc' := 69) (z := (x62 + ((1 : Int32) <<< ((Int32.ofNat (4 * own_nb 3 (own_spread p))) &&& 31)))) X61 hx (hb hby own_d3_68) rfl rfl ?_
  refine own_iastore (pc' := 70) X61 hx hZ Kq61 V55 (hb hby own_d3_69) rfl (own_in16 3 _) (own_at 3 (own_spread p)) rfl (by rw [own_LIlen, H57.1]; exact own_at_lt _ _) N61 gb ?_
  intro T64 h64 L64 X64 e64 N64 W64 V64
  have H66 := (own_step H57 (by decide) (by omega)).2
  rw [own_LIset] at V64
  rw [hx62] at H66
  obtain ⟨l65, el65⟩ : ∃ z, z = l56.set (own_at 3 (own_spread p)) (x62 + ((1 : Int32) <<< ((Int32.ofNat (4 * own_nb 3 (own_spread p))) &&& 31))) := ⟨_, rfl⟩
  rw [← el65] at V64 H66
  show own_Ends prg e below s _ _ _ T64 (mkF m 70 #[.val (.ref a), .val (.int p), .val (.ref b), .val (.int (own_spread p)), .val (.int (1 : Int32)), .val (.int (3 : Int32)), .val (.int (own_ix 3 (own_spread p))), .val (.int (Int32.ofNat (4 * own_nb 3 (own_spread p)))), .val (.int x62)] [])
  refine own_iconst (pc' := 71) (z := (1 : Int32)) X64 hx (hb hby own_d3_70) rfl rfl ?_
  refine own_istore (pc' := 73) (l' := #[.val (.ref a), .val (.int p), .val (.ref b), .val (.int (own_spread p)), .val (.int (1 : Int32)), .val (.int (3 : Int32)), .val (.int (own_ix 3 (own_spread p))), .val (.int (Int32.ofNat (4 * own_nb 3 (own_spread p)))), .val (.int x62)]) X64 hx (hb hby own_d3_71) rfl rfl ?_
  refine own_iinc (pc' := 76) (z := (4 : Int32)) (l' := #[.val (.ref a), .val (.int p), .val (.ref b), .val (.int (own_spread p)), .val (.int (1 : Int32)), .val (.int (4 : Int32)), .val (.int (own_ix 3 (own_spread p))), .val (.int (Int32.ofNat (4 * own_nb 3 (own_spread p)))), .val (.int x62)]) X64 hx (hb hby own_d3_73) rfl rfl (by decide) rfl ?_
  refine own_goto (pc' := 16) X64 hx (hb hby own_d3_76) (by decide) (by decide) ?_
  refine own_iload (pc' := 18) X64 hx (hb hby own_d3_16) rfl rfl ?_
  refine own_iconst (pc' := 19) (z := (4 : Int32)) X64 hx (hb hby own_d3_18) rfl rfl ?_
  refine own_icmpYes (pc' := 79) X64 hx (hb hby own_d3_19) (flt (by decide)).2.1 (by decide) (by decide) ?_
  refine own_iload (pc' := 81) X64 hx (hb hby own_d3_79) rfl rfl ?_
  refine own_ifNo (pc' := 84) X64 hx (hb hby own_d3_81) rfl (feq (by decide)).1 ?_
  refine own_aloadN (pc' := 85) X64 hx (hb hby own_d3_84) rfl rfl rfl ?_
  refine own_dup (pc' := 86) X64 hx (hb hby own_d3_85) rfl rfl ?_
  have f67 := ((((FA.other W37 (Or.inl hne)).other W46 (Or.inl hne)).other W55 (Or.inl hne)).other W64 (Or.inl hne))
  obtain ⟨T68, X68, e68, st68⟩ := getF X64 hx hZ hown (host := "") (Or.inl (own_w29 hw)) Via.refl e64 f67 (g := (mkF m 86 #[.val (.ref a), .val (.int p), .val (.ref b), .val (.int (own_spread p)), .val (.int (1 : Int32)), .val (.int (4 : Int32)), .val (.int (own_ix 3 (own_spread p))), .val (.int (Int32.ofNat (4 * own_nb 3 (own_spread p)))), .val (.int x62)] [(.ref a), (.ref a)])) rfl rfl (hb hby own_d3_86)
  refine own_go st68 ?_
  show own_Ends prg e below s _ _ _ T68 (mkF m 89 #[.val (.ref a), .val (.int p), .val (.ref b), .val (.int (own_spread p)), .val (.int (1 : Int32)), .val (.int (4 : Int32)), .val (.int (own_ix 3 (own_spread p))), .val (.int (Int32.ofNat (4 * own_nb 3 (own_spread p)))), .val (.int x62)] [(.int n), (.ref a)])
  refine own_iconst (pc' := 90) (z := (1 : Int32)) X68 hx (hb hby own_d3_89) rfl rfl ?_
  refine own_iadd (pc' := 91) (z := (n + (1 : Int32))) X68 hx (hb hby own_d3_90) rfl rfl ?_
  have f69 := ((((E0.wr W37).wr W46).wr W55).wr W64)
  obtain ⟨T70, h70, X70, e70, W70, st70⟩ := putF X68 hx hZ hown (host := "") (Or.inl (own_w29 hw)) Via.refl e68 f67 f69 (Or.inl (own_w30 hw)) (own_w1 hw) (ty := .int) (by decide) rfl rfl (g := (mkF m 91 #[.val (.ref a), .val (.int p), .val (.ref b), .val (.int (own_spread p)), .val (.int (1 : Int32)), .val (.int (4 : Int32)), .val (.int (own_ix 3 (own_spread p))), .val (.int (Int32.ofNat (4 * own_nb 3 (own_spread p)))), .val (.int x62)] [(.int (n + (1 : Int32))), (.ref a)])) rfl rfl (hb hby own_d3_91)
  refine own_go st70 ?_
  have Fw70 := f67.same W70
  have N70 := Fr.snoc X70 N64 ga
  show own_Ends prg e below s _ _ _ T70 (mkF m 94 #[.val (.ref a), .val (.int p), .val (.ref b), .val (.int (own_spread p)), .val (.int (1 : Int32)), .val (.int (4 : Int32)), .val (.int (own_ix 3 (own_spread p))), .val (.int (Int32.ofNat (4 * own_nb 3 (own_spread p)))), .val (.int x62)] [])
  refine own_aloadN (pc' := 95) X70 hx (hb hby own_d3_94) rfl rfl rfl ?_
  obtain ⟨T71, X71, e71, st71⟩ := getF X70 hx hZ hown (host := "") (Or.inl (own_w29 hw)) Via.refl e70 Fw70 (g := (mkF m 95 #[.val (.ref a), .val (.int p), .val (.ref b), .val (.int (own_spread p)), .val (.int (1 : Int32)), .val (.int (4 : Int32)), .val (.int (own_ix 3 (own_spread p))), .val (.int (Int32.ofNat (4 * own_nb 3 (own_spread p)))), .val (.int x62)] [(.ref a)])) rfl rfl (hb hby own_d3_95)
  refine own_go st71 ?_
  show own_Ends prg e below s _ _ _ T71 (mkF m 98 #[.val (.ref a), .val (.int p), .val (.ref b), .val (.int (own_spread p)), .val (.int (1 : Int32)), .val (.int (4 : Int32)), .val (.int (own_ix 3 (own_spread p))), .val (.int (Int32.ofNat (4 * own_nb 3 (own_spread p)))), .val (.int x62)] [(.int (n + (1 : Int32)))])
  refine own_aloadN (pc' := 99) X71 hx (hb hby own_d3_98) rfl rfl rfl ?_
  have f72 := (V64.other W70 (Ne.symm hne))
  refine own_alen (pc' := 100) X71 hx hZ e71 f72 (hb hby own_d3_99) rfl ?_
  refine own_iconst (pc' := 101) (z := (5 : Int32)) X71 hx (hb hby own_d3_100) rfl rfl ?_
  refine own_imul (pc' := 102) (z := (80 : Int32)) X71 hx (hb hby own_d3_101) rfl (by decide) ?_
  refine own_icmpYes (pc' := 110) X71 hx (hb hby own_d3_102) (tlt (own_lt80 hn)).1 (by decide) (by decide) ?_
  refine own_retV X71 hx hlk hret (hb hby own_d3_110) (by decide) (by decide) ?_
  have f73 := (((((K0.wr W37 (Or.inl (List.mem_of_getElem? (i := 1) rfl))).wr W46 (Or.inl (List.mem_of_getElem? (i := 1) rfl))).wr W55 (Or.inl (List.mem_of_getElem? (i := 1) rfl))).wr W64 (Or.inl (List.mem_of_getElem? (i := 1) rfl))).wr W70 (Or.inl (List.mem_of_getElem? (i := 0) rfl)))
  have f74 := (((((FT.other W37 (Or.inl hne)).other W46 (Or.inl hne)).other W55 (Or.inl hne)).other W64 (Or.inl hne)).other W70 (Or.inr (slot_ne (Or.inl (own_w11 hw)) (Or.inl (own_w30 hw)) (by decide) (t := (.array .int)) (t' := .int) (by decide) (by decide))))
  rw [e71]; exact ⟨l65, rfl, N70, f73, f74, Fw70, f72, own_rep4 H66⟩
def own_room7 : Room := { frames := 1, cells := 0, slots := 0, locals := 16 }
def own_Q7 (Z : State) (a : Addr) (p : Int32) (pa : Addr) (pk : ClassId) (b : Addr) (bk : ClassId) (n : Int32) (l : List Int32) (ks : List Int32) (h0 : Heap) (n0 : Nat) (v : Option Value) (h : Heap) (L : List Loc) : Prop := ∃ (r : Int32), v = some (.int r) ∧ Fr n0 L ∧ h = h0 ∧ ((own_same ks (own_spread p) : Int) ≤ r.toInt ∧ r.toInt ≤ (ks.length : Int))
theorem own_ef_rm7 (m : MethodId) (x0 : Addr) (x1 : Int32) : entryFrame m #[(.ref x0), (.int x1)] 7 = mkF m 0 #[.val (.ref x0), .val (.int x1), .unset, .unset, .unset, .unset, .unset] [] := by first | (simp [entryFrame, mkF, argsToLocals, Value.category]; done) | rfl
set_option maxRecDepth 65536 in
set_option maxHeartbeats 40000000 in
theorem own_rm7 (lch : Launch) (Z : State) (a0 : Array Value) (hw : ∀ d ∈ tables_1, d.before a0 Z = true) (ws : List Jvm.Cond) (a : Addr) (p : Int32) (pa : Addr) (pk : ClassId) (b : Addr) (bk : ClassId) (n : Int32) (l : List Int32) (ks : List Int32) (h0 : Heap) (n0 : Nat) (E0 : Exa Z h0 a "com/example/larder/larder/cache/UseCounts") (FT : Fld Z h0 a "com/example/larder/larder/cache/UseCounts" "table" "[I" (.ref b)) (FA : Fld Z h0 a "com/example/larder/larder/cache/UseCounts" "additions" "I" (.int n)) (VT : Arv Z h0 b bk .int (16 : Int32) (own_LI l) (.int (0 : Int32))) (HR : own_rep l ks) (hk : ks.length ≤ 5) (hn : 0 ≤ n.toInt ∧ n.toInt ≤ 10) (ga : n0 ≤ a) (gb : n0 ≤ b) (hne : a ≠ b) (hne2 : pa ≠ a) (hne3 : pa ≠ b) (S0 : Sta Z h0 "com/example/larder/larder/cache/UseCounts" "SEEDS" "[I" (.ref pa)) (VS : Arv Z h0 pa pk .int (4 : Int32) [(.int (-1640531535 : Int32)), (.int (-2048144777 : Int32)), (.int (-1028477379 : Int32)), (.int (668265263 : Int32))] (.int (0 : Int32))) :
    MetFree lch (⟨"com/example/larder/larder/cache/UseCounts", "of", "(I)I"⟩ : MethodName) (head1 (Jvm.Cond.code (⟨"com/example/larder/larder/cache/UseCounts", "of", "(I)I"⟩ : MethodName) prog_11_method_3_code 7 (some .int) :: ws) own_room7) (fun zz U => zz = #[(.ref a), (.int p)] ∧ Z.Warmed39 U.vm ∧ U.heap = h0) (fun _ _ _ _ _ => True) (fun _ U o U' => ∃ v L, o = .returned v ∧ own_Q7 Z a p pa pk b bk n l ks h0 n0 v U'.heap L ∧ FrameEnd U o U' L own_room7.cells own_room7.slots) := by
  refine MetFree.of_bodySF (plainFor_of_name own_pn0) hisR ?_
  intro prg e s m args below meth c s₁ Bd hml0 hP hK
  obtain ⟨rfl, hZ, hh⟩ := hP
  have hx := Bd.exec
  have hby := Bd.bytes
  have hml : c.maxLocals = 7 := hml0
  have hown : s.vm.findClass "com/example/larder/larder/cache/UseCounts" = some m.cls := findClass_of_methodNamed Bd.named
  have hnm := (name_of_methodNamed Bd.named Bd.method).1
  have hlk : meth.locks = false := BodyLoose.notSynchronized Bd
  have hret := Bd.returns
  have X0 : Stand prg lch e own_room7 s m #[(.ref a), (.int p)] below meth c s₁ [] 0 0 := Stand.of_body Bd
  have e0 : s₁.heap = h0 := by rw [← hh, Bd.state]; rfl
  have N0 := Fr.nil n0
  show own_Ends prg e below s (own_Q7 Z a p pa pk b bk n l ks h0 n0) own_room7.cells own_room7.slots s₁ (entryFrame m #[(.ref a), (.int p)] 7)
  refine own_cast (own_ef_rm7 m a p) ?_
  refine own_aloadN (pc' := 1) X0 hx (hb hby own_d7_0) rfl rfl rfl ?_
  obtain ⟨T31, X31, e31, st31⟩ := getF X0 hx hZ hown (host := "") (Or.inl (own_w10 hw)) Via.refl e0 FT (g := (mkF m 1 #[.val (.ref a), .val (.int p), .unset, .unset, .unset, .unset, .unset] [(.ref a)])) rfl rfl (hb hby own_d7_1)
  refine own_go st31 ?_
  show own_Ends prg e below s _ _ _ T31 (mkF m 4 #[.val (.ref a), .val (.int p), .unset, .unset, .unset, .unset, .unset] [(.ref b)])
  refine own_astoreN (pc' := 5) (l' := #[.val (.ref a), .val (.int p), .val (.ref b), .unset, .unset, .unset, .unset]) X31 hx (hb hby own_d7_4) rfl rfl rfl ?_
  refine own_iloadN (pc' := 6) X31 hx (hb hby own_d7_5) rfl rfl ?_
  refine own_callS (pc' := 9) (y := (⟨"com/example/larder/larder/cache/UseCounts", "spread", "(I)I"⟩ : MethodName)) (W := 0) (rm := own_room4) (argsL := [(.int p)]) (rest := []) X31 hx hZ e31 hown (by rw [hml]; rfl) (own_w17 hw) (own_w18 hw) (own_w2 hw) (own_w19 hw) (by decide) (own_rm4 lch Z a0 hw [] p h0 n0) (by decide) (by decide) (by decide) (by decide) (lenOf own_pd0 rfl) rfl (by exact Nat.le_of_eq rfl) (hb hby own_d7_6) rfl ?_
  intro T32 Lc32 v32 X32 hQ32
  obtain ⟨rfl, Nq32, Kq32⟩ := hQ32
  have N32 := Fr.app N0 Nq32
  show own_Ends prg e below s _ _ _ T32 (mkF m 9 #[.val (.ref a), .val (.int p), .val (.ref b), .unset, .unset, .unset, .unset] [(.int (own_spread p))])
  refine own_istoreN (pc' := 10) (l' := #[.val (.ref a), .val (.int p), .val (.ref b), .val (.int (own_spread p)), .unset, .unset, .unset]) X32 hx (hb hby own_d7_9) rfl rfl ?_
  refine own_bipush (pc' := 12) (z := (15 : Int32)) X32 hx (hb hby own_d7_10) rfl rfl ?_
  refine own_istore (pc' := 14) (l' := #[.val (.ref a), .val (.int p), .val (.ref b), .val (.int (own_spread p)), .val (.int (15 : Int32)), .unset, .unset]) X32 hx (hb hby own_d7_12) rfl rfl ?_
  refine own_iconst (pc' := 15) (z := (0 : Int32)) X32 hx (hb hby own_d7_14) rfl rfl ?_
  refine own_istore (pc' := 17) (l' := #[.val (.ref a), .val (.int p), .val (.ref b), .val (.int (own_spread p)), .val (.int (15 : Int32)), .val (.int (0 : Int32)), .unset]) X32 hx (hb hby own_d7_15) rfl rfl ?_
  refine own_iload (pc' := 19) X32 hx (hb hby own_d7_17) rfl rfl ?_
  refine own_iconst (pc' := 20) (z := (4 : Int32)) X32 hx (hb hby own_d7_19) rfl rfl ?_
  refine own_icmpNo (pc' := 23) X32 hx (hb hby own_d7_20) rfl (tlt (by decide)).2.1 ?_
  refine own_aloadN (pc' := 24) X32 hx (hb hby own_d7_23) rfl rfl rfl ?_
  refine own_iloadN (pc' := 25) X32 hx (hb hby own_d7_24) rfl rfl ?_
  refine own_iload (pc' := 27) X32 hx (hb hby own_d7_25) rfl rfl ?_
  refine own_aloadN (pc' := 28) X32 hx (hb hby own_d7_27) rfl rfl rfl ?_
  refine own_alen (pc' := 29) X32 hx hZ Kq32 VT (hb hby own_d7_28) rfl ?_
  refine own_callS (pc' := 32) (y := (⟨"com/example/larder/larder/cache/UseCounts", "index", "(III)I"⟩ : MethodName)) (W := 1) (rm := own_room5_0) (argsL := [(.int (own_spread p)), (.int (0 : Int32)), (.int (16 : Int32))]) (rest := [(.ref b)]) X32 hx hZ Kq32 hown (by rw [hml]; rfl) (own_w21 hw) (own_w22 hw) (own_w2 hw) (own_w23 hw) (by decide) (own_rm5_0 lch Z a0 hw [] (own_spread p) pa pk h0 n0 S0 VS) (by decide) (by decide) (by decide) (by decide) (lenOf own_pd1 rfl) rfl (by exact Nat.le_of_eq rfl) (hb hby own_d7_29) rfl ?_
  intro T33 Lc33 v33 X33 hQ33
  obtain ⟨rfl, Nq33, Kq33⟩ := hQ33
  have N33 := Fr.app N32 Nq33
  show own_Ends prg e below s _ _ _ T33 (mkF m 32 #[.val (.ref a), .val (.int p), .val (.ref b), .val (.int (own_spread p)), .val (.int (15 : Int32)), .val (.int (0 : Int32)), .unset] [(.int (own_ix 0 (own_spread p))), (.ref b)])
  obtain ⟨x34, hx34⟩ : ∃ z, l.getD (own_at 0 (own_spread p)) 0 = z := ⟨_, rfl⟩
  refine own_iaload (pc' := 33) (v := (.int x34)) X33 hx hZ Kq33 VT (hb hby own_d7_32) rfl (own_in16 0 _) ((own_LIget _ _).trans (congrArg Value.int hx34)) ?_
  refine own_istore (pc' := 35) (l' := #[.val (.ref a), .val (.int p), .val (.ref b), .val (.int (own_spread p)), .val (.int (15 : Int32)), .val (.int (0 : Int32)), .val (.int x34)]) X33 hx (hb hby own_d7_33) rfl rfl ?_
  refine own_iload (pc' := 37) X33 hx (hb hby own_d7_35) rfl rfl ?_
  refine own_iload (pc' := 39) X33 hx (hb hby own_d7_37) rfl rfl ?_
  refine own_iloadN (pc' := 40) X33 hx (hb hby own_d7_39) rfl rfl ?_
  refine own_iload (pc' := 42) X33 hx (hb hby own_d7_40) rfl rfl ?_
  refine own_callS (pc' := 45) (y := (⟨"com/example/larder/larder/cache/UseCounts", "shift", "(II)I"⟩ : MethodName)) (W := 2) (rm := own_room6_0) (argsL := [(.int (own_spread p)), (.int (0 : Int32))]) (rest := [(.int x34), (.int (15 : Int32))]) X33 hx hZ Kq33 hown (by rw [hml]; rfl) (own_w26 hw) (own_w27 hw) (own_w2 hw) (own_w28 hw) (by decide) (own_rm6_0 lch Z a0 hw [] (own_spread p) h0 n0) (by decide) (by decide) (by decide) (by decide) (lenOf own_pd2 rfl) rfl (by exact Nat.le_of_eq rfl) (hb hby own_d7_42) rfl ?_
  intro T35 Lc35 v35 X35 hQ35
  obtain ⟨rfl, Nq35, Kq35⟩ := hQ35
  have N35 := Fr.app N33 Nq35
  show own_Ends prg e below s _ _ _ T35 (mkF m 45 #[.val (.ref a), .val (.int p), .val (.ref b), .val (.int (own_spread p)), .val (.int (15 : Int32)), .val (.int (0 : Int32)), .val (.int x34)] [(.int (Int32.ofNat (4 * own_nb 0 (own_spread p)))), (.int x34), (.int (15 : Int32))])
  refine own_iushr (pc' := 46) (z := (own_ushr x34 (Int32.ofNat (4 * own_nb 0 (own_spread p))))) X35 hx (hb hby own_d7_45) rfl rfl ?_
  refine own_bipush (pc' := 48) (z := (15 : Int32)) X35 hx (hb hby own_d7_46) rfl rfl ?_
  refine own_iand (pc' := 49) (z := ((own_ushr x34 (Int32.ofNat (4 * own_nb 0 (own_spread p)))) &&& (15 : Int32))) X35 hx (hb hby own_d7_48) rfl rfl ?_
  refine own_callS (pc' := 52) (y := (⟨"java/lang/Math", "min", "(II)I"⟩ : MethodName)) (W := 0) (rm := own_room8) (argsL := [(.int (15 : Int32)), (.int ((own_ushr x34 (Int32.ofNat (4 * own_nb 0 (own_spread p)))) &&& (15 : Int32)))]) (rest := []) X35 hx hZ Kq35 hown (by rw [hml]; rfl) (own_w36 hw) (own_w37 hw) (own_w38 hw) (own_w39 hw) (by decide) (own_rm8 lch Z a0 hw [] (15 : Int32) ((own_ushr x34 (Int32.ofNat (4 * own_nb 0 (own_spread p)))) &&& (15 : Int32)) h0 n0) (by decide) (by decide) (by decide) (by decide) (lenOf own_pd2 rfl) rfl (by exact Nat.le_of_eq rfl) (hb hby own_d7_49) rfl ?_
  intro T36 Lc36 v36 X36 hQ36
  obtain ⟨rfl, Nq36, Kq36⟩ := hQ36
  have N36 := Fr.app N35 Nq36
  show own_Ends prg e below s _ _ _ T36 (mkF m 52 #[.val (.ref a), .val (.int p), .val (.ref b), .val (.int (own_spread p)), .val (.int (15 : Int32)), .val (.int (0 : Int32)), .val (.int x34)] [(.int (own_min (15 : Int32) ((own_ushr x34 (Int32.ofNat (4 * own_nb 0 (own_spread p)))) &&& (15 : Int32))))])
  refine own_istore (pc' := 54) (l' := #[.val (.ref a), .val (.int p), .val (.ref b), .val (.int (own_spread p)), .val (.int (own_min (15 : Int32) ((own_ushr x34 (Int32.ofNat (4 * own_nb 0 (own_spread p)))) &&& (15 : Int32)))), .val (.int (0 : Int32)), .val (.int x34)]) X36 hx (hb hby own_d7_52) rfl rfl ?_
  refine own_iinc (pc' := 57) (z := (1 : Int32)) (l' := #[.val (.ref a), .val (.int p), .val (.ref b), .val (.int (own_spread p)), .val (.int (own_min (15 : Int32) ((own_ushr x34 (Int32.ofNat (4 * own_nb 0 (own_spread p)))) &&& (15 : Int32)))), .val (.int (1 : Int32)), .val (.int x34)]) X36 hx (hb hby own_d7_54) rfl rfl (by decide) rfl ?_
  refine own_goto (pc' := 17) X36 hx (hb hby own_d7_57) (by decide) (by decide) ?_
  refine own_iload (pc' := 19) X36 hx (hb hby own_d7_17) rfl rfl ?_
  refine own_iconst (pc' := 20) (z := (4 : Int32)) X36 hx (hb hby own_d7_19) rfl rfl ?_
  refine own_icmpNo (pc' := 23) X36 hx (hb hby own_d7_20) rfl (tlt (by decide)).2.1 ?_
  refine own_aloadN (pc' := 24) X36 hx (hb hby own_d7_23) rfl rfl rfl ?_
  refine own_iloadN (pc' := 25) X36 hx (hb hby own_d7_24) rfl rfl ?_
  refine own_iload (pc' := 27) X36 hx (hb hby own_d7_25) rfl rfl ?_
  refine own_aloadN (pc' := 28) X36 hx (hb hby own_d7_27) rfl rfl rfl ?_
  refine own_alen (pc' := 29) X36 hx hZ Kq36 VT (hb hby own_d7_28) rfl ?_
  refine own_callS (pc' := 32) (y := (⟨"com/example/larder/larder/cache/UseCounts", "index", "(III)I"⟩ : MethodName)) (W := 1) (rm := own_room5_1) (argsL := [(.int (own_spread p)), (.int (1 : Int32)), (.int (16 : Int32))]) (rest := [(.ref b)]) X36 hx hZ Kq36 hown (by rw [hml]; rfl) (own_w21 hw) (own_w22 hw) (own_w2 hw) (own_w23 hw) (by decide) (own_rm5_1 lch Z a0 hw [] (own_spread p) pa pk h0 n0 S0 VS) (by decide) (by decide) (by decide) (by decide) (lenOf own_pd1 rfl) rfl (by exact Nat.le_of_eq rfl) (hb hby own_d7_29) rfl ?_
  intro T37 Lc37 v37 X37 hQ37
  obtain ⟨rfl, Nq37, Kq37⟩ := hQ37
  have N37 := Fr.app N36 Nq37
  show own_Ends prg e below s _ _ _ T37 (mkF m 32 #[.val (.ref a), .val (.int p), .val (.ref b), .val (.int (own_spread p)), .val (.int (own_min (15 : Int32) ((own_ushr x34 (Int32.ofNat (4 * own_nb 0 (own_spread p)))) &&& (15 : Int32)))), .val (.int (1 : Int32)), .val (.int x34)] [(.int (own_ix 1 (own_spread p))), (.ref b)])
  obtain ⟨x38, hx38⟩ : ∃ z, l.getD (own_at 1 (own_spread p)) 0 = z := ⟨_, rfl⟩
  refine own_iaload (pc' := 33) (v := (.int x38)) X37 hx hZ Kq37 VT (hb hby own_d7_32) rfl (own_in16 1 _) ((own_LIget _ _).trans (congrArg Value.int hx38)) ?_
  refine own_istore (pc' := 35) (l' := #[.val (.ref a), .val (.int p), .val (.ref b), .val (.int (own_spread p)), .val (.int (own_min (15 : Int32) ((own_ushr x34 (Int32.ofNat (4 * own_nb 0 (own_spread p)))) &&& (15 : Int32)))), .val (.int (1 : Int32)), .val (.int x38)]) X37 hx (hb hby own_d7_33) rfl rfl ?_
  refine own_iload (pc' := 37) X37 hx (hb hby own_d7_35) rfl rfl ?_
  refine own_iload (pc' := 39) X37 hx (hb hby own_d7_37) rfl rfl ?_
  refine own_iloadN (pc' := 40) X37 hx (hb hby own_d7_39) rfl rfl ?_
  refine own_iload (pc' := 42) X37 hx (hb hby own_d7_40) rfl rfl ?_
  refine own_callS (pc' := 45) (y := (⟨"com/example/larder/larder/cache/UseCounts", "shift", "(II)I"⟩ : MethodName)) (W := 2) (rm := own_room6_1) (argsL := [(.int (own_spread p)), (.int (1 : Int32))]) (rest := [(.int x38), (.int (own_min (15 : Int32) ((own_ushr x34 (Int32.ofNat (4 * own_nb 0 (own_spread p)))) &&& (15 : Int32))))]) X37 hx hZ Kq37 hown (by rw [hml]; rfl) (own_w26 hw) (own_w27 hw) (own_w2 hw) (own_w28 hw) (by decide) (own_rm6_1 lch Z a0 hw [] (own_spread p) h0 n0) (by decide) (by decide) (by decide) (by decide) (lenOf own_pd2 rfl) rfl (by exact Nat.le_of_eq rfl) (hb hby own_d7_42) rfl ?_
  intro T39 Lc39 v39 X39 hQ39
  obtain ⟨rfl, Nq39, Kq39⟩ := hQ39
  have N39 := Fr.app N37 Nq39
  show own_Ends prg e below s _ _ _ T39 (mkF m 45 #[.val (.ref a), .val (.int p), .val (.ref b), .val (.int (own_spread p)), .val (.int (own_min (15 : Int32) ((own_ushr x34 (Int32.ofNat (4 * own_nb 0 (own_spread p)))) &&& (15 : Int32)))), .val (.int (1 : Int32)), .val (.int x38)] [(.int (Int32.ofNat (4 * own_nb 1 (own_spread p)))), (.int x38), (.int (own_min (15 : Int32) ((own_ushr x34 (Int32.ofNat (4 * own_nb 0 (own_spread p)))) &&& (15 : Int32))))])
  refine own_iushr (pc' := 46) (z := (own_ushr x38 (Int32.ofNat (4 * own_nb 1 (own_spread p))))) X39 hx (hb hby own_d7_45) rfl rfl ?_
  refine own_bipush (pc' := 48) (z := (15 : Int32)) X39 hx (hb hby own_d7_46) rfl rfl ?_
  refine own_iand (pc' := 49) (z := ((own_ushr x38 (Int32.ofNat (4 * own_nb 1 (own_spread p)))) &&& (15 : Int32))) X39 hx (hb hby own_d7_48) rfl rfl ?_
  refine own_callS (pc' := 52) (y := (⟨"java/lang/Math", "min", "(II)I"⟩ : MethodName)) (W := 0) (rm := own_room8) (argsL := [(.int (own_min (15 : Int32) ((own_ushr x34 (Int32.ofNat (4 * own_nb 0 (own_spread p)))) &&& (15 : Int32)))), (.int ((own_ushr x38 (Int32.ofNat (4 * own_nb 1 (own_spread p)))) &&& (15 : Int32)))]) (rest := []) X39 hx hZ Kq39 hown (by rw [hml]; rfl) (own_w36 hw) (own_w37 hw) (own_w38 hw) (own_w39 hw) (by decide) (own_rm8 lch Z a0 hw [] (own_min (15 : Int32) ((own_ushr x34 (Int32.ofNat (4 * own_nb 0 (own_spread p)))) &&& (15 : Int32))) ((own_ushr x38 (Int32.ofNat (4 * own_nb 1 (own_spread p)))) &&& (15 : Int32)) h0 n0) (by decide) (by decide) (by decide) (by decide) (lenOf own_pd2 rfl) rfl (by exact Nat.le_of_eq rfl) (hb hby own_d7_49) rfl ?_
  intro T40 Lc40 v40 X40 hQ40
  obtain ⟨rfl, Nq40, Kq40⟩ := hQ40
  have N40 := Fr.app N39 Nq40
  show own_Ends prg e below s _ _ _ T40 (mkF m 52 #[.val (.ref a), .val (.int p), .val (.ref b), .val (.int (own_spread p)), .val (.int (own_min (15 : Int32) ((own_ushr x34 (Int32.ofNat (4 * own_nb 0 (own_spread p)))) &&& (15 : Int32)))), .val (.int (1 : Int32)), .val (.int x38)] [(.int (own_min (own_min (15 : Int32) ((own_ushr x34 (Int32.ofNat (4 * own_nb 0 (own_spread p)))) &&& (15 : Int32))) ((own_ushr x38 (Int32.ofNat (4 * own_nb 1 (own_spread p)))) &&& (15 : Int32))))])
  refine own_istore (pc' := 54) (l' := #[.val (.ref a), .val (.int p), .val (.ref b), .val (.int (own_spread p)), .val (.int (own_min (own_min (15 : Int32) ((own_ushr x34 (Int32.ofNat (4 * own_nb 0 (own_spread p)))) &&& (15 : Int32))) ((own_ushr x38 (Int32.ofNat (4 * own_nb 1 (own_spread p)))) &&& (15 : Int32)))), .val (.int (1 : Int32)), .val (.int x38)]) X40 hx (hb hby own_d7_52) rfl rfl ?_
  refine own_iinc (pc' := 57) (z := (2 : Int32)) (l' := #[.val (.ref a), .val (.int p), .val (.ref b), .val (.int (own_spread p)), .val (.int (own_min (own_min (15 : Int32) ((own_ushr x34 (Int32.ofNat (4 * own_nb 0 (own_spread p)))) &&& (15 : Int32))) ((own_ushr x38 (Int32.ofNat (4 * own_nb 1 (own_spread p)))) &&& (15 : Int32)))), .val (.int (2 : Int32)), .val (.int x38)]) X40 hx (hb hby own_d7_54) rfl rfl (by decide) rfl ?_
  refine own_goto (pc' := 17) X40 hx (hb hby own_d7_57) (by decide) (by decide) ?_
  refine own_iload (pc' := 19) X40 hx (hb hby own_d7_17) rfl rfl ?_
  refine own_iconst (pc' := 20) (z := (4 : Int32)) X40 hx (hb hby own_d7_19) rfl rfl ?_
  refine own_icmpNo (pc' := 23) X40 hx (hb hby own_d7_20) rfl (tlt (by decide)).2.1 ?_
  refine own_aloadN (pc' := 24) X40 hx (hb hby own_d7_23) rfl rfl rfl ?_
  refine own_iloadN (pc' := 25) X40 hx (hb hby own_d7_24) rfl rfl ?_
  refine own_iload (pc' := 27) X40 hx (hb hby own_d7_25) rfl rfl ?_
  refine own_aloadN (pc' := 28) X40 hx (hb hby own_d7_27) rfl rfl rfl ?_
  refine own_alen (pc' := 29) X40 hx hZ Kq40 VT (hb hby own_d7_28) rfl ?_
  refine own_callS (pc' := 32) (y := (⟨"com/example/larder/larder/cache/UseCounts", "index", "(III)I"⟩ : MethodName)) (W := 1) (rm := own_room5_2) (argsL := [(.int (own_spread p)), (.int (2 : Int32)), (.int (16 : Int32))]) (rest := [(.ref b)]) X40 hx hZ Kq40 hown (by rw [hml]; rfl) (own_w21 hw) (own_w22 hw) (own_w2 hw) (own_w23 hw) (by decide) (own_rm5_2 lch Z a0 hw [] (own_spread p) pa pk h0 n0 S0 VS) (by decide) (by decide) (by decide) (by decide) (lenOf own_pd1 rfl) rfl (by exact Nat.le_of_eq rfl) (hb hby own_d7_29) rfl ?_
  intro T41 Lc41 v41 X41 hQ41
  obtain ⟨rfl, Nq41, Kq41⟩ := hQ41
  have N41 := Fr.app N40 Nq41
  show own_Ends prg e below s _ _ _ T41 (mkF m 32 #[.val (.ref a), .val (.int p), .val (.ref b), .val (.int (own_spread p)), .val (.int (own_min (own_min (15 : Int32) ((own_ushr x34 (Int32.ofNat (4 * own_nb 0 (own_spread p)))) &&& (15 : Int32))) ((own_ushr x38 (Int32.ofNat (4 * own_nb 1 (own_spread p)))) &&& (15 : Int32)))), .val (.int (2 : Int32)), .val (.int x38)] [(.int (own_ix 2 (own_spread p))), (.ref b)])
  obtain ⟨x42, hx42⟩ : ∃ z, l.getD (own_at 2 (own_spread p)) 0 = z := ⟨_, rfl⟩
  refine own_iaload (pc' := 33) (v := (.int x42)) X41 hx hZ Kq41 VT (hb hby own_d7_32) rfl (own_in16 2 _) ((own_LIget _ _).trans (congrArg Value.int hx42)) ?_
  refine own_istore (pc' := 35) (l' := #[.val (.ref a), .val (.int p), .val (.ref b), .val (.int (own_spread p)), .val (.int (own_min (own_min (15 : Int32) ((own_ushr x34 (Int32.ofNat (4 * own_nb 0 (own_spread p)))) &&& (15 : Int32))) ((own_ushr x38 (Int32.ofNat (4 * own_nb 1 (own_spread p)))) &&& (15 : Int32)))), .val (.int (2 : Int32)), .val (.int x42)]) X41 hx (hb hby own_d7_33) rfl rfl ?_
  refine own_iload (pc' := 37) X41 hx (hb hby own_d7_35) rfl rfl ?_
  refine own_iload (pc' := 39) X41 hx (hb hby own_d7_37) rfl rfl ?_
  refine own_iloadN (pc' := 40) X41 hx (hb hby own_d7_39) rfl rfl ?_
  refine own_iload (pc' := 42) X41 hx (hb hby own_d7_40) rfl rfl ?_
  refine own_callS (pc' := 45) (y := (⟨"com/example/larder/larder/cache/UseCounts", "shift", "(II)I"⟩ : MethodName)) (W := 2) (rm := own_room6_2) (argsL := [(.int (own_spread p)), (.int (2 : Int32))]) (rest := [(.int x42), (.int (own_min (own_min (15 : Int32) ((own_ushr x34 (Int32.ofNat (4 * own_nb 0 (own_spread p)))) &&& (15 : Int32))) ((own_ushr x38 (Int32.ofNat (4 * own_nb 1 (own_spread p)))) &&& (15 : Int32))))]) X41 hx hZ Kq41 hown (by rw [hml]; rfl) (own_w26 hw) (own_w27 hw) (own_w2 hw) (own_w28 hw) (by decide) (own_rm6_2 lch Z a0 hw [] (own_spread p) h0 n0) (by decide) (by decide) (by decide) (by decide) (lenOf own_pd2 rfl) rfl (by exact Nat.le_of_eq rfl) (hb hby own_d7_42) rfl ?_
  intro T43 Lc43 v43 X43 hQ43
  obtain ⟨rfl, Nq43, Kq43⟩ := hQ43
  have N43 := Fr.app N41 Nq43
  show own_Ends prg e below s _ _ _ T43 (mkF m 45 #[.val (.ref a), .val (.int p), .val (.ref b), .val (.int (own_spread p)), .val (.int (own_min (own_min (15 : Int32) ((own_ushr x34 (Int32.ofNat (4 * own_nb 0 (own_spread p)))) &&& (15 : Int32))) ((own_ushr x38 (Int32.ofNat (4 * own_nb 1 (own_spread p)))) &&& (15 : Int32)))), .val (.int (2 : Int32)), .val (.int x42)] [(.int (Int32.ofNat (4 * own_nb 2 (own_spread p)))), (.int x42), (.int (own_min (own_min (15 : Int32) ((own_ushr x34 (Int32.ofNat (4 * own_nb 0 (own_spread p)))) &&& (15 : Int32))) ((own_ushr x38 (Int32.ofNat (4 * own_nb 1 (own_spread p)))) &&& (15 : Int32))))])
  refine own_iushr (pc' := 46) (z := (own_ushr x42 (Int32.ofNat (4 * own_nb 2 (own_spread p))))) X43 hx (hb hby own_d7_45) rfl rfl ?_
  refine own_bipush (pc' := 48) (z := (15 : Int32)) X43 hx (hb hby own_d7_46) rfl rfl ?_
  refine own_iand (pc' := 49) (z := ((own_ushr x42 (Int32.ofNat (4 * own_nb 2 (own_spread p)))) &&& (15 : Int32))) X43 hx (hb hby own_d7_48) rfl rfl ?_
  refine own_callS (pc' := 52) (y := (⟨"java/lang/Math", "min", "(II)I"⟩ : MethodName)) (W := 0) (rm := own_room8) (argsL := [(.int (own_min (own_min (15 : Int32) ((own_ushr x34 (Int32.ofNat (4 * own_nb 0 (own_spread p)))) &&& (15 : Int32))) ((own_ushr x38 (Int32.ofNat (4 * own_nb 1 (own_spread p)))) &&& (15 : Int32)))), (.int ((own_ushr x42 (Int32.ofNat (4 * own_nb 2 (own_spread p)))) &&& (15 : Int32)))]) (rest := []) X43 hx hZ Kq43 hown (by rw [hml]; rfl) (own_w36 hw) (own_w37 hw) (own_w38 hw) (own_w39 hw) (by decide) (own_rm8 lch Z a0 hw [] (own_min (own_min (15 : Int32) ((own_ushr x34 (Int32.ofNat (4 * own_nb 0 (own_spread p)))) &&& (15 : Int32))) ((own_ushr x38 (Int32.ofNat (4 * own_nb 1 (own_spread p)))) &&& (15 : Int32))) ((own_ushr x42 (Int32.ofNat (4 * own_nb 2 (own_spread p)))) &&& (15 : Int32)) h0 n0) (by decide) (by decide) (by decide) (by decide) (lenOf own_pd2 rfl) rfl (by exact Nat.le_of_eq rfl) (hb hby own_d7_49) rfl ?_
  intro T44 Lc44 v44 X44 hQ44
  obtain ⟨rfl, Nq44, Kq44⟩ := hQ44
  have N44 := Fr.app N43 Nq44
  show own_Ends prg e below s _ _ _ T44 (mkF m 52 #[.val (.ref a), .val (.int p), .val (.ref b), .val (.int (own_spread p)), .val (.int (own_min (own_min (15 : Int32) ((own_ushr x34 (Int32.ofNat (4 * own_nb 0 (own_spread p)))) &&& (15 : Int32))) ((own_ushr x38 (Int32.ofNat (4 * own_nb 1 (own_spread p)))) &&& (15 : Int32)))), .val (.int (2 : Int32)), .val (.int x42)] [(.int (own_min (own_min (own_min (15 : Int32) ((own_ushr x34 (Int32.ofNat (4 * own_nb 0 (own_spread p)))) &&& (15 : Int32))) ((own_ushr x38 (Int32.ofNat (4 * own_nb 1 (own_spread p)))) &&& (15 : Int32))) ((own_ushr x42 (Int32.ofNat (4 * own_nb 2 (own_spread p)))) &&& (15 : Int32))))])
  refine own_istore (pc' := 54) (l' := #[.val (.ref a), .val (.int p), .val (.ref b), .val (.int (own_spread p)), .val (.int (own_min (own_min (own_min (15 : Int32) ((own_ushr x34 (Int32.ofNat (4 * own_nb 0 (own_spread p)))) &&& (15 : Int32))) ((own_ushr x38 (Int32.ofNat (4 * own_nb 1 (own_spread p)))) &&& (15 : Int32))) ((own_ushr x42 (Int32.ofNat (4 * own_nb 2 (own_spread p)))) &&& (15 : Int32)))), .val (.int (2 : Int32)), .val (.int x42)]) X44 hx (hb hby own_d7_52) rfl rfl ?_
  refine own_iinc (pc' := 57) (z := (3 : Int32)) (l' := #[.val (.ref a), .val (.int p), .val (.ref b), .val (.int (own_spread p)), .val (.int (own_min (own_min (own_min (15 : Int32) ((own_ushr x34 (Int32.ofNat (4 * own_nb 0 (own_spread p)))) &&& (15 : Int32))) ((own_ushr x38 (Int32.ofNat (4 * own_nb 1 (own_spread p)))) &&& (15 : Int32))) ((own_ushr x42 (Int32.ofNat (4 * own_nb 2 (own_spread p)))) &&& (15 : Int32)))), .val (.int (3 : Int32)), .val (.int x42)]) X44 hx (hb hby own_d7_54) rfl rfl (by decide) rfl ?_
  refine own_goto (pc' := 17) X44 hx (hb hby own_d7_57) (by decide) (by decide) ?_
  refine own_iload (pc' := 19) X44 hx (hb hby own_d7_17) rfl rfl ?_
  refine own_iconst (pc' := 20) (z := (4 : Int32)) X44 hx (hb hby own_d7_19) rfl rfl ?_
  refine own_icmpNo (pc' := 23) X44 hx (hb hby own_d7_20) rfl (tlt (by decide)).2.1 ?_
  refine own_aloadN (pc' := 24) X44 hx (hb hby own_d7_23) rfl rfl rfl ?_
  refine own_iloadN (pc' := 25) X44 hx (hb hby own_d7_24) rfl rfl ?_
  refine own_iload (pc' := 27) X44 hx (hb hby own_d7_25) rfl rfl ?_
  refine own_aloadN (pc' := 28) X44 hx (hb hby own_d7_27) rfl rfl rfl ?_
  refine own_alen (pc' := 29) X44 hx hZ Kq44 VT (hb hby own_d7_28) rfl ?_
  refine own_callS (pc' := 32) (y := (⟨"com/example/larder/larder/cache/UseCounts", "index", "(III)I"⟩ : MethodName)) (W := 1) (rm := own_room5_3) (argsL := [(.int (own_spread p)), (.int (3 : Int32)), (.int (16 : Int32))]) (rest := [(.ref b)]) X44 hx hZ Kq44 hown (by rw [hml]; rfl) (own_w21 hw) (own_w22 hw) (own_w2 hw) (own_w23 hw) (by decide) (own_rm5_3 lch Z a0 hw [] (own_spread p) pa pk h0 n0 S0 VS) (by decide) (by decide) (by decide) (by decide) (lenOf own_pd1 rfl) rfl (by exact Nat.le_of_eq rfl) (hb hby own_d7_29) rfl ?_
  intro T45 Lc45 v45 X45 hQ45
  obtain ⟨rfl, Nq45, Kq45⟩ := hQ45
  have N45 := Fr.app N44 Nq45
  show own_Ends prg e below s _ _ _ T45 (mkF m 32 #[.val (.ref a), .val (.int p), .val (.ref b), .val (.int (own_spread p)), .val (.int (own_min (own_min (own_min (15 : Int32) ((own_ushr x34 (Int32.ofNat (4 * own_nb 0 (own_spread p)))) &&& (15 : Int32))) ((own_ushr x38 (Int32.ofNat (4 * own_nb 1 (own_spread p)))) &&& (15 : Int32))) ((own_ushr x42 (Int32.ofNat (4 * own_nb 2 (own_spread p)))) &&& (15 : Int32)))), .val (.int (3 : Int32)), .val (.int x42)] [(.int (own_ix 3 (own_spread p))), (.ref b)])
  obtain ⟨x46, hx46⟩ : ∃ z, l.getD (own_at 3 (own_spread p)) 0 = z := ⟨_, rfl⟩
  refine own_iaload (pc' := 33) (v := (.int x46)) X45 hx hZ Kq45 VT (hb hby own_d7_32) rfl (own_in16 3 _) ((own_LIget _ _).trans (congrArg Value.int hx46)) ?_
  refine own_istore (pc' := 35) (l' := #[.val (.ref a), .val (.int p), .val (.ref b), .val (.int (own_spread p)), .val (.int (own_min (own_min (own_min (15 : Int32) ((own_ushr x34 (Int32.ofNat (4 * own_nb 0 (own_spread p)))) &&& (15 : Int32))) ((own_ushr x38 (Int32.ofNat (4 * own_nb 1 (own_spread p)))) &&& (15 : Int32))) ((own_ushr x42 (Int32.ofNat (4 * own_nb 2 (own_spread p)))) &&& (15 : Int32)))), .val (.int (3 : Int32)), .val (.int x46)]) X45 hx (hb hby own_d7_33) rfl rfl ?_
  refine own_iload (pc' := 37) X45 hx (hb hby own_d7_35) rfl rfl ?_
  refine own_iload (pc' := 39) X45 hx (hb hby own_d7_37) rfl rfl ?_
  refine own_iloadN (pc' := 40) X45 hx (hb hby own_d7_39) rfl rfl ?_
  refine own_iload (pc' := 42) X45 hx (hb hby own_d7_40) rfl rfl ?_
  refine own_callS (pc' := 45) (y := (⟨"com/example/larder/larder/cache/UseCounts", "shift", "(II)I"⟩ : MethodName)) (W := 2) (rm := own_room6_3) (argsL := [(.int (own_spread p)), (.int (3 : Int32))]) (rest := [(.int x46), (.int (own_min (own_min (own_min (15 : Int32) ((own_ushr x34 (Int32.ofNat (4 * own_nb 0 (own_spread p)))) &&& (15 : Int32))) ((own_ushr x38 (Int32.ofNat (4 * own_nb 1 (own_spread p)))) &&& (15 : Int32))) ((own_ushr x42 (Int32.ofNat (4 * own_nb 2 (own_spread p)))) &&& (15 : Int32))))]) X45 hx hZ Kq45 hown (by rw [hml]; rfl) (own_w26 hw) (own_w27 hw) (own_w2 hw) (own_w28 hw) (by decide) (own_rm6_3 lch Z a0 hw [] (own_spread p) h0 n0) (by decide) (by decide) (by decide) (by decide) (lenOf own_pd2 rfl) rfl (by exact Nat.le_of_eq rfl) (hb hby own_d7_42) rfl ?_
  intro T47 Lc47 v47 X47 hQ47
  obtain ⟨rfl, Nq47, Kq47⟩ := hQ47
  have N47 := Fr.app N45 Nq47
  show own_Ends prg e below s _ _ _ T47 (mkF m 45 #[.val (.ref a), .val (.int p), .val (.ref b), .val (.int (own_spread p)), .val (.int (own_min (own_min (own_min (15 : Int32) ((own_ushr x34 (Int32.ofNat (4 * own_nb 0 (own_spread p)))) &&& (15 : Int32))) ((own_ushr x38 (Int32.ofNat (4 * own_nb 1 (own_spread p)))) &&& (15 : Int32))) ((own_ushr x42 (Int32.ofNat (4 * own_nb 2 (own_spread p)))) &&& (15 : Int32)))), .val (.int (3 : Int32)), .val (.int x46)] [(.int (Int32.ofNat (4 * own_nb 3 (own_spread p)))), (.int x46), (.int (own_min (own_min (own_min (15 : Int32) ((own_ushr x34 (Int32.ofNat (4 * own_nb 0 (own_spread p)))) &&& (15 : Int32))) ((own_ushr x38 (Int32.ofNat (4 * own_nb 1 (own_spread p)))) &&& (15 : Int32))) ((own_ushr x42 (Int32.ofNat (4 * own_nb 2 (own_spread p)))) &&& (15 : Int32))))])
  refine own_iushr (pc' := 46) (z := (own_ushr x46 (Int32.ofNat (4 * own_nb 3 (own_spread p))))) X47 hx (hb hby own_d7_45) rfl rfl ?_
  refine own_bipush (pc' := 48) (z := (15 : Int32)) X47 hx (hb hby own_d7_46) rfl rfl ?_
  refine own_iand (pc' := 49) (z := ((own_ushr x46 (Int32.ofNat (4 * own_nb 3 (own_spread p)))) &&& (15 : Int32))) X47 hx (hb hby own_d7_48) rfl rfl ?_
  refine own_callS (pc' := 52) (y := (⟨"java/lang/Math", "min", "(II)I"⟩ : MethodName)) (W := 0) (rm := own_room8) (argsL := [(.int (own_min (own_min (own_min (15 : Int32) ((own_ushr x34 (Int32.ofNat (4 * own_nb 0 (own_spread p)))) &&& (15 : Int32))) ((own_ushr x38 (Int32.ofNat (4 * own_nb 1 (own_spread p)))) &&& (15 : Int32))) ((own_ushr x42 (Int32.ofNat (4 * own_nb 2 (own_spread p)))) &&& (15 : Int32)))), (.int ((own_ushr x46 (Int32.ofNat (4 * own_nb 3 (own_spread p)))) &&& (15 : Int32)))]) (rest := []) X47 hx hZ Kq47 hown (by rw [hml]; rfl) (own_w36 hw) (own_w37 hw) (own_w38 hw) (own_w39 hw) (by decide) (own_rm8 lch Z a0 hw [] (own_min (own_min (own_min (15 : Int32) ((own_ushr x34 (Int32.ofNat (4 * own_nb 0 (own_spread p)))) &&& (15 : Int32))) ((own_ushr x38 (Int32.ofNat (4 * own_nb 1 (own_spread p)))) &&& (15 : Int32))) ((own_ushr x42 (Int32.ofNat (4 * own_nb 2 (own_spread p)))) &&& (15 : Int32))) ((own_ushr x46 (Int32.ofNat (4 * own_nb 3 (own_spread p)))) &&& (15 : Int32)) h0 n0) (by decide) (by decide) (by decide) (by decide) (lenOf own_pd2 rfl) rfl (by exact Nat.le_of_eq rfl) (hb hby own_d7_49) rfl ?_
  intro T48 Lc48 v48 X48 hQ48
  obtain ⟨rfl, Nq48, Kq48⟩ := hQ48
  have N48 := Fr.app N47 Nq48
  show own_Ends prg e below s _ _ _ T48 (mkF m 52 #[.val (.ref a), .val (.int p), .val (.ref b), .val (.int (own_spread p)), .val (.int (own_min (own_min (own_min (15 : Int32) ((own_ushr x34 (Int32.ofNat (4 * own_nb 0 (own_spread p)))) &&& (15 : Int32))) ((own_ushr x38 (Int32.ofNat (4 * own_nb 1 (own_spread p)))) &&& (15 : Int32))) ((own_ushr x42 (Int32.ofNat (4 * own_nb 2 (own_spread p)))) &&& (15 : Int32)))), .val (.int (3 : Int32)), .val (.int x46)] [(.int (own_min (own_min (own_min (own_min (15 : Int32) ((own_ushr x34 (Int32.ofNat (4 * own_nb 0 (own_spread p)))) &&& (15 : Int32))) ((own_ushr x38 (Int32.ofNat (4 * own_nb 1 (own_spread p)))) &&& (15 : Int32))) ((own_ushr x42 (Int32.ofNat (4 * own_nb 2 (own_spread p)))) &&& (15 : Int32))) ((own_ushr x46 (Int32.ofNat (4 * own_nb 3 (own_spread p)))) &&& (15 : Int32))))])
  refine own_istore (pc' := 54) (l' := #[.val (.ref a), .val (.int p), .val (.ref b), .val (.int (own_spread p)), .val (.int (own_min (own_min (own_min (own_min (15 : Int32) ((own_ushr x34 (Int32.ofNat (4 * own_nb 0 (own_spread p)))) &&& (15 : Int32))) ((own_ushr x38 (Int32.ofNat (4 * own_nb 1 (own_spread p)))) &&& (15 : Int32))) ((own_ushr x42 (Int32.ofNat (4 * own_nb 2 (own_spread p)))) &&& (15 : Int32))) ((own_ushr x46 (Int32.ofNat (4 * own_nb 3 (own_spread p)))) &&& (15 : Int32)))), .val (.int (3 : Int32)), .val (.int x46)]) X48 hx (hb hby own_d7_52) rfl rfl ?_
  refine own_iinc (pc' := 57) (z := (4 : Int32)) (l' := #[.val (.ref a), .val (.int p), .val (.ref b), .val (.int (own_spread p)), .val (.int (own_min (own_min (own_min (own_min (15 : Int32) ((own_ushr x34 (Int32.ofNat (4 * own_nb 0 (own_spread p)))) &&& (15 : Int32))) ((own_ushr x38 (Int32.ofNat (4 * own_nb 1 (own_spread p)))) &&& (15 : Int32))) ((own_ushr x42 (Int32.ofNat (4 * own_nb 2 (own_spread p)))) &&& (15 : Int32))) ((own_ushr x46 (Int32.ofNat (4 * own_nb 3 (own_spread p)))) &&& (15 : Int32)))), .val (.int (4 : Int32)), .val (.int x46)]) X48 hx (hb hby own_d7_54) rfl rfl (by decide) rfl ?_
  refine own_goto (pc' := 17) X48 hx (hb hby own_d7_57) (by decide) (by decide) ?_
  refine own_iload (pc' := 19) X48 hx (hb hby own_d7_17) rfl rfl ?_
  refine own_iconst (pc' := 20) (z := (4 : Int32)) X48 hx (hb hby own_d7_19) rfl rfl ?_
  refine own_icmpYes (pc' := 60) X48 hx (hb hby own_d7_20) (flt (by decide)).2.1 (by decide) (by decide) ?_
  refine own_iload (pc' := 62) X48 hx (hb hby own_d7_60) rfl rfl ?_
  refine own_retI X48 hx hlk hret (hb hby own_d7_62) (by decide) (by decide) ?_
  have rd0 := own_read HR (own_spread p) (r := 0) (by decide)
  have ni0 := own_nibI (x := l.getD (own_at 0 (own_spread p)) 0) (own_nb_lt (r := 0) (by decide) (own_spread p)).1
  have rd1 := own_read HR (own_spread p) (r := 1) (by decide)
  have ni1 := own_nibI (x := l.getD (own_at 1 (own_spread p)) 0) (own_nb_lt (r := 1) (by decide) (own_spread p)).1
  have rd2 := own_read HR (own_spread p) (r := 2) (by decide)
  have ni2 := own_nibI (x := l.getD (own_at 2 (own_spread p)) 0) (own_nb_lt (r := 2) (by decide) (own_spread p)).1
  have rd3 := own_read HR (own_spread p) (r := 3) (by decide)
  have ni3 := own_nibI (x := l.getD (own_at 3 (own_spread p)) 0) (own_nb_lt (r := 3) (by decide) (own_spread p)).1
  rw [hx34] at rd0 ni0
  rw [hx38] at rd1 ni1
  rw [hx42] at rd2 ni2
  rw [hx46] at rd3 ni3
  have sl : own_same ks (own_spread p) ≤ ks.length := List.length_filter_le _ _
  have q15 : ((own_same ks (own_spread p) : Nat) : Int) ≤ (15 : Int32).toInt := Int.le_trans (Int.ofNat_le.mpr sl) (by show ((ks.length : Nat) : Int) ≤ 15; omega)
  have q0 := And.intro (Int.le_trans (Int.ofNat_le.mpr rd0.1) (Int.le_of_eq ni0.symm)) (Int.le_trans (Int.le_of_eq ni0) (Int.ofNat_le.mpr rd0.2))
  have q1 := And.intro (Int.le_trans (Int.ofNat_le.mpr rd1.1) (Int.le_of_eq ni1.symm)) (Int.le_trans (Int.le_of_eq ni1) (Int.ofNat_le.mpr rd1.2))
  have q2 := And.intro (Int.le_trans (Int.ofNat_le.mpr rd2.1) (Int.le_of_eq ni2.symm)) (Int.le_trans (Int.le_of_eq ni2) (Int.ofNat_le.mpr rd2.2))
  have q3 := And.intro (Int.le_trans (Int.ofNat_le.mpr rd3.1) (Int.le_of_eq ni3.symm)) (Int.le_trans (Int.le_of_eq ni3) (Int.ofNat_le.mpr rd3.2))
  have q := own_min_b (own_min_b (own_min_b (own_min_c q15 q0) q1) q2) q3
  refine ⟨_, rfl, N48, Kq48, q⟩
def own_room9 : Room := { frames := 0, cells := 0, slots := 0, locals := 0 }
def own_Q9 (Z : State) (p0 : Int32) (p1 : Int32) (p2 : Int32) (p3 : Int32) (p4 : Int32) (p5 : Int32) (p6 : Int32) (h0 : Heap) (n0 : Nat) (v : Option Value) (h : Heap) (L : List Loc) : Prop := v = some (.int (own_own p0 p1 p2 p3 p4 p5 p6)) ∧ Fr n0 L ∧ h = h0
theorem own_ef_rm9 (m : MethodId) (x0 : Int32) (x1 : Int32) (x2 : Int32) (x3 : Int32) (x4 : Int32) (x5 : Int32) (x6 : Int32) : entryFrame m #[(.int x0), (.int x1), (.int x2), (.int x3), (.int x4), (.int x5), (.int x6)] 8 = mkF m 0 #[.val (.int x0), .val (.int x1), .val (.int x2), .val (.int x3), .val (.int x4), .val (.int x5), .val (.int x6), .unset] [] := by first | (simp [entryFrame, mkF, argsToLocals, Value.category]; done) | rfl
set_option maxRecDepth 65536 in
set_option maxHeartbeats 40000000 in
theorem own_rm9 (lch : Launch) (Z : State) (a0 : Array Value) (hw : ∀ d ∈ tables_1, d.before a0 Z = true) (ws : List Jvm.Cond) (p0 : Int32) (p1 : Int32) (p2 : Int32) (p3 : Int32) (p4 : Int32) (p5 : Int32) (p6 : Int32) (h0 : Heap) (n0 : Nat) :
    MetFree lch (⟨"com/example/larder/larder/cache/UseCountsAddPinLaw", "own", "(IIIIIII)I"⟩ : MethodName) (head1 (Jvm.Cond.code (⟨"com/example/larder/larder/cache/UseCountsAddPinLaw", "own", "(IIIIIII)I"⟩ : MethodName) method_3_code 8 (some .int) :: ws) own_room9) (fun zz U => zz = #[(.int p0), (.int p1), (.int p2), (.int p3), (.int p4), (.int p5), (.int p6)] ∧ Z.Warmed39 U.vm ∧ U.heap = h0) (fun _ _ _ _ _ => True) (fun _ U o U' => ∃ v L, o = .returned v ∧ own_Q9 Z p0 p1 p2 p3 p4 p5 p6 h0 n0 v U'.heap L ∧ FrameEnd U o U' L own_room9.cells own_room9.slots) := by
  refine MetFree.of_bodySF (plainFor_of_name own_pn1) hisR ?_
  intro prg e s m args below meth c s₁ Bd hml0 hP hK
  obtain ⟨rfl, hZ, hh⟩ := hP
  have hx := Bd.exec
  have hby := Bd.bytes
  have hml : c.maxLocals = 8 := hml0
  have hown : s.vm.findClass "com/example/larder/larder/cache/UseCountsAddPinLaw" = some m.cls := findClass_of_methodNamed Bd.named
  have hnm := (name_of_methodNamed Bd.named Bd.method).1
  have hlk : meth.locks = false := BodyLoose.notSynchronized Bd
  have hret := Bd.returns
  have X0 : Stand prg lch e own_room9 s m #[(.int p0), (.int p1), (.int p2), (.int p3), (.int p4), (.int p5), (.int p6)] below meth c s₁ [] 0 0 := Stand.of_body Bd
  have e0 : s₁.heap = h0 := by rw [← hh, Bd.state]; rfl
  have N0 := Fr.nil n0
  show own_Ends prg e below s (own_Q9 Z p0 p1 p2 p3 p4 p5 p6 h0 n0) own_room9.cells own_room9.slots s₁ (entryFrame m #[(.int p0), (.int p1), (.int p2), (.int p3), (.int p4), (.int p5), (.int p6)] 8)
  refine own_cast (own_ef_rm9 m p0 p1 p2 p3 p4 p5 p6) ?_
  refine own_iconst (pc' := 1) (z := (0 : Int32)) X0 hx (hb hby own_d9_0) rfl rfl ?_
  refine own_istore (pc' := 3) (l' := #[.val (.int p0), .val (.int p1), .val (.int p2), .val (.int p3), .val (.int p4), .val (.int p5), .val (.int p6), .val (.int (0 : Int32))]) X0 hx (hb hby own_d9_1) rfl rfl ?_
  refine own_iloadN (pc' := 4) X0 hx (hb hby own_d9_3) rfl rfl ?_
  refine own_iloadN (pc' := 5) X0 hx (hb hby own_d9_4) rfl rfl ?_
  by_cases hc5_31 : p0 = p1
  · refine own_icmpNo (pc' := 8) X0 hx (hb hby own_d9_5) rfl (teq hc5_31).2 ?_
    refine own_iload (pc' := 10) X0 hx (hb hby own_d9_8) rfl rfl ?_
    refine own_iload (pc' := 12) X0 hx (hb hby own_d9_10) rfl rfl ?_
    refine own_iadd (pc' := 13) (z := ((0 : Int32) + p4)) X0 hx (hb hby own_d9_12) rfl rfl ?_
    refine own_istore (pc' := 15) (l' := #[.val (.int p0), .val (.int p1), .val (.int p2), .val (.int p3), .val (.int p4), .val (.int p5), .val (.int p6), .val (.int ((0 : Int32) + p4))]) X0 hx (hb hby own_d9_13) rfl rfl ?_
    refine own_iloadN (pc' := 16) X0 hx (hb hby own_d9_15) rfl rfl ?_
    refine own_iloadN (pc' := 17) X0 hx (hb hby own_d9_16) rfl rfl ?_
    by_cases hc17_32 : p0 = p2
    · refine own_icmpNo (pc' := 20) X0 hx (hb hby own_d9_17) rfl (teq hc17_32).2 ?_
      refine own_iload (pc' := 22) X0 hx (hb hby own_d9_20) rfl rfl ?_
      refine own_iload (pc' := 24) X0 hx (hb hby own_d9_22) rfl rfl ?_
      refine own_iadd (pc' := 25) (z := (((0 : Int32) + p4) + p5)) X0 hx (hb hby own_d9_24) rfl rfl ?_
      refine own_istore (pc' := 27) (l' := #[.val (.int p0), .val (.int p1), .val (.int p2), .val (.int p3), .val (.int p4), .val (.int p5), .val (.int p6), .val (.int (((0 : Int32) + p4) + p5))]) X0 hx (hb hby own_d9_25) rfl rfl ?_
      refine own_iloadN (pc' := 28) X0 hx (hb hby own_d9_27) rfl rfl ?_
      refine own_iloadN (pc' := 29) X0 hx (hb hby own_d9_28) rfl rfl ?_
      by_cases hc29_33 : p0 = p3
      · refine own_icmpNo (pc' := 32) X0 hx (hb hby own_d9_29) rfl (teq hc29_33).2 ?_
        refine own_iload (pc' := 34) X0 hx (hb hby own_d9_32) rfl rfl ?_
        refine own_iload (pc' := 36) X0 hx (hb hby own_d9_34) rfl rfl ?_
        refine own_iadd (pc' := 37) (z := ((((0 : Int32) + p4) + p5) + p6)) X0 hx (hb hby own_d9_36) rfl rfl ?_
        refine own_istore (pc' := 39) (l' := #[.val (.int p0), .val (.int p1), .val (.int p2), .val (.int p3), .val (.int p4), .val (.int p5), .val (.int p6), .val (.int ((((0 : Int32) + p4) + p5) + p6))]) X0 hx (hb hby own_d9_37) rfl rfl ?_
        refine own_iload (pc' := 41) X0 hx (hb hby own_d9_39) rfl rfl ?_
        refine own_retI X0 hx hlk hret (hb hby own_d9_41) (by decide) (by decide) ?_
        exact ⟨own_some (by simp only [own_own, if_pos hc5_31, if_pos hc17_32, if_pos hc29_33]), N0, e0⟩
      · refine own_icmpYes (pc' := 39) X0 hx (hb hby own_d9_29) (feq hc29_33).2 (by decide) (by decide) ?_
        refine own_iload (pc' := 41) X0 hx (hb hby own_d9_39) rfl rfl ?_
        refine own_retI X0 hx hlk hret (hb hby own_d9_41) (by decide) (by decide) ?_
        exact ⟨own_some (by simp only [own_own, if_pos hc5_31, if_pos hc17_32, if_neg hc29_33]), N0, e0⟩
    · refine own_icmpYes (pc' := 27) X0 hx (hb hby own_d9_17) (feq hc17_32).2 (by decide) (by decide) ?_
      refine own_iloadN (pc' := 28) X0 hx (hb hby own_d9_27) rfl rfl ?_
      refine own_iloadN (pc' := 29) X0 hx (hb hby own_d9_28) rfl rfl ?_
      by_cases hc29_34 : p0 = p3
      · refine own_icmpNo (pc' := 32) X0 hx (hb hby own_d9_29) rfl (teq hc29_34).2 ?_
        refine own_iload (pc' := 34) X0 hx (hb hby own_d9_32) rfl rfl ?_
        refine own_iload (pc' := 36) X0 hx (hb hby own_d9_34) rfl rfl ?_
        refine own_iadd (pc' := 37) (z := (((0 : Int32) + p4) + p6)) X0 hx (hb hby own_d9_36) rfl rfl ?_
        refine own_istore (pc' := 39) (l' := #[.val (.int p0), .val (.int p1), .val (.int p2), .val (.int p3), .val (.int p4), .val (.int p5), .val (.int p6), .val (.int (((0 : Int32) + p4) + p6))]) X0 hx (hb hby own_d9_37) rfl rfl ?_
        refine own_iload (pc' := 41) X0 hx (hb hby own_d9_39) rfl rfl ?_
        refine own_retI X0 hx hlk hret (hb hby own_d9_41) (by decide) (by decide) ?_
        exact ⟨own_some (by simp only [own_own, if_pos hc5_31, if_neg hc17_32, if_pos hc29_34]), N0, e0⟩
      · refine own_icmpYes (pc' := 39) X0 hx (hb hby own_d9_29) (feq hc29_34).2 (by decide) (by decide) ?_
        refine own_iload (pc' := 41) X0 hx (hb hby own_d9_39) rfl rfl ?_
        refine own_retI X0 hx hlk hret (hb hby own_d9_41) (by decide) (by decide) ?_
        exact ⟨own_some (by simp only [own_own, if_pos hc5_31, if_neg hc17_32, if_neg hc29_34]), N0, e0⟩
  · refine own_icmpYes (pc' := 15) X0 hx (hb hby own_d9_5) (feq hc5_31).2 (by decide) (by decide) ?_
    refine own_iloadN (pc' := 16) X0 hx (hb hby own_d9_15) rfl rfl ?_
    refine own_iloadN (pc' := 17) X0 hx (hb hby own_d9_16) rfl rfl ?_
    by_cases hc17_35 : p0 = p2
    · refine own_icmpNo (pc' := 20) X0 hx (hb hby own_d9_17) rfl (teq hc17_35).2 ?_
      refine own_iload (pc' := 22) X0 hx (hb hby own_d9_20) rfl rfl ?_
      refine own_iload (pc' := 24) X0 hx (hb hby own_d9_22) rfl rfl ?_
      refine own_iadd (pc' := 25) (z := ((0 : Int32) + p5)) X0 hx (hb hby own_d9_24) rfl rfl ?_
      refine own_istore (pc' := 27) (l' := #[.val (.int p0), .val (.int p1), .val (.int p2), .val (.int p3), .val (.int p4), .val (.int p5), .val (.int p6), .val (.int ((0 : Int32) + p5))]) X0 hx (hb hby own_d9_25) rfl rfl ?_
      refine own_iloadN (pc' := 28) X0 hx (hb hby own_d9_27) rfl rfl ?_
      refine own_iloadN (pc' := 29) X0 hx (hb hby own_d9_28) rfl rfl ?_
      by_cases hc29_36 : p0 = p3
      · refine own_icmpNo (pc' := 32) X0 hx (hb hby own_d9_29) rfl (teq hc29_36).2 ?_
        refine own_iload (pc' := 34) X0 hx (hb hby own_d9_32) rfl rfl ?_
        refine own_iload (pc' := 36) X0 hx (hb hby own_d9_34) rfl rfl ?_
        refine own_iadd (pc' := 37) (z := (((0 : Int32) + p5) + p6)) X0 hx (hb hby own_d9_36) rfl rfl ?_
        refine own_istore (pc' := 39) (l' := #[.val (.int p0), .val (.int p1), .val (.int p2), .val (.int p3), .val (.int p4), .val (.int p5), .val (.int p6), .val (.int (((0 : Int32) + p5) + p6))]) X0 hx (hb hby own_d9_37) rfl rfl ?_
        refine own_iload (pc' := 41) X0 hx (hb hby own_d9_39) rfl rfl ?_
        refine own_retI X0 hx hlk hret (hb hby own_d9_41) (by decide) (by decide) ?_
        exact ⟨own_some (by simp only [own_own, if_neg hc5_31, if_pos hc17_35, if_pos hc29_36]), N0, e0⟩
      · refine own_icmpYes (pc' := 39) X0 hx (hb hby own_d9_29) (feq hc29_36).2 (by decide) (by decide) ?_
        refine own_iload (pc' := 41) X0 hx (hb hby own_d9_39) rfl rfl ?_
        refine own_retI X0 hx hlk hret (hb hby own_d9_41) (by decide) (by decide) ?_
        exact ⟨own_some (by simp only [own_own, if_neg hc5_31, if_pos hc17_35, if_neg hc29_36]), N0, e0⟩
    · refine own_icmpYes (pc' := 27) X0 hx (hb hby own_d9_17) (feq hc17_35).2 (by decide) (by decide) ?_
      refine own_iloadN (pc' := 28) X0 hx (hb hby own_d9_27) rfl rfl ?_
      refine own_iloadN (pc' := 29) X0 hx (hb hby own_d9_28) rfl rfl ?_
      by_cases hc29_37 : p0 = p3
      · refine own_icmpNo (pc' := 32) X0 hx (hb hby own_d9_29) rfl (teq hc29_37).2 ?_
        refine own_iload (pc' := 34) X0 hx (hb hby own_d9_32) rfl rfl ?_
        refine own_iload (pc' := 36) X0 hx (hb hby own_d9_34) rfl rfl ?_
        refine own_iadd (pc' := 37) (z := ((0 : Int32) + p6)) X0 hx (hb hby own_d9_36) rfl rfl ?_
        refine own_istore (pc' := 39) (l' := #[.val (.int p0), .val (.int p1), .val (.int p2), .val (.int p3), .val (.int p4), .val (.int p5), .val (.int p6), .val (.int ((0 : Int32) + p6))]) X0 hx (hb hby own_d9_37) rfl rfl ?_
        refine own_iload (pc' := 41) X0 hx (hb hby own_d9_39) rfl rfl ?_
        refine own_retI X0 hx hlk hret (hb hby own_d9_41) (by decide) (by decide) ?_
        exact ⟨own_some (by simp only [own_own, if_neg hc5_31, if_neg hc17_35, if_pos hc29_37]), N0, e0⟩
      · refine own_icmpYes (pc' := 39) X0 hx (hb hby own_d9_29) (feq hc29_37).2 (by decide) (by decide) ?_
        refine own_iload (pc' := 41) X0 hx (hb hby own_d9_39) rfl rfl ?_
        refine own_retI X0 hx hlk hret (hb hby own_d9_41) (by decide) (by decide) ?_
        exact ⟨own_some (by simp only [own_own, if_neg hc5_31, if_neg hc17_35, if_neg hc29_37]), N0, e0⟩
theorem own_nl {x y : Int32} (h : y.toInt ≤ x.toInt) : ¬ x < y := fun q => by rw [Int32.lt_iff_toInt_lt] at q; omega
def own_room10 : Room := { frames := 0, cells := 0, slots := 0, locals := 0 }
def own_Q10 (Z : State) (p0 : Int32) (p1 : Int32) (p2 : Int32) (h0 : Heap) (n0 : Nat) (v : Option Value) (h : Heap) (L : List Loc) : Prop := v = some (.int 1) ∧ Fr n0 L ∧ h = h0
theorem own_ef_rm10 (m : MethodId) (x0 : Int32) (x1 : Int32) (x2 : Int32) : entryFrame m #[(.int x0), (.int x1), (.int x2)] 3 = mkF m 0 #[.val (.int x0), .val (.int x1), .val (.int x2)] [] := by first | (simp [entryFrame, mkF, argsToLocals, Value.category]; done) | rfl
set_option maxRecDepth 65536 in
set_option maxHeartbeats 40000000 in
theorem own_rm10 (lch : Launch) (Z : State) (a0 : Array Value) (hw : ∀ d ∈ tables_1, d.before a0 Z = true) (ws : List Jvm.Cond) (p0 : Int32) (p1 : Int32) (p2 : Int32) (h0 : Heap) (n0 : Nat) (h1 : p1.toInt ≤ p0.toInt) (h2 : p0.toInt ≤ p2.toInt) :
    MetFree lch (⟨"com/example/larder/larder/cache/UseCountsAddPinLaw", "within", "(III)Z"⟩ : MethodName) (head1 (Jvm.Cond.code (⟨"com/example/larder/larder/cache/UseCountsAddPinLaw", "within", "(III)Z"⟩ : MethodName) method_4_code 3 (some .boolean) :: ws) own_room10) (fun zz U => zz = #[(.int p0), (.int p1), (.int p2)] ∧ Z.Warmed39 U.vm ∧ U.heap = h0) (fun _ _ _ _ _ => True) (fun _ U o U' => ∃ v L, o = .returned v ∧ own_Q10 Z p0 p1 p2 h0 n0 v U'.heap L ∧ FrameEnd U o U' L own_room10.cells own_room10.slots) := by
  refine MetFree.of_bodySF (plainFor_of_name own_pn1) hisR ?_
  intro prg e s m args below meth c s₁ Bd hml0 hP hK
  obtain ⟨rfl, hZ, hh⟩ := hP
  have hx := Bd.exec
  have hby := Bd.bytes
  have hml : c.maxLocals = 3 := hml0
  have hown : s.vm.findClass "com/example/larder/larder/cache/UseCountsAddPinLaw" = some m.cls := findClass_of_methodNamed Bd.named
  have hnm := (name_of_methodNamed Bd.named Bd.method).1
  have hlk : meth.locks = false := BodyLoose.notSynchronized Bd
  have hret := Bd.returns
  have X0 : Stand prg lch e own_room10 s m #[(.int p0), (.int p1), (.int p2)] below meth c s₁ [] 0 0 := Stand.of_body Bd
  have e0 : s₁.heap = h0 := by rw [← hh, Bd.state]; rfl
  have N0 := Fr.nil n0
  show own_Ends prg e below s (own_Q10 Z p0 p1 p2 h0 n0) own_room10.cells own_room10.slots s₁ (entryFrame m #[(.int p0), (.int p1), (.int p2)] 3)
  refine own_cast (own_ef_rm10 m p0 p1 p2) ?_
  refine own_iloadN (pc' := 1) X0 hx (hb hby own_d10_0) rfl rfl ?_
  refine own_iloadN (pc' := 2) X0 hx (hb hby own_d10_1) rfl rfl ?_
  refine own_icmpNo (pc' := 5) X0 hx (hb hby own_d10_2) rfl (flt (own_nl h1)).2.2.1 ?_
  refine own_iloadN (pc' := 6) X0 hx (hb hby own_d10_5) rfl rfl ?_
  refine own_iloadN (pc' := 7) X0 hx (hb hby own_d10_6) rfl rfl ?_
  refine own_icmpNo (pc' := 10) X0 hx (hb hby own_d10_7) rfl (flt (own_nl h2)).2.2.1 ?_
  refine own_iconst (pc' := 11) (z := (1 : Int32)) X0 hx (hb hby own_d10_10) rfl rfl ?_
  refine own_goto (pc' := 15) X0 hx (hb hby own_d10_11) (by decide) (by decide) ?_
  refine own_retN X0 hx hlk hret (by simp) (hb hby own_d10_15) (by decide) (by decide) ?_
  exact ⟨rfl, N0, e0⟩
def own_room1 : Room := { frames := 1, cells := 1, slots := 16, locals := 12 }
def own_Q1 (Z : State) (a : Addr) (u0 : Value) (h0 : Heap) (n0 : Nat) (v : Option Value) (h : Heap) (L : List Loc) : Prop := ∃ (b : Addr) (bk : ClassId), v = none ∧ Fr n0 L ∧ Keep h0 h [a] ∧ h0.size ≤ b ∧ Fld Z h a "com/example/larder/larder/cache/UseCounts" "table" "[I" (.ref b) ∧ Fld Z h a "com/example/larder/larder/cache/UseCounts" "additions" "I" (.int (0 : Int32)) ∧ Arv Z h b bk .int (16 : Int32) (own_LI (List.replicate 16 (0 : Int32))) (.int (0 : Int32))
theorem own_ef_rm1 (m : MethodId) (x0 : Addr) : entryFrame m #[(.ref x0)] 1 = mkF m 0 #[.val (.ref x0)] [] := by first | (simp [entryFrame, mkF, argsToLocals, Value.category]; done) | rfl
set_option maxRecDepth 65536 in
set_option maxHeartbeats 40000000 in
theorem own_rm1 (lch : Launch) (Z : State) (a0 : Array Value) (hw : ∀ d ∈ tables_1, d.before a0 Z = true) (ws : List Jvm.Cond) (a : Addr) (u0 : Value) (h0 : Heap) (n0 : Nat) (Z0 : n0 ≤ h0.size) (E0 : Exa Z h0 a "com/example/larder/larder/cache/UseCounts") (FT : Fld Z h0 a "com/example/larder/larder/cache/UseCounts" "table" "[I" u0) (FA : Fld Z h0 a "com/example/larder/larder/cache/UseCounts" "additions" "I" (.int (0 : Int32))) (ga : n0 ≤ a) :
    MetFree lch (⟨"com/example/larder/larder/cache/UseCounts", "<init>", "()V"⟩ : MethodName) (head1 (Jvm.Cond.code (⟨"com/example/larder/larder/cache/UseCounts", "<init>", "()V"⟩ : MethodName) prog_11_method_1_code 1 none :: ws) own_room1) (fun zz U => zz = #[(.ref a)] ∧ Z.Warmed39 U.vm ∧ U.heap = h0) (fun _ _ _ _ _ => True) (fun _ U o U' => ∃ v L, o = .returned v ∧ own_Q1 Z a u0 h0 n0 v U'.heap L ∧ FrameEnd U o U' L own_room1.cells own_room1.slots) := by
  refine MetFree.of_bodySF (plainFor_of_name own_pn0) hisR ?_
  intro prg e s m args below meth c s₁ Bd hml0 hP hK
  obtain ⟨rfl, hZ, hh⟩ := hP
  have hx := Bd.exec
  have hby := Bd.bytes
  have hml : c.maxLocals = 1 := hml0
  have hown : s.vm.findClass "com/example/larder/larder/cache/UseCounts" = some m.cls := findClass_of_methodNamed Bd.named
  have hnm := (name_of_methodNamed Bd.named Bd.method).1
  have hlk : meth.locks = false := BodyLoose.notSynchronized Bd
  have hret := Bd.returns
  have X0 : Stand prg lch e own_room1 s m #[(.ref a)] below meth c s₁ [] 0 0 := Stand.of_body Bd
  have e0 : s₁.heap = h0 := by rw [← hh, Bd.state]; rfl
  have N0 := Fr.nil n0
  show own_Ends prg e below s (own_Q1 Z a u0 h0 n0) own_room1.cells own_room1.slots s₁ (entryFrame m #[(.ref a)] 1)
  refine own_cast (own_ef_rm1 m a) ?_
  have K0 := Keep.refl h0 ([a] : List Addr)
  refine own_aloadN (pc' := 1) X0 hx (hb hby own_d1_0) rfl rfl rfl ?_
  obtain ⟨T31, X31, e31, st31⟩ := initO X0 hx hZ hown (own_w6 hw) (own_w7 hw) (own_w8 hw) e0 (g := (mkF m 1 #[.val (.ref a)] [(.ref a)])) rfl (by rw [hml]; rfl) rfl (hb hby own_d1_1) (by decide) (W := 0) (by show 2 * 0 + _ ≤ _; exact Nat.le_of_eq rfl) (by decide)
  refine own_go st31 ?_
  show own_Ends prg e below s _ _ _ T31 (mkF m 4 #[.val (.ref a)] [])
  refine own_aloadN (pc' := 5) X31 hx (hb hby own_d1_4) rfl rfl rfl ?_
  refine own_bipush (pc' := 7) (z := (16 : Int32)) X31 hx (hb hby own_d1_5) rfl rfl ?_
  refine own_newarr (pc' := 9) (aty := .int) X31 hx hZ (own_w9 hw) e31 (hb hby own_d1_7) rfl (by decide) 16 16 (by decide) (by decide) (by decide) (by decide) ?_
  intro T32 h32 a32 k32 X32 e32 E32 g32 V32
  replace V32 : Arv Z h32 a32 k32 .int (16 : Int32) [(.int (0 : Int32)), (.int (0 : Int32)), (.int (0 : Int32)), (.int (0 : Int32)), (.int (0 : Int32)), (.int (0 : Int32)), (.int (0 : Int32)), (.int (0 : Int32)), (.int (0 : Int32)), (.int (0 : Int32)), (.int (0 : Int32)), (.int (0 : Int32)), (.int (0 : Int32)), (.int (0 : Int32)), (.int (0 : Int32)), (.int (0 : Int32))] (.int (0 : Int32)) := V32
  have ge33 : n0 ≤ a32 := by rw [g32]; exact Z0
  have sz34 : h0.size ≤ a32 := by rw [g32]; exact K0.1
  have ne35 : a ≠ a32 := Nat.ne_of_lt (by rw [g32]; exact E0.lt)
  show own_Ends prg e below s _ _ _ T32 (mkF m 9 #[.val (.ref a)] [(.ref a32), (.ref a)])
  have f36 := (FT.ext E32)
  have f37 := (E0.ext E32)
  obtain ⟨T38, h38, X38, e38, W38, st38⟩ := putF X32 hx hZ hown (host := "") (Or.inl (own_w10 hw)) Via.refl e32 f36 f37 (Or.inl (own_w11 hw)) (own_w1 hw) (ty := (.array .int)) (by decide) rfl rfl (g := (mkF m 9 #[.val (.ref a)] [(.ref a32), (.ref a)])) rfl rfl (hb hby own_d1_9)
  refine own_go st38 ?_
  have Fw38 := f36.same W38
  have N38 := Fr.snoc X38 N0 ga
  show own_Ends prg e below s _ _ _ T38 (mkF m 12 #[.val (.ref a)] [])
  refine own_retV X38 hx hlk hret (hb hby own_d1_12) (by decide) (by decide) ?_
  have f39 := ((K0.ext E32).wr W38 (Or.inl (List.mem_of_getElem? (i := 0) rfl)))
  have f40 := ((FA.ext E32).other W38 (Or.inr (slot_ne (Or.inl (own_w30 hw)) (Or.inl (own_w11 hw)) (by decide) (t := .int) (t' := (.array .int)) (by decide) (by decide))))
  have f41 := (V32.other W38 (Ne.symm ne35))
  rw [e38]; exact ⟨_, _, rfl, N38, f39, sz34, Fw38, f40, f41⟩
theorem own_and3 {p n : Int32} (h : p &&& 3 = n) : n = 0 ∨ n = 1 ∨ n = 2 ∨ n = 3 := by
  have h1 := c_mask p 3 2 (by decide) (by decide)
  rw [h] at h1
  have : n.toInt = 0 ∨ n.toInt = 1 ∨ n.toInt = 2 ∨ n.toInt = 3 := by omega
  rcases this with q | q | q | q
  · exact Or.inl (Int32.toInt_inj.mp q)
  · exact Or.inr (Or.inl (Int32.toInt_inj.mp q))
  · exact Or.inr (Or.inr (Or.inl (Int32.toInt_inj.mp q)))
  · exact Or.inr (Or.inr (Or.inr (Int32.toInt_inj.mp q)))
theorem own_and1 {p n : Int32} (h : p &&& 1 = n) : n = 0 ∨ n = 1 := by rw [← h]; exact own_b01 p
def own_Q0 (Z : State) (p0 : Int32) (p1 : Int32) (p2 : Int32) (p3 : Int32) (pa : Addr) (pk : ClassId) (h0 : Heap) (n0 : Nat) (v : Option Value) (h : Heap) (L : List Loc) : Prop := v = some (.int 1) ∧ Fr n0 L
theorem own_ef_rm0 (m : MethodId) (x0 : Int32) (x1 : Int32) (x2 : Int32) (x3 : Int32) : entryFrame m #[(.int x0), (.int x1), (.int x2), (.int x3)] maxLocals = mkF m 0 #[.val (.int x0), .val (.int x1), .val (.int x2), .val (.int x3), .unset, .unset, .unset, .unset, .unset, .unset, .unset] [] := by first | (simp [entryFrame, mkF, argsToLocals, Value.category, maxLocals]; done) | rfl
set_option maxRecDepth 65536 in
set_option maxHeartbeats 40000000 in
theorem own_rm0 (lch : Launch) (Z : State) (a0 : Array Value) (hw : ∀ d ∈ tables_1, d.before a0 Z = true) (ws : List Jvm.Cond) (p0 : Int32) (p1 : Int32) (p2 : Int32) (p3 : Int32) (pa : Addr) (pk : ClassId) (h0 : Heap) (n0 : Nat) (Z0 : n0 ≤ h0.size) (S0 : Sta Z h0 "com/example/larder/larder/cache/UseCounts" "SEEDS" "[I" (.ref pa)) (VS : Arv Z h0 pa pk .int (4 : Int32) [(.int (-1640531535 : Int32)), (.int (-2048144777 : Int32)), (.int (-1028477379 : Int32)), (.int (668265263 : Int32))] (.int (0 : Int32))) :
    MetFree lch x (head1 (Jvm.Cond.code x code maxLocals ret :: ws) room_1) (fun zz U => zz = #[(.int p0), (.int p1), (.int p2), (.int p3)] ∧ Z.Warmed39 U.vm ∧ U.heap = h0) (fun _ _ _ _ _ => True) (fun _ U o U' => ∃ v L, o = .returned v ∧ own_Q0 Z p0 p1 p2 p3 pa pk h0 n0 v U'.heap L ∧ FrameEnd U o U' L 16 128) := by
  refine MetFree.of_bodySF (plainFor_of_name own_pn1) hisR ?_
  intro prg e s m args below meth c s₁ Bd hml0 hP hK
  obtain ⟨rfl, hZ, hh⟩ := hP
  have hx := Bd.exec
  have hby := Bd.bytes
  have hml : c.maxLocals = 11 := hml0
  have hown : s.vm.findClass "com/example/larder/larder/cache/UseCountsAddPinLaw" = some m.cls := findClass_of_methodNamed Bd.named
  have hnm := (name_of_methodNamed Bd.named Bd.method).1
  have hlk : meth.locks = false := BodyLoose.notSynchronized Bd
  have hret := Bd.returns
  have X0 : Stand prg lch e room_1 s m #[(.int p0), (.int p1), (.int p2), (.int p3)] below meth c s₁ [] 0 0 := Stand.of_body Bd
  have e0 : s₁.heap = h0 := by rw [← hh, Bd.state]; rfl
  have N0 := Fr.nil n0
  show own_Ends prg e below s (own_Q0 Z p0 p1 p2 p3 pa pk h0 n0) 16 128 s₁ (entryFrame m #[(.int p0), (.int p1), (.int p2), (.int p3)] maxLocals)
  refine own_cast (own_ef_rm0 m p0 p1 p2 p3) ?_
  refine own_iloadN (pc' := 1) X0 hx (hb hby at_0) rfl rfl ?_
  refine own_iconst (pc' := 2) (z := (3 : Int32)) X0 hx (hb hby at_1) rfl rfl ?_
  obtain ⟨a31, ha31⟩ : ∃ z, (p3 &&& (3 : Int32)) = z := ⟨_, rfl⟩
  refine own_iand (pc' := 3) (z := a31) X0 hx (hb hby at_2) rfl ha31 ?_
  refine own_istore (pc' := 5) (l' := #[.val (.int p0), .val (.int p1), .val (.int p2), .val (.int p3), .val (.int a31), .unset, .unset, .unset, .unset, .unset, .unset]) X0 hx (hb hby at_3) rfl rfl ?_
  refine own_iloadN (pc' := 6) X0 hx (hb hby at_5) rfl rfl ?_
  refine own_iconst (pc' := 7) (z := (2 : Int32)) X0 hx (hb hby at_6) rfl rfl ?_
  refine own_iushr (pc' := 8) (z := (own_ushr p3 (2 : Int32))) X0 hx (hb hby at_7) rfl rfl ?_
  refine own_iconst (pc' := 9) (z := (1 : Int32)) X0 hx (hb hby at_8) rfl rfl ?_
  obtain ⟨b32, hb32⟩ : ∃ z, ((own_ushr p3 (2 : Int32)) &&& (1 : Int32)) = z := ⟨_, rfl⟩
  refine own_iand (pc' := 10) (z := b32) X0 hx (hb hby at_9) rfl hb32 ?_
  refine own_istore (pc' := 12) (l' := #[.val (.int p0), .val (.int p1), .val (.int p2), .val (.int p3), .val (.int a31), .val (.int b32), .unset, .unset, .unset, .unset, .unset]) X0 hx (hb hby at_10) rfl rfl ?_
  refine own_iloadN (pc' := 13) X0 hx (hb hby at_12) rfl rfl ?_
  refine own_iconst (pc' := 14) (z := (3 : Int32)) X0 hx (hb hby at_13) rfl rfl ?_
  refine own_iushr (pc' := 15) (z := (own_ushr p3 (3 : Int32))) X0 hx (hb hby at_14) rfl rfl ?_
  refine own_iconst (pc' := 16) (z := (1 : Int32)) X0 hx (hb hby at_15) rfl rfl ?_
  obtain ⟨c33, hc33⟩ : ∃ z, ((own_ushr p3 (3 : Int32)) &&& (1 : Int32)) = z := ⟨_, rfl⟩
  refine own_iand (pc' := 17) (z := c33) X0 hx (hb hby at_16) rfl hc33 ?_
  refine own_istore (pc' := 19) (l' := #[.val (.int p0), .val (.int p1), .val (.int p2), .val (.int p3), .val (.int a31), .val (.int b32), .val (.int c33), .unset, .unset, .unset, .unset]) X0 hx (hb hby at_17) rfl rfl ?_
  refine own_iloadN (pc' := 20) X0 hx (hb hby at_19) rfl rfl ?_
  refine own_iconst (pc' := 21) (z := (4 : Int32)) X0 hx (hb hby at_20) rfl rfl ?_
  refine own_iushr (pc' := 22) (z := (own_ushr p3 (4 : Int32))) X0 hx (hb hby at_21) rfl rfl ?_
  refine own_iconst (pc' := 23) (z := (1 : Int32)) X0 hx (hb hby at_22) rfl rfl ?_
  refine own_iand (pc' := 24) (z := ((own_ushr p3 (4 : Int32)) &&& (1 : Int32))) X0 hx (hb hby at_23) rfl rfl ?_
  have K35 : ∀ (k34 : Int32), own_Ends prg e below s (own_Q0 Z p0 p1 p2 p3 pa pk h0 n0) 16 128 s₁ (mkF m 32 #[.val (.int p0), .val (.int p1), .val (.int p2), .val (.int p3), .val (.int a31), .val (.int b32), .val (.int c33), .unset, .unset, .unset, .unset] [(.int k34)]) := by
    intro k34
    refine own_istore (pc' := 34) (l' := #[.val (.int p0), .val (.int p1), .val (.int p2), .val (.int p3), .val (.int a31), .val (.int b32), .val (.int c33), .val (.int k34), .unset, .unset, .unset]) X0 hx (hb hby at_32) rfl rfl ?_
    refine own_iloadN (pc' := 35) X0 hx (hb hby at_34) rfl rfl ?_
    refine own_iconst (pc' := 36) (z := (5 : Int32)) X0 hx (hb hby at_35) rfl rfl ?_
    refine own_iushr (pc' := 37) (z := (own_ushr p3 (5 : Int32))) X0 hx (hb hby at_36) rfl rfl ?_
    refine own_iconst (pc' := 38) (z := (1 : Int32)) X0 hx (hb hby at_37) rfl rfl ?_
    refine own_iand (pc' := 39) (z := ((own_ushr p3 (5 : Int32)) &&& (1 : Int32))) X0 hx (hb hby at_38) rfl rfl ?_
    have K37 : ∀ (k36 : Int32), own_Ends prg e below s (own_Q0 Z p0 p1 p2 p3 pa pk h0 n0) 16 128 s₁ (mkF m 61 #[.val (.int p0), .val (.int p1), .val (.int p2), .val (.int p3), .val (.int a31), .val (.int b32), .val (.int c33), .val (.int k34), .unset, .unset, .unset] [(.int k36)]) := by
      intro k36
      refine own_istore (pc' := 63) (l' := #[.val (.int p0), .val (.int p1), .val (.int p2), .val (.int p3), .val (.int a31), .val (.int b32), .val (.int c33), .val (.int k34), .val (.int k36), .unset, .unset]) X0 hx (hb hby at_61) rfl rfl ?_
      obtain ⟨T38, h38, X38, e38, E38, A38, D38, -, st38⟩ := newO X0 hx hZ hown (own_w0 hw) (own_w1 hw) (own_w2 hw) e0 (g := (mkF m 63 #[.val (.int p0), .val (.int p1), .val (.int p2), .val (.int p3), .val (.int a31), .val (.int b32), .val (.int c33), .val (.int k34), .val (.int k36), .unset, .unset] [])) rfl (hb hby at_63) (by decide) (by decide)
      refine own_go st38 ?_
      obtain ⟨a38, g38⟩ : ∃ z, z = h0.size := ⟨_, rfl⟩
      rw [← g38] at A38 D38
      have ge39 : n0 ≤ a38 := by rw [g38]; exact Z0
      have ne40 : pa ≠ a38 := Nat.ne_of_lt (by rw [g38]; exact VS.lt)
      have F41 : Fld Z h38 a38 "com/example/larder/larder/cache/UseCounts" "table" "[I" .null := D38 (Or.inl (own_w11 hw)) (ty := (.array .int)) (by decide)
      have F42 : Fld Z h38 a38 "com/example/larder/larder/cache/UseCounts" "additions" "I" (.int (0 : Int32)) := D38 (Or.inl (own_w30 hw)) (ty := .int) (by decide)
      show own_Ends prg e below s _ _ _ T38 (mkF m 66 #[.val (.int p0), .val (.int p1), .val (.int p2), .val (.int p3), .val (.int a31), .val (.int b32), .val (.int c33), .val (.int k34), .val (.int k36), .unset, .unset] [(.ref h0.size)])
      rw [← g38]
      refine own_dup (pc' := 67) X38 hx (hb hby at_66) rfl rfl ?_
      have f43 := (Nat.le_trans Z0 E38.1)
      refine own_callC (pc' := 70) (y := (⟨"com/example/larder/larder/cache/UseCounts", "<init>", "()V"⟩ : MethodName)) (W := 1) (rm := own_room1) (argsL := []) (rest := [(.ref a38)]) (b := a38) X38 hx hZ e38 hown (by rw [hml]; rfl) rfl rfl (own_w3 hw) (own_w4 hw) (own_w2 hw) (own_w5 hw) (by decide) (own_rm1 lch Z a0 hw [] a38 _ h38 n0 f43 A38 F41 F42 ge39) (by decide) (by decide) (by decide) (by decide) (lenOf own_pd3 rfl) rfl (by exact Nat.le_of_eq rfl) (hb hby at_67) rfl ?_
      intro T44 Lc44 v44 X44 hQ44
      obtain ⟨b44, bk44, rfl, Nq44, Kq44, G44_0, G44_1, G44_2, G44_3⟩ := hQ44
      have N44 := Fr.app N0 Nq44
      have ge45 : n0 ≤ b44 := Nat.le_trans f43 G44_0
      have f46 := (VS.ext E38)
      have ne47 : pa ≠ b44 := Nat.ne_of_lt (Nat.lt_of_lt_of_le f46.lt G44_0)
      have ne48 : a38 ≠ b44 := Nat.ne_of_lt (Nat.lt_of_lt_of_le A38.lt G44_0)
      show own_Ends prg e below s _ _ _ T44 (mkF m 70 #[.val (.int p0), .val (.int p1), .val (.int p2), .val (.int p3), .val (.int a31), .val (.int b32), .val (.int c33), .val (.int k34), .val (.int k36), .unset, .unset] [(.ref a38)])
      refine own_astore (pc' := 72) (l' := #[.val (.int p0), .val (.int p1), .val (.int p2), .val (.int p3), .val (.int a31), .val (.int b32), .val (.int c33), .val (.int k34), .val (.int k36), .val (.ref a38), .unset]) X44 hx (hb hby at_70) rfl rfl rfl ?_
      rcases own_and3 ha31 with rfl | rfl | rfl | rfl
      · refine own_iload (pc' := 74) X44 hx (hb hby at_72) rfl rfl ?_
        refine own_iconst (pc' := 75) (z := (1 : Int32)) X44 hx (hb hby at_74) rfl rfl ?_
        refine own_icmpYes (pc' := 84) X44 hx (hb hby at_75) (tlt (by decide)).1 (by decide) (by decide) ?_
        refine own_iload (pc' := 86) X44 hx (hb hby at_84) rfl rfl ?_
        refine own_iconst (pc' := 87) (z := (2 : Int32)) X44 hx (hb hby at_86) rfl rfl ?_
        refine own_icmpYes (pc' := 96) X44 hx (hb hby at_87) (tlt (by decide)).1 (by decide) (by decide) ?_
        refine own_iload (pc' := 98) X44 hx (hb hby at_96) rfl rfl ?_
        refine own_iconst (pc' := 99) (z := (3 : Int32)) X44 hx (hb hby at_98) rfl rfl ?_
        refine own_icmpYes (pc' := 108) X44 hx (hb hby at_99) (tlt (by decide)).1 (by decide) (by decide) ?_
        rcases own_and1 hb32 with rfl | rfl
        · refine own_iload (pc' := 110) X44 hx (hb hby at_108) rfl rfl ?_
          refine own_iconst (pc' := 111) (z := (1 : Int32)) X44 hx (hb hby at_110) rfl rfl ?_
          refine own_icmpYes (pc' := 121) X44 hx (hb hby at_111) (feq (by decide)).2 (by decide) (by decide) ?_
          rcases own_and1 hc33 with rfl | rfl
          · refine own_iload (pc' := 123) X44 hx (hb hby at_121) rfl rfl ?_
            refine own_iconst (pc' := 124) (z := (1 : Int32)) X44 hx (hb hby at_123) rfl rfl ?_
            refine own_icmpYes (pc' := 134) X44 hx (hb hby at_124) (feq (by decide)).2 (by decide) (by decide) ?_
            refine own_iload (pc' := 136) X44 hx (hb hby at_134) rfl rfl ?_
            refine own_iload (pc' := 138) X44 hx (hb hby at_136) rfl rfl ?_
            refine own_iadd (pc' := 139) (z := (0 : Int32)) X44 hx (hb hby at_138) rfl (by decide) ?_
            refine own_iload (pc' := 141) X44 hx (hb hby at_139) rfl rfl ?_
            refine own_iadd (pc' := 142) (z := (0 : Int32)) X44 hx (hb hby at_141) rfl (by decide) ?_
            refine own_istore (pc' := 144) (l' := #[.val (.int p0), .val (.int p1), .val (.int p2), .val (.int p3), .val (.int (0 : Int32)), .val (.int (0 : Int32)), .val (.int (0 : Int32)), .val (.int k34), .val (.int k36), .val (.ref a38), .val (.int (0 : Int32))]) X44 hx (hb hby at_142) rfl rfl ?_
            refine own_aload (pc' := 146) X44 hx (hb hby at_144) rfl rfl rfl ?_
            refine own_iloadN (pc' := 147) X44 hx (hb hby at_146) rfl rfl ?_
            have f49 := (A38.keep Kq44)
            have f50 := (own_stak (S0.ext E38) Kq44 (allS (own_exac A38) all0))
            have f51 := (f46.keep Kq44 (ninS ne40 nin0))
            refine own_callV (pc' := 150) (y := (⟨"com/example/larder/larder/cache/UseCounts", "of", "(I)I"⟩ : MethodName)) (W := 0) (rm := own_room7) (argsL := [(.int p0)]) (rest := []) (b := a38) (C := "com/example/larder/larder/cache/UseCounts") X44 hx hZ rfl hown (by rw [hml]; rfl) f49 (own_w31 hw) (own_w32 hw) (own_w34 hw) (own_w33 hw) (own_w2 hw) (own_w35 hw) (by decide) (own_rm7 lch Z a0 hw [] a38 p0 pa pk b44 bk44 (0 : Int32) (List.replicate 16 (0 : Int32)) [] T44.heap n0 f49 G44_1 G44_2 G44_3 own_repZ (by simp) (by decide) ge39 ge45 ne48 ne40 ne47 f50 f51) (by decide) (by decide) (by decide) (by decide) (lenOf own_pd0 rfl) rfl (by exact Nat.le_of_eq rfl) (hb hby at_147) rfl ?_
            intro T52 Lc52 v52 X52 hQ52
            obtain ⟨r52, rfl, Nq52, Kq52, G52_0⟩ := hQ52
            have N52 := Fr.app N44 Nq52
            show own_Ends prg e below s _ _ _ T52 (mkF m 150 #[.val (.int p0), .val (.int p1), .val (.int p2), .val (.int p3), .val (.int (0 : Int32)), .val (.int (0 : Int32)), .val (.int (0 : Int32)), .val (.int k34), .val (.int k36), .val (.ref a38), .val (.int (0 : Int32))] [(.int r52)])
            refine own_iloadN (pc' := 151) X52 hx (hb hby at_150) rfl rfl ?_
            refine own_iloadN (pc' := 152) X52 hx (hb hby at_151) rfl rfl ?_
            refine own_iload (pc' := 154) X52 hx (hb hby at_152) rfl rfl ?_
            refine own_iload (pc' := 156) X52 hx (hb hby at_154) rfl rfl ?_
            refine own_iload (pc' := 158) X52 hx (hb hby at_156) rfl rfl ?_
            refine own_iload (pc' := 160) X52 hx (hb hby at_158) rfl rfl ?_
            refine own_iload (pc' := 162) X52 hx (hb hby at_160) rfl rfl ?_
            refine own_callS (pc' := 165) (y := (⟨"com/example/larder/larder/cache/UseCountsAddPinLaw", "own", "(IIIIIII)I"⟩ : MethodName)) (W := 1) (rm := own_room9) (argsL := [(.int p0), (.int p0), (.int k34), (.int k36), (.int (0 : Int32)), (.int (0 : Int32)), (.int (0 : Int32))]) (rest := [(.int r52)]) X52 hx hZ Kq52 hown (by rw [hml]; rfl) (own_w40 hw) (own_w41 hw) (own_w42 hw) (own_w43 hw) (by decide) (own_rm9 lch Z a0 hw [] p0 p0 k34 k36 (0 : Int32) (0 : Int32) (0 : Int32) T44.heap n0) (by decide) (by decide) (by decide) (by decide) (lenOf own_pd4 rfl) rfl (by exact Nat.le_of_eq rfl) (hb hby at_162) rfl ?_
            intro T53 Lc53 v53 X53 hQ53
            obtain ⟨rfl, Nq53, Kq53⟩ := hQ53
            have N53 := Fr.app N52 Nq53
            show own_Ends prg e below s _ _ _ T53 (mkF m 165 #[.val (.int p0), .val (.int p1), .val (.int p2), .val (.int p3), .val (.int (0 : Int32)), .val (.int (0 : Int32)), .val (.int (0 : Int32)), .val (.int k34), .val (.int k36), .val (.ref a38), .val (.int (0 : Int32))] [(.int (own_own p0 p0 k34 k36 (0 : Int32) (0 : Int32) (0 : Int32))), (.int r52)])
            refine own_iload (pc' := 167) X53 hx (hb hby at_165) rfl rfl ?_
            have lw54 := own_low own_spread p0 p0 k34 k36 (a := 0) (b := 0) (c := 0) (by decide) (by decide) (by decide)
            replace lw54 : ((own_own p0 p0 k34 k36 (0 : Int32) (0 : Int32) (0 : Int32))).toInt ≤ (own_same [] (own_spread p0) : Int) := lw54
            have lw54r := G52_0
            replace lw54r : _ ∧ _ ≤ (0 : Int) := lw54r
            refine own_callS (pc' := 170) (y := (⟨"com/example/larder/larder/cache/UseCountsAddPinLaw", "within", "(III)Z"⟩ : MethodName)) (W := 0) (rm := own_room10) (argsL := [(.int r52), (.int (own_own p0 p0 k34 k36 (0 : Int32) (0 : Int32) (0 : Int32))), (.int (0 : Int32))]) (rest := []) X53 hx hZ Kq53 hown (by rw [hml]; rfl) (own_w44 hw) (own_w45 hw) (own_w42 hw) (own_w46 hw) (by decide) (own_rm10 lch Z a0 hw [] r52 (own_own p0 p0 k34 k36 (0 : Int32) (0 : Int32) (0 : Int32)) (0 : Int32) T44.heap n0 (by omega) (show _ ≤ (0 : Int) by omega)) (by decide) (by decide) (by decide) (by decide) (lenOf own_pd5 rfl) rfl (by exact Nat.le_of_eq rfl) (hb hby at_167) rfl ?_
            intro T55 Lc55 v55 X55 hQ55
            obtain ⟨rfl, Nq55, Kq55⟩ := hQ55
            have N55 := Fr.app N53 Nq55
            show own_Ends prg e below s _ _ _ T55 (mkF m 170 #[.val (.int p0), .val (.int p1), .val (.int p2), .val (.int p3), .val (.int (0 : Int32)), .val (.int (0 : Int32)), .val (.int (0 : Int32)), .val (.int k34), .val (.int k36), .val (.ref a38), .val (.int (0 : Int32))] [(.int (1 : Int32))])
            refine own_ifNo (pc' := 173) X55 hx (hb hby at_170) rfl (feq (by decide)).1 ?_
            refine own_aload (pc' := 175) X55 hx (hb hby at_173) rfl rfl rfl ?_
            refine own_iload (pc' := 177) X55 hx (hb hby at_175) rfl rfl ?_
            refine own_callV (pc' := 180) (y := (⟨"com/example/larder/larder/cache/UseCounts", "of", "(I)I"⟩ : MethodName)) (W := 0) (rm := own_room7) (argsL := [(.int k34)]) (rest := []) (b := a38) (C := "com/example/larder/larder/cache/UseCounts") X55 hx hZ Kq55 hown (by rw [hml]; rfl) f49 (own_w31 hw) (own_w32 hw) (own_w34 hw) (own_w33 hw) (own_w2 hw) (own_w35 hw) (by decide) (own_rm7 lch Z a0 hw [] a38 k34 pa pk b44 bk44 (0 : Int32) (List.replicate 16 (0 : Int32)) [] T44.heap n0 f49 G44_1 G44_2 G44_3 own_repZ (by simp) (by decide) ge39 ge45 ne48 ne40 ne47 f50 f51) (by decide) (by decide) (by decide) (by decide) (lenOf own_pd0 rfl) rfl (by exact Nat.le_of_eq rfl) (hb hby at_177) rfl ?_
            intro T56 Lc56 v56 X56 hQ56
            obtain ⟨r56, rfl, Nq56, Kq56, G56_0⟩ := hQ56
            have N56 := Fr.app N55 Nq56
            show own_Ends prg e below s _ _ _ T56 (mkF m 180 #[.val (.int p0), .val (.int p1), .val (.int p2), .val (.int p3), .val (.int (0 : Int32)), .val (.int (0 : Int32)), .val (.int (0 : Int32)), .val (.int k34), .val (.int k36), .val (.ref a38), .val (.int (0 : Int32))] [(.int r56)])
            refine own_iload (pc' := 182) X56 hx (hb hby at_180) rfl rfl ?_
            refine own_iloadN (pc' := 183) X56 hx (hb hby at_182) rfl rfl ?_
            refine own_iload (pc' := 185) X56 hx (hb hby at_183) rfl rfl ?_
            refine own_iload (pc' := 187) X56 hx (hb hby at_185) rfl rfl ?_
            refine own_iload (pc' := 189) X56 hx (hb hby at_187) rfl rfl ?_
            refine own_iload (pc' := 191) X56 hx (hb hby at_189) rfl rfl ?_
            refine own_iload (pc' := 193) X56 hx (hb hby at_191) rfl rfl ?_
            refine own_callS (pc' := 196) (y := (⟨"com/example/larder/larder/cache/UseCountsAddPinLaw", "own", "(IIIIIII)I"⟩ : MethodName)) (W := 1) (rm := own_room9) (argsL := [(.int k34), (.int p0), (.int k34), (.int k36), (.int (0 : Int32)), (.int (0 : Int32)), (.int (0 : Int32))]) (rest := [(.int r56)]) X56 hx hZ Kq56 hown (by rw [hml]; rfl) (own_w40 hw) (own_w41 hw) (own_w42 hw) (own_w43 hw) (by decide) (own_rm9 lch Z a0 hw [] k34 p0 k34 k36 (0 : Int32) (0 : Int32) (0 : Int32) T44.heap n0) (by decide) (by decide) (by decide) (by decide) (lenOf own_pd4 rfl) rfl (by exact Nat.le_of_eq rfl) (hb hby at_193) rfl ?_
            intro T57 Lc57 v57 X57 hQ57
            obtain ⟨rfl, Nq57, Kq57⟩ := hQ57
            have N57 := Fr.app N56 Nq57
            show own_Ends prg e below s _ _ _ T57 (mkF m 196 #[.val (.int p0), .val (.int p1), .val (.int p2), .val (.int p3), .val (.int (0 : Int32)), .val (.int (0 : Int32)), .val (.int (0 : Int32)), .val (.int k34), .val (.int k36), .val (.ref a38), .val (.int (0 : Int32))] [(.int (own_own k34 p0 k34 k36 (0 : Int32) (0 : Int32) (0 : Int32))), (.int r56)])
            refine own_iload (pc' := 198) X57 hx (hb hby at_196) rfl rfl ?_
            have lw58 := own_low own_spread k34 p0 k34 k36 (a := 0) (b := 0) (c := 0) (by decide) (by decide) (by decide)
            replace lw58 : ((own_own k34 p0 k34 k36 (0 : Int32) (0 : Int32) (0 : Int32))).toInt ≤ (own_same [] (own_spread k34) : Int) := lw58
            have lw58r := G56_0
            replace lw58r : _ ∧ _ ≤ (0 : Int) := lw58r
            refine own_callS (pc' := 201) (y := (⟨"com/example/larder/larder/cache/UseCountsAddPinLaw", "within", "(III)Z"⟩ : MethodName)) (W := 0) (rm := own_room10) (argsL := [(.int r56), (.int (own_own k34 p0 k34 k36 (0 : Int32) (0 : Int32) (0 : Int32))), (.int (0 : Int32))]) (rest := []) X57 hx hZ Kq57 hown (by rw [hml]; rfl) (own_w44 hw) (own_w45 hw) (own_w42 hw) (own_w46 hw) (by decide) (own_rm10 lch Z a0 hw [] r56 (own_own k34 p0 k34 k36 (0 : Int32) (0 : Int32) (0 : Int32)) (0 : Int32) T44.heap n0 (by omega) (show _ ≤ (0 : Int) by omega)) (by decide) (by decide) (by decide) (by decide) (lenOf own_pd5 rfl) rfl (by exact Nat.le_of_eq rfl) (hb hby at_198) rfl ?_
            intro T59 Lc59 v59 X59 hQ59
            obtain ⟨rfl, Nq59, Kq59⟩ := hQ59
            have N59 := Fr.app N57 Nq59
            show own_Ends prg e below s _ _ _ T59 (mkF m 201 #[.val (.int p0), .val (.int p1), .val (.int p2), .val (.int p3), .val (.int (0 : Int32)), .val (.int (0 : Int32)), .val (.int (0 : Int32)), .val (.int k34), .val (.int k36), .val (.ref a38), .val (.int (0 : Int32))] [(.int (1 : Int32))])
            refine own_ifNo (pc' := 204) X59 hx (hb hby at_201) rfl (feq (by decide)).1 ?_
            refine own_aload (pc' := 206) X59 hx (hb hby at_204) rfl rfl rfl ?_
            refine own_iload (pc' := 208) X59 hx (hb hby at_206) rfl rfl ?_
            refine own_callV (pc' := 211) (y := (⟨"com/example/larder/larder/cache/UseCounts", "of", "(I)I"⟩ : MethodName)) (W := 0) (rm := own_room7) (argsL := [(.int k36)]) (rest := []) (b := a38) (C := "com/example/larder/larder/cache/UseCounts") X59 hx hZ Kq59 hown (by rw [hml]; rfl) f49 (own_w31 hw) (own_w32 hw) (own_w34 hw) (own_w33 hw) (own_w2 hw) (own_w35 hw) (by decide) (own_rm7 lch Z a0 hw [] a38 k36 pa pk b44 bk44 (0 : Int32) (List.replicate 16 (0 : Int32)) [] T44.heap n0 f49 G44_1 G44_2 G44_3 own_repZ (by simp) (by decide) ge39 ge45 ne48 ne40 ne47 f50 f51) (by decide) (by decide) (by decide) (by decide) (lenOf own_pd0 rfl) rfl (by exact Nat.le_of_eq rfl) (hb hby at_208) rfl ?_
            intro T60 Lc60 v60 X60 hQ60
            obtain ⟨r60, rfl, Nq60, Kq60, G60_0⟩ := hQ60
            have N60 := Fr.app N59 Nq60
            show own_Ends prg e below s _ _ _ T60 (mkF m 211 #[.val (.int p0), .val (.int p1), .val (.int p2), .val (.int p3), .val (.int (0 : Int32)), .val (.int (0 : Int32)), .val (.int (0 : Int32)), .val (.int k34), .val (.int k36), .val (.ref a38), .val (.int (0 : Int32))] [(.int r60)])
            refine own_iload (pc' := 213) X60 hx (hb hby at_211) rfl rfl ?_
            refine own_iloadN (pc' := 214) X60 hx (hb hby at_213) rfl rfl ?_
            refine own_iload (pc' := 216) X60 hx (hb hby at_214) rfl rfl ?_
            refine own_iload (pc' := 218) X60 hx (hb hby at_216) rfl rfl ?_
            refine own_iload (pc' := 220) X60 hx (hb hby at_218) rfl rfl ?_
            refine own_iload (pc' := 222) X60 hx (hb hby at_220) rfl rfl ?_
            refine own_iload (pc' := 224) X60 hx (hb hby at_222) rfl rfl ?_
            refine own_callS (pc' := 227) (y := (⟨"com/example/larder/larder/cache/UseCountsAddPinLaw", "own", "(IIIIIII)I"⟩ : MethodName)) (W := 1) (rm := own_room9) (argsL := [(.int k36), (.int p0), (.int k34), (.int k36), (.int (0 : Int32)), (.int (0 : Int32)), (.int (0 : Int32))]) (rest := [(.int r60)]) X60 hx hZ Kq60 hown (by rw [hml]; rfl) (own_w40 hw) (own_w41 hw) (own_w42 hw) (own_w43 hw) (by decide) (own_rm9 lch Z a0 hw [] k36 p0 k34 k36 (0 : Int32) (0 : Int32) (0 : Int32) T44.heap n0) (by decide) (by decide) (by decide) (by decide) (lenOf own_pd4 rfl) rfl (by exact Nat.le_of_eq rfl) (hb hby at_224) rfl ?_
            intro T61 Lc61 v61 X61 hQ61
            obtain ⟨rfl, Nq61, Kq61⟩ := hQ61
            have N61 := Fr.app N60 Nq61
            show own_Ends prg e below s _ _ _ T61 (mkF m 227 #[.val (.int p0), .val (.int p1), .val (.int p2), .val (.int p3), .val (.int (0 : Int32)), .val (.int (0 : Int32)), .val (.int (0 : Int32)), .val (.int k34), .val (.int k36), .val (.ref a38), .val (.int (0 : Int32))] [(.int (own_own k36 p0 k34 k36 (0 : Int32) (0 : Int32) (0 : Int32))), (.int r60)])
            refine own_iload (pc' := 229) X61 hx (hb hby at_227) rfl rfl ?_
            have lw62 := own_low own_spread k36 p0 k34 k36 (a := 0) (b := 0) (c := 0) (by decide) (by decide) (by decide)
            replace lw62 : ((own_own k36 p0 k34 k36 (0 : Int32) (0 : Int32) (0 : Int32))).toInt ≤ (own_same [] (own_spread k36) : Int) := lw62
            have lw62r := G60_0
            replace lw62r : _ ∧ _ ≤ (0 : Int) := lw62r
            refine own_callS (pc' := 232) (y := (⟨"com/example/larder/larder/cache/UseCountsAddPinLaw", "within", "(III)Z"⟩ : MethodName)) (W := 0) (rm := own_room10) (argsL := [(.int r60), (.int (own_own k36 p0 k34 k36 (0 : Int32) (0 : Int32) (0 : Int32))), (.int (0 : Int32))]) (rest := []) X61 hx hZ Kq61 hown (by rw [hml]; rfl) (own_w44 hw) (own_w45 hw) (own_w42 hw) (own_w46 hw) (by decide) (own_rm10 lch Z a0 hw [] r60 (own_own k36 p0 k34 k36 (0 : Int32) (0 : Int32) (0 : Int32)) (0 : Int32) T44.heap n0 (by omega) (show _ ≤ (0 : Int) by omega)) (by decide) (by decide) (by decide) (by decide) (lenOf own_pd5 rfl) rfl (by exact Nat.le_of_eq rfl) (hb hby at_229) rfl ?_
            intro T63 Lc63 v63 X63 hQ63
            obtain ⟨rfl, Nq63, Kq63⟩ := hQ63
            have N63 := Fr.app N61 Nq63
            show own_Ends prg e below s _ _ _ T63 (mkF m 232 #[.val (.int p0), .val (.int p1), .val (.int p2), .val (.int p3), .val (.int (0 : Int32)), .val (.int (0 : Int32)), .val (.int (0 : Int32)), .val (.int k34), .val (.int k36), .val (.ref a38), .val (.int (0 : Int32))] [(.int (1 : Int32))])
            refine own_ifNo (pc' := 235) X63 hx (hb hby at_232) rfl (feq (by decide)).1 ?_
            refine own_iconst (pc' := 236) (z := (1 : Int32)) X63 hx (hb hby at_235) rfl rfl ?_
            refine own_goto (pc' := 240) X63 hx (hb hby at_236) (by decide) (by decide) ?_
            refine own_retN X63 hx hlk hret (by simp) (hb hby at_240) (by decide) (by decide) ?_
            exact ⟨rfl, N63⟩
          · refine own_iload (pc' := 123) X44 hx (hb hby at_121) rfl rfl ?_
            refine own_iconst (pc' := 124) (z := (1 : Int32)) X44 hx (hb hby at_123) rfl rfl ?_
            refine own_icmpNo (pc' := 127) X44 hx (hb hby at_124) rfl (teq (by decide)).2 ?_
            refine own_aload (pc' := 129) X44 hx (hb hby at_127) rfl rfl rfl ?_
            refine own_iload (pc' := 131) X44 hx (hb hby at_129) rfl rfl ?_
            have f64 := (A38.keep Kq44)
            have f65 := (own_stak (S0.ext E38) Kq44 (allS (own_exac A38) all0))
            have f66 := (f46.keep Kq44 (ninS ne40 nin0))
            refine own_callV (pc' := 134) (y := (⟨"com/example/larder/larder/cache/UseCounts", "add", "(I)V"⟩ : MethodName)) (W := 0) (rm := own_room3) (argsL := [(.int k36)]) (rest := []) (b := a38) (C := "com/example/larder/larder/cache/UseCounts") X44 hx hZ rfl hown (by rw [hml]; rfl) f64 (own_w12 hw) (own_w13 hw) (own_w15 hw) (own_w14 hw) (own_w2 hw) (own_w16 hw) (by decide) (own_rm3 lch Z a0 hw [] a38 k36 pa pk b44 bk44 (0 : Int32) (List.replicate 16 (0 : Int32)) [] T44.heap n0 f64 G44_1 G44_2 G44_3 own_repZ (by simp) (by decide) ge39 ge45 ne48 ne40 ne47 f65 f66) (by decide) (by decide) (by decide) (by decide) (lenOf own_pd6 rfl) rfl (by exact Nat.le_of_eq rfl) (hb hby at_131) rfl ?_
            intro T67 Lc67 v67 X67 hQ67
            obtain ⟨l267, rfl, Nq67, Kq67, G67_0, G67_1, G67_2, G67_3⟩ := hQ67
            have N67 := Fr.app N44 Nq67
            have F68 : Fld Z T67.heap a38 "com/example/larder/larder/cache/UseCounts" "additions" "I" (.int (1 : Int32)) := G67_1
            replace G67_3 : own_rep l267 [own_spread k36] := G67_3
            show own_Ends prg e below s _ _ _ T67 (mkF m 134 #[.val (.int p0), .val (.int p1), .val (.int p2), .val (.int p3), .val (.int (0 : Int32)), .val (.int (0 : Int32)), .val (.int (1 : Int32)), .val (.int k34), .val (.int k36), .val (.ref a38), .unset] [])
            refine own_iload (pc' := 136) X67 hx (hb hby at_134) rfl rfl ?_
            refine own_iload (pc' := 138) X67 hx (hb hby at_136) rfl rfl ?_
            refine own_iadd (pc' := 139) (z := (0 : Int32)) X67 hx (hb hby at_138) rfl (by decide) ?_
            refine own_iload (pc' := 141) X67 hx (hb hby at_139) rfl rfl ?_
            refine own_iadd (pc' := 142) (z := (1 : Int32)) X67 hx (hb hby at_141) rfl (by decide) ?_
            refine own_istore (pc' := 144) (l' := #[.val (.int p0), .val (.int p1), .val (.int p2), .val (.int p3), .val (.int (0 : Int32)), .val (.int (0 : Int32)), .val (.int (1 : Int32)), .val (.int k34), .val (.int k36), .val (.ref a38), .val (.int (1 : Int32))]) X67 hx (hb hby at_142) rfl rfl ?_
            refine own_aload (pc' := 146) X67 hx (hb hby at_144) rfl rfl rfl ?_
            refine own_iloadN (pc' := 147) X67 hx (hb hby at_146) rfl rfl ?_
            have f69 := (f64.keep Kq67)
            have f70 := (own_stak f65 Kq67 (allS (own_exac f64) (allS (own_arvc G44_3) all0)))
            have f71 := (f66.keep Kq67 (ninS ne40 (ninS ne47 nin0)))
            refine own_callV (pc' := 150) (y := (⟨"com/example/larder/larder/cache/UseCounts", "of", "(I)I"⟩ : MethodName)) (W := 0) (rm := own_room7) (argsL := [(.int p0)]) (rest := []) (b := a38) (C := "com/example/larder/larder/cache/UseCounts") X67 hx hZ rfl hown (by rw [hml]; rfl) f69 (own_w31 hw) (own_w32 hw) (own_w34 hw) (own_w33 hw) (own_w2 hw) (own_w35 hw) (by decide) (own_rm7 lch Z a0 hw [] a38 p0 pa pk b44 bk44 (1 : Int32) l267 [own_spread k36] T67.heap n0 f69 G67_0 F68 G67_2 G67_3 (by simp) (by decide) ge39 ge45 ne48 ne40 ne47 f70 f71) (by decide) (by decide) (by decide) (by decide) (lenOf own_pd0 rfl) rfl (by exact Nat.le_of_eq rfl) (hb hby at_147) rfl ?_
            intro T72 Lc72 v72 X72 hQ72
            obtain ⟨r72, rfl, Nq72, Kq72, G72_0⟩ := hQ72
            have N72 := Fr.app N67 Nq72
            show own_Ends prg e below s _ _ _ T72 (mkF m 150 #[.val (.int p0), .val (.int p1), .val (.int p2), .val (.int p3), .val (.int (0 : Int32)), .val (.int (0 : Int32)), .val (.int (1 : Int32)), .val (.int k34), .val (.int k36), .val (.ref a38), .val (.int (1 : Int32))] [(.int r72)])
            refine own_iloadN (pc' := 151) X72 hx (hb hby at_150) rfl rfl ?_
            refine own_iloadN (pc' := 152) X72 hx (hb hby at_151) rfl rfl ?_
            refine own_iload (pc' := 154) X72 hx (hb hby at_152) rfl rfl ?_
            refine own_iload (pc' := 156) X72 hx (hb hby at_154) rfl rfl ?_
            refine own_iload (pc' := 158) X72 hx (hb hby at_156) rfl rfl ?_
            refine own_iload (pc' := 160) X72 hx (hb hby at_158) rfl rfl ?_
            refine own_iload (pc' := 162) X72 hx (hb hby at_160) rfl rfl ?_
            refine own_callS (pc' := 165) (y := (⟨"com/example/larder/larder/cache/UseCountsAddPinLaw", "own", "(IIIIIII)I"⟩ : MethodName)) (W := 1) (rm := own_room9) (argsL := [(.int p0), (.int p0), (.int k34), (.int k36), (.int (0 : Int32)), (.int (0 : Int32)), (.int (1 : Int32))]) (rest := [(.int r72)]) X72 hx hZ Kq72 hown (by rw [hml]; rfl) (own_w40 hw) (own_w41 hw) (own_w42 hw) (own_w43 hw) (by decide) (own_rm9 lch Z a0 hw [] p0 p0 k34 k36 (0 : Int32) (0 : Int32) (1 : Int32) T67.heap n0) (by decide) (by decide) (by decide) (by decide) (lenOf own_pd4 rfl) rfl (by exact Nat.le_of_eq rfl) (hb hby at_162) rfl ?_
            intro T73 Lc73 v73 X73 hQ73
            obtain ⟨rfl, Nq73, Kq73⟩ := hQ73
            have N73 := Fr.app N72 Nq73
            show own_Ends prg e below s _ _ _ T73 (mkF m 165 #[.val (.int p0), .val (.int p1), .val (.int p2), .val (.int p3), .val (.int (0 : Int32)), .val (.int (0 : Int32)), .val (.int (1 : Int32)), .val (.int k34), .val (.int k36), .val (.ref a38), .val (.int (1 : Int32))] [(.int (own_own p0 p0 k34 k36 (0 : Int32) (0 : Int32) (1 : Int32))), (.int r72)])
            refine own_iload (pc' := 167) X73 hx (hb hby at_165) rfl rfl ?_
            have lw74 := own_low own_spread p0 p0 k34 k36 (a := 0) (b := 0) (c := 1) (by decide) (by decide) (by decide)
            replace lw74 : ((own_own p0 p0 k34 k36 (0 : Int32) (0 : Int32) (1 : Int32))).toInt ≤ (own_same [own_spread k36] (own_spread p0) : Int) := lw74
            have lw74r := G72_0
            replace lw74r : _ ∧ _ ≤ (1 : Int) := lw74r
            refine own_callS (pc' := 170) (y := (⟨"com/example/larder/larder/cache/UseCountsAddPinLaw", "within", "(III)Z"⟩ : MethodName)) (W := 0) (rm := own_room10) (argsL := [(.int r72), (.int (own_own p0 p0 k34 k36 (0 : Int32) (0 : Int32) (1 : Int32))), (.int (1 : Int32))]) (rest := []) X73 hx hZ Kq73 hown (by rw [hml]; rfl) (own_w44 hw) (own_w45 hw) (own_w42 hw) (own_w46 hw) (by decide) (own_rm10 lch Z a0 hw [] r72 (own_own p0 p0 k34 k36 (0 : Int32) (0 : Int32) (1 : Int32)) (1 : Int32) T67.heap n0 (by omega) (show _ ≤ (1 : Int) by omega)) (by decide) (by decide) (by decide) (by decide) (lenOf own_pd5 rfl) rfl (by exact Nat.le_of_eq rfl) (hb hby at_167) rfl ?_
            intro T75 Lc75 v75 X75 hQ75
            obtain ⟨rfl, Nq75, Kq75⟩ := hQ75
            have N75 := Fr.app N73 Nq75
            show own_Ends prg e below s _ _ _ T75 (mkF m 170 #[.val (.int p0), .val (.int p1), .val (.int p2), .val (.int p3), .val (.int (0 : Int32)), .val (.int (0 : Int32)), .val (.int (1 : Int32)), .val (.int k34), .val (.int k36), .val (.ref a38), .val (.int (1 : Int32))] [(.int (1 : Int32))])
            refine own_ifNo (pc' := 173) X75 hx (hb hby at_170) rfl (feq (by decide)).1 ?_
            refine own_aload (pc' := 175) X75 hx (hb hby at_173) rfl rfl rfl ?_
            refine own_iload (pc' := 177) X75 hx (hb hby at_175) rfl rfl ?_
            refine own_callV (pc' := 180) (y := (⟨"com/example/larder/larder/cache/UseCounts", "of", "(I)I"⟩ : MethodName)) (W := 0) (rm := own_room7) (argsL := [(.int k34)]) (rest := []) (b := a38) (C := "com/example/larder/larder/cache/UseCounts") X75 hx hZ Kq75 hown (by rw [hml]; rfl) f69 (own_w31 hw) (own_w32 hw) (own_w34 hw) (own_w33 hw) (own_w2 hw) (own_w35 hw) (by decide) (own_rm7 lch Z a0 hw [] a38 k34 pa pk b44 bk44 (1 : Int32) l267 [own_spread k36] T67.heap n0 f69 G67_0 F68 G67_2 G67_3 (by simp) (by decide) ge39 ge45 ne48 ne40 ne47 f70 f71) (by decide) (by decide) (by decide) (by decide) (lenOf own_pd0 rfl) rfl (by exact Nat.le_of_eq rfl) (hb hby at_177) rfl ?_
            intro T76 Lc76 v76 X76 hQ76
            obtain ⟨r76, rfl, Nq76, Kq76, G76_0⟩ := hQ76
            have N76 := Fr.app N75 Nq76
            show own_Ends prg e below s _ _ _ T76 (mkF m 180 #[.val (.int p0), .val (.int p1), .val (.int p2), .val (.int p3), .val (.int (0 : Int32)), .val (.int (0 : Int32)), .val (.int (1 : Int32)), .val (.int k34), .val (.int k36), .val (.ref a38), .val (.int (1 : Int32))] [(.int r76)])
            refine own_iload (pc' := 182) X76 hx (hb hby at_180) rfl rfl ?_
            refine own_iloadN (pc' := 183) X76 hx (hb hby at_182) rfl rfl ?_
            refine own_iload (pc' := 185) X76 hx (hb hby at_183) rfl rfl ?_
            refine own_iload (pc' := 187) X76 hx (hb hby at_185) rfl rfl ?_
            refine own_iload (pc' := 189) X76 hx (hb hby at_187) rfl rfl ?_
            refine own_iload (pc' := 191) X76 hx (hb hby at_189) rfl rfl ?_
            refine own_iload (pc' := 193) X76 hx (hb hby at_191) rfl rfl ?_
            refine own_callS (pc' := 196) (y := (⟨"com/example/larder/larder/cache/UseCountsAddPinLaw", "own", "(IIIIIII)I"⟩ : MethodName)) (W := 1) (rm := own_room9) (argsL := [(.int k34), (.int p0), (.int k34), (.int k36), (.int (0 : Int32)), (.int (0 : Int32)), (.int (1 : Int32))]) (rest := [(.int r76)]) X76 hx hZ Kq76 hown (by rw [hml]; rfl) (own_w40 hw) (own_w41 hw) (own_w42 hw) (own_w43 hw) (by decide) (own_rm9 lch Z a0 hw [] k34 p0 k34 k36 (0 : Int32) (0 : Int32) (1 : Int32) T67.heap n0) (by decide) (by decide) (by decide) (by decide) (lenOf own_pd4 rfl) rfl (by exact Nat.le_of_eq rfl) (hb hby at_193) rfl ?_
            intro T77 Lc77 v77 X77 hQ77
            obtain ⟨rfl, Nq77, Kq77⟩ := hQ77
            have N77 := Fr.app N76 Nq77
            show own_Ends prg e below s _ _ _ T77 (mkF m 196 #[.val (.int p0), .val (.int p1), .val (.int p2), .val (.int p3), .val (.int (0 : Int32)), .val (.int (0 : Int32)), .val (.int (1 : Int32)), .val (.int k34), .val (.int k36), .val (.ref a38), .val (.int (1 : Int32))] [(.int (own_own k34 p0 k34 k36 (0 : Int32) (0 : Int32) (1 : Int32))), (.int r76)])
            refine own_iload (pc' := 198) X77 hx (hb hby at_196) rfl rfl ?_
            have lw78 := own_low own_spread k34 p0 k34 k36 (a := 0) (b := 0) (c := 1) (by decide) (by decide) (by decide)
            replace lw78 : ((own_own k34 p0 k34 k36 (0 : Int32) (0 : Int32) (1 : Int32))).toInt ≤ (own_same [own_spread k36] (own_spread k34) : Int) := lw78
            have lw78r := G76_0
            replace lw78r : _ ∧ _ ≤ (1 : Int) := lw78r
            refine own_callS (pc' := 201) (y := (⟨"com/example/larder/larder/cache/UseCountsAddPinLaw", "within", "(III)Z"⟩ : MethodName)) (W := 0) (rm := own_room10) (argsL := [(.int r76), (.int (own_own k34 p0 k34 k36 (0 : Int32) (0 : Int32) (1 : Int32))), (.int (1 : Int32))]) (rest := []) X77 hx hZ Kq77 hown (by rw [hml]; rfl) (own_w44 hw) (own_w45 hw) (own_w42 hw) (own_w46 hw) (by decide) (own_rm10 lch Z a0 hw [] r76 (own_own k34 p0 k34 k36 (0 : Int32) (0 : Int32) (1 : Int32)) (1 : Int32) T67.heap n0 (by omega) (show _ ≤ (1 : Int) by omega)) (by decide) (by decide) (by decide) (by decide) (lenOf own_pd5 rfl) rfl (by exact Nat.le_of_eq rfl) (hb hby at_198) rfl ?_
            intro T79 Lc79 v79 X79 hQ79
            obtain ⟨rfl, Nq79, Kq79⟩ := hQ79
            have N79 := Fr.app N77 Nq79
            show own_Ends prg e below s _ _ _ T79 (mkF m 201 #[.val (.int p0), .val (.int p1), .val (.int p2), .val (.int p3), .val (.int (0 : Int32)), .val (.int (0 : Int32)), .val (.int (1 : Int32)), .val (.int k34), .val (.int k36), .val (.ref a38), .val (.int (1 : Int32))] [(.int (1 : Int32))])
            refine own_ifNo (pc' := 204) X79 hx (hb hby at_201) rfl (feq (by decide)).1 ?_
            refine own_aload (pc' := 206) X79 hx (hb hby at_204) rfl rfl rfl ?_
            refine own_iload (pc' := 208) X79 hx (hb hby at_206) rfl rfl ?_
            refine own_callV (pc' := 211) (y := (⟨"com/example/larder/larder/cache/UseCounts", "of", "(I)I"⟩ : MethodName)) (W := 0) (rm := own_room7) (argsL := [(.int k36)]) (rest := []) (b := a38) (C := "com/example/larder/larder/cache/UseCounts") X79 hx hZ Kq79 hown (by rw [hml]; rfl) f69 (own_w31 hw) (own_w32 hw) (own_w34 hw) (own_w33 hw) (own_w2 hw) (own_w35 hw) (by decide) (own_rm7 lch Z a0 hw [] a38 k36 pa pk b44 bk44 (1 : Int32) l267 [own_spread k36] T67.heap n0 f69 G67_0 F68 G67_2 G67_3 (by simp) (by decide) ge39 ge45 ne48 ne40 ne47 f70 f71) (by decide) (by decide) (by decide) (by decide) (lenOf own_pd0 rfl) rfl (by exact Nat.le_of_eq rfl) (hb hby at_208) rfl ?_
            intro T80 Lc80 v80 X80 hQ80
            obtain ⟨r80, rfl, Nq80, Kq80, G80_0⟩ := hQ80
            have N80 := Fr.app N79 Nq80
            show own_Ends prg e below s _ _ _ T80 (mkF m 211 #[.val (.int p0), .val (.int p1), .val (.int p2), .val (.int p3), .val (.int (0 : Int32)), .val (.int (0 : Int32)), .val (.int (1 : Int32)), .val (.int k34), .val (.int k36), .val (.ref a38), .val (.int (1 : Int32))] [(.int r80)])
            refine own_iload (pc' := 213) X80 hx (hb hby at_211) rfl rfl ?_
            refine own_iloadN (pc' := 214) X80 hx (hb hby at_213) rfl rfl ?_
            refine own_iload (pc' := 216) X80 hx (hb hby at_214) rfl rfl ?_
            refine own_iload (pc' := 218) X80 hx (hb hby at_216) rfl rfl ?_
            refine own_iload (pc' := 220) X80 hx (hb hby at_218) rfl rfl ?_
            refine own_iload (pc' := 222) X80 hx (hb hby at_220) rfl rfl ?_
            refine own_iload (pc' := 224) X80 hx (hb hby at_222) rfl rfl ?_
            refine own_callS (pc' := 227) (y := (⟨"com/example/larder/larder/cache/UseCountsAddPinLaw", "own", "(IIIIIII)I"⟩ : MethodName)) (W := 1) (rm := own_room9) (argsL := [(.int k36), (.int p0), (.int k34), (.int k36), (.int (0 : Int32)), (.int (0 : Int32)), (.int (1 : Int32))]) (rest := [(.int r80)]) X80 hx hZ Kq80 hown (by rw [hml]; rfl) (own_w40 hw) (own_w41 hw) (own_w42 hw) (own_w43 hw) (by decide) (own_rm9 lch Z a0 hw [] k36 p0 k34 k36 (0 : Int32) (0 : Int32) (1 : Int32) T67.heap n0) (by decide) (by decide) (by decide) (by decide) (lenOf own_pd4 rfl) rfl (by exact Nat.le_of_eq rfl) (hb hby at_224) rfl ?_
            intro T81 Lc81 v81 X81 hQ81
            obtain ⟨rfl, Nq81, Kq81⟩ := hQ81
            have N81 := Fr.app N80 Nq81
            show own_Ends prg e below s _ _ _ T81 (mkF m 227 #[.val (.int p0), .val (.int p1), .val (.int p2), .val (.int p3), .val (.int (0 : Int32)), .val (.int (0 : Int32)), .val (.int (1 : Int32)), .val (.int k34), .val (.int k36), .val (.ref a38), .val (.int (1 : Int32))] [(.int (own_own k36 p0 k34 k36 (0 : Int32) (0 : Int32) (1 : Int32))), (.int r80)])
            refine own_iload (pc' := 229) X81 hx (hb hby at_227) rfl rfl ?_
            have lw82 := own_low own_spread k36 p0 k34 k36 (a := 0) (b := 0) (c := 1) (by decide) (by decide) (by decide)
            replace lw82 : ((own_own k36 p0 k34 k36 (0 : Int32) (0 : Int32) (1 : Int32))).toInt ≤ (own_same [own_spread k36] (own_spread k36) : Int) := lw82
            have lw82r := G80_0
            replace lw82r : _ ∧ _ ≤ (1 : Int) := lw82r
            refine own_callS (pc' := 232) (y := (⟨"com/example/larder/larder/cache/UseCountsAddPinLaw", "within", "(III)Z"⟩ : MethodName)) (W := 0) (rm := own_room10) (argsL := [(.int r80), (.int (own_own k36 p0 k34 k36 (0 : Int32) (0 : Int32) (1 : Int32))), (.int (1 : Int32))]) (rest := []) X81 hx hZ Kq81 hown (by rw [hml]; rfl) (own_w44 hw) (own_w45 hw) (own_w42 hw) (own_w46 hw) (by decide) (own_rm10 lch Z a0 hw [] r80 (own_own k36 p0 k34 k36 (0 : Int32) (0 : Int32) (1 : Int32)) (1 : Int32) T67.heap n0 (by omega) (show _ ≤ (1 : Int) by omega)) (by decide) (by decide) (by decide) (by decide) (lenOf own_pd5 rfl) rfl (by exact Nat.le_of_eq rfl) (hb hby at_229) rfl ?_
            intro T83 Lc83 v83 X83 hQ83
            obtain ⟨rfl, Nq83, Kq83⟩ := hQ83
            have N83 := Fr.app N81 Nq83
            show own_Ends prg e below s _ _ _ T83 (mkF m 232 #[.val (.int p0), .val (.int p1), .val (.int p2), .val (.int p3), .val (.int (0 : Int32)), .val (.int (0 : Int32)), .val (.int (1 : Int32)), .val (.int k34), .val (.int k36), .val (.ref a38), .val (.int (1 : Int32))] [(.int (1 : Int32))])
            refine own_ifNo (pc' := 235) X83 hx (hb hby at_232) rfl (feq (by decide)).1 ?_
            refine own_iconst (pc' := 236) (z := (1 : Int32)) X83 hx (hb hby at_235) rfl rfl ?_
            refine own_goto (pc' := 240) X83 hx (hb hby at_236) (by decide) (by decide) ?_
            refine own_retN X83 hx hlk hret (by simp) (hb hby at_240) (by decide) (by decide) ?_
            exact ⟨rfl, N83⟩
        · refine own_iload (pc' := 110) X44 hx (hb hby at_108) rfl rfl ?_
          refine own_iconst (pc' := 111) (z := (1 : Int32)) X44 hx (hb hby at_110) rfl rfl ?_
          refine own_icmpNo (pc' := 114) X44 hx (hb hby at_111) rfl (teq (by decide)).2 ?_
          refine own_aload (pc' := 116) X44 hx (hb hby at_114) rfl rfl rfl ?_
          refine own_iload (pc' := 118) X44 hx (hb hby at_116) rfl rfl ?_
          have f84 := (A38.keep Kq44)
          have f85 := (own_stak (S0.ext E38) Kq44 (allS (own_exac A38) all0))
          have f86 := (f46.keep Kq44 (ninS ne40 nin0))
          refine own_callV (pc' := 121) (y := (⟨"com/example/larder/larder/cache/UseCounts", "add", "(I)V"⟩ : MethodName)) (W := 0) (rm := own_room3) (argsL := [(.int k34)]) (rest := []) (b := a38) (C := "com/example/larder/larder/cache/UseCounts") X44 hx hZ rfl hown (by rw [hml]; rfl) f84 (own_w12 hw) (own_w13 hw) (own_w15 hw) (own_w14 hw) (own_w2 hw) (own_w16 hw) (by decide) (own_rm3 lch Z a0 hw [] a38 k34 pa pk b44 bk44 (0 : Int32) (List.replicate 16 (0 : Int32)) [] T44.heap n0 f84 G44_1 G44_2 G44_3 own_repZ (by simp) (by decide) ge39 ge45 ne48 ne40 ne47 f85 f86) (by decide) (by decide) (by decide) (by decide) (lenOf own_pd6 rfl) rfl (by exact Nat.le_of_eq rfl) (hb hby at_118) rfl ?_
          intro T87 Lc87 v87 X87 hQ87
          obtain ⟨l287, rfl, Nq87, Kq87, G87_0, G87_1, G87_2, G87_3⟩ := hQ87
          have N87 := Fr.app N44 Nq87
          have F88 : Fld Z T87.heap a38 "com/example/larder/larder/cache/UseCounts" "additions" "I" (.int (1 : Int32)) := G87_1
          replace G87_3 : own_rep l287 [own_spread k34] := G87_3
          show own_Ends prg e below s _ _ _ T87 (mkF m 121 #[.val (.int p0), .val (.int p1), .val (.int p2), .val (.int p3), .val (.int (0 : Int32)), .val (.int (1 : Int32)), .val (.int c33), .val (.int k34), .val (.int k36), .val (.ref a38), .unset] [])
          rcases own_and1 hc33 with rfl | rfl
          · refine own_iload (pc' := 123) X87 hx (hb hby at_121) rfl rfl ?_
            refine own_iconst (pc' := 124) (z := (1 : Int32)) X87 hx (hb hby at_123) rfl rfl ?_
            refine own_icmpYes (pc' := 134) X87 hx (hb hby at_124) (feq (by decide)).2 (by decide) (by decide) ?_
            refine own_iload (pc' := 136) X87 hx (hb hby at_134) rfl rfl ?_
            refine own_iload (pc' := 138) X87 hx (hb hby at_136) rfl rfl ?_
            refine own_iadd (pc' := 139) (z := (1 : Int32)) X87 hx (hb hby at_138) rfl (by decide) ?_
            refine own_iload (pc' := 141) X87 hx (hb hby at_139) rfl rfl ?_
            refine own_iadd (pc' := 142) (z := (1 : Int32)) X87 hx (hb hby at_141) rfl (by decide) ?_
            refine own_istore (pc' := 144) (l' := #[.val (.int p0), .val (.int p1), .val (.int p2), .val (.int p3), .val (.int (0 : Int32)), .val (.int (1 : Int32)), .val (.int (0 : Int32)), .val (.int k34), .val (.int k36), .val (.ref a38), .val (.int (1 : Int32))]) X87 hx (hb hby at_142) rfl rfl ?_
            refine own_aload (pc' := 146) X87 hx (hb hby at_144) rfl rfl rfl ?_
            refine own_iloadN (pc' := 147) X87 hx (hb hby at_146) rfl rfl ?_
            have f89 := (f84.keep Kq87)
            have f90 := (own_stak f85 Kq87 (allS (own_exac f84) (allS (own_arvc G44_3) all0)))
            have f91 := (f86.keep Kq87 (ninS ne40 (ninS ne47 nin0)))
            refine own_callV (pc' := 150) (y := (⟨"com/example/larder/larder/cache/UseCounts", "of", "(I)I"⟩ : MethodName)) (W := 0) (rm := own_room7) (argsL := [(.int p0)]) (rest := []) (b := a38) (C := "com/example/larder/larder/cache/UseCounts") X87 hx hZ rfl hown (by rw [hml]; rfl) f89 (own_w31 hw) (own_w32 hw) (own_w34 hw) (own_w33 hw) (own_w2 hw) (own_w35 hw) (by decide) (own_rm7 lch Z a0 hw [] a38 p0 pa pk b44 bk44 (1 : Int32) l287 [own_spread k34] T87.heap n0 f89 G87_0 F88 G87_2 G87_3 (by simp) (by decide) ge39 ge45 ne48 ne40 ne47 f90 f91) (by decide) (by decide) (by decide) (by decide) (lenOf own_pd0 rfl) rfl (by exact Nat.le_of_eq rfl) (hb hby at_147) rfl ?_
            intro T92 Lc92 v92 X92 hQ92
            obtain ⟨r92, rfl, Nq92, Kq92, G92_0⟩ := hQ92
            have N92 := Fr.app N87 Nq92
            show own_Ends prg e below s _ _ _ T92 (mkF m 150 #[.val (.int p0), .val (.int p1), .val (.int p2), .val (.int p3), .val (.int (0 : Int32)), .val (.int (1 : Int32)), .val (.int (0 : Int32)), .val (.int k34), .val (.int k36), .val (.ref a38), .val (.int (1 : Int32))] [(.int r92)])
            refine own_iloadN (pc' := 151) X92 hx (hb hby at_150) rfl rfl ?_
            refine own_iloadN (pc' := 152) X92 hx (hb hby at_151) rfl rfl ?_
            refine own_iload (pc' := 154) X92 hx (hb hby at_152) rfl rfl ?_
            refine own_iload (pc' := 156) X92 hx (hb hby at_154) rfl rfl ?_
            refine own_iload (pc' := 158) X92 hx (hb hby at_156) rfl rfl ?_
            refine own_iload (pc' := 160) X92 hx (hb hby at_158) rfl rfl ?_
            refine own_iload (pc' := 162) X92 hx (hb hby at_160) rfl rfl ?_
            refine own_callS (pc' := 165) (y := (⟨"com/example/larder/larder/cache/UseCountsAddPinLaw", "own", "(IIIIIII)I"⟩ : MethodName)) (W := 1) (rm := own_room9) (argsL := [(.int p0), (.int p0), (.int k34), (.int k36), (.int (0 : Int32)), (.int (1 : Int32)), (.int (0 : Int32))]) (rest := [(.int r92)]) X92 hx hZ Kq92 hown (by rw [hml]; rfl) (own_w40 hw) (own_w41 hw) (own_w42 hw) (own_w43 hw) (by decide) (own_rm9 lch Z a0 hw [] p0 p0 k34 k36 (0 : Int32) (1 : Int32) (0 : Int32) T87.heap n0) (by decide) (by decide) (by decide) (by decide) (lenOf own_pd4 rfl) rfl (by exact Nat.le_of_eq rfl) (hb hby at_162) rfl ?_
            intro T93 Lc93 v93 X93 hQ93
            obtain ⟨rfl, Nq93, Kq93⟩ := hQ93
            have N93 := Fr.app N92 Nq93
            show own_Ends prg e below s _ _ _ T93 (mkF m 165 #[.val (.int p0), .val (.int p1), .val (.int p2), .val (.int p3), .val (.int (0 : Int32)), .val (.int (1 : Int32)), .val (.int (0 : Int32)), .val (.int k34), .val (.int k36), .val (.ref a38), .val (.int (1 : Int32))] [(.int (own_own p0 p0 k34 k36 (0 : Int32) (1 : Int32) (0 : Int32))), (.int r92)])
            refine own_iload (pc' := 167) X93 hx (hb hby at_165) rfl rfl ?_
            have lw94 := own_low own_spread p0 p0 k34 k36 (a := 0) (b := 1) (c := 0) (by decide) (by decide) (by decide)
            replace lw94 : ((own_own p0 p0 k34 k36 (0 : Int32) (1 : Int32) (0 : Int32))).toInt ≤ (own_same [own_spread k34] (own_spread p0) : Int) := lw94
            have lw94r := G92_0
            replace lw94r : _ ∧ _ ≤ (1 : Int) := lw94r
            refine own_callS (pc' := 170) (y := (⟨"com/example/larder/larder/cache/UseCountsAddPinLaw", "within", "(III)Z"⟩ : MethodName)) (W := 0) (rm := own_room10) (argsL := [(.int r92), (.int (own_own p0 p0 k34 k36 (0 : Int32) (1 : Int32) (0 : Int32))), (.int (1 : Int32))]) (rest := []) X93 hx hZ Kq93 hown (by rw [hml]; rfl) (own_w44 hw) (own_w45 hw) (own_w42 hw) (own_w46 hw) (by decide) (own_rm10 lch Z a0 hw [] r92 (own_own p0 p0 k34 k36 (0 : Int32) (1 : Int32) (0 : Int32)) (1 : Int32) T87.heap n0 (by omega) (show _ ≤ (1 : Int) by omega)) (by decide) (by decide) (by decide) (by decide) (lenOf own_pd5 rfl) rfl (by exact Nat.le_of_eq rfl) (hb hby at_167) rfl ?_
            intro T95 Lc95 v95 X95 hQ95
            obtain ⟨rfl, Nq95, Kq95⟩ := hQ95
            have N95 := Fr.app N93 Nq95
            show own_Ends prg e below s _ _ _ T95 (mkF m 170 #[.val (.int p0), .val (.int p1), .val (.int p2), .val (.int p3), .val (.int (0 : Int32)), .val (.int (1 : Int32)), .val (.int (0 : Int32)), .val (.int k34), .val (.int k36), .val (.ref a38), .val (.int (1 : Int32))] [(.int (1 : Int32))])
            refine own_ifNo (pc' := 173) X95 hx (hb hby at_170) rfl (feq (by decide)).1 ?_
            refine own_aload (pc' := 175) X95 hx (hb hby at_173) rfl rfl rfl ?_
            refine own_iload (pc' := 177) X95 hx (hb hby at_175) rfl rfl ?_
            refine own_callV (pc' := 180) (y := (⟨"com/example/larder/larder/cache/UseCounts", "of", "(I)I"⟩ : MethodName)) (W := 0) (rm := own_room7) (argsL := [(.int k34)]) (rest := []) (b := a38) (C := "com/example/larder/larder/cache/UseCounts") X95 hx hZ Kq95 hown (by rw [hml]; rfl) f89 (own_w31 hw) (own_w32 hw) (own_w34 hw) (own_w33 hw) (own_w2 hw) (own_w35 hw) (by decide) (own_rm7 lch Z a0 hw [] a38 k34 pa pk b44 bk44 (1 : Int32) l287 [own_spread k34] T87.heap n0 f89 G87_0 F88 G87_2 G87_3 (by simp) (by decide) ge39 ge45 ne48 ne40 ne47 f90 f91) (by decide) (by decide) (by decide) (by decide) (lenOf own_pd0 rfl) rfl (by exact Nat.le_of_eq rfl) (hb hby at_177) rfl ?_
            intro T96 Lc96 v96 X96 hQ96
            obtain ⟨r96, rfl, Nq96, Kq96, G96_0⟩ := hQ96
            have N96 := Fr.app N95 Nq96
            show own_Ends prg e below s _ _ _ T96 (mkF m 180 #[.val (.int p0), .val (.int p1), .val (.int p2), .val (.int p3), .val (.int (0 : Int32)), .val (.int (1 : Int32)), .val (.int (0 : Int32)), .val (.int k34), .val (.int k36), .val (.ref a38), .val (.int (1 : Int32))] [(.int r96)])
            refine own_iload (pc' := 182) X96 hx (hb hby at_180) rfl rfl ?_
            refine own_iloadN (pc' := 183) X96 hx (hb hby at_182) rfl rfl ?_
            refine own_iload (pc' := 185) X96 hx (hb hby at_183) rfl rfl ?_
            refine own_iload (pc' := 187) X96 hx (hb hby at_185) rfl rfl ?_
            refine own_iload (pc' := 189) X96 hx (hb hby at_187) rfl rfl ?_
            refine own_iload (pc' := 191) X96 hx (hb hby at_189) rfl rfl ?_
            refine own_iload (pc' := 193) X96 hx (hb hby at_191) rfl rfl ?_
            refine own_callS (pc' := 196) (y := (⟨"com/example/larder/larder/cache/UseCountsAddPinLaw", "own", "(IIIIIII)I"⟩ : MethodName)) (W := 1) (rm := own_room9) (argsL := [(.int k34), (.int p0), (.int k34), (.int k36), (.int (0 : Int32)), (.int (1 : Int32)), (.int (0 : Int32))]) (rest := [(.int r96)]) X96 hx hZ Kq96 hown (by rw [hml]; rfl) (own_w40 hw) (own_w41 hw) (own_w42 hw) (own_w43 hw) (by decide) (own_rm9 lch Z a0 hw [] k34 p0 k34 k36 (0 : Int32) (1 : Int32) (0 : Int32) T87.heap n0) (by decide) (by decide) (by decide) (by decide) (lenOf own_pd4 rfl) rfl (by exact Nat.le_of_eq rfl) (hb hby at_193) rfl ?_
            intro T97 Lc97 v97 X97 hQ97
            obtain ⟨rfl, Nq97, Kq97⟩ := hQ97
            have N97 := Fr.app N96 Nq97
            show own_Ends prg e below s _ _ _ T97 (mkF m 196 #[.val (.int p0), .val (.int p1), .val (.int p2), .val (.int p3), .val (.int (0 : Int32)), .val (.int (1 : Int32)), .val (.int (0 : Int32)), .val (.int k34), .val (.int k36), .val (.ref a38), .val (.int (1 : Int32))] [(.int (own_own k34 p0 k34 k36 (0 : Int32) (1 : Int32) (0 : Int32))), (.int r96)])
            refine own_iload (pc' := 198) X97 hx (hb hby at_196) rfl rfl ?_
            have lw98 := own_low own_spread k34 p0 k34 k36 (a := 0) (b := 1) (c := 0) (by decide) (by decide) (by decide)
            replace lw98 : ((own_own k34 p0 k34 k36 (0 : Int32) (1 : Int32) (0 : Int32))).toInt ≤ (own_same [own_spread k34] (own_spread k34) : Int) := lw98
            have lw98r := G96_0
            replace lw98r : _ ∧ _ ≤ (1 : Int) := lw98r
            refine own_callS (pc' := 201) (y := (⟨"com/example/larder/larder/cache/UseCountsAddPinLaw", "within", "(III)Z"⟩ : MethodName)) (W := 0) (rm := own_room10) (argsL := [(.int r96), (.int (own_own k34 p0 k34 k36 (0 : Int32) (1 : Int32) (0 : Int32))), (.int (1 : Int32))]) (rest := []) X97 hx hZ Kq97 hown (by rw [hml]; rfl) (own_w44 hw) (own_w45 hw) (own_w42 hw) (own_w46 hw) (by decide) (own_rm10 lch Z a0 hw [] r96 (own_own k34 p0 k34 k36 (0 : Int32) (1 : Int32) (0 : Int32)) (1 : Int32) T87.heap n0 (by omega) (show _ ≤ (1 : Int) by omega)) (by decide) (by decide) (by decide) (by decide) (lenOf own_pd5 rfl) rfl (by exact Nat.le_of_eq rfl) (hb hby at_198) rfl ?_
            intro T99 Lc99 v99 X99 hQ99
            obtain ⟨rfl, Nq99, Kq99⟩ := hQ99
            have N99 := Fr.app N97 Nq99
            show own_Ends prg e below s _ _ _ T99 (mkF m 201 #[.val (.int p0), .val (.int p1), .val (.int p2), .val (.int p3), .val (.int (0 : Int32)), .val (.int (1 : Int32)), .val (.int (0 : Int32)), .val (.int k34), .val (.int k36), .val (.ref a38), .val (.int (1 : Int32))] [(.int (1 : Int32))])
            refine own_ifNo (pc' := 204) X99 hx (hb hby at_201) rfl (feq (by decide)).1 ?_
            refine own_aload (pc' := 206) X99 hx (hb hby at_204) rfl rfl rfl ?_
            refine own_iload (pc' := 208) X99 hx (hb hby at_206) rfl rfl ?_
            refine own_callV (pc' := 211) (y := (⟨"com/example/larder/larder/cache/UseCounts", "of", "(I)I"⟩ : MethodName)) (W := 0) (rm := own_room7) (argsL := [(.int k36)]) (rest := []) (b := a38) (C := "com/example/larder/larder/cache/UseCounts") X99 hx hZ Kq99 hown (by rw [hml]; rfl) f89 (own_w31 hw) (own_w32 hw) (own_w34 hw) (own_w33 hw) (own_w2 hw) (own_w35 hw) (by decide) (own_rm7 lch Z a0 hw [] a38 k36 pa pk b44 bk44 (1 : Int32) l287 [own_spread k34] T87.heap n0 f89 G87_0 F88 G87_2 G87_3 (by simp) (by decide) ge39 ge45 ne48 ne40 ne47 f90 f91) (by decide) (by decide) (by decide) (by decide) (lenOf own_pd0 rfl) rfl (by exact Nat.le_of_eq rfl) (hb hby at_208) rfl ?_
            intro T100 Lc100 v100 X100 hQ100
            obtain ⟨r100, rfl, Nq100, Kq100, G100_0⟩ := hQ100
            have N100 := Fr.app N99 Nq100
            show own_Ends prg e below s _ _ _ T100 (mkF m 211 #[.val (.int p0), .val (.int p1), .val (.int p2), .val (.int p3), .val (.int (0 : Int32)), .val (.int (1 : Int32)), .val (.int (0 : Int32)), .val (.int k34), .val (.int k36), .val (.ref a38), .val (.int (1 : Int32))] [(.int r100)])
            refine own_iload (pc' := 213) X100 hx (hb hby at_211) rfl rfl ?_
            refine own_iloadN (pc' := 214) X100 hx (hb hby at_213) rfl rfl ?_
            refine own_iload (pc' := 216) X100 hx (hb hby at_214) rfl rfl ?_
            refine own_iload (pc' := 218) X100 hx (hb hby at_216) rfl rfl ?_
            refine own_iload (pc' := 220) X100 hx (hb hby at_218) rfl rfl ?_
            refine own_iload (pc' := 222) X100 hx (hb hby at_220) rfl rfl ?_
            refine own_iload (pc' := 224) X100 hx (hb hby at_222) rfl rfl ?_
            refine own_callS (pc' := 227) (y := (⟨"com/example/larder/larder/cache/UseCountsAddPinLaw", "own", "(IIIIIII)I"⟩ : MethodName)) (W := 1) (rm := own_room9) (argsL := [(.int k36), (.int p0), (.int k34), (.int k36), (.int (0 : Int32)), (.int (1 : Int32)), (.int (0 : Int32))]) (rest := [(.int r100)]) X100 hx hZ Kq100 hown (by rw [hml]; rfl) (own_w40 hw) (own_w41 hw) (own_w42 hw) (own_w43 hw) (by decide) (own_rm9 lch Z a0 hw [] k36 p0 k34 k36 (0 : Int32) (1 : Int32) (0 : Int32) T87.heap n0) (by decide) (by decide) (by decide) (by decide) (lenOf own_pd4 rfl) rfl (by exact Nat.le_of_eq rfl) (hb hby at_224) rfl ?_
            intro T101 Lc101 v101 X101 hQ101
            obtain ⟨rfl, Nq101, Kq101⟩ := hQ101
            have N101 := Fr.app N100 Nq101
            show own_Ends prg e below s _ _ _ T101 (mkF m 227 #[.val (.int p0), .val (.int p1), .val (.int p2), .val (.int p3), .val (.int (0 : Int32)), .val (.int (1 : Int32)), .val (.int (0 : Int32)), .val (.int k34), .val (.int k36), .val (.ref a38), .val (.int (1 : Int32))] [(.int (own_own k36 p0 k34 k36 (0 : Int32) (1 : Int32) (0 : Int32))), (.int r100)])
            refine own_iload (pc' := 229) X101 hx (hb hby at_227) rfl rfl ?_
            have lw102 := own_low own_spread k36 p0 k34 k36 (a := 0) (b := 1) (c := 0) (by decide) (by decide) (by decide)
            replace lw102 : ((own_own k36 p0 k34 k36 (0 : Int32) (1 : Int32) (0 : Int32))).toInt ≤ (own_same [own_spread k34] (own_spread k36) : Int) := lw102
            have lw102r := G100_0
            replace lw102r : _ ∧ _ ≤ (1 : Int) := lw102r
            refine own_callS (pc' := 232) (y := (⟨"com/example/larder/larder/cache/UseCountsAddPinLaw", "within", "(III)Z"⟩ : MethodName)) (W := 0) (rm := own_room10) (argsL := [(.int r100), (.int (own_own k36 p0 k34 k36 (0 : Int32) (1 : Int32) (0 : Int32))), (.int (1 : Int32))]) (rest := []) X101 hx hZ Kq101 hown (by rw [hml]; rfl) (own_w44 hw) (own_w45 hw) (own_w42 hw) (own_w46 hw) (by decide) (own_rm10 lch Z a0 hw [] r100 (own_own k36 p0 k34 k36 (0 : Int32) (1 : Int32) (0 : Int32)) (1 : Int32) T87.heap n0 (by omega) (show _ ≤ (1 : Int) by omega)) (by decide) (by decide) (by decide) (by decide) (lenOf own_pd5 rfl) rfl (by exact Nat.le_of_eq rfl) (hb hby at_229) rfl ?_
            intro T103 Lc103 v103 X103 hQ103
            obtain ⟨rfl, Nq103, Kq103⟩ := hQ103
            have N103 := Fr.app N101 Nq103
            show own_Ends prg e below s _ _ _ T103 (mkF m 232 #[.val (.int p0), .val (.int p1), .val (.int p2), .val (.int p3), .val (.int (0 : Int32)), .val (.int (1 : Int32)), .val (.int (0 : Int32)), .val (.int k34), .val (.int k36), .val (.ref a38), .val (.int (1 : Int32))] [(.int (1 : Int32))])
            refine own_ifNo (pc' := 235) X103 hx (hb hby at_232) rfl (feq (by decide)).1 ?_
            refine own_iconst (pc' := 236) (z := (1 : Int32)) X103 hx (hb hby at_235) rfl rfl ?_
            refine own_goto (pc' := 240) X103 hx (hb hby at_236) (by decide) (by decide) ?_
            refine own_retN X103 hx hlk hret (by simp) (hb hby at_240) (by decide) (by decide) ?_
            exact ⟨rfl, N103⟩
          · refine own_iload (pc' := 123) X87 hx (hb hby at_121) rfl rfl ?_
            refine own_iconst (pc' := 124) (z := (1 : Int32)) X87 hx (hb hby at_123) rfl rfl ?_
            refine own_icmpNo (pc' := 127) X87 hx (hb hby at_124) rfl (teq (by decide)).2 ?_
            refine own_aload (pc' := 129) X87 hx (hb hby at_127) rfl rfl rfl ?_
            refine own_iload (pc' := 131) X87 hx (hb hby at_129) rfl rfl ?_
            have f104 := (f84.keep Kq87)
            have f105 := (own_stak f85 Kq87 (allS (own_exac f84) (allS (own_arvc G44_3) all0)))
            have f106 := (f86.keep Kq87 (ninS ne40 (ninS ne47 nin0)))
            refine own_callV (pc' := 134) (y := (⟨"com/example/larder/larder/cache/UseCounts", "add", "(I)V"⟩ : MethodName)) (W := 0) (rm := own_room3) (argsL := [(.int k36)]) (rest := []) (b := a38) (C := "com/example/larder/larder/cache/UseCounts") X87 hx hZ rfl hown (by rw [hml]; rfl) f104 (own_w12 hw) (own_w13 hw) (own_w15 hw) (own_w14 hw) (own_w2 hw) (own_w16 hw) (by decide) (own_rm3 lch Z a0 hw [] a38 k36 pa pk b44 bk44 (1 : Int32) l287 [own_spread k34] T87.heap n0 f104 G87_0 F88 G87_2 G87_3 (by simp) (by decide) ge39 ge45 ne48 ne40 ne47 f105 f106) (by decide) (by decide) (by decide) (by decide) (lenOf own_pd6 rfl) rfl (by exact Nat.le_of_eq rfl) (hb hby at_131) rfl ?_
            intro T107 Lc107 v107 X107 hQ107
            obtain ⟨l2107, rfl, Nq107, Kq107, G107_0, G107_1, G107_2, G107_3⟩ := hQ107
            have N107 := Fr.app N87 Nq107
            have F108 : Fld Z T107.heap a38 "com/example/larder/larder/cache/UseCounts" "additions" "I" (.int (2 : Int32)) := G107_1
            replace G107_3 : own_rep l2107 [own_spread k36, own_spread k34] := G107_3
            show own_Ends prg e below s _ _ _ T107 (mkF m 134 #[.val (.int p0), .val (.int p1), .val (.int p2), .val (.int p3), .val (.int (0 : Int32)), .val (.int (1 : Int32)), .val (.int (1 : Int32)), .val (.int k34), .val (.int k36), .val (.ref a38), .unset] [])
            refine own_iload (pc' := 136) X107 hx (hb hby at_134) rfl rfl ?_
            refine own_iload (pc' := 138) X107 hx (hb hby at_136) rfl rfl ?_
            refine own_iadd (pc' := 139) (z := (1 : Int32)) X107 hx (hb hby at_138) rfl (by decide) ?_
            refine own_iload (pc' := 141) X107 hx (hb hby at_139) rfl rfl ?_
            refine own_iadd (pc' := 142) (z := (2 : Int32)) X107 hx (hb hby at_141) rfl (by decide) ?_
            refine own_istore (pc' := 144) (l' := #[.val (.int p0), .val (.int p1), .val (.int p2), .val (.int p3), .val (.int (0 : Int32)), .val (.int (1 : Int32)), .val (.int (1 : Int32)), .val (.int k34), .val (.int k36), .val (.ref a38), .val (.int (2 : Int32))]) X107 hx (hb hby at_142) rfl rfl ?_
            refine own_aload (pc' := 146) X107 hx (hb hby at_144) rfl rfl rfl ?_
            refine own_iloadN (pc' := 147) X107 hx (hb hby at_146) rfl rfl ?_
            have f109 := (f104.keep Kq107)
            have f110 := (own_stak f105 Kq107 (allS (own_exac f104) (allS (own_arvc G87_2) all0)))
            have f111 := (f106.keep Kq107 (ninS ne40 (ninS ne47 nin0)))
            refine own_callV (pc' := 150) (y := (⟨"com/example/larder/larder/cache/UseCounts", "of", "(I)I"⟩ : MethodName)) (W := 0) (rm := own_room7) (argsL := [(.int p0)]) (rest := []) (b := a38) (C := "com/example/larder/larder/cache/UseCounts") X107 hx hZ rfl hown (by rw [hml]; rfl) f109 (own_w31 hw) (own_w32 hw) (own_w34 hw) (own_w33 hw) (own_w2 hw) (own_w35 hw) (by decide) (own_rm7 lch Z a0 hw [] a38 p0 pa pk b44 bk44 (2 : Int32) l2107 [own_spread k36, own_spread k34] T107.heap n0 f109 G107_0 F108 G107_2 G107_3 (by simp) (by decide) ge39 ge45 ne48 ne40 ne47 f110 f111) (by decide) (by decide) (by decide) (by decide) (lenOf own_pd0 rfl) rfl (by exact Nat.le_of_eq rfl) (hb hby at_147) rfl ?_
            intro T112 Lc112 v112 X112 hQ112
            obtain ⟨r112, rfl, Nq112, Kq112, G112_0⟩ := hQ112
            have N112 := Fr.app N107 Nq112
            show own_Ends prg e below s _ _ _ T112 (mkF m 150 #[.val (.int p0), .val (.int p1), .val (.int p2), .val (.int p3), .val (.int (0 : Int32)), .val (.int (1 : Int32)), .val (.int (1 : Int32)), .val (.int k34), .val (.int k36), .val (.ref a38), .val (.int (2 : Int32))] [(.int r112)])
            refine own_iloadN (pc' := 151) X112 hx (hb hby at_150) rfl rfl ?_
            refine own_iloadN (pc' := 152) X112 hx (hb hby at_151) rfl rfl ?_
            refine own_iload (pc' := 154) X112 hx (hb hby at_152) rfl rfl ?_
            refine own_iload (pc' := 156) X112 hx (hb hby at_154) rfl rfl ?_
            refine own_iload (pc' := 158) X112 hx (hb hby at_156) rfl rfl ?_
            refine own_iload (pc' := 160) X112 hx (hb hby at_158) rfl rfl ?_
            refine own_iload (pc' := 162) X112 hx (hb hby at_160) rfl rfl ?_
            refine own_callS (pc' := 165) (y := (⟨"com/example/larder/larder/cache/UseCountsAddPinLaw", "own", "(IIIIIII)I"⟩ : MethodName)) (W := 1) (rm := own_room9) (argsL := [(.int p0), (.int p0), (.int k34), (.int k36), (.int (0 : Int32)), (.int (1 : Int32)), (.int (1 : Int32))]) (rest := [(.int r112)]) X112 hx hZ Kq112 hown (by rw [hml]; rfl) (own_w40 hw) (own_w41 hw) (own_w42 hw) (own_w43 hw) (by decide) (own_rm9 lch Z a0 hw [] p0 p0 k34 k36 (0 : Int32) (1 : Int32) (1 : Int32) T107.heap n0) (by decide) (by decide) (by decide) (by decide) (lenOf own_pd4 rfl) rfl (by exact Nat.le_of_eq rfl) (hb hby at_162) rfl ?_
            intro T113 Lc113 v113 X113 hQ113
            obtain ⟨rfl, Nq113, Kq113⟩ := hQ113
            have N113 := Fr.app N112 Nq113
            show own_Ends prg e below s _ _ _ T113 (mkF m 165 #[.val (.int p0), .val (.int p1), .val (.int p2), .val (.int p3), .val (.int (0 : Int32)), .val (.int (1 : Int32)), .val (.int (1 : Int32)), .val (.int k34), .val (.int k36), .val (.ref a38), .val (.int (2 : Int32))] [(.int (own_own p0 p0 k34 k36 (0 : Int32) (1 : Int32) (1 : Int32))), (.int r112)])
            refine own_iload (pc' := 167) X113 hx (hb hby at_165) rfl rfl ?_
            have lw114 := own_low own_spread p0 p0 k34 k36 (a := 0) (b := 1) (c := 1) (by decide) (by decide) (by decide)
            replace lw114 : ((own_own p0 p0 k34 k36 (0 : Int32) (1 : Int32) (1 : Int32))).toInt ≤ (own_same [own_spread k36, own_spread k34] (own_spread p0) : Int) := lw114
            have lw114r := G112_0
            replace lw114r : _ ∧ _ ≤ (2 : Int) := lw114r
            refine own_callS (pc' := 170) (y := (⟨"com/example/larder/larder/cache/UseCountsAddPinLaw", "within", "(III)Z"⟩ : MethodName)) (W := 0) (rm := own_room10) (argsL := [(.int r112), (.int (own_own p0 p0 k34 k36 (0 : Int32) (1 : Int32) (1 : Int32))), (.int (2 : Int32))]) (rest := []) X113 hx hZ Kq113 hown (by rw [hml]; rfl) (own_w44 hw) (own_w45 hw) (own_w42 hw) (own_w46 hw) (by decide) (own_rm10 lch Z a0 hw [] r112 (own_own p0 p0 k34 k36 (0 : Int32) (1 : Int32) (1 : Int32)) (2 : Int32) T107.heap n0 (by omega) (show _ ≤ (2 : Int) by omega)) (by decide) (by decide) (by decide) (by decide) (lenOf own_pd5 rfl) rfl (by exact Nat.le_of_eq rfl) (hb hby at_167) rfl ?_
            intro T115 Lc115 v115 X115 hQ115
            obtain ⟨rfl, Nq115, Kq115⟩ := hQ115
            have N115 := Fr.app N113 Nq115
            show own_Ends prg e below s _ _ _ T115 (mkF m 170 #[.val (.int p0), .val (.int p1), .val (.int p2), .val (.int p3), .val (.int (0 : Int32)), .val (.int (1 : Int32)), .val (.int (1 : Int32)), .val (.int k34), .val (.int k36), .val (.ref a38), .val (.int (2 : Int32))] [(.int (1 : Int32))])
            refine own_ifNo (pc' := 173) X115 hx (hb hby at_170) rfl (feq (by decide)).1 ?_
            refine own_aload (pc' := 175) X115 hx (hb hby at_173) rfl rfl rfl ?_
            refine own_iload (pc' := 177) X115 hx (hb hby at_175) rfl rfl ?_
            refine own_callV (pc' := 180) (y := (⟨"com/example/larder/larder/cache/UseCounts", "of", "(I)I"⟩ : MethodName)) (W := 0) (rm := own_room7) (argsL := [(.int k34)]) (rest := []) (b := a38) (C := "com/example/larder/larder/cache/UseCounts") X115 hx hZ Kq115 hown (by rw [hml]; rfl) f109 (own_w31 hw) (own_w32 hw) (own_w34 hw) (own_w33 hw) (own_w2 hw) (own_w35 hw) (by decide) (own_rm7 lch Z a0 hw [] a38 k34 pa pk b44 bk44 (2 : Int32) l2107 [own_spread k36, own_spread k34] T107.heap n0 f109 G107_0 F108 G107_2 G107_3 (by simp) (by decide) ge39 ge45 ne48 ne40 ne47 f110 f111) (by decide) (by decide) (by decide) (by decide) (lenOf own_pd0 rfl) rfl (by exact Nat.le_of_eq rfl) (hb hby at_177) rfl ?_
            intro T116 Lc116 v116 X116 hQ116
            obtain ⟨r116, rfl, Nq116, Kq116, G116_0⟩ := hQ116
            have N116 := Fr.app N115 Nq116
            show own_Ends prg e below s _ _ _ T116 (mkF m 180 #[.val (.int p0), .val (.int p1), .val (.int p2), .val (.int p3), .val (.int (0 : Int32)), .val (.int (1 : Int32)), .val (.int (1 : Int32)), .val (.int k34), .val (.int k36), .val (.ref a38), .val (.int (2 : Int32))] [(.int r116)])
            refine own_iload (pc' := 182) X116 hx (hb hby at_180) rfl rfl ?_
            refine own_iloadN (pc' := 183) X116 hx (hb hby at_182) rfl rfl ?_
            refine own_iload (pc' := 185) X116 hx (hb hby at_183) rfl rfl ?_
            refine own_iload (pc' := 187) X116 hx (hb hby at_185) rfl rfl ?_
            refine own_iload (pc' := 189) X116 hx (hb hby at_187) rfl rfl ?_
            refine own_iload (pc' := 191) X116 hx (hb hby at_189) rfl rfl ?_
            refine own_iload (pc' := 193) X116 hx (hb hby at_191) rfl rfl ?_
            refine own_callS (pc' := 196) (y := (⟨"com/example/larder/larder/cache/UseCountsAddPinLaw", "own", "(IIIIIII)I"⟩ : MethodName)) (W := 1) (rm := own_room9) (argsL := [(.int k34), (.int p0), (.int k34), (.int k36), (.int (0 : Int32)), (.int (1 : Int32)), (.int (1 : Int32))]) (rest := [(.int r116)]) X116 hx hZ Kq116 hown (by rw [hml]; rfl) (own_w40 hw) (own_w41 hw) (own_w42 hw) (own_w43 hw) (by decide) (own_rm9 lch Z a0 hw [] k34 p0 k34 k36 (0 : Int32) (1 : Int32) (1 : Int32) T107.heap n0) (by decide) (by decide) (by decide) (by decide) (lenOf own_pd4 rfl) rfl (by exact Nat.le_of_eq rfl) (hb hby at_193) rfl ?_
            intro T117 Lc117 v117 X117 hQ117
            obtain ⟨rfl, Nq117, Kq117⟩ := hQ117
            have N117 := Fr.app N116 Nq117
            show own_Ends prg e below s _ _ _ T117 (mkF m 196 #[.val (.int p0), .val (.int p1), .val (.int p2), .val (.int p3), .val (.int (0 : Int32)), .val (.int (1 : Int32)), .val (.int (1 : Int32)), .val (.int k34), .val (.int k36), .val (.ref a38), .val (.int (2 : Int32))] [(.int (own_own k34 p0 k34 k36 (0 : Int32) (1 : Int32) (1 : Int32))), (.int r116)])
            refine own_iload (pc' := 198) X117 hx (hb hby at_196) rfl rfl ?_
            have lw118 := own_low own_spread k34 p0 k34 k36 (a := 0) (b := 1) (c := 1) (by decide) (by decide) (by decide)
            replace lw118 : ((own_own k34 p0 k34 k36 (0 : Int32) (1 : Int32) (1 : Int32))).toInt ≤ (own_same [own_spread k36, own_spread k34] (own_spread k34) : Int) := lw118
            have lw118r := G116_0
            replace lw118r : _ ∧ _ ≤ (2 : Int) := lw118r
            refine own_callS (pc' := 201) (y := (⟨"com/example/larder/larder/cache/UseCountsAddPinLaw", "within", "(III)Z"⟩ : MethodName)) (W := 0) (rm := own_room10) (argsL := [(.int r116), (.int (own_own k34 p0 k34 k36 (0 : Int32) (1 : Int32) (1 : Int32))), (.int (2 : Int32))]) (rest := []) X117 hx hZ Kq117 hown (by rw [hml]; rfl) (own_w44 hw) (own_w45 hw) (own_w42 hw) (own_w46 hw) (by decide) (own_rm10 lch Z a0 hw [] r116 (own_own k34 p0 k34 k36 (0 : Int32) (1 : Int32) (1 : Int32)) (2 : Int32) T107.heap n0 (by omega) (show _ ≤ (2 : Int) by omega)) (by decide) (by decide) (by decide) (by decide) (lenOf own_pd5 rfl) rfl (by exact Nat.le_of_eq rfl) (hb hby at_198) rfl ?_
            intro T119 Lc119 v119 X119 hQ119
            obtain ⟨rfl, Nq119, Kq119⟩ := hQ119
            have N119 := Fr.app N117 Nq119
            show own_Ends prg e below s _ _ _ T119 (mkF m 201 #[.val (.int p0), .val (.int p1), .val (.int p2), .val (.int p3), .val (.int (0 : Int32)), .val (.int (1 : Int32)), .val (.int (1 : Int32)), .val (.int k34), .val (.int k36), .val (.ref a38), .val (.int (2 : Int32))] [(.int (1 : Int32))])
            refine own_ifNo (pc' := 204) X119 hx (hb hby at_201) rfl (feq (by decide)).1 ?_
            refine own_aload (pc' := 206) X119 hx (hb hby at_204) rfl rfl rfl ?_
            refine own_iload (pc' := 208) X119 hx (hb hby at_206) rfl rfl ?_
            refine own_callV (pc' := 211) (y := (⟨"com/example/larder/larder/cache/UseCounts", "of", "(I)I"⟩ : MethodName)) (W := 0) (rm := own_room7) (argsL := [(.int k36)]) (rest := []) (b := a38) (C := "com/example/larder/larder/cache/UseCounts") X119 hx hZ Kq119 hown (by rw [hml]; rfl) f109 (own_w31 hw) (own_w32 hw) (own_w34 hw) (own_w33 hw) (own_w2 hw) (own_w35 hw) (by decide) (own_rm7 lch Z a0 hw [] a38 k36 pa pk b44 bk44 (2 : Int32) l2107 [own_spread k36, own_spread k34] T107.heap n0 f109 G107_0 F108 G107_2 G107_3 (by simp) (by decide) ge39 ge45 ne48 ne40 ne47 f110 f111) (by decide) (by decide) (by decide) (by decide) (lenOf own_pd0 rfl) rfl (by exact Nat.le_of_eq rfl) (hb hby at_208) rfl ?_
            intro T120 Lc120 v120 X120 hQ120
            obtain ⟨r120, rfl, Nq120, Kq120, G120_0⟩ := hQ120
            have N120 := Fr.app N119 Nq120
            show own_Ends prg e below s _ _ _ T120 (mkF m 211 #[.val (.int p0), .val (.int p1), .val (.int p2), .val (.int p3), .val (.int (0 : Int32)), .val (.int (1 : Int32)), .val (.int (1 : Int32)), .val (.int k34), .val (.int k36), .val (.ref a38), .val (.int (2 : Int32))] [(.int r120)])
            refine own_iload (pc' := 213) X120 hx (hb hby at_211) rfl rfl ?_
            refine own_iloadN (pc' := 214) X120 hx (hb hby at_213) rfl rfl ?_
            refine own_iload (pc' := 216) X120 hx (hb hby at_214) rfl rfl ?_
            refine own_iload (pc' := 218) X120 hx (hb hby at_216) rfl rfl ?_
            refine own_iload (pc' := 220) X120 hx (hb hby at_218) rfl rfl ?_
            refine own_iload (pc' := 222) X120 hx (hb hby at_220) rfl rfl ?_
            refine own_iload (pc' := 224) X120 hx (hb hby at_222) rfl rfl ?_
            refine own_callS (pc' := 227) (y := (⟨"com/example/larder/larder/cache/UseCountsAddPinLaw", "own", "(IIIIIII)I"⟩ : MethodName)) (W := 1) (rm := own_room9) (argsL := [(.int k36), (.int p0), (.int k34), (.int k36), (.int (0 : Int32)), (.int (1 : Int32)), (.int (1 : Int32))]) (rest := [(.int r120)]) X120 hx hZ Kq120 hown (by rw [hml]; rfl) (own_w40 hw) (own_w41 hw) (own_w42 hw) (own_w43 hw) (by decide) (own_rm9 lch Z a0 hw [] k36 p0 k34 k36 (0 : Int32) (1 : Int32) (1 : Int32) T107.heap n0) (by decide) (by decide) (by decide) (by decide) (lenOf own_pd4 rfl) rfl (by exact Nat.le_of_eq rfl) (hb hby at_224) rfl ?_
            intro T121 Lc121 v121 X121 hQ121
            obtain ⟨rfl, Nq121, Kq121⟩ := hQ121
            have N121 := Fr.app N120 Nq121
            show own_Ends prg e below s _ _ _ T121 (mkF m 227 #[.val (.int p0), .val (.int p1), .val (.int p2), .val (.int p3), .val (.int (0 : Int32)), .val (.int (1 : Int32)), .val (.int (1 : Int32)), .val (.int k34), .val (.int k36), .val (.ref a38), .val (.int (2 : Int32))] [(.int (own_own k36 p0 k34 k36 (0 : Int32) (1 : Int32) (1 : Int32))), (.int r120)])
            refine own_iload (pc' := 229) X121 hx (hb hby at_227) rfl rfl ?_
            have lw122 := own_low own_spread k36 p0 k34 k36 (a := 0) (b := 1) (c := 1) (by decide) (by decide) (by decide)
            replace lw122 : ((own_own k36 p0 k34 k36 (0 : Int32) (1 : Int32) (1 : Int32))).toInt ≤ (own_same [own_spread k36, own_spread k34] (own_spread k36) : Int) := lw122
            have lw122r := G120_0
            replace lw122r : _ ∧ _ ≤ (2 : Int) := lw122r
            refine own_callS (pc' := 232) (y := (⟨"com/example/larder/larder/cache/UseCountsAddPinLaw", "within", "(III)Z"⟩ : MethodName)) (W := 0) (rm := own_room10) (argsL := [(.int r120), (.int (own_own k36 p0 k34 k36 (0 : Int32) (1 : Int32) (1 : Int32))), (.int (2 : Int32))]) (rest := []) X121 hx hZ Kq121 hown (by rw [hml]; rfl) (own_w44 hw) (own_w45 hw) (own_w42 hw) (own_w46 hw) (by decide) (own_rm10 lch Z a0 hw [] r120 (own_own k36 p0 k34 k36 (0 : Int32) (1 : Int32) (1 : Int32)) (2 : Int32) T107.heap n0 (by omega) (show _ ≤ (2 : Int) by omega)) (by decide) (by decide) (by decide) (by decide) (lenOf own_pd5 rfl) rfl (by exact Nat.le_of_eq rfl) (hb hby at_229) rfl ?_
            intro T123 Lc123 v123 X123 hQ123
            obtain ⟨rfl, Nq123, Kq123⟩ := hQ123
            have N123 := Fr.app N121 Nq123
            show own_Ends prg e below s _ _ _ T123 (mkF m 232 #[.val (.int p0), .val (.int p1), .val (.int p2), .val (.int p3), .val (.int (0 : Int32)), .val (.int (1 : Int32)), .val (.int (1 : Int32)), .val (.int k34), .val (.int k36), .val (.ref a38), .val (.int (2 : Int32))] [(.int (1 : Int32))])
            refine own_ifNo (pc' := 235) X123 hx (hb hby at_232) rfl (feq (by decide)).1 ?_
            refine own_iconst (pc' := 236) (z := (1 : Int32)) X123 hx (hb hby at_235) rfl rfl ?_
            refine own_goto (pc' := 240) X123 hx (hb hby at_236) (by decide) (by decide) ?_
            refine own_retN X123 hx hlk hret (by simp) (hb hby at_240) (by decide) (by decide) ?_
            exact ⟨rfl, N123⟩
      · refine own_iload (pc' := 74) X44 hx (hb hby at_72) rfl rfl ?_
        refine own_iconst (pc' := 75) (z := (1 : Int32)) X44 hx (hb hby at_74) rfl rfl ?_
        refine own_icmpNo (pc' := 78) X44 hx (hb hby at_75) rfl (flt (by decide)).1 ?_
        refine own_aload (pc' := 80) X44 hx (hb hby at_78) rfl rfl rfl ?_
        refine own_iloadN (pc' := 81) X44 hx (hb hby at_80) rfl rfl ?_
        have f124 := (A38.keep Kq44)
        have f125 := (own_stak (S0.ext E38) Kq44 (allS (own_exac A38) all0))
        have f126 := (f46.keep Kq44 (ninS ne40 nin0))
        refine own_callV (pc' := 84) (y := (⟨"com/example/larder/larder/cache/UseCounts", "add", "(I)V"⟩ : MethodName)) (W := 0) (rm := own_room3) (argsL := [(.int p0)]) (rest := []) (b := a38) (C := "com/example/larder/larder/cache/UseCounts") X44 hx hZ rfl hown (by rw [hml]; rfl) f124 (own_w12 hw) (own_w13 hw) (own_w15 hw) (own_w14 hw) (own_w2 hw) (own_w16 hw) (by decide) (own_rm3 lch Z a0 hw [] a38 p0 pa pk b44 bk44 (0 : Int32) (List.replicate 16 (0 : Int32)) [] T44.heap n0 f124 G44_1 G44_2 G44_3 own_repZ (by simp) (by decide) ge39 ge45 ne48 ne40 ne47 f125 f126) (by decide) (by decide) (by decide) (by decide) (lenOf own_pd6 rfl) rfl (by exact Nat.le_of_eq rfl) (hb hby at_81) rfl ?_
        intro T127 Lc127 v127 X127 hQ127
        obtain ⟨l2127, rfl, Nq127, Kq127, G127_0, G127_1, G127_2, G127_3⟩ := hQ127
        have N127 := Fr.app N44 Nq127
        have F128 : Fld Z T127.heap a38 "com/example/larder/larder/cache/UseCounts" "additions" "I" (.int (1 : Int32)) := G127_1
        replace G127_3 : own_rep l2127 [own_spread p0] := G127_3
        show own_Ends prg e below s _ _ _ T127 (mkF m 84 #[.val (.int p0), .val (.int p1), .val (.int p2), .val (.int p3), .val (.int (1 : Int32)), .val (.int b32), .val (.int c33), .val (.int k34), .val (.int k36), .val (.ref a38), .unset] [])
        refine own_iload (pc' := 86) X127 hx (hb hby at_84) rfl rfl ?_
        refine own_iconst (pc' := 87) (z := (2 : Int32)) X127 hx (hb hby at_86) rfl rfl ?_
        refine own_icmpYes (pc' := 96) X127 hx (hb hby at_87) (tlt (by decide)).1 (by decide) (by decide) ?_
        refine own_iload (pc' := 98) X127 hx (hb hby at_96) rfl rfl ?_
        refine own_iconst (pc' := 99) (z := (3 : Int32)) X127 hx (hb hby at_98) rfl rfl ?_
        refine own_icmpYes (pc' := 108) X127 hx (hb hby at_99) (tlt (by decide)).1 (by decide) (by decide) ?_
        rcases own_and1 hb32 with rfl | rfl
        · refine own_iload (pc' := 110) X127 hx (hb hby at_108) rfl rfl ?_
          refine own_iconst (pc' := 111) (z := (1 : Int32)) X127 hx (hb hby at_110) rfl rfl ?_
          refine own_icmpYes (pc' := 121) X127 hx (hb hby at_111) (feq (by decide)).2 (by decide) (by decide) ?_
          rcases own_and1 hc33 with rfl | rfl
          · refine own_iload (pc' := 123) X127 hx (hb hby at_121) rfl rfl ?_
            refine own_iconst (pc' := 124) (z := (1 : Int32)) X127 hx (hb hby at_123) rfl rfl ?_
            refine own_icmpYes (pc' := 134) X127 hx (hb hby at_124) (feq (by decide)).2 (by decide) (by decide) ?_
            refine own_iload (pc' := 136) X127 hx (hb hby at_134) rfl rfl ?_
            refine own_iload (pc' := 138) X127 hx (hb hby at_136) rfl rfl ?_
            refine own_iadd (pc' := 139) (z := (1 : Int32)) X127 hx (hb hby at_138) rfl (by decide) ?_
            refine own_iload (pc' := 141) X127 hx (hb hby at_139) rfl rfl ?_
            refine own_iadd (pc' := 142) (z := (1 : Int32)) X127 hx (hb hby at_141) rfl (by decide) ?_
            refine own_istore (pc' := 144) (l' := #[.val (.int p0), .val (.int p1), .val (.int p2), .val (.int p3), .val (.int (1 : Int32)), .val (.int (0 : Int32)), .val (.int (0 : Int32)), .val (.int k34), .val (.int k36), .val (.ref a38), .val (.int (1 : Int32))]) X127 hx (hb hby at_142) rfl rfl ?_
            refine own_aload (pc' := 146) X127 hx (hb hby at_144) rfl rfl rfl ?_
            refine own_iloadN (pc' := 147) X127 hx (hb hby at_146) rfl rfl ?_
            have f129 := (f124.keep Kq127)
            have f130 := (own_stak f125 Kq127 (allS (own_exac f124) (allS (own_arvc G44_3) all0)))
            have f131 := (f126.keep Kq127 (ninS ne40 (ninS ne47 nin0)))
            refine own_callV (pc' := 150) (y := (⟨"com/example/larder/larder/cache/UseCounts", "of", "(I)I"⟩ : MethodName)) (W := 0) (rm := own_room7) (argsL := [(.int p0)]) (rest := []) (b := a38) (C := "com/example/larder/larder/cache/UseCounts") X127 hx hZ rfl hown (by rw [hml]; rfl) f129 (own_w31 hw) (own_w32 hw) (own_w34 hw) (own_w33 hw) (own_w2 hw) (own_w35 hw) (by decide) (own_rm7 lch Z a0 hw [] a38 p0 pa pk b44 bk44 (1 : Int32) l2127 [own_spread p0] T127.heap n0 f129 G127_0 F128 G127_2 G127_3 (by simp) (by decide) ge39 ge45 ne48 ne40 ne47 f130 f131) (by decide) (by decide) (by decide) (by decide) (lenOf own_pd0 rfl) rfl (by exact Nat.le_of_eq rfl) (hb hby at_147) rfl ?_
            intro T132 Lc132 v132 X132 hQ132
            obtain ⟨r132, rfl, Nq132, Kq132, G132_0⟩ := hQ132
            have N132 := Fr.app N127 Nq132
            show own_Ends prg e below s _ _ _ T132 (mkF m 150 #[.val (.int p0), .val (.int p1), .val (.int p2), .val (.int p3), .val (.int (1 : Int32)), .val (.int (0 : Int32)), .val (.int (0 : Int32)), .val (.int k34), .val (.int k36), .val (.ref a38), .val (.int (1 : Int32))] [(.int r132)])
            refine own_iloadN (pc' := 151) X132 hx (hb hby at_150) rfl rfl ?_
            refine own_iloadN (pc' := 152) X132 hx (hb hby at_151) rfl rfl ?_
            refine own_iload (pc' := 154) X132 hx (hb hby at_152) rfl rfl ?_
            refine own_iload (pc' := 156) X132 hx (hb hby at_154) rfl rfl ?_
            refine own_iload (pc' := 158) X132 hx (hb hby at_156) rfl rfl ?_
            refine own_iload (pc' := 160) X132 hx (hb hby at_158) rfl rfl ?_
            refine own_iload (pc' := 162) X132 hx (hb hby at_160) rfl rfl ?_
            refine own_callS (pc' := 165) (y := (⟨"com/example/larder/larder/cache/UseCountsAddPinLaw", "own", "(IIIIIII)I"⟩ : MethodName)) (W := 1) (rm := own_room9) (argsL := [(.int p0), (.int p0), (.int k34), (.int k36), (.int (1 : Int32)), (.int (0 : Int32)), (.int (0 : Int32))]) (rest := [(.int r132)]) X132 hx hZ Kq132 hown (by rw [hml]; rfl) (own_w40 hw) (own_w41 hw) (own_w42 hw) (own_w43 hw) (by decide) (own_rm9 lch Z a0 hw [] p0 p0 k34 k36 (1 : Int32) (0 : Int32) (0 : Int32) T127.heap n0) (by decide) (by decide) (by decide) (by decide) (lenOf own_pd4 rfl) rfl (by exact Nat.le_of_eq rfl) (hb hby at_162) rfl ?_
            intro T133 Lc133 v133 X133 hQ133
            obtain ⟨rfl, Nq133, Kq133⟩ := hQ133
            have N133 := Fr.app N132 Nq133
            show own_Ends prg e below s _ _ _ T133 (mkF m 165 #[.val (.int p0), .val (.int p1), .val (.int p2), .val (.int p3), .val (.int (1 : Int32)), .val (.int (0 : Int32)), .val (.int (0 : Int32)), .val (.int k34), .val (.int k36), .val (.ref a38), .val (.int (1 : Int32))] [(.int (own_own p0 p0 k34 k36 (1 : Int32) (0 : Int32) (0 : Int32))), (.int r132)])
            refine own_iload (pc' := 167) X133 hx (hb hby at_165) rfl rfl ?_
            have lw134 := own_low own_spread p0 p0 k34 k36 (a := 1) (b := 0) (c := 0) (by decide) (by decide) (by decide)
            replace lw134 : ((own_own p0 p0 k34 k36 (1 : Int32) (0 : Int32) (0 : Int32))).toInt ≤ (own_same [own_spread p0] (own_spread p0) : Int) := lw134
            have lw134r := G132_0
            replace lw134r : _ ∧ _ ≤ (1 : Int) := lw134r
            refine own_callS (pc' := 170) (y := (⟨"com/example/larder/larder/cache/UseCountsAddPinLaw", "within", "(III)Z"⟩ : MethodName)) (W := 0) (rm := own_room10) (argsL := [(.int r132), (.int (own_own p0 p0 k34 k36 (1 : Int32) (0 : Int32) (0 : Int32))), (.int (1 : Int32))]) (rest := []) X133 hx hZ Kq133 hown (by rw [hml]; rfl) (own_w44 hw) (own_w45 hw) (own_w42 hw) (own_w46 hw) (by decide) (own_rm10 lch Z a0 hw [] r132 (own_own p0 p0 k34 k36 (1 : Int32) (0 : Int32) (0 : Int32)) (1 : Int32) T127.heap n0 (by omega) (show _ ≤ (1 : Int) by omega)) (by decide) (by decide) (by decide) (by decide) (lenOf own_pd5 rfl) rfl (by exact Nat.le_of_eq rfl) (hb hby at_167) rfl ?_
            intro T135 Lc135 v135 X135 hQ135
            obtain ⟨rfl, Nq135, Kq135⟩ := hQ135
            have N135 := Fr.app N133 Nq135
            show own_Ends prg e below s _ _ _ T135 (mkF m 170 #[.val (.int p0), .val (.int p1), .val (.int p2), .val (.int p3), .val (.int (1 : Int32)), .val (.int (0 : Int32)), .val (.int (0 : Int32)), .val (.int k34), .val (.int k36), .val (.ref a38), .val (.int (1 : Int32))] [(.int (1 : Int32))])
            refine own_ifNo (pc' := 173) X135 hx (hb hby at_170) rfl (feq (by decide)).1 ?_
            refine own_aload (pc' := 175) X135 hx (hb hby at_173) rfl rfl rfl ?_
            refine own_iload (pc' := 177) X135 hx (hb hby at_175) rfl rfl ?_
            refine own_callV (pc' := 180) (y := (⟨"com/example/larder/larder/cache/UseCounts", "of", "(I)I"⟩ : MethodName)) (W := 0) (rm := own_room7) (argsL := [(.int k34)]) (rest := []) (b := a38) (C := "com/example/larder/larder/cache/UseCounts") X135 hx hZ Kq135 hown (by rw [hml]; rfl) f129 (own_w31 hw) (own_w32 hw) (own_w34 hw) (own_w33 hw) (own_w2 hw) (own_w35 hw) (by decide) (own_rm7 lch Z a0 hw [] a38 k34 pa pk b44 bk44 (1 : Int32) l2127 [own_spread p0] T127.heap n0 f129 G127_0 F128 G127_2 G127_3 (by simp) (by decide) ge39 ge45 ne48 ne40 ne47 f130 f131) (by decide) (by decide) (by decide) (by decide) (lenOf own_pd0 rfl) rfl (by exact Nat.le_of_eq rfl) (hb hby at_177) rfl ?_
            intro T136 Lc136 v136 X136 hQ136
            obtain ⟨r136, rfl, Nq136, Kq136, G136_0⟩ := hQ136
            have N136 := Fr.app N135 Nq136
            show own_Ends prg e below s _ _ _ T136 (mkF m 180 #[.val (.int p0), .val (.int p1), .val (.int p2), .val (.int p3), .val (.int (1 : Int32)), .val (.int (0 : Int32)), .val (.int (0 : Int32)), .val (.int k34), .val (.int k36), .val (.ref a38), .val (.int (1 : Int32))] [(.int r136)])
            refine own_iload (pc' := 182) X136 hx (hb hby at_180) rfl rfl ?_
            refine own_iloadN (pc' := 183) X136 hx (hb hby at_182) rfl rfl ?_
            refine own_iload (pc' := 185) X136 hx (hb hby at_183) rfl rfl ?_
            refine own_iload (pc' := 187) X136 hx (hb hby at_185) rfl rfl ?_
            refine own_iload (pc' := 189) X136 hx (hb hby at_187) rfl rfl ?_
            refine own_iload (pc' := 191) X136 hx (hb hby at_189) rfl rfl ?_
            refine own_iload (pc' := 193) X136 hx (hb hby at_191) rfl rfl ?_
            refine own_callS (pc' := 196) (y := (⟨"com/example/larder/larder/cache/UseCountsAddPinLaw", "own", "(IIIIIII)I"⟩ : MethodName)) (W := 1) (rm := own_room9) (argsL := [(.int k34), (.int p0), (.int k34), (.int k36), (.int (1 : Int32)), (.int (0 : Int32)), (.int (0 : Int32))]) (rest := [(.int r136)]) X136 hx hZ Kq136 hown (by rw [hml]; rfl) (own_w40 hw) (own_w41 hw) (own_w42 hw) (own_w43 hw) (by decide) (own_rm9 lch Z a0 hw [] k34 p0 k34 k36 (1 : Int32) (0 : Int32) (0 : Int32) T127.heap n0) (by decide) (by decide) (by decide) (by decide) (lenOf own_pd4 rfl) rfl (by exact Nat.le_of_eq rfl) (hb hby at_193) rfl ?_
            intro T137 Lc137 v137 X137 hQ137
            obtain ⟨rfl, Nq137, Kq137⟩ := hQ137
            have N137 := Fr.app N136 Nq137
            show own_Ends prg e below s _ _ _ T137 (mkF m 196 #[.val (.int p0), .val (.int p1), .val (.int p2), .val (.int p3), .val (.int (1 : Int32)), .val (.int (0 : Int32)), .val (.int (0 : Int32)), .val (.int k34), .val (.int k36), .val (.ref a38), .val (.int (1 : Int32))] [(.int (own_own k34 p0 k34 k36 (1 : Int32) (0 : Int32) (0 : Int32))), (.int r136)])
            refine own_iload (pc' := 198) X137 hx (hb hby at_196) rfl rfl ?_
            have lw138 := own_low own_spread k34 p0 k34 k36 (a := 1) (b := 0) (c := 0) (by decide) (by decide) (by decide)
            replace lw138 : ((own_own k34 p0 k34 k36 (1 : Int32) (0 : Int32) (0 : Int32))).toInt ≤ (own_same [own_spread p0] (own_spread k34) : Int) := lw138
            have lw138r := G136_0
            replace lw138r : _ ∧ _ ≤ (1 : Int) := lw138r
            refine own_callS (pc' := 201) (y := (⟨"com/example/larder/larder/cache/UseCountsAddPinLaw", "within", "(III)Z"⟩ : MethodName)) (W := 0) (rm := own_room10) (argsL := [(.int r136), (.int (own_own k34 p0 k34 k36 (1 : Int32) (0 : Int32) (0 : Int32))), (.int (1 : Int32))]) (rest := []) X137 hx hZ Kq137 hown (by rw [hml]; rfl) (own_w44 hw) (own_w45 hw) (own_w42 hw) (own_w46 hw) (by decide) (own_rm10 lch Z a0 hw [] r136 (own_own k34 p0 k34 k36 (1 : Int32) (0 : Int32) (0 : Int32)) (1 : Int32) T127.heap n0 (by omega) (show _ ≤ (1 : Int) by omega)) (by decide) (by decide) (by decide) (by decide) (lenOf own_pd5 rfl) rfl (by exact Nat.le_of_eq rfl) (hb hby at_198) rfl ?_
            intro T139 Lc139 v139 X139 hQ139
            obtain ⟨rfl, Nq139, Kq139⟩ := hQ139
            have N139 := Fr.app N137 Nq139
            show own_Ends prg e below s _ _ _ T139 (mkF m 201 #[.val (.int p0), .val (.int p1), .val (.int p2), .val (.int p3), .val (.int (1 : Int32)), .val (.int (0 : Int32)), .val (.int (0 : Int32)), .val (.int k34), .val (.int k36), .val (.ref a38), .val (.int (1 : Int32))] [(.int (1 : Int32))])
            refine own_ifNo (pc' := 204) X139 hx (hb hby at_201) rfl (feq (by decide)).1 ?_
            refine own_aload (pc' := 206) X139 hx (hb hby at_204) rfl rfl rfl ?_
            refine own_iload (pc' := 208) X139 hx (hb hby at_206) rfl rfl ?_
            refine own_callV (pc' := 211) (y := (⟨"com/example/larder/larder/cache/UseCounts", "of", "(I)I"⟩ : MethodName)) (W := 0) (rm := own_room7) (argsL := [(.int k36)]) (rest := []) (b := a38) (C := "com/example/larder/larder/cache/UseCounts") X139 hx hZ Kq139 hown (by rw [hml]; rfl) f129 (own_w31 hw) (own_w32 hw) (own_w34 hw) (own_w33 hw) (own_w2 hw) (own_w35 hw) (by decide) (own_rm7 lch Z a0 hw [] a38 k36 pa pk b44 bk44 (1 : Int32) l2127 [own_spread p0] T127.heap n0 f129 G127_0 F128 G127_2 G127_3 (by simp) (by decide) ge39 ge45 ne48 ne40 ne47 f130 f131) (by decide) (by decide) (by decide) (by decide) (lenOf own_pd0 rfl) rfl (by exact Nat.le_of_eq rfl) (hb hby at_208) rfl ?_
            intro T140 Lc140 v140 X140 hQ140
            obtain ⟨r140, rfl, Nq140, Kq140, G140_0⟩ := hQ140
            have N140 := Fr.app N139 Nq140
            show own_Ends prg e below s _ _ _ T140 (mkF m 211 #[.val (.int p0), .val (.int p1), .val (.int p2), .val (.int p3), .val (.int (1 : Int32)), .val (.int (0 : Int32)), .val (.int (0 : Int32)), .val (.int k34), .val (.int k36), .val (.ref a38), .val (.int (1 : Int32))] [(.int r140)])
            refine own_iload (pc' := 213) X140 hx (hb hby at_211) rfl rfl ?_
            refine own_iloadN (pc' := 214) X140 hx (hb hby at_213) rfl rfl ?_
            refine own_iload (pc' := 216) X140 hx (hb hby at_214) rfl rfl ?_
            refine own_iload (pc' := 218) X140 hx (hb hby at_216) rfl rfl ?_
            refine own_iload (pc' := 220) X140 hx (hb hby at_218) rfl rfl ?_
            refine own_iload (pc' := 222) X140 hx (hb hby at_220) rfl rfl ?_
            refine own_iload (pc' := 224) X140 hx (hb hby at_222) rfl rfl ?_
            refine own_callS (pc' := 227) (y := (⟨"com/example/larder/larder/cache/UseCountsAddPinLaw", "own", "(IIIIIII)I"⟩ : MethodName)) (W := 1) (rm := own_room9) (argsL := [(.int k36), (.int p0), (.int k34), (.int k36), (.int (1 : Int32)), (.int (0 : Int32)), (.int (0 : Int32))]) (rest := [(.int r140)]) X140 hx hZ Kq140 hown (by rw [hml]; rfl) (own_w40 hw) (own_w41 hw) (own_w42 hw) (own_w43 hw) (by decide) (own_rm9 lch Z a0 hw [] k36 p0 k34 k36 (1 : Int32) (0 : Int32) (0 : Int32) T127.heap n0) (by decide) (by decide) (by decide) (by decide) (lenOf own_pd4 rfl) rfl (by exact Nat.le_of_eq rfl) (hb hby at_224) rfl ?_
            intro T141 Lc141 v141 X141 hQ141
            obtain ⟨rfl, Nq141, Kq141⟩ := hQ141
            have N141 := Fr.app N140 Nq141
            show own_Ends prg e below s _ _ _ T141 (mkF m 227 #[.val (.int p0), .val (.int p1), .val (.int p2), .val (.int p3), .val (.int (1 : Int32)), .val (.int (0 : Int32)), .val (.int (0 : Int32)), .val (.int k34), .val (.int k36), .val (.ref a38), .val (.int (1 : Int32))] [(.int (own_own k36 p0 k34 k36 (1 : Int32) (0 : Int32) (0 : Int32))), (.int r140)])
            refine own_iload (pc' := 229) X141 hx (hb hby at_227) rfl rfl ?_
            have lw142 := own_low own_spread k36 p0 k34 k36 (a := 1) (b := 0) (c := 0) (by decide) (by decide) (by decide)
            replace lw142 : ((own_own k36 p0 k34 k36 (1 : Int32) (0 : Int32) (0 : Int32))).toInt ≤ (own_same [own_spread p0] (own_spread k36) : Int) := lw142
            have lw142r := G140_0
            replace lw142r : _ ∧ _ ≤ (1 : Int) := lw142r
            refine own_callS (pc' := 232) (y := (⟨"com/example/larder/larder/cache/UseCountsAddPinLaw", "within", "(III)Z"⟩ : MethodName)) (W := 0) (rm := own_room10) (argsL := [(.int r140), (.int (own_own k36 p0 k34 k36 (1 : Int32) (0 : Int32) (0 : Int32))), (.int (1 : Int32))]) (rest := []) X141 hx hZ Kq141 hown (by rw [hml]; rfl) (own_w44 hw) (own_w45 hw) (own_w42 hw) (own_w46 hw) (by decide) (own_rm10 lch Z a0 hw [] r140 (own_own k36 p0 k34 k36 (1 : Int32) (0 : Int32) (0 : Int32)) (1 : Int32) T127.heap n0 (by omega) (show _ ≤ (1 : Int) by omega)) (by decide) (by decide) (by decide) (by decide) (lenOf own_pd5 rfl) rfl (by exact Nat.le_of_eq rfl) (hb hby at_229) rfl ?_
            intro T143 Lc143 v143 X143 hQ143
            obtain ⟨rfl, Nq143, Kq143⟩ := hQ143
            have N143 := Fr.app N141 Nq143
            show own_Ends prg e below s _ _ _ T143 (mkF m 232 #[.val (.int p0), .val (.int p1), .val (.int p2), .val (.int p3), .val (.int (1 : Int32)), .val (.int (0 : Int32)), .val (.int (0 : Int32)), .val (.int k34), .val (.int k36), .val (.ref a38), .val (.int (1 : Int32))] [(.int (1 : Int32))])
            refine own_ifNo (pc' := 235) X143 hx (hb hby at_232) rfl (feq (by decide)).1 ?_
            refine own_iconst (pc' := 236) (z := (1 : Int32)) X143 hx (hb hby at_235) rfl rfl ?_
            refine own_goto (pc' := 240) X143 hx (hb hby at_236) (by decide) (by decide) ?_
            refine own_retN X143 hx hlk hret (by simp) (hb hby at_240) (by decide) (by decide) ?_
            exact ⟨rfl, N143⟩
          · refine own_iload (pc' := 123) X127 hx (hb hby at_121) rfl rfl ?_
            refine own_iconst (pc' := 124) (z := (1 : Int32)) X127 hx (hb hby at_123) rfl rfl ?_
            refine own_icmpNo (pc' := 127) X127 hx (hb hby at_124) rfl (teq (by decide)).2 ?_
            refine own_aload (pc' := 129) X127 hx (hb hby at_127) rfl rfl rfl ?_
            refine own_iload (pc' := 131) X127 hx (hb hby at_129) rfl rfl ?_
            have f144 := (f124.keep Kq127)
            have f145 := (own_stak f125 Kq127 (allS (own_exac f124) (allS (own_arvc G44_3) all0)))
            have f146 := (f126.keep Kq127 (ninS ne40 (ninS ne47 nin0)))
            refine own_callV (pc' := 134) (y := (⟨"com/example/larder/larder/cache/UseCounts", "add", "(I)V"⟩ : MethodName)) (W := 0) (rm := own_room3) (argsL := [(.int k36)]) (rest := []) (b := a38) (C := "com/example/larder/larder/cache/UseCounts") X127 hx hZ rfl hown (by rw [hml]; rfl) f144 (own_w12 hw) (own_w13 hw) (own_w15 hw) (own_w14 hw) (own_w2 hw) (own_w16 hw) (by decide) (own_rm3 lch Z a0 hw [] a38 k36 pa pk b44 bk44 (1 : Int32) l2127 [own_spread p0] T127.heap n0 f144 G127_0 F128 G127_2 G127_3 (by simp) (by decide) ge39 ge45 ne48 ne40 ne47 f145 f146) (by decide) (by decide) (by decide) (by decide) (lenOf own_pd6 rfl) rfl (by exact Nat.le_of_eq rfl) (hb hby at_131) rfl ?_
            intro T147 Lc147 v147 X147 hQ147
            obtain ⟨l2147, rfl, Nq147, Kq147, G147_0, G147_1, G147_2, G147_3⟩ := hQ147
            have N147 := Fr.app N127 Nq147
            have F148 : Fld Z T147.heap a38 "com/example/larder/larder/cache/UseCounts" "additions" "I" (.int (2 : Int32)) := G147_1
            replace G147_3 : own_rep l2147 [own_spread k36, own_spread p0] := G147_3
            show own_Ends prg e below s _ _ _ T147 (mkF m 134 #[.val (.int p0), .val (.int p1), .val (.int p2), .val (.int p3), .val (.int (1 : Int32)), .val (.int (0 : Int32)), .val (.int (1 : Int32)), .val (.int k34), .val (.int k36), .val (.ref a38), .unset] [])
            refine own_iload (pc' := 136) X147 hx (hb hby at_134) rfl rfl ?_
            refine own_iload (pc' := 138) X147 hx (hb hby at_136) rfl rfl ?_
            refine own_iadd (pc' := 139) (z := (1 : Int32)) X147 hx (hb hby at_138) rfl (by decide) ?_
            refine own_iload (pc' := 141) X147 hx (hb hby at_139) rfl rfl ?_
            refine own_iadd (pc' := 142) (z := (2 : Int32)) X147 hx (hb hby at_141) rfl (by decide) ?_
            refine own_istore (pc' := 144) (l' := #[.val (.int p0), .val (.int p1), .val (.int p2), .val (.int p3), .val (.int (1 : Int32)), .val (.int (0 : Int32)), .val (.int (1 : Int32)), .val (.int k34), .val (.int k36), .val (.ref a38), .val (.int (2 : Int32))]) X147 hx (hb hby at_142) rfl rfl ?_
            refine own_aload (pc' := 146) X147 hx (hb hby at_144) rfl rfl rfl ?_
            refine own_iloadN (pc' := 147) X147 hx (hb hby at_146) rfl rfl ?_
            have f149 := (f144.keep Kq147)
            have f150 := (own_stak f145 Kq147 (allS (own_exac f144) (allS (own_arvc G127_2) all0)))
            have f151 := (f146.keep Kq147 (ninS ne40 (ninS ne47 nin0)))
            refine own_callV (pc' := 150) (y := (⟨"com/example/larder/larder/cache/UseCounts", "of", "(I)I"⟩ : MethodName)) (W := 0) (rm := own_room7) (argsL := [(.int p0)]) (rest := []) (b := a38) (C := "com/example/larder/larder/cache/UseCounts") X147 hx hZ rfl hown (by rw [hml]; rfl) f149 (own_w31 hw) (own_w32 hw) (own_w34 hw) (own_w33 hw) (own_w2 hw) (own_w35 hw) (by decide) (own_rm7 lch Z a0 hw [] a38 p0 pa pk b44 bk44 (2 : Int32) l2147 [own_spread k36, own_spread p0] T147.heap n0 f149 G147_0 F148 G147_2 G147_3 (by simp) (by decide) ge39 ge45 ne48 ne40 ne47 f150 f151) (by decide) (by decide) (by decide) (by decide) (lenOf own_pd0 rfl) rfl (by exact Nat.le_of_eq rfl) (hb hby at_147) rfl ?_
            intro T152 Lc152 v152 X152 hQ152
            obtain ⟨r152, rfl, Nq152, Kq152, G152_0⟩ := hQ152
            have N152 := Fr.app N147 Nq152
            show own_Ends prg e below s _ _ _ T152 (mkF m 150 #[.val (.int p0), .val (.int p1), .val (.int p2), .val (.int p3), .val (.int (1 : Int32)), .val (.int (0 : Int32)), .val (.int (1 : Int32)), .val (.int k34), .val (.int k36), .val (.ref a38), .val (.int (2 : Int32))] [(.int r152)])
            refine own_iloadN (pc' := 151) X152 hx (hb hby at_150) rfl rfl ?_
            refine own_iloadN (pc' := 152) X152 hx (hb hby at_151) rfl rfl ?_
            refine own_iload (pc' := 154) X152 hx (hb hby at_152) rfl rfl ?_
            refine own_iload (pc' := 156) X152 hx (hb hby at_154) rfl rfl ?_
            refine own_iload (pc' := 158) X152 hx (hb hby at_156) rfl rfl ?_
            refine own_iload (pc' := 160) X152 hx (hb hby at_158) rfl rfl ?_
            refine own_iload (pc' := 162) X152 hx (hb hby at_160) rfl rfl ?_
            refine own_callS (pc' := 165) (y := (⟨"com/example/larder/larder/cache/UseCountsAddPinLaw", "own", "(IIIIIII)I"⟩ : MethodName)) (W := 1) (rm := own_room9) (argsL := [(.int p0), (.int p0), (.int k34), (.int k36), (.int (1 : Int32)), (.int (0 : Int32)), (.int (1 : Int32))]) (rest := [(.int r152)]) X152 hx hZ Kq152 hown (by rw [hml]; rfl) (own_w40 hw) (own_w41 hw) (own_w42 hw) (own_w43 hw) (by decide) (own_rm9 lch Z a0 hw [] p0 p0 k34 k36 (1 : Int32) (0 : Int32) (1 : Int32) T147.heap n0) (by decide) (by decide) (by decide) (by decide) (lenOf own_pd4 rfl) rfl (by exact Nat.le_of_eq rfl) (hb hby at_162) rfl ?_
            intro T153 Lc153 v153 X153 hQ153
            obtain ⟨rfl, Nq153, Kq153⟩ := hQ153
            have N153 := Fr.app N152 Nq153
            show own_Ends prg e below s _ _ _ T153 (mkF m 165 #[.val (.int p0), .val (.int p1), .val (.int p2), .val (.int p3), .val (.int (1 : Int32)), .val (.int (0 : Int32)), .val (.int (1 : Int32)), .val (.int k34), .val (.int k36), .val (.ref a38), .val (.int (2 : Int32))] [(.int (own_own p0 p0 k34 k36 (1 : Int32) (0 : Int32) (1 : Int32))), (.int r152)])
            refine own_iload (pc' := 167) X153 hx (hb hby at_165) rfl rfl ?_
            have lw154 := own_low own_spread p0 p0 k34 k36 (a := 1) (b := 0) (c := 1) (by decide) (by decide) (by decide)
            replace lw154 : ((own_own p0 p0 k34 k36 (1 : Int32) (0 : Int32) (1 : Int32))).toInt ≤ (own_same [own_spread k36, own_spread p0] (own_spread p0) : Int) := lw154
            have lw154r := G152_0
            replace lw154r : _ ∧ _ ≤ (2 : Int) := lw154r
            refine own_callS (pc' := 170) (y := (⟨"com/example/larder/larder/cache/UseCountsAddPinLaw", "within", "(III)Z"⟩ : MethodName)) (W := 0) (rm := own_room10) (argsL := [(.int r152), (.int (own_own p0 p0 k34 k36 (1 : Int32) (0 : Int32) (1 : Int32))), (.int (2 : Int32))]) (rest := []) X153 hx hZ Kq153 hown (by rw [hml]; rfl) (own_w44 hw) (own_w45 hw) (own_w42 hw) (own_w46 hw) (by decide) (own_rm10 lch Z a0 hw [] r152 (own_own p0 p0 k34 k36 (1 : Int32) (0 : Int32) (1 : Int32)) (2 : Int32) T147.heap n0 (by omega) (show _ ≤ (2 : Int) by omega)) (by decide) (by decide) (by decide) (by decide) (lenOf own_pd5 rfl) rfl (by exact Nat.le_of_eq rfl) (hb hby at_167) rfl ?_
            intro T155 Lc155 v155 X155 hQ155
            obtain ⟨rfl, Nq155, Kq155⟩ := hQ155
            have N155 := Fr.app N153 Nq155
            show own_Ends prg e below s _ _ _ T155 (mkF m 170 #[.val (.int p0), .val (.int p1), .val (.int p2), .val (.int p3), .val (.int (1 : Int32)), .val (.int (0 : Int32)), .val (.int (1 : Int32)), .val (.int k34), .val (.int k36), .val (.ref a38), .val (.int (2 : Int32))] [(.int (1 : Int32))])
            refine own_ifNo (pc' := 173) X155 hx (hb hby at_170) rfl (feq (by decide)).1 ?_
            refine own_aload (pc' := 175) X155 hx (hb hby at_173) rfl rfl rfl ?_
            refine own_iload (pc' := 177) X155 hx (hb hby at_175) rfl rfl ?_
            refine own_callV (pc' := 180) (y := (⟨"com/example/larder/larder/cache/UseCounts", "of", "(I)I"⟩ : MethodName)) (W := 0) (rm := own_room7) (argsL := [(.int k34)]) (rest := []) (b := a38) (C := "com/example/larder/larder/cache/UseCounts") X155 hx hZ Kq155 hown (by rw [hml]; rfl) f149 (own_w31 hw) (own_w32 hw) (own_w34 hw) (own_w33 hw) (own_w2 hw) (own_w35 hw) (by decide) (own_rm7 lch Z a0 hw [] a38 k34 pa pk b44 bk44 (2 : Int32) l2147 [own_spread k36, own_spread p0] T147.heap n0 f149 G147_0 F148 G147_2 G147_3 (by simp) (by decide) ge39 ge45 ne48 ne40 ne47 f150 f151) (by decide) (by decide) (by decide) (by decide) (lenOf own_pd0 rfl) rfl (by exact Nat.le_of_eq rfl) (hb hby at_177) rfl ?_
            intro T156 Lc156 v156 X156 hQ156
            obtain ⟨r156, rfl, Nq156, Kq156, G156_0⟩ := hQ156
            have N156 := Fr.app N155 Nq156
            show own_Ends prg e below s _ _ _ T156 (mkF m 180 #[.val (.int p0), .val (.int p1), .val (.int p2), .val (.int p3), .val (.int (1 : Int32)), .val (.int (0 : Int32)), .val (.int (1 : Int32)), .val (.int k34), .val (.int k36), .val (.ref a38), .val (.int (2 : Int32))] [(.int r156)])
            refine own_iload (pc' := 182) X156 hx (hb hby at_180) rfl rfl ?_
            refine own_iloadN (pc' := 183) X156 hx (hb hby at_182) rfl rfl ?_
            refine own_iload (pc' := 185) X156 hx (hb hby at_183) rfl rfl ?_
            refine own_iload (pc' := 187) X156 hx (hb hby at_185) rfl rfl ?_
            refine own_iload (pc' := 189) X156 hx (hb hby at_187) rfl rfl ?_
            refine own_iload (pc' := 191) X156 hx (hb hby at_189) rfl rfl ?_
            refine own_iload (pc' := 193) X156 hx (hb hby at_191) rfl rfl ?_
            refine own_callS (pc' := 196) (y := (⟨"com/example/larder/larder/cache/UseCountsAddPinLaw", "own", "(IIIIIII)I"⟩ : MethodName)) (W := 1) (rm := own_room9) (argsL := [(.int k34), (.int p0), (.int k34), (.int k36), (.int (1 : Int32)), (.int (0 : Int32)), (.int (1 : Int32))]) (rest := [(.int r156)]) X156 hx hZ Kq156 hown (by rw [hml]; rfl) (own_w40 hw) (own_w41 hw) (own_w42 hw) (own_w43 hw) (by decide) (own_rm9 lch Z a0 hw [] k34 p0 k34 k36 (1 : Int32) (0 : Int32) (1 : Int32) T147.heap n0) (by decide) (by decide) (by decide) (by decide) (lenOf own_pd4 rfl) rfl (by exact Nat.le_of_eq rfl) (hb hby at_193) rfl ?_
            intro T157 Lc157 v157 X157 hQ157
            obtain ⟨rfl, Nq157, Kq157⟩ := hQ157
            have N157 := Fr.app N156 Nq157
            show own_Ends prg e below s _ _ _ T157 (mkF m 196 #[.val (.int p0), .val (.int p1), .val (.int p2), .val (.int p3), .val (.int (1 : Int32)), .val (.int (0 : Int32)), .val (.int (1 : Int32)), .val (.int k34), .val (.int k36), .val (.ref a38), .val (.int (2 : Int32))] [(.int (own_own k34 p0 k34 k36 (1 : Int32) (0 : Int32) (1 : Int32))), (.int r156)])
            refine own_iload (pc' := 198) X157 hx (hb hby at_196) rfl rfl ?_
            have lw158 := own_low own_spread k34 p0 k34 k36 (a := 1) (b := 0) (c := 1) (by decide) (by decide) (by decide)
            replace lw158 : ((own_own k34 p0 k34 k36 (1 : Int32) (0 : Int32) (1 : Int32))).toInt ≤ (own_same [own_spread k36, own_spread p0] (own_spread k34) : Int) := lw158
            have lw158r := G156_0
            replace lw158r : _ ∧ _ ≤ (2 : Int) := lw158r
            refine own_callS (pc' := 201) (y := (⟨"com/example/larder/larder/cache/UseCountsAddPinLaw", "within", "(III)Z"⟩ : MethodName)) (W := 0) (rm := own_room10) (argsL := [(.int r156), (.int (own_own k34 p0 k34 k36 (1 : Int32) (0 : Int32) (1 : Int32))), (.int (2 : Int32))]) (rest := []) X157 hx hZ Kq157 hown (by rw [hml]; rfl) (own_w44 hw) (own_w45 hw) (own_w42 hw) (own_w46 hw) (by decide) (own_rm10 lch Z a0 hw [] r156 (own_own k34 p0 k34 k36 (1 : Int32) (0 : Int32) (1 : Int32)) (2 : Int32) T147.heap n0 (by omega) (show _ ≤ (2 : Int) by omega)) (by decide) (by decide) (by decide) (by decide) (lenOf own_pd5 rfl) rfl (by exact Nat.le_of_eq rfl) (hb hby at_198) rfl ?_
            intro T159 Lc159 v159 X159 hQ159
            obtain ⟨rfl, Nq159, Kq159⟩ := hQ159
            have N159 := Fr.app N157 Nq159
            show own_Ends prg e below s _ _ _ T159 (mkF m 201 #[.val (.int p0), .val (.int p1), .val (.int p2), .val (.int p3), .val (.int (1 : Int32)), .val (.int (0 : Int32)), .val (.int (1 : Int32)), .val (.int k34), .val (.int k36), .val (.ref a38), .val (.int (2 : Int32))] [(.int (1 : Int32))])
            refine own_ifNo (pc' := 204) X159 hx (hb hby at_201) rfl (feq (by decide)).1 ?_
            refine own_aload (pc' := 206) X159 hx (hb hby at_204) rfl rfl rfl ?_
            refine own_iload (pc' := 208) X159 hx (hb hby at_206) rfl rfl ?_
            refine own_callV (pc' := 211) (y := (⟨"com/example/larder/larder/cache/UseCounts", "of", "(I)I"⟩ : MethodName)) (W := 0) (rm := own_room7) (argsL := [(.int k36)]) (rest := []) (b := a38) (C := "com/example/larder/larder/cache/UseCounts") X159 hx hZ Kq159 hown (by rw [hml]; rfl) f149 (own_w31 hw) (own_w32 hw) (own_w34 hw) (own_w33 hw) (own_w2 hw) (own_w35 hw) (by decide) (own_rm7 lch Z a0 hw [] a38 k36 pa pk b44 bk44 (2 : Int32) l2147 [own_spread k36, own_spread p0] T147.heap n0 f149 G147_0 F148 G147_2 G147_3 (by simp) (by decide) ge39 ge45 ne48 ne40 ne47 f150 f151) (by decide) (by decide) (by decide) (by decide) (lenOf own_pd0 rfl) rfl (by exact Nat.le_of_eq rfl) (hb hby at_208) rfl ?_
            intro T160 Lc160 v160 X160 hQ160
            obtain ⟨r160, rfl, Nq160, Kq160, G160_0⟩ := hQ160
            have N160 := Fr.app N159 Nq160
            show own_Ends prg e below s _ _ _ T160 (mkF m 211 #[.val (.int p0), .val (.int p1), .val (.int p2), .val (.int p3), .val (.int (1 : Int32)), .val (.int (0 : Int32)), .val (.int (1 : Int32)), .val (.int k34), .val (.int k36), .val (.ref a38), .val (.int (2 : Int32))] [(.int r160)])
            refine own_iload (pc' := 213) X160 hx (hb hby at_211) rfl rfl ?_
            refine own_iloadN (pc' := 214) X160 hx (hb hby at_213) rfl rfl ?_
            refine own_iload (pc' := 216) X160 hx (hb hby at_214) rfl rfl ?_
            refine own_iload (pc' := 218) X160 hx (hb hby at_216) rfl rfl ?_
            refine own_iload (pc' := 220) X160 hx (hb hby at_218) rfl rfl ?_
            refine own_iload (pc' := 222) X160 hx (hb hby at_220) rfl rfl ?_
            refine own_iload (pc' := 224) X160 hx (hb hby at_222) rfl rfl ?_
            refine own_callS (pc' := 227) (y := (⟨"com/example/larder/larder/cache/UseCountsAddPinLaw", "own", "(IIIIIII)I"⟩ : MethodName)) (W := 1) (rm := own_room9) (argsL := [(.int k36), (.int p0), (.int k34), (.int k36), (.int (1 : Int32)), (.int (0 : Int32)), (.int (1 : Int32))]) (rest := [(.int r160)]) X160 hx hZ Kq160 hown (by rw [hml]; rfl) (own_w40 hw) (own_w41 hw) (own_w42 hw) (own_w43 hw) (by decide) (own_rm9 lch Z a0 hw [] k36 p0 k34 k36 (1 : Int32) (0 : Int32) (1 : Int32) T147.heap n0) (by decide) (by decide) (by decide) (by decide) (lenOf own_pd4 rfl) rfl (by exact Nat.le_of_eq rfl) (hb hby at_224) rfl ?_
            intro T161 Lc161 v161 X161 hQ161
            obtain ⟨rfl, Nq161, Kq161⟩ := hQ161
            have N161 := Fr.app N160 Nq161
            show own_Ends prg e below s _ _ _ T161 (mkF m 227 #[.val (.int p0), .val (.int p1), .val (.int p2), .val (.int p3), .val (.int (1 : Int32)), .val (.int (0 : Int32)), .val (.int (1 : Int32)), .val (.int k34), .val (.int k36), .val (.ref a38), .val (.int (2 : Int32))] [(.int (own_own k36 p0 k34 k36 (1 : Int32) (0 : Int32) (1 : Int32))), (.int r160)])
            refine own_iload (pc' := 229) X161 hx (hb hby at_227) rfl rfl ?_
            have lw162 := own_low own_spread k36 p0 k34 k36 (a := 1) (b := 0) (c := 1) (by decide) (by decide) (by decide)
            replace lw162 : ((own_own k36 p0 k34 k36 (1 : Int32) (0 : Int32) (1 : Int32))).toInt ≤ (own_same [own_spread k36, own_spread p0] (own_spread k36) : Int) := lw162
            have lw162r := G160_0
            replace lw162r : _ ∧ _ ≤ (2 : Int) := lw162r
            refine own_callS (pc' := 232) (y := (⟨"com/example/larder/larder/cache/UseCountsAddPinLaw", "within", "(III)Z"⟩ : MethodName)) (W := 0) (rm := own_room10) (argsL := [(.int r160), (.int (own_own k36 p0 k34 k36 (1 : Int32) (0 : Int32) (1 : Int32))), (.int (2 : Int32))]) (rest := []) X161 hx hZ Kq161 hown (by rw [hml]; rfl) (own_w44 hw) (own_w45 hw) (own_w42 hw) (own_w46 hw) (by decide) (own_rm10 lch Z a0 hw [] r160 (own_own k36 p0 k34 k36 (1 : Int32) (0 : Int32) (1 : Int32)) (2 : Int32) T147.heap n0 (by omega) (show _ ≤ (2 : Int) by omega)) (by decide) (by decide) (by decide) (by decide) (lenOf own_pd5 rfl) rfl (by exact Nat.le_of_eq rfl) (hb hby at_229) rfl ?_
            intro T163 Lc163 v163 X163 hQ163
            obtain ⟨rfl, Nq163, Kq163⟩ := hQ163
            have N163 := Fr.app N161 Nq163
            show own_Ends prg e below s _ _ _ T163 (mkF m 232 #[.val (.int p0), .val (.int p1), .val (.int p2), .val (.int p3), .val (.int (1 : Int32)), .val (.int (0 : Int32)), .val (.int (1 : Int32)), .val (.int k34), .val (.int k36), .val (.ref a38), .val (.int (2 : Int32))] [(.int (1 : Int32))])
            refine own_ifNo (pc' := 235) X163 hx (hb hby at_232) rfl (feq (by decide)).1 ?_
            refine own_iconst (pc' := 236) (z := (1 : Int32)) X163 hx (hb hby at_235) rfl rfl ?_
            refine own_goto (pc' := 240) X163 hx (hb hby at_236) (by decide) (by decide) ?_
            refine own_retN X163 hx hlk hret (by simp) (hb hby at_240) (by decide) (by decide) ?_
            exact ⟨rfl, N163⟩
        · refine own_iload (pc' := 110) X127 hx (hb hby at_108) rfl rfl ?_
          refine own_iconst (pc' := 111) (z := (1 : Int32)) X127 hx (hb hby at_110) rfl rfl ?_
          refine own_icmpNo (pc' := 114) X127 hx (hb hby at_111) rfl (teq (by decide)).2 ?_
          refine own_aload (pc' := 116) X127 hx (hb hby at_114) rfl rfl rfl ?_
          refine own_iload (pc' := 118) X127 hx (hb hby at_116) rfl rfl ?_
          have f164 := (f124.keep Kq127)
          have f165 := (own_stak f125 Kq127 (allS (own_exac f124) (allS (own_arvc G44_3) all0)))
          have f166 := (f126.keep Kq127 (ninS ne40 (ninS ne47 nin0)))
          refine own_callV (pc' := 121) (y := (⟨"com/example/larder/larder/cache/UseCounts", "add", "(I)V"⟩ : MethodName)) (W := 0) (rm := own_room3) (argsL := [(.int k34)]) (rest := []) (b := a38) (C := "com/example/larder/larder/cache/UseCounts") X127 hx hZ rfl hown (by rw [hml]; rfl) f164 (own_w12 hw) (own_w13 hw) (own_w15 hw) (own_w14 hw) (own_w2 hw) (own_w16 hw) (by decide) (own_rm3 lch Z a0 hw [] a38 k34 pa pk b44 bk44 (1 : Int32) l2127 [own_spread p0] T127.heap n0 f164 G127_0 F128 G127_2 G127_3 (by simp) (by decide) ge39 ge45 ne48 ne40 ne47 f165 f166) (by decide) (by decide) (by decide) (by decide) (lenOf own_pd6 rfl) rfl (by exact Nat.le_of_eq rfl) (hb hby at_118) rfl ?_
          intro T167 Lc167 v167 X167 hQ167
          obtain ⟨l2167, rfl, Nq167, Kq167, G167_0, G167_1, G167_2, G167_3⟩ := hQ167
          have N167 := Fr.app N127 Nq167
          have F168 : Fld Z T167.heap a38 "com/example/larder/larder/cache/UseCounts" "additions" "I" (.int (2 : Int32)) := G167_1
          replace G167_3 : own_rep l2167 [own_spread k34, own_spread p0] := G167_3
          show own_Ends prg e below s _ _ _ T167 (mkF m 121 #[.val (.int p0), .val (.int p1), .val (.int p2), .val (.int p3), .val (.int (1 : Int32)), .val (.int (1 : Int32)), .val (.int c33), .val (.int k34), .val (.int k36), .val (.ref a38), .unset] [])
          rcases own_and1 hc33 with rfl | rfl
          · refine own_iload (pc' := 123) X167 hx (hb hby at_121) rfl rfl ?_
            refine own_iconst (pc' := 124) (z := (1 : Int32)) X167 hx (hb hby at_123) rfl rfl ?_
            refine own_icmpYes (pc' := 134) X167 hx (hb hby at_124) (feq (by decide)).2 (by decide) (by decide) ?_
            refine own_iload (pc' := 136) X167 hx (hb hby at_134) rfl rfl ?_
            refine own_iload (pc' := 138) X167 hx (hb hby at_136) rfl rfl ?_
            refine own_iadd (pc' := 139) (z := (2 : Int32)) X167 hx (hb hby at_138) rfl (by decide) ?_
            refine own_iload (pc' := 141) X167 hx (hb hby at_139) rfl rfl ?_
            refine own_iadd (pc' := 142) (z := (2 : Int32)) X167 hx (hb hby at_141) rfl (by decide) ?_
            refine own_istore (pc' := 144) (l' := #[.val (.int p0), .val (.int p1), .val (.int p2), .val (.int p3), .val (.int (1 : Int32)), .val (.int (1 : Int32)), .val (.int (0 : Int32)), .val (.int k34), .val (.int k36), .val (.ref a38), .val (.int (2 : Int32))]) X167 hx (hb hby at_142) rfl rfl ?_
            refine own_aload (pc' := 146) X167 hx (hb hby at_144) rfl rfl rfl ?_
            refine own_iloadN (pc' := 147) X167 hx (hb hby at_146) rfl rfl ?_
            have f169 := (f164.keep Kq167)
            have f170 := (own_stak f165 Kq167 (allS (own_exac f164) (allS (own_arvc G127_2) all0)))
            have f171 := (f166.keep Kq167 (ninS ne40 (ninS ne47 nin0)))
            refine own_callV (pc' := 150) (y := (⟨"com/example/larder/larder/cache/UseCounts", "of", "(I)I"⟩ : MethodName)) (W := 0) (rm := own_room7) (argsL := [(.int p0)]) (rest := []) (b := a38) (C := "com/example/larder/larder/cache/UseCounts") X167 hx hZ rfl hown (by rw [hml]; rfl) f169 (own_w31 hw) (own_w32 hw) (own_w34 hw) (own_w33 hw) (own_w2 hw) (own_w35 hw) (by decide) (own_rm7 lch Z a0 hw [] a38 p0 pa pk b44 bk44 (2 : Int32) l2167 [own_spread k34, own_spread p0] T167.heap n0 f169 G167_0 F168 G167_2 G167_3 (by simp) (by decide) ge39 ge45 ne48 ne40 ne47 f170 f171) (by decide) (by decide) (by decide) (by decide) (lenOf own_pd0 rfl) rfl (by exact Nat.le_of_eq rfl) (hb hby at_147) rfl ?_
            intro T172 Lc172 v172 X172 hQ172
            obtain ⟨r172, rfl, Nq172, Kq172, G172_0⟩ := hQ172
            have N172 := Fr.app N167 Nq172
            show own_Ends prg e below s _ _ _ T172 (mkF m 150 #[.val (.int p0), .val (.int p1), .val (.int p2), .val (.int p3), .val (.int (1 : Int32)), .val (.int (1 : Int32)), .val (.int (0 : Int32)), .val (.int k34), .val (.int k36), .val (.ref a38), .val (.int (2 : Int32))] [(.int r172)])
            refine own_iloadN (pc' := 151) X172 hx (hb hby at_150) rfl rfl ?_
            refine own_iloadN (pc' := 152) X172 hx (hb hby at_151) rfl rfl ?_
            refine own_iload (pc' := 154) X172 hx (hb hby at_152) rfl rfl ?_
            refine own_iload (pc' := 156) X172 hx (hb hby at_154) rfl rfl ?_
            refine own_iload (pc' := 158) X172 hx (hb hby at_156) rfl rfl ?_
            refine own_iload (pc' := 160) X172 hx (hb hby at_158) rfl rfl ?_
            refine own_iload (pc' := 162) X172 hx (hb hby at_160) rfl rfl ?_
            refine own_callS (pc' := 165) (y := (⟨"com/example/larder/larder/cache/UseCountsAddPinLaw", "own", "(IIIIIII)I"⟩ : MethodName)) (W := 1) (rm := own_room9) (argsL := [(.int p0), (.int p0), (.int k34), (.int k36), (.int (1 : Int32)), (.int (1 : Int32)), (.int (0 : Int32))]) (rest := [(.int r172)]) X172 hx hZ Kq172 hown (by rw [hml]; rfl) (own_w40 hw) (own_w41 hw) (own_w42 hw) (own_w43 hw) (by decide) (own_rm9 lch Z a0 hw [] p0 p0 k34 k36 (1 : Int32) (1 : Int32) (0 : Int32) T167.heap n0) (by decide) (by decide) (by decide) (by decide) (lenOf own_pd4 rfl) rfl (by exact Nat.le_of_eq rfl) (hb hby at_162) rfl ?_
            intro T173 Lc173 v173 X173 hQ173
            obtain ⟨rfl, Nq173, Kq173⟩ := hQ173
            have N173 := Fr.app N172 Nq173
            show own_Ends prg e below s _ _ _ T173 (mkF m 165 #[.val (.int p0), .val (.int p1), .val (.int p2), .val (.int p3), .val (.int (1 : Int32)), .val (.int (1 : Int32)), .val (.int (0 : Int32)), .val (.int k34), .val (.int k36), .val (.ref a38), .val (.int (2 : Int32))] [(.int (own_own p0 p0 k34 k36 (1 : Int32) (1 : Int32) (0 : Int32))), (.int r172)])
            refine own_iload (pc' := 167) X173 hx (hb hby at_165) rfl rfl ?_
            have lw174 := own_low own_spread p0 p0 k34 k36 (a := 1) (b := 1) (c := 0) (by decide) (by decide) (by decide)
            replace lw174 : ((own_own p0 p0 k34 k36 (1 : Int32) (1 : Int32) (0 : Int32))).toInt ≤ (own_same [own_spread k34, own_spread p0] (own_spread p0) : Int) := lw174
            have lw174r := G172_0
            replace lw174r : _ ∧ _ ≤ (2 : Int) := lw174r
            refine own_callS (pc' := 170) (y := (⟨"com/example/larder/larder/cache/UseCountsAddPinLaw", "within", "(III)Z"⟩ : MethodName)) (W := 0) (rm := own_room10) (argsL := [(.int r172), (.int (own_own p0 p0 k34 k36 (1 : Int32) (1 : Int32) (0 : Int32))), (.int (2 : Int32))]) (rest := []) X173 hx hZ Kq173 hown (by rw [hml]; rfl) (own_w44 hw) (own_w45 hw) (own_w42 hw) (own_w46 hw) (by decide) (own_rm10 lch Z a0 hw [] r172 (own_own p0 p0 k34 k36 (1 : Int32) (1 : Int32) (0 : Int32)) (2 : Int32) T167.heap n0 (by omega) (show _ ≤ (2 : Int) by omega)) (by decide) (by decide) (by decide) (by decide) (lenOf own_pd5 rfl) rfl (by exact Nat.le_of_eq rfl) (hb hby at_167) rfl ?_
            intro T175 Lc175 v175 X175 hQ175
            obtain ⟨rfl, Nq175, Kq175⟩ := hQ175
            have N175 := Fr.app N173 Nq175
            show own_Ends prg e below s _ _ _ T175 (mkF m 170 #[.val (.int p0), .val (.int p1), .val (.int p2), .val (.int p3), .val (.int (1 : Int32)), .val (.int (1 : Int32)), .val (.int (0 : Int32)), .val (.int k34), .val (.int k36), .val (.ref a38), .val (.int (2 : Int32))] [(.int (1 : Int32))])
            refine own_ifNo (pc' := 173) X175 hx (hb hby at_170) rfl (feq (by decide)).1 ?_
            refine own_aload (pc' := 175) X175 hx (hb hby at_173) rfl rfl rfl ?_
            refine own_iload (pc' := 177) X175 hx (hb hby at_175) rfl rfl ?_
            refine own_callV (pc' := 180) (y := (⟨"com/example/larder/larder/cache/UseCounts", "of", "(I)I"⟩ : MethodName)) (W := 0) (rm := own_room7) (argsL := [(.int k34)]) (rest := []) (b := a38) (C := "com/example/larder/larder/cache/UseCounts") X175 hx hZ Kq175 hown (by rw [hml]; rfl) f169 (own_w31 hw) (own_w32 hw) (own_w34 hw) (own_w33 hw) (own_w2 hw) (own_w35 hw) (by decide) (own_rm7 lch Z a0 hw [] a38 k34 pa pk b44 bk44 (2 : Int32) l2167 [own_spread k34, own_spread p0] T167.heap n0 f169 G167_0 F168 G167_2 G167_3 (by simp) (by decide) ge39 ge45 ne48 ne40 ne47 f170 f171) (by decide) (by decide) (by decide) (by decide) (lenOf own_pd0 rfl) rfl (by exact Nat.le_of_eq rfl) (hb hby at_177) rfl ?_
            intro T176 Lc176 v176 X176 hQ176
            obtain ⟨r176, rfl, Nq176, Kq176, G176_0⟩ := hQ176
            have N176 := Fr.app N175 Nq176
            show own_Ends prg e below s _ _ _ T176 (mkF m 180 #[.val (.int p0), .val (.int p1), .val (.int p2), .val (.int p3), .val (.int (1 : Int32)), .val (.int (1 : Int32)), .val (.int (0 : Int32)), .val (.int k34), .val (.int k36), .val (.ref a38), .val (.int (2 : Int32))] [(.int r176)])
            refine own_iload (pc' := 182) X176 hx (hb hby at_180) rfl rfl ?_
            refine own_iloadN (pc' := 183) X176 hx (hb hby at_182) rfl rfl ?_
            refine own_iload (pc' := 185) X176 hx (hb hby at_183) rfl rfl ?_
            refine own_iload (pc' := 187) X176 hx (hb hby at_185) rfl rfl ?_
            refine own_iload (pc' := 189) X176 hx (hb hby at_187) rfl rfl ?_
            refine own_iload (pc' := 191) X176 hx (hb hby at_189) rfl rfl ?_
            refine own_iload (pc' := 193) X176 hx (hb hby at_191) rfl rfl ?_
            refine own_callS (pc' := 196) (y := (⟨"com/example/larder/larder/cache/UseCountsAddPinLaw", "own", "(IIIIIII)I"⟩ : MethodName)) (W := 1) (rm := own_room9) (argsL := [(.int k34), (.int p0), (.int k34), (.int k36), (.int (1 : Int32)), (.int (1 : Int32)), (.int (0 : Int32))]) (rest := [(.int r176)]) X176 hx hZ Kq176 hown (by rw [hml]; rfl) (own_w40 hw) (own_w41 hw) (own_w42 hw) (own_w43 hw) (by decide) (own_rm9 lch Z a0 hw [] k34 p0 k34 k36 (1 : Int32) (1 : Int32) (0 : Int32) T167.heap n0) (by decide) (by decide) (by decide) (by decide) (lenOf own_pd4 rfl) rfl (by exact Nat.le_of_eq rfl) (hb hby at_193) rfl ?_
            intro T177 Lc177 v177 X177 hQ177
            obtain ⟨rfl, Nq177, Kq177⟩ := hQ177
            have N177 := Fr.app N176 Nq177
            show own_Ends prg e below s _ _ _ T177 (mkF m 196 #[.val (.int p0), .val (.int p1), .val (.int p2), .val (.int p3), .val (.int (1 : Int32)), .val (.int (1 : Int32)), .val (.int (0 : Int32)), .val (.int k34), .val (.int k36), .val (.ref a38), .val (.int (2 : Int32))] [(.int (own_own k34 p0 k34 k36 (1 : Int32) (1 : Int32) (0 : Int32))), (.int r176)])
            refine own_iload (pc' := 198) X177 hx (hb hby at_196) rfl rfl ?_
            have lw178 := own_low own_spread k34 p0 k34 k36 (a := 1) (b := 1) (c := 0) (by decide) (by decide) (by decide)
            replace lw178 : ((own_own k34 p0 k34 k36 (1 : Int32) (1 : Int32) (0 : Int32))).toInt ≤ (own_same [own_spread k34, own_spread p0] (own_spread k34) : Int) := lw178
            have lw178r := G176_0
            replace lw178r : _ ∧ _ ≤ (2 : Int) := lw178r
            refine own_callS (pc' := 201) (y := (⟨"com/example/larder/larder/cache/UseCountsAddPinLaw", "within", "(III)Z"⟩ : MethodName)) (W := 0) (rm := own_room10) (argsL := [(.int r176), (.int (own_own k34 p0 k34 k36 (1 : Int32) (1 : Int32) (0 : Int32))), (.int (2 : Int32))]) (rest := []) X177 hx hZ Kq177 hown (by rw [hml]; rfl) (own_w44 hw) (own_w45 hw) (own_w42 hw) (own_w46 hw) (by decide) (own_rm10 lch Z a0 hw [] r176 (own_own k34 p0 k34 k36 (1 : Int32) (1 : Int32) (0 : Int32)) (2 : Int32) T167.heap n0 (by omega) (show _ ≤ (2 : Int) by omega)) (by decide) (by decide) (by decide) (by decide) (lenOf own_pd5 rfl) rfl (by exact Nat.le_of_eq rfl) (hb hby at_198) rfl ?_
            intro T179 Lc179 v179 X179 hQ179
            obtain ⟨rfl, Nq179, Kq179⟩ := hQ179
            have N179 := Fr.app N177 Nq179
            show own_Ends prg e below s _ _ _ T179 (mkF m 201 #[.val (.int p0), .val (.int p1), .val (.int p2), .val (.int p3), .val (.int (1 : Int32)), .val (.int (1 : Int32)), .val (.int (0 : Int32)), .val (.int k34), .val (.int k36), .val (.ref a38), .val (.int (2 : Int32))] [(.int (1 : Int32))])
            refine own_ifNo (pc' := 204) X179 hx (hb hby at_201) rfl (feq (by decide)).1 ?_
            refine own_aload (pc' := 206) X179 hx (hb hby at_204) rfl rfl rfl ?_
            refine own_iload (pc' := 208) X179 hx (hb hby at_206) rfl rfl ?_
            refine own_callV (pc' := 211) (y := (⟨"com/example/larder/larder/cache/UseCounts", "of", "(I)I"⟩ : MethodName)) (W := 0) (rm := own_room7) (argsL := [(.int k36)]) (rest := []) (b := a38) (C := "com/example/larder/larder/cache/UseCounts") X179 hx hZ Kq179 hown (by rw [hml]; rfl) f169 (own_w31 hw) (own_w32 hw) (own_w34 hw) (own_w33 hw) (own_w2 hw) (own_w35 hw) (by decide) (own_rm7 lch Z a0 hw [] a38 k36 pa pk b44 bk44 (2 : Int32) l2167 [own_spread k34, own_spread p0] T167.heap n0 f169 G167_0 F168 G167_2 G167_3 (by simp) (by decide) ge39 ge45 ne48 ne40 ne47 f170 f171) (by decide) (by decide) (by decide) (by decide) (lenOf own_pd0 rfl) rfl (by exact Nat.le_of_eq rfl) (hb hby at_208) rfl ?_
            intro T180 Lc180 v180 X180 hQ180
            obtain ⟨r180, rfl, Nq180, Kq180, G180_0⟩ := hQ180
            have N180 := Fr.app N179 Nq180
            show own_Ends prg e below s _ _ _ T180 (mkF m 211 #[.val (.int p0), .val (.int p1), .val (.int p2), .val (.int p3), .val (.int (1 : Int32)), .val (.int (1 : Int32)), .val (.int (0 : Int32)), .val (.int k34), .val (.int k36), .val (.ref a38), .val (.int (2 : Int32))] [(.int r180)])
            refine own_iload (pc' := 213) X180 hx (hb hby at_211) rfl rfl ?_
            refine own_iloadN (pc' := 214) X180 hx (hb hby at_213) rfl rfl ?_
            refine own_iload (pc' := 216) X180 hx (hb hby at_214) rfl rfl ?_
            refine own_iload (pc' := 218) X180 hx (hb hby at_216) rfl rfl ?_
            refine own_iload (pc' := 220) X180 hx (hb hby at_218) rfl rfl ?_
            refine own_iload (pc' := 222) X180 hx (hb hby at_220) rfl rfl ?_
            refine own_iload (pc' := 224) X180 hx (hb hby at_222) rfl rfl ?_
            refine own_callS (pc' := 227) (y := (⟨"com/example/larder/larder/cache/UseCountsAddPinLaw", "own", "(IIIIIII)I"⟩ : MethodName)) (W := 1) (rm := own_room9) (argsL := [(.int k36), (.int p0), (.int k34), (.int k36), (.int (1 : Int32)), (.int (1 : Int32)), (.int (0 : Int32))]) (rest := [(.int r180)]) X180 hx hZ Kq180 hown (by rw [hml]; rfl) (own_w40 hw) (own_w41 hw) (own_w42 hw) (own_w43 hw) (by decide) (own_rm9 lch Z a0 hw [] k36 p0 k34 k36 (1 : Int32) (1 : Int32) (0 : Int32) T167.heap n0) (by decide) (by decide) (by decide) (by decide) (lenOf own_pd4 rfl) rfl (by exact Nat.le_of_eq rfl) (hb hby at_224) rfl ?_
            intro T181 Lc181 v181 X181 hQ181
            obtain ⟨rfl, Nq181, Kq181⟩ := hQ181
            have N181 := Fr.app N180 Nq181
            show own_Ends prg e below s _ _ _ T181 (mkF m 227 #[.val (.int p0), .val (.int p1), .val (.int p2), .val (.int p3), .val (.int (1 : Int32)), .val (.int (1 : Int32)), .val (.int (0 : Int32)), .val (.int k34), .val (.int k36), .val (.ref a38), .val (.int (2 : Int32))] [(.int (own_own k36 p0 k34 k36 (1 : Int32) (1 : Int32) (0 : Int32))), (.int r180)])
            refine own_iload (pc' := 229) X181 hx (hb hby at_227) rfl rfl ?_
            have lw182 := own_low own_spread k36 p0 k34 k36 (a := 1) (b := 1) (c := 0) (by decide) (by decide) (by decide)
            replace lw182 : ((own_own k36 p0 k34 k36 (1 : Int32) (1 : Int32) (0 : Int32))).toInt ≤ (own_same [own_spread k34, own_spread p0] (own_spread k36) : Int) := lw182
            have lw182r := G180_0
            replace lw182r : _ ∧ _ ≤ (2 : Int) := lw182r
            refine own_callS (pc' := 232) (y := (⟨"com/example/larder/larder/cache/UseCountsAddPinLaw", "within", "(III)Z"⟩ : MethodName)) (W := 0) (rm := own_room10) (argsL := [(.int r180), (.int (own_own k36 p0 k34 k36 (1 : Int32) (1 : Int32) (0 : Int32))), (.int (2 : Int32))]) (rest := []) X181 hx hZ Kq181 hown (by rw [hml]; rfl) (own_w44 hw) (own_w45 hw) (own_w42 hw) (own_w46 hw) (by decide) (own_rm10 lch Z a0 hw [] r180 (own_own k36 p0 k34 k36 (1 : Int32) (1 : Int32) (0 : Int32)) (2 : Int32) T167.heap n0 (by omega) (show _ ≤ (2 : Int) by omega)) (by decide) (by decide) (by decide) (by decide) (lenOf own_pd5 rfl) rfl (by exact Nat.le_of_eq rfl) (hb hby at_229) rfl ?_
            intro T183 Lc183 v183 X183 hQ183
            obtain ⟨rfl, Nq183, Kq183⟩ := hQ183
            have N183 := Fr.app N181 Nq183
            show own_Ends prg e below s _ _ _ T183 (mkF m 232 #[.val (.int p0), .val (.int p1), .val (.int p2), .val (.int p3), .val (.int (1 : Int32)), .val (.int (1 : Int32)), .val (.int (0 : Int32)), .val (.int k34), .val (.int k36), .val (.ref a38), .val (.int (2 : Int32))] [(.int (1 : Int32))])
            refine own_ifNo (pc' := 235) X183 hx (hb hby at_232) rfl (feq (by decide)).1 ?_
            refine own_iconst (pc' := 236) (z := (1 : Int32)) X183 hx (hb hby at_235) rfl rfl ?_
            refine own_goto (pc' := 240) X183 hx (hb hby at_236) (by decide) (by decide) ?_
            refine own_retN X183 hx hlk hret (by simp) (hb hby at_240) (by decide) (by decide) ?_
            exact ⟨rfl, N183⟩
          · refine own_iload (pc' := 123) X167 hx (hb hby at_121) rfl rfl ?_
            refine own_iconst (pc' := 124) (z := (1 : Int32)) X167 hx (hb hby at_123) rfl rfl ?_
            refine own_icmpNo (pc' := 127) X167 hx (hb hby at_124) rfl (teq (by decide)).2 ?_
            refine own_aload (pc' := 129) X167 hx (hb hby at_127) rfl rfl rfl ?_
            refine own_iload (pc' := 131) X167 hx (hb hby at_129) rfl rfl ?_
            have f184 := (f164.keep Kq167)
            have f185 := (own_stak f165 Kq167 (allS (own_exac f164) (allS (own_arvc G127_2) all0)))
            have f186 := (f166.keep Kq167 (ninS ne40 (ninS ne47 nin0)))
            refine own_callV (pc' := 134) (y := (⟨"com/example/larder/larder/cache/UseCounts", "add", "(I)V"⟩ : MethodName)) (W := 0) (rm := own_room3) (argsL := [(.int k36)]) (rest := []) (b := a38) (C := "com/example/larder/larder/cache/UseCounts") X167 hx hZ rfl hown (by rw [hml]; rfl) f184 (own_w12 hw) (own_w13 hw) (own_w15 hw) (own_w14 hw) (own_w2 hw) (own_w16 hw) (by decide) (own_rm3 lch Z a0 hw [] a38 k36 pa pk b44 bk44 (2 : Int32) l2167 [own_spread k34, own_spread p0] T167.heap n0 f184 G167_0 F168 G167_2 G167_3 (by simp) (by decide) ge39 ge45 ne48 ne40 ne47 f185 f186) (by decide) (by decide) (by decide) (by decide) (lenOf own_pd6 rfl) rfl (by exact Nat.le_of_eq rfl) (hb hby at_131) rfl ?_
            intro T187 Lc187 v187 X187 hQ187
            obtain ⟨l2187, rfl, Nq187, Kq187, G187_0, G187_1, G187_2, G187_3⟩ := hQ187
            have N187 := Fr.app N167 Nq187
            have F188 : Fld Z T187.heap a38 "com/example/larder/larder/cache/UseCounts" "additions" "I" (.int (3 : Int32)) := G187_1
            replace G187_3 : own_rep l2187 [own_spread k36, own_spread k34, own_spread p0] := G187_3
            show own_Ends prg e below s _ _ _ T187 (mkF m 134 #[.val (.int p0), .val (.int p1), .val (.int p2), .val (.int p3), .val (.int (1 : Int32)), .val (.int (1 : Int32)), .val (.int (1 : Int32)), .val (.int k34), .val (.int k36), .val (.ref a38), .unset] [])
            refine own_iload (pc' := 136) X187 hx (hb hby at_134) rfl rfl ?_
            refine own_iload (pc' := 138) X187 hx (hb hby at_136) rfl rfl ?_
            refine own_iadd (pc' := 139) (z := (2 : Int32)) X187 hx (hb hby at_138) rfl (by decide) ?_
            refine own_iload (pc' := 141) X187 hx (hb hby at_139) rfl rfl ?_
            refine own_iadd (pc' := 142) (z := (3 : Int32)) X187 hx (hb hby at_141) rfl (by decide) ?_
            refine own_istore (pc' := 144) (l' := #[.val (.int p0), .val (.int p1), .val (.int p2), .val (.int p3), .val (.int (1 : Int32)), .val (.int (1 : Int32)), .val (.int (1 : Int32)), .val (.int k34), .val (.int k36), .val (.ref a38), .val (.int (3 : Int32))]) X187 hx (hb hby at_142) rfl rfl ?_
            refine own_aload (pc' := 146) X187 hx (hb hby at_144) rfl rfl rfl ?_
            refine own_iloadN (pc' := 147) X187 hx (hb hby at_146) rfl rfl ?_
            have f189 := (f184.keep Kq187)
            have f190 := (own_stak f185 Kq187 (allS (own_exac f184) (allS (own_arvc G167_2) all0)))
            have f191 := (f186.keep Kq187 (ninS ne40 (ninS ne47 nin0)))
            refine own_callV (pc' := 150) (y := (⟨"com/example/larder/larder/cache/UseCounts", "of", "(I)I"⟩ : MethodName)) (W := 0) (rm := own_room7) (argsL := [(.int p0)]) (rest := []) (b := a38) (C := "com/example/larder/larder/cache/UseCounts") X187 hx hZ rfl hown (by rw [hml]; rfl) f189 (own_w31 hw) (own_w32 hw) (own_w34 hw) (own_w33 hw) (own_w2 hw) (own_w35 hw) (by decide) (own_rm7 lch Z a0 hw [] a38 p0 pa pk b44 bk44 (3 : Int32) l2187 [own_spread k36, own_spread k34, own_spread p0] T187.heap n0 f189 G187_0 F188 G187_2 G187_3 (by simp) (by decide) ge39 ge45 ne48 ne40 ne47 f190 f191) (by decide) (by decide) (by decide) (by decide) (lenOf own_pd0 rfl) rfl (by exact Nat.le_of_eq rfl) (hb hby at_147) rfl ?_
            intro T192 Lc192 v192 X192 hQ192
            obtain ⟨r192, rfl, Nq192, Kq192, G192_0⟩ := hQ192
            have N192 := Fr.app N187 Nq192
            show own_Ends prg e below s _ _ _ T192 (mkF m 150 #[.val (.int p0), .val (.int p1), .val (.int p2), .val (.int p3), .val (.int (1 : Int32)), .val (.int (1 : Int32)), .val (.int (1 : Int32)), .val (.int k34), .val (.int k36), .val (.ref a38), .val (.int (3 : Int32))] [(.int r192)])
            refine own_iloadN (pc' := 151) X192 hx (hb hby at_150) rfl rfl ?_
            refine own_iloadN (pc' := 152) X192 hx (hb hby at_151) rfl rfl ?_
            refine own_iload (pc' := 154) X192 hx (hb hby at_152) rfl rfl ?_
            refine own_iload (pc' := 156) X192 hx (hb hby at_154) rfl rfl ?_
            refine own_iload (pc' := 158) X192 hx (hb hby at_156) rfl rfl ?_
            refine own_iload (pc' := 160) X192 hx (hb hby at_158) rfl rfl ?_
            refine own_iload (pc' := 162) X192 hx (hb hby at_160) rfl rfl ?_
            refine own_callS (pc' := 165) (y := (⟨"com/example/larder/larder/cache/UseCountsAddPinLaw", "own", "(IIIIIII)I"⟩ : MethodName)) (W := 1) (rm := own_room9) (argsL := [(.int p0), (.int p0), (.int k34), (.int k36), (.int (1 : Int32)), (.int (1 : Int32)), (.int (1 : Int32))]) (rest := [(.int r192)]) X192 hx hZ Kq192 hown (by rw [hml]; rfl) (own_w40 hw) (own_w41 hw) (own_w42 hw) (own_w43 hw) (by decide) (own_rm9 lch Z a0 hw [] p0 p0 k34 k36 (1 : Int32) (1 : Int32) (1 : Int32) T187.heap n0) (by decide) (by decide) (by decide) (by decide) (lenOf own_pd4 rfl) rfl (by exact Nat.le_of_eq rfl) (hb hby at_162) rfl ?_
            intro T193 Lc193 v193 X193 hQ193
            obtain ⟨rfl, Nq193, Kq193⟩ := hQ193
            have N193 := Fr.app N192 Nq193
            show own_Ends prg e below s _ _ _ T193 (mkF m 165 #[.val (.int p0), .val (.int p1), .val (.int p2), .val (.int p3), .val (.int (1 : Int32)), .val (.int (1 : Int32)), .val (.int (1 : Int32)), .val (.int k34), .val (.int k36), .val (.ref a38), .val (.int (3 : Int32))] [(.int (own_own p0 p0 k34 k36 (1 : Int32) (1 : Int32) (1 : Int32))), (.int r192)])
            refine own_iload (pc' := 167) X193 hx (hb hby at_165) rfl rfl ?_
            have lw194 := own_low own_spread p0 p0 k34 k36 (a := 1) (b := 1) (c := 1) (by decide) (by decide) (by decide)
            replace lw194 : ((own_own p0 p0 k34 k36 (1 : Int32) (1 : Int32) (1 : Int32))).toInt ≤ (own_same [own_spread k36, own_spread k34, own_spread p0] (own_spread p0) : Int) := lw194
            have lw194r := G192_0
            replace lw194r : _ ∧ _ ≤ (3 : Int) := lw194r
            refine own_callS (pc' := 170) (y := (⟨"com/example/larder/larder/cache/UseCountsAddPinLaw", "within", "(III)Z"⟩ : MethodName)) (W := 0) (rm := own_room10) (argsL := [(.int r192), (.int (own_own p0 p0 k34 k36 (1 : Int32) (1 : Int32) (1 : Int32))), (.int (3 : Int32))]) (rest := []) X193 hx hZ Kq193 hown (by rw [hml]; rfl) (own_w44 hw) (own_w45 hw) (own_w42 hw) (own_w46 hw) (by decide) (own_rm10 lch Z a0 hw [] r192 (own_own p0 p0 k34 k36 (1 : Int32) (1 : Int32) (1 : Int32)) (3 : Int32) T187.heap n0 (by omega) (show _ ≤ (3 : Int) by omega)) (by decide) (by decide) (by decide) (by decide) (lenOf own_pd5 rfl) rfl (by exact Nat.le_of_eq rfl) (hb hby at_167) rfl ?_
            intro T195 Lc195 v195 X195 hQ195
            obtain ⟨rfl, Nq195, Kq195⟩ := hQ195
            have N195 := Fr.app N193 Nq195
            show own_Ends prg e below s _ _ _ T195 (mkF m 170 #[.val (.int p0), .val (.int p1), .val (.int p2), .val (.int p3), .val (.int (1 : Int32)), .val (.int (1 : Int32)), .val (.int (1 : Int32)), .val (.int k34), .val (.int k36), .val (.ref a38), .val (.int (3 : Int32))] [(.int (1 : Int32))])
            refine own_ifNo (pc' := 173) X195 hx (hb hby at_170) rfl (feq (by decide)).1 ?_
            refine own_aload (pc' := 175) X195 hx (hb hby at_173) rfl rfl rfl ?_
            refine own_iload (pc' := 177) X195 hx (hb hby at_175) rfl rfl ?_
            refine own_callV (pc' := 180) (y := (⟨"com/example/larder/larder/cache/UseCounts", "of", "(I)I"⟩ : MethodName)) (W := 0) (rm := own_room7) (argsL := [(.int k34)]) (rest := []) (b := a38) (C := "com/example/larder/larder/cache/UseCounts") X195 hx hZ Kq195 hown (by rw [hml]; rfl) f189 (own_w31 hw) (own_w32 hw) (own_w34 hw) (own_w33 hw) (own_w2 hw) (own_w35 hw) (by decide) (own_rm7 lch Z a0 hw [] a38 k34 pa pk b44 bk44 (3 : Int32) l2187 [own_spread k36, own_spread k34, own_spread p0] T187.heap n0 f189 G187_0 F188 G187_2 G187_3 (by simp) (by decide) ge39 ge45 ne48 ne40 ne47 f190 f191) (by decide) (by decide) (by decide) (by decide) (lenOf own_pd0 rfl) rfl (by exact Nat.le_of_eq rfl) (hb hby at_177) rfl ?_
            intro T196 Lc196 v196 X196 hQ196
            obtain ⟨r196, rfl, Nq196, Kq196, G196_0⟩ := hQ196
            have N196 := Fr.app N195 Nq196
            show own_Ends prg e below s _ _ _ T196 (mkF m 180 #[.val (.int p0), .val (.int p1), .val (.int p2), .val (.int p3), .val (.int (1 : Int32)), .val (.int (1 : Int32)), .val (.int (1 : Int32)), .val (.int k34), .val (.int k36), .val (.ref a38), .val (.int (3 : Int32))] [(.int r196)])
            refine own_iload (pc' := 182) X196 hx (hb hby at_180) rfl rfl ?_
            refine own_iloadN (pc' := 183) X196 hx (hb hby at_182) rfl rfl ?_
            refine own_iload (pc' := 185) X196 hx (hb hby at_183) rfl rfl ?_
            refine own_iload (pc' := 187) X196 hx (hb hby at_185) rfl rfl ?_
            refine own_iload (pc' := 189) X196 hx (hb hby at_187) rfl rfl ?_
            refine own_iload (pc' := 191) X196 hx (hb hby at_189) rfl rfl ?_
            refine own_iload (pc' := 193) X196 hx (hb hby at_191) rfl rfl ?_
            refine own_callS (pc' := 196) (y := (⟨"com/example/larder/larder/cache/UseCountsAddPinLaw", "own", "(IIIIIII)I"⟩ : MethodName)) (W := 1) (rm := own_room9) (argsL := [(.int k34), (.int p0), (.int k34), (.int k36), (.int (1 : Int32)), (.int (1 : Int32)), (.int (1 : Int32))]) (rest := [(.int r196)]) X196 hx hZ Kq196 hown (by rw [hml]; rfl) (own_w40 hw) (own_w41 hw) (own_w42 hw) (own_w43 hw) (by decide) (own_rm9 lch Z a0 hw [] k34 p0 k34 k36 (1 : Int32) (1 : Int32) (1 : Int32) T187.heap n0) (by decide) (by decide) (by decide) (by decide) (lenOf own_pd4 rfl) rfl (by exact Nat.le_of_eq rfl) (hb hby at_193) rfl ?_
            intro T197 Lc197 v197 X197 hQ197
            obtain ⟨rfl, Nq197, Kq197⟩ := hQ197
            have N197 := Fr.app N196 Nq197
            show own_Ends prg e below s _ _ _ T197 (mkF m 196 #[.val (.int p0), .val (.int p1), .val (.int p2), .val (.int p3), .val (.int (1 : Int32)), .val (.int (1 : Int32)), .val (.int (1 : Int32)), .val (.int k34), .val (.int k36), .val (.ref a38), .val (.int (3 : Int32))] [(.int (own_own k34 p0 k34 k36 (1 : Int32) (1 : Int32) (1 : Int32))), (.int r196)])
            refine own_iload (pc' := 198) X197 hx (hb hby at_196) rfl rfl ?_
            have lw198 := own_low own_spread k34 p0 k34 k36 (a := 1) (b := 1) (c := 1) (by decide) (by decide) (by decide)
            replace lw198 : ((own_own k34 p0 k34 k36 (1 : Int32) (1 : Int32) (1 : Int32))).toInt ≤ (own_same [own_spread k36, own_spread k34, own_spread p0] (own_spread k34) : Int) := lw198
            have lw198r := G196_0
            replace lw198r : _ ∧ _ ≤ (3 : Int) := lw198r
            refine own_callS (pc' := 201) (y := (⟨"com/example/larder/larder/cache/UseCountsAddPinLaw", "within", "(III)Z"⟩ : MethodName)) (W := 0) (rm := own_room10) (argsL := [(.int r196), (.int (own_own k34 p0 k34 k36 (1 : Int32) (1 : Int32) (1 : Int32))), (.int (3 : Int32))]) (rest := []) X197 hx hZ Kq197 hown (by rw [hml]; rfl) (own_w44 hw) (own_w45 hw) (own_w42 hw) (own_w46 hw) (by decide) (own_rm10 lch Z a0 hw [] r196 (own_own k34 p0 k34 k36 (1 : Int32) (1 : Int32) (1 : Int32)) (3 : Int32) T187.heap n0 (by omega) (show _ ≤ (3 : Int) by omega)) (by decide) (by decide) (by decide) (by decide) (lenOf own_pd5 rfl) rfl (by exact Nat.le_of_eq rfl) (hb hby at_198) rfl ?_
            intro T199 Lc199 v199 X199 hQ199
            obtain ⟨rfl, Nq199, Kq199⟩ := hQ199
            have N199 := Fr.app N197 Nq199
            show own_Ends prg e below s _ _ _ T199 (mkF m 201 #[.val (.int p0), .val (.int p1), .val (.int p2), .val (.int p3), .val (.int (1 : Int32)), .val (.int (1 : Int32)), .val (.int (1 : Int32)), .val (.int k34), .val (.int k36), .val (.ref a38), .val (.int (3 : Int32))] [(.int (1 : Int32))])
            refine own_ifNo (pc' := 204) X199 hx (hb hby at_201) rfl (feq (by decide)).1 ?_
            refine own_aload (pc' := 206) X199 hx (hb hby at_204) rfl rfl rfl ?_
            refine own_iload (pc' := 208) X199 hx (hb hby at_206) rfl rfl ?_
            refine own_callV (pc' := 211) (y := (⟨"com/example/larder/larder/cache/UseCounts", "of", "(I)I"⟩ : MethodName)) (W := 0) (rm := own_room7) (argsL := [(.int k36)]) (rest := []) (b := a38) (C := "com/example/larder/larder/cache/UseCounts") X199 hx hZ Kq199 hown (by rw [hml]; rfl) f189 (own_w31 hw) (own_w32 hw) (own_w34 hw) (own_w33 hw) (own_w2 hw) (own_w35 hw) (by decide) (own_rm7 lch Z a0 hw [] a38 k36 pa pk b44 bk44 (3 : Int32) l2187 [own_spread k36, own_spread k34, own_spread p0] T187.heap n0 f189 G187_0 F188 G187_2 G187_3 (by simp) (by decide) ge39 ge45 ne48 ne40 ne47 f190 f191) (by decide) (by decide) (by decide) (by decide) (lenOf own_pd0 rfl) rfl (by exact Nat.le_of_eq rfl) (hb hby at_208) rfl ?_
            intro T200 Lc200 v200 X200 hQ200
            obtain ⟨r200, rfl, Nq200, Kq200, G200_0⟩ := hQ200
            have N200 := Fr.app N199 Nq200
            show own_Ends prg e below s _ _ _ T200 (mkF m 211 #[.val (.int p0), .val (.int p1), .val (.int p2), .val (.int p3), .val (.int (1 : Int32)), .val (.int (1 : Int32)), .val (.int (1 : Int32)), .val (.int k34), .val (.int k36), .val (.ref a38), .val (.int (3 : Int32))] [(.int r200)])
            refine own_iload (pc' := 213) X200 hx (hb hby at_211) rfl rfl ?_
            refine own_iloadN (pc' := 214) X200 hx (hb hby at_213) rfl rfl ?_
            refine own_iload (pc' := 216) X200 hx (hb hby at_214) rfl rfl ?_
            refine own_iload (pc' := 218) X200 hx (hb hby at_216) rfl rfl ?_
            refine own_iload (pc' := 220) X200 hx (hb hby at_218) rfl rfl ?_
            refine own_iload (pc' := 222) X200 hx (hb hby at_220) rfl rfl ?_
            refine own_iload (pc' := 224) X200 hx (hb hby at_222) rfl rfl ?_
            refine own_callS (pc' := 227) (y := (⟨"com/example/larder/larder/cache/UseCountsAddPinLaw", "own", "(IIIIIII)I"⟩ : MethodName)) (W := 1) (rm := own_room9) (argsL := [(.int k36), (.int p0), (.int k34), (.int k36), (.int (1 : Int32)), (.int (1 : Int32)), (.int (1 : Int32))]) (rest := [(.int r200)]) X200 hx hZ Kq200 hown (by rw [hml]; rfl) (own_w40 hw) (own_w41 hw) (own_w42 hw) (own_w43 hw) (by decide) (own_rm9 lch Z a0 hw [] k36 p0 k34 k36 (1 : Int32) (1 : Int32) (1 : Int32) T187.heap n0) (by decide) (by decide) (by decide) (by decide) (lenOf own_pd4 rfl) rfl (by exact Nat.le_of_eq rfl) (hb hby at_224) rfl ?_
            intro T201 Lc201 v201 X201 hQ201
            obtain ⟨rfl, Nq201, Kq201⟩ := hQ201
            have N201 := Fr.app N200 Nq201
            show own_Ends prg e below s _ _ _ T201 (mkF m 227 #[.val (.int p0), .val (.int p1), .val (.int p2), .val (.int p3), .val (.int (1 : Int32)), .val (.int (1 : Int32)), .val (.int (1 : Int32)), .val (.int k34), .val (.int k36), .val (.ref a38), .val (.int (3 : Int32))] [(.int (own_own k36 p0 k34 k36 (1 : Int32) (1 : Int32) (1 : Int32))), (.int r200)])
            refine own_iload (pc' := 229) X201 hx (hb hby at_227) rfl rfl ?_
            have lw202 := own_low own_spread k36 p0 k34 k36 (a := 1) (b := 1) (c := 1) (by decide) (by decide) (by decide)
            replace lw202 : ((own_own k36 p0 k34 k36 (1 : Int32) (1 : Int32) (1 : Int32))).toInt ≤ (own_same [own_spread k36, own_spread k34, own_spread p0] (own_spread k36) : Int) := lw202
            have lw202r := G200_0
            replace lw202r : _ ∧ _ ≤ (3 : Int) := lw202r
            refine own_callS (pc' := 232) (y := (⟨"com/example/larder/larder/cache/UseCountsAddPinLaw", "within", "(III)Z"⟩ : MethodName)) (W := 0) (rm := own_room10) (argsL := [(.int r200), (.int (own_own k36 p0 k34 k36 (1 : Int32) (1 : Int32) (1 : Int32))), (.int (3 : Int32))]) (rest := []) X201 hx hZ Kq201 hown (by rw [hml]; rfl) (own_w44 hw) (own_w45 hw) (own_w42 hw) (own_w46 hw) (by decide) (own_rm10 lch Z a0 hw [] r200 (own_own k36 p0 k34 k36 (1 : Int32) (1 : Int32) (1 : Int32)) (3 : Int32) T187.heap n0 (by omega) (show _ ≤ (3 : Int) by omega)) (by decide) (by decide) (by decide) (by decide) (lenOf own_pd5 rfl) rfl (by exact Nat.le_of_eq rfl) (hb hby at_229) rfl ?_
            intro T203 Lc203 v203 X203 hQ203
            obtain ⟨rfl, Nq203, Kq203⟩ := hQ203
            have N203 := Fr.app N201 Nq203
            show own_Ends prg e below s _ _ _ T203 (mkF m 232 #[.val (.int p0), .val (.int p1), .val (.int p2), .val (.int p3), .val (.int (1 : Int32)), .val (.int (1 : Int32)), .val (.int (1 : Int32)), .val (.int k34), .val (.int k36), .val (.ref a38), .val (.int (3 : Int32))] [(.int (1 : Int32))])
            refine own_ifNo (pc' := 235) X203 hx (hb hby at_232) rfl (feq (by decide)).1 ?_
            refine own_iconst (pc' := 236) (z := (1 : Int32)) X203 hx (hb hby at_235) rfl rfl ?_
            refine own_goto (pc' := 240) X203 hx (hb hby at_236) (by decide) (by decide) ?_
            refine own_retN X203 hx hlk hret (by simp) (hb hby at_240) (by decide) (by decide) ?_
            exact ⟨rfl, N203⟩
      · refine own_iload (pc' := 74) X44 hx (hb hby at_72) rfl rfl ?_
        refine own_iconst (pc' := 75) (z := (1 : Int32)) X44 hx (hb hby at_74) rfl rfl ?_
        refine own_icmpNo (pc' := 78) X44 hx (hb hby at_75) rfl (flt (by decide)).1 ?_
        refine own_aload (pc' := 80) X44 hx (hb hby at_78) rfl rfl rfl ?_
        refine own_iloadN (pc' := 81) X44 hx (hb hby at_80) rfl rfl ?_
        have f204 := (A38.keep Kq44)
        have f205 := (own_stak (S0.ext E38) Kq44 (allS (own_exac A38) all0))
        have f206 := (f46.keep Kq44 (ninS ne40 nin0))
        refine own_callV (pc' := 84) (y := (⟨"com/example/larder/larder/cache/UseCounts", "add", "(I)V"⟩ : MethodName)) (W := 0) (rm := own_room3) (argsL := [(.int p0)]) (rest := []) (b := a38) (C := "com/example/larder/larder/cache/UseCounts") X44 hx hZ rfl hown (by rw [hml]; rfl) f204 (own_w12 hw) (own_w13 hw) (own_w15 hw) (own_w14 hw) (own_w2 hw) (own_w16 hw) (by decide) (own_rm3 lch Z a0 hw [] a38 p0 pa pk b44 bk44 (0 : Int32) (List.replicate 16 (0 : Int32)) [] T44.heap n0 f204 G44_1 G44_2 G44_3 own_repZ (by simp) (by decide) ge39 ge45 ne48 ne40 ne47 f205 f206) (by decide) (by decide) (by decide) (by decide) (lenOf own_pd6 rfl) rfl (by exact Nat.le_of_eq rfl) (hb hby at_81) rfl ?_
        intro T207 Lc207 v207 X207 hQ207
        obtain ⟨l2207, rfl, Nq207, Kq207, G207_0, G207_1, G207_2, G207_3⟩ := hQ207
        have N207 := Fr.app N44 Nq207
        have F208 : Fld Z T207.heap a38 "com/example/larder/larder/cache/UseCounts" "additions" "I" (.int (1 : Int32)) := G207_1
        replace G207_3 : own_rep l2207 [own_spread p0] := G207_3
        show own_Ends prg e below s _ _ _ T207 (mkF m 84 #[.val (.int p0), .val (.int p1), .val (.int p2), .val (.int p3), .val (.int (2 : Int32)), .val (.int b32), .val (.int c33), .val (.int k34), .val (.int k36), .val (.ref a38), .unset] [])
        refine own_iload (pc' := 86) X207 hx (hb hby at_84) rfl rfl ?_
        refine own_iconst (pc' := 87) (z := (2 : Int32)) X207 hx (hb hby at_86) rfl rfl ?_
        refine own_icmpNo (pc' := 90) X207 hx (hb hby at_87) rfl (flt (by decide)).1 ?_
        refine own_aload (pc' := 92) X207 hx (hb hby at_90) rfl rfl rfl ?_
        refine own_iloadN (pc' := 93) X207 hx (hb hby at_92) rfl rfl ?_
        have f209 := (f204.keep Kq207)
        have f210 := (own_stak f205 Kq207 (allS (own_exac f204) (allS (own_arvc G44_3) all0)))
        have f211 := (f206.keep Kq207 (ninS ne40 (ninS ne47 nin0)))
        refine own_callV (pc' := 96) (y := (⟨"com/example/larder/larder/cache/UseCounts", "add", "(I)V"⟩ : MethodName)) (W := 0) (rm := own_room3) (argsL := [(.int p0)]) (rest := []) (b := a38) (C := "com/example/larder/larder/cache/UseCounts") X207 hx hZ rfl hown (by rw [hml]; rfl) f209 (own_w12 hw) (own_w13 hw) (own_w15 hw) (own_w14 hw) (own_w2 hw) (own_w16 hw) (by decide) (own_rm3 lch Z a0 hw [] a38 p0 pa pk b44 bk44 (1 : Int32) l2207 [own_spread p0] T207.heap n0 f209 G207_0 F208 G207_2 G207_3 (by simp) (by decide) ge39 ge45 ne48 ne40 ne47 f210 f211) (by decide) (by decide) (by decide) (by decide) (lenOf own_pd6 rfl) rfl (by exact Nat.le_of_eq rfl) (hb hby at_93) rfl ?_
        intro T212 Lc212 v212 X212 hQ212
        obtain ⟨l2212, rfl, Nq212, Kq212, G212_0, G212_1, G212_2, G212_3⟩ := hQ212
        have N212 := Fr.app N207 Nq212
        have F213 : Fld Z T212.heap a38 "com/example/larder/larder/cache/UseCounts" "additions" "I" (.int (2 : Int32)) := G212_1
        replace G212_3 : own_rep l2212 [own_spread p0, own_spread p0] := G212_3
        show own_Ends prg e below s _ _ _ T212 (mkF m 96 #[.val (.int p0), .val (.int p1), .val (.int p2), .val (.int p3), .val (.int (2 : Int32)), .val (.int b32), .val (.int c33), .val (.int k34), .val (.int k36), .val (.ref a38), .unset] [])
        refine own_iload (pc' := 98) X212 hx (hb hby at_96) rfl rfl ?_
        refine own_iconst (pc' := 99) (z := (3 : Int32)) X212 hx (hb hby at_98) rfl rfl ?_
        refine own_icmpYes (pc' := 108) X212 hx (hb hby at_99) (tlt (by decide)).1 (by decide) (by decide) ?_
        rcases own_and1 hb32 with rfl | rfl
        · refine own_iload (pc' := 110) X212 hx (hb hby at_108) rfl rfl ?_
          refine own_iconst (pc' := 111) (z := (1 : Int32)) X212 hx (hb hby at_110) rfl rfl ?_
          refine own_icmpYes (pc' := 121) X212 hx (hb hby at_111) (feq (by decide)).2 (by decide) (by decide) ?_
          rcases own_and1 hc33 with rfl | rfl
          · refine own_iload (pc' := 123) X212 hx (hb hby at_121) rfl rfl ?_
            refine own_iconst (pc' := 124) (z := (1 : Int32)) X212 hx (hb hby at_123) rfl rfl ?_
            refine own_icmpYes (pc' := 134) X212 hx (hb hby at_124) (feq (by decide)).2 (by decide) (by decide) ?_
            refine own_iload (pc' := 136) X212 hx (hb hby at_134) rfl rfl ?_
            refine own_iload (pc' := 138) X212 hx (hb hby at_136) rfl rfl ?_
            refine own_iadd (pc' := 139) (z := (2 : Int32)) X212 hx (hb hby at_138) rfl (by decide) ?_
            refine own_iload (pc' := 141) X212 hx (hb hby at_139) rfl rfl ?_
            refine own_iadd (pc' := 142) (z := (2 : Int32)) X212 hx (hb hby at_141) rfl (by decide) ?_
            refine own_istore (pc' := 144) (l' := #[.val (.int p0), .val (.int p1), .val (.int p2), .val (.int p3), .val (.int (2 : Int32)), .val (.int (0 : Int32)), .val (.int (0 : Int32)), .val (.int k34), .val (.int k36), .val (.ref a38), .val (.int (2 : Int32))]) X212 hx (hb hby at_142) rfl rfl ?_
            refine own_aload (pc' := 146) X212 hx (hb hby at_144) rfl rfl rfl ?_
            refine own_iloadN (pc' := 147) X212 hx (hb hby at_146) rfl rfl ?_
            have f214 := (f209.keep Kq212)
            have f215 := (own_stak f210 Kq212 (allS (own_exac f209) (allS (own_arvc G207_2) all0)))
            have f216 := (f211.keep Kq212 (ninS ne40 (ninS ne47 nin0)))
            refine own_callV (pc' := 150) (y := (⟨"com/example/larder/larder/cache/UseCounts", "of", "(I)I"⟩ : MethodName)) (W := 0) (rm := own_room7) (argsL := [(.int p0)]) (rest := []) (b := a38) (C := "com/example/larder/larder/cache/UseCounts") X212 hx hZ rfl hown (by rw [hml]; rfl) f214 (own_w31 hw) (own_w32 hw) (own_w34 hw) (own_w33 hw) (own_w2 hw) (own_w35 hw) (by decide) (own_rm7 lch Z a0 hw [] a38 p0 pa pk b44 bk44 (2 : Int32) l2212 [own_spread p0, own_spread p0] T212.heap n0 f214 G212_0 F213 G212_2 G212_3 (by simp) (by decide) ge39 ge45 ne48 ne40 ne47 f215 f216) (by decide) (by decide) (by decide) (by decide) (lenOf own_pd0 rfl) rfl (by exact Nat.le_of_eq rfl) (hb hby at_147) rfl ?_
            intro T217 Lc217 v217 X217 hQ217
            obtain ⟨r217, rfl, Nq217, Kq217, G217_0⟩ := hQ217
            have N217 := Fr.app N212 Nq217
            show own_Ends prg e below s _ _ _ T217 (mkF m 150 #[.val (.int p0), .val (.int p1), .val (.int p2), .val (.int p3), .val (.int (2 : Int32)), .val (.int (0 : Int32)), .val (.int (0 : Int32)), .val (.int k34), .val (.int k36), .val (.ref a38), .val (.int (2 : Int32))] [(.int r217)])
            refine own_iloadN (pc' := 151) X217 hx (hb hby at_150) rfl rfl ?_
            refine own_iloadN (pc' := 152) X217 hx (hb hby at_151) rfl rfl ?_
            refine own_iload (pc' := 154) X217 hx (hb hby at_152) rfl rfl ?_
            refine own_iload (pc' := 156) X217 hx (hb hby at_154) rfl rfl ?_
            refine own_iload (pc' := 158) X217 hx (hb hby at_156) rfl rfl ?_
            refine own_iload (pc' := 160) X217 hx (hb hby at_158) rfl rfl ?_
            refine own_iload (pc' := 162) X217 hx (hb hby at_160) rfl rfl ?_
            refine own_callS (pc' := 165) (y := (⟨"com/example/larder/larder/cache/UseCountsAddPinLaw", "own", "(IIIIIII)I"⟩ : MethodName)) (W := 1) (rm := own_room9) (argsL := [(.int p0), (.int p0), (.int k34), (.int k36), (.int (2 : Int32)), (.int (0 : Int32)), (.int (0 : Int32))]) (rest := [(.int r217)]) X217 hx hZ Kq217 hown (by rw [hml]; rfl) (own_w40 hw) (own_w41 hw) (own_w42 hw) (own_w43 hw) (by decide) (own_rm9 lch Z a0 hw [] p0 p0 k34 k36 (2 : Int32) (0 : Int32) (0 : Int32) T212.heap n0) (by decide) (by decide) (by decide) (by decide) (lenOf own_pd4 rfl) rfl (by exact Nat.le_of_eq rfl) (hb hby at_162) rfl ?_
            intro T218 Lc218 v218 X218 hQ218
            obtain ⟨rfl, Nq218, Kq218⟩ := hQ218
            have N218 := Fr.app N217 Nq218
            show own_Ends prg e below s _ _ _ T218 (mkF m 165 #[.val (.int p0), .val (.int p1), .val (.int p2), .val (.int p3), .val (.int (2 : Int32)), .val (.int (0 : Int32)), .val (.int (0 : Int32)), .val (.int k34), .val (.int k36), .val (.ref a38), .val (.int (2 : Int32))] [(.int (own_own p0 p0 k34 k36 (2 : Int32) (0 : Int32) (0 : Int32))), (.int r217)])
            refine own_iload (pc' := 167) X218 hx (hb hby at_165) rfl rfl ?_
            have lw219 := own_low own_spread p0 p0 k34 k36 (a := 2) (b := 0) (c := 0) (by decide) (by decide) (by decide)
            replace lw219 : ((own_own p0 p0 k34 k36 (2 : Int32) (0 : Int32) (0 : Int32))).toInt ≤ (own_same [own_spread p0, own_spread p0] (own_spread p0) : Int) := lw219
            have lw219r := G217_0
            replace lw219r : _ ∧ _ ≤ (2 : Int) := lw219r
            refine own_callS (pc' := 170) (y := (⟨"com/example/larder/larder/cache/UseCountsAddPinLaw", "within", "(III)Z"⟩ : MethodName)) (W := 0) (rm := own_room10) (argsL := [(.int r217), (.int (own_own p0 p0 k34 k36 (2 : Int32) (0 : Int32) (0 : Int32))), (.int (2 : Int32))]) (rest := []) X218 hx hZ Kq218 hown (by rw [hml]; rfl) (own_w44 hw) (own_w45 hw) (own_w42 hw) (own_w46 hw) (by decide) (own_rm10 lch Z a0 hw [] r217 (own_own p0 p0 k34 k36 (2 : Int32) (0 : Int32) (0 : Int32)) (2 : Int32) T212.heap n0 (by omega) (show _ ≤ (2 : Int) by omega)) (by decide) (by decide) (by decide) (by decide) (lenOf own_pd5 rfl) rfl (by exact Nat.le_of_eq rfl) (hb hby at_167) rfl ?_
            intro T220 Lc220 v220 X220 hQ220
            obtain ⟨rfl, Nq220, Kq220⟩ := hQ220
            have N220 := Fr.app N218 Nq220
            show own_Ends prg e below s _ _ _ T220 (mkF m 170 #[.val (.int p0), .val (.int p1), .val (.int p2), .val (.int p3), .val (.int (2 : Int32)), .val (.int (0 : Int32)), .val (.int (0 : Int32)), .val (.int k34), .val (.int k36), .val (.ref a38), .val (.int (2 : Int32))] [(.int (1 : Int32))])
            refine own_ifNo (pc' := 173) X220 hx (hb hby at_170) rfl (feq (by decide)).1 ?_
            refine own_aload (pc' := 175) X220 hx (hb hby at_173) rfl rfl rfl ?_
            refine own_iload (pc' := 177) X220 hx (hb hby at_175) rfl rfl ?_
            refine own_callV (pc' := 180) (y := (⟨"com/example/larder/larder/cache/UseCounts", "of", "(I)I"⟩ : MethodName)) (W := 0) (rm := own_room7) (argsL := [(.int k34)]) (rest := []) (b := a38) (C := "com/example/larder/larder/cache/UseCounts") X220 hx hZ Kq220 hown (by rw [hml]; rfl) f214 (own_w31 hw) (own_w32 hw) (own_w34 hw) (own_w33 hw) (own_w2 hw) (own_w35 hw) (by decide) (own_rm7 lch Z a0 hw [] a38 k34 pa pk b44 bk44 (2 : Int32) l2212 [own_spread p0, own_spread p0] T212.heap n0 f214 G212_0 F213 G212_2 G212_3 (by simp) (by decide) ge39 ge45 ne48 ne40 ne47 f215 f216) (by decide) (by decide) (by decide) (by decide) (lenOf own_pd0 rfl) rfl (by exact Nat.le_of_eq rfl) (hb hby at_177) rfl ?_
            intro T221 Lc221 v221 X221 hQ221
            obtain ⟨r221, rfl, Nq221, Kq221, G221_0⟩ := hQ221
            have N221 := Fr.app N220 Nq221
            show own_Ends prg e below s _ _ _ T221 (mkF m 180 #[.val (.int p0), .val (.int p1), .val (.int p2), .val (.int p3), .val (.int (2 : Int32)), .val (.int (0 : Int32)), .val (.int (0 : Int32)), .val (.int k34), .val (.int k36), .val (.ref a38), .val (.int (2 : Int32))] [(.int r221)])
            refine own_iload (pc' := 182) X221 hx (hb hby at_180) rfl rfl ?_
            refine own_iloadN (pc' := 183) X221 hx (hb hby at_182) rfl rfl ?_
            refine own_iload (pc' := 185) X221 hx (hb hby at_183) rfl rfl ?_
            refine own_iload (pc' := 187) X221 hx (hb hby at_185) rfl rfl ?_
            refine own_iload (pc' := 189) X221 hx (hb hby at_187) rfl rfl ?_
            refine own_iload (pc' := 191) X221 hx (hb hby at_189) rfl rfl ?_
            refine own_iload (pc' := 193) X221 hx (hb hby at_191) rfl rfl ?_
            refine own_callS (pc' := 196) (y := (⟨"com/example/larder/larder/cache/UseCountsAddPinLaw", "own", "(IIIIIII)I"⟩ : MethodName)) (W := 1) (rm := own_room9) (argsL := [(.int k34), (.int p0), (.int k34), (.int k36), (.int (2 : Int32)), (.int (0 : Int32)), (.int (0 : Int32))]) (rest := [(.int r221)]) X221 hx hZ Kq221 hown (by rw [hml]; rfl) (own_w40 hw) (own_w41 hw) (own_w42 hw) (own_w43 hw) (by decide) (own_rm9 lch Z a0 hw [] k34 p0 k34 k36 (2 : Int32) (0 : Int32) (0 : Int32) T212.heap n0) (by decide) (by decide) (by decide) (by decide) (lenOf own_pd4 rfl) rfl (by exact Nat.le_of_eq rfl) (hb hby at_193) rfl ?_
            intro T222 Lc222 v222 X222 hQ222
            obtain ⟨rfl, Nq222, Kq222⟩ := hQ222
            have N222 := Fr.app N221 Nq222
            show own_Ends prg e below s _ _ _ T222 (mkF m 196 #[.val (.int p0), .val (.int p1), .val (.int p2), .val (.int p3), .val (.int (2 : Int32)), .val (.int (0 : Int32)), .val (.int (0 : Int32)), .val (.int k34), .val (.int k36), .val (.ref a38), .val (.int (2 : Int32))] [(.int (own_own k34 p0 k34 k36 (2 : Int32) (0 : Int32) (0 : Int32))), (.int r221)])
            refine own_iload (pc' := 198) X222 hx (hb hby at_196) rfl rfl ?_
            have lw223 := own_low own_spread k34 p0 k34 k36 (a := 2) (b := 0) (c := 0) (by decide) (by decide) (by decide)
            replace lw223 : ((own_own k34 p0 k34 k36 (2 : Int32) (0 : Int32) (0 : Int32))).toInt ≤ (own_same [own_spread p0, own_spread p0] (own_spread k34) : Int) := lw223
            have lw223r := G221_0
            replace lw223r : _ ∧ _ ≤ (2 : Int) := lw223r
            refine own_callS (pc' := 201) (y := (⟨"com/example/larder/larder/cache/UseCountsAddPinLaw", "within", "(III)Z"⟩ : MethodName)) (W := 0) (rm := own_room10) (argsL := [(.int r221), (.int (own_own k34 p0 k34 k36 (2 : Int32) (0 : Int32) (0 : Int32))), (.int (2 : Int32))]) (rest := []) X222 hx hZ Kq222 hown (by rw [hml]; rfl) (own_w44 hw) (own_w45 hw) (own_w42 hw) (own_w46 hw) (by decide) (own_rm10 lch Z a0 hw [] r221 (own_own k34 p0 k34 k36 (2 : Int32) (0 : Int32) (0 : Int32)) (2 : Int32) T212.heap n0 (by omega) (show _ ≤ (2 : Int) by omega)) (by decide) (by decide) (by decide) (by decide) (lenOf own_pd5 rfl) rfl (by exact Nat.le_of_eq rfl) (hb hby at_198) rfl ?_
            intro T224 Lc224 v224 X224 hQ224
            obtain ⟨rfl, Nq224, Kq224⟩ := hQ224
            have N224 := Fr.app N222 Nq224
            show own_Ends prg e below s _ _ _ T224 (mkF m 201 #[.val (.int p0), .val (.int p1), .val (.int p2), .val (.int p3), .val (.int (2 : Int32)), .val (.int (0 : Int32)), .val (.int (0 : Int32)), .val (.int k34), .val (.int k36), .val (.ref a38), .val (.int (2 : Int32))] [(.int (1 : Int32))])
            refine own_ifNo (pc' := 204) X224 hx (hb hby at_201) rfl (feq (by decide)).1 ?_
            refine own_aload (pc' := 206) X224 hx (hb hby at_204) rfl rfl rfl ?_
            refine own_iload (pc' := 208) X224 hx (hb hby at_206) rfl rfl ?_
            refine own_callV (pc' := 211) (y := (⟨"com/example/larder/larder/cache/UseCounts", "of", "(I)I"⟩ : MethodName)) (W := 0) (rm := own_room7) (argsL := [(.int k36)]) (rest := []) (b := a38) (C := "com/example/larder/larder/cache/UseCounts") X224 hx hZ Kq224 hown (by rw [hml]; rfl) f214 (own_w31 hw) (own_w32 hw) (own_w34 hw) (own_w33 hw) (own_w2 hw) (own_w35 hw) (by decide) (own_rm7 lch Z a0 hw [] a38 k36 pa pk b44 bk44 (2 : Int32) l2212 [own_spread p0, own_spread p0] T212.heap n0 f214 G212_0 F213 G212_2 G212_3 (by simp) (by decide) ge39 ge45 ne48 ne40 ne47 f215 f216) (by decide) (by decide) (by decide) (by decide) (lenOf own_pd0 rfl) rfl (by exact Nat.le_of_eq rfl) (hb hby at_208) rfl ?_
            intro T225 Lc225 v225 X225 hQ225
            obtain ⟨r225, rfl, Nq225, Kq225, G225_0⟩ := hQ225
            have N225 := Fr.app N224 Nq225
            show own_Ends prg e below s _ _ _ T225 (mkF m 211 #[.val (.int p0), .val (.int p1), .val (.int p2), .val (.int p3), .val (.int (2 : Int32)), .val (.int (0 : Int32)), .val (.int (0 : Int32)), .val (.int k34), .val (.int k36), .val (.ref a38), .val (.int (2 : Int32))] [(.int r225)])
            refine own_iload (pc' := 213) X225 hx (hb hby at_211) rfl rfl ?_
            refine own_iloadN (pc' := 214) X225 hx (hb hby at_213) rfl rfl ?_
            refine own_iload (pc' := 216) X225 hx (hb hby at_214) rfl rfl ?_
            refine own_iload (pc' := 218) X225 hx (hb hby at_216) rfl rfl ?_
            refine own_iload (pc' := 220) X225 hx (hb hby at_218) rfl rfl ?_
            refine own_iload (pc' := 222) X225 hx (hb hby at_220) rfl rfl ?_
            refine own_iload (pc' := 224) X225 hx (hb hby at_222) rfl rfl ?_
            refine own_callS (pc' := 227) (y := (⟨"com/example/larder/larder/cache/UseCountsAddPinLaw", "own", "(IIIIIII)I"⟩ : MethodName)) (W := 1) (rm := own_room9) (argsL := [(.int k36), (.int p0), (.int k34), (.int k36), (.int (2 : Int32)), (.int (0 : Int32)), (.int (0 : Int32))]) (rest := [(.int r225)]) X225 hx hZ Kq225 hown (by rw [hml]; rfl) (own_w40 hw) (own_w41 hw) (own_w42 hw) (own_w43 hw) (by decide) (own_rm9 lch Z a0 hw [] k36 p0 k34 k36 (2 : Int32) (0 : Int32) (0 : Int32) T212.heap n0) (by decide) (by decide) (by decide) (by decide) (lenOf own_pd4 rfl) rfl (by exact Nat.le_of_eq rfl) (hb hby at_224) rfl ?_
            intro T226 Lc226 v226 X226 hQ226
            obtain ⟨rfl, Nq226, Kq226⟩ := hQ226
            have N226 := Fr.app N225 Nq226
            show own_Ends prg e below s _ _ _ T226 (mkF m 227 #[.val (.int p0), .val (.int p1), .val (.int p2), .val (.int p3), .val (.int (2 : Int32)), .val (.int (0 : Int32)), .val (.int (0 : Int32)), .val (.int k34), .val (.int k36), .val (.ref a38), .val (.int (2 : Int32))] [(.int (own_own k36 p0 k34 k36 (2 : Int32) (0 : Int32) (0 : Int32))), (.int r225)])
            refine own_iload (pc' := 229) X226 hx (hb hby at_227) rfl rfl ?_
            have lw227 := own_low own_spread k36 p0 k34 k36 (a := 2) (b := 0) (c := 0) (by decide) (by decide) (by decide)
            replace lw227 : ((own_own k36 p0 k34 k36 (2 : Int32) (0 : Int32) (0 : Int32))).toInt ≤ (own_same [own_spread p0, own_spread p0] (own_spread k36) : Int) := lw227
            have lw227r := G225_0
            replace lw227r : _ ∧ _ ≤ (2 : Int) := lw227r
            refine own_callS (pc' := 232) (y := (⟨"com/example/larder/larder/cache/UseCountsAddPinLaw", "within", "(III)Z"⟩ : MethodName)) (W := 0) (rm := own_room10) (argsL := [(.int r225), (.int (own_own k36 p0 k34 k36 (2 : Int32) (0 : Int32) (0 : Int32))), (.int (2 : Int32))]) (rest := []) X226 hx hZ Kq226 hown (by rw [hml]; rfl) (own_w44 hw) (own_w45 hw) (own_w42 hw) (own_w46 hw) (by decide) (own_rm10 lch Z a0 hw [] r225 (own_own k36 p0 k34 k36 (2 : Int32) (0 : Int32) (0 : Int32)) (2 : Int32) T212.heap n0 (by omega) (show _ ≤ (2 : Int) by omega)) (by decide) (by decide) (by decide) (by decide) (lenOf own_pd5 rfl) rfl (by exact Nat.le_of_eq rfl) (hb hby at_229) rfl ?_
            intro T228 Lc228 v228 X228 hQ228
            obtain ⟨rfl, Nq228, Kq228⟩ := hQ228
            have N228 := Fr.app N226 Nq228
            show own_Ends prg e below s _ _ _ T228 (mkF m 232 #[.val (.int p0), .val (.int p1), .val (.int p2), .val (.int p3), .val (.int (2 : Int32)), .val (.int (0 : Int32)), .val (.int (0 : Int32)), .val (.int k34), .val (.int k36), .val (.ref a38), .val (.int (2 : Int32))] [(.int (1 : Int32))])
            refine own_ifNo (pc' := 235) X228 hx (hb hby at_232) rfl (feq (by decide)).1 ?_
            refine own_iconst (pc' := 236) (z := (1 : Int32)) X228 hx (hb hby at_235) rfl rfl ?_
            refine own_goto (pc' := 240) X228 hx (hb hby at_236) (by decide) (by decide) ?_
            refine own_retN X228 hx hlk hret (by simp) (hb hby at_240) (by decide) (by decide) ?_
            exact ⟨rfl, N228⟩
          · refine own_iload (pc' := 123) X212 hx (hb hby at_121) rfl rfl ?_
            refine own_iconst (pc' := 124) (z := (1 : Int32)) X212 hx (hb hby at_123) rfl rfl ?_
            refine own_icmpNo (pc' := 127) X212 hx (hb hby at_124) rfl (teq (by decide)).2 ?_
            refine own_aload (pc' := 129) X212 hx (hb hby at_127) rfl rfl rfl ?_
            refine own_iload (pc' := 131) X212 hx (hb hby at_129) rfl rfl ?_
            have f229 := (f209.keep Kq212)
            have f230 := (own_stak f210 Kq212 (allS (own_exac f209) (allS (own_arvc G207_2) all0)))
            have f231 := (f211.keep Kq212 (ninS ne40 (ninS ne47 nin0)))
            refine own_callV (pc' := 134) (y := (⟨"com/example/larder/larder/cache/UseCounts", "add", "(I)V"⟩ : MethodName)) (W := 0) (rm := own_room3) (argsL := [(.int k36)]) (rest := []) (b := a38) (C := "com/example/larder/larder/cache/UseCounts") X212 hx hZ rfl hown (by rw [hml]; rfl) f229 (own_w12 hw) (own_w13 hw) (own_w15 hw) (own_w14 hw) (own_w2 hw) (own_w16 hw) (by decide) (own_rm3 lch Z a0 hw [] a38 k36 pa pk b44 bk44 (2 : Int32) l2212 [own_spread p0, own_spread p0] T212.heap n0 f229 G212_0 F213 G212_2 G212_3 (by simp) (by decide) ge39 ge45 ne48 ne40 ne47 f230 f231) (by decide) (by decide) (by decide) (by decide) (lenOf own_pd6 rfl) rfl (by exact Nat.le_of_eq rfl) (hb hby at_131) rfl ?_
            intro T232 Lc232 v232 X232 hQ232
            obtain ⟨l2232, rfl, Nq232, Kq232, G232_0, G232_1, G232_2, G232_3⟩ := hQ232
            have N232 := Fr.app N212 Nq232
            have F233 : Fld Z T232.heap a38 "com/example/larder/larder/cache/UseCounts" "additions" "I" (.int (3 : Int32)) := G232_1
            replace G232_3 : own_rep l2232 [own_spread k36, own_spread p0, own_spread p0] := G232_3
            show own_Ends prg e below s _ _ _ T232 (mkF m 134 #[.val (.int p0), .val (.int p1), .val (.int p2), .val (.int p3), .val (.int (2 : Int32)), .val (.int (0 : Int32)), .val (.int (1 : Int32)), .val (.int k34), .val (.int k36), .val (.ref a38), .unset] [])
            refine own_iload (pc' := 136) X232 hx (hb hby at_134) rfl rfl ?_
            refine own_iload (pc' := 138) X232 hx (hb hby at_136) rfl rfl ?_
            refine own_iadd (pc' := 139) (z := (2 : Int32)) X232 hx (hb hby at_138) rfl (by decide) ?_
            refine own_iload (pc' := 141) X232 hx (hb hby at_139) rfl rfl ?_
            refine own_iadd (pc' := 142) (z := (3 : Int32)) X232 hx (hb hby at_141) rfl (by decide) ?_
            refine own_istore (pc' := 144) (l' := #[.val (.int p0), .val (.int p1), .val (.int p2), .val (.int p3), .val (.int (2 : Int32)), .val (.int (0 : Int32)), .val (.int (1 : Int32)), .val (.int k34), .val (.int k36), .val (.ref a38), .val (.int (3 : Int32))]) X232 hx (hb hby at_142) rfl rfl ?_
            refine own_aload (pc' := 146) X232 hx (hb hby at_144) rfl rfl rfl ?_
            refine own_iloadN (pc' := 147) X232 hx (hb hby at_146) rfl rfl ?_
            have f234 := (f229.keep Kq232)
            have f235 := (own_stak f230 Kq232 (allS (own_exac f229) (allS (own_arvc G212_2) all0)))
            have f236 := (f231.keep Kq232 (ninS ne40 (ninS ne47 nin0)))
            refine own_callV (pc' := 150) (y := (⟨"com/example/larder/larder/cache/UseCounts", "of", "(I)I"⟩ : MethodName)) (W := 0) (rm := own_room7) (argsL := [(.int p0)]) (rest := []) (b := a38) (C := "com/example/larder/larder/cache/UseCounts") X232 hx hZ rfl hown (by rw [hml]; rfl) f234 (own_w31 hw) (own_w32 hw) (own_w34 hw) (own_w33 hw) (own_w2 hw) (own_w35 hw) (by decide) (own_rm7 lch Z a0 hw [] a38 p0 pa pk b44 bk44 (3 : Int32) l2232 [own_spread k36, own_spread p0, own_spread p0] T232.heap n0 f234 G232_0 F233 G232_2 G232_3 (by simp) (by decide) ge39 ge45 ne48 ne40 ne47 f235 f236) (by decide) (by decide) (by decide) (by decide) (lenOf own_pd0 rfl) rfl (by exact Nat.le_of_eq rfl) (hb hby at_147) rfl ?_
            intro T237 Lc237 v237 X237 hQ237
            obtain ⟨r237, rfl, Nq237, Kq237, G237_0⟩ := hQ237
            have N237 := Fr.app N232 Nq237
            show own_Ends prg e below s _ _ _ T237 (mkF m 150 #[.val (.int p0), .val (.int p1), .val (.int p2), .val (.int p3), .val (.int (2 : Int32)), .val (.int (0 : Int32)), .val (.int (1 : Int32)), .val (.int k34), .val (.int k36), .val (.ref a38), .val (.int (3 : Int32))] [(.int r237)])
            refine own_iloadN (pc' := 151) X237 hx (hb hby at_150) rfl rfl ?_
            refine own_iloadN (pc' := 152) X237 hx (hb hby at_151) rfl rfl ?_
            refine own_iload (pc' := 154) X237 hx (hb hby at_152) rfl rfl ?_
            refine own_iload (pc' := 156) X237 hx (hb hby at_154) rfl rfl ?_
            refine own_iload (pc' := 158) X237 hx (hb hby at_156) rfl rfl ?_
            refine own_iload (pc' := 160) X237 hx (hb hby at_158) rfl rfl ?_
            refine own_iload (pc' := 162) X237 hx (hb hby at_160) rfl rfl ?_
            refine own_callS (pc' := 165) (y := (⟨"com/example/larder/larder/cache/UseCountsAddPinLaw", "own", "(IIIIIII)I"⟩ : MethodName)) (W := 1) (rm := own_room9) (argsL := [(.int p0), (.int p0), (.int k34), (.int k36), (.int (2 : Int32)), (.int (0 : Int32)), (.int (1 : Int32))]) (rest := [(.int r237)]) X237 hx hZ Kq237 hown (by rw [hml]; rfl) (own_w40 hw) (own_w41 hw) (own_w42 hw) (own_w43 hw) (by decide) (own_rm9 lch Z a0 hw [] p0 p0 k34 k36 (2 : Int32) (0 : Int32) (1 : Int32) T232.heap n0) (by decide) (by decide) (by decide) (by decide) (lenOf own_pd4 rfl) rfl (by exact Nat.le_of_eq rfl) (hb hby at_162) rfl ?_
            intro T238 Lc238 v238 X238 hQ238
            obtain ⟨rfl, Nq238, Kq238⟩ := hQ238
            have N238 := Fr.app N237 Nq238
            show own_Ends prg e below s _ _ _ T238 (mkF m 165 #[.val (.int p0), .val (.int p1), .val (.int p2), .val (.int p3), .val (.int (2 : Int32)), .val (.int (0 : Int32)), .val (.int (1 : Int32)), .val (.int k34), .val (.int k36), .val (.ref a38), .val (.int (3 : Int32))] [(.int (own_own p0 p0 k34 k36 (2 : Int32) (0 : Int32) (1 : Int32))), (.int r237)])
            refine own_iload (pc' := 167) X238 hx (hb hby at_165) rfl rfl ?_
            have lw239 := own_low own_spread p0 p0 k34 k36 (a := 2) (b := 0) (c := 1) (by decide) (by decide) (by decide)
            replace lw239 : ((own_own p0 p0 k34 k36 (2 : Int32) (0 : Int32) (1 : Int32))).toInt ≤ (own_same [own_spread k36, own_spread p0, own_spread p0] (own_spread p0) : Int) := lw239
            have lw239r := G237_0
            replace lw239r : _ ∧ _ ≤ (3 : Int) := lw239r
            refine own_callS (pc' := 170) (y := (⟨"com/example/larder/larder/cache/UseCountsAddPinLaw", "within", "(III)Z"⟩ : MethodName)) (W := 0) (rm := own_room10) (argsL := [(.int r237), (.int (own_own p0 p0 k34 k36 (2 : Int32) (0 : Int32) (1 : Int32))), (.int (3 : Int32))]) (rest := []) X238 hx hZ Kq238 hown (by rw [hml]; rfl) (own_w44 hw) (own_w45 hw) (own_w42 hw) (own_w46 hw) (by decide) (own_rm10 lch Z a0 hw [] r237 (own_own p0 p0 k34 k36 (2 : Int32) (0 : Int32) (1 : Int32)) (3 : Int32) T232.heap n0 (by omega) (show _ ≤ (3 : Int) by omega)) (by decide) (by decide) (by decide) (by decide) (lenOf own_pd5 rfl) rfl (by exact Nat.le_of_eq rfl) (hb hby at_167) rfl ?_
            intro T240 Lc240 v240 X240 hQ240
            obtain ⟨rfl, Nq240, Kq240⟩ := hQ240
            have N240 := Fr.app N238 Nq240
            show own_Ends prg e below s _ _ _ T240 (mkF m 170 #[.val (.int p0), .val (.int p1), .val (.int p2), .val (.int p3), .val (.int (2 : Int32)), .val (.int (0 : Int32)), .val (.int (1 : Int32)), .val (.int k34), .val (.int k36), .val (.ref a38), .val (.int (3 : Int32))] [(.int (1 : Int32))])
            refine own_ifNo (pc' := 173) X240 hx (hb hby at_170) rfl (feq (by decide)).1 ?_
            refine own_aload (pc' := 175) X240 hx (hb hby at_173) rfl rfl rfl ?_
            refine own_iload (pc' := 177) X240 hx (hb hby at_175) rfl rfl ?_
            refine own_callV (pc' := 180) (y := (⟨"com/example/larder/larder/cache/UseCounts", "of", "(I)I"⟩ : MethodName)) (W := 0) (rm := own_room7) (argsL := [(.int k34)]) (rest := []) (b := a38) (C := "com/example/larder/larder/cache/UseCounts") X240 hx hZ Kq240 hown (by rw [hml]; rfl) f234 (own_w31 hw) (own_w32 hw) (own_w34 hw) (own_w33 hw) (own_w2 hw) (own_w35 hw) (by decide) (own_rm7 lch Z a0 hw [] a38 k34 pa pk b44 bk44 (3 : Int32) l2232 [own_spread k36, own_spread p0, own_spread p0] T232.heap n0 f234 G232_0 F233 G232_2 G232_3 (by simp) (by decide) ge39 ge45 ne48 ne40 ne47 f235 f236) (by decide) (by decide) (by decide) (by decide) (lenOf own_pd0 rfl) rfl (by exact Nat.le_of_eq rfl) (hb hby at_177) rfl ?_
            intro T241 Lc241 v241 X241 hQ241
            obtain ⟨r241, rfl, Nq241, Kq241, G241_0⟩ := hQ241
            have N241 := Fr.app N240 Nq241
            show own_Ends prg e below s _ _ _ T241 (mkF m 180 #[.val (.int p0), .val (.int p1), .val (.int p2), .val (.int p3), .val (.int (2 : Int32)), .val (.int (0 : Int32)), .val (.int (1 : Int32)), .val (.int k34), .val (.int k36), .val (.ref a38), .val (.int (3 : Int32))] [(.int r241)])
            refine own_iload (pc' := 182) X241 hx (hb hby at_180) rfl rfl ?_
            refine own_iloadN (pc' := 183) X241 hx (hb hby at_182) rfl rfl ?_
            refine own_iload (pc' := 185) X241 hx (hb hby at_183) rfl rfl ?_
            refine own_iload (pc' := 187) X241 hx (hb hby at_185) rfl rfl ?_
            refine own_iload (pc' := 189) X241 hx (hb hby at_187) rfl rfl ?_
            refine own_iload (pc' := 191) X241 hx (hb hby at_189) rfl rfl ?_
            refine own_iload (pc' := 193) X241 hx (hb hby at_191) rfl rfl ?_
            refine own_callS (pc' := 196) (y := (⟨"com/example/larder/larder/cache/UseCountsAddPinLaw", "own", "(IIIIIII)I"⟩ : MethodName)) (W := 1) (rm := own_room9) (argsL := [(.int k34), (.int p0), (.int k34), (.int k36), (.int (2 : Int32)), (.int (0 : Int32)), (.int (1 : Int32))]) (rest := [(.int r241)]) X241 hx hZ Kq241 hown (by rw [hml]; rfl) (own_w40 hw) (own_w41 hw) (own_w42 hw) (own_w43 hw) (by decide) (own_rm9 lch Z a0 hw [] k34 p0 k34 k36 (2 : Int32) (0 : Int32) (1 : Int32) T232.heap n0) (by decide) (by decide) (by decide) (by decide) (lenOf own_pd4 rfl) rfl (by exact Nat.le_of_eq rfl) (hb hby at_193) rfl ?_
            intro T242 Lc242 v242 X242 hQ242
            obtain ⟨rfl, Nq242, Kq242⟩ := hQ242
            have N242 := Fr.app N241 Nq242
            show own_Ends prg e below s _ _ _ T242 (mkF m 196 #[.val (.int p0), .val (.int p1), .val (.int p2), .val (.int p3), .val (.int (2 : Int32)), .val (.int (0 : Int32)), .val (.int (1 : Int32)), .val (.int k34), .val (.int k36), .val (.ref a38), .val (.int (3 : Int32))] [(.int (own_own k34 p0 k34 k36 (2 : Int32) (0 : Int32) (1 : Int32))), (.int r241)])
            refine own_iload (pc' := 198) X242 hx (hb hby at_196) rfl rfl ?_
            have lw243 := own_low own_spread k34 p0 k34 k36 (a := 2) (b := 0) (c := 1) (by decide) (by decide) (by decide)
            replace lw243 : ((own_own k34 p0 k34 k36 (2 : Int32) (0 : Int32) (1 : Int32))).toInt ≤ (own_same [own_spread k36, own_spread p0, own_spread p0] (own_spread k34) : Int) := lw243
            have lw243r := G241_0
            replace lw243r : _ ∧ _ ≤ (3 : Int) := lw243r
            refine own_callS (pc' := 201) (y := (⟨"com/example/larder/larder/cache/UseCountsAddPinLaw", "within", "(III)Z"⟩ : MethodName)) (W := 0) (rm := own_room10) (argsL := [(.int r241), (.int (own_own k34 p0 k34 k36 (2 : Int32) (0 : Int32) (1 : Int32))), (.int (3 : Int32))]) (rest := []) X242 hx hZ Kq242 hown (by rw [hml]; rfl) (own_w44 hw) (own_w45 hw) (own_w42 hw) (own_w46 hw) (by decide) (own_rm10 lch Z a0 hw [] r241 (own_own k34 p0 k34 k36 (2 : Int32) (0 : Int32) (1 : Int32)) (3 : Int32) T232.heap n0 (by omega) (show _ ≤ (3 : Int) by omega)) (by decide) (by decide) (by decide) (by decide) (lenOf own_pd5 rfl) rfl (by exact Nat.le_of_eq rfl) (hb hby at_198) rfl ?_
            intro T244 Lc244 v244 X244 hQ244
            obtain ⟨rfl, Nq244, Kq244⟩ := hQ244
            have N244 := Fr.app N242 Nq244
            show own_Ends prg e below s _ _ _ T244 (mkF m 201 #[.val (.int p0), .val (.int p1), .val (.int p2), .val (.int p3), .val (.int (2 : Int32)), .val (.int (0 : Int32)), .val (.int (1 : Int32)), .val (.int k34), .val (.int k36), .val (.ref a38), .val (.int (3 : Int32))] [(.int (1 : Int32))])
            refine own_ifNo (pc' := 204) X244 hx (hb hby at_201) rfl (feq (by decide)).1 ?_
            refine own_aload (pc' := 206) X244 hx (hb hby at_204) rfl rfl rfl ?_
            refine own_iload (pc' := 208) X244 hx (hb hby at_206) rfl rfl ?_
            refine own_callV (pc' := 211) (y := (⟨"com/example/larder/larder/cache/UseCounts", "of", "(I)I"⟩ : MethodName)) (W := 0) (rm := own_room7) (argsL := [(.int k36)]) (rest := []) (b := a38) (C := "com/example/larder/larder/cache/UseCounts") X244 hx hZ Kq244 hown (by rw [hml]; rfl) f234 (own_w31 hw) (own_w32 hw) (own_w34 hw) (own_w33 hw) (own_w2 hw) (own_w35 hw) (by decide) (own_rm7 lch Z a0 hw [] a38 k36 pa pk b44 bk44 (3 : Int32) l2232 [own_spread k36, own_spread p0, own_spread p0] T232.heap n0 f234 G232_0 F233 G232_2 G232_3 (by simp) (by decide) ge39 ge45 ne48 ne40 ne47 f235 f236) (by decide) (by decide) (by decide) (by decide) (lenOf own_pd0 rfl) rfl (by exact Nat.le_of_eq rfl) (hb hby at_208) rfl ?_
            intro T245 Lc245 v245 X245 hQ245
            obtain ⟨r245, rfl, Nq245, Kq245, G245_0⟩ := hQ245
            have N245 := Fr.app N244 Nq245
            show own_Ends prg e below s _ _ _ T245 (mkF m 211 #[.val (.int p0), .val (.int p1), .val (.int p2), .val (.int p3), .val (.int (2 : Int32)), .val (.int (0 : Int32)), .val (.int (1 : Int32)), .val (.int k34), .val (.int k36), .val (.ref a38), .val (.int (3 : Int32))] [(.int r245)])
            refine own_iload (pc' := 213) X245 hx (hb hby at_211) rfl rfl ?_
            refine own_iloadN (pc' := 214) X245 hx (hb hby at_213) rfl rfl ?_
            refine own_iload (pc' := 216) X245 hx (hb hby at_214) rfl rfl ?_
            refine own_iload (pc' := 218) X245 hx (hb hby at_216) rfl rfl ?_
            refine own_iload (pc' := 220) X245 hx (hb hby at_218) rfl rfl ?_
            refine own_iload (pc' := 222) X245 hx (hb hby at_220) rfl rfl ?_
            refine own_iload (pc' := 224) X245 hx (hb hby at_222) rfl rfl ?_
            refine own_callS (pc' := 227) (y := (⟨"com/example/larder/larder/cache/UseCountsAddPinLaw", "own", "(IIIIIII)I"⟩ : MethodName)) (W := 1) (rm := own_room9) (argsL := [(.int k36), (.int p0), (.int k34), (.int k36), (.int (2 : Int32)), (.int (0 : Int32)), (.int (1 : Int32))]) (rest := [(.int r245)]) X245 hx hZ Kq245 hown (by rw [hml]; rfl) (own_w40 hw) (own_w41 hw) (own_w42 hw) (own_w43 hw) (by decide) (own_rm9 lch Z a0 hw [] k36 p0 k34 k36 (2 : Int32) (0 : Int32) (1 : Int32) T232.heap n0) (by decide) (by decide) (by decide) (by decide) (lenOf own_pd4 rfl) rfl (by exact Nat.le_of_eq rfl) (hb hby at_224) rfl ?_
            intro T246 Lc246 v246 X246 hQ246
            obtain ⟨rfl, Nq246, Kq246⟩ := hQ246
            have N246 := Fr.app N245 Nq246
            show own_Ends prg e below s _ _ _ T246 (mkF m 227 #[.val (.int p0), .val (.int p1), .val (.int p2), .val (.int p3), .val (.int (2 : Int32)), .val (.int (0 : Int32)), .val (.int (1 : Int32)), .val (.int k34), .val (.int k36), .val (.ref a38), .val (.int (3 : Int32))] [(.int (own_own k36 p0 k34 k36 (2 : Int32) (0 : Int32) (1 : Int32))), (.int r245)])
            refine own_iload (pc' := 229) X246 hx (hb hby at_227) rfl rfl ?_
            have lw247 := own_low own_spread k36 p0 k34 k36 (a := 2) (b := 0) (c := 1) (by decide) (by decide) (by decide)
            replace lw247 : ((own_own k36 p0 k34 k36 (2 : Int32) (0 : Int32) (1 : Int32))).toInt ≤ (own_same [own_spread k36, own_spread p0, own_spread p0] (own_spread k36) : Int) := lw247
            have lw247r := G245_0
            replace lw247r : _ ∧ _ ≤ (3 : Int) := lw247r
            refine own_callS (pc' := 232) (y := (⟨"com/example/larder/larder/cache/UseCountsAddPinLaw", "within", "(III)Z"⟩ : MethodName)) (W := 0) (rm := own_room10) (argsL := [(.int r245), (.int (own_own k36 p0 k34 k36 (2 : Int32) (0 : Int32) (1 : Int32))), (.int (3 : Int32))]) (rest := []) X246 hx hZ Kq246 hown (by rw [hml]; rfl) (own_w44 hw) (own_w45 hw) (own_w42 hw) (own_w46 hw) (by decide) (own_rm10 lch Z a0 hw [] r245 (own_own k36 p0 k34 k36 (2 : Int32) (0 : Int32) (1 : Int32)) (3 : Int32) T232.heap n0 (by omega) (show _ ≤ (3 : Int) by omega)) (by decide) (by decide) (by decide) (by decide) (lenOf own_pd5 rfl) rfl (by exact Nat.le_of_eq rfl) (hb hby at_229) rfl ?_
            intro T248 Lc248 v248 X248 hQ248
            obtain ⟨rfl, Nq248, Kq248⟩ := hQ248
            have N248 := Fr.app N246 Nq248
            show own_Ends prg e below s _ _ _ T248 (mkF m 232 #[.val (.int p0), .val (.int p1), .val (.int p2), .val (.int p3), .val (.int (2 : Int32)), .val (.int (0 : Int32)), .val (.int (1 : Int32)), .val (.int k34), .val (.int k36), .val (.ref a38), .val (.int (3 : Int32))] [(.int (1 : Int32))])
            refine own_ifNo (pc' := 235) X248 hx (hb hby at_232) rfl (feq (by decide)).1 ?_
            refine own_iconst (pc' := 236) (z := (1 : Int32)) X248 hx (hb hby at_235) rfl rfl ?_
            refine own_goto (pc' := 240) X248 hx (hb hby at_236) (by decide) (by decide) ?_
            refine own_retN X248 hx hlk hret (by simp) (hb hby at_240) (by decide) (by decide) ?_
            exact ⟨rfl, N248⟩
        · refine own_iload (pc' := 110) X212 hx (hb hby at_108) rfl rfl ?_
          refine own_iconst (pc' := 111) (z := (1 : Int32)) X212 hx (hb hby at_110) rfl rfl ?_
          refine own_icmpNo (pc' := 114) X212 hx (hb hby at_111) rfl (teq (by decide)).2 ?_
          refine own_aload (pc' := 116) X212 hx (hb hby at_114) rfl rfl rfl ?_
          refine own_iload (pc' := 118) X212 hx (hb hby at_116) rfl rfl ?_
          have f249 := (f209.keep Kq212)
          have f250 := (own_stak f210 Kq212 (allS (own_exac f209) (allS (own_arvc G207_2) all0)))
          have f251 := (f211.keep Kq212 (ninS ne40 (ninS ne47 nin0)))
          refine own_callV (pc' := 121) (y := (⟨"com/example/larder/larder/cache/UseCounts", "add", "(I)V"⟩ : MethodName)) (W := 0) (rm := own_room3) (argsL := [(.int k34)]) (rest := []) (b := a38) (C := "com/example/larder/larder/cache/UseCounts") X212 hx hZ rfl hown (by rw [hml]; rfl) f249 (own_w12 hw) (own_w13 hw) (own_w15 hw) (own_w14 hw) (own_w2 hw) (own_w16 hw) (by decide) (own_rm3 lch Z a0 hw [] a38 k34 pa pk b44 bk44 (2 : Int32) l2212 [own_spread p0, own_spread p0] T212.heap n0 f249 G212_0 F213 G212_2 G212_3 (by simp) (by decide) ge39 ge45 ne48 ne40 ne47 f250 f251) (by decide) (by decide) (by decide) (by decide) (lenOf own_pd6 rfl) rfl (by exact Nat.le_of_eq rfl) (hb hby at_118) rfl ?_
          intro T252 Lc252 v252 X252 hQ252
          obtain ⟨l2252, rfl, Nq252, Kq252, G252_0, G252_1, G252_2, G252_3⟩ := hQ252
          have N252 := Fr.app N212 Nq252
          have F253 : Fld Z T252.heap a38 "com/example/larder/larder/cache/UseCounts" "additions" "I" (.int (3 : Int32)) := G252_1
          replace G252_3 : own_rep l2252 [own_spread k34, own_spread p0, own_spread p0] := G252_3
          show own_Ends prg e below s _ _ _ T252 (mkF m 121 #[.val (.int p0), .val (.int p1), .val (.int p2), .val (.int p3), .val (.int (2 : Int32)), .val (.int (1 : Int32)), .val (.int c33), .val (.int k34), .val (.int k36), .val (.ref a38), .unset] [])
          rcases own_and1 hc33 with rfl | rfl
          · refine own_iload (pc' := 123) X252 hx (hb hby at_121) rfl rfl ?_
            refine own_iconst (pc' := 124) (z := (1 : Int32)) X252 hx (hb hby at_123) rfl rfl ?_
            refine own_icmpYes (pc' := 134) X252 hx (hb hby at_124) (feq (by decide)).2 (by decide) (by decide) ?_
            refine own_iload (pc' := 136) X252 hx (hb hby at_134) rfl rfl ?_
            refine own_iload (pc' := 138) X252 hx (hb hby at_136) rfl rfl ?_
            refine own_iadd (pc' := 139) (z := (3 : Int32)) X252 hx (hb hby at_138) rfl (by decide) ?_
            refine own_iload (pc' := 141) X252 hx (hb hby at_139) rfl rfl ?_
            refine own_iadd (pc' := 142) (z := (3 : Int32)) X252 hx (hb hby at_141) rfl (by decide) ?_
            refine own_istore (pc' := 144) (l' := #[.val (.int p0), .val (.int p1), .val (.int p2), .val (.int p3), .val (.int (2 : Int32)), .val (.int (1 : Int32)), .val (.int (0 : Int32)), .val (.int k34), .val (.int k36), .val (.ref a38), .val (.int (3 : Int32))]) X252 hx (hb hby at_142) rfl rfl ?_
            refine own_aload (pc' := 146) X252 hx (hb hby at_144) rfl rfl rfl ?_
            refine own_iloadN (pc' := 147) X252 hx (hb hby at_146) rfl rfl ?_
            have f254 := (f249.keep Kq252)
            have f255 := (own_stak f250 Kq252 (allS (own_exac f249) (allS (own_arvc G212_2) all0)))
            have f256 := (f251.keep Kq252 (ninS ne40 (ninS ne47 nin0)))
            refine own_callV (pc' := 150) (y := (⟨"com/example/larder/larder/cache/UseCounts", "of", "(I)I"⟩ : MethodName)) (W := 0) (rm := own_room7) (argsL := [(.int p0)]) (rest := []) (b := a38) (C := "com/example/larder/larder/cache/UseCounts") X252 hx hZ rfl hown (by rw [hml]; rfl) f254 (own_w31 hw) (own_w32 hw) (own_w34 hw) (own_w33 hw) (own_w2 hw) (own_w35 hw) (by decide) (own_rm7 lch Z a0 hw [] a38 p0 pa pk b44 bk44 (3 : Int32) l2252 [own_spread k34, own_spread p0, own_spread p0] T252.heap n0 f254 G252_0 F253 G252_2 G252_3 (by simp) (by decide) ge39 ge45 ne48 ne40 ne47 f255 f256) (by decide) (by decide) (by decide) (by decide) (lenOf own_pd0 rfl) rfl (by exact Nat.le_of_eq rfl) (hb hby at_147) rfl ?_
            intro T257 Lc257 v257 X257 hQ257
            obtain ⟨r257, rfl, Nq257, Kq257, G257_0⟩ := hQ257
            have N257 := Fr.app N252 Nq257
            show own_Ends prg e below s _ _ _ T257 (mkF m 150 #[.val (.int p0), .val (.int p1), .val (.int p2), .val (.int p3), .val (.int (2 : Int32)), .val (.int (1 : Int32)), .val (.int (0 : Int32)), .val (.int k34), .val (.int k36), .val (.ref a38), .val (.int (3 : Int32))] [(.int r257)])
            refine own_iloadN (pc' := 151) X257 hx (hb hby at_150) rfl rfl ?_
            refine own_iloadN (pc' := 152) X257 hx (hb hby at_151) rfl rfl ?_
            refine own_iload (pc' := 154) X257 hx (hb hby at_152) rfl rfl ?_
            refine own_iload (pc' := 156) X257 hx (hb hby at_154) rfl rfl ?_
            refine own_iload (pc' := 158) X257 hx (hb hby at_156) rfl rfl ?_
            refine own_iload (pc' := 160) X257 hx (hb hby at_158) rfl rfl ?_
            refine own_iload (pc' := 162) X257 hx (hb hby at_160) rfl rfl ?_
            refine own_callS (pc' := 165) (y := (⟨"com/example/larder/larder/cache/UseCountsAddPinLaw", "own", "(IIIIIII)I"⟩ : MethodName)) (W := 1) (rm := own_room9) (argsL := [(.int p0), (.int p0), (.int k34), (.int k36), (.int (2 : Int32)), (.int (1 : Int32)), (.int (0 : Int32))]) (rest := [(.int r257)]) X257 hx hZ Kq257 hown (by rw [hml]; rfl) (own_w40 hw) (own_w41 hw) (own_w42 hw) (own_w43 hw) (by decide) (own_rm9 lch Z a0 hw [] p0 p0 k34 k36 (2 : Int32) (1 : Int32) (0 : Int32) T252.heap n0) (by decide) (by decide) (by decide) (by decide) (lenOf own_pd4 rfl) rfl (by exact Nat.le_of_eq rfl) (hb hby at_162) rfl ?_
            intro T258 Lc258 v258 X258 hQ258
            obtain ⟨rfl, Nq258, Kq258⟩ := hQ258
            have N258 := Fr.app N257 Nq258
            show own_Ends prg e below s _ _ _ T258 (mkF m 165 #[.val (.int p0), .val (.int p1), .val (.int p2), .val (.int p3), .val (.int (2 : Int32)), .val (.int (1 : Int32)), .val (.int (0 : Int32)), .val (.int k34), .val (.int k36), .val (.ref a38), .val (.int (3 : Int32))] [(.int (own_own p0 p0 k34 k36 (2 : Int32) (1 : Int32) (0 : Int32))), (.int r257)])
            refine own_iload (pc' := 167) X258 hx (hb hby at_165) rfl rfl ?_
            have lw259 := own_low own_spread p0 p0 k34 k36 (a := 2) (b := 1) (c := 0) (by decide) (by decide) (by decide)
            replace lw259 : ((own_own p0 p0 k34 k36 (2 : Int32) (1 : Int32) (0 : Int32))).toInt ≤ (own_same [own_spread k34, own_spread p0, own_spread p0] (own_spread p0) : Int) := lw259
            have lw259r := G257_0
            replace lw259r : _ ∧ _ ≤ (3 : Int) := lw259r
            refine own_callS (pc' := 170) (y := (⟨"com/example/larder/larder/cache/UseCountsAddPinLaw", "within", "(III)Z"⟩ : MethodName)) (W := 0) (rm := own_room10) (argsL := [(.int r257), (.int (own_own p0 p0 k34 k36 (2 : Int32) (1 : Int32) (0 : Int32))), (.int (3 : Int32))]) (rest := []) X258 hx hZ Kq258 hown (by rw [hml]; rfl) (own_w44 hw) (own_w45 hw) (own_w42 hw) (own_w46 hw) (by decide) (own_rm10 lch Z a0 hw [] r257 (own_own p0 p0 k34 k36 (2 : Int32) (1 : Int32) (0 : Int32)) (3 : Int32) T252.heap n0 (by omega) (show _ ≤ (3 : Int) by omega)) (by decide) (by decide) (by decide) (by decide) (lenOf own_pd5 rfl) rfl (by exact Nat.le_of_eq rfl) (hb hby at_167) rfl ?_
            intro T260 Lc260 v260 X260 hQ260
            obtain ⟨rfl, Nq260, Kq260⟩ := hQ260
            have N260 := Fr.app N258 Nq260
            show own_Ends prg e below s _ _ _ T260 (mkF m 170 #[.val (.int p0), .val (.int p1), .val (.int p2), .val (.int p3), .val (.int (2 : Int32)), .val (.int (1 : Int32)), .val (.int (0 : Int32)), .val (.int k34), .val (.int k36), .val (.ref a38), .val (.int (3 : Int32))] [(.int (1 : Int32))])
            refine own_ifNo (pc' := 173) X260 hx (hb hby at_170) rfl (feq (by decide)).1 ?_
            refine own_aload (pc' := 175) X260 hx (hb hby at_173) rfl rfl rfl ?_
            refine own_iload (pc' := 177) X260 hx (hb hby at_175) rfl rfl ?_
            refine own_callV (pc' := 180) (y := (⟨"com/example/larder/larder/cache/UseCounts", "of", "(I)I"⟩ : MethodName)) (W := 0) (rm := own_room7) (argsL := [(.int k34)]) (rest := []) (b := a38) (C := "com/example/larder/larder/cache/UseCounts") X260 hx hZ Kq260 hown (by rw [hml]; rfl) f254 (own_w31 hw) (own_w32 hw) (own_w34 hw) (own_w33 hw) (own_w2 hw) (own_w35 hw) (by decide) (own_rm7 lch Z a0 hw [] a38 k34 pa pk b44 bk44 (3 : Int32) l2252 [own_spread k34, own_spread p0, own_spread p0] T252.heap n0 f254 G252_0 F253 G252_2 G252_3 (by simp) (by decide) ge39 ge45 ne48 ne40 ne47 f255 f256) (by decide) (by decide) (by decide) (by decide) (lenOf own_pd0 rfl) rfl (by exact Nat.le_of_eq rfl) (hb hby at_177) rfl ?_
            intro T261 Lc261 v261 X261 hQ261
            obtain ⟨r261, rfl, Nq261, Kq261, G261_0⟩ := hQ261
            have N261 := Fr.app N260 Nq261
            show own_Ends prg e below s _ _ _ T261 (mkF m 180 #[.val (.int p0), .val (.int p1), .val (.int p2), .val (.int p3), .val (.int (2 : Int32)), .val (.int (1 : Int32)), .val (.int (0 : Int32)), .val (.int k34), .val (.int k36), .val (.ref a38), .val (.int (3 : Int32))] [(.int r261)])
            refine own_iload (pc' := 182) X261 hx (hb hby at_180) rfl rfl ?_
            refine own_iloadN (pc' := 183) X261 hx (hb hby at_182) rfl rfl ?_
            refine own_iload (pc' := 185) X261 hx (hb hby at_183) rfl rfl ?_
            refine own_iload (pc' := 187) X261 hx (hb hby at_185) rfl rfl ?_
            refine own_iload (pc' := 189) X261 hx (hb hby at_187) rfl rfl ?_
            refine own_iload (pc' := 191) X261 hx (hb hby at_189) rfl rfl ?_
            refine own_iload (pc' := 193) X261 hx (hb hby at_191) rfl rfl ?_
            refine own_callS (pc' := 196) (y := (⟨"com/example/larder/larder/cache/UseCountsAddPinLaw", "own", "(IIIIIII)I"⟩ : MethodName)) (W := 1) (rm := own_room9) (argsL := [(.int k34), (.int p0), (.int k34), (.int k36), (.int (2 : Int32)), (.int (1 : Int32)), (.int (0 : Int32))]) (rest := [(.int r261)]) X261 hx hZ Kq261 hown (by rw [hml]; rfl) (own_w40 hw) (own_w41 hw) (own_w42 hw) (own_w43 hw) (by decide) (own_rm9 lch Z a0 hw [] k34 p0 k34 k36 (2 : Int32) (1 : Int32) (0 : Int32) T252.heap n0) (by decide) (by decide) (by decide) (by decide) (lenOf own_pd4 rfl) rfl (by exact Nat.le_of_eq rfl) (hb hby at_193) rfl ?_
            intro T262 Lc262 v262 X262 hQ262
            obtain ⟨rfl, Nq262, Kq262⟩ := hQ262
            have N262 := Fr.app N261 Nq262
            show own_Ends prg e below s _ _ _ T262 (mkF m 196 #[.val (.int p0), .val (.int p1), .val (.int p2), .val (.int p3), .val (.int (2 : Int32)), .val (.int (1 : Int32)), .val (.int (0 : Int32)), .val (.int k34), .val (.int k36), .val (.ref a38), .val (.int (3 : Int32))] [(.int (own_own k34 p0 k34 k36 (2 : Int32) (1 : Int32) (0 : Int32))), (.int r261)])
            refine own_iload (pc' := 198) X262 hx (hb hby at_196) rfl rfl ?_
            have lw263 := own_low own_spread k34 p0 k34 k36 (a := 2) (b := 1) (c := 0) (by decide) (by decide) (by decide)
            replace lw263 : ((own_own k34 p0 k34 k36 (2 : Int32) (1 : Int32) (0 : Int32))).toInt ≤ (own_same [own_spread k34, own_spread p0, own_spread p0] (own_spread k34) : Int) := lw263
            have lw263r := G261_0
            replace lw263r : _ ∧ _ ≤ (3 : Int) := lw263r
            refine own_callS (pc' := 201) (y := (⟨"com/example/larder/larder/cache/UseCountsAddPinLaw", "within", "(III)Z"⟩ : MethodName)) (W := 0) (rm := own_room10) (argsL := [(.int r261), (.int (own_own k34 p0 k34 k36 (2 : Int32) (1 : Int32) (0 : Int32))), (.int (3 : Int32))]) (rest := []) X262 hx hZ Kq262 hown (by rw [hml]; rfl) (own_w44 hw) (own_w45 hw) (own_w42 hw) (own_w46 hw) (by decide) (own_rm10 lch Z a0 hw [] r261 (own_own k34 p0 k34 k36 (2 : Int32) (1 : Int32) (0 : Int32)) (3 : Int32) T252.heap n0 (by omega) (show _ ≤ (3 : Int) by omega)) (by decide) (by decide) (by decide) (by decide) (lenOf own_pd5 rfl) rfl (by exact Nat.le_of_eq rfl) (hb hby at_198) rfl ?_
            intro T264 Lc264 v264 X264 hQ264
            obtain ⟨rfl, Nq264, Kq264⟩ := hQ264
            have N264 := Fr.app N262 Nq264
            show own_Ends prg e below s _ _ _ T264 (mkF m 201 #[.val (.int p0), .val (.int p1), .val (.int p2), .val (.int p3), .val (.int (2 : Int32)), .val (.int (1 : Int32)), .val (.int (0 : Int32)), .val (.int k34), .val (.int k36), .val (.ref a38), .val (.int (3 : Int32))] [(.int (1 : Int32))])
            refine own_ifNo (pc' := 204) X264 hx (hb hby at_201) rfl (feq (by decide)).1 ?_
            refine own_aload (pc' := 206) X264 hx (hb hby at_204) rfl rfl rfl ?_
            refine own_iload (pc' := 208) X264 hx (hb hby at_206) rfl rfl ?_
            refine own_callV (pc' := 211) (y := (⟨"com/example/larder/larder/cache/UseCounts", "of", "(I)I"⟩ : MethodName)) (W := 0) (rm := own_room7) (argsL := [(.int k36)]) (rest := []) (b := a38) (C := "com/example/larder/larder/cache/UseCounts") X264 hx hZ Kq264 hown (by rw [hml]; rfl) f254 (own_w31 hw) (own_w32 hw) (own_w34 hw) (own_w33 hw) (own_w2 hw) (own_w35 hw) (by decide) (own_rm7 lch Z a0 hw [] a38 k36 pa pk b44 bk44 (3 : Int32) l2252 [own_spread k34, own_spread p0, own_spread p0] T252.heap n0 f254 G252_0 F253 G252_2 G252_3 (by simp) (by decide) ge39 ge45 ne48 ne40 ne47 f255 f256) (by decide) (by decide) (by decide) (by decide) (lenOf own_pd0 rfl) rfl (by exact Nat.le_of_eq rfl) (hb hby at_208) rfl ?_
            intro T265 Lc265 v265 X265 hQ265
            obtain ⟨r265, rfl, Nq265, Kq265, G265_0⟩ := hQ265
            have N265 := Fr.app N264 Nq265
            show own_Ends prg e below s _ _ _ T265 (mkF m 211 #[.val (.int p0), .val (.int p1), .val (.int p2), .val (.int p3), .val (.int (2 : Int32)), .val (.int (1 : Int32)), .val (.int (0 : Int32)), .val (.int k34), .val (.int k36), .val (.ref a38), .val (.int (3 : Int32))] [(.int r265)])
            refine own_iload (pc' := 213) X265 hx (hb hby at_211) rfl rfl ?_
            refine own_iloadN (pc' := 214) X265 hx (hb hby at_213) rfl rfl ?_
            refine own_iload (pc' := 216) X265 hx (hb hby at_214) rfl rfl ?_
            refine own_iload (pc' := 218) X265 hx (hb hby at_216) rfl rfl ?_
            refine own_iload (pc' := 220) X265 hx (hb hby at_218) rfl rfl ?_
            refine own_iload (pc' := 222) X265 hx (hb hby at_220) rfl rfl ?_
            refine own_iload (pc' := 224) X265 hx (hb hby at_222) rfl rfl ?_
            refine own_callS (pc' := 227) (y := (⟨"com/example/larder/larder/cache/UseCountsAddPinLaw", "own", "(IIIIIII)I"⟩ : MethodName)) (W := 1) (rm := own_room9) (argsL := [(.int k36), (.int p0), (.int k34), (.int k36), (.int (2 : Int32)), (.int (1 : Int32)), (.int (0 : Int32))]) (rest := [(.int r265)]) X265 hx hZ Kq265 hown (by rw [hml]; rfl) (own_w40 hw) (own_w41 hw) (own_w42 hw) (own_w43 hw) (by decide) (own_rm9 lch Z a0 hw [] k36 p0 k34 k36 (2 : Int32) (1 : Int32) (0 : Int32) T252.heap n0) (by decide) (by decide) (by decide) (by decide) (lenOf own_pd4 rfl) rfl (by exact Nat.le_of_eq rfl) (hb hby at_224) rfl ?_
            intro T266 Lc266 v266 X266 hQ266
            obtain ⟨rfl, Nq266, Kq266⟩ := hQ266
            have N266 := Fr.app N265 Nq266
            show own_Ends prg e below s _ _ _ T266 (mkF m 227 #[.val (.int p0), .val (.int p1), .val (.int p2), .val (.int p3), .val (.int (2 : Int32)), .val (.int (1 : Int32)), .val (.int (0 : Int32)), .val (.int k34), .val (.int k36), .val (.ref a38), .val (.int (3 : Int32))] [(.int (own_own k36 p0 k34 k36 (2 : Int32) (1 : Int32) (0 : Int32))), (.int r265)])
            refine own_iload (pc' := 229) X266 hx (hb hby at_227) rfl rfl ?_
            have lw267 := own_low own_spread k36 p0 k34 k36 (a := 2) (b := 1) (c := 0) (by decide) (by decide) (by decide)
            replace lw267 : ((own_own k36 p0 k34 k36 (2 : Int32) (1 : Int32) (0 : Int32))).toInt ≤ (own_same [own_spread k34, own_spread p0, own_spread p0] (own_spread k36) : Int) := lw267
            have lw267r := G265_0
            replace lw267r : _ ∧ _ ≤ (3 : Int) := lw267r
            refine own_callS (pc' := 232) (y := (⟨"com/example/larder/larder/cache/UseCountsAddPinLaw", "within", "(III)Z"⟩ : MethodName)) (W := 0) (rm := own_room10) (argsL := [(.int r265), (.int (own_own k36 p0 k34 k36 (2 : Int32) (1 : Int32) (0 : Int32))), (.int (3 : Int32))]) (rest := []) X266 hx hZ Kq266 hown (by rw [hml]; rfl) (own_w44 hw) (own_w45 hw) (own_w42 hw) (own_w46 hw) (by decide) (own_rm10 lch Z a0 hw [] r265 (own_own k36 p0 k34 k36 (2 : Int32) (1 : Int32) (0 : Int32)) (3 : Int32) T252.heap n0 (by omega) (show _ ≤ (3 : Int) by omega)) (by decide) (by decide) (by decide) (by decide) (lenOf own_pd5 rfl) rfl (by exact Nat.le_of_eq rfl) (hb hby at_229) rfl ?_
            intro T268 Lc268 v268 X268 hQ268
            obtain ⟨rfl, Nq268, Kq268⟩ := hQ268
            have N268 := Fr.app N266 Nq268
            show own_Ends prg e below s _ _ _ T268 (mkF m 232 #[.val (.int p0), .val (.int p1), .val (.int p2), .val (.int p3), .val (.int (2 : Int32)), .val (.int (1 : Int32)), .val (.int (0 : Int32)), .val (.int k34), .val (.int k36), .val (.ref a38), .val (.int (3 : Int32))] [(.int (1 : Int32))])
            refine own_ifNo (pc' := 235) X268 hx (hb hby at_232) rfl (feq (by decide)).1 ?_
            refine own_iconst (pc' := 236) (z := (1 : Int32)) X268 hx (hb hby at_235) rfl rfl ?_
            refine own_goto (pc' := 240) X268 hx (hb hby at_236) (by decide) (by decide) ?_
            refine own_retN X268 hx hlk hret (by simp) (hb hby at_240) (by decide) (by decide) ?_
            exact ⟨rfl, N268⟩
          · refine own_iload (pc' := 123) X252 hx (hb hby at_121) rfl rfl ?_
            refine own_iconst (pc' := 124) (z := (1 : Int32)) X252 hx (hb hby at_123) rfl rfl ?_
            refine own_icmpNo (pc' := 127) X252 hx (hb hby at_124) rfl (teq (by decide)).2 ?_
            refine own_aload (pc' := 129) X252 hx (hb hby at_127) rfl rfl rfl ?_
            refine own_iload (pc' := 131) X252 hx (hb hby at_129) rfl rfl ?_
            have f269 := (f249.keep Kq252)
            have f270 := (own_stak f250 Kq252 (allS (own_exac f249) (allS (own_arvc G212_2) all0)))
            have f271 := (f251.keep Kq252 (ninS ne40 (ninS ne47 nin0)))
            refine own_callV (pc' := 134) (y := (⟨"com/example/larder/larder/cache/UseCounts", "add", "(I)V"⟩ : MethodName)) (W := 0) (rm := own_room3) (argsL := [(.int k36)]) (rest := []) (b := a38) (C := "com/example/larder/larder/cache/UseCounts") X252 hx hZ rfl hown (by rw [hml]; rfl) f269 (own_w12 hw) (own_w13 hw) (own_w15 hw) (own_w14 hw) (own_w2 hw) (own_w16 hw) (by decide) (own_rm3 lch Z a0 hw [] a38 k36 pa pk b44 bk44 (3 : Int32) l2252 [own_spread k34, own_spread p0, own_spread p0] T252.heap n0 f269 G252_0 F253 G252_2 G252_3 (by simp) (by decide) ge39 ge45 ne48 ne40 ne47 f270 f271) (by decide) (by decide) (by decide) (by decide) (lenOf own_pd6 rfl) rfl (by exact Nat.le_of_eq rfl) (hb hby at_131) rfl ?_
            intro T272 Lc272 v272 X272 hQ272
            obtain ⟨l2272, rfl, Nq272, Kq272, G272_0, G272_1, G272_2, G272_3⟩ := hQ272
            have N272 := Fr.app N252 Nq272
            have F273 : Fld Z T272.heap a38 "com/example/larder/larder/cache/UseCounts" "additions" "I" (.int (4 : Int32)) := G272_1
            replace G272_3 : own_rep l2272 [own_spread k36, own_spread k34, own_spread p0, own_spread p0] := G272_3
            show own_Ends prg e below s _ _ _ T272 (mkF m 134 #[.val (.int p0), .val (.int p1), .val (.int p2), .val (.int p3), .val (.int (2 : Int32)), .val (.int (1 : Int32)), .val (.int (1 : Int32)), .val (.int k34), .val (.int k36), .val (.ref a38), .unset] [])
            refine own_iload (pc' := 136) X272 hx (hb hby at_134) rfl rfl ?_
            refine own_iload (pc' := 138) X272 hx (hb hby at_136) rfl rfl ?_
            refine own_iadd (pc' := 139) (z := (3 : Int32)) X272 hx (hb hby at_138) rfl (by decide) ?_
            refine own_iload (pc' := 141) X272 hx (hb hby at_139) rfl rfl ?_
            refine own_iadd (pc' := 142) (z := (4 : Int32)) X272 hx (hb hby at_141) rfl (by decide) ?_
            refine own_istore (pc' := 144) (l' := #[.val (.int p0), .val (.int p1), .val (.int p2), .val (.int p3), .val (.int (2 : Int32)), .val (.int (1 : Int32)), .val (.int (1 : Int32)), .val (.int k34), .val (.int k36), .val (.ref a38), .val (.int (4 : Int32))]) X272 hx (hb hby at_142) rfl rfl ?_
            refine own_aload (pc' := 146) X272 hx (hb hby at_144) rfl rfl rfl ?_
            refine own_iloadN (pc' := 147) X272 hx (hb hby at_146) rfl rfl ?_
            have f274 := (f269.keep Kq272)
            have f275 := (own_stak f270 Kq272 (allS (own_exac f269) (allS (own_arvc G252_2) all0)))
            have f276 := (f271.keep Kq272 (ninS ne40 (ninS ne47 nin0)))
            refine own_callV (pc' := 150) (y := (⟨"com/example/larder/larder/cache/UseCounts", "of", "(I)I"⟩ : MethodName)) (W := 0) (rm := own_room7) (argsL := [(.int p0)]) (rest := []) (b := a38) (C := "com/example/larder/larder/cache/UseCounts") X272 hx hZ rfl hown (by rw [hml]; rfl) f274 (own_w31 hw) (own_w32 hw) (own_w34 hw) (own_w33 hw) (own_w2 hw) (own_w35 hw) (by decide) (own_rm7 lch Z a0 hw [] a38 p0 pa pk b44 bk44 (4 : Int32) l2272 [own_spread k36, own_spread k34, own_spread p0, own_spread p0] T272.heap n0 f274 G272_0 F273 G272_2 G272_3 (by simp) (by decide) ge39 ge45 ne48 ne40 ne47 f275 f276) (by decide) (by decide) (by decide) (by decide) (lenOf own_pd0 rfl) rfl (by exact Nat.le_of_eq rfl) (hb hby at_147) rfl ?_
            intro T277 Lc277 v277 X277 hQ277
            obtain ⟨r277, rfl, Nq277, Kq277, G277_0⟩ := hQ277
            have N277 := Fr.app N272 Nq277
            show own_Ends prg e below s _ _ _ T277 (mkF m 150 #[.val (.int p0), .val (.int p1), .val (.int p2), .val (.int p3), .val (.int (2 : Int32)), .val (.int (1 : Int32)), .val (.int (1 : Int32)), .val (.int k34), .val (.int k36), .val (.ref a38), .val (.int (4 : Int32))] [(.int r277)])
            refine own_iloadN (pc' := 151) X277 hx (hb hby at_150) rfl rfl ?_
            refine own_iloadN (pc' := 152) X277 hx (hb hby at_151) rfl rfl ?_
            refine own_iload (pc' := 154) X277 hx (hb hby at_152) rfl rfl ?_
            refine own_iload (pc' := 156) X277 hx (hb hby at_154) rfl rfl ?_
            refine own_iload (pc' := 158) X277 hx (hb hby at_156) rfl rfl ?_
            refine own_iload (pc' := 160) X277 hx (hb hby at_158) rfl rfl ?_
            refine own_iload (pc' := 162) X277 hx (hb hby at_160) rfl rfl ?_
            refine own_callS (pc' := 165) (y := (⟨"com/example/larder/larder/cache/UseCountsAddPinLaw", "own", "(IIIIIII)I"⟩ : MethodName)) (W := 1) (rm := own_room9) (argsL := [(.int p0), (.int p0), (.int k34), (.int k36), (.int (2 : Int32)), (.int (1 : Int32)), (.int (1 : Int32))]) (rest := [(.int r277)]) X277 hx hZ Kq277 hown (by rw [hml]; rfl) (own_w40 hw) (own_w41 hw) (own_w42 hw) (own_w43 hw) (by decide) (own_rm9 lch Z a0 hw [] p0 p0 k34 k36 (2 : Int32) (1 : Int32) (1 : Int32) T272.heap n0) (by decide) (by decide) (by decide) (by decide) (lenOf own_pd4 rfl) rfl (by exact Nat.le_of_eq rfl) (hb hby at_162) rfl ?_
            intro T278 Lc278 v278 X278 hQ278
            obtain ⟨rfl, Nq278, Kq278⟩ := hQ278
            have N278 := Fr.app N277 Nq278
            show own_Ends prg e below s _ _ _ T278 (mkF m 165 #[.val (.int p0), .val (.int p1), .val (.int p2), .val (.int p3), .val (.int (2 : Int32)), .val (.int (1 : Int32)), .val (.int (1 : Int32)), .val (.int k34), .val (.int k36), .val (.ref a38), .val (.int (4 : Int32))] [(.int (own_own p0 p0 k34 k36 (2 : Int32) (1 : Int32) (1 : Int32))), (.int r277)])
            refine own_iload (pc' := 167) X278 hx (hb hby at_165) rfl rfl ?_
            have lw279 := own_low own_spread p0 p0 k34 k36 (a := 2) (b := 1) (c := 1) (by decide) (by decide) (by decide)
            replace lw279 : ((own_own p0 p0 k34 k36 (2 : Int32) (1 : Int32) (1 : Int32))).toInt ≤ (own_same [own_spread k36, own_spread k34, own_spread p0, own_spread p0] (own_spread p0) : Int) := lw279
            have lw279r := G277_0
            replace lw279r : _ ∧ _ ≤ (4 : Int) := lw279r
            refine own_callS (pc' := 170) (y := (⟨"com/example/larder/larder/cache/UseCountsAddPinLaw", "within", "(III)Z"⟩ : MethodName)) (W := 0) (rm := own_room10) (argsL := [(.int r277), (.int (own_own p0 p0 k34 k36 (2 : Int32) (1 : Int32) (1 : Int32))), (.int (4 : Int32))]) (rest := []) X278 hx hZ Kq278 hown (by rw [hml]; rfl) (own_w44 hw) (own_w45 hw) (own_w42 hw) (own_w46 hw) (by decide) (own_rm10 lch Z a0 hw [] r277 (own_own p0 p0 k34 k36 (2 : Int32) (1 : Int32) (1 : Int32)) (4 : Int32) T272.heap n0 (by omega) (show _ ≤ (4 : Int) by omega)) (by decide) (by decide) (by decide) (by decide) (lenOf own_pd5 rfl) rfl (by exact Nat.le_of_eq rfl) (hb hby at_167) rfl ?_
            intro T280 Lc280 v280 X280 hQ280
            obtain ⟨rfl, Nq280, Kq280⟩ := hQ280
            have N280 := Fr.app N278 Nq280
            show own_Ends prg e below s _ _ _ T280 (mkF m 170 #[.val (.int p0), .val (.int p1), .val (.int p2), .val (.int p3), .val (.int (2 : Int32)), .val (.int (1 : Int32)), .val (.int (1 : Int32)), .val (.int k34), .val (.int k36), .val (.ref a38), .val (.int (4 : Int32))] [(.int (1 : Int32))])
            refine own_ifNo (pc' := 173) X280 hx (hb hby at_170) rfl (feq (by decide)).1 ?_
            refine own_aload (pc' := 175) X280 hx (hb hby at_173) rfl rfl rfl ?_
            refine own_iload (pc' := 177) X280 hx (hb hby at_175) rfl rfl ?_
            refine own_callV (pc' := 180) (y := (⟨"com/example/larder/larder/cache/UseCounts", "of", "(I)I"⟩ : MethodName)) (W := 0) (rm := own_room7) (argsL := [(.int k34)]) (rest := []) (b := a38) (C := "com/example/larder/larder/cache/UseCounts") X280 hx hZ Kq280 hown (by rw [hml]; rfl) f274 (own_w31 hw) (own_w32 hw) (own_w34 hw) (own_w33 hw) (own_w2 hw) (own_w35 hw) (by decide) (own_rm7 lch Z a0 hw [] a38 k34 pa pk b44 bk44 (4 : Int32) l2272 [own_spread k36, own_spread k34, own_spread p0, own_spread p0] T272.heap n0 f274 G272_0 F273 G272_2 G272_3 (by simp) (by decide) ge39 ge45 ne48 ne40 ne47 f275 f276) (by decide) (by decide) (by decide) (by decide) (lenOf own_pd0 rfl) rfl (by exact Nat.le_of_eq rfl) (hb hby at_177) rfl ?_
            intro T281 Lc281 v281 X281 hQ281
            obtain ⟨r281, rfl, Nq281, Kq281, G281_0⟩ := hQ281
            have N281 := Fr.app N280 Nq281
            show own_Ends prg e below s _ _ _ T281 (mkF m 180 #[.val (.int p0), .val (.int p1), .val (.int p2), .val (.int p3), .val (.int (2 : Int32)), .val (.int (1 : Int32)), .val (.int (1 : Int32)), .val (.int k34), .val (.int k36), .val (.ref a38), .val (.int (4 : Int32))] [(.int r281)])
            refine own_iload (pc' := 182) X281 hx (hb hby at_180) rfl rfl ?_
            refine own_iloadN (pc' := 183) X281 hx (hb hby at_182) rfl rfl ?_
            refine own_iload (pc' := 185) X281 hx (hb hby at_183) rfl rfl ?_
            refine own_iload (pc' := 187) X281 hx (hb hby at_185) rfl rfl ?_
            refine own_iload (pc' := 189) X281 hx (hb hby at_187) rfl rfl ?_
            refine own_iload (pc' := 191) X281 hx (hb hby at_189) rfl rfl ?_
            refine own_iload (pc' := 193) X281 hx (hb hby at_191) rfl rfl ?_
            refine own_callS (pc' := 196) (y := (⟨"com/example/larder/larder/cache/UseCountsAddPinLaw", "own", "(IIIIIII)I"⟩ : MethodName)) (W := 1) (rm := own_room9) (argsL := [(.int k34), (.int p0), (.int k34), (.int k36), (.int (2 : Int32)), (.int (1 : Int32)), (.int (1 : Int32))]) (rest := [(.int r281)]) X281 hx hZ Kq281 hown (by rw [hml]; rfl) (own_w40 hw) (own_w41 hw) (own_w42 hw) (own_w43 hw) (by decide) (own_rm9 lch Z a0 hw [] k34 p0 k34 k36 (2 : Int32) (1 : Int32) (1 : Int32) T272.heap n0) (by decide) (by decide) (by decide) (by decide) (lenOf own_pd4 rfl) rfl (by exact Nat.le_of_eq rfl) (hb hby at_193) rfl ?_
            intro T282 Lc282 v282 X282 hQ282
            obtain ⟨rfl, Nq282, Kq282⟩ := hQ282
            have N282 := Fr.app N281 Nq282
            show own_Ends prg e below s _ _ _ T282 (mkF m 196 #[.val (.int p0), .val (.int p1), .val (.int p2), .val (.int p3), .val (.int (2 : Int32)), .val (.int (1 : Int32)), .val (.int (1 : Int32)), .val (.int k34), .val (.int k36), .val (.ref a38), .val (.int (4 : Int32))] [(.int (own_own k34 p0 k34 k36 (2 : Int32) (1 : Int32) (1 : Int32))), (.int r281)])
            refine own_iload (pc' := 198) X282 hx (hb hby at_196) rfl rfl ?_
            have lw283 := own_low own_spread k34 p0 k34 k36 (a := 2) (b := 1) (c := 1) (by decide) (by decide) (by decide)
            replace lw283 : ((own_own k34 p0 k34 k36 (2 : Int32) (1 : Int32) (1 : Int32))).toInt ≤ (own_same [own_spread k36, own_spread k34, own_spread p0, own_spread p0] (own_spread k34) : Int) := lw283
            have lw283r := G281_0
            replace lw283r : _ ∧ _ ≤ (4 : Int) := lw283r
            refine own_callS (pc' := 201) (y := (⟨"com/example/larder/larder/cache/UseCountsAddPinLaw", "within", "(III)Z"⟩ : MethodName)) (W := 0) (rm := own_room10) (argsL := [(.int r281), (.int (own_own k34 p0 k34 k36 (2 : Int32) (1 : Int32) (1 : Int32))), (.int (4 : Int32))]) (rest := []) X282 hx hZ Kq282 hown (by rw [hml]; rfl) (own_w44 hw) (own_w45 hw) (own_w42 hw) (own_w46 hw) (by decide) (own_rm10 lch Z a0 hw [] r281 (own_own k34 p0 k34 k36 (2 : Int32) (1 : Int32) (1 : Int32)) (4 : Int32) T272.heap n0 (by omega) (show _ ≤ (4 : Int) by omega)) (by decide) (by decide) (by decide) (by decide) (lenOf own_pd5 rfl) rfl (by exact Nat.le_of_eq rfl) (hb hby at_198) rfl ?_
            intro T284 Lc284 v284 X284 hQ284
            obtain ⟨rfl, Nq284, Kq284⟩ := hQ284
            have N284 := Fr.app N282 Nq284
            show own_Ends prg e below s _ _ _ T284 (mkF m 201 #[.val (.int p0), .val (.int p1), .val (.int p2), .val (.int p3), .val (.int (2 : Int32)), .val (.int (1 : Int32)), .val (.int (1 : Int32)), .val (.int k34), .val (.int k36), .val (.ref a38), .val (.int (4 : Int32))] [(.int (1 : Int32))])
            refine own_ifNo (pc' := 204) X284 hx (hb hby at_201) rfl (feq (by decide)).1 ?_
            refine own_aload (pc' := 206) X284 hx (hb hby at_204) rfl rfl rfl ?_
            refine own_iload (pc' := 208) X284 hx (hb hby at_206) rfl rfl ?_
            refine own_callV (pc' := 211) (y := (⟨"com/example/larder/larder/cache/UseCounts", "of", "(I)I"⟩ : MethodName)) (W := 0) (rm := own_room7) (argsL := [(.int k36)]) (rest := []) (b := a38) (C := "com/example/larder/larder/cache/UseCounts") X284 hx hZ Kq284 hown (by rw [hml]; rfl) f274 (own_w31 hw) (own_w32 hw) (own_w34 hw) (own_w33 hw) (own_w2 hw) (own_w35 hw) (by decide) (own_rm7 lch Z a0 hw [] a38 k36 pa pk b44 bk44 (4 : Int32) l2272 [own_spread k36, own_spread k34, own_spread p0, own_spread p0] T272.heap n0 f274 G272_0 F273 G272_2 G272_3 (by simp) (by decide) ge39 ge45 ne48 ne40 ne47 f275 f276) (by decide) (by decide) (by decide) (by decide) (lenOf own_pd0 rfl) rfl (by exact Nat.le_of_eq rfl) (hb hby at_208) rfl ?_
            intro T285 Lc285 v285 X285 hQ285
            obtain ⟨r285, rfl, Nq285, Kq285, G285_0⟩ := hQ285
            have N285 := Fr.app N284 Nq285
            show own_Ends prg e below s _ _ _ T285 (mkF m 211 #[.val (.int p0), .val (.int p1), .val (.int p2), .val (.int p3), .val (.int (2 : Int32)), .val (.int (1 : Int32)), .val (.int (1 : Int32)), .val (.int k34), .val (.int k36), .val (.ref a38), .val (.int (4 : Int32))] [(.int r285)])
            refine own_iload (pc' := 213) X285 hx (hb hby at_211) rfl rfl ?_
            refine own_iloadN (pc' := 214) X285 hx (hb hby at_213) rfl rfl ?_
            refine own_iload (pc' := 216) X285 hx (hb hby at_214) rfl rfl ?_
            refine own_iload (pc' := 218) X285 hx (hb hby at_216) rfl rfl ?_
            refine own_iload (pc' := 220) X285 hx (hb hby at_218) rfl rfl ?_
            refine own_iload (pc' := 222) X285 hx (hb hby at_220) rfl rfl ?_
            refine own_iload (pc' := 224) X285 hx (hb hby at_222) rfl rfl ?_
            refine own_callS (pc' := 227) (y := (⟨"com/example/larder/larder/cache/UseCountsAddPinLaw", "own", "(IIIIIII)I"⟩ : MethodName)) (W := 1) (rm := own_room9) (argsL := [(.int k36), (.int p0), (.int k34), (.int k36), (.int (2 : Int32)), (.int (1 : Int32)), (.int (1 : Int32))]) (rest := [(.int r285)]) X285 hx hZ Kq285 hown (by rw [hml]; rfl) (own_w40 hw) (own_w41 hw) (own_w42 hw) (own_w43 hw) (by decide) (own_rm9 lch Z a0 hw [] k36 p0 k34 k36 (2 : Int32) (1 : Int32) (1 : Int32) T272.heap n0) (by decide) (by decide) (by decide) (by decide) (lenOf own_pd4 rfl) rfl (by exact Nat.le_of_eq rfl) (hb hby at_224) rfl ?_
            intro T286 Lc286 v286 X286 hQ286
            obtain ⟨rfl, Nq286, Kq286⟩ := hQ286
            have N286 := Fr.app N285 Nq286
            show own_Ends prg e below s _ _ _ T286 (mkF m 227 #[.val (.int p0), .val (.int p1), .val (.int p2), .val (.int p3), .val (.int (2 : Int32)), .val (.int (1 : Int32)), .val (.int (1 : Int32)), .val (.int k34), .val (.int k36), .val (.ref a38), .val (.int (4 : Int32))] [(.int (own_own k36 p0 k34 k36 (2 : Int32) (1 : Int32) (1 : Int32))), (.int r285)])
            refine own_iload (pc' := 229) X286 hx (hb hby at_227) rfl rfl ?_
            have lw287 := own_low own_spread k36 p0 k34 k36 (a := 2) (b := 1) (c := 1) (by decide) (by decide) (by decide)
            replace lw287 : ((own_own k36 p0 k34 k36 (2 : Int32) (1 : Int32) (1 : Int32))).toInt ≤ (own_same [own_spread k36, own_spread k34, own_spread p0, own_spread p0] (own_spread k36) : Int) := lw287
            have lw287r := G285_0
            replace lw287r : _ ∧ _ ≤ (4 : Int) := lw287r
            refine own_callS (pc' := 232) (y := (⟨"com/example/larder/larder/cache/UseCountsAddPinLaw", "within", "(III)Z"⟩ : MethodName)) (W := 0) (rm := own_room10) (argsL := [(.int r285), (.int (own_own k36 p0 k34 k36 (2 : Int32) (1 : Int32) (1 : Int32))), (.int (4 : Int32))]) (rest := []) X286 hx hZ Kq286 hown (by rw [hml]; rfl) (own_w44 hw) (own_w45 hw) (own_w42 hw) (own_w46 hw) (by decide) (own_rm10 lch Z a0 hw [] r285 (own_own k36 p0 k34 k36 (2 : Int32) (1 : Int32) (1 : Int32)) (4 : Int32) T272.heap n0 (by omega) (show _ ≤ (4 : Int) by omega)) (by decide) (by decide) (by decide) (by decide) (lenOf own_pd5 rfl) rfl (by exact Nat.le_of_eq rfl) (hb hby at_229) rfl ?_
            intro T288 Lc288 v288 X288 hQ288
            obtain ⟨rfl, Nq288, Kq288⟩ := hQ288
            have N288 := Fr.app N286 Nq288
            show own_Ends prg e below s _ _ _ T288 (mkF m 232 #[.val (.int p0), .val (.int p1), .val (.int p2), .val (.int p3), .val (.int (2 : Int32)), .val (.int (1 : Int32)), .val (.int (1 : Int32)), .val (.int k34), .val (.int k36), .val (.ref a38), .val (.int (4 : Int32))] [(.int (1 : Int32))])
            refine own_ifNo (pc' := 235) X288 hx (hb hby at_232) rfl (feq (by decide)).1 ?_
            refine own_iconst (pc' := 236) (z := (1 : Int32)) X288 hx (hb hby at_235) rfl rfl ?_
            refine own_goto (pc' := 240) X288 hx (hb hby at_236) (by decide) (by decide) ?_
            refine own_retN X288 hx hlk hret (by simp) (hb hby at_240) (by decide) (by decide) ?_
            exact ⟨rfl, N288⟩
      · refine own_iload (pc' := 74) X44 hx (hb hby at_72) rfl rfl ?_
        refine own_iconst (pc' := 75) (z := (1 : Int32)) X44 hx (hb hby at_74) rfl rfl ?_
        refine own_icmpNo (pc' := 78) X44 hx (hb hby at_75) rfl (flt (by decide)).1 ?_
        refine own_aload (pc' := 80) X44 hx (hb hby at_78) rfl rfl rfl ?_
        refine own_iloadN (pc' := 81) X44 hx (hb hby at_80) rfl rfl ?_
        have f289 := (A38.keep Kq44)
        have f290 := (own_stak (S0.ext E38) Kq44 (allS (own_exac A38) all0))
        have f291 := (f46.keep Kq44 (ninS ne40 nin0))
        refine own_callV (pc' := 84) (y := (⟨"com/example/larder/larder/cache/UseCounts", "add", "(I)V"⟩ : MethodName)) (W := 0) (rm := own_room3) (argsL := [(.int p0)]) (rest := []) (b := a38) (C := "com/example/larder/larder/cache/UseCounts") X44 hx hZ rfl hown (by rw [hml]; rfl) f289 (own_w12 hw) (own_w13 hw) (own_w15 hw) (own_w14 hw) (own_w2 hw) (own_w16 hw) (by decide) (own_rm3 lch Z a0 hw [] a38 p0 pa pk b44 bk44 (0 : Int32) (List.replicate 16 (0 : Int32)) [] T44.heap n0 f289 G44_1 G44_2 G44_3 own_repZ (by simp) (by decide) ge39 ge45 ne48 ne40 ne47 f290 f291) (by decide) (by decide) (by decide) (by decide) (lenOf own_pd6 rfl) rfl (by exact Nat.le_of_eq rfl) (hb hby at_81) rfl ?_
        intro T292 Lc292 v292 X292 hQ292
        obtain ⟨l2292, rfl, Nq292, Kq292, G292_0, G292_1, G292_2, G292_3⟩ := hQ292
        have N292 := Fr.app N44 Nq292
        have F293 : Fld Z T292.heap a38 "com/example/larder/larder/cache/UseCounts" "additions" "I" (.int (1 : Int32)) := G292_1
        replace G292_3 : own_rep l2292 [own_spread p0] := G292_3
        show own_Ends prg e below s _ _ _ T292 (mkF m 84 #[.val (.int p0), .val (.int p1), .val (.int p2), .val (.int p3), .val (.int (3 : Int32)), .val (.int b32), .val (.int c33), .val (.int k34), .val (.int k36), .val (.ref a38), .unset] [])
        refine own_iload (pc' := 86) X292 hx (hb hby at_84) rfl rfl ?_
        refine own_iconst (pc' := 87) (z := (2 : Int32)) X292 hx (hb hby at_86) rfl rfl ?_
        refine own_icmpNo (pc' := 90) X292 hx (hb hby at_87) rfl (flt (by decide)).1 ?_
        refine own_aload (pc' := 92) X292 hx (hb hby at_90) rfl rfl rfl ?_
        refine own_iloadN (pc' := 93) X292 hx (hb hby at_92) rfl rfl ?_
        have f294 := (f289.keep Kq292)
        have f295 := (own_stak f290 Kq292 (allS (own_exac f289) (allS (own_arvc G44_3) all0)))
        have f296 := (f291.keep Kq292 (ninS ne40 (ninS ne47 nin0)))
        refine own_callV (pc' := 96) (y := (⟨"com/example/larder/larder/cache/UseCounts", "add", "(I)V"⟩ : MethodName)) (W := 0) (rm := own_room3) (argsL := [(.int p0)]) (rest := []) (b := a38) (C := "com/example/larder/larder/cache/UseCounts") X292 hx hZ rfl hown (by rw [hml]; rfl) f294 (own_w12 hw) (own_w13 hw) (own_w15 hw) (own_w14 hw) (own_w2 hw) (own_w16 hw) (by decide) (own_rm3 lch Z a0 hw [] a38 p0 pa pk b44 bk44 (1 : Int32) l2292 [own_spread p0] T292.heap n0 f294 G292_0 F293 G292_2 G292_3 (by simp) (by decide) ge39 ge45 ne48 ne40 ne47 f295 f296) (by decide) (by decide) (by decide) (by decide) (lenOf own_pd6 rfl) rfl (by exact Nat.le_of_eq rfl) (hb hby at_93) rfl ?_
        intro T297 Lc297 v297 X297 hQ297
        obtain ⟨l2297, rfl, Nq297, Kq297, G297_0, G297_1, G297_2, G297_3⟩ := hQ297
        have N297 := Fr.app N292 Nq297
        have F298 : Fld Z T297.heap a38 "com/example/larder/larder/cache/UseCounts" "additions" "I" (.int (2 : Int32)) := G297_1
        replace G297_3 : own_rep l2297 [own_spread p0, own_spread p0] := G297_3
        show own_Ends prg e below s _ _ _ T297 (mkF m 96 #[.val (.int p0), .val (.int p1), .val (.int p2), .val (.int p3), .val (.int (3 : Int32)), .val (.int b32), .val (.int c33), .val (.int k34), .val (.int k36), .val (.ref a38), .unset] [])
        refine own_iload (pc' := 98) X297 hx (hb hby at_96) rfl rfl ?_
        refine own_iconst (pc' := 99) (z := (3 : Int32)) X297 hx (hb hby at_98) rfl rfl ?_
        refine own_icmpNo (pc' := 102) X297 hx (hb hby at_99) rfl (flt (by decide)).1 ?_
        refine own_aload (pc' := 104) X297 hx (hb hby at_102) rfl rfl rfl ?_
        refine own_iloadN (pc' := 105) X297 hx (hb hby at_104) rfl rfl ?_
        have f299 := (f294.keep Kq297)
        have f300 := (own_stak f295 Kq297 (allS (own_exac f294) (allS (own_arvc G292_2) all0)))
        have f301 := (f296.keep Kq297 (ninS ne40 (ninS ne47 nin0)))
        refine own_callV (pc' := 108) (y := (⟨"com/example/larder/larder/cache/UseCounts", "add", "(I)V"⟩ : MethodName)) (W := 0) (rm := own_room3) (argsL := [(.int p0)]) (rest := []) (b := a38) (C := "com/example/larder/larder/cache/UseCounts") X297 hx hZ rfl hown (by rw [hml]; rfl) f299 (own_w12 hw) (own_w13 hw) (own_w15 hw) (own_w14 hw) (own_w2 hw) (own_w16 hw) (by decide) (own_rm3 lch Z a0 hw [] a38 p0 pa pk b44 bk44 (2 : Int32) l2297 [own_spread p0, own_spread p0] T297.heap n0 f299 G297_0 F298 G297_2 G297_3 (by simp) (by decide) ge39 ge45 ne48 ne40 ne47 f300 f301) (by decide) (by decide) (by decide) (by decide) (lenOf own_pd6 rfl) rfl (by exact Nat.le_of_eq rfl) (hb hby at_105) rfl ?_
        intro T302 Lc302 v302 X302 hQ302
        obtain ⟨l2302, rfl, Nq302, Kq302, G302_0, G302_1, G302_2, G302_3⟩ := hQ302
        have N302 := Fr.app N297 Nq302
        have F303 : Fld Z T302.heap a38 "com/example/larder/larder/cache/UseCounts" "additions" "I" (.int (3 : Int32)) := G302_1
        replace G302_3 : own_rep l2302 [own_spread p0, own_spread p0, own_spread p0] := G302_3
        show own_Ends prg e below s _ _ _ T302 (mkF m 108 #[.val (.int p0), .val (.int p1), .val (.int p2), .val (.int p3), .val (.int (3 : Int32)), .val (.int b32), .val (.int c33), .val (.int k34), .val (.int k36), .val (.ref a38), .unset] [])
        rcases own_and1 hb32 with rfl | rfl
        · refine own_iload (pc' := 110) X302 hx (hb hby at_108) rfl rfl ?_
          refine own_iconst (pc' := 111) (z := (1 : Int32)) X302 hx (hb hby at_110) rfl rfl ?_
          refine own_icmpYes (pc' := 121) X302 hx (hb hby at_111) (feq (by decide)).2 (by decide) (by decide) ?_
          rcases own_and1 hc33 with rfl | rfl
          · refine own_iload (pc' := 123) X302 hx (hb hby at_121) rfl rfl ?_
            refine own_iconst (pc' := 124) (z := (1 : Int32)) X302 hx (hb hby at_123) rfl rfl ?_
            refine own_icmpYes (pc' := 134) X302 hx (hb hby at_124) (feq (by decide)).2 (by decide) (by decide) ?_
            refine own_iload (pc' := 136) X302 hx (hb hby at_134) rfl rfl ?_
            refine own_iload (pc' := 138) X302 hx (hb hby at_136) rfl rfl ?_
            refine own_iadd (pc' := 139) (z := (3 : Int32)) X302 hx (hb hby at_138) rfl (by decide) ?_
            refine own_iload (pc' := 141) X302 hx (hb hby at_139) rfl rfl ?_
            refine own_iadd (pc' := 142) (z := (3 : Int32)) X302 hx (hb hby at_141) rfl (by decide) ?_
            refine own_istore (pc' := 144) (l' := #[.val (.int p0), .val (.int p1), .val (.int p2), .val (.int p3), .val (.int (3 : Int32)), .val (.int (0 : Int32)), .val (.int (0 : Int32)), .val (.int k34), .val (.int k36), .val (.ref a38), .val (.int (3 : Int32))]) X302 hx (hb hby at_142) rfl rfl ?_
            refine own_aload (pc' := 146) X302 hx (hb hby at_144) rfl rfl rfl ?_
            refine own_iloadN (pc' := 147) X302 hx (hb hby at_146) rfl rfl ?_
            have f304 := (f299.keep Kq302)
            have f305 := (own_stak f300 Kq302 (allS (own_exac f299) (allS (own_arvc G297_2) all0)))
            have f306 := (f301.keep Kq302 (ninS ne40 (ninS ne47 nin0)))
            refine own_callV (pc' := 150) (y := (⟨"com/example/larder/larder/cache/UseCounts", "of", "(I)I"⟩ : MethodName)) (W := 0) (rm := own_room7) (argsL := [(.int p0)]) (rest := []) (b := a38) (C := "com/example/larder/larder/cache/UseCounts") X302 hx hZ rfl hown (by rw [hml]; rfl) f304 (own_w31 hw) (own_w32 hw) (own_w34 hw) (own_w33 hw) (own_w2 hw) (own_w35 hw) (by decide) (own_rm7 lch Z a0 hw [] a38 p0 pa pk b44 bk44 (3 : Int32) l2302 [own_spread p0, own_spread p0, own_spread p0] T302.heap n0 f304 G302_0 F303 G302_2 G302_3 (by simp) (by decide) ge39 ge45 ne48 ne40 ne47 f305 f306) (by decide) (by decide) (by decide) (by decide) (lenOf own_pd0 rfl) rfl (by exact Nat.le_of_eq rfl) (hb hby at_147) rfl ?_
            intro T307 Lc307 v307 X307 hQ307
            obtain ⟨r307, rfl, Nq307, Kq307, G307_0⟩ := hQ307
            have N307 := Fr.app N302 Nq307
            show own_Ends prg e below s _ _ _ T307 (mkF m 150 #[.val (.int p0), .val (.int p1), .val (.int p2), .val (.int p3), .val (.int (3 : Int32)), .val (.int (0 : Int32)), .val (.int (0 : Int32)), .val (.int k34), .val (.int k36), .val (.ref a38), .val (.int (3 : Int32))] [(.int r307)])
            refine own_iloadN (pc' := 151) X307 hx (hb hby at_150) rfl rfl ?_
            refine own_iloadN (pc' := 152) X307 hx (hb hby at_151) rfl rfl ?_
            refine own_iload (pc' := 154) X307 hx (hb hby at_152) rfl rfl ?_
            refine own_iload (pc' := 156) X307 hx (hb hby at_154) rfl rfl ?_
            refine own_iload (pc' := 158) X307 hx (hb hby at_156) rfl rfl ?_
            refine own_iload (pc' := 160) X307 hx (hb hby at_158) rfl rfl ?_
            refine own_iload (pc' := 162) X307 hx (hb hby at_160) rfl rfl ?_
            refine own_callS (pc' := 165) (y := (⟨"com/example/larder/larder/cache/UseCountsAddPinLaw", "own", "(IIIIIII)I"⟩ : MethodName)) (W := 1) (rm := own_room9) (argsL := [(.int p0), (.int p0), (.int k34), (.int k36), (.int (3 : Int32)), (.int (0 : Int32)), (.int (0 : Int32))]) (rest := [(.int r307)]) X307 hx hZ Kq307 hown (by rw [hml]; rfl) (own_w40 hw) (own_w41 hw) (own_w42 hw) (own_w43 hw) (by decide) (own_rm9 lch Z a0 hw [] p0 p0 k34 k36 (3 : Int32) (0 : Int32) (0 : Int32) T302.heap n0) (by decide) (by decide) (by decide) (by decide) (lenOf own_pd4 rfl) rfl (by exact Nat.le_of_eq rfl) (hb hby at_162) rfl ?_
            intro T308 Lc308 v308 X308 hQ308
            obtain ⟨rfl, Nq308, Kq308⟩ := hQ308
            have N308 := Fr.app N307 Nq308
            show own_Ends prg e below s _ _ _ T308 (mkF m 165 #[.val (.int p0), .val (.int p1), .val (.int p2), .val (.int p3), .val (.int (3 : Int32)), .val (.int (0 : Int32)), .val (.int (0 : Int32)), .val (.int k34), .val (.int k36), .val (.ref a38), .val (.int (3 : Int32))] [(.int (own_own p0 p0 k34 k36 (3 : Int32) (0 : Int32) (0 : Int32))), (.int r307)])
            refine own_iload (pc' := 167) X308 hx (hb hby at_165) rfl rfl ?_
            have lw309 := own_low own_spread p0 p0 k34 k36 (a := 3) (b := 0) (c := 0) (by decide) (by decide) (by decide)
            replace lw309 : ((own_own p0 p0 k34 k36 (3 : Int32) (0 : Int32) (0 : Int32))).toInt ≤ (own_same [own_spread p0, own_spread p0, own_spread p0] (own_spread p0) : Int) := lw309
            have lw309r := G307_0
            replace lw309r : _ ∧ _ ≤ (3 : Int) := lw309r
            refine own_callS (pc' := 170) (y := (⟨"com/example/larder/larder/cache/UseCountsAddPinLaw", "within", "(III)Z"⟩ : MethodName)) (W := 0) (rm := own_room10) (argsL := [(.int r307), (.int (own_own p0 p0 k34 k36 (3 : Int32) (0 : Int32) (0 : Int32))), (.int (3 : Int32))]) (rest := []) X308 hx hZ Kq308 hown (by rw [hml]; rfl) (own_w44 hw) (own_w45 hw) (own_w42 hw) (own_w46 hw) (by decide) (own_rm10 lch Z a0 hw [] r307 (own_own p0 p0 k34 k36 (3 : Int32) (0 : Int32) (0 : Int32)) (3 : Int32) T302.heap n0 (by omega) (show _ ≤ (3 : Int) by omega)) (by decide) (by decide) (by decide) (by decide) (lenOf own_pd5 rfl) rfl (by exact Nat.le_of_eq rfl) (hb hby at_167) rfl ?_
            intro T310 Lc310 v310 X310 hQ310
            obtain ⟨rfl, Nq310, Kq310⟩ := hQ310
            have N310 := Fr.app N308 Nq310
            show own_Ends prg e below s _ _ _ T310 (mkF m 170 #[.val (.int p0), .val (.int p1), .val (.int p2), .val (.int p3), .val (.int (3 : Int32)), .val (.int (0 : Int32)), .val (.int (0 : Int32)), .val (.int k34), .val (.int k36), .val (.ref a38), .val (.int (3 : Int32))] [(.int (1 : Int32))])
            refine own_ifNo (pc' := 173) X310 hx (hb hby at_170) rfl (feq (by decide)).1 ?_
            refine own_aload (pc' := 175) X310 hx (hb hby at_173) rfl rfl rfl ?_
            refine own_iload (pc' := 177) X310 hx (hb hby at_175) rfl rfl ?_
            refine own_callV (pc' := 180) (y := (⟨"com/example/larder/larder/cache/UseCounts", "of", "(I)I"⟩ : MethodName)) (W := 0) (rm := own_room7) (argsL := [(.int k34)]) (rest := []) (b := a38) (C := "com/example/larder/larder/cache/UseCounts") X310 hx hZ Kq310 hown (by rw [hml]; rfl) f304 (own_w31 hw) (own_w32 hw) (own_w34 hw) (own_w33 hw) (own_w2 hw) (own_w35 hw) (by decide) (own_rm7 lch Z a0 hw [] a38 k34 pa pk b44 bk44 (3 : Int32) l2302 [own_spread p0, own_spread p0, own_spread p0] T302.heap n0 f304 G302_0 F303 G302_2 G302_3 (by simp) (by decide) ge39 ge45 ne48 ne40 ne47 f305 f306) (by decide) (by decide) (by decide) (by decide) (lenOf own_pd0 rfl) rfl (by exact Nat.le_of_eq rfl) (hb hby at_177) rfl ?_
            intro T311 Lc311 v311 X311 hQ311
            obtain ⟨r311, rfl, Nq311, Kq311, G311_0⟩ := hQ311
            have N311 := Fr.app N310 Nq311
            show own_Ends prg e below s _ _ _ T311 (mkF m 180 #[.val (.int p0), .val (.int p1), .val (.int p2), .val (.int p3), .val (.int (3 : Int32)), .val (.int (0 : Int32)), .val (.int (0 : Int32)), .val (.int k34), .val (.int k36), .val (.ref a38), .val (.int (3 : Int32))] [(.int r311)])
            refine own_iload (pc' := 182) X311 hx (hb hby at_180) rfl rfl ?_
            refine own_iloadN (pc' := 183) X311 hx (hb hby at_182) rfl rfl ?_
            refine own_iload (pc' := 185) X311 hx (hb hby at_183) rfl rfl ?_
            refine own_iload (pc' := 187) X311 hx (hb hby at_185) rfl rfl ?_
            refine own_iload (pc' := 189) X311 hx (hb hby at_187) rfl rfl ?_
            refine own_iload (pc' := 191) X311 hx (hb hby at_189) rfl rfl ?_
            refine own_iload (pc' := 193) X311 hx (hb hby at_191) rfl rfl ?_
            refine own_callS (pc' := 196) (y := (⟨"com/example/larder/larder/cache/UseCountsAddPinLaw", "own", "(IIIIIII)I"⟩ : MethodName)) (W := 1) (rm := own_room9) (argsL := [(.int k34), (.int p0), (.int k34), (.int k36), (.int (3 : Int32)), (.int (0 : Int32)), (.int (0 : Int32))]) (rest := [(.int r311)]) X311 hx hZ Kq311 hown (by rw [hml]; rfl) (own_w40 hw) (own_w41 hw) (own_w42 hw) (own_w43 hw) (by decide) (own_rm9 lch Z a0 hw [] k34 p0 k34 k36 (3 : Int32) (0 : Int32) (0 : Int32) T302.heap n0) (by decide) (by decide) (by decide) (by decide) (lenOf own_pd4 rfl) rfl (by exact Nat.le_of_eq rfl) (hb hby at_193) rfl ?_
            intro T312 Lc312 v312 X312 hQ312
            obtain ⟨rfl, Nq312, Kq312⟩ := hQ312
            have N312 := Fr.app N311 Nq312
            show own_Ends prg e below s _ _ _ T312 (mkF m 196 #[.val (.int p0), .val (.int p1), .val (.int p2), .val (.int p3), .val (.int (3 : Int32)), .val (.int (0 : Int32)), .val (.int (0 : Int32)), .val (.int k34), .val (.int k36), .val (.ref a38), .val (.int (3 : Int32))] [(.int (own_own k34 p0 k34 k36 (3 : Int32) (0 : Int32) (0 : Int32))), (.int r311)])
            refine own_iload (pc' := 198) X312 hx (hb hby at_196) rfl rfl ?_
            have lw313 := own_low own_spread k34 p0 k34 k36 (a := 3) (b := 0) (c := 0) (by decide) (by decide) (by decide)
            replace lw313 : ((own_own k34 p0 k34 k36 (3 : Int32) (0 : Int32) (0 : Int32))).toInt ≤ (own_same [own_spread p0, own_spread p0, own_spread p0] (own_spread k34) : Int) := lw313
            have lw313r := G311_0
            replace lw313r : _ ∧ _ ≤ (3 : Int) := lw313r
            refine own_callS (pc' := 201) (y := (⟨"com/example/larder/larder/cache/UseCountsAddPinLaw", "within", "(III)Z"⟩ : MethodName)) (W := 0) (rm := own_room10) (argsL := [(.int r311), (.int (own_own k34 p0 k34 k36 (3 : Int32) (0 : Int32) (0 : Int32))), (.int (3 : Int32))]) (rest := []) X312 hx hZ Kq312 hown (by rw [hml]; rfl) (own_w44 hw) (own_w45 hw) (own_w42 hw) (own_w46 hw) (by decide) (own_rm10 lch Z a0 hw [] r311 (own_own k34 p0 k34 k36 (3 : Int32) (0 : Int32) (0 : Int32)) (3 : Int32) T302.heap n0 (by omega) (show _ ≤ (3 : Int) by omega)) (by decide) (by decide) (by decide) (by decide) (lenOf own_pd5 rfl) rfl (by exact Nat.le_of_eq rfl) (hb hby at_198) rfl ?_
            intro T314 Lc314 v314 X314 hQ314
            obtain ⟨rfl, Nq314, Kq314⟩ := hQ314
            have N314 := Fr.app N312 Nq314
            show own_Ends prg e below s _ _ _ T314 (mkF m 201 #[.val (.int p0), .val (.int p1), .val (.int p2), .val (.int p3), .val (.int (3 : Int32)), .val (.int (0 : Int32)), .val (.int (0 : Int32)), .val (.int k34), .val (.int k36), .val (.ref a38), .val (.int (3 : Int32))] [(.int (1 : Int32))])
            refine own_ifNo (pc' := 204) X314 hx (hb hby at_201) rfl (feq (by decide)).1 ?_
            refine own_aload (pc' := 206) X314 hx (hb hby at_204) rfl rfl rfl ?_
            refine own_iload (pc' := 208) X314 hx (hb hby at_206) rfl rfl ?_
            refine own_callV (pc' := 211) (y := (⟨"com/example/larder/larder/cache/UseCounts", "of", "(I)I"⟩ : MethodName)) (W := 0) (rm := own_room7) (argsL := [(.int k36)]) (rest := []) (b := a38) (C := "com/example/larder/larder/cache/UseCounts") X314 hx hZ Kq314 hown (by rw [hml]; rfl) f304 (own_w31 hw) (own_w32 hw) (own_w34 hw) (own_w33 hw) (own_w2 hw) (own_w35 hw) (by decide) (own_rm7 lch Z a0 hw [] a38 k36 pa pk b44 bk44 (3 : Int32) l2302 [own_spread p0, own_spread p0, own_spread p0] T302.heap n0 f304 G302_0 F303 G302_2 G302_3 (by simp) (by decide) ge39 ge45 ne48 ne40 ne47 f305 f306) (by decide) (by decide) (by decide) (by decide) (lenOf own_pd0 rfl) rfl (by exact Nat.le_of_eq rfl) (hb hby at_208) rfl ?_
            intro T315 Lc315 v315 X315 hQ315
            obtain ⟨r315, rfl, Nq315, Kq315, G315_0⟩ := hQ315
            have N315 := Fr.app N314 Nq315
            show own_Ends prg e below s _ _ _ T315 (mkF m 211 #[.val (.int p0), .val (.int p1), .val (.int p2), .val (.int p3), .val (.int (3 : Int32)), .val (.int (0 : Int32)), .val (.int (0 : Int32)), .val (.int k34), .val (.int k36), .val (.ref a38), .val (.int (3 : Int32))] [(.int r315)])
            refine own_iload (pc' := 213) X315 hx (hb hby at_211) rfl rfl ?_
            refine own_iloadN (pc' := 214) X315 hx (hb hby at_213) rfl rfl ?_
            refine own_iload (pc' := 216) X315 hx (hb hby at_214) rfl rfl ?_
            refine own_iload (pc' := 218) X315 hx (hb hby at_216) rfl rfl ?_
            refine own_iload (pc' := 220) X315 hx (hb hby at_218) rfl rfl ?_
            refine own_iload (pc' := 222) X315 hx (hb hby at_220) rfl rfl ?_
            refine own_iload (pc' := 224) X315 hx (hb hby at_222) rfl rfl ?_
            refine own_callS (pc' := 227) (y := (⟨"com/example/larder/larder/cache/UseCountsAddPinLaw", "own", "(IIIIIII)I"⟩ : MethodName)) (W := 1) (rm := own_room9) (argsL := [(.int k36), (.int p0), (.int k34), (.int k36), (.int (3 : Int32)), (.int (0 : Int32)), (.int (0 : Int32))]) (rest := [(.int r315)]) X315 hx hZ Kq315 hown (by rw [hml]; rfl) (own_w40 hw) (own_w41 hw) (own_w42 hw) (own_w43 hw) (by decide) (own_rm9 lch Z a0 hw [] k36 p0 k34 k36 (3 : Int32) (0 : Int32) (0 : Int32) T302.heap n0) (by decide) (by decide) (by decide) (by decide) (lenOf own_pd4 rfl) rfl (by exact Nat.le_of_eq rfl) (hb hby at_224) rfl ?_
            intro T316 Lc316 v316 X316 hQ316
            obtain ⟨rfl, Nq316, Kq316⟩ := hQ316
            have N316 := Fr.app N315 Nq316
            show own_Ends prg e below s _ _ _ T316 (mkF m 227 #[.val (.int p0), .val (.int p1), .val (.int p2), .val (.int p3), .val (.int (3 : Int32)), .val (.int (0 : Int32)), .val (.int (0 : Int32)), .val (.int k34), .val (.int k36), .val (.ref a38), .val (.int (3 : Int32))] [(.int (own_own k36 p0 k34 k36 (3 : Int32) (0 : Int32) (0 : Int32))), (.int r315)])
            refine own_iload (pc' := 229) X316 hx (hb hby at_227) rfl rfl ?_
            have lw317 := own_low own_spread k36 p0 k34 k36 (a := 3) (b := 0) (c := 0) (by decide) (by decide) (by decide)
            replace lw317 : ((own_own k36 p0 k34 k36 (3 : Int32) (0 : Int32) (0 : Int32))).toInt ≤ (own_same [own_spread p0, own_spread p0, own_spread p0] (own_spread k36) : Int) := lw317
            have lw317r := G315_0
            replace lw317r : _ ∧ _ ≤ (3 : Int) := lw317r
            refine own_callS (pc' := 232) (y := (⟨"com/example/larder/larder/cache/UseCountsAddPinLaw", "within", "(III)Z"⟩ : MethodName)) (W := 0) (rm := own_room10) (argsL := [(.int r315), (.int (own_own k36 p0 k34 k36 (3 : Int32) (0 : Int32) (0 : Int32))), (.int (3 : Int32))]) (rest := []) X316 hx hZ Kq316 hown (by rw [hml]; rfl) (own_w44 hw) (own_w45 hw) (own_w42 hw) (own_w46 hw) (by decide) (own_rm10 lch Z a0 hw [] r315 (own_own k36 p0 k34 k36 (3 : Int32) (0 : Int32) (0 : Int32)) (3 : Int32) T302.heap n0 (by omega) (show _ ≤ (3 : Int) by omega)) (by decide) (by decide) (by decide) (by decide) (lenOf own_pd5 rfl) rfl (by exact Nat.le_of_eq rfl) (hb hby at_229) rfl ?_
            intro T318 Lc318 v318 X318 hQ318
            obtain ⟨rfl, Nq318, Kq318⟩ := hQ318
            have N318 := Fr.app N316 Nq318
            show own_Ends prg e below s _ _ _ T318 (mkF m 232 #[.val (.int p0), .val (.int p1), .val (.int p2), .val (.int p3), .val (.int (3 : Int32)), .val (.int (0 : Int32)), .val (.int (0 : Int32)), .val (.int k34), .val (.int k36), .val (.ref a38), .val (.int (3 : Int32))] [(.int (1 : Int32))])
            refine own_ifNo (pc' := 235) X318 hx (hb hby at_232) rfl (feq (by decide)).1 ?_
            refine own_iconst (pc' := 236) (z := (1 : Int32)) X318 hx (hb hby at_235) rfl rfl ?_
            refine own_goto (pc' := 240) X318 hx (hb hby at_236) (by decide) (by decide) ?_
            refine own_retN X318 hx hlk hret (by simp) (hb hby at_240) (by decide) (by decide) ?_
            exact ⟨rfl, N318⟩
          · refine own_iload (pc' := 123) X302 hx (hb hby at_121) rfl rfl ?_
            refine own_iconst (pc' := 124) (z := (1 : Int32)) X302 hx (hb hby at_123) rfl rfl ?_
            refine own_icmpNo (pc' := 127) X302 hx (hb hby at_124) rfl (teq (by decide)).2 ?_
            refine own_aload (pc' := 129) X302 hx (hb hby at_127) rfl rfl rfl ?_
            refine own_iload (pc' := 131) X302 hx (hb hby at_129) rfl rfl ?_
            have f319 := (f299.keep Kq302)
            have f320 := (own_stak f300 Kq302 (allS (own_exac f299) (allS (own_arvc G297_2) all0)))
            have f321 := (f301.keep Kq302 (ninS ne40 (ninS ne47 nin0)))
            refine own_callV (pc' := 134) (y := (⟨"com/example/larder/larder/cache/UseCounts", "add", "(I)V"⟩ : MethodName)) (W := 0) (rm := own_room3) (argsL := [(.int k36)]) (rest := []) (b := a38) (C := "com/example/larder/larder/cache/UseCounts") X302 hx hZ rfl hown (by rw [hml]; rfl) f319 (own_w12 hw) (own_w13 hw) (own_w15 hw) (own_w14 hw) (own_w2 hw) (own_w16 hw) (by decide) (own_rm3 lch Z a0 hw [] a38 k36 pa pk b44 bk44 (3 : Int32) l2302 [own_spread p0, own_spread p0, own_spread p0] T302.heap n0 f319 G302_0 F303 G302_2 G302_3 (by simp) (by decide) ge39 ge45 ne48 ne40 ne47 f320 f321) (by decide) (by decide) (by decide) (by decide) (lenOf own_pd6 rfl) rfl (by exact Nat.le_of_eq rfl) (hb hby at_131) rfl ?_
            intro T322 Lc322 v322 X322 hQ322
            obtain ⟨l2322, rfl, Nq322, Kq322, G322_0, G322_1, G322_2, G322_3⟩ := hQ322
            have N322 := Fr.app N302 Nq322
            have F323 : Fld Z T322.heap a38 "com/example/larder/larder/cache/UseCounts" "additions" "I" (.int (4 : Int32)) := G322_1
            replace G322_3 : own_rep l2322 [own_spread k36, own_spread p0, own_spread p0, own_spread p0] := G322_3
            show own_Ends prg e below s _ _ _ T322 (mkF m 134 #[.val (.int p0), .val (.int p1), .val (.int p2), .val (.int p3), .val (.int (3 : Int32)), .val (.int (0 : Int32)), .val (.int (1 : Int32)), .val (.int k34), .val (.int k36), .val (.ref a38), .unset] [])
            refine own_iload (pc' := 136) X322 hx (hb hby at_134) rfl rfl ?_
            refine own_iload (pc' := 138) X322 hx (hb hby at_136) rfl rfl ?_
            refine own_iadd (pc' := 139) (z := (3 : Int32)) X322 hx (hb hby at_138) rfl (by decide) ?_
            refine own_iload (pc' := 141) X322 hx (hb hby at_139) rfl rfl ?_
            refine own_iadd (pc' := 142) (z := (4 : Int32)) X322 hx (hb hby at_141) rfl (by decide) ?_
            refine own_istore (pc' := 144) (l' := #[.val (.int p0), .val (.int p1), .val (.int p2), .val (.int p3), .val (.int (3 : Int32)), .val (.int (0 : Int32)), .val (.int (1 : Int32)), .val (.int k34), .val (.int k36), .val (.ref a38), .val (.int (4 : Int32))]) X322 hx (hb hby at_142) rfl rfl ?_
            refine own_aload (pc' := 146) X322 hx (hb hby at_144) rfl rfl rfl ?_
            refine own_iloadN (pc' := 147) X322 hx (hb hby at_146) rfl rfl ?_
            have f324 := (f319.keep Kq322)
            have f325 := (own_stak f320 Kq322 (allS (own_exac f319) (allS (own_arvc G302_2) all0)))
            have f326 := (f321.keep Kq322 (ninS ne40 (ninS ne47 nin0)))
            refine own_callV (pc' := 150) (y := (⟨"com/example/larder/larder/cache/UseCounts", "of", "(I)I"⟩ : MethodName)) (W := 0) (rm := own_room7) (argsL := [(.int p0)]) (rest := []) (b := a38) (C := "com/example/larder/larder/cache/UseCounts") X322 hx hZ rfl hown (by rw [hml]; rfl) f324 (own_w31 hw) (own_w32 hw) (own_w34 hw) (own_w33 hw) (own_w2 hw) (own_w35 hw) (by decide) (own_rm7 lch Z a0 hw [] a38 p0 pa pk b44 bk44 (4 : Int32) l2322 [own_spread k36, own_spread p0, own_spread p0, own_spread p0] T322.heap n0 f324 G322_0 F323 G322_2 G322_3 (by simp) (by decide) ge39 ge45 ne48 ne40 ne47 f325 f326) (by decide) (by decide) (by decide) (by decide) (lenOf own_pd0 rfl) rfl (by exact Nat.le_of_eq rfl) (hb hby at_147) rfl ?_
            intro T327 Lc327 v327 X327 hQ327
            obtain ⟨r327, rfl, Nq327, Kq327, G327_0⟩ := hQ327
            have N327 := Fr.app N322 Nq327
            show own_Ends prg e below s _ _ _ T327 (mkF m 150 #[.val (.int p0), .val (.int p1), .val (.int p2), .val (.int p3), .val (.int (3 : Int32)), .val (.int (0 : Int32)), .val (.int (1 : Int32)), .val (.int k34), .val (.int k36), .val (.ref a38), .val (.int (4 : Int32))] [(.int r327)])
            refine own_iloadN (pc' := 151) X327 hx (hb hby at_150) rfl rfl ?_
            refine own_iloadN (pc' := 152) X327 hx (hb hby at_151) rfl rfl ?_
            refine own_iload (pc' := 154) X327 hx (hb hby at_152) rfl rfl ?_
            refine own_iload (pc' := 156) X327 hx (hb hby at_154) rfl rfl ?_
            refine own_iload (pc' := 158) X327 hx (hb hby at_156) rfl rfl ?_
            refine own_iload (pc' := 160) X327 hx (hb hby at_158) rfl rfl ?_
            refine own_iload (pc' := 162) X327 hx (hb hby at_160) rfl rfl ?_
            refine own_callS (pc' := 165) (y := (⟨"com/example/larder/larder/cache/UseCountsAddPinLaw", "own", "(IIIIIII)I"⟩ : MethodName)) (W := 1) (rm := own_room9) (argsL := [(.int p0), (.int p0), (.int k34), (.int k36), (.int (3 : Int32)), (.int (0 : Int32)), (.int (1 : Int32))]) (rest := [(.int r327)]) X327 hx hZ Kq327 hown (by rw [hml]; rfl) (own_w40 hw) (own_w41 hw) (own_w42 hw) (own_w43 hw) (by decide) (own_rm9 lch Z a0 hw [] p0 p0 k34 k36 (3 : Int32) (0 : Int32) (1 : Int32) T322.heap n0) (by decide) (by decide) (by decide) (by decide) (lenOf own_pd4 rfl) rfl (by exact Nat.le_of_eq rfl) (hb hby at_162) rfl ?_
            intro T328 Lc328 v328 X328 hQ328
            obtain ⟨rfl, Nq328, Kq328⟩ := hQ328
            have N328 := Fr.app N327 Nq328
            show own_Ends prg e below s _ _ _ T328 (mkF m 165 #[.val (.int p0), .val (.int p1), .val (.int p2), .val (.int p3), .val (.int (3 : Int32)), .val (.int (0 : Int32)), .val (.int (1 : Int32)), .val (.int k34), .val (.int k36), .val (.ref a38), .val (.int (4 : Int32))] [(.int (own_own p0 p0 k34 k36 (3 : Int32) (0 : Int32) (1 : Int32))), (.int r327)])
            refine own_iload (pc' := 167) X328 hx (hb hby at_165) rfl rfl ?_
            have lw329 := own_low own_spread p0 p0 k34 k36 (a := 3) (b := 0) (c := 1) (by decide) (by decide) (by decide)
            replace lw329 : ((own_own p0 p0 k34 k36 (3 : Int32) (0 : Int32) (1 : Int32))).toInt ≤ (own_same [own_spread k36, own_spread p0, own_spread p0, own_spread p0] (own_spread p0) : Int) := lw329
            have lw329r := G327_0
            replace lw329r : _ ∧ _ ≤ (4 : Int) := lw329r
            refine own_callS (pc' := 170) (y := (⟨"com/example/larder/larder/cache/UseCountsAddPinLaw", "within", "(III)Z"⟩ : MethodName)) (W := 0) (rm := own_room10) (argsL := [(.int r327), (.int (own_own p0 p0 k34 k36 (3 : Int32) (0 : Int32) (1 : Int32))), (.int (4 : Int32))]) (rest := []) X328 hx hZ Kq328 hown (by rw [hml]; rfl) (own_w44 hw) (own_w45 hw) (own_w42 hw) (own_w46 hw) (by decide) (own_rm10 lch Z a0 hw [] r327 (own_own p0 p0 k34 k36 (3 : Int32) (0 : Int32) (1 : Int32)) (4 : Int32) T322.heap n0 (by omega) (show _ ≤ (4 : Int) by omega)) (by decide) (by decide) (by decide) (by decide) (lenOf own_pd5 rfl) rfl (by exact Nat.le_of_eq rfl) (hb hby at_167) rfl ?_
            intro T330 Lc330 v330 X330 hQ330
            obtain ⟨rfl, Nq330, Kq330⟩ := hQ330
            have N330 := Fr.app N328 Nq330
            show own_Ends prg e below s _ _ _ T330 (mkF m 170 #[.val (.int p0), .val (.int p1), .val (.int p2), .val (.int p3), .val (.int (3 : Int32)), .val (.int (0 : Int32)), .val (.int (1 : Int32)), .val (.int k34), .val (.int k36), .val (.ref a38), .val (.int (4 : Int32))] [(.int (1 : Int32))])
            refine own_ifNo (pc' := 173) X330 hx (hb hby at_170) rfl (feq (by decide)).1 ?_
            refine own_aload (pc' := 175) X330 hx (hb hby at_173) rfl rfl rfl ?_
            refine own_iload (pc' := 177) X330 hx (hb hby at_175) rfl rfl ?_
            refine own_callV (pc' := 180) (y := (⟨"com/example/larder/larder/cache/UseCounts", "of", "(I)I"⟩ : MethodName)) (W := 0) (rm := own_room7) (argsL := [(.int k34)]) (rest := []) (b := a38) (C := "com/example/larder/larder/cache/UseCounts") X330 hx hZ Kq330 hown (by rw [hml]; rfl) f324 (own_w31 hw) (own_w32 hw) (own_w34 hw) (own_w33 hw) (own_w2 hw) (own_w35 hw) (by decide) (own_rm7 lch Z a0 hw [] a38 k34 pa pk b44 bk44 (4 : Int32) l2322 [own_spread k36, own_spread p0, own_spread p0, own_spread p0] T322.heap n0 f324 G322_0 F323 G322_2 G322_3 (by simp) (by decide) ge39 ge45 ne48 ne40 ne47 f325 f326) (by decide) (by decide) (by decide) (by decide) (lenOf own_pd0 rfl) rfl (by exact Nat.le_of_eq rfl) (hb hby at_177) rfl ?_
            intro T331 Lc331 v331 X331 hQ331
            obtain ⟨r331, rfl, Nq331, Kq331, G331_0⟩ := hQ331
            have N331 := Fr.app N330 Nq331
            show own_Ends prg e below s _ _ _ T331 (mkF m 180 #[.val (.int p0), .val (.int p1), .val (.int p2), .val (.int p3), .val (.int (3 : Int32)), .val (.int (0 : Int32)), .val (.int (1 : Int32)), .val (.int k34), .val (.int k36), .val (.ref a38), .val (.int (4 : Int32))] [(.int r331)])
            refine own_iload (pc' := 182) X331 hx (hb hby at_180) rfl rfl ?_
            refine own_iloadN (pc' := 183) X331 hx (hb hby at_182) rfl rfl ?_
            refine own_iload (pc' := 185) X331 hx (hb hby at_183) rfl rfl ?_
            refine own_iload (pc' := 187) X331 hx (hb hby at_185) rfl rfl ?_
            refine own_iload (pc' := 189) X331 hx (hb hby at_187) rfl rfl ?_
            refine own_iload (pc' := 191) X331 hx (hb hby at_189) rfl rfl ?_
            refine own_iload (pc' := 193) X331 hx (hb hby at_191) rfl rfl ?_
            refine own_callS (pc' := 196) (y := (⟨"com/example/larder/larder/cache/UseCountsAddPinLaw", "own", "(IIIIIII)I"⟩ : MethodName)) (W := 1) (rm := own_room9) (argsL := [(.int k34), (.int p0), (.int k34), (.int k36), (.int (3 : Int32)), (.int (0 : Int32)), (.int (1 : Int32))]) (rest := [(.int r331)]) X331 hx hZ Kq331 hown (by rw [hml]; rfl) (own_w40 hw) (own_w41 hw) (own_w42 hw) (own_w43 hw) (by decide) (own_rm9 lch Z a0 hw [] k34 p0 k34 k36 (3 : Int32) (0 : Int32) (1 : Int32) T322.heap n0) (by decide) (by decide) (by decide) (by decide) (lenOf own_pd4 rfl) rfl (by exact Nat.le_of_eq rfl) (hb hby at_193) rfl ?_
            intro T332 Lc332 v332 X332 hQ332
            obtain ⟨rfl, Nq332, Kq332⟩ := hQ332
            have N332 := Fr.app N331 Nq332
            show own_Ends prg e below s _ _ _ T332 (mkF m 196 #[.val (.int p0), .val (.int p1), .val (.int p2), .val (.int p3), .val (.int (3 : Int32)), .val (.int (0 : Int32)), .val (.int (1 : Int32)), .val (.int k34), .val (.int k36), .val (.ref a38), .val (.int (4 : Int32))] [(.int (own_own k34 p0 k34 k36 (3 : Int32) (0 : Int32) (1 : Int32))), (.int r331)])
            refine own_iload (pc' := 198) X332 hx (hb hby at_196) rfl rfl ?_
            have lw333 := own_low own_spread k34 p0 k34 k36 (a := 3) (b := 0) (c := 1) (by decide) (by decide) (by decide)
            replace lw333 : ((own_own k34 p0 k34 k36 (3 : Int32) (0 : Int32) (1 : Int32))).toInt ≤ (own_same [own_spread k36, own_spread p0, own_spread p0, own_spread p0] (own_spread k34) : Int) := lw333
            have lw333r := G331_0
            replace lw333r : _ ∧ _ ≤ (4 : Int) := lw333r
            refine own_callS (pc' := 201) (y := (⟨"com/example/larder/larder/cache/UseCountsAddPinLaw", "within", "(III)Z"⟩ : MethodName)) (W := 0) (rm := own_room10) (argsL := [(.int r331), (.int (own_own k34 p0 k34 k36 (3 : Int32) (0 : Int32) (1 : Int32))), (.int (4 : Int32))]) (rest := []) X332 hx hZ Kq332 hown (by rw [hml]; rfl) (own_w44 hw) (own_w45 hw) (own_w42 hw) (own_w46 hw) (by decide) (own_rm10 lch Z a0 hw [] r331 (own_own k34 p0 k34 k36 (3 : Int32) (0 : Int32) (1 : Int32)) (4 : Int32) T322.heap n0 (by omega) (show _ ≤ (4 : Int) by omega)) (by decide) (by decide) (by decide) (by decide) (lenOf own_pd5 rfl) rfl (by exact Nat.le_of_eq rfl) (hb hby at_198) rfl ?_
            intro T334 Lc334 v334 X334 hQ334
            obtain ⟨rfl, Nq334, Kq334⟩ := hQ334
            have N334 := Fr.app N332 Nq334
            show own_Ends prg e below s _ _ _ T334 (mkF m 201 #[.val (.int p0), .val (.int p1), .val (.int p2), .val (.int p3), .val (.int (3 : Int32)), .val (.int (0 : Int32)), .val (.int (1 : Int32)), .val (.int k34), .val (.int k36), .val (.ref a38), .val (.int (4 : Int32))] [(.int (1 : Int32))])
            refine own_ifNo (pc' := 204) X334 hx (hb hby at_201) rfl (feq (by decide)).1 ?_
            refine own_aload (pc' := 206) X334 hx (hb hby at_204) rfl rfl rfl ?_
            refine own_iload (pc' := 208) X334 hx (hb hby at_206) rfl rfl ?_
            refine own_callV (pc' := 211) (y := (⟨"com/example/larder/larder/cache/UseCounts", "of", "(I)I"⟩ : MethodName)) (W := 0) (rm := own_room7) (argsL := [(.int k36)]) (rest := []) (b := a38) (C := "com/example/larder/larder/cache/UseCounts") X334 hx hZ Kq334 hown (by rw [hml]; rfl) f324 (own_w31 hw) (own_w32 hw) (own_w34 hw) (own_w33 hw) (own_w2 hw) (own_w35 hw) (by decide) (own_rm7 lch Z a0 hw [] a38 k36 pa pk b44 bk44 (4 : Int32) l2322 [own_spread k36, own_spread p0, own_spread p0, own_spread p0] T322.heap n0 f324 G322_0 F323 G322_2 G322_3 (by simp) (by decide) ge39 ge45 ne48 ne40 ne47 f325 f326) (by decide) (by decide) (by decide) (by decide) (lenOf own_pd0 rfl) rfl (by exact Nat.le_of_eq rfl) (hb hby at_208) rfl ?_
            intro T335 Lc335 v335 X335 hQ335
            obtain ⟨r335, rfl, Nq335, Kq335, G335_0⟩ := hQ335
            have N335 := Fr.app N334 Nq335
            show own_Ends prg e below s _ _ _ T335 (mkF m 211 #[.val (.int p0), .val (.int p1), .val (.int p2), .val (.int p3), .val (.int (3 : Int32)), .val (.int (0 : Int32)), .val (.int (1 : Int32)), .val (.int k34), .val (.int k36), .val (.ref a38), .val (.int (4 : Int32))] [(.int r335)])
            refine own_iload (pc' := 213) X335 hx (hb hby at_211) rfl rfl ?_
            refine own_iloadN (pc' := 214) X335 hx (hb hby at_213) rfl rfl ?_
            refine own_iload (pc' := 216) X335 hx (hb hby at_214) rfl rfl ?_
            refine own_iload (pc' := 218) X335 hx (hb hby at_216) rfl rfl ?_
            refine own_iload (pc' := 220) X335 hx (hb hby at_218) rfl rfl ?_
            refine own_iload (pc' := 222) X335 hx (hb hby at_220) rfl rfl ?_
            refine own_iload (pc' := 224) X335 hx (hb hby at_222) rfl rfl ?_
            refine own_callS (pc' := 227) (y := (⟨"com/example/larder/larder/cache/UseCountsAddPinLaw", "own", "(IIIIIII)I"⟩ : MethodName)) (W := 1) (rm := own_room9) (argsL := [(.int k36), (.int p0), (.int k34), (.int k36), (.int (3 : Int32)), (.int (0 : Int32)), (.int (1 : Int32))]) (rest := [(.int r335)]) X335 hx hZ Kq335 hown (by rw [hml]; rfl) (own_w40 hw) (own_w41 hw) (own_w42 hw) (own_w43 hw) (by decide) (own_rm9 lch Z a0 hw [] k36 p0 k34 k36 (3 : Int32) (0 : Int32) (1 : Int32) T322.heap n0) (by decide) (by decide) (by decide) (by decide) (lenOf own_pd4 rfl) rfl (by exact Nat.le_of_eq rfl) (hb hby at_224) rfl ?_
            intro T336 Lc336 v336 X336 hQ336
            obtain ⟨rfl, Nq336, Kq336⟩ := hQ336
            have N336 := Fr.app N335 Nq336
            show own_Ends prg e below s _ _ _ T336 (mkF m 227 #[.val (.int p0), .val (.int p1), .val (.int p2), .val (.int p3), .val (.int (3 : Int32)), .val (.int (0 : Int32)), .val (.int (1 : Int32)), .val (.int k34), .val (.int k36), .val (.ref a38), .val (.int (4 : Int32))] [(.int (own_own k36 p0 k34 k36 (3 : Int32) (0 : Int32) (1 : Int32))), (.int r335)])
            refine own_iload (pc' := 229) X336 hx (hb hby at_227) rfl rfl ?_
            have lw337 := own_low own_spread k36 p0 k34 k36 (a := 3) (b := 0) (c := 1) (by decide) (by decide) (by decide)
            replace lw337 : ((own_own k36 p0 k34 k36 (3 : Int32) (0 : Int32) (1 : Int32))).toInt ≤ (own_same [own_spread k36, own_spread p0, own_spread p0, own_spread p0] (own_spread k36) : Int) := lw337
            have lw337r := G335_0
            replace lw337r : _ ∧ _ ≤ (4 : Int) := lw337r
            refine own_callS (pc' := 232) (y := (⟨"com/example/larder/larder/cache/UseCountsAddPinLaw", "within", "(III)Z"⟩ : MethodName)) (W := 0) (rm := own_room10) (argsL := [(.int r335), (.int (own_own k36 p0 k34 k36 (3 : Int32) (0 : Int32) (1 : Int32))), (.int (4 : Int32))]) (rest := []) X336 hx hZ Kq336 hown (by rw [hml]; rfl) (own_w44 hw) (own_w45 hw) (own_w42 hw) (own_w46 hw) (by decide) (own_rm10 lch Z a0 hw [] r335 (own_own k36 p0 k34 k36 (3 : Int32) (0 : Int32) (1 : Int32)) (4 : Int32) T322.heap n0 (by omega) (show _ ≤ (4 : Int) by omega)) (by decide) (by decide) (by decide) (by decide) (lenOf own_pd5 rfl) rfl (by exact Nat.le_of_eq rfl) (hb hby at_229) rfl ?_
            intro T338 Lc338 v338 X338 hQ338
            obtain ⟨rfl, Nq338, Kq338⟩ := hQ338
            have N338 := Fr.app N336 Nq338
            show own_Ends prg e below s _ _ _ T338 (mkF m 232 #[.val (.int p0), .val (.int p1), .val (.int p2), .val (.int p3), .val (.int (3 : Int32)), .val (.int (0 : Int32)), .val (.int (1 : Int32)), .val (.int k34), .val (.int k36), .val (.ref a38), .val (.int (4 : Int32))] [(.int (1 : Int32))])
            refine own_ifNo (pc' := 235) X338 hx (hb hby at_232) rfl (feq (by decide)).1 ?_
            refine own_iconst (pc' := 236) (z := (1 : Int32)) X338 hx (hb hby at_235) rfl rfl ?_
            refine own_goto (pc' := 240) X338 hx (hb hby at_236) (by decide) (by decide) ?_
            refine own_retN X338 hx hlk hret (by simp) (hb hby at_240) (by decide) (by decide) ?_
            exact ⟨rfl, N338⟩
        · refine own_iload (pc' := 110) X302 hx (hb hby at_108) rfl rfl ?_
          refine own_iconst (pc' := 111) (z := (1 : Int32)) X302 hx (hb hby at_110) rfl rfl ?_
          refine own_icmpNo (pc' := 114) X302 hx (hb hby at_111) rfl (teq (by decide)).2 ?_
          refine own_aload (pc' := 116) X302 hx (hb hby at_114) rfl rfl rfl ?_
          refine own_iload (pc' := 118) X302 hx (hb hby at_116) rfl rfl ?_
          have f339 := (f299.keep Kq302)
          have f340 := (own_stak f300 Kq302 (allS (own_exac f299) (allS (own_arvc G297_2) all0)))
          have f341 := (f301.keep Kq302 (ninS ne40 (ninS ne47 nin0)))
          refine own_callV (pc' := 121) (y := (⟨"com/example/larder/larder/cache/UseCounts", "add", "(I)V"⟩ : MethodName)) (W := 0) (rm := own_room3) (argsL := [(.int k34)]) (rest := []) (b := a38) (C := "com/example/larder/larder/cache/UseCounts") X302 hx hZ rfl hown (by rw [hml]; rfl) f339 (own_w12 hw) (own_w13 hw) (own_w15 hw) (own_w14 hw) (own_w2 hw) (own_w16 hw) (by decide) (own_rm3 lch Z a0 hw [] a38 k34 pa pk b44 bk44 (3 : Int32) l2302 [own_spread p0, own_spread p0, own_spread p0] T302.heap n0 f339 G302_0 F303 G302_2 G302_3 (by simp) (by decide) ge39 ge45 ne48 ne40 ne47 f340 f341) (by decide) (by decide) (by decide) (by decide) (lenOf own_pd6 rfl) rfl (by exact Nat.le_of_eq rfl) (hb hby at_118) rfl ?_
          intro T342 Lc342 v342 X342 hQ342
          obtain ⟨l2342, rfl, Nq342, Kq342, G342_0, G342_1, G342_2, G342_3⟩ := hQ342
          have N342 := Fr.app N302 Nq342
          have F343 : Fld Z T342.heap a38 "com/example/larder/larder/cache/UseCounts" "additions" "I" (.int (4 : Int32)) := G342_1
          replace G342_3 : own_rep l2342 [own_spread k34, own_spread p0, own_spread p0, own_spread p0] := G342_3
          show own_Ends prg e below s _ _ _ T342 (mkF m 121 #[.val (.int p0), .val (.int p1), .val (.int p2), .val (.int p3), .val (.int (3 : Int32)), .val (.int (1 : Int32)), .val (.int c33), .val (.int k34), .val (.int k36), .val (.ref a38), .unset] [])
          rcases own_and1 hc33 with rfl | rfl
          · refine own_iload (pc' := 123) X342 hx (hb hby at_121) rfl rfl ?_
            refine own_iconst (pc' := 124) (z := (1 : Int32)) X342 hx (hb hby at_123) rfl rfl ?_
            refine own_icmpYes (pc' := 134) X342 hx (hb hby at_124) (feq (by decide)).2 (by decide) (by decide) ?_
            refine own_iload (pc' := 136) X342 hx (hb hby at_134) rfl rfl ?_
            refine own_iload (pc' := 138) X342 hx (hb hby at_136) rfl rfl ?_
            refine own_iadd (pc' := 139) (z := (4 : Int32)) X342 hx (hb hby at_138) rfl (by decide) ?_
            refine own_iload (pc' := 141) X342 hx (hb hby at_139) rfl rfl ?_
            refine own_iadd (pc' := 142) (z := (4 : Int32)) X342 hx (hb hby at_141) rfl (by decide) ?_
            refine own_istore (pc' := 144) (l' := #[.val (.int p0), .val (.int p1), .val (.int p2), .val (.int p3), .val (.int (3 : Int32)), .val (.int (1 : Int32)), .val (.int (0 : Int32)), .val (.int k34), .val (.int k36), .val (.ref a38), .val (.int (4 : Int32))]) X342 hx (hb hby at_142) rfl rfl ?_
            refine own_aload (pc' := 146) X342 hx (hb hby at_144) rfl rfl rfl ?_
            refine own_iloadN (pc' := 147) X342 hx (hb hby at_146) rfl rfl ?_
            have f344 := (f339.keep Kq342)
            have f345 := (own_stak f340 Kq342 (allS (own_exac f339) (allS (own_arvc G302_2) all0)))
            have f346 := (f341.keep Kq342 (ninS ne40 (ninS ne47 nin0)))
            refine own_callV (pc' := 150) (y := (⟨"com/example/larder/larder/cache/UseCounts", "of", "(I)I"⟩ : MethodName)) (W := 0) (rm := own_room7) (argsL := [(.int p0)]) (rest := []) (b := a38) (C := "com/example/larder/larder/cache/UseCounts") X342 hx hZ rfl hown (by rw [hml]; rfl) f344 (own_w31 hw) (own_w32 hw) (own_w34 hw) (own_w33 hw) (own_w2 hw) (own_w35 hw) (by decide) (own_rm7 lch Z a0 hw [] a38 p0 pa pk b44 bk44 (4 : Int32) l2342 [own_spread k34, own_spread p0, own_spread p0, own_spread p0] T342.heap n0 f344 G342_0 F343 G342_2 G342_3 (by simp) (by decide) ge39 ge45 ne48 ne40 ne47 f345 f346) (by decide) (by decide) (by decide) (by decide) (lenOf own_pd0 rfl) rfl (by exact Nat.le_of_eq rfl) (hb hby at_147) rfl ?_
            intro T347 Lc347 v347 X347 hQ347
            obtain ⟨r347, rfl, Nq347, Kq347, G347_0⟩ := hQ347
            have N347 := Fr.app N342 Nq347
            show own_Ends prg e below s _ _ _ T347 (mkF m 150 #[.val (.int p0), .val (.int p1), .val (.int p2), .val (.int p3), .val (.int (3 : Int32)), .val (.int (1 : Int32)), .val (.int (0 : Int32)), .val (.int k34), .val (.int k36), .val (.ref a38), .val (.int (4 : Int32))] [(.int r347)])
            refine own_iloadN (pc' := 151) X347 hx (hb hby at_150) rfl rfl ?_
            refine own_iloadN (pc' := 152) X347 hx (hb hby at_151) rfl rfl ?_
            refine own_iload (pc' := 154) X347 hx (hb hby at_152) rfl rfl ?_
            refine own_iload (pc' := 156) X347 hx (hb hby at_154) rfl rfl ?_
            refine own_iload (pc' := 158) X347 hx (hb hby at_156) rfl rfl ?_
            refine own_iload (pc' := 160) X347 hx (hb hby at_158) rfl rfl ?_
            refine own_iload (pc' := 162) X347 hx (hb hby at_160) rfl rfl ?_
            refine own_callS (pc' := 165) (y := (⟨"com/example/larder/larder/cache/UseCountsAddPinLaw", "own", "(IIIIIII)I"⟩ : MethodName)) (W := 1) (rm := own_room9) (argsL := [(.int p0), (.int p0), (.int k34), (.int k36), (.int (3 : Int32)), (.int (1 : Int32)), (.int (0 : Int32))]) (rest := [(.int r347)]) X347 hx hZ Kq347 hown (by rw [hml]; rfl) (own_w40 hw) (own_w41 hw) (own_w42 hw) (own_w43 hw) (by decide) (own_rm9 lch Z a0 hw [] p0 p0 k34 k36 (3 : Int32) (1 : Int32) (0 : Int32) T342.heap n0) (by decide) (by decide) (by decide) (by decide) (lenOf own_pd4 rfl) rfl (by exact Nat.le_of_eq rfl) (hb hby at_162) rfl ?_
            intro T348 Lc348 v348 X348 hQ348
            obtain ⟨rfl, Nq348, Kq348⟩ := hQ348
            have N348 := Fr.app N347 Nq348
            show own_Ends prg e below s _ _ _ T348 (mkF m 165 #[.val (.int p0), .val (.int p1), .val (.int p2), .val (.int p3), .val (.int (3 : Int32)), .val (.int (1 : Int32)), .val (.int (0 : Int32)), .val (.int k34), .val (.int k36), .val (.ref a38), .val (.int (4 : Int32))] [(.int (own_own p0 p0 k34 k36 (3 : Int32) (1 : Int32) (0 : Int32))), (.int r347)])
            refine own_iload (pc' := 167) X348 hx (hb hby at_165) rfl rfl ?_
            have lw349 := own_low own_spread p0 p0 k34 k36 (a := 3) (b := 1) (c := 0) (by decide) (by decide) (by decide)
            replace lw349 : ((own_own p0 p0 k34 k36 (3 : Int32) (1 : Int32) (0 : Int32))).toInt ≤ (own_same [own_spread k34, own_spread p0, own_spread p0, own_spread p0] (own_spread p0) : Int) := lw349
            have lw349r := G347_0
            replace lw349r : _ ∧ _ ≤ (4 : Int) := lw349r
            refine own_callS (pc' := 170) (y := (⟨"com/example/larder/larder/cache/UseCountsAddPinLaw", "within", "(III)Z"⟩ : MethodName)) (W := 0) (rm := own_room10) (argsL := [(.int r347), (.int (own_own p0 p0 k34 k36 (3 : Int32) (1 : Int32) (0 : Int32))), (.int (4 : Int32))]) (rest := []) X348 hx hZ Kq348 hown (by rw [hml]; rfl) (own_w44 hw) (own_w45 hw) (own_w42 hw) (own_w46 hw) (by decide) (own_rm10 lch Z a0 hw [] r347 (own_own p0 p0 k34 k36 (3 : Int32) (1 : Int32) (0 : Int32)) (4 : Int32) T342.heap n0 (by omega) (show _ ≤ (4 : Int) by omega)) (by decide) (by decide) (by decide) (by decide) (lenOf own_pd5 rfl) rfl (by exact Nat.le_of_eq rfl) (hb hby at_167) rfl ?_
            intro T350 Lc350 v350 X350 hQ350
            obtain ⟨rfl, Nq350, Kq350⟩ := hQ350
            have N350 := Fr.app N348 Nq350
            show own_Ends prg e below s _ _ _ T350 (mkF m 170 #[.val (.int p0), .val (.int p1), .val (.int p2), .val (.int p3), .val (.int (3 : Int32)), .val (.int (1 : Int32)), .val (.int (0 : Int32)), .val (.int k34), .val (.int k36), .val (.ref a38), .val (.int (4 : Int32))] [(.int (1 : Int32))])
            refine own_ifNo (pc' := 173) X350 hx (hb hby at_170) rfl (feq (by decide)).1 ?_
            refine own_aload (pc' := 175) X350 hx (hb hby at_173) rfl rfl rfl ?_
            refine own_iload (pc' := 177) X350 hx (hb hby at_175) rfl rfl ?_
            refine own_callV (pc' := 180) (y := (⟨"com/example/larder/larder/cache/UseCounts", "of", "(I)I"⟩ : MethodName)) (W := 0) (rm := own_room7) (argsL := [(.int k34)]) (rest := []) (b := a38) (C := "com/example/larder/larder/cache/UseCounts") X350 hx hZ Kq350 hown (by rw [hml]; rfl) f344 (own_w31 hw) (own_w32 hw) (own_w34 hw) (own_w33 hw) (own_w2 hw) (own_w35 hw) (by decide) (own_rm7 lch Z a0 hw [] a38 k34 pa pk b44 bk44 (4 : Int32) l2342 [own_spread k34, own_spread p0, own_spread p0, own_spread p0] T342.heap n0 f344 G342_0 F343 G342_2 G342_3 (by simp) (by decide) ge39 ge45 ne48 ne40 ne47 f345 f346) (by decide) (by decide) (by decide) (by decide) (lenOf own_pd0 rfl) rfl (by exact Nat.le_of_eq rfl) (hb hby at_177) rfl ?_
            intro T351 Lc351 v351 X351 hQ351
            obtain ⟨r351, rfl, Nq351, Kq351, G351_0⟩ := hQ351
            have N351 := Fr.app N350 Nq351
            show own_Ends prg e below s _ _ _ T351 (mkF m 180 #[.val (.int p0), .val (.int p1), .val (.int p2), .val (.int p3), .val (.int (3 : Int32)), .val (.int (1 : Int32)), .val (.int (0 : Int32)), .val (.int k34), .val (.int k36), .val (.ref a38), .val (.int (4 : Int32))] [(.int r351)])
            refine own_iload (pc' := 182) X351 hx (hb hby at_180) rfl rfl ?_
            refine own_iloadN (pc' := 183) X351 hx (hb hby at_182) rfl rfl ?_
            refine own_iload (pc' := 185) X351 hx (hb hby at_183) rfl rfl ?_
            refine own_iload (pc' := 187) X351 hx (hb hby at_185) rfl rfl ?_
            refine own_iload (pc' := 189) X351 hx (hb hby at_187) rfl rfl ?_
            refine own_iload (pc' := 191) X351 hx (hb hby at_189) rfl rfl ?_
            refine own_iload (pc' := 193) X351 hx (hb hby at_191) rfl rfl ?_
            refine own_callS (pc' := 196) (y := (⟨"com/example/larder/larder/cache/UseCountsAddPinLaw", "own", "(IIIIIII)I"⟩ : MethodName)) (W := 1) (rm := own_room9) (argsL := [(.int k34), (.int p0), (.int k34), (.int k36), (.int (3 : Int32)), (.int (1 : Int32)), (.int (0 : Int32))]) (rest := [(.int r351)]) X351 hx hZ Kq351 hown (by rw [hml]; rfl) (own_w40 hw) (own_w41 hw) (own_w42 hw) (own_w43 hw) (by decide) (own_rm9 lch Z a0 hw [] k34 p0 k34 k36 (3 : Int32) (1 : Int32) (0 : Int32) T342.heap n0) (by decide) (by decide) (by decide) (by decide) (lenOf own_pd4 rfl) rfl (by exact Nat.le_of_eq rfl) (hb hby at_193) rfl ?_
            intro T352 Lc352 v352 X352 hQ352
            obtain ⟨rfl, Nq352, Kq352⟩ := hQ352
            have N352 := Fr.app N351 Nq352
            show own_Ends prg e below s _ _ _ T352 (mkF m 196 #[.val (.int p0), .val (.int p1), .val (.int p2), .val (.int p3), .val (.int (3 : Int32)), .val (.int (1 : Int32)), .val (.int (0 : Int32)), .val (.int k34), .val (.int k36), .val (.ref a38), .val (.int (4 : Int32))] [(.int (own_own k34 p0 k34 k36 (3 : Int32) (1 : Int32) (0 : Int32))), (.int r351)])
            refine own_iload (pc' := 198) X352 hx (hb hby at_196) rfl rfl ?_
            have lw353 := own_low own_spread k34 p0 k34 k36 (a := 3) (b := 1) (c := 0) (by decide) (by decide) (by decide)
            replace lw353 : ((own_own k34 p0 k34 k36 (3 : Int32) (1 : Int32) (0 : Int32))).toInt ≤ (own_same [own_spread k34, own_spread p0, own_spread p0, own_spread p0] (own_spread k34) : Int) := lw353
            have lw353r := G351_0
            replace lw353r : _ ∧ _ ≤ (4 : Int) := lw353r
            refine own_callS (pc' := 201) (y := (⟨"com/example/larder/larder/cache/UseCountsAddPinLaw", "within", "(III)Z"⟩ : MethodName)) (W := 0) (rm := own_room10) (argsL := [(.int r351), (.int (own_own k34 p0 k34 k36 (3 : Int32) (1 : Int32) (0 : Int32))), (.int (4 : Int32))]) (rest := []) X352 hx hZ Kq352 hown (by rw [hml]; rfl) (own_w44 hw) (own_w45 hw) (own_w42 hw) (own_w46 hw) (by decide) (own_rm10 lch Z a0 hw [] r351 (own_own k34 p0 k34 k36 (3 : Int32) (1 : Int32) (0 : Int32)) (4 : Int32) T342.heap n0 (by omega) (show _ ≤ (4 : Int) by omega)) (by decide) (by decide) (by decide) (by decide) (lenOf own_pd5 rfl) rfl (by exact Nat.le_of_eq rfl) (hb hby at_198) rfl ?_
            intro T354 Lc354 v354 X354 hQ354
            obtain ⟨rfl, Nq354, Kq354⟩ := hQ354
            have N354 := Fr.app N352 Nq354
            show own_Ends prg e below s _ _ _ T354 (mkF m 201 #[.val (.int p0), .val (.int p1), .val (.int p2), .val (.int p3), .val (.int (3 : Int32)), .val (.int (1 : Int32)), .val (.int (0 : Int32)), .val (.int k34), .val (.int k36), .val (.ref a38), .val (.int (4 : Int32))] [(.int (1 : Int32))])
            refine own_ifNo (pc' := 204) X354 hx (hb hby at_201) rfl (feq (by decide)).1 ?_
            refine own_aload (pc' := 206) X354 hx (hb hby at_204) rfl rfl rfl ?_
            refine own_iload (pc' := 208) X354 hx (hb hby at_206) rfl rfl ?_
            refine own_callV (pc' := 211) (y := (⟨"com/example/larder/larder/cache/UseCounts", "of", "(I)I"⟩ : MethodName)) (W := 0) (rm := own_room7) (argsL := [(.int k36)]) (rest := []) (b := a38) (C := "com/example/larder/larder/cache/UseCounts") X354 hx hZ Kq354 hown (by rw [hml]; rfl) f344 (own_w31 hw) (own_w32 hw) (own_w34 hw) (own_w33 hw) (own_w2 hw) (own_w35 hw) (by decide) (own_rm7 lch Z a0 hw [] a38 k36 pa pk b44 bk44 (4 : Int32) l2342 [own_spread k34, own_spread p0, own_spread p0, own_spread p0] T342.heap n0 f344 G342_0 F343 G342_2 G342_3 (by simp) (by decide) ge39 ge45 ne48 ne40 ne47 f345 f346) (by decide) (by decide) (by decide) (by decide) (lenOf own_pd0 rfl) rfl (by exact Nat.le_of_eq rfl) (hb hby at_208) rfl ?_
            intro T355 Lc355 v355 X355 hQ355
            obtain ⟨r355, rfl, Nq355, Kq355, G355_0⟩ := hQ355
            have N355 := Fr.app N354 Nq355
            show own_Ends prg e below s _ _ _ T355 (mkF m 211 #[.val (.int p0), .val (.int p1), .val (.int p2), .val (.int p3), .val (.int (3 : Int32)), .val (.int (1 : Int32)), .val (.int (0 : Int32)), .val (.int k34), .val (.int k36), .val (.ref a38), .val (.int (4 : Int32))] [(.int r355)])
            refine own_iload (pc' := 213) X355 hx (hb hby at_211) rfl rfl ?_
            refine own_iloadN (pc' := 214) X355 hx (hb hby at_213) rfl rfl ?_
            refine own_iload (pc' := 216) X355 hx (hb hby at_214) rfl rfl ?_
            refine own_iload (pc' := 218) X355 hx (hb hby at_216) rfl rfl ?_
            refine own_iload (pc' := 220) X355 hx (hb hby at_218) rfl rfl ?_
            refine own_iload (pc' := 222) X355 hx (hb hby at_220) rfl rfl ?_
            refine own_iload (pc' := 224) X355 hx (hb hby at_222) rfl rfl ?_
            refine own_callS (pc' := 227) (y := (⟨"com/example/larder/larder/cache/UseCountsAddPinLaw", "own", "(IIIIIII)I"⟩ : MethodName)) (W := 1) (rm := own_room9) (argsL := [(.int k36), (.int p0), (.int k34), (.int k36), (.int (3 : Int32)), (.int (1 : Int32)), (.int (0 : Int32))]) (rest := [(.int r355)]) X355 hx hZ Kq355 hown (by rw [hml]; rfl) (own_w40 hw) (own_w41 hw) (own_w42 hw) (own_w43 hw) (by decide) (own_rm9 lch Z a0 hw [] k36 p0 k34 k36 (3 : Int32) (1 : Int32) (0 : Int32) T342.heap n0) (by decide) (by decide) (by decide) (by decide) (lenOf own_pd4 rfl) rfl (by exact Nat.le_of_eq rfl) (hb hby at_224) rfl ?_
            intro T356 Lc356 v356 X356 hQ356
            obtain ⟨rfl, Nq356, Kq356⟩ := hQ356
            have N356 := Fr.app N355 Nq356
            show own_Ends prg e below s _ _ _ T356 (mkF m 227 #[.val (.int p0), .val (.int p1), .val (.int p2), .val (.int p3), .val (.int (3 : Int32)), .val (.int (1 : Int32)), .val (.int (0 : Int32)), .val (.int k34), .val (.int k36), .val (.ref a38), .val (.int (4 : Int32))] [(.int (own_own k36 p0 k34 k36 (3 : Int32) (1 : Int32) (0 : Int32))), (.int r355)])
            refine own_iload (pc' := 229) X356 hx (hb hby at_227) rfl rfl ?_
            have lw357 := own_low own_spread k36 p0 k34 k36 (a := 3) (b := 1) (c := 0) (by decide) (by decide) (by decide)
            replace lw357 : ((own_own k36 p0 k34 k36 (3 : Int32) (1 : Int32) (0 : Int32))).toInt ≤ (own_same [own_spread k34, own_spread p0, own_spread p0, own_spread p0] (own_spread k36) : Int) := lw357
            have lw357r := G355_0
            replace lw357r : _ ∧ _ ≤ (4 : Int) := lw357r
            refine own_callS (pc' := 232) (y := (⟨"com/example/larder/larder/cache/UseCountsAddPinLaw", "within", "(III)Z"⟩ : MethodName)) (W := 0) (rm := own_room10) (argsL := [(.int r355), (.int (own_own k36 p0 k34 k36 (3 : Int32) (1 : Int32) (0 : Int32))), (.int (4 : Int32))]) (rest := []) X356 hx hZ Kq356 hown (by rw [hml]; rfl) (own_w44 hw) (own_w45 hw) (own_w42 hw) (own_w46 hw) (by decide) (own_rm10 lch Z a0 hw [] r355 (own_own k36 p0 k34 k36 (3 : Int32) (1 : Int32) (0 : Int32)) (4 : Int32) T342.heap n0 (by omega) (show _ ≤ (4 : Int) by omega)) (by decide) (by decide) (by decide) (by decide) (lenOf own_pd5 rfl) rfl (by exact Nat.le_of_eq rfl) (hb hby at_229) rfl ?_
            intro T358 Lc358 v358 X358 hQ358
            obtain ⟨rfl, Nq358, Kq358⟩ := hQ358
            have N358 := Fr.app N356 Nq358
            show own_Ends prg e below s _ _ _ T358 (mkF m 232 #[.val (.int p0), .val (.int p1), .val (.int p2), .val (.int p3), .val (.int (3 : Int32)), .val (.int (1 : Int32)), .val (.int (0 : Int32)), .val (.int k34), .val (.int k36), .val (.ref a38), .val (.int (4 : Int32))] [(.int (1 : Int32))])
            refine own_ifNo (pc' := 235) X358 hx (hb hby at_232) rfl (feq (by decide)).1 ?_
            refine own_iconst (pc' := 236) (z := (1 : Int32)) X358 hx (hb hby at_235) rfl rfl ?_
            refine own_goto (pc' := 240) X358 hx (hb hby at_236) (by decide) (by decide) ?_
            refine own_retN X358 hx hlk hret (by simp) (hb hby at_240) (by decide) (by decide) ?_
            exact ⟨rfl, N358⟩
          · refine own_iload (pc' := 123) X342 hx (hb hby at_121) rfl rfl ?_
            refine own_iconst (pc' := 124) (z := (1 : Int32)) X342 hx (hb hby at_123) rfl rfl ?_
            refine own_icmpNo (pc' := 127) X342 hx (hb hby at_124) rfl (teq (by decide)).2 ?_
            refine own_aload (pc' := 129) X342 hx (hb hby at_127) rfl rfl rfl ?_
            refine own_iload (pc' := 131) X342 hx (hb hby at_129) rfl rfl ?_
            have f359 := (f339.keep Kq342)
            have f360 := (own_stak f340 Kq342 (allS (own_exac f339) (allS (own_arvc G302_2) all0)))
            have f361 := (f341.keep Kq342 (ninS ne40 (ninS ne47 nin0)))
            refine own_callV (pc' := 134) (y := (⟨"com/example/larder/larder/cache/UseCounts", "add", "(I)V"⟩ : MethodName)) (W := 0) (rm := own_room3) (argsL := [(.int k36)]) (rest := []) (b := a38) (C := "com/example/larder/larder/cache/UseCounts") X342 hx hZ rfl hown (by rw [hml]; rfl) f359 (own_w12 hw) (own_w13 hw) (own_w15 hw) (own_w14 hw) (own_w2 hw) (own_w16 hw) (by decide) (own_rm3 lch Z a0 hw [] a38 k36 pa pk b44 bk44 (4 : Int32) l2342 [own_spread k34, own_spread p0, own_spread p0, own_spread p0] T342.heap n0 f359 G342_0 F343 G342_2 G342_3 (by simp) (by decide) ge39 ge45 ne48 ne40 ne47 f360 f361) (by decide) (by decide) (by decide) (by decide) (lenOf own_pd6 rfl) rfl (by exact Nat.le_of_eq rfl) (hb hby at_131) rfl ?_
            intro T362 Lc362 v362 X362 hQ362
            obtain ⟨l2362, rfl, Nq362, Kq362, G362_0, G362_1, G362_2, G362_3⟩ := hQ362
            have N362 := Fr.app N342 Nq362
            have F363 : Fld Z T362.heap a38 "com/example/larder/larder/cache/UseCounts" "additions" "I" (.int (5 : Int32)) := G362_1
            replace G362_3 : own_rep l2362 [own_spread k36, own_spread k34, own_spread p0, own_spread p0, own_spread p0] := G362_3
            show own_Ends prg e below s _ _ _ T362 (mkF m 134 #[.val (.int p0), .val (.int p1), .val (.int p2), .val (.int p3), .val (.int (3 : Int32)), .val (.int (1 : Int32)), .val (.int (1 : Int32)), .val (.int k34), .val (.int k36), .val (.ref a38), .unset] [])
            refine own_iload (pc' := 136) X362 hx (hb hby at_134) rfl rfl ?_
            refine own_iload (pc' := 138) X362 hx (hb hby at_136) rfl rfl ?_
            refine own_iadd (pc' := 139) (z := (4 : Int32)) X362 hx (hb hby at_138) rfl (by decide) ?_
            refine own_iload (pc' := 141) X362 hx (hb hby at_139) rfl rfl ?_
            refine own_iadd (pc' := 142) (z := (5 : Int32)) X362 hx (hb hby at_141) rfl (by decide) ?_
            refine own_istore (pc' := 144) (l' := #[.val (.int p0), .val (.int p1), .val (.int p2), .val (.int p3), .val (.int (3 : Int32)), .val (.int (1 : Int32)), .val (.int (1 : Int32)), .val (.int k34), .val (.int k36), .val (.ref a38), .val (.int (5 : Int32))]) X362 hx (hb hby at_142) rfl rfl ?_
            refine own_aload (pc' := 146) X362 hx (hb hby at_144) rfl rfl rfl ?_
            refine own_iloadN (pc' := 147) X362 hx (hb hby at_146) rfl rfl ?_
            have f364 := (f359.keep Kq362)
            have f365 := (own_stak f360 Kq362 (allS (own_exac f359) (allS (own_arvc G342_2) all0)))
            have f366 := (f361.keep Kq362 (ninS ne40 (ninS ne47 nin0)))
            refine own_callV (pc' := 150) (y := (⟨"com/example/larder/larder/cache/UseCounts", "of", "(I)I"⟩ : MethodName)) (W := 0) (rm := own_room7) (argsL := [(.int p0)]) (rest := []) (b := a38) (C := "com/example/larder/larder/cache/UseCounts") X362 hx hZ rfl hown (by rw [hml]; rfl) f364 (own_w31 hw) (own_w32 hw) (own_w34 hw) (own_w33 hw) (own_w2 hw) (own_w35 hw) (by decide) (own_rm7 lch Z a0 hw [] a38 p0 pa pk b44 bk44 (5 : Int32) l2362 [own_spread k36, own_spread k34, own_spread p0, own_spread p0, own_spread p0] T362.heap n0 f364 G362_0 F363 G362_2 G362_3 (by simp) (by decide) ge39 ge45 ne48 ne40 ne47 f365 f366) (by decide) (by decide) (by decide) (by decide) (lenOf own_pd0 rfl) rfl (by exact Nat.le_of_eq rfl) (hb hby at_147) rfl ?_
            intro T367 Lc367 v367 X367 hQ367
            obtain ⟨r367, rfl, Nq367, Kq367, G367_0⟩ := hQ367
            have N367 := Fr.app N362 Nq367
            show own_Ends prg e below s _ _ _ T367 (mkF m 150 #[.val (.int p0), .val (.int p1), .val (.int p2), .val (.int p3), .val (.int (3 : Int32)), .val (.int (1 : Int32)), .val (.int (1 : Int32)), .val (.int k34), .val (.int k36), .val (.ref a38), .val (.int (5 : Int32))] [(.int r367)])
            refine own_iloadN (pc' := 151) X367 hx (hb hby at_150) rfl rfl ?_
            refine own_iloadN (pc' := 152) X367 hx (hb hby at_151) rfl rfl ?_
            refine own_iload (pc' := 154) X367 hx (hb hby at_152) rfl rfl ?_
            refine own_iload (pc' := 156) X367 hx (hb hby at_154) rfl rfl ?_
            refine own_iload (pc' := 158) X367 hx (hb hby at_156) rfl rfl ?_
            refine own_iload (pc' := 160) X367 hx (hb hby at_158) rfl rfl ?_
            refine own_iload (pc' := 162) X367 hx (hb hby at_160) rfl rfl ?_
            refine own_callS (pc' := 165) (y := (⟨"com/example/larder/larder/cache/UseCountsAddPinLaw", "own", "(IIIIIII)I"⟩ : MethodName)) (W := 1) (rm := own_room9) (argsL := [(.int p0), (.int p0), (.int k34), (.int k36), (.int (3 : Int32)), (.int (1 : Int32)), (.int (1 : Int32))]) (rest := [(.int r367)]) X367 hx hZ Kq367 hown (by rw [hml]; rfl) (own_w40 hw) (own_w41 hw) (own_w42 hw) (own_w43 hw) (by decide) (own_rm9 lch Z a0 hw [] p0 p0 k34 k36 (3 : Int32) (1 : Int32) (1 : Int32) T362.heap n0) (by decide) (by decide) (by decide) (by decide) (lenOf own_pd4 rfl) rfl (by exact Nat.le_of_eq rfl) (hb hby at_162) rfl ?_
            intro T368 Lc368 v368 X368 hQ368
            obtain ⟨rfl, Nq368, Kq368⟩ := hQ368
            have N368 := Fr.app N367 Nq368
            show own_Ends prg e below s _ _ _ T368 (mkF m 165 #[.val (.int p0), .val (.int p1), .val (.int p2), .val (.int p3), .val (.int (3 : Int32)), .val (.int (1 : Int32)), .val (.int (1 : Int32)), .val (.int k34), .val (.int k36), .val (.ref a38), .val (.int (5 : Int32))] [(.int (own_own p0 p0 k34 k36 (3 : Int32) (1 : Int32) (1 : Int32))), (.int r367)])
            refine own_iload (pc' := 167) X368 hx (hb hby at_165) rfl rfl ?_
            have lw369 := own_low own_spread p0 p0 k34 k36 (a := 3) (b := 1) (c := 1) (by decide) (by decide) (by decide)
            replace lw369 : ((own_own p0 p0 k34 k36 (3 : Int32) (1 : Int32) (1 : Int32))).toInt ≤ (own_same [own_spread k36, own_spread k34, own_spread p0, own_spread p0, own_spread p0] (own_spread p0) : Int) := lw369
            have lw369r := G367_0
            replace lw369r : _ ∧ _ ≤ (5 : Int) := lw369r
            refine own_callS (pc' := 170) (y := (⟨"com/example/larder/larder/cache/UseCountsAddPinLaw", "within", "(III)Z"⟩ : MethodName)) (W := 0) (rm := own_room10) (argsL := [(.int r367), (.int (own_own p0 p0 k34 k36 (3 : Int32) (1 : Int32) (1 : Int32))), (.int (5 : Int32))]) (rest := []) X368 hx hZ Kq368 hown (by rw [hml]; rfl) (own_w44 hw) (own_w45 hw) (own_w42 hw) (own_w46 hw) (by decide) (own_rm10 lch Z a0 hw [] r367 (own_own p0 p0 k34 k36 (3 : Int32) (1 : Int32) (1 : Int32)) (5 : Int32) T362.heap n0 (by omega) (show _ ≤ (5 : Int) by omega)) (by decide) (by decide) (by decide) (by decide) (lenOf own_pd5 rfl) rfl (by exact Nat.le_of_eq rfl) (hb hby at_167) rfl ?_
            intro T370 Lc370 v370 X370 hQ370
            obtain ⟨rfl, Nq370, Kq370⟩ := hQ370
            have N370 := Fr.app N368 Nq370
            show own_Ends prg e below s _ _ _ T370 (mkF m 170 #[.val (.int p0), .val (.int p1), .val (.int p2), .val (.int p3), .val (.int (3 : Int32)), .val (.int (1 : Int32)), .val (.int (1 : Int32)), .val (.int k34), .val (.int k36), .val (.ref a38), .val (.int (5 : Int32))] [(.int (1 : Int32))])
            refine own_ifNo (pc' := 173) X370 hx (hb hby at_170) rfl (feq (by decide)).1 ?_
            refine own_aload (pc' := 175) X370 hx (hb hby at_173) rfl rfl rfl ?_
            refine own_iload (pc' := 177) X370 hx (hb hby at_175) rfl rfl ?_
            refine own_callV (pc' := 180) (y := (⟨"com/example/larder/larder/cache/UseCounts", "of", "(I)I"⟩ : MethodName)) (W := 0) (rm := own_room7) (argsL := [(.int k34)]) (rest := []) (b := a38) (C := "com/example/larder/larder/cache/UseCounts") X370 hx hZ Kq370 hown (by rw [hml]; rfl) f364 (own_w31 hw) (own_w32 hw) (own_w34 hw) (own_w33 hw) (own_w2 hw) (own_w35 hw) (by decide) (own_rm7 lch Z a0 hw [] a38 k34 pa pk b44 bk44 (5 : Int32) l2362 [own_spread k36, own_spread k34, own_spread p0, own_spread p0, own_spread p0] T362.heap n0 f364 G362_0 F363 G362_2 G362_3 (by simp) (by decide) ge39 ge45 ne48 ne40 ne47 f365 f366) (by decide) (by decide) (by decide) (by decide) (lenOf own_pd0 rfl) rfl (by exact Nat.le_of_eq rfl) (hb hby at_177) rfl ?_
            intro T371 Lc371 v371 X371 hQ371
            obtain ⟨r371, rfl, Nq371, Kq371, G371_0⟩ := hQ371
            have N371 := Fr.app N370 Nq371
            show own_Ends prg e below s _ _ _ T371 (mkF m 180 #[.val (.int p0), .val (.int p1), .val (.int p2), .val (.int p3), .val (.int (3 : Int32)), .val (.int (1 : Int32)), .val (.int (1 : Int32)), .val (.int k34), .val (.int k36), .val (.ref a38), .val (.int (5 : Int32))] [(.int r371)])
            refine own_iload (pc' := 182) X371 hx (hb hby at_180) rfl rfl ?_
            refine own_iloadN (pc' := 183) X371 hx (hb hby at_182) rfl rfl ?_
            refine own_iload (pc' := 185) X371 hx (hb hby at_183) rfl rfl ?_
            refine own_iload (pc' := 187) X371 hx (hb hby at_185) rfl rfl ?_
            refine own_iload (pc' := 189) X371 hx (hb hby at_187) rfl rfl ?_
            refine own_iload (pc' := 191) X371 hx (hb hby at_189) rfl rfl ?_
            refine own_iload (pc' := 193) X371 hx (hb hby at_191) rfl rfl ?_
            refine own_callS (pc' := 196) (y := (⟨"com/example/larder/larder/cache/UseCountsAddPinLaw", "own", "(IIIIIII)I"⟩ : MethodName)) (W := 1) (rm := own_room9) (argsL := [(.int k34), (.int p0), (.int k34), (.int k36), (.int (3 : Int32)), (.int (1 : Int32)), (.int (1 : Int32))]) (rest := [(.int r371)]) X371 hx hZ Kq371 hown (by rw [hml]; rfl) (own_w40 hw) (own_w41 hw) (own_w42 hw) (own_w43 hw) (by decide) (own_rm9 lch Z a0 hw [] k34 p0 k34 k36 (3 : Int32) (1 : Int32) (1 : Int32) T362.heap n0) (by decide) (by decide) (by decide) (by decide) (lenOf own_pd4 rfl) rfl (by exact Nat.le_of_eq rfl) (hb hby at_193) rfl ?_
            intro T372 Lc372 v372 X372 hQ372
            obtain ⟨rfl, Nq372, Kq372⟩ := hQ372
            have N372 := Fr.app N371 Nq372
            show own_Ends prg e below s _ _ _ T372 (mkF m 196 #[.val (.int p0), .val (.int p1), .val (.int p2), .val (.int p3), .val (.int (3 : Int32)), .val (.int (1 : Int32)), .val (.int (1 : Int32)), .val (.int k34), .val (.int k36), .val (.ref a38), .val (.int (5 : Int32))] [(.int (own_own k34 p0 k34 k36 (3 : Int32) (1 : Int32) (1 : Int32))), (.int r371)])
            refine own_iload (pc' := 198) X372 hx (hb hby at_196) rfl rfl ?_
            have lw373 := own_low own_spread k34 p0 k34 k36 (a := 3) (b := 1) (c := 1) (by decide) (by decide) (by decide)
            replace lw373 : ((own_own k34 p0 k34 k36 (3 : Int32) (1 : Int32) (1 : Int32))).toInt ≤ (own_same [own_spread k36, own_spread k34, own_spread p0, own_spread p0, own_spread p0] (own_spread k34) : Int) := lw373
            have lw373r := G371_0
            replace lw373r : _ ∧ _ ≤ (5 : Int) := lw373r
            refine own_callS (pc' := 201) (y := (⟨"com/example/larder/larder/cache/UseCountsAddPinLaw", "within", "(III)Z"⟩ : MethodName)) (W := 0) (rm := own_room10) (argsL := [(.int r371), (.int (own_own k34 p0 k34 k36 (3 : Int32) (1 : Int32) (1 : Int32))), (.int (5 : Int32))]) (rest := []) X372 hx hZ Kq372 hown (by rw [hml]; rfl) (own_w44 hw) (own_w45 hw) (own_w42 hw) (own_w46 hw) (by decide) (own_rm10 lch Z a0 hw [] r371 (own_own k34 p0 k34 k36 (3 : Int32) (1 : Int32) (1 : Int32)) (5 : Int32) T362.heap n0 (by omega) (show _ ≤ (5 : Int) by omega)) (by decide) (by decide) (by decide) (by decide) (lenOf own_pd5 rfl) rfl (by exact Nat.le_of_eq rfl) (hb hby at_198) rfl ?_
            intro T374 Lc374 v374 X374 hQ374
            obtain ⟨rfl, Nq374, Kq374⟩ := hQ374
            have N374 := Fr.app N372 Nq374
            show own_Ends prg e below s _ _ _ T374 (mkF m 201 #[.val (.int p0), .val (.int p1), .val (.int p2), .val (.int p3), .val (.int (3 : Int32)), .val (.int (1 : Int32)), .val (.int (1 : Int32)), .val (.int k34), .val (.int k36), .val (.ref a38), .val (.int (5 : Int32))] [(.int (1 : Int32))])
            refine own_ifNo (pc' := 204) X374 hx (hb hby at_201) rfl (feq (by decide)).1 ?_
            refine own_aload (pc' := 206) X374 hx (hb hby at_204) rfl rfl rfl ?_
            refine own_iload (pc' := 208) X374 hx (hb hby at_206) rfl rfl ?_
            refine own_callV (pc' := 211) (y := (⟨"com/example/larder/larder/cache/UseCounts", "of", "(I)I"⟩ : MethodName)) (W := 0) (rm := own_room7) (argsL := [(.int k36)]) (rest := []) (b := a38) (C := "com/example/larder/larder/cache/UseCounts") X374 hx hZ Kq374 hown (by rw [hml]; rfl) f364 (own_w31 hw) (own_w32 hw) (own_w34 hw) (own_w33 hw) (own_w2 hw) (own_w35 hw) (by decide) (own_rm7 lch Z a0 hw [] a38 k36 pa pk b44 bk44 (5 : Int32) l2362 [own_spread k36, own_spread k34, own_spread p0, own_spread p0, own_spread p0] T362.heap n0 f364 G362_0 F363 G362_2 G362_3 (by simp) (by decide) ge39 ge45 ne48 ne40 ne47 f365 f366) (by decide) (by decide) (by decide) (by decide) (lenOf own_pd0 rfl) rfl (by exact Nat.le_of_eq rfl) (hb hby at_208) rfl ?_
            intro T375 Lc375 v375 X375 hQ375
            obtain ⟨r375, rfl, Nq375, Kq375, G375_0⟩ := hQ375
            have N375 := Fr.app N374 Nq375
            show own_Ends prg e below s _ _ _ T375 (mkF m 211 #[.val (.int p0), .val (.int p1), .val (.int p2), .val (.int p3), .val (.int (3 : Int32)), .val (.int (1 : Int32)), .val (.int (1 : Int32)), .val (.int k34), .val (.int k36), .val (.ref a38), .val (.int (5 : Int32))] [(.int r375)])
            refine own_iload (pc' := 213) X375 hx (hb hby at_211) rfl rfl ?_
            refine own_iloadN (pc' := 214) X375 hx (hb hby at_213) rfl rfl ?_
            refine own_iload (pc' := 216) X375 hx (hb hby at_214) rfl rfl ?_
            refine own_iload (pc' := 218) X375 hx (hb hby at_216) rfl rfl ?_
            refine own_iload (pc' := 220) X375 hx (hb hby at_218) rfl rfl ?_
            refine own_iload (pc' := 222) X375 hx (hb hby at_220) rfl rfl ?_
            refine own_iload (pc' := 224) X375 hx (hb hby at_222) rfl rfl ?_
            refine own_callS (pc' := 227) (y := (⟨"com/example/larder/larder/cache/UseCountsAddPinLaw", "own", "(IIIIIII)I"⟩ : MethodName)) (W := 1) (rm := own_room9) (argsL := [(.int k36), (.int p0), (.int k34), (.int k36), (.int (3 : Int32)), (.int (1 : Int32)), (.int (1 : Int32))]) (rest := [(.int r375)]) X375 hx hZ Kq375 hown (by rw [hml]; rfl) (own_w40 hw) (own_w41 hw) (own_w42 hw) (own_w43 hw) (by decide) (own_rm9 lch Z a0 hw [] k36 p0 k34 k36 (3 : Int32) (1 : Int32) (1 : Int32) T362.heap n0) (by decide) (by decide) (by decide) (by decide) (lenOf own_pd4 rfl) rfl (by exact Nat.le_of_eq rfl) (hb hby at_224) rfl ?_
            intro T376 Lc376 v376 X376 hQ376
            obtain ⟨rfl, Nq376, Kq376⟩ := hQ376
            have N376 := Fr.app N375 Nq376
            show own_Ends prg e below s _ _ _ T376 (mkF m 227 #[.val (.int p0), .val (.int p1), .val (.int p2), .val (.int p3), .val (.int (3 : Int32)), .val (.int (1 : Int32)), .val (.int (1 : Int32)), .val (.int k34), .val (.int k36), .val (.ref a38), .val (.int (5 : Int32))] [(.int (own_own k36 p0 k34 k36 (3 : Int32) (1 : Int32) (1 : Int32))), (.int r375)])
            refine own_iload (pc' := 229) X376 hx (hb hby at_227) rfl rfl ?_
            have lw377 := own_low own_spread k36 p0 k34 k36 (a := 3) (b := 1) (c := 1) (by decide) (by decide) (by decide)
            replace lw377 : ((own_own k36 p0 k34 k36 (3 : Int32) (1 : Int32) (1 : Int32))).toInt ≤ (own_same [own_spread k36, own_spread k34, own_spread p0, own_spread p0, own_spread p0] (own_spread k36) : Int) := lw377
            have lw377r := G375_0
            replace lw377r : _ ∧ _ ≤ (5 : Int) := lw377r
            refine own_callS (pc' := 232) (y := (⟨"com/example/larder/larder/cache/UseCountsAddPinLaw", "within", "(III)Z"⟩ : MethodName)) (W := 0) (rm := own_room10) (argsL := [(.int r375), (.int (own_own k36 p0 k34 k36 (3 : Int32) (1 : Int32) (1 : Int32))), (.int (5 : Int32))]) (rest := []) X376 hx hZ Kq376 hown (by rw [hml]; rfl) (own_w44 hw) (own_w45 hw) (own_w42 hw) (own_w46 hw) (by decide) (own_rm10 lch Z a0 hw [] r375 (own_own k36 p0 k34 k36 (3 : Int32) (1 : Int32) (1 : Int32)) (5 : Int32) T362.heap n0 (by omega) (show _ ≤ (5 : Int) by omega)) (by decide) (by decide) (by decide) (by decide) (lenOf own_pd5 rfl) rfl (by exact Nat.le_of_eq rfl) (hb hby at_229) rfl ?_
            intro T378 Lc378 v378 X378 hQ378
            obtain ⟨rfl, Nq378, Kq378⟩ := hQ378
            have N378 := Fr.app N376 Nq378
            show own_Ends prg e below s _ _ _ T378 (mkF m 232 #[.val (.int p0), .val (.int p1), .val (.int p2), .val (.int p3), .val (.int (3 : Int32)), .val (.int (1 : Int32)), .val (.int (1 : Int32)), .val (.int k34), .val (.int k36), .val (.ref a38), .val (.int (5 : Int32))] [(.int (1 : Int32))])
            refine own_ifNo (pc' := 235) X378 hx (hb hby at_232) rfl (feq (by decide)).1 ?_
            refine own_iconst (pc' := 236) (z := (1 : Int32)) X378 hx (hb hby at_235) rfl rfl ?_
            refine own_goto (pc' := 240) X378 hx (hb hby at_236) (by decide) (by decide) ?_
            refine own_retN X378 hx hlk hret (by simp) (hb hby at_240) (by decide) (by decide) ?_
            exact ⟨rfl, N378⟩
    by_cases hc39_379 : ((own_ushr p3 (5 : Int32)) &&& (1 : Int32)) = (0 : Int32)
    · refine own_ifYes (pc' := 46) X0 hx (hb hby at_39) (teq hc39_379).1 (by decide) (by decide) ?_
      refine own_iloadN (pc' := 47) X0 hx (hb hby at_46) rfl rfl ?_
      refine own_bipush (pc' := 49) (z := (6 : Int32)) X0 hx (hb hby at_47) rfl rfl ?_
      refine own_iushr (pc' := 50) (z := (own_ushr p3 (6 : Int32))) X0 hx (hb hby at_49) rfl rfl ?_
      refine own_iconst (pc' := 51) (z := (1 : Int32)) X0 hx (hb hby at_50) rfl rfl ?_
      refine own_iand (pc' := 52) (z := ((own_ushr p3 (6 : Int32)) &&& (1 : Int32))) X0 hx (hb hby at_51) rfl rfl ?_
      by_cases hc52_380 : ((own_ushr p3 (6 : Int32)) &&& (1 : Int32)) = (0 : Int32)
      · refine own_ifYes (pc' := 60) X0 hx (hb hby at_52) (teq hc52_380).1 (by decide) (by decide) ?_
        refine own_iloadN (pc' := 61) X0 hx (hb hby at_60) rfl rfl ?_
        exact K37 _
      · refine own_ifNo (pc' := 55) X0 hx (hb hby at_52) rfl (feq hc52_380).1 ?_
        refine own_iload (pc' := 57) X0 hx (hb hby at_55) rfl rfl ?_
        refine own_goto (pc' := 61) X0 hx (hb hby at_57) (by decide) (by decide) ?_
        exact K37 _
    · refine own_ifNo (pc' := 42) X0 hx (hb hby at_39) rfl (feq hc39_379).1 ?_
      refine own_iloadN (pc' := 43) X0 hx (hb hby at_42) rfl rfl ?_
      refine own_goto (pc' := 61) X0 hx (hb hby at_43) (by decide) (by decide) ?_
      exact K37 _
  by_cases hc24_381 : ((own_ushr p3 (4 : Int32)) &&& (1 : Int32)) = (0 : Int32)
  · refine own_ifYes (pc' := 31) X0 hx (hb hby at_24) (teq hc24_381).1 (by decide) (by decide) ?_
    refine own_iloadN (pc' := 32) X0 hx (hb hby at_31) rfl rfl ?_
    exact K35 _
  · refine own_ifNo (pc' := 27) X0 hx (hb hby at_24) rfl (feq hc24_381).1 ?_
    refine own_iloadN (pc' := 28) X0 hx (hb hby at_27) rfl rfl ?_
    refine own_goto (pc' := 32) X0 hx (hb hby at_28) (by decide) (by decide) ?_
    exact K35 _
set_option maxRecDepth 65536 in
set_option maxHeartbeats 40000000 in
theorem own_comes {Post : Tables → Env → Array Value → State → Outcome → State → Prop} (hpost : ∀ tb e args s v u, (limb_1_1.after args s (.returned v) u = true ∧ limb_1_2.after args s (.returned v) u = true ∧ True) → FrameEnd s (.returned v) u (Jvm.fieldLocs frame_1_writes args s ++ Jvm.arrayLocs frame_1_arrays args s ++ Jvm.staticLocs frame_1_statics s) 16 128 → Post tb e args s (.returned v) u) :
    ArmFor flags0 classFile x code maxLocals ret World_1 tables_1 room_1 Calls_1 rest_1 Pre_1 Post := by
  intro l hfl _ _ p e ha hc hk s m args below hf hA hF happ hP
  obtain ⟨hcalls, hrest, hpre⟩ := hP
  obtain ⟨-, -, -, hnamed, -, -, -, hat⟩ := (Spec.applies_iff hf).mp happ
  obtain ⟨hg, hn⟩ := and_e (Cond.before_iff.mp (show (Jvm.Cond.and given_1 narrow_1).before args s = true from hpre))
  obtain ⟨g1, g2⟩ := and_e hg
  obtain ⟨g3, g4⟩ := and_e g2
  obtain ⟨g5, g6⟩ := and_e g4
  obtain ⟨g7, g8⟩ := and_e g6
  obtain ⟨w0, w1, w2, w3, rfl⟩ : ∃ w0 w1 w2 w3 : Value, args = #[w0, w1, w2, w3] := by
    have hs : args.size = 4 := by simpa [Cond.value, given_1] using g1
    obtain ⟨L⟩ := args
    match L, hs with
    | [w0, w1, w2, w3], _ => exact ⟨w0, w1, w2, w3, rfl⟩
  have hw := fun d (hd : d ∈ tables_1) => atoms_spec (ws := Jvm.Cond.code x code maxLocals ret :: tables_1) hat d (List.mem_cons_of_mem _ hd)
  have hfit : Fit s := fun {y c} hc i hi => by
    obtain ⟨ha, rfl⟩ := Array.getElem?_eq_some_iff.mp hc
    have q := List.all_eq_true.mp ((Array.all_eq_true_iff_forall_mem.mp hF) _ (Array.getElem_mem ha)) i (List.mem_range.mpr hi)
    simpa [Array.getElem?_eq_getElem hi] using q
  obtain ⟨i0, ei0⟩ := is_v g3
  obtain rfl : w0 = (.int i0) := Option.some.inj ei0
  obtain ⟨i1, ei1⟩ := is_v g5
  obtain rfl : w1 = (.int i1) := Option.some.inj ei1
  obtain ⟨i2, ei2⟩ := is_v g7
  obtain rfl : w2 = (.int i2) := Option.some.inj ei2
  obtain ⟨i3, ei3⟩ := is_v g8
  obtain rfl : w3 = (.int i3) := Option.some.inj ei3
  obtain ⟨n0, m0⟩ := and_e hn
  obtain ⟨n1, m1⟩ := and_e m0
  obtain ⟨n2, m2⟩ := and_e m1
  obtain ⟨n3, m3⟩ := and_e m2
  obtain ⟨n4, m4⟩ := and_e m3
  obtain ⟨Pa, Pe⟩ := arr_v n0
  obtain ⟨Pc, PA⟩ := Arr.start Pe n0
  have PS := Sta.start Pe (Or.inr ⟨(hw _ (List.mem_of_getElem? (i := 2) rfl)), (hw _ (List.mem_of_getElem? (i := 25) rfl))⟩)
  have Pl := own_len (own_eqi n1) Pe PA.1
  have Pv0 := (elem_in (own_eqi n2) Pe (Term.int_eval (0)) PA.1).2
  have Pv1 := (elem_in (own_eqi n3) Pe (Term.int_eval (1)) PA.1).2
  have Pv2 := (elem_in (own_eqi n4) Pe (Term.int_eval (2)) PA.1).2
  have Pv3 := (elem_in (own_eqi m4) Pe (Term.int_eval (3)) PA.1).2
  have PV : Arv s s.heap Pa Pc.cls .int (4 : Int32) [(.int (-1640531535 : Int32)), (.int (-2048144777 : Int32)), (.int (-1028477379 : Int32)), (.int (668265263 : Int32))] (.int (0 : Int32)) := Arv.start hfit PA Pl.2 Pl.1 (by decide) rfl ⟨Pv0, Pv1, Pv2, Pv3, trivial⟩
  obtain ⟨n, o, h1, h2, h3, _, L, rfl, ⟨rfl, N⟩, hq⟩ := own_rm0 l s _ hw tables_1 i0 i1 i2 i3 Pa Pc.cls s.heap s.heap.size (Nat.le_refl _) PS PV p e ha hc hk s m _ below hf ((Spec.applies_iff_loose hf).mp happ).1 ⟨rfl, State.Warmed39.refl s, rfl⟩ trivial
  refine ⟨n, _, h1, h2, h3, hpost _ _ _ _ _ _ ⟨Cond.after_iff.mpr rfl, Cond.after_iff.mpr (eq_i res_at (Term.int_eval (1)) rfl), trivial⟩ ⟨hq.1, hq.2.1, (hq.2.2.sift fun y hy => Or.inr (N y hy)).mono (by decide) (by decide)⟩⟩
theorem main_1_1 : Claimed_1_1 := own_comes fun _ _ _ _ _ _ h hF => ⟨h.1, hF⟩
theorem main_1_2 : Claimed_1_2 := own_comes fun _ _ _ _ _ _ h hF => ⟨h.2.1, hF⟩
end Jvm.Pilot.@@N@@
namespace Jvm.Pilot.@@N@@
open Jvm Jvm.ClassFile Sem Op Lib Jvm.Free Jvm.Stand Jvm.Pilot.@@N@@.Jvm.D
/-! MADE BY PROGRAM (witnessworld.py) out of the Statement's table words and the real class files: 10 classes; the members and pool entries that the words name. The judged class is class 1, her method 1. -/
namespace start1
open Jvm.ClassFile
def u (s : String) : CpInfo := .utf8 (stringToUtf16 s)
/-- a pool by its gaps: so many unusable entries, then the entry; so many at the end -/
def gap : Nat → List CpInfo → List CpInfo
  | 0, r => r
  | n + 1, r => .unusable :: gap n r
def poolList (es : List (Nat × CpInfo)) (last : Nat) : List CpInfo := es.foldr (fun e r => gap e.1 (e.2 :: r)) (gap last [])
def pool (es : List (Nat × CpInfo)) (last : Nat) : Array CpInfo := ⟨poolList es last⟩
def fileOf (pool : Array CpInfo) (this : Nat) (attrs : Array Attribute := #[]) (ms : Array MethodInfo := #[]) (fl : Nat := 33) (sup : Nat := 0) (ifs : Array Nat := #[]) (fds : Array FieldInfo := #[]) : ClassFile where
  minorVersion := 0
  majorVersion := 65
  constantPool := pool
  accessFlags := fl
  thisClass := this
  superClass := sup
  interfaces := ifs
  fields := fds
  methods := ms
  attributes := attrs
def plain (name : String) (sup : Option ClassId) : Class where
  name := name
  kind := .ordinary
  loader := none
  accessFlags := 33
  super := sup
  interfaces := #[]
  cf := none
  fields := #[]
  methods := #[]
  instanceTypes := #[]
  staticTypes := #[]
  resolved := #[]
  callSites := []
  init := .initialized
  statics := none
  mirror := none

def pool0 : Array CpInfo := pool [(5, u "<init>"), (0, u "()V"), (1, .class_ 10), (1, u "java/lang/Object")] 113

def k0c0 : Code := { maxStack := 0, maxLocals := 1, code := object_method_1_code, exceptionTable := #[], attributes := #[] }
def k0m0 : Method := { name := "<init>", desc := "()V", sig := { parameters := [], returnType := none }, accessFlags := 1, code := some k0c0 }
/-- java/lang/Object -/
def k0 : Class := { plain "java/lang/Object" none with
  accessFlags := 33
  interfaces := #[]
  cf := some (fileOf pool0 8 #[] #[{ accessFlags := 1, nameIndex := 5, descriptorIndex := 6, attributes := #[] }] 33 0 #[] #[])
  fields := #[]
  methods := #[k0m0]
  instanceTypes := #[]
  staticTypes := #[]
  resolved := Array.replicate 124 none
  statics := none }

def pool1 : Array CpInfo := pool [(2, .class_ 4), (0, .nameAndType 5 6), (0, u "java/lang/Object"), (0, u "<init>"), (0, u "()V"), (0, .class_ 8), (0, u "com/example/larder/larder/cache/UseCounts"), (0, .methodref 7 3), (0, .methodref 7 11), (0, .nameAndType 12 13), (0, u "add"), (0, u "(I)V"), (0, .methodref 7 15), (0, .nameAndType 16 17), (0, u "of"), (0, u "(I)I"), (0, .methodref 19 20), (0, .class_ 21), (0, .nameAndType 22 23), (0, u "com/example/larder/larder/cache/UseCountsAddPinLaw"), (0, u "own"), (0, u "(IIIIIII)I"), (0, .methodref 19 25), (0, .nameAndType 26 27), (0, u "within"), (0, u "(III)Z"), (2, u "law"), (0, u "(IIII)Z")] 3

def k1m0 : Method := { name := "<init>", desc := "()V", sig := { parameters := [], returnType := none }, accessFlags := 1, code := none }
def k1c1 : Code := { maxStack := 8, maxLocals := 11, code := code, exceptionTable := #[], attributes := #[] }
def k1m1 : Method := { name := "law", desc := "(IIII)Z", sig := { parameters := [.int, .int, .int, .int], returnType := some .boolean }, accessFlags := 9, code := some k1c1 }
def k1c2 : Code := { maxStack := 2, maxLocals := 8, code := method_3_code, exceptionTable := #[], attributes := #[] }
def k1m2 : Method := { name := "own", desc := "(IIIIIII)I", sig := { parameters := [.int, .int, .int, .int, .int, .int, .int], returnType := some .int }, accessFlags := 10, code := some k1c2 }
def k1c3 : Code := { maxStack := 2, maxLocals := 3, code := method_4_code, exceptionTable := #[], attributes := #[] }
def k1m3 : Method := { name := "within", desc := "(III)Z", sig := { parameters := [.int, .int, .int], returnType := some .boolean }, accessFlags := 10, code := some k1c3 }
/-- com/example/larder/larder/cache/UseCountsAddPinLaw -/
def k1 : Class := { plain "com/example/larder/larder/cache/UseCountsAddPinLaw" (some 0) with
  accessFlags := 49
  interfaces := #[]
  cf := some (fileOf pool1 19 #[] #[{ accessFlags := 1, nameIndex := 5, descriptorIndex := 6, attributes := #[] }, { accessFlags := 9, nameIndex := 30, descriptorIndex := 31, attributes := #[] }, { accessFlags := 10, nameIndex := 22, descriptorIndex := 23, attributes := #[] }, { accessFlags := 10, nameIndex := 26, descriptorIndex := 27, attributes := #[] }] 49 2 #[] #[])
  fields := #[]
  methods := #[k1m0, k1m1, k1m2, k1m3]
  instanceTypes := #[]
  staticTypes := #[]
  resolved := Array.replicate 35 none
  statics := none }

def pool2 : Array CpInfo := pool [(1, .methodref 2 3), (0, .class_ 4), (0, .nameAndType 5 6), (0, u "java/lang/Object"), (0, u "<init>"), (0, u "()V"), (0, .class_ 8), (0, u "com/example/larder/larder/cache/UseCounts"), (0, .fieldref 7 10), (0, .nameAndType 11 12), (0, u "table"), (0, u "[I"), (0, .methodref 7 14), (0, .nameAndType 15 16), (0, u "spread"), (0, u "(I)I"), (0, .methodref 7 18), (0, .nameAndType 19 20), (0, u "index"), (0, u "(III)I"), (0, .methodref 7 22), (0, .nameAndType 23 24), (0, u "shift"), (0, u "(II)I"), (0, .fieldref 7 26), (0, .nameAndType 27 28), (0, u "additions"), (0, u "I"), (4, .methodref 34 35), (0, .class_ 36), (0, .nameAndType 37 24), (0, u "java/lang/Math"), (0, u "min"), (13, .integer 73244475), (0, .fieldref 7 53), (0, .nameAndType 54 12), (0, u "SEEDS"), (4, u "ROWS"), (2, u "CEILING"), (1, u "HALF_MASK"), (0, u "SMALLEST"), (1, u "LARGEST"), (0, u "ADDITIONS_PER_INT"), (3, u "add"), (0, u "(I)V"), (2, u "of")] 5

def k2c0 : Code := { maxStack := 2, maxLocals := 1, code := prog_11_method_1_code, exceptionTable := #[], attributes := #[] }
def k2m0 : Method := { name := "<init>", desc := "()V", sig := { parameters := [], returnType := none }, accessFlags := 0, code := some k2c0 }
def k2c1 : Code := { maxStack := 5, maxLocals := 9, code := prog_11_method_2_code, exceptionTable := #[], attributes := #[] }
def k2m1 : Method := { name := "add", desc := "(I)V", sig := { parameters := [.int], returnType := none }, accessFlags := 0, code := some k2c1 }
def k2c2 : Code := { maxStack := 4, maxLocals := 7, code := prog_11_method_3_code, exceptionTable := #[], attributes := #[] }
def k2m2 : Method := { name := "of", desc := "(I)I", sig := { parameters := [.int], returnType := some .int }, accessFlags := 0, code := some k2c2 }
def k2c3 : Code := { maxStack := 3, maxLocals := 2, code := prog_11_method_6_code, exceptionTable := #[], attributes := #[] }
def k2m3 : Method := { name := "spread", desc := "(I)I", sig := { parameters := [.int], returnType := some .int }, accessFlags := 8, code := some k2c3 }
def k2c4 : Code := { maxStack := 3, maxLocals := 4, code := prog_11_method_7_code, exceptionTable := #[], attributes := #[] }
def k2m4 : Method := { name := "index", desc := "(III)I", sig := { parameters := [.int, .int, .int], returnType := some .int }, accessFlags := 10, code := some k2c4 }
def k2c5 : Code := { maxStack := 5, maxLocals := 3, code := prog_11_method_8_code, exceptionTable := #[], attributes := #[] }
def k2m5 : Method := { name := "shift", desc := "(II)I", sig := { parameters := [.int, .int], returnType := some .int }, accessFlags := 10, code := some k2c5 }
/-- com/example/larder/larder/cache/UseCounts -/
def k2 : Class := { plain "com/example/larder/larder/cache/UseCounts" (some 0) with
  accessFlags := 48
  interfaces := #[]
  cf := some (fileOf pool2 7 #[] #[{ accessFlags := 0, nameIndex := 5, descriptorIndex := 6, attributes := #[] }, { accessFlags := 0, nameIndex := 72, descriptorIndex := 73, attributes := #[] }, { accessFlags := 0, nameIndex := 76, descriptorIndex := 16, attributes := #[] }, { accessFlags := 8, nameIndex := 15, descriptorIndex := 16, attributes := #[] }, { accessFlags := 10, nameIndex := 19, descriptorIndex := 20, attributes := #[] }, { accessFlags := 10, nameIndex := 23, descriptorIndex := 24, attributes := #[] }] 48 2 #[] #[{ accessFlags := 26, nameIndex := 59, descriptorIndex := 28, attributes := #[] }, { accessFlags := 26, nameIndex := 54, descriptorIndex := 12, attributes := #[] }, { accessFlags := 26, nameIndex := 62, descriptorIndex := 28, attributes := #[] }, { accessFlags := 26, nameIndex := 64, descriptorIndex := 28, attributes := #[] }, { accessFlags := 26, nameIndex := 65, descriptorIndex := 28, attributes := #[] }, { accessFlags := 26, nameIndex := 67, descriptorIndex := 28, attributes := #[] }, { accessFlags := 26, nameIndex := 68, descriptorIndex := 28, attributes := #[] }, { accessFlags := 66, nameIndex := 11, descriptorIndex := 12, attributes := #[] }, { accessFlags := 2, nameIndex := 27, descriptorIndex := 28, attributes := #[] }])
  fields := #[{ name := "ROWS", type := .int, accessFlags := 26, slot := 0, constantValue := 0 }, { name := "SEEDS", type := (.array .int), accessFlags := 26, slot := 1, constantValue := 0 }, { name := "CEILING", type := .int, accessFlags := 26, slot := 2, constantValue := 0 }, { name := "HALF_MASK", type := .int, accessFlags := 26, slot := 3, constantValue := 0 }, { name := "SMALLEST", type := .int, accessFlags := 26, slot := 4, constantValue := 0 }, { name := "LARGEST", type := .int, accessFlags := 26, slot := 5, constantValue := 0 }, { name := "ADDITIONS_PER_INT", type := .int, accessFlags := 26, slot := 6, constantValue := 0 }, { name := "table", type := (.array .int), accessFlags := 66, slot := 0, constantValue := 0 }, { name := "additions", type := .int, accessFlags := 2, slot := 1, constantValue := 0 }]
  methods := #[k2m0, k2m1, k2m2, k2m3, k2m4, k2m5]
  instanceTypes := #[(.array .int), .int]
  staticTypes := #[.int, (.array .int), .int, .int, .int, .int, .int]
  resolved := Array.replicate 82 none
  statics := some 0 }

def pool3 : Array CpInfo := pool [(1, .class_ 2), (0, u "java/lang/Math"), (1, .class_ 6), (1, u "java/lang/Object"), (0, u "<init>"), (0, u "()V"), (89, .class_ 100), (1, u "java/lang/Math$RandomNumberGeneratorHolder"), (71, u "negativeZeroFloatBits"), (0, u "J"), (2, u "negativeZeroDoubleBits"), (24, u "min"), (43, u "$assertionsDisabled"), (0, u "Z"), (88, u "(II)I"), (2, u "twoToTheDoubleScaleDown"), (0, u "D"), (4, u "twoToTheDoubleScaleUp"), (9, u "E"), (3, u "PI"), (2, u "TAU"), (2, u "DEGREES_TO_RADIANS"), (0, u "RADIANS_TO_DEGREES")] 94

def k3m0 : Method := { name := "<init>", desc := "()V", sig := { parameters := [], returnType := none }, accessFlags := 2, code := none }
def k3c1 : Code := { maxStack := 2, maxLocals := 2, code := jdk_29_method_69_code, exceptionTable := #[], attributes := #[] }
def k3m1 : Method := { name := "min", desc := "(II)I", sig := { parameters := [.int, .int], returnType := some .int }, accessFlags := 9, code := some k3c1 }
/-- java/lang/Math -/
def k3 : Class := { plain "java/lang/Math" (some 0) with
  accessFlags := 49
  interfaces := #[]
  cf := some (fileOf pool3 1 #[.nestMembers #[98]] #[{ accessFlags := 2, nameIndex := 7, descriptorIndex := 8, attributes := #[] }, { accessFlags := 9, nameIndex := 201, descriptorIndex := 335, attributes := #[] }] 49 4 #[] #[{ accessFlags := 25, nameIndex := 354, descriptorIndex := 339, attributes := #[] }, { accessFlags := 25, nameIndex := 358, descriptorIndex := 339, attributes := #[] }, { accessFlags := 25, nameIndex := 361, descriptorIndex := 339, attributes := #[] }, { accessFlags := 26, nameIndex := 364, descriptorIndex := 339, attributes := #[] }, { accessFlags := 26, nameIndex := 365, descriptorIndex := 339, attributes := #[] }, { accessFlags := 26, nameIndex := 172, descriptorIndex := 173, attributes := #[] }, { accessFlags := 26, nameIndex := 176, descriptorIndex := 173, attributes := #[] }, { accessFlags := 8, nameIndex := 344, descriptorIndex := 339, attributes := #[] }, { accessFlags := 8, nameIndex := 338, descriptorIndex := 339, attributes := #[] }, { accessFlags := 4120, nameIndex := 245, descriptorIndex := 246, attributes := #[] }])
  fields := #[{ name := "E", type := .double, accessFlags := 25, slot := 0, constantValue := 0 }, { name := "PI", type := .double, accessFlags := 25, slot := 1, constantValue := 0 }, { name := "TAU", type := .double, accessFlags := 25, slot := 2, constantValue := 0 }, { name := "DEGREES_TO_RADIANS", type := .double, accessFlags := 26, slot := 3, constantValue := 0 }, { name := "RADIANS_TO_DEGREES", type := .double, accessFlags := 26, slot := 4, constantValue := 0 }, { name := "negativeZeroFloatBits", type := .long, accessFlags := 26, slot := 5, constantValue := 0 }, { name := "negativeZeroDoubleBits", type := .long, accessFlags := 26, slot := 6, constantValue := 0 }, { name := "twoToTheDoubleScaleUp", type := .double, accessFlags := 8, slot := 7, constantValue := 0 }, { name := "twoToTheDoubleScaleDown", type := .double, accessFlags := 8, slot := 8, constantValue := 0 }, { name := "$assertionsDisabled", type := .boolean, accessFlags := 4120, slot := 9, constantValue := 0 }]
  methods := #[k3m0, k3m1]
  instanceTypes := #[]
  staticTypes := #[.double, .double, .double, .double, .double, .long, .long, .double, .double, .boolean]
  resolved := Array.replicate 460 none
  statics := none }

def pool4 : Array CpInfo := pool [(1, u "java/lang/Cloneable"), (0, .class_ 1), (0, u "java/lang/Object"), (0, .class_ 3)] 3

/-- java/lang/Cloneable -/
def k4 : Class := { plain "java/lang/Cloneable" (some 0) with
  accessFlags := 1537
  interfaces := #[]
  cf := some (fileOf pool4 2 #[] #[] 1537 4 #[] #[])
  fields := #[]
  methods := #[]
  instanceTypes := #[]
  staticTypes := #[]
  resolved := Array.replicate 8 none
  statics := none }

def pool5 : Array CpInfo := pool [(1, u "java/io/Serializable"), (0, .class_ 1), (0, u "java/lang/Object"), (0, .class_ 3)] 3

/-- java/io/Serializable -/
def k5 : Class := { plain "java/io/Serializable" (some 0) with
  accessFlags := 1537
  interfaces := #[]
  cf := some (fileOf pool5 2 #[] #[] 1537 4 #[] #[])
  fields := #[]
  methods := #[]
  instanceTypes := #[]
  staticTypes := #[]
  resolved := Array.replicate 8 none
  statics := none }

/-- the primitive byte -/
def k6 : Class := { plain "byte" none with kind := .primitive 'B', accessFlags := 0x411 }
/-- [B -/
def k7 : Class := { plain "[B" (some 0) with kind := .array 6 .byte, interfaces := #[4, 5], accessFlags := 1041 }

/-- the primitive int -/
def k8 : Class := { plain "int" none with kind := .primitive 'I', accessFlags := 0x411 }
/-- [I -/
def k9 : Class := { plain "[I" (some 0) with kind := .array 8 .int, interfaces := #[4, 5], accessFlags := 1041 }

def heap : Heap := #[{ cls := 2, slots := #[.int 0, .ref 1, .int 0, .int 0, .int 0, .int 0, .int 0], vm := .statics 2 },
  { cls := 9, slots := #[.int (-1640531535), .int (-2048144777), .int (-1028477379), .int 668265263], vm := .none }]
def classes : Array Class := #[k0, k1, k2, k3, k4, k5, k6, k7, k8, k9]
def interned : List (Array UInt16 × Addr) := []
def slotsUsed : Nat := 11
def theMethod : MethodId := ⟨1, 1⟩
def args0 : Array Value := #[.int 5, .int 5, .int 5, .int 5]
def aboutOver (below : List Frame) : State where
  vm := { classes := classes, interned := interned.toArray }
  heap := heap
  slotsUsed := slotsUsed
  threads := #[{ frames := .invoking theMethod args0 :: below }]
def below0 : List Frame := [.native { method := ⟨0, 0⟩, args := #[] }]
def about1 : State := aboutOver below0
def p0 : Program := .bare "" "" ""
def e0 : Env := launch0.env 0 0 0
theorem w_frames : about1.frames = Frame.invoking theMethod args0 :: below0 := rfl
set_option maxRecDepth 65536 in
theorem w_args : argsFit about1.vm theMethod args0 = true := by decide +kernel
set_option maxRecDepth 65536 in
theorem w_heap : heapFits about1 = true := by decide +kernel
set_option maxRecDepth 65536 in
theorem w_runnable : about1.curStatus? = some .runnable := by decide +kernel
set_option maxRecDepth 65536 in
theorem w_alone : about1.alone = true := by decide +kernel
set_option maxRecDepth 65536 in
theorem w_named : about1.methodNamed? x = some theMethod := by decide +kernel
set_option maxRecDepth 65536 in
theorem w_hears : about1.hears theMethod below0 = true := by decide +kernel
set_option maxRecDepth 65536 in
theorem w_ripe : about1.ripe theMethod args0 below0 = true := by decide +kernel
theorem w_running : about1.status = .running := rfl
set_option maxRecDepth 65536 in
theorem w_room : about1.hasRoom e0.platform room_1 = true :=
  launch0.hasRoom_least _ room_1 (by decide +kernel) (by decide +kernel) (by decide +kernel) (by decide +kernel) (by decide +kernel) (by decide +kernel)
theorem allAtoms_all (ts : List Jvm.Cond) (a : Array Jvm.Value) (st : Jvm.State) : (allAtoms ts).before a st = ts.all (fun c => c.before a st) := by
  induction ts with
  | nil => rfl
  | cons c t ih =>
    show (Jvm.Cond.and c (allAtoms t)).before a st = _
    rw [Jvm.Cond.before_and, ih, List.all_cons]
def words1 : List Jvm.Cond := Jvm.Cond.code x code maxLocals ret :: tables_1
/-- a 'code' word, met by the world's own term for the bytes: nothing is compared byte by byte -/
theorem code_word {y : MethodName} {bytes : ByteArray} {mx : Nat} {rt : Option FieldType} {a : Array Value} {s : State} {m : MethodId} {meth : Method} {c : Code} (h1 : s.methodNamed? y = some m) (h2 : s.vm.method? m = some meth) (h3 : meth.code = some c) (h4 : c.code = bytes)
    (h5 : (c.maxLocals == mx && c.exceptionTable.isEmpty && decide (c.maxStack ≤ mostOperands) && decide (meth.sig.returnType = rt) && !meth.locks && decide (parseMethodDescriptor y.desc = some meth.sig)) = true) : (Jvm.Cond.code y bytes mx rt).before a s = true := by
  simp only [Bool.and_eq_true, beq_iff_eq, Bool.not_eq_true', decide_eq_true_eq] at h5
  obtain ⟨⟨⟨⟨⟨g1, g2⟩, g3⟩, g4⟩, g5⟩, g6⟩ := h5
  simp [Cond.before, Cond.holds, Cond.value, h1, h2, h3, h4, g1, g2, g3, g4, g5, g6]
def isCode : Jvm.Cond → Bool
  | .code _ _ _ _ => true
  | _ => false
theorem all_split {L : List Jvm.Cond} {P : Jvm.Cond → Bool} (h1 : L.all (fun c => isCode c || P c) = true) (h2 : ∀ c ∈ L.filter isCode, P c = true) : L.all P = true := by
  refine List.all_eq_true.mpr fun c hc => ?_
  have h := List.all_eq_true.mp h1 c hc
  rcases Bool.eq_false_or_eq_true (isCode c) with hi | hi
  · exact h2 c (List.mem_filter.mpr ⟨hc, hi⟩)
  · simpa [hi] using h
set_option maxRecDepth 65536 in
theorem w_c0 : (Jvm.Cond.code x code maxLocals ret).before args0 about1 = true := code_word (m := ⟨1, 1⟩) (meth := k1m1) (c := k1c1) (by decide +kernel) rfl rfl rfl (by decide +kernel)
set_option maxRecDepth 65536 in
theorem w_c1 : (Jvm.Cond.code ({ cls := "com/example/larder/larder/cache/UseCounts", name := "<init>", desc := "()V" } : Jvm.MethodName) prog_11_method_1_code (1 : Nat) (Option.none : Option Jvm.ClassFile.FieldType)).before args0 about1 = true := code_word (m := ⟨2, 0⟩) (meth := k2m0) (c := k2c0) (by decide +kernel) rfl rfl rfl (by decide +kernel)
set_option maxRecDepth 65536 in
theorem w_c2 : (Jvm.Cond.code ({ cls := "java/lang/Object", name := "<init>", desc := "()V" } : Jvm.MethodName) object_method_1_code (1 : Nat) (Option.none : Option Jvm.ClassFile.FieldType)).before args0 about1 = true := code_word (m := ⟨0, 0⟩) (meth := k0m0) (c := k0c0) (by decide +kernel) rfl rfl rfl (by decide +kernel)
set_option maxRecDepth 65536 in
theorem w_c3 : (Jvm.Cond.code ({ cls := "com/example/larder/larder/cache/UseCounts", name := "add", desc := "(I)V" } : Jvm.MethodName) prog_11_method_2_code (9 : Nat) (Option.none : Option Jvm.ClassFile.FieldType)).before args0 about1 = true := code_word (m := ⟨2, 1⟩) (meth := k2m1) (c := k2c1) (by decide +kernel) rfl rfl rfl (by decide +kernel)
set_option maxRecDepth 65536 in
theorem w_c4 : (Jvm.Cond.code ({ cls := "com/example/larder/larder/cache/UseCounts", name := "spread", desc := "(I)I" } : Jvm.MethodName) prog_11_method_6_code (2 : Nat) (Option.some Jvm.ClassFile.FieldType.int)).before args0 about1 = true := code_word (m := ⟨2, 3⟩) (meth := k2m3) (c := k2c3) (by decide +kernel) rfl rfl rfl (by decide +kernel)
set_option maxRecDepth 65536 in
theorem w_c5 : (Jvm.Cond.code ({ cls := "com/example/larder/larder/cache/UseCounts", name := "index", desc := "(III)I" } : Jvm.MethodName) prog_11_method_7_code (4 : Nat) (Option.some Jvm.ClassFile.FieldType.int)).before args0 about1 = true := code_word (m := ⟨2, 4⟩) (meth := k2m4) (c := k2c4) (by decide +kernel) rfl rfl rfl (by decide +kernel)
set_option maxRecDepth 65536 in
theorem w_c6 : (Jvm.Cond.code ({ cls := "com/example/larder/larder/cache/UseCounts", name := "shift", desc := "(II)I" } : Jvm.MethodName) prog_11_method_8_code (3 : Nat) (Option.some Jvm.ClassFile.FieldType.int)).before args0 about1 = true := code_word (m := ⟨2, 5⟩) (meth := k2m5) (c := k2c5) (by decide +kernel) rfl rfl rfl (by decide +kernel)
set_option maxRecDepth 65536 in
theorem w_c7 : (Jvm.Cond.code ({ cls := "com/example/larder/larder/cache/UseCounts", name := "of", desc := "(I)I" } : Jvm.MethodName) prog_11_method_3_code (7 : Nat) (Option.some Jvm.ClassFile.FieldType.int)).before args0 about1 = true := code_word (m := ⟨2, 2⟩) (meth := k2m2) (c := k2c2) (by decide +kernel) rfl rfl rfl (by decide +kernel)
set_option maxRecDepth 65536 in
theorem w_c8 : (Jvm.Cond.code ({ cls := "java/lang/Math", name := "min", desc := "(II)I" } : Jvm.MethodName) jdk_29_method_69_code (2 : Nat) (Option.some Jvm.ClassFile.FieldType.int)).before args0 about1 = true := code_word (m := ⟨3, 1⟩) (meth := k3m1) (c := k3c1) (by decide +kernel) rfl rfl rfl (by decide +kernel)
set_option maxRecDepth 65536 in
theorem w_c9 : (Jvm.Cond.code ({ cls := "com/example/larder/larder/cache/UseCountsAddPinLaw", name := "own", desc := "(IIIIIII)I" } : Jvm.MethodName) method_3_code (8 : Nat) (Option.some Jvm.ClassFile.FieldType.int)).before args0 about1 = true := code_word (m := ⟨1, 2⟩) (meth := k1m2) (c := k1c2) (by decide +kernel) rfl rfl rfl (by decide +kernel)
set_option maxRecDepth 65536 in
theorem w_c10 : (Jvm.Cond.code ({ cls := "com/example/larder/larder/cache/UseCountsAddPinLaw", name := "within", desc := "(III)Z" } : Jvm.MethodName) method_4_code (3 : Nat) (Option.some Jvm.ClassFile.FieldType.boolean)).before args0 about1 = true := code_word (m := ⟨1, 3⟩) (meth := k1m3) (c := k1c3) (by decide +kernel) rfl rfl rfl (by decide +kernel)
def codes1 : List Jvm.Cond := [Jvm.Cond.code x code maxLocals ret, Jvm.Cond.code ({ cls := "com/example/larder/larder/cache/UseCounts", name := "<init>", desc := "()V" } : Jvm.MethodName) prog_11_method_1_code (1 : Nat) (Option.none : Option Jvm.ClassFile.FieldType), Jvm.Cond.code ({ cls := "java/lang/Object", name := "<init>", desc := "()V" } : Jvm.MethodName) object_method_1_code (1 : Nat) (Option.none : Option Jvm.ClassFile.FieldType), Jvm.Cond.code ({ cls := "com/example/larder/larder/cache/UseCounts", name := "add", desc := "(I)V" } : Jvm.MethodName) prog_11_method_2_code (9 : Nat) (Option.none : Option Jvm.ClassFile.FieldType), Jvm.Cond.code ({ cls := "com/example/larder/larder/cache/UseCounts", name := "spread", desc := "(I)I" } : Jvm.MethodName) prog_11_method_6_code (2 : Nat) (Option.some Jvm.ClassFile.FieldType.int), Jvm.Cond.code ({ cls := "com/example/larder/larder/cache/UseCounts", name := "index", desc := "(III)I" } : Jvm.MethodName) prog_11_method_7_code (4 : Nat) (Option.some Jvm.ClassFile.FieldType.int), Jvm.Cond.code ({ cls := "com/example/larder/larder/cache/UseCounts", name := "shift", desc := "(II)I" } : Jvm.MethodName) prog_11_method_8_code (3 : Nat) (Option.some Jvm.ClassFile.FieldType.int), Jvm.Cond.code ({ cls := "com/example/larder/larder/cache/UseCounts", name := "of", desc := "(I)I" } : Jvm.MethodName) prog_11_method_3_code (7 : Nat) (Option.some Jvm.ClassFile.FieldType.int), Jvm.Cond.code ({ cls := "java/lang/Math", name := "min", desc := "(II)I" } : Jvm.MethodName) jdk_29_method_69_code (2 : Nat) (Option.some Jvm.ClassFile.FieldType.int), Jvm.Cond.code ({ cls := "com/example/larder/larder/cache/UseCountsAddPinLaw", name := "own", desc := "(IIIIIII)I" } : Jvm.MethodName) method_3_code (8 : Nat) (Option.some Jvm.ClassFile.FieldType.int), Jvm.Cond.code ({ cls := "com/example/larder/larder/cache/UseCountsAddPinLaw", name := "within", desc := "(III)Z" } : Jvm.MethodName) method_4_code (3 : Nat) (Option.some Jvm.ClassFile.FieldType.boolean)]
set_option maxRecDepth 65536 in
theorem codes_eq : words1.filter isCode = codes1 := rfl
theorem w_codes : ∀ c ∈ words1.filter isCode, c.before args0 about1 = true := by
  rw [codes_eq]
  intro c hc
  simp only [codes1, List.mem_cons, List.not_mem_nil, or_false] at hc
  rcases hc with rfl | rfl | rfl | rfl | rfl | rfl | rfl | rfl | rfl | rfl | rfl
  · exact w_c0
  · exact w_c1
  · exact w_c2
  · exact w_c3
  · exact w_c4
  · exact w_c5
  · exact w_c6
  · exact w_c7
  · exact w_c8
  · exact w_c9
  · exact w_c10
set_option maxRecDepth 65536 in
theorem w_t1 : (words1.take 24).all (fun c => isCode c || c.before args0 about1) = true := by decide +kernel
set_option maxRecDepth 65536 in
theorem w_t2 : (words1.drop 24).all (fun c => isCode c || c.before args0 about1) = true := by decide +kernel
theorem w_tables : (allAtoms (Jvm.Cond.code x code maxLocals ret :: tables_1)).before args0 about1 = true := by
  rw [allAtoms_all]
  show words1.all (fun c => c.before args0 about1) = true
  refine all_split ?_ w_codes
  rw [← List.take_append_drop 24 words1, List.all_append, w_t1, w_t2]
  rfl
set_option maxRecDepth 65536 in
theorem w_case : (Jvm.Cond.and given_1 narrow_1).before args0 about1 = true := by decide +kernel
theorem w_applies : (headSpec (Jvm.Cond.code x code maxLocals ret :: tables_1) room_1).applies x e0.platform about1 = true :=
  (Spec.applies_iff w_frames).mpr ⟨w_running, w_runnable, w_alone, w_named, w_hears, w_ripe, w_room, w_tables⟩
theorem atStart : AtStart classFile x code maxLocals ret World_1 tables_1 room_1 Calls_1 rest_1 Pre_1 launch0 p0 e0 about1 theMethod args0 below0 :=
  ⟨lists_1, trivial, launch0.admits_env _ _ _, launch0.least_env, fairChoices_fair.cas, fairChoices_fair.clock, w_frames, w_args, w_heap, w_applies, trivial, trivial, w_case⟩
end start1
theorem witness_1 : WitnessClaimed_1 := ⟨start1.p0, start1.e0, start1.about1, start1.theMethod, start1.args0, start1.below0, start1.atStart⟩
end Jvm.Pilot.@@N@@
