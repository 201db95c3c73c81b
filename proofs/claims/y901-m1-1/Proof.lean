import JvmDerived
import JvmDerived.Pilot.@@N@@Statement
import JvmDerived.Pilot.@@N@@Code
set_option linter.unusedVariables false
set_option linter.unusedSimpArgs false
namespace Jvm.RoadKit
open Sem ClassFile Op Lib Jvm.Stand Jvm.Free Jvm.LawKit
section New
variable {p : Program} {l : Launch} {e : Env} {R : Room} {s : State} {m : MethodId} {args : Array Value} {below : List Frame} {meth : Method} {c : Code} {T : State} {locs : List Loc} {cells slots : Nat}
theorem retI (X : Stand p l e R s m args below meth c T locs cells slots) (hx : p.tables.exec = Jvm.exec) {pc : Nat} {Ls : Array Slot} {z : Int32} {rest : List Value} (hret : meth.sig.returnType = some .int) (hd : decode c.code pc = .ok (.ireturn, 1)) {fs : List Frame}
    (hl : ∀ (f : JFrame) (acts : List Action), f.method = m → f.locked = none → f.entered = [] → (doReturn e (T.setTop f) acts (some (.int z))).1 = T.setFrames fs) : Steps p.tables e below (T.setTop (mkF m pc Ls (.int z :: rest))) (T.setFrames fs) := by
  have hm' : T.vm.method? m = some meth := X.method'
  have hn : narrow .int (.int z) = .int z := rfl
  show Steps p.tables e below (T.setTop { method := m, pc := pc, locals := Ls, stack := _ :: rest, locked := none }) _
  jvm_step X.here [X.here.top, hx, hd, hm', hret, hn]
  first | (intro acts; rw [hl _ acts rfl rfl rfl]) | rw [hl _ _ rfl rfl rfl]
  exact Steps.refl _
end New
end Jvm.RoadKit
namespace Jvm.Pilot.@@N@@
open Jvm Jvm.ClassFile Sem Op Lib Jvm.Free Jvm.Stand Jvm.LawKit Jvm.RoadKit Bundle Jvm.Pilot.@@N@@.Jvm.D
section Own
variable {p : Program} {l : Launch} {e : Env} {R : Room} {s : State} {m : MethodId} {args : Array Value} {below : List Frame} {meth : Method} {c : Code} {T T' : State} {locs : List Loc} {cells slots : Nat} {Q : Option Value → Heap → List Loc → Prop} {kc ks : Nat} {pc pc' : Nat} {ls : Array Slot} {st : List Value}
/-- from T with the frame g on top the run comes to its end, as Q asks -/
def own_Ends (p : Program) (e : Env) (below : List Frame) (s : State) (Q : Option Value → Heap → List Loc → Prop) (kc ks : Nat) (T : State) (g : JFrame) : Prop :=
  ∃ s₂ o, Steps p.tables e below (T.setTop g) s₂ ∧ s₂.status = .running ∧ Ended s₂ below o ∧ ∃ v L, o = .returned v ∧ Q v s₂.heap L ∧ FrameEnd s o s₂ L kc ks
theorem own_go {g g' : JFrame} (h : ∀ t, Steps p.tables e below (T'.setTop g') t → Steps p.tables e below (T.setTop g) t) (K : own_Ends p e below s Q kc ks T' g') : own_Ends p e below s Q kc ks T g := by
  obtain ⟨s2, o, h1, r⟩ := K
  exact ⟨s2, o, h _ h1, r⟩
theorem own_cast {g g' : JFrame} (q : g = g') (K : own_Ends p e below s Q kc ks T g') : own_Ends p e below s Q kc ks T g := q ▸ K
theorem own_leave {v : Option Value} {g : JFrame} (X : Stand p l e R s m args below meth c T locs cells slots) (hlk : meth.locks = false) (hv : meth.sig.returnType = none → v = none)
    (hs : ∀ fs, (∀ (f : JFrame) (acts : List Action), f.method = m → f.locked = none → f.entered = [] → (doReturn e (T.setTop f) acts v).1 = T.setFrames fs) → Steps p.tables e below (T.setTop g) (T.setFrames fs)) (hc : cells ≤ kc) (hn : slots ≤ ks) (hQ : Q v T.heap locs) : own_Ends p e below s Q kc ks T g := by
  obtain ⟨fs, hr, hrun, hended, hW, hsame⟩ := X.leave (v := v) hv hlk
  exact ⟨_, _, hs fs hr, hrun, hended, _, _, rfl, hQ, ⟨_, rfl⟩, hW, hsame.mono hc hn⟩
theorem own_retI (X : Stand p l e R s m args below meth c T locs cells slots) (hx : p.tables.exec = Jvm.exec) (hlk : meth.locks = false) {z : Int32} (hret : meth.sig.returnType = some .int) (hd : decode c.code pc = .ok (.ireturn, 1)) (hc : cells ≤ kc) (hn : slots ≤ ks) (hQ : Q (some (.int z)) T.heap locs) : own_Ends p e below s Q kc ks T (mkF m pc ls (.int z :: st)) :=
  own_leave X hlk (fun h => by rw [hret] at h; cases h) (fun fs hr => retI X hx hret hd hr) hc hn hQ
theorem own_retN (X : Stand p l e R s m args below meth c T locs cells slots) (hx : p.tables.exec = Jvm.exec) (hlk : meth.locks = false) {z : Int32} {ty : FieldType} (hret : meth.sig.returnType = some ty) (ht : ty = .boolean ∨ ty = .byte ∨ ty = .char ∨ ty = .short) (hd : decode c.code pc = .ok (.ireturn, 1)) (hc : cells ≤ kc) (hn : slots ≤ ks) (hQ : Q (some (.int (nar ty z))) T.heap locs) : own_Ends p e below s Q kc ks T (mkF m pc ls (.int z :: st)) :=
  own_leave X hlk (fun h => by rw [hret] at h; cases h) (fun fs hr => retN X hx (t := ty) hret ht hd hr) hc hn hQ
theorem own_retL (X : Stand p l e R s m args below meth c T locs cells slots) (hx : p.tables.exec = Jvm.exec) (hlk : meth.locks = false) {z : Int64} (hret : meth.sig.returnType = some .long) (hd : decode c.code pc = .ok (.lreturn, 1)) (hc : cells ≤ kc) (hn : slots ≤ ks) (hQ : Q (some (.long z)) T.heap locs) : own_Ends p e below s Q kc ks T (mkF m pc ls [.long z]) :=
  own_leave X hlk (fun h => by rw [hret] at h; cases h) (fun fs hr => retOut X hx (t := .long) hret rfl (Or.inr (Or.inl ⟨rfl, rfl, _, rfl⟩)) hd hr) hc hn hQ
theorem own_retD (X : Stand p l e R s m args below meth c T locs cells slots) (hx : p.tables.exec = Jvm.exec) (hlk : meth.locks = false) {z : UInt64} (hret : meth.sig.returnType = some .double) (hd : decode c.code pc = .ok (.dreturn, 1)) (hc : cells ≤ kc) (hn : slots ≤ ks) (hQ : Q (some (.double z)) T.heap locs) : own_Ends p e below s Q kc ks T (mkF m pc ls [.double z]) :=
  own_leave X hlk (fun h => by rw [hret] at h; cases h) (fun fs hr => retOut X hx (t := .double) hret rfl (Or.inr (Or.inr (Or.inl ⟨rfl, rfl, _, rfl⟩))) hd hr) hc hn hQ
theorem own_retA (X : Stand p l e R s m args below meth c T locs cells slots) (hx : p.tables.exec = Jvm.exec) (hlk : meth.locks = false) {w : Value} {ty : FieldType} (hret : meth.sig.returnType = some ty) (ht : ty.isReference = true) (hw : w.isRef = true) (hn1 : narrow ty w = w) (hd : decode c.code pc = .ok (.areturn, 1)) (hc : cells ≤ kc) (hn : slots ≤ ks) (hQ : Q (some w) T.heap locs) : own_Ends p e below s Q kc ks T (mkF m pc ls (w :: st)) :=
  own_leave X hlk (fun h => by rw [hret] at h; cases h) (fun fs hr => retOut X hx (t := ty) hret hn1 (Or.inr (Or.inr (Or.inr (Or.inr ⟨rfl, ht, hw⟩)))) hd hr) hc hn hQ
theorem own_retV (X : Stand p l e R s m args below meth c T locs cells slots) (hx : p.tables.exec = Jvm.exec) (hlk : meth.locks = false) (hret : meth.sig.returnType = none) (hd : decode c.code pc = .ok (.return_, 1)) (hc : cells ≤ kc) (hn : slots ≤ ks) (hQ : Q none T.heap locs) : own_Ends p e below s Q kc ks T (mkF m pc ls []) :=
  own_leave X hlk (fun _ => rfl) (fun fs hr => X.returnOut hx hret hd hr) hc hn hQ
theorem own_iloadN (X : Stand p l e R s m args below meth c T locs cells slots) (hx : p.tables.exec = Jvm.exec) {k : Fin 4} {v : Int32} (hd : decode c.code pc = .ok (.iload_n k, 1)) (hp : pc + 1 = pc') (hl : ls[k.val]? = some (.val (.int v))) (K : own_Ends p e below s Q kc ks T (mkF m pc' ls (.int v :: st))) : own_Ends p e below s Q kc ks T (mkF m pc ls st) := by
  subst hp
  exact own_go (fun t k => XS.iloadN X.here hx rfl hd hl k) K
theorem own_iload (X : Stand p l e R s m args below meth c T locs cells slots) (hx : p.tables.exec = Jvm.exec) {k : Nat} {v : Int32} (hd : decode c.code pc = .ok (.iload k, 2)) (hp : pc + 2 = pc') (hl : ls[k]? = some (.val (.int v))) (K : own_Ends p e below s Q kc ks T (mkF m pc' ls (.int v :: st))) : own_Ends p e below s Q kc ks T (mkF m pc ls st) := by
  subst hp
  exact own_go (fun t k => XS.iload X.here hx rfl hd hl k) K
theorem own_istoreN (X : Stand p l e R s m args below meth c T locs cells slots) (hx : p.tables.exec = Jvm.exec) {k : Fin 4} {v : Int32} {l' : Array Slot} (hd : decode c.code pc = .ok (.istore_n k, 1)) (hp : pc + 1 = pc') (hl : storeLocals ls k.val (.int v) = some l') (K : own_Ends p e below s Q kc ks T (mkF m pc' l' st)) : own_Ends p e below s Q kc ks T (mkF m pc ls (.int v :: st)) := by
  subst hp
  exact own_go (fun t k => XS.istoreN X.here hx rfl hd rfl hl k) K
theorem own_istore (X : Stand p l e R s m args below meth c T locs cells slots) (hx : p.tables.exec = Jvm.exec) {k : Nat} {v : Int32} {l' : Array Slot} (hd : decode c.code pc = .ok (.istore k, 2)) (hp : pc + 2 = pc') (hl : storeLocals ls k (.int v) = some l') (K : own_Ends p e below s Q kc ks T (mkF m pc' l' st)) : own_Ends p e below s Q kc ks T (mkF m pc ls (.int v :: st)) := by
  subst hp
  exact own_go (fun t k => XS.istore X.here hx rfl hd rfl hl k) K
theorem own_lloadN (X : Stand p l e R s m args below meth c T locs cells slots) (hx : p.tables.exec = Jvm.exec) {k : Fin 4} {v : Int64} (hd : decode c.code pc = .ok (.lload_n k, 1)) (hp : pc + 1 = pc') (hl : ls[k.val]? = some (.val (.long v))) (K : own_Ends p e below s Q kc ks T (mkF m pc' ls (.long v :: st))) : own_Ends p e below s Q kc ks T (mkF m pc ls st) := by
  subst hp
  exact own_go (fun t k => XS.lloadN X.here hx rfl hd hl k) K
theorem own_lload (X : Stand p l e R s m args below meth c T locs cells slots) (hx : p.tables.exec = Jvm.exec) {k : Nat} {v : Int64} (hd : decode c.code pc = .ok (.lload k, 2)) (hp : pc + 2 = pc') (hl : ls[k]? = some (.val (.long v))) (K : own_Ends p e below s Q kc ks T (mkF m pc' ls (.long v :: st))) : own_Ends p e below s Q kc ks T (mkF m pc ls st) := by
  subst hp
  exact own_go (fun t k => XS.lload X.here hx rfl hd hl k) K
theorem own_lstoreN (X : Stand p l e R s m args below meth c T locs cells slots) (hx : p.tables.exec = Jvm.exec) {k : Fin 4} {v : Int64} {l' : Array Slot} (hd : decode c.code pc = .ok (.lstore_n k, 1)) (hp : pc + 1 = pc') (hl : storeLocals ls k.val (.long v) = some l') (K : own_Ends p e below s Q kc ks T (mkF m pc' l' st)) : own_Ends p e below s Q kc ks T (mkF m pc ls (.long v :: st)) := by
  subst hp
  exact own_go (fun t k => XS.lstoreN X.here hx rfl hd rfl hl k) K
theorem own_lstore (X : Stand p l e R s m args below meth c T locs cells slots) (hx : p.tables.exec = Jvm.exec) {k : Nat} {v : Int64} {l' : Array Slot} (hd : decode c.code pc = .ok (.lstore k, 2)) (hp : pc + 2 = pc') (hl : storeLocals ls k (.long v) = some l') (K : own_Ends p e below s Q kc ks T (mkF m pc' l' st)) : own_Ends p e below s Q kc ks T (mkF m pc ls (.long v :: st)) := by
  subst hp
  exact own_go (fun t k => XS.lstore X.here hx rfl hd rfl hl k) K
theorem own_dloadN (X : Stand p l e R s m args below meth c T locs cells slots) (hx : p.tables.exec = Jvm.exec) {k : Fin 4} {v : UInt64} (hd : decode c.code pc = .ok (.dload_n k, 1)) (hp : pc + 1 = pc') (hl : ls[k.val]? = some (.val (.double v))) (K : own_Ends p e below s Q kc ks T (mkF m pc' ls (.double v :: st))) : own_Ends p e below s Q kc ks T (mkF m pc ls st) := by
  subst hp
  exact own_go (fun t k => XS.dloadN X.here hx rfl hd hl k) K
theorem own_dload (X : Stand p l e R s m args below meth c T locs cells slots) (hx : p.tables.exec = Jvm.exec) {k : Nat} {v : UInt64} (hd : decode c.code pc = .ok (.dload k, 2)) (hp : pc + 2 = pc') (hl : ls[k]? = some (.val (.double v))) (K : own_Ends p e below s Q kc ks T (mkF m pc' ls (.double v :: st))) : own_Ends p e below s Q kc ks T (mkF m pc ls st) := by
  subst hp
  exact own_go (fun t k => XS.dload X.here hx rfl hd hl k) K
theorem own_dstoreN (X : Stand p l e R s m args below meth c T locs cells slots) (hx : p.tables.exec = Jvm.exec) {k : Fin 4} {v : UInt64} {l' : Array Slot} (hd : decode c.code pc = .ok (.dstore_n k, 1)) (hp : pc + 1 = pc') (hl : storeLocals ls k.val (.double v) = some l') (K : own_Ends p e below s Q kc ks T (mkF m pc' l' st)) : own_Ends p e below s Q kc ks T (mkF m pc ls (.double v :: st)) := by
  subst hp
  exact own_go (fun t k => XS.dstoreN X.here hx rfl hd rfl hl k) K
theorem own_dstore (X : Stand p l e R s m args below meth c T locs cells slots) (hx : p.tables.exec = Jvm.exec) {k : Nat} {v : UInt64} {l' : Array Slot} (hd : decode c.code pc = .ok (.dstore k, 2)) (hp : pc + 2 = pc') (hl : storeLocals ls k (.double v) = some l') (K : own_Ends p e below s Q kc ks T (mkF m pc' l' st)) : own_Ends p e below s Q kc ks T (mkF m pc ls (.double v :: st)) := by
  subst hp
  exact own_go (fun t k => XS.dstore X.here hx rfl hd rfl hl k) K
theorem own_aloadN (X : Stand p l e R s m args below meth c T locs cells slots) (hx : p.tables.exec = Jvm.exec) {k : Fin 4} {v : Value} (hd : decode c.code pc = .ok (.aload_n k, 1)) (hp : pc + 1 = pc') (hl : ls[k.val]? = some (.val v)) (hv : v.isRef = true) (K : own_Ends p e below s Q kc ks T (mkF m pc' ls (v :: st))) : own_Ends p e below s Q kc ks T (mkF m pc ls st) := by
  subst hp
  exact own_go (fun t k => XS.aloadN X.here hx rfl hd hl hv k) K
theorem own_aload (X : Stand p l e R s m args below meth c T locs cells slots) (hx : p.tables.exec = Jvm.exec) {k : Nat} {v : Value} (hd : decode c.code pc = .ok (.aload k, 2)) (hp : pc + 2 = pc') (hl : ls[k]? = some (.val v)) (hv : v.isRef = true) (K : own_Ends p e below s Q kc ks T (mkF m pc' ls (v :: st))) : own_Ends p e below s Q kc ks T (mkF m pc ls st) := by
  subst hp
  exact own_go (fun t k => XS.aload X.here hx rfl hd hl hv k) K
theorem own_astoreN (X : Stand p l e R s m args below meth c T locs cells slots) (hx : p.tables.exec = Jvm.exec) {k : Fin 4} {v : Value} {l' : Array Slot} (hd : decode c.code pc = .ok (.astore_n k, 1)) (hp : pc + 1 = pc') (hv : v.isRef = true) (hl : storeLocals ls k.val v = some l') (K : own_Ends p e below s Q kc ks T (mkF m pc' l' st)) : own_Ends p e below s Q kc ks T (mkF m pc ls (v :: st)) := by
  subst hp
  exact own_go (fun t k => XS.astoreN X.here hx rfl hd rfl hv hl k) K
theorem own_astore (X : Stand p l e R s m args below meth c T locs cells slots) (hx : p.tables.exec = Jvm.exec) {k : Nat} {v : Value} {l' : Array Slot} (hd : decode c.code pc = .ok (.astore k, 2)) (hp : pc + 2 = pc') (hv : v.isRef = true) (hl : storeLocals ls k v = some l') (K : own_Ends p e below s Q kc ks T (mkF m pc' l' st)) : own_Ends p e below s Q kc ks T (mkF m pc ls (v :: st)) := by
  subst hp
  exact own_go (fun t k => XS.astore X.here hx rfl hd rfl hv hl k) K
theorem own_iconst (X : Stand p l e R s m args below meth c T locs cells slots) (hx : p.tables.exec = Jvm.exec) {i : Int} {z : Int32} (hd : decode c.code pc = .ok (.iconst i, 1)) (hp : pc + 1 = pc') (hz : Int32.ofInt i = z) (K : own_Ends p e below s Q kc ks T (mkF m pc' ls (.int z :: st))) : own_Ends p e below s Q kc ks T (mkF m pc ls st) := by
  subst hp hz
  exact own_go (fun t k => XS.iconst X.here hx rfl hd k) K
theorem own_bipush (X : Stand p l e R s m args below meth c T locs cells slots) (hx : p.tables.exec = Jvm.exec) {i : Int} {z : Int32} (hd : decode c.code pc = .ok (.bipush i, 2)) (hp : pc + 2 = pc') (hz : (Int8.ofInt i).toInt32 = z) (K : own_Ends p e below s Q kc ks T (mkF m pc' ls (.int z :: st))) : own_Ends p e below s Q kc ks T (mkF m pc ls st) := by
  subst hp hz
  exact own_go (fun t k => XS.bipush X.here hx rfl hd k) K
theorem own_sipush (X : Stand p l e R s m args below meth c T locs cells slots) (hx : p.tables.exec = Jvm.exec) {i : Int} {z : Int32} (hd : decode c.code pc = .ok (.sipush i, 3)) (hp : pc + 3 = pc') (hz : (Int16.ofInt i).toInt32 = z) (K : own_Ends p e below s Q kc ks T (mkF m pc' ls (.int z :: st))) : own_Ends p e below s Q kc ks T (mkF m pc ls st) := by
  subst hp hz
  exact own_go (fun t k => XS.sipush X.here hx rfl hd k) K
theorem own_lconst (X : Stand p l e R s m args below meth c T locs cells slots) (hx : p.tables.exec = Jvm.exec) {k : Fin 2} {z : Int64} (hd : decode c.code pc = .ok (.lconst k, 1)) (hp : pc + 1 = pc') (hz : Int64.ofNat k = z) (K : own_Ends p e below s Q kc ks T (mkF m pc' ls (.long z :: st))) : own_Ends p e below s Q kc ks T (mkF m pc ls st) := by
  subst hp hz
  exact own_go (fun t k => XS.lconst X.here hx rfl hd k) K
theorem own_anull (X : Stand p l e R s m args below meth c T locs cells slots) (hx : p.tables.exec = Jvm.exec) (hd : decode c.code pc = .ok (.aconst_null, 1)) (hp : pc + 1 = pc')  (K : own_Ends p e below s Q kc ks T (mkF m pc' ls (.null :: st))) : own_Ends p e below s Q kc ks T (mkF m pc ls st) := by
  subst hp
  exact own_go (fun t k => XS.aconstNull X.here hx rfl hd k) K
theorem own_iadd (X : Stand p l e R s m args below meth c T locs cells slots) (hx : p.tables.exec = Jvm.exec) {x y z : Int32} (hd : decode c.code pc = .ok (.iadd, 1)) (hp : pc + 1 = pc') (hz : x + y = z) (K : own_Ends p e below s Q kc ks T (mkF m pc' ls (.int z :: st))) : own_Ends p e below s Q kc ks T (mkF m pc ls (.int y :: .int x :: st)) := by
  subst hp hz
  exact own_go (fun t k => XS.iadd X.here hx rfl hd rfl k) K
theorem own_ladd (X : Stand p l e R s m args below meth c T locs cells slots) (hx : p.tables.exec = Jvm.exec) {x y z : Int64} (hd : decode c.code pc = .ok (.ladd, 1)) (hp : pc + 1 = pc') (hz : x + y = z) (K : own_Ends p e below s Q kc ks T (mkF m pc' ls (.long z :: st))) : own_Ends p e below s Q kc ks T (mkF m pc ls (.long y :: .long x :: st)) := by
  subst hp hz
  exact own_go (fun t k => XS.ladd X.here hx rfl hd rfl k) K
theorem own_isub (X : Stand p l e R s m args below meth c T locs cells slots) (hx : p.tables.exec = Jvm.exec) {x y z : Int32} (hd : decode c.code pc = .ok (.isub, 1)) (hp : pc + 1 = pc') (hz : x - y = z) (K : own_Ends p e below s Q kc ks T (mkF m pc' ls (.int z :: st))) : own_Ends p e below s Q kc ks T (mkF m pc ls (.int y :: .int x :: st)) := by
  subst hp hz
  exact own_go (fun t k => XS.isub X.here hx rfl hd rfl k) K
theorem own_lsub (X : Stand p l e R s m args below meth c T locs cells slots) (hx : p.tables.exec = Jvm.exec) {x y z : Int64} (hd : decode c.code pc = .ok (.lsub, 1)) (hp : pc + 1 = pc') (hz : x - y = z) (K : own_Ends p e below s Q kc ks T (mkF m pc' ls (.long z :: st))) : own_Ends p e below s Q kc ks T (mkF m pc ls (.long y :: .long x :: st)) := by
  subst hp hz
  exact own_go (fun t k => XS.lsub X.here hx rfl hd rfl k) K
theorem own_imul (X : Stand p l e R s m args below meth c T locs cells slots) (hx : p.tables.exec = Jvm.exec) {x y z : Int32} (hd : decode c.code pc = .ok (.imul, 1)) (hp : pc + 1 = pc') (hz : x * y = z) (K : own_Ends p e below s Q kc ks T (mkF m pc' ls (.int z :: st))) : own_Ends p e below s Q kc ks T (mkF m pc ls (.int y :: .int x :: st)) := by
  subst hp hz
  exact own_go (fun t k => XS.imul X.here hx rfl hd rfl k) K
theorem own_lmul (X : Stand p l e R s m args below meth c T locs cells slots) (hx : p.tables.exec = Jvm.exec) {x y z : Int64} (hd : decode c.code pc = .ok (.lmul, 1)) (hp : pc + 1 = pc') (hz : x * y = z) (K : own_Ends p e below s Q kc ks T (mkF m pc' ls (.long z :: st))) : own_Ends p e below s Q kc ks T (mkF m pc ls (.long y :: .long x :: st)) := by
  subst hp hz
  exact own_go (fun t k => XS.lmul X.here hx rfl hd rfl k) K
theorem own_iand (X : Stand p l e R s m args below meth c T locs cells slots) (hx : p.tables.exec = Jvm.exec) {x y z : Int32} (hd : decode c.code pc = .ok (.iand, 1)) (hp : pc + 1 = pc') (hz : x &&& y = z) (K : own_Ends p e below s Q kc ks T (mkF m pc' ls (.int z :: st))) : own_Ends p e below s Q kc ks T (mkF m pc ls (.int y :: .int x :: st)) := by
  subst hp hz
  exact own_go (fun t k => XS.iand X.here hx rfl hd rfl k) K
theorem own_land (X : Stand p l e R s m args below meth c T locs cells slots) (hx : p.tables.exec = Jvm.exec) {x y z : Int64} (hd : decode c.code pc = .ok (.land, 1)) (hp : pc + 1 = pc') (hz : x &&& y = z) (K : own_Ends p e below s Q kc ks T (mkF m pc' ls (.long z :: st))) : own_Ends p e below s Q kc ks T (mkF m pc ls (.long y :: .long x :: st)) := by
  subst hp hz
  exact own_go (fun t k => XS.land X.here hx rfl hd rfl k) K
theorem own_ior (X : Stand p l e R s m args below meth c T locs cells slots) (hx : p.tables.exec = Jvm.exec) {x y z : Int32} (hd : decode c.code pc = .ok (.ior, 1)) (hp : pc + 1 = pc') (hz : x ||| y = z) (K : own_Ends p e below s Q kc ks T (mkF m pc' ls (.int z :: st))) : own_Ends p e below s Q kc ks T (mkF m pc ls (.int y :: .int x :: st)) := by
  subst hp hz
  exact own_go (fun t k => XS.ior X.here hx rfl hd rfl k) K
theorem own_lor (X : Stand p l e R s m args below meth c T locs cells slots) (hx : p.tables.exec = Jvm.exec) {x y z : Int64} (hd : decode c.code pc = .ok (.lor, 1)) (hp : pc + 1 = pc') (hz : x ||| y = z) (K : own_Ends p e below s Q kc ks T (mkF m pc' ls (.long z :: st))) : own_Ends p e below s Q kc ks T (mkF m pc ls (.long y :: .long x :: st)) := by
  subst hp hz
  exact own_go (fun t k => XS.lor X.here hx rfl hd rfl k) K
theorem own_ixor (X : Stand p l e R s m args below meth c T locs cells slots) (hx : p.tables.exec = Jvm.exec) {x y z : Int32} (hd : decode c.code pc = .ok (.ixor, 1)) (hp : pc + 1 = pc') (hz : x ^^^ y = z) (K : own_Ends p e below s Q kc ks T (mkF m pc' ls (.int z :: st))) : own_Ends p e below s Q kc ks T (mkF m pc ls (.int y :: .int x :: st)) := by
  subst hp hz
  exact own_go (fun t k => XS.ixor X.here hx rfl hd rfl k) K
theorem own_lxor (X : Stand p l e R s m args below meth c T locs cells slots) (hx : p.tables.exec = Jvm.exec) {x y z : Int64} (hd : decode c.code pc = .ok (.lxor, 1)) (hp : pc + 1 = pc') (hz : x ^^^ y = z) (K : own_Ends p e below s Q kc ks T (mkF m pc' ls (.long z :: st))) : own_Ends p e below s Q kc ks T (mkF m pc ls (.long y :: .long x :: st)) := by
  subst hp hz
  exact own_go (fun t k => XS.lxor X.here hx rfl hd rfl k) K
theorem own_ishl (X : Stand p l e R s m args below meth c T locs cells slots) (hx : p.tables.exec = Jvm.exec) {x y z : Int32} (hd : decode c.code pc = .ok (.ishl, 1)) (hp : pc + 1 = pc') (hz : x <<< (y &&& 31) = z) (K : own_Ends p e below s Q kc ks T (mkF m pc' ls (.int z :: st))) : own_Ends p e below s Q kc ks T (mkF m pc ls (.int y :: .int x :: st)) := by
  subst hp hz
  exact own_go (fun t k => XS.ishl X.here hx rfl hd rfl k) K
theorem own_ishr (X : Stand p l e R s m args below meth c T locs cells slots) (hx : p.tables.exec = Jvm.exec) {x y z : Int32} (hd : decode c.code pc = .ok (.ishr, 1)) (hp : pc + 1 = pc') (hz : x >>> (y &&& 31) = z) (K : own_Ends p e below s Q kc ks T (mkF m pc' ls (.int z :: st))) : own_Ends p e below s Q kc ks T (mkF m pc ls (.int y :: .int x :: st)) := by
  subst hp hz
  exact own_go (fun t k => XS.ishr X.here hx rfl hd rfl k) K
theorem own_iushr (X : Stand p l e R s m args below meth c T locs cells slots) (hx : p.tables.exec = Jvm.exec) {x y z : Int32} (hd : decode c.code pc = .ok (.iushr, 1)) (hp : pc + 1 = pc') (hz : (x.toUInt32 >>> (y &&& 31).toUInt32).toInt32 = z) (K : own_Ends p e below s Q kc ks T (mkF m pc' ls (.int z :: st))) : own_Ends p e below s Q kc ks T (mkF m pc ls (.int y :: .int x :: st)) := by
  subst hp hz
  exact own_go (fun t k => XS.iushr X.here hx rfl hd rfl k) K
theorem own_lshl (X : Stand p l e R s m args below meth c T locs cells slots) (hx : p.tables.exec = Jvm.exec) {x z : Int64} {y : Int32} (hd : decode c.code pc = .ok (.lshl, 1)) (hp : pc + 1 = pc') (hz : x <<< (y &&& 0x3f).toInt64 = z) (K : own_Ends p e below s Q kc ks T (mkF m pc' ls (.long z :: st))) : own_Ends p e below s Q kc ks T (mkF m pc ls (.int y :: .long x :: st)) := by
  subst hp hz
  exact own_go (fun t k => XS.lshl X.here hx rfl hd rfl k) K
theorem own_lshr (X : Stand p l e R s m args below meth c T locs cells slots) (hx : p.tables.exec = Jvm.exec) {x z : Int64} {y : Int32} (hd : decode c.code pc = .ok (.lshr, 1)) (hp : pc + 1 = pc') (hz : x >>> (y &&& 0x3f).toInt64 = z) (K : own_Ends p e below s Q kc ks T (mkF m pc' ls (.long z :: st))) : own_Ends p e below s Q kc ks T (mkF m pc ls (.int y :: .long x :: st)) := by
  subst hp hz
  exact own_go (fun t k => XS.lshr X.here hx rfl hd rfl k) K
theorem own_lushr (X : Stand p l e R s m args below meth c T locs cells slots) (hx : p.tables.exec = Jvm.exec) {x z : Int64} {y : Int32} (hd : decode c.code pc = .ok (.lushr, 1)) (hp : pc + 1 = pc') (hz : (x.toUInt64 >>> (y &&& 0x3f).toInt64.toUInt64).toInt64 = z) (K : own_Ends p e below s Q kc ks T (mkF m pc' ls (.long z :: st))) : own_Ends p e below s Q kc ks T (mkF m pc ls (.int y :: .long x :: st)) := by
  subst hp hz
  exact own_go (fun t k => XS.lushr X.here hx rfl hd rfl k) K
theorem own_idiv (X : Stand p l e R s m args below meth c T locs cells slots) (hx : p.tables.exec = Jvm.exec) {x y z : Int32} (hd : decode c.code pc = .ok (.idiv, 1)) (hp : pc + 1 = pc') (hy : y ≠ 0) (hz : x / y = z) (K : own_Ends p e below s Q kc ks T (mkF m pc' ls (.int z :: st))) : own_Ends p e below s Q kc ks T (mkF m pc ls (.int y :: .int x :: st)) := by
  subst hp hz
  exact own_go (fun t k => XS.idiv X.here hx rfl hd rfl hy k) K
theorem own_irem (X : Stand p l e R s m args below meth c T locs cells slots) (hx : p.tables.exec = Jvm.exec) {x y z : Int32} (hd : decode c.code pc = .ok (.irem, 1)) (hp : pc + 1 = pc') (hy : y ≠ 0) (hz : x % y = z) (K : own_Ends p e below s Q kc ks T (mkF m pc' ls (.int z :: st))) : own_Ends p e below s Q kc ks T (mkF m pc ls (.int y :: .int x :: st)) := by
  subst hp hz
  exact own_go (fun t k => iremM (g := mkF m pc ls (.int y :: .int x :: st)) X hx rfl hd rfl hy k) K
theorem own_ldiv (X : Stand p l e R s m args below meth c T locs cells slots) (hx : p.tables.exec = Jvm.exec) {x y z : Int64} (hd : decode c.code pc = .ok (.ldiv, 1)) (hp : pc + 1 = pc') (hy : y ≠ 0) (hz : x / y = z) (K : own_Ends p e below s Q kc ks T (mkF m pc' ls (.long z :: st))) : own_Ends p e below s Q kc ks T (mkF m pc ls (.long y :: .long x :: st)) := by
  subst hp hz
  exact own_go (fun t k => XS.ldiv X.here hx rfl hd rfl hy k) K
theorem own_lrem (X : Stand p l e R s m args below meth c T locs cells slots) (hx : p.tables.exec = Jvm.exec) {x y z : Int64} (hd : decode c.code pc = .ok (.lrem, 1)) (hp : pc + 1 = pc') (hy : y ≠ 0) (hz : x - (x / y) * y = z) (K : own_Ends p e below s Q kc ks T (mkF m pc' ls (.long z :: st))) : own_Ends p e below s Q kc ks T (mkF m pc ls (.long y :: .long x :: st)) := by
  subst hp hz
  exact own_go (fun t k => XS.lrem X.here hx rfl hd rfl hy k) K
theorem own_ineg (X : Stand p l e R s m args below meth c T locs cells slots) (hx : p.tables.exec = Jvm.exec) {x : Int32} {z : Int32} (hd : decode c.code pc = .ok (.ineg, 1)) (hp : pc + 1 = pc') (hz : -x = z) (K : own_Ends p e below s Q kc ks T (mkF m pc' ls (.int z :: st))) : own_Ends p e below s Q kc ks T (mkF m pc ls (.int x :: st)) := by
  subst hp hz
  exact own_go (fun t k => XS.ineg X.here hx rfl hd rfl k) K
theorem own_lneg (X : Stand p l e R s m args below meth c T locs cells slots) (hx : p.tables.exec = Jvm.exec) {x : Int64} {z : Int64} (hd : decode c.code pc = .ok (.lneg, 1)) (hp : pc + 1 = pc') (hz : -x = z) (K : own_Ends p e below s Q kc ks T (mkF m pc' ls (.long z :: st))) : own_Ends p e below s Q kc ks T (mkF m pc ls (.long x :: st)) := by
  subst hp hz
  exact own_go (fun t k => XS.lneg X.here hx rfl hd rfl k) K
theorem own_i2l (X : Stand p l e R s m args below meth c T locs cells slots) (hx : p.tables.exec = Jvm.exec) {x : Int32} {z : Int64} (hd : decode c.code pc = .ok (.i2l, 1)) (hp : pc + 1 = pc') (hz : x.toInt64 = z) (K : own_Ends p e below s Q kc ks T (mkF m pc' ls (.long z :: st))) : own_Ends p e below s Q kc ks T (mkF m pc ls (.int x :: st)) := by
  subst hp hz
  exact own_go (fun t k => XS.i2l X.here hx rfl hd rfl k) K
theorem own_l2i (X : Stand p l e R s m args below meth c T locs cells slots) (hx : p.tables.exec = Jvm.exec) {x : Int64} {z : Int32} (hd : decode c.code pc = .ok (.l2i, 1)) (hp : pc + 1 = pc') (hz : x.toInt32 = z) (K : own_Ends p e below s Q kc ks T (mkF m pc' ls (.int z :: st))) : own_Ends p e below s Q kc ks T (mkF m pc ls (.long x :: st)) := by
  subst hp hz
  exact own_go (fun t k => XS.l2i X.here hx rfl hd rfl k) K
theorem own_i2b (X : Stand p l e R s m args below meth c T locs cells slots) (hx : p.tables.exec = Jvm.exec) {x : Int32} {z : Int32} (hd : decode c.code pc = .ok (.i2b, 1)) (hp : pc + 1 = pc') (hz : x.toInt8.toInt32 = z) (K : own_Ends p e below s Q kc ks T (mkF m pc' ls (.int z :: st))) : own_Ends p e below s Q kc ks T (mkF m pc ls (.int x :: st)) := by
  subst hp hz
  exact own_go (fun t k => XS.i2b X.here hx rfl hd rfl k) K
theorem own_i2s (X : Stand p l e R s m args below meth c T locs cells slots) (hx : p.tables.exec = Jvm.exec) {x : Int32} {z : Int32} (hd : decode c.code pc = .ok (.i2s, 1)) (hp : pc + 1 = pc') (hz : x.toInt16.toInt32 = z) (K : own_Ends p e below s Q kc ks T (mkF m pc' ls (.int z :: st))) : own_Ends p e below s Q kc ks T (mkF m pc ls (.int x :: st)) := by
  subst hp hz
  exact own_go (fun t k => XS.i2s X.here hx rfl hd rfl k) K
theorem own_i2c (X : Stand p l e R s m args below meth c T locs cells slots) (hx : p.tables.exec = Jvm.exec) {x : Int32} {z : Int32} (hd : decode c.code pc = .ok (.i2c, 1)) (hp : pc + 1 = pc') (hz : x.toUInt32.toUInt16.toUInt32.toInt32 = z) (K : own_Ends p e below s Q kc ks T (mkF m pc' ls (.int z :: st))) : own_Ends p e below s Q kc ks T (mkF m pc ls (.int x :: st)) := by
  subst hp hz
  exact own_go (fun t k => XS.i2c X.here hx rfl hd rfl k) K
theorem own_i2d (X : Stand p l e R s m args below meth c T locs cells slots) (hx : p.tables.exec = Jvm.exec) {x : Int32} {z : UInt64} (hd : decode c.code pc = .ok (.i2d, 1)) (hp : pc + 1 = pc') (hz : FP.i2d x = z) (K : own_Ends p e below s Q kc ks T (mkF m pc' ls (.double z :: st))) : own_Ends p e below s Q kc ks T (mkF m pc ls (.int x :: st)) := by
  subst hp hz
  exact own_go (fun t k => XS.i2dS (g := mkF m pc ls (.int x :: st)) X.here hx rfl hd rfl rfl k) K
theorem own_dadd (X : Stand p l e R s m args below meth c T locs cells slots) (hx : p.tables.exec = Jvm.exec) {x y z : UInt64} (hd : decode c.code pc = .ok (.dadd, 1)) (hp : pc + 1 = pc') (hn : Jvm.Free.Fl.NoNaN64 (FP.dadd x y)) (hz : FP.dadd x y = z) (K : own_Ends p e below s Q kc ks T (mkF m pc' ls (.double z :: st))) : own_Ends p e below s Q kc ks T (mkF m pc ls (.double y :: .double x :: st)) := by
  subst hp hz
  exact own_go (fun t k => XS.daddS (g := mkF m pc ls (.double y :: .double x :: st)) X.here hx rfl hd rfl hn rfl k) K
theorem own_dmul (X : Stand p l e R s m args below meth c T locs cells slots) (hx : p.tables.exec = Jvm.exec) {x y z : UInt64} (hd : decode c.code pc = .ok (.dmul, 1)) (hp : pc + 1 = pc') (hn : Jvm.Free.Fl.NoNaN64 (FP.dmul x y)) (hz : FP.dmul x y = z) (K : own_Ends p e below s Q kc ks T (mkF m pc' ls (.double z :: st))) : own_Ends p e below s Q kc ks T (mkF m pc ls (.double y :: .double x :: st)) := by
  subst hp hz
  exact own_go (fun t k => XS.dmulS (g := mkF m pc ls (.double y :: .double x :: st)) X.here hx rfl hd rfl hn rfl k) K
theorem own_dcmp (X : Stand p l e R s m args below meth c T locs cells slots) (hx : p.tables.exec = Jvm.exec) {o : CmpOp} {x y : UInt64} {z : Int32} (hd : decode c.code pc = .ok (.dcmp o, 1)) (hp : pc + 1 = pc') (hz : cmpValue (FP.dcmp x y) o = z) (K : own_Ends p e below s Q kc ks T (mkF m pc' ls (.int z :: st))) : own_Ends p e below s Q kc ks T (mkF m pc ls (.double y :: .double x :: st)) := by
  subst hp hz
  exact own_go (fun t k => XS.dcmpS (g := mkF m pc ls (.double y :: .double x :: st)) X.here hx rfl hd rfl rfl k) K
theorem own_lcmp (X : Stand p l e R s m args below meth c T locs cells slots) (hx : p.tables.exec = Jvm.exec) {x y : Int64} {z : Int32} (hd : decode c.code pc = .ok (.lcmp, 1)) (hp : pc + 1 = pc') (hz : lcmpW x y = z) (K : own_Ends p e below s Q kc ks T (mkF m pc' ls (.int z :: st))) : own_Ends p e below s Q kc ks T (mkF m pc ls (.long y :: .long x :: st)) := by
  subst hp hz
  exact own_go (fun t k => XS.lcmp X.here hx rfl hd rfl k) K
theorem own_pop (X : Stand p l e R s m args below meth c T locs cells slots) (hx : p.tables.exec = Jvm.exec) {v : Value} (hd : decode c.code pc = .ok (.pop, 1)) (hp : pc + 1 = pc') (hc : v.category = 1) (K : own_Ends p e below s Q kc ks T (mkF m pc' ls st)) : own_Ends p e below s Q kc ks T (mkF m pc ls (v :: st)) := by
  subst hp
  exact own_go (fun t k => XS.pop X.here hx rfl hd rfl hc k) K
theorem own_dup (X : Stand p l e R s m args below meth c T locs cells slots) (hx : p.tables.exec = Jvm.exec) {v : Value} (hd : decode c.code pc = .ok (.dup, 1)) (hp : pc + 1 = pc') (hc : v.category = 1) (K : own_Ends p e below s Q kc ks T (mkF m pc' ls (v :: v :: st))) : own_Ends p e below s Q kc ks T (mkF m pc ls (v :: st)) := by
  subst hp
  exact own_go (fun t k => XS.dup X.here hx rfl hd rfl hc k) K
theorem own_dupX1 (X : Stand p l e R s m args below meth c T locs cells slots) (hx : p.tables.exec = Jvm.exec) {v w : Value} (hd : decode c.code pc = .ok (.dup_x1, 1)) (hp : pc + 1 = pc') (hc : v.category = 1) (hc' : w.category = 1) (K : own_Ends p e below s Q kc ks T (mkF m pc' ls (v :: w :: v :: st))) : own_Ends p e below s Q kc ks T (mkF m pc ls (v :: w :: st)) := by
  subst hp
  exact own_go (fun t k => XS.dupX1 X.here hx rfl hd rfl hc hc' k) K
theorem own_dup2 (X : Stand p l e R s m args below meth c T locs cells slots) (hx : p.tables.exec = Jvm.exec) {v w : Value} (hd : decode c.code pc = .ok (.dup2, 1)) (hp : pc + 1 = pc') (hc : v.category = 1) (hc' : w.category = 1) (K : own_Ends p e below s Q kc ks T (mkF m pc' ls (v :: w :: v :: w :: st))) : own_Ends p e below s Q kc ks T (mkF m pc ls (v :: w :: st)) := by
  subst hp
  exact own_go (fun t k => XT.dup2 X.here hx rfl hd rfl hc hc' k) K
theorem own_dup2L (X : Stand p l e R s m args below meth c T locs cells slots) (hx : p.tables.exec = Jvm.exec) {x : Int64} (hd : decode c.code pc = .ok (.dup2, 1)) (hp : pc + 1 = pc')  (K : own_Ends p e below s Q kc ks T (mkF m pc' ls (.long x :: .long x :: st))) : own_Ends p e below s Q kc ks T (mkF m pc ls (.long x :: st)) := by
  subst hp
  exact own_go (fun t k => XT.dup2L X.here hx rfl hd rfl k) K
theorem own_iinc (X : Stand p l e R s m args below meth c T locs cells slots) (hx : p.tables.exec = Jvm.exec) {k : Nat} {i : Int} {x z : Int32} {l' : Array Slot} (hd : decode c.code pc = .ok (.iinc k i, 3)) (hp : pc + 3 = pc') (hl : ls[k]? = some (.val (.int x))) (hz : x + Int32.ofInt i = z) (hl' : storeLocals ls k (.int z) = some l') (K : own_Ends p e below s Q kc ks T (mkF m pc' l' st)) : own_Ends p e below s Q kc ks T (mkF m pc ls st) := by
  subst hp hz
  exact own_go (fun t k => XS.iinc X.here hx rfl hd hl hl' k) K
theorem own_goto (X : Stand p l e R s m args below meth c T locs cells slots) (hx : p.tables.exec = Jvm.exec) {o : Int} (hd : decode c.code pc = .ok (.goto o, 3)) (ho : 0 ≤ (pc : Int) + o) (hp : ((pc : Int) + o).toNat = pc') (K : own_Ends p e below s Q kc ks T (mkF m pc' ls st)) : own_Ends p e below s Q kc ks T (mkF m pc ls st) :=
  own_go (fun t k => XS.goto X.here hx rfl rfl hd ho hp k) K
theorem own_ifYes (X : Stand p l e R s m args below meth c T locs cells slots) (hx : p.tables.exec = Jvm.exec) {o : Int} {cd : ClassFile.Cond} {x : Int32} (hd : decode c.code pc = .ok (.ifCond cd o, 3)) (hc : if_icmp.holds cd x 0 = true) (ho : 0 ≤ (pc : Int) + o) (hp : ((pc : Int) + o).toNat = pc') (K : own_Ends p e below s Q kc ks T (mkF m pc' ls st)) : own_Ends p e below s Q kc ks T (mkF m pc ls (.int x :: st)) :=
  own_go (fun t k => XS.ifYes X.here hx rfl rfl hd rfl ((if0 _ _).trans hc) ho hp k) K
theorem own_ifNo (X : Stand p l e R s m args below meth c T locs cells slots) (hx : p.tables.exec = Jvm.exec) {o : Int} {cd : ClassFile.Cond} {x : Int32} (hd : decode c.code pc = .ok (.ifCond cd o, 3)) (hp : pc + 3 = pc') (hc : if_icmp.holds cd x 0 = false) (K : own_Ends p e below s Q kc ks T (mkF m pc' ls st)) : own_Ends p e below s Q kc ks T (mkF m pc ls (.int x :: st)) := by
  subst hp
  exact own_go (fun t k => XS.ifNo X.here hx rfl hd rfl ((if0 _ _).trans hc) k) K
theorem own_icmpYes (X : Stand p l e R s m args below meth c T locs cells slots) (hx : p.tables.exec = Jvm.exec) {o : Int} {cd : ClassFile.Cond} {x y : Int32} (hd : decode c.code pc = .ok (.if_icmp cd o, 3)) (hc : if_icmp.holds cd x y = true) (ho : 0 ≤ (pc : Int) + o) (hp : ((pc : Int) + o).toNat = pc') (K : own_Ends p e below s Q kc ks T (mkF m pc' ls st)) : own_Ends p e below s Q kc ks T (mkF m pc ls (.int y :: .int x :: st)) :=
  own_go (fun t k => XS.icmpYes X.here hx rfl rfl hd rfl hc ho hp k) K
theorem own_icmpNo (X : Stand p l e R s m args below meth c T locs cells slots) (hx : p.tables.exec = Jvm.exec) {o : Int} {cd : ClassFile.Cond} {x y : Int32} (hd : decode c.code pc = .ok (.if_icmp cd o, 3)) (hp : pc + 3 = pc') (hc : if_icmp.holds cd x y = false) (K : own_Ends p e below s Q kc ks T (mkF m pc' ls st)) : own_Ends p e below s Q kc ks T (mkF m pc ls (.int y :: .int x :: st)) := by
  subst hp
  exact own_go (fun t k => XS.icmpNo X.here hx rfl hd rfl hc k) K
theorem own_ifnullYes (X : Stand p l e R s m args below meth c T locs cells slots) (hx : p.tables.exec = Jvm.exec) {o : Int} (hd : decode c.code pc = .ok (.ifnull o, 3)) (ho : 0 ≤ (pc : Int) + o) (hp : ((pc : Int) + o).toNat = pc') (K : own_Ends p e below s Q kc ks T (mkF m pc' ls st)) : own_Ends p e below s Q kc ks T (mkF m pc ls (.null :: st)) :=
  own_go (fun t k => XS.ifnullYes X.here hx rfl rfl hd rfl ho hp k) K
theorem own_ifnullNo (X : Stand p l e R s m args below meth c T locs cells slots) (hx : p.tables.exec = Jvm.exec) {o : Int} {b : Addr} (hd : decode c.code pc = .ok (.ifnull o, 3)) (hp : pc + 3 = pc')  (K : own_Ends p e below s Q kc ks T (mkF m pc' ls st)) : own_Ends p e below s Q kc ks T (mkF m pc ls (.ref b :: st)) := by
  subst hp
  exact own_go (fun t k => XS.ifnullNo X.here hx rfl hd rfl k) K
theorem own_ifnonnullYes (X : Stand p l e R s m args below meth c T locs cells slots) (hx : p.tables.exec = Jvm.exec) {o : Int} {b : Addr} (hd : decode c.code pc = .ok (.ifnonnull o, 3)) (ho : 0 ≤ (pc : Int) + o) (hp : ((pc : Int) + o).toNat = pc') (K : own_Ends p e below s Q kc ks T (mkF m pc' ls st)) : own_Ends p e below s Q kc ks T (mkF m pc ls (.ref b :: st)) :=
  own_go (fun t k => XS.ifnonnullYes X.here hx rfl rfl hd rfl ho hp k) K
theorem own_ifnonnullNo (X : Stand p l e R s m args below meth c T locs cells slots) (hx : p.tables.exec = Jvm.exec) {o : Int} (hd : decode c.code pc = .ok (.ifnonnull o, 3)) (hp : pc + 3 = pc')  (K : own_Ends p e below s Q kc ks T (mkF m pc' ls st)) : own_Ends p e below s Q kc ks T (mkF m pc ls (.null :: st)) := by
  subst hp
  exact own_go (fun t k => XS.ifnonnullNo X.here hx rfl hd rfl k) K
theorem own_acmpYes (X : Stand p l e R s m args below meth c T locs cells slots) (hx : p.tables.exec = Jvm.exec) {o : Int} {cd : ACond} {v w : Value} (hd : decode c.code pc = .ok (.if_acmp cd o, 3)) (h1 : v.isRef = true) (h2 : w.isRef = true) (hc : XT.acmp cd v w = true) (ho : 0 ≤ (pc : Int) + o) (hp : ((pc : Int) + o).toNat = pc') (K : own_Ends p e below s Q kc ks T (mkF m pc' ls st)) : own_Ends p e below s Q kc ks T (mkF m pc ls (w :: v :: st)) :=
  own_go (fun t k => XT.acmpYes X.here hx rfl rfl hd rfl h1 h2 hc ho hp k) K
theorem own_acmpNo (X : Stand p l e R s m args below meth c T locs cells slots) (hx : p.tables.exec = Jvm.exec) {o : Int} {cd : ACond} {v w : Value} (hd : decode c.code pc = .ok (.if_acmp cd o, 3)) (hp : pc + 3 = pc') (h1 : v.isRef = true) (h2 : w.isRef = true) (hc : XT.acmp cd v w = false) (K : own_Ends p e below s Q kc ks T (mkF m pc' ls st)) : own_Ends p e below s Q kc ks T (mkF m pc ls (w :: v :: st)) := by
  subst hp
  exact own_go (fun t k => XT.acmpNo X.here hx rfl hd rfl h1 h2 hc k) K
theorem own_ldcI (X : Stand p l e R s m args below meth c T locs cells slots) (hx : p.tables.exec = Jvm.exec) {own : String} {ix : Nat} {v : Int32} {Z : State} {a0 : Array Value} (hZ : Z.Warmed39 s.vm) (hown : s.vm.findClass own = some m.cls) (w : (Jvm.Cond.constant own ix v).before a0 Z = true) (hd : decode c.code pc = .ok (.ldc ix, 2)) (hp : pc + 2 = pc')  (K : own_Ends p e below s Q kc ks T (mkF m pc' ls (.int v :: st))) : own_Ends p e below s Q kc ks T (mkF m pc ls st) := by
  subst hp
  exact own_go (fun t k => X.ldcInt hx hown (mvT hZ w) (g := mkF m pc ls st) rfl hd t k) K
theorem own_ldcwI (X : Stand p l e R s m args below meth c T locs cells slots) (hx : p.tables.exec = Jvm.exec) {own : String} {ix : Nat} {v : Int32} {Z : State} {a0 : Array Value} (hZ : Z.Warmed39 s.vm) (hown : s.vm.findClass own = some m.cls) (w : (Jvm.Cond.constant own ix v).before a0 Z = true) (hd : decode c.code pc = .ok (.ldc_w ix, 3)) (hp : pc + 3 = pc')  (K : own_Ends p e below s Q kc ks T (mkF m pc' ls (.int v :: st))) : own_Ends p e below s Q kc ks T (mkF m pc ls st) := by
  subst hp
  exact own_go (fun t k => X.ldcwInt hx hown (mvT hZ w) (g := mkF m pc ls st) rfl hd t k) K
theorem own_ldc2J (X : Stand p l e R s m args below meth c T locs cells slots) (hx : p.tables.exec = Jvm.exec) {own : String} {ix : Nat} {v : Int64} {Z : State} {a0 : Array Value} (hZ : Z.Warmed39 s.vm) (hown : s.vm.findClass own = some m.cls) (w : (Jvm.Cond.constantLong own ix v).before a0 Z = true) (hd : decode c.code pc = .ok (.ldc2_w ix, 3)) (hp : pc + 3 = pc')  (K : own_Ends p e below s Q kc ks T (mkF m pc' ls (.long v :: st))) : own_Ends p e below s Q kc ks T (mkF m pc ls st) := by
  subst hp
  exact own_go (fun t k => X.ldc2Long hx hown (mvT hZ w) (g := mkF m pc ls st) rfl hd t k) K
theorem own_iaload (X : Stand p l e R s m args below meth c T locs cells slots) (hx : p.tables.exec = Jvm.exec) {Z : State} {h : Heap} {a : Addr} {k : ClassId} {n j : Int32} {vs : List Value} {d v : Value} (hZ : Z.Warmed39 s.vm) (eT : T.heap = h) (V : Arv Z h a k .int n vs d) (hd : decode c.code pc = .ok (.iaload, 1)) (hp : pc + 1 = pc') (hj : ¬ j < 0 ∧ j < n) (hv : vs.getD j.toNatClampNeg d = v) (K : own_Ends p e below s Q kc ks T (mkF m pc' ls (v :: st))) : own_Ends p e below s Q kc ks T (mkF m pc ls (.int j :: .ref a :: st)) := by
  subst hp
  obtain ⟨cl, A, q1, S, q2, H, G⟩ := V
  have hin := inb_of S hj
  exact own_go (fun t k => X.iaload hx (by rw [eT]; exact A.1) (State.isArrayOf_alike hZ.alike A.2.1) A.2.2 hin (H.at hin hv) (g := mkF m pc ls (.int j :: .ref a :: st)) rfl rfl hd t k) K
theorem own_laload (X : Stand p l e R s m args below meth c T locs cells slots) (hx : p.tables.exec = Jvm.exec) {Z : State} {h : Heap} {a : Addr} {k : ClassId} {n j : Int32} {vs : List Value} {d v : Value} (hZ : Z.Warmed39 s.vm) (eT : T.heap = h) (V : Arv Z h a k .long n vs d) (hd : decode c.code pc = .ok (.laload, 1)) (hp : pc + 1 = pc') (hj : ¬ j < 0 ∧ j < n) (hv : vs.getD j.toNatClampNeg d = v) (K : own_Ends p e below s Q kc ks T (mkF m pc' ls (v :: st))) : own_Ends p e below s Q kc ks T (mkF m pc ls (.int j :: .ref a :: st)) := by
  subst hp
  obtain ⟨cl, A, q1, S, q2, H, G⟩ := V
  have hin := inb_of S hj
  exact own_go (fun t k => X.laload hx (by rw [eT]; exact A.1) (State.isArrayOf_alike hZ.alike A.2.1) A.2.2 hin (H.at hin hv) (g := mkF m pc ls (.int j :: .ref a :: st)) rfl rfl hd t k) K
theorem own_caload (X : Stand p l e R s m args below meth c T locs cells slots) (hx : p.tables.exec = Jvm.exec) {Z : State} {h : Heap} {a : Addr} {k : ClassId} {n j : Int32} {vs : List Value} {d v : Value} (hZ : Z.Warmed39 s.vm) (eT : T.heap = h) (V : Arv Z h a k .char n vs d) (hd : decode c.code pc = .ok (.caload, 1)) (hp : pc + 1 = pc') (hj : ¬ j < 0 ∧ j < n) (hv : vs.getD j.toNatClampNeg d = v) (K : own_Ends p e below s Q kc ks T (mkF m pc' ls (v :: st))) : own_Ends p e below s Q kc ks T (mkF m pc ls (.int j :: .ref a :: st)) := by
  subst hp
  obtain ⟨cl, A, q1, S, q2, H, G⟩ := V
  have hin := inb_of S hj
  exact own_go (fun t k => X.caload hx (by rw [eT]; exact A.1) (State.isArrayOf_alike hZ.alike A.2.1) A.2.2 hin (H.at hin hv) (g := mkF m pc ls (.int j :: .ref a :: st)) rfl rfl hd t k) K
theorem own_baload (X : Stand p l e R s m args below meth c T locs cells slots) (hx : p.tables.exec = Jvm.exec) {Z : State} {h : Heap} {a : Addr} {k : ClassId} {n j : Int32} {vs : List Value} {d v : Value} (hZ : Z.Warmed39 s.vm) (eT : T.heap = h) (V : Arv Z h a k .byte n vs d) (hd : decode c.code pc = .ok (.baload, 1)) (hp : pc + 1 = pc') (hj : ¬ j < 0 ∧ j < n) (hv : vs.getD j.toNatClampNeg d = v) (K : own_Ends p e below s Q kc ks T (mkF m pc' ls (v :: st))) : own_Ends p e below s Q kc ks T (mkF m pc ls (.int j :: .ref a :: st)) := by
  subst hp
  obtain ⟨cl, A, q1, S, q2, H, G⟩ := V
  have hin := inb_of S hj
  exact own_go (fun t k => X.baloadBytes hx (by rw [eT]; exact A.1) (State.isArrayOf_alike hZ.alike A.2.1) A.2.2 hin (H.at hin hv) (g := mkF m pc ls (.int j :: .ref a :: st)) rfl rfl hd t k) K
theorem own_zaload (X : Stand p l e R s m args below meth c T locs cells slots) (hx : p.tables.exec = Jvm.exec) {Z : State} {h : Heap} {a : Addr} {k : ClassId} {n j : Int32} {vs : List Value} {d v : Value} (hZ : Z.Warmed39 s.vm) (eT : T.heap = h) (V : Arv Z h a k .boolean n vs d) (hd : decode c.code pc = .ok (.baload, 1)) (hp : pc + 1 = pc') (hj : ¬ j < 0 ∧ j < n) (hv : vs.getD j.toNatClampNeg d = v) (K : own_Ends p e below s Q kc ks T (mkF m pc' ls (v :: st))) : own_Ends p e below s Q kc ks T (mkF m pc ls (.int j :: .ref a :: st)) := by
  subst hp
  obtain ⟨cl, A, q1, S, q2, H, G⟩ := V
  have hin := inb_of S hj
  exact own_go (fun t k => X.baloadBooleans hx (by rw [eT]; exact A.1) (State.isArrayOf_alike hZ.alike A.2.1) A.2.2 hin (H.at hin hv) (g := mkF m pc ls (.int j :: .ref a :: st)) rfl rfl hd t k) K
theorem own_daload (X : Stand p l e R s m args below meth c T locs cells slots) (hx : p.tables.exec = Jvm.exec) {Z : State} {h : Heap} {a : Addr} {k : ClassId} {n j : Int32} {vs : List Value} {d v : Value} (hZ : Z.Warmed39 s.vm) (eT : T.heap = h) (V : Arv Z h a k .double n vs d) (hd : decode c.code pc = .ok (.daload, 1)) (hp : pc + 1 = pc') (hj : ¬ j < 0 ∧ j < n) (hv : vs.getD j.toNatClampNeg d = v) (K : own_Ends p e below s Q kc ks T (mkF m pc' ls (v :: st))) : own_Ends p e below s Q kc ks T (mkF m pc ls (.int j :: .ref a :: st)) := by
  subst hp
  obtain ⟨cl, A, q1, S, q2, H, G⟩ := V
  have hin := inb_of S hj
  exact own_go (fun t k => X.daload hx (by rw [eT]; exact A.1) (State.isArrayOf_alike hZ.alike A.2.1) A.2.2 hin (H.at hin hv) (g := mkF m pc ls (.int j :: .ref a :: st)) rfl rfl hd t k) K
theorem own_alen (X : Stand p l e R s m args below meth c T locs cells slots) (hx : p.tables.exec = Jvm.exec) {Z : State} {h : Heap} {a : Addr} {k : ClassId} {ty : FieldType} {n : Int32} {vs : List Value} {d : Value} (hZ : Z.Warmed39 s.vm) (eT : T.heap = h) (V : Arv Z h a k ty n vs d) (hd : decode c.code pc = .ok (.arraylength, 1)) (hp : pc + 1 = pc')  (K : own_Ends p e below s Q kc ks T (mkF m pc' ls (.int n :: st))) : own_Ends p e below s Q kc ks T (mkF m pc ls (.ref a :: st)) := by
  subst hp
  obtain ⟨cl, A, q1, S, q2, H, G⟩ := V
  rw [← len_of S q2] at K
  exact own_go (fun t k => X.arraylength hx (by rw [eT]; exact A.1) (State.isArrayOf_alike hZ.alike A.2.1) (g := mkF m pc ls (.ref a :: st)) rfl rfl hd t k) K
theorem own_iastore (X : Stand p l e R s m args below meth c T locs cells slots) (hx : p.tables.exec = Jvm.exec) {Z : State} {h : Heap} {a : Addr} {k : ClassId} {n j : Int32} {vs : List Value} {d : Value} {x : Int32} (hZ : Z.Warmed39 s.vm) (eT : T.heap = h) (V : Arv Z h a k .int n vs d) (hd : decode c.code pc = .ok (.iastore, 1)) (hp : pc + 1 = pc') (hj : ¬ j < 0 ∧ j < n) (i : Nat) (hi : j.toNatClampNeg = i) (hl : i < vs.length) {n0 : Nat} (N : Fr n0 locs) (ge : n0 ≤ a)
    (K : ∀ T' h' L, Stand p l e R s m args below meth c T' L cells slots → T'.heap = h' → Fr n0 L → Wr h h' a j.toNatClampNeg (.int x) → Arv Z h' a k .int n (vs.set i (.int x)) d → own_Ends p e below s Q kc ks T' (mkF m pc' ls st)) : own_Ends p e below s Q kc ks T (mkF m pc ls (.int x :: .int j :: .ref a :: st)) := by
  subst hp
  obtain ⟨cl, A, q1, S, q2, H, G⟩ := V
  have hin := inb_of S hj
  obtain ⟨T1, h1, X1, e1, W1, st1⟩ := stI X hx hZ eT A (j := j) hin (g := mkF m pc ls (.int x :: .int j :: .ref a :: st)) rfl rfl hd
  exact own_go st1 (K T1 h1 _ X1 e1 (Fr.snoc X1 N ge) W1 (Arv.set A q1 S q2 H G rfl W1 i hi hl))
theorem own_lastore (X : Stand p l e R s m args below meth c T locs cells slots) (hx : p.tables.exec = Jvm.exec) {Z : State} {h : Heap} {a : Addr} {k : ClassId} {n j : Int32} {vs : List Value} {d : Value} {x : Int64} (hZ : Z.Warmed39 s.vm) (eT : T.heap = h) (V : Arv Z h a k .long n vs d) (hd : decode c.code pc = .ok (.lastore, 1)) (hp : pc + 1 = pc') (hj : ¬ j < 0 ∧ j < n) (i : Nat) (hi : j.toNatClampNeg = i) (hl : i < vs.length) {n0 : Nat} (N : Fr n0 locs) (ge : n0 ≤ a)
    (K : ∀ T' h' L, Stand p l e R s m args below meth c T' L cells slots → T'.heap = h' → Fr n0 L → Wr h h' a j.toNatClampNeg (.long x) → Arv Z h' a k .long n (vs.set i (.long x)) d → own_Ends p e below s Q kc ks T' (mkF m pc' ls st)) : own_Ends p e below s Q kc ks T (mkF m pc ls (.long x :: .int j :: .ref a :: st)) := by
  subst hp
  obtain ⟨cl, A, q1, S, q2, H, G⟩ := V
  have hin := inb_of S hj
  obtain ⟨T1, h1, X1, e1, W1, st1⟩ := stJ X hx hZ eT A (j := j) hin (g := mkF m pc ls (.long x :: .int j :: .ref a :: st)) rfl rfl hd
  exact own_go st1 (K T1 h1 _ X1 e1 (Fr.snoc X1 N ge) W1 (Arv.set A q1 S q2 H G rfl W1 i hi hl))
theorem own_dastore (X : Stand p l e R s m args below meth c T locs cells slots) (hx : p.tables.exec = Jvm.exec) {Z : State} {h : Heap} {a : Addr} {k : ClassId} {n j : Int32} {vs : List Value} {d : Value} {x : UInt64} (hZ : Z.Warmed39 s.vm) (eT : T.heap = h) (V : Arv Z h a k .double n vs d) (hd : decode c.code pc = .ok (.dastore, 1)) (hp : pc + 1 = pc') (hj : ¬ j < 0 ∧ j < n) (i : Nat) (hi : j.toNatClampNeg = i) (hl : i < vs.length) {n0 : Nat} (N : Fr n0 locs) (ge : n0 ≤ a)
    (K : ∀ T' h' L, Stand p l e R s m args below meth c T' L cells slots → T'.heap = h' → Fr n0 L → Wr h h' a j.toNatClampNeg (.double x) → Arv Z h' a k .double n (vs.set i (.double x)) d → own_Ends p e below s Q kc ks T' (mkF m pc' ls st)) : own_Ends p e below s Q kc ks T (mkF m pc ls (.double x :: .int j :: .ref a :: st)) := by
  subst hp
  obtain ⟨cl, A, q1, S, q2, H, G⟩ := V
  have hin := inb_of S hj
  obtain ⟨T1, h1, X1, e1, W1, st1⟩ := stD X hx hZ eT A (j := j) hin (g := mkF m pc ls (.double x :: .int j :: .ref a :: st)) rfl rfl hd
  exact own_go st1 (K T1 h1 _ X1 e1 (Fr.snoc X1 N ge) W1 (Arv.set A q1 S q2 H G rfl W1 i hi hl))
theorem own_castore (X : Stand p l e R s m args below meth c T locs cells slots) (hx : p.tables.exec = Jvm.exec) {Z : State} {h : Heap} {a : Addr} {k : ClassId} {n j : Int32} {vs : List Value} {d : Value} {x : Int32} (hZ : Z.Warmed39 s.vm) (eT : T.heap = h) (V : Arv Z h a k .char n vs d) (hd : decode c.code pc = .ok (.castore, 1)) (hp : pc + 1 = pc') (hj : ¬ j < 0 ∧ j < n) (i : Nat) (hi : j.toNatClampNeg = i) (hl : i < vs.length) {n0 : Nat} (N : Fr n0 locs) (ge : n0 ≤ a)
    (K : ∀ T' h' L, Stand p l e R s m args below meth c T' L cells slots → T'.heap = h' → Fr n0 L → Wr h h' a j.toNatClampNeg (.int (nar .char x)) → Arv Z h' a k .char n (vs.set i (.int (nar .char x))) d → own_Ends p e below s Q kc ks T' (mkF m pc' ls st)) : own_Ends p e below s Q kc ks T (mkF m pc ls (.int x :: .int j :: .ref a :: st)) := by
  subst hp
  obtain ⟨cl, A, q1, S, q2, H, G⟩ := V
  have hin := inb_of S hj
  obtain ⟨T1, h1, X1, e1, W1, st1⟩ := stC X hx hZ eT A (j := j) hin (g := mkF m pc ls (.int x :: .int j :: .ref a :: st)) rfl rfl hd
  exact own_go st1 (K T1 h1 _ X1 e1 (Fr.snoc X1 N ge) W1 (Arv.set A q1 S q2 H G (fits_nar_char _) W1 i hi hl))
theorem own_bastore (X : Stand p l e R s m args below meth c T locs cells slots) (hx : p.tables.exec = Jvm.exec) {Z : State} {h : Heap} {a : Addr} {k : ClassId} {n j : Int32} {vs : List Value} {d : Value} {x : Int32} (hZ : Z.Warmed39 s.vm) (eT : T.heap = h) (V : Arv Z h a k .byte n vs d) (hd : decode c.code pc = .ok (.bastore, 1)) (hp : pc + 1 = pc') (hj : ¬ j < 0 ∧ j < n) (i : Nat) (hi : j.toNatClampNeg = i) (hl : i < vs.length) {n0 : Nat} (N : Fr n0 locs) (ge : n0 ≤ a)
    (K : ∀ T' h' L, Stand p l e R s m args below meth c T' L cells slots → T'.heap = h' → Fr n0 L → Wr h h' a j.toNatClampNeg (.int (nar .byte x)) → Arv Z h' a k .byte n (vs.set i (.int (nar .byte x))) d → own_Ends p e below s Q kc ks T' (mkF m pc' ls st)) : own_Ends p e below s Q kc ks T (mkF m pc ls (.int x :: .int j :: .ref a :: st)) := by
  subst hp
  obtain ⟨cl, A, q1, S, q2, H, G⟩ := V
  have hin := inb_of S hj
  obtain ⟨T1, h1, X1, e1, W1, st1⟩ := stB X hx hZ eT A (j := j) hin (g := mkF m pc ls (.int x :: .int j :: .ref a :: st)) rfl rfl hd
  exact own_go st1 (K T1 h1 _ X1 e1 (Fr.snoc X1 N ge) W1 (Arv.set A q1 S q2 H G (fits_nar_byte _) W1 i hi hl))
theorem own_zastore (X : Stand p l e R s m args below meth c T locs cells slots) (hx : p.tables.exec = Jvm.exec) {Z : State} {h : Heap} {a : Addr} {k : ClassId} {n j : Int32} {vs : List Value} {d : Value} {x : Int32} (hZ : Z.Warmed39 s.vm) (eT : T.heap = h) (V : Arv Z h a k .boolean n vs d) (hd : decode c.code pc = .ok (.bastore, 1)) (hp : pc + 1 = pc') (hj : ¬ j < 0 ∧ j < n) (i : Nat) (hi : j.toNatClampNeg = i) (hl : i < vs.length) {n0 : Nat} (N : Fr n0 locs) (ge : n0 ≤ a)
    (K : ∀ T' h' L, Stand p l e R s m args below meth c T' L cells slots → T'.heap = h' → Fr n0 L → Wr h h' a j.toNatClampNeg (.int (nar .boolean x)) → Arv Z h' a k .boolean n (vs.set i (.int (nar .boolean x))) d → own_Ends p e below s Q kc ks T' (mkF m pc' ls st)) : own_Ends p e below s Q kc ks T (mkF m pc ls (.int x :: .int j :: .ref a :: st)) := by
  subst hp
  obtain ⟨cl, A, q1, S, q2, H, G⟩ := V
  have hin := inb_of S hj
  obtain ⟨T1, h1, X1, e1, W1, st1⟩ := stZ X hx hZ eT A (j := j) hin (g := mkF m pc ls (.int x :: .int j :: .ref a :: st)) rfl rfl hd
  exact own_go st1 (K T1 h1 _ X1 e1 (Fr.snoc X1 N ge) W1 (Arv.set A q1 S q2 H G (fits_nar_bool _) W1 i hi hl))
theorem own_newarr (X : Stand p l e R s m args below meth c T locs cells slots) (hx : p.tables.exec = Jvm.exec) {Z : State} {a0 : Array Value} {h : Heap} {aty : ArrayType} (hZ : Z.Warmed39 s.vm) (w : (Jvm.Cond.arrayClass (newarray.typeOf aty)).before a0 Z = true) (eT : T.heap = h) (hd : decode c.code pc = .ok (.newarray aty, 2)) (hp : pc + 2 = pc') {n : Int32} (hn : ¬ n < 0) (cap q : Nat) (hcap : n.toNatClampNeg ≤ cap) (hb : cap * 8 ≤ 536870912) (hc : cells + 1 ≤ R.cells) (hl : slots + cap ≤ R.slots)
    (K : ∀ T' h' a k, Stand p l e R s m args below meth c T' locs (cells + 1) (slots + cap) → T'.heap = h' → Ext h h' → a = h.size → Arv Z h' a k (newarray.typeOf aty) n (List.replicate q (defaultValue (newarray.typeOf aty))) (defaultValue (newarray.typeOf aty)) → own_Ends p e below s Q kc ks T' (mkF m pc' ls (.ref a :: st))) : own_Ends p e below s Q kc ks T (mkF m pc ls (.int n :: st)) := by
  subst hp
  obtain ⟨T1, h1, k1, X1, e1, E1, A1, st1⟩ := newP X hx hZ w eT (g := mkF m pc ls (.int n :: st)) rfl hd rfl hn (cap := cap) hcap hb hc hl
  exact own_go st1 (K T1 h1 _ k1 X1 e1 E1 rfl ((Arv.new A1 hn).pad (pad_rep [] _ q)))
theorem own_newarrE (X : Stand p l e R s m args below meth c T locs cells slots) (hx : p.tables.exec = Jvm.exec) {Z : State} {a0 : Array Value} {h : Heap} {aty : ArrayType} (hZ : Z.Warmed39 s.vm) (w : (Jvm.Cond.arrayClass (newarray.typeOf aty)).before a0 Z = true) (eT : T.heap = h) (hd : decode c.code pc = .ok (.newarray aty, 2)) (hp : pc + 2 = pc') {n : Int32} (hn : ¬ n < 0) (cap q : Nat) (hcap : n.toNatClampNeg ≤ cap) (hb : cap * 8 ≤ 536870912) (hc : cells + 1 ≤ R.cells) (hl : slots + cap ≤ R.slots) {ad : String} (had : "[" ++ (newarray.typeOf aty).toString = ad)
    (K : ∀ T' h' a k, Stand p l e R s m args below meth c T' locs (cells + 1) (slots + cap) → T'.heap = h' → Ext h h' → a = h.size → Arv Z h' a k (newarray.typeOf aty) n (List.replicate q (defaultValue (newarray.typeOf aty))) (defaultValue (newarray.typeOf aty)) → Exa Z h' a ad → own_Ends p e below s Q kc ks T' (mkF m pc' ls (.ref a :: st))) : own_Ends p e below s Q kc ks T (mkF m pc ls (.int n :: st)) := by
  subst hp
  obtain ⟨T1, h1, k1, X1, e1, E1, A1, Z1, st1⟩ := newPE X hx hZ w eT (g := mkF m pc ls (.int n :: st)) rfl hd rfl hn (cap := cap) hcap hb hc hl had
  exact own_go st1 (K T1 h1 _ k1 X1 e1 E1 rfl ((Arv.new A1 hn).pad (pad_rep [] _ q)) Z1)
theorem own_callS (X : Stand p l e R s m args below meth c T locs cells slots) (hx : p.tables.exec = Jvm.exec) {Z : State} {a0 : Array Value} {h : Heap} {own : String} {ix : Nat} {y : MethodName} {bytes : ByteArray} {maxL W : Nat} {ret : Option FieldType} {rm : Room} {Qc : Option Value → Heap → List Loc → Prop} {argsL rest : List Value} (hZ : Z.Warmed39 s.vm) (eT : T.heap = h) (hown : s.vm.findClass own = some m.cls) (hsz : ls.size = c.maxLocals) (wl : (Jvm.Cond.methodLink own ix y).before a0 Z = true) (ws : (Jvm.Cond.static y).before a0 Z = true) (wi : (Jvm.Cond.initialized y.cls).before a0 Z = true) (wc : (Jvm.Cond.code y bytes maxL ret).before a0 Z = true) (hy : y.cls ≠ "java/lang/invoke/MethodHandle" ∧ y.cls ≠ "java/lang/invoke/VarHandle") (hM : MetFree l y (head1 [Jvm.Cond.code y bytes maxL ret] rm) (fun a U => a = argsL.toArray ∧ Z.Warmed39 U.vm ∧ U.heap = h) (fun _ _ _ _ _ => True) (fun _ U o U' => ∃ v L, o = .returned v ∧ Qc v U'.heap L ∧ FrameEnd U o U' L rm.cells rm.slots)) (hf : rm.frames + 1 ≤ R.frames) (hlo : W + (maxL + 11) + rm.locals ≤ R.locals) (hcl : cells + rm.cells ≤ R.cells) (hsl : slots + rm.slots ≤ R.slots)
    (hlen : ∀ sig, parseMethodDescriptor y.desc = some sig → argsL.length = sig.parameters.length) (hst : st = argsL.reverse ++ rest) (hW : 2 * 0 + (rest.map fun v => v.category).sum ≤ W) (hd : decode c.code pc = .ok (.invokestatic ix, 3)) (hp : pc + 3 = pc') (K : ∀ T' L v, Stand p l e R s m args below meth c T' (locs ++ L) (cells + rm.cells) (slots + rm.slots) → Qc v T'.heap L → own_Ends p e below s Q kc ks T' (mkF m pc' ls (v.toList ++ rest))) : own_Ends p e below s Q kc ks T (mkF m pc ls st) := by
  subst hp
  obtain ⟨v, _, ⟨T1, L1, k1, n1⟩, -, X1, ⟨Lc, hQ, r1, r2, r3⟩, st1⟩ := Jvm.LawKit.callS X hx (y := y) hown (mvT hZ wl) (mvT hZ ws) (mvT hZ wi) (mvT hZ wc) hy (backOf (W := W) hM hZ wc wi hf hlo) (g := mkF m pc ls st) rfl hsz (argsL := argsL) (rest := rest) hlen hst hW hd (fun _ _ => ⟨rfl, eT, hcl, hsl⟩)
  dsimp only [Pt.U, Pt.locs, Pt.cells, Pt.slots] at X1 r1 r2 r3 st1 hQ
  subst r1 r2 r3
  exact own_go (st1) (K T1 Lc v X1 hQ)
theorem own_callC (X : Stand p l e R s m args below meth c T locs cells slots) (hx : p.tables.exec = Jvm.exec) {b : Addr} {Z : State} {a0 : Array Value} {h : Heap} {own : String} {ix : Nat} {y : MethodName} {bytes : ByteArray} {maxL W : Nat} {ret : Option FieldType} {rm : Room} {Qc : Option Value → Heap → List Loc → Prop} {argsL rest : List Value} (hZ : Z.Warmed39 s.vm) (eT : T.heap = h) (hown : s.vm.findClass own = some m.cls) (hsz : ls.size = c.maxLocals) (hret : ret = none) (hinit : y.name = "<init>") (wl : (Jvm.Cond.methodLink own ix y).before a0 Z = true) (wm : (Jvm.Cond.instanceMethod y).before a0 Z = true) (wi : (Jvm.Cond.initialized y.cls).before a0 Z = true) (wc : (Jvm.Cond.code y bytes maxL ret).before a0 Z = true) (hy : y.cls ≠ "java/lang/invoke/MethodHandle" ∧ y.cls ≠ "java/lang/invoke/VarHandle") (hM : MetFree l y (head1 [Jvm.Cond.code y bytes maxL ret] rm) (fun a U => a = (Value.ref b :: argsL).toArray ∧ Z.Warmed39 U.vm ∧ U.heap = h) (fun _ _ _ _ _ => True) (fun _ U o U' => ∃ v L, o = .returned v ∧ Qc v U'.heap L ∧ FrameEnd U o U' L rm.cells rm.slots)) (hf : rm.frames + 1 ≤ R.frames) (hlo : W + (maxL + 11) + rm.locals ≤ R.locals) (hcl : cells + rm.cells ≤ R.cells) (hsl : slots + rm.slots ≤ R.slots)
    (hlen : ∀ sig, parseMethodDescriptor y.desc = some sig → argsL.length = sig.parameters.length) (hst : st = argsL.reverse ++ .ref b :: rest) (hW : 2 * 0 + (rest.map fun v => v.category).sum ≤ W) (hd : decode c.code pc = .ok (.invokespecial ix, 3)) (hp : pc + 3 = pc') (K : ∀ T' L v, Stand p l e R s m args below meth c T' (locs ++ L) (cells + rm.cells) (slots + rm.slots) → Qc v T'.heap L → own_Ends p e below s Q kc ks T' (mkF m pc' ls (v.toList ++ rest))) : own_Ends p e below s Q kc ks T (mkF m pc ls st) := by
  subst hp hret
  obtain ⟨v, _, ⟨T1, L1, k1, n1⟩, -, X1, ⟨Lc, hQ, r1, r2, r3⟩, st1⟩ := X.specialBack hx (y := y) hinit hown (mvT hZ wl) (mvT hZ wm) (mvT hZ wc) hy (backOf (W := W) hM hZ wc wi hf hlo) (g := mkF m pc ls st) rfl hsz (Steps.refl _) (a := b) (argsL := argsL) (rest := rest) hlen hst hW hd (fun _ _ => ⟨rfl, eT, hcl, hsl⟩)
  dsimp only [Pt.U, Pt.locs, Pt.cells, Pt.slots] at X1 r1 r2 r3 st1 hQ
  subst r1 r2 r3
  exact own_go (fun t k => st1.trans k) (K T1 Lc v X1 hQ)
theorem own_callV (X : Stand p l e R s m args below meth c T locs cells slots) (hx : p.tables.exec = Jvm.exec) {b : Addr} {C : String} {Z : State} {a0 : Array Value} {h : Heap} {own : String} {ix : Nat} {y : MethodName} {bytes : ByteArray} {maxL W : Nat} {ret : Option FieldType} {rm : Room} {Qc : Option Value → Heap → List Loc → Prop} {argsL rest : List Value} (hZ : Z.Warmed39 s.vm) (eT : T.heap = h) (hown : s.vm.findClass own = some m.cls) (hsz : ls.size = c.maxLocals) (E : Exa Z h b C) (wl : (Jvm.Cond.methodLink own ix y).before a0 Z = true) (wd : (Jvm.Cond.declares y).before a0 Z = true) (wsel : (Jvm.Cond.selects C y y).before a0 Z = true) (wm : (Jvm.Cond.instanceMethod y).before a0 Z = true) (wi : (Jvm.Cond.initialized y.cls).before a0 Z = true) (wc : (Jvm.Cond.code y bytes maxL ret).before a0 Z = true) (hy : y.cls ≠ "java/lang/invoke/MethodHandle" ∧ y.cls ≠ "java/lang/invoke/VarHandle") (hM : MetFree l y (head1 [Jvm.Cond.code y bytes maxL ret] rm) (fun a U => a = (Value.ref b :: argsL).toArray ∧ Z.Warmed39 U.vm ∧ U.heap = h) (fun _ _ _ _ _ => True) (fun _ U o U' => ∃ v L, o = .returned v ∧ Qc v U'.heap L ∧ FrameEnd U o U' L rm.cells rm.slots)) (hf : rm.frames + 1 ≤ R.frames) (hlo : W + (maxL + 11) + rm.locals ≤ R.locals) (hcl : cells + rm.cells ≤ R.cells) (hsl : slots + rm.slots ≤ R.slots)
    (hlen : ∀ sig, parseMethodDescriptor y.desc = some sig → argsL.length = sig.parameters.length) (hst : st = argsL.reverse ++ .ref b :: rest) (hW : 2 * 0 + (rest.map fun v => v.category).sum ≤ W) (hd : decode c.code pc = .ok (.invokevirtual ix, 3)) (hp : pc + 3 = pc') (K : ∀ T' L v, Stand p l e R s m args below meth c T' (locs ++ L) (cells + rm.cells) (slots + rm.slots) → Qc v T'.heap L → own_Ends p e below s Q kc ks T' (mkF m pc' ls (v.toList ++ rest))) : own_Ends p e below s Q kc ks T (mkF m pc ls st) := by
  subst hp
  obtain ⟨cq, kq, qa, qb, qc⟩ := isOf hZ eT E
  obtain ⟨v, _, ⟨T1, L1, k1, n1⟩, -, X1, ⟨Lc, hQ, r1, r2, r3⟩, st1⟩ := X.virtualBack hx (y := y) (z := y) hown (mvT hZ wl) (mvT hZ wd) (notFace_of_selects (args := #[]) (mvT hZ wsel)) (mvT hZ wsel) (mvT hZ wm) hy (backOf (W := W) hM hZ wc wi hf hlo) qa qc (g := mkF m pc ls st) rfl hsz (Steps.refl _) (argsL := argsL) (rest := rest) hlen hst hW hd (fun _ _ => ⟨rfl, eT, hcl, hsl⟩)
  dsimp only [Pt.U, Pt.locs, Pt.cells, Pt.slots] at X1 r1 r2 r3 st1 hQ
  subst r1 r2 r3
  exact own_go (fun t k => st1.trans k) (K T1 Lc v X1 hQ)
theorem own_callP (X : Stand p l e R s m args below meth c T locs cells slots) (hx : p.tables.exec = Jvm.exec) {b : Addr} {C : String} {Z : State} {a0 : Array Value} {h : Heap} {own : String} {ix : Nat} {y : MethodName} {bytes : ByteArray} {maxL W : Nat} {ret : Option FieldType} {rm : Room} {Qc : Option Value → Heap → List Loc → Prop} {argsL rest : List Value} (hZ : Z.Warmed39 s.vm) (eT : T.heap = h) (hown : s.vm.findClass own = some m.cls) (hsz : ls.size = c.maxLocals) (E : Exa Z h b C) (wl : (Jvm.Cond.methodLink own ix y).before a0 Z = true) (wsel : (Jvm.Cond.selects y.cls y y).before a0 Z = true) (wp : (Jvm.Cond.privateMethod y).before a0 Z = true) (wm : (Jvm.Cond.instanceMethod y).before a0 Z = true) (wi : (Jvm.Cond.initialized y.cls).before a0 Z = true) (wc : (Jvm.Cond.code y bytes maxL ret).before a0 Z = true) (hy : y.cls ≠ "java/lang/invoke/MethodHandle" ∧ y.cls ≠ "java/lang/invoke/VarHandle") (hM : MetFree l y (head1 [Jvm.Cond.code y bytes maxL ret] rm) (fun a U => a = (Value.ref b :: argsL).toArray ∧ Z.Warmed39 U.vm ∧ U.heap = h) (fun _ _ _ _ _ => True) (fun _ U o U' => ∃ v L, o = .returned v ∧ Qc v U'.heap L ∧ FrameEnd U o U' L rm.cells rm.slots)) (hf : rm.frames + 1 ≤ R.frames) (hlo : W + (maxL + 11) + rm.locals ≤ R.locals) (hcl : cells + rm.cells ≤ R.cells) (hsl : slots + rm.slots ≤ R.slots)
    (hlen : ∀ sig, parseMethodDescriptor y.desc = some sig → argsL.length = sig.parameters.length) (hst : st = argsL.reverse ++ .ref b :: rest) (hW : 2 * 0 + (rest.map fun v => v.category).sum ≤ W) (hd : decode c.code pc = .ok (.invokevirtual ix, 3)) (hp : pc + 3 = pc') (K : ∀ T' L v, Stand p l e R s m args below meth c T' (locs ++ L) (cells + rm.cells) (slots + rm.slots) → Qc v T'.heap L → own_Ends p e below s Q kc ks T' (mkF m pc' ls (v.toList ++ rest))) : own_Ends p e below s Q kc ks T (mkF m pc ls st) := by
  subst hp
  obtain ⟨cq, qa, qb⟩ := E.cell
  obtain ⟨v, _, ⟨T1, L1, k1, n1⟩, -, X1, ⟨Lc, hQ, r1, r2, r3⟩, st1⟩ := X.privateBack hx (y := y) hown (mvT hZ wl) (mvT hZ wm) (mvT hZ wsel) (Jvm.Cond.privateMethod_at (mvP hZ wp (args := #[]))) (mvT hZ wc) hy (backOf (W := W) hM hZ wc wi hf hlo) (g := mkF m pc ls st) rfl hsz (Steps.refl _) (a := b) (by rw [eT]; exact qa) qb (argsL := argsL) (rest := rest) hlen hst hW hd (fun _ _ => ⟨rfl, eT, hcl, hsl⟩)
  dsimp only [Pt.U, Pt.locs, Pt.cells, Pt.slots] at X1 r1 r2 r3 st1 hQ
  subst r1 r2 r3
  exact own_go (fun t k => st1.trans k) (K T1 Lc v X1 hQ)
theorem own_mvM {Z : State} {a0 args : Array Value} {own host : String} {ix : Nat} {y : MethodName} (hZ : Z.Warmed39 s.vm) (w : (Jvm.Cond.methodLinkNest own ix y host).before a0 Z = true) : (Jvm.Cond.methodLinkNest own ix y host).before args s = true := (Jvm.Cond.methodLinkNest_wide hZ w :)
theorem own_callN (X : Stand p l e R s m args below meth c T locs cells slots) (hx : p.tables.exec = Jvm.exec) {b : Addr} {host : String} {Z : State} {a0 : Array Value} {h : Heap} {own : String} {ix : Nat} {y : MethodName} {bytes : ByteArray} {maxL W : Nat} {ret : Option FieldType} {rm : Room} {Qc : Option Value → Heap → List Loc → Prop} {argsL rest : List Value} (hZ : Z.Warmed39 s.vm) (eT : T.heap = h) (hown : s.vm.findClass own = some m.cls) (hsz : ls.size = c.maxLocals) (hret : ret = none) (hinit : y.name = "<init>") (wl : (Jvm.Cond.methodLinkNest own ix y host).before a0 Z = true) (wm : (Jvm.Cond.instanceMethod y).before a0 Z = true) (wi : (Jvm.Cond.initialized y.cls).before a0 Z = true) (wc : (Jvm.Cond.code y bytes maxL ret).before a0 Z = true) (hy : y.cls ≠ "java/lang/invoke/MethodHandle" ∧ y.cls ≠ "java/lang/invoke/VarHandle") (hM : MetFree l y (head1 [Jvm.Cond.code y bytes maxL ret] rm) (fun a U => a = (Value.ref b :: argsL).toArray ∧ Z.Warmed39 U.vm ∧ U.heap = h) (fun _ _ _ _ _ => True) (fun _ U o U' => ∃ v L, o = .returned v ∧ Qc v U'.heap L ∧ FrameEnd U o U' L rm.cells rm.slots)) (hf : rm.frames + 1 ≤ R.frames) (hlo : W + (maxL + 11) + rm.locals ≤ R.locals) (hcl : cells + rm.cells ≤ R.cells) (hsl : slots + rm.slots ≤ R.slots)
    (hlen : ∀ sig, parseMethodDescriptor y.desc = some sig → argsL.length = sig.parameters.length) (hst : st = argsL.reverse ++ .ref b :: rest) (hW : 2 * 0 + (rest.map fun v => v.category).sum ≤ W) (hd : decode c.code pc = .ok (.invokespecial ix, 3)) (hp : pc + 3 = pc') (K : ∀ T' L v, Stand p l e R s m args below meth c T' (locs ++ L) (cells + rm.cells) (slots + rm.slots) → Qc v T'.heap L → own_Ends p e below s Q kc ks T' (mkF m pc' ls (v.toList ++ rest))) : own_Ends p e below s Q kc ks T (mkF m pc ls st) := by
  subst hp hret
  obtain ⟨v, _, ⟨T1, L1, k1, n1⟩, -, X1, ⟨Lc, hQ, r1, r2, r3⟩, st1⟩ := X.specialBackNest hx (y := y) hinit hown (own_mvM hZ wl) (mvT hZ wm) (mvT hZ wc) hy (backOf (W := W) hM hZ wc wi hf hlo) (g := mkF m pc ls st) rfl hsz (Steps.refl _) (a := b) (argsL := argsL) (rest := rest) hlen hst hW hd (fun _ _ => ⟨rfl, eT, hcl, hsl⟩)
  dsimp only [Pt.U, Pt.locs, Pt.cells, Pt.slots] at X1 r1 r2 r3 st1 hQ
  subst r1 r2 r3
  exact own_go (fun t k => st1.trans k) (K T1 Lc v X1 hQ)
theorem own_anewarr (X : Stand p l e R s m args below meth c T locs cells slots) (hx : p.tables.exec = Jvm.exec) {Z : State} {a0 : Array Value} {h : Heap} {own C : String} {ix : Nat} (hZ : Z.Warmed39 s.vm) (hown : s.vm.findClass own = some m.cls) (w1 : (Jvm.Cond.classLink own ix C).before a0 Z = true) (w2 : (Jvm.Cond.arrayOver (.object C)).before a0 Z = true) (eT : T.heap = h) (hd : decode c.code pc = .ok (.anewarray ix, 3)) (hp : pc + 3 = pc') {n : Int32} (hn : ¬ n < 0) (cap q : Nat) (hcap : n.toNatClampNeg ≤ cap) (hb : cap * 8 ≤ 536870912) (hc : cells + 1 ≤ R.cells) (hl : slots + cap ≤ R.slots) {ad : String} (had : "[" ++ (FieldType.object C).toString = ad)
    (K : ∀ T' h' a k, Stand p l e R s m args below meth c T' locs (cells + 1) (slots + cap) → T'.heap = h' → Ext h h' → a = h.size → Arv Z h' a k (.object C) n (List.replicate q .null) .null → Exa Z h' a ad → Ovr Z k C → own_Ends p e below s Q kc ks T' (mkF m pc' ls (.ref a :: st))) : own_Ends p e below s Q kc ks T (mkF m pc ls (.int n :: st)) := by
  subst hp
  obtain ⟨T1, h1, k1, X1, e1, E1, A1, Z1, O1, st1⟩ := newRE X hx hZ hown w1 w2 eT (g := mkF m pc ls (.int n :: st)) rfl hd rfl hn (cap := cap) hcap hb hc hl had
  exact own_go st1 (K T1 h1 _ k1 X1 e1 E1 rfl ((Arv.new A1 hn).pad (pad_rep [] _ q)) Z1 O1)
theorem own_aastore (X : Stand p l e R s m args below meth c T locs cells slots) (hx : p.tables.exec = Jvm.exec) {Z : State} {h : Heap} {a b : Addr} {k : ClassId} {C D : String} {n j : Int32} {vs : List Value} {d : Value} (hZ : Z.Warmed39 s.vm) (eT : T.heap = h) (V : Arv Z h a k (.object D) n vs d) (O : Ovr Z k C) (I : Ins Z h b C true) (hd : decode c.code pc = .ok (.aastore, 1)) (hp : pc + 1 = pc') (hj : ¬ j < 0 ∧ j < n) (i : Nat) (hi : j.toNatClampNeg = i) (hl : i < vs.length) {n0 : Nat} (N : Fr n0 locs) (ge : n0 ≤ a)
    (K : ∀ T' h' L, Stand p l e R s m args below meth c T' L cells slots → T'.heap = h' → Fr n0 L → Wr h h' a j.toNatClampNeg (.ref b) → Arv Z h' a k (.object D) n (vs.set i (.ref b)) d → own_Ends p e below s Q kc ks T' (mkF m pc' ls st)) : own_Ends p e below s Q kc ks T (mkF m pc ls (.ref b :: .int j :: .ref a :: st)) := by
  subst hp
  obtain ⟨cl, A, q1, S, q2, H, G⟩ := V
  have hin := inb_of S hj
  obtain ⟨T1, h1, X1, e1, W1, st1⟩ := stR X hx hZ eT A (j := j) hin rfl (Sto.ofV A q1 O I) (g := mkF m pc ls (.ref b :: .int j :: .ref a :: st)) rfl rfl hd
  exact own_go st1 (K T1 h1 _ X1 e1 (Fr.snoc X1 N ge) W1 (Arv.set A q1 S q2 H G rfl W1 i hi hl))
theorem own_tswIn (X : Stand p l e R s m args below meth c T locs cells slots) (hx : p.tables.exec = Jvm.exec) {d lo hi o : Int} {offs : Array Int} {len : Nat} {i : Int32} (hd : decode c.code pc = .ok (.tableswitch d lo hi offs, len)) (hin : ¬ (i.toInt < lo ∨ i.toInt > hi)) (hoff : offs[(i.toInt - lo).toNat]? = some o) (ho : 0 ≤ (pc : Int) + o) (hp : ((pc : Int) + o).toNat = pc') (K : own_Ends p e below s Q kc ks T (mkF m pc' ls st)) : own_Ends p e below s Q kc ks T (mkF m pc ls (.int i :: st)) :=
  own_go (fun t k => XS.tswIn X.here hx rfl rfl hd rfl hin hoff ho hp k) K
theorem own_tswOut (X : Stand p l e R s m args below meth c T locs cells slots) (hx : p.tables.exec = Jvm.exec) {d lo hi : Int} {offs : Array Int} {len : Nat} {i : Int32} (hd : decode c.code pc = .ok (.tableswitch d lo hi offs, len)) (hout : i.toInt < lo ∨ i.toInt > hi) (ho : 0 ≤ (pc : Int) + d) (hp : ((pc : Int) + d).toNat = pc') (K : own_Ends p e below s Q kc ks T (mkF m pc' ls st)) : own_Ends p e below s Q kc ks T (mkF m pc ls (.int i :: st)) :=
  own_go (fun t k => XS.tswOut X.here hx rfl rfl hd rfl hout ho hp k) K
theorem own_ext {h h' : Heap} (K : Keep h h' []) : Ext h h' := ⟨K.1, fun a c q => K.2.1 a c q nin0⟩
theorem own_stak {Z : State} {h h' : Heap} {ws : List Addr} {C n d : String} {v : Value} (F : Sta Z h C n d v) (K : Keep h h' ws) (q : ∀ x ∈ ws, ∃ c : Cell, h[x]? = some c ∧ c.vm.isStatics = false) : Sta Z h' C n d v := by
  obtain ⟨cf, i, k, f, st, cell, h1, h2, h3, h4, h5, h6, h7⟩ := F
  refine ⟨cf, i, k, f, st, cell, h1, h2, h3, h4, K.2.1 st cell h5 (fun z => ?_), h6, h7⟩
  obtain ⟨c, q1, q2⟩ := q st z
  cases h5.symm.trans q1
  rw [h6] at q2; cases q2
theorem own_exac {Z : State} {h : Heap} {a : Addr} {C : String} (F : Exa Z h a C) : ∃ c : Cell, h[a]? = some c ∧ c.vm.isStatics = false := by
  obtain ⟨c, _, h1, -, -, h4, -⟩ := F; exact ⟨c, h1, h4⟩
theorem own_arvc {Z : State} {h : Heap} {a : Addr} {k : ClassId} {ty : FieldType} {n : Int32} {vs : List Value} {d : Value} (F : Arv Z h a k ty n vs d) : ∃ c : Cell, h[a]? = some c ∧ c.vm.isStatics = false := by
  obtain ⟨c, A, -⟩ := F; exact ⟨c, A.1, A.plain⟩
end Own
theorem own_w0 {Z : State} {a0 : Array Value} (hw : ∀ d ∈ tables_1, d.before a0 Z = true) : (Jvm.Cond.methodLink "com/example/skewcube/skewcube/UnscaledRaisedPinLaw" (43 : Nat) ({ cls := "com/example/skewcube/skewcube/UnscaledRaisedPinLaw", name := "pow", desc := "(I)J" } : Jvm.MethodName)).before a0 Z = true := hw _ (List.mem_of_getElem? (i := 0) rfl)
theorem own_w1 {Z : State} {a0 : Array Value} (hw : ∀ d ∈ tables_1, d.before a0 Z = true) : (Jvm.Cond.static ({ cls := "com/example/skewcube/skewcube/UnscaledRaisedPinLaw", name := "pow", desc := "(I)J" } : Jvm.MethodName)).before a0 Z = true := hw _ (List.mem_of_getElem? (i := 1) rfl)
theorem own_w2 {Z : State} {a0 : Array Value} (hw : ∀ d ∈ tables_1, d.before a0 Z = true) : (Jvm.Cond.initialized "com/example/skewcube/skewcube/UnscaledRaisedPinLaw").before a0 Z = true := hw _ (List.mem_of_getElem? (i := 2) rfl)
theorem own_w3 {Z : State} {a0 : Array Value} (hw : ∀ d ∈ tables_1, d.before a0 Z = true) : (Jvm.Cond.code ({ cls := "com/example/skewcube/skewcube/UnscaledRaisedPinLaw", name := "pow", desc := "(I)J" } : Jvm.MethodName) method_2_code (2 : Nat) (Option.some Jvm.ClassFile.FieldType.long)).before a0 Z = true := hw _ (List.mem_of_getElem? (i := 3) rfl)
theorem own_w4 {Z : State} {a0 : Array Value} (hw : ∀ d ∈ tables_1, d.before a0 Z = true) : (Jvm.Cond.arrayClass Jvm.ClassFile.FieldType.long).before a0 Z = true := hw _ (List.mem_of_getElem? (i := 4) rfl)
theorem own_w5 {Z : State} {a0 : Array Value} (hw : ∀ d ∈ tables_1, d.before a0 Z = true) : (Jvm.Cond.constantLong "com/example/skewcube/skewcube/UnscaledRaisedPinLaw" (7 : Nat) (10 : Int64)).before a0 Z = true := hw _ (List.mem_of_getElem? (i := 5) rfl)
theorem own_w6 {Z : State} {a0 : Array Value} (hw : ∀ d ∈ tables_1, d.before a0 Z = true) : (Jvm.Cond.constantLong "com/example/skewcube/skewcube/UnscaledRaisedPinLaw" (9 : Nat) (100 : Int64)).before a0 Z = true := hw _ (List.mem_of_getElem? (i := 6) rfl)
theorem own_w7 {Z : State} {a0 : Array Value} (hw : ∀ d ∈ tables_1, d.before a0 Z = true) : (Jvm.Cond.constantLong "com/example/skewcube/skewcube/UnscaledRaisedPinLaw" (11 : Nat) (1000 : Int64)).before a0 Z = true := hw _ (List.mem_of_getElem? (i := 7) rfl)
theorem own_w8 {Z : State} {a0 : Array Value} (hw : ∀ d ∈ tables_1, d.before a0 Z = true) : (Jvm.Cond.constantLong "com/example/skewcube/skewcube/UnscaledRaisedPinLaw" (13 : Nat) (10000 : Int64)).before a0 Z = true := hw _ (List.mem_of_getElem? (i := 8) rfl)
theorem own_w9 {Z : State} {a0 : Array Value} (hw : ∀ d ∈ tables_1, d.before a0 Z = true) : (Jvm.Cond.constantLong "com/example/skewcube/skewcube/UnscaledRaisedPinLaw" (15 : Nat) (100000 : Int64)).before a0 Z = true := hw _ (List.mem_of_getElem? (i := 9) rfl)
theorem own_w10 {Z : State} {a0 : Array Value} (hw : ∀ d ∈ tables_1, d.before a0 Z = true) : (Jvm.Cond.constantLong "com/example/skewcube/skewcube/UnscaledRaisedPinLaw" (17 : Nat) (1000000 : Int64)).before a0 Z = true := hw _ (List.mem_of_getElem? (i := 10) rfl)
theorem own_w11 {Z : State} {a0 : Array Value} (hw : ∀ d ∈ tables_1, d.before a0 Z = true) : (Jvm.Cond.constantLong "com/example/skewcube/skewcube/UnscaledRaisedPinLaw" (19 : Nat) (10000000 : Int64)).before a0 Z = true := hw _ (List.mem_of_getElem? (i := 11) rfl)
theorem own_w12 {Z : State} {a0 : Array Value} (hw : ∀ d ∈ tables_1, d.before a0 Z = true) : (Jvm.Cond.constantLong "com/example/skewcube/skewcube/UnscaledRaisedPinLaw" (21 : Nat) (100000000 : Int64)).before a0 Z = true := hw _ (List.mem_of_getElem? (i := 12) rfl)
theorem own_w13 {Z : State} {a0 : Array Value} (hw : ∀ d ∈ tables_1, d.before a0 Z = true) : (Jvm.Cond.constantLong "com/example/skewcube/skewcube/UnscaledRaisedPinLaw" (23 : Nat) (1000000000 : Int64)).before a0 Z = true := hw _ (List.mem_of_getElem? (i := 13) rfl)
theorem own_w14 {Z : State} {a0 : Array Value} (hw : ∀ d ∈ tables_1, d.before a0 Z = true) : (Jvm.Cond.constantLong "com/example/skewcube/skewcube/UnscaledRaisedPinLaw" (25 : Nat) (10000000000 : Int64)).before a0 Z = true := hw _ (List.mem_of_getElem? (i := 14) rfl)
theorem own_w15 {Z : State} {a0 : Array Value} (hw : ∀ d ∈ tables_1, d.before a0 Z = true) : (Jvm.Cond.constantLong "com/example/skewcube/skewcube/UnscaledRaisedPinLaw" (27 : Nat) (100000000000 : Int64)).before a0 Z = true := hw _ (List.mem_of_getElem? (i := 15) rfl)
theorem own_w16 {Z : State} {a0 : Array Value} (hw : ∀ d ∈ tables_1, d.before a0 Z = true) : (Jvm.Cond.constantLong "com/example/skewcube/skewcube/UnscaledRaisedPinLaw" (29 : Nat) (1000000000000 : Int64)).before a0 Z = true := hw _ (List.mem_of_getElem? (i := 16) rfl)
theorem own_w17 {Z : State} {a0 : Array Value} (hw : ∀ d ∈ tables_1, d.before a0 Z = true) : (Jvm.Cond.constantLong "com/example/skewcube/skewcube/UnscaledRaisedPinLaw" (31 : Nat) (10000000000000 : Int64)).before a0 Z = true := hw _ (List.mem_of_getElem? (i := 17) rfl)
theorem own_w18 {Z : State} {a0 : Array Value} (hw : ∀ d ∈ tables_1, d.before a0 Z = true) : (Jvm.Cond.constantLong "com/example/skewcube/skewcube/UnscaledRaisedPinLaw" (33 : Nat) (100000000000000 : Int64)).before a0 Z = true := hw _ (List.mem_of_getElem? (i := 18) rfl)
theorem own_w19 {Z : State} {a0 : Array Value} (hw : ∀ d ∈ tables_1, d.before a0 Z = true) : (Jvm.Cond.constantLong "com/example/skewcube/skewcube/UnscaledRaisedPinLaw" (35 : Nat) (1000000000000000 : Int64)).before a0 Z = true := hw _ (List.mem_of_getElem? (i := 19) rfl)
theorem own_w20 {Z : State} {a0 : Array Value} (hw : ∀ d ∈ tables_1, d.before a0 Z = true) : (Jvm.Cond.constantLong "com/example/skewcube/skewcube/UnscaledRaisedPinLaw" (37 : Nat) (10000000000000000 : Int64)).before a0 Z = true := hw _ (List.mem_of_getElem? (i := 20) rfl)
theorem own_w21 {Z : State} {a0 : Array Value} (hw : ∀ d ∈ tables_1, d.before a0 Z = true) : (Jvm.Cond.constantLong "com/example/skewcube/skewcube/UnscaledRaisedPinLaw" (39 : Nat) (100000000000000000 : Int64)).before a0 Z = true := hw _ (List.mem_of_getElem? (i := 21) rfl)
theorem own_w22 {Z : State} {a0 : Array Value} (hw : ∀ d ∈ tables_1, d.before a0 Z = true) : (Jvm.Cond.constantLong "com/example/skewcube/skewcube/UnscaledRaisedPinLaw" (41 : Nat) (1000000000000000000 : Int64)).before a0 Z = true := hw _ (List.mem_of_getElem? (i := 22) rfl)
theorem own_w23 {Z : State} {a0 : Array Value} (hw : ∀ d ∈ tables_1, d.before a0 Z = true) : (Jvm.Cond.methodLink "com/example/skewcube/skewcube/UnscaledRaisedPinLaw" (49 : Nat) ({ cls := "com/example/skewcube/skewcube/Unscaled", name := "raised", desc := "(JI)J" } : Jvm.MethodName)).before a0 Z = true := hw _ (List.mem_of_getElem? (i := 23) rfl)
theorem own_w24 {Z : State} {a0 : Array Value} (hw : ∀ d ∈ tables_1, d.before a0 Z = true) : (Jvm.Cond.static ({ cls := "com/example/skewcube/skewcube/Unscaled", name := "raised", desc := "(JI)J" } : Jvm.MethodName)).before a0 Z = true := hw _ (List.mem_of_getElem? (i := 24) rfl)
theorem own_w25 {Z : State} {a0 : Array Value} (hw : ∀ d ∈ tables_1, d.before a0 Z = true) : (Jvm.Cond.initialized "com/example/skewcube/skewcube/Unscaled").before a0 Z = true := hw _ (List.mem_of_getElem? (i := 25) rfl)
theorem own_w26 {Z : State} {a0 : Array Value} (hw : ∀ d ∈ tables_1, d.before a0 Z = true) : (Jvm.Cond.code ({ cls := "com/example/skewcube/skewcube/Unscaled", name := "raised", desc := "(JI)J" } : Jvm.MethodName) prog_141_method_3_code (5 : Nat) (Option.some Jvm.ClassFile.FieldType.long)).before a0 Z = true := hw _ (List.mem_of_getElem? (i := 26) rfl)
theorem own_w27 {Z : State} {a0 : Array Value} (hw : ∀ d ∈ tables_1, d.before a0 Z = true) : (Jvm.Cond.fieldLink "com/example/skewcube/skewcube/Unscaled" (15 : Nat) "com/example/skewcube/skewcube/Unscaled" "POWERS_OF_TEN" "[J").before a0 Z = true := hw _ (List.mem_of_getElem? (i := 27) rfl)
theorem own_w29 {Z : State} {a0 : Array Value} (hw : ∀ d ∈ tables_1, d.before a0 Z = true) : (Jvm.Cond.constantLong "com/example/skewcube/skewcube/Unscaled" (13 : Nat) (1000000000000000000 : Int64)).before a0 Z = true := hw _ (List.mem_of_getElem? (i := 29) rfl)
theorem own_w30 {Z : State} {a0 : Array Value} (hw : ∀ d ∈ tables_1, d.before a0 Z = true) : (Jvm.Cond.methodLink "com/example/skewcube/skewcube/UnscaledRaisedPinLaw" (57 : Nat) ({ cls := "java/lang/Math", name := "abs", desc := "(J)J" } : Jvm.MethodName)).before a0 Z = true := hw _ (List.mem_of_getElem? (i := 30) rfl)
theorem own_w31 {Z : State} {a0 : Array Value} (hw : ∀ d ∈ tables_1, d.before a0 Z = true) : (Jvm.Cond.static ({ cls := "java/lang/Math", name := "abs", desc := "(J)J" } : Jvm.MethodName)).before a0 Z = true := hw _ (List.mem_of_getElem? (i := 31) rfl)
theorem own_w32 {Z : State} {a0 : Array Value} (hw : ∀ d ∈ tables_1, d.before a0 Z = true) : (Jvm.Cond.initialized "java/lang/Math").before a0 Z = true := hw _ (List.mem_of_getElem? (i := 32) rfl)
theorem own_w33 {Z : State} {a0 : Array Value} (hw : ∀ d ∈ tables_1, d.before a0 Z = true) : (Jvm.Cond.code ({ cls := "java/lang/Math", name := "abs", desc := "(J)J" } : Jvm.MethodName) jdk_29_method_61_code (2 : Nat) (Option.some Jvm.ClassFile.FieldType.long)).before a0 Z = true := hw _ (List.mem_of_getElem? (i := 33) rfl)
theorem own_w34 {Z : State} {a0 : Array Value} (hw : ∀ d ∈ tables_1, d.before a0 Z = true) : (Jvm.Cond.constantLong "com/example/skewcube/skewcube/Unscaled" (19 : Nat) (-9223372036854775808 : Int64)).before a0 Z = true := hw _ (List.mem_of_getElem? (i := 34) rfl)
theorem own_w35 {Z : State} {a0 : Array Value} (hw : ∀ d ∈ tables_1, d.before a0 Z = true) : (Jvm.Cond.constantLong "com/example/skewcube/skewcube/UnscaledRaisedPinLaw" (55 : Nat) (-9223372036854775808 : Int64)).before a0 Z = true := hw _ (List.mem_of_getElem? (i := 35) rfl)
theorem own_pd0 : parseMethodDescriptor "(JI)J" = some ⟨[.long, .int], some .long⟩ := by decide +kernel
theorem own_pd1 : parseMethodDescriptor "(I)J" = some ⟨[.int], some .long⟩ := by decide +kernel
theorem own_pd2 : parseMethodDescriptor "(J)J" = some ⟨[.long], some .long⟩ := by decide +kernel
theorem own_pn0 : plainName "com/example/skewcube/skewcube/UnscaledRaisedPinLaw" = true := by first | (simp [plainName, overriddenIn]; done) | decide +kernel
theorem own_pn1 : plainName "com/example/skewcube/skewcube/Unscaled" = true := by first | (simp [plainName, overriddenIn]; done) | decide +kernel
theorem own_arrat {s : State} {a : Addr} {c : Cell} (h : s.arrayAt? a = some c) : s.heap[a]? = some c := by
  unfold State.arrayAt? at h
  cases q : s.heap[a]? with
  | none => simp [q] at h
  | some d =>
    simp [q] at h
    obtain ⟨k, -, h2⟩ := Option.bind_eq_some_iff.mp h
    split at h2
    · cases h2
    · split at h2
      · exact h2
      · cases h2
theorem own_b1 {x a b : Int32} (h : x < a) (q : ¬ b < a) : x < b := by rw [Int32.lt_iff_toInt_lt] at *; omega
theorem own_b2 {x a b : Int32} (h : ¬ x < a) (q : ¬ a < b) : ¬ x < b := by rw [Int32.lt_iff_toInt_lt] at *; omega
theorem own_b3 {x a b : Int32} (h : a < x) (q : ¬ a < b) : b < x := by rw [Int32.lt_iff_toInt_lt] at *; omega
theorem own_b4 {x a b : Int32} (h : ¬ a < x) (q : ¬ b < a) : ¬ b < x := by rw [Int32.lt_iff_toInt_lt] at *; omega
theorem own_b5 {x a b : Int32} (h : x < a) (q : ¬ b < a - 1 ∧ a - 1 < a) : ¬ b < x := by
  obtain ⟨q1, q2⟩ := q
  have := c_isub a 1; have := rng32 a; have := rng32 (a - 1); have e1 : (1 : Int32).toInt = 1 := rfl
  rw [Int32.lt_iff_toInt_lt] at *; omega
theorem own_b6 {x a b : Int32} (h : ¬ x < a) (q : b < a) : b < x := by rw [Int32.lt_iff_toInt_lt] at *; omega
theorem own_b7 {x a b : Int32} (h : a < x) (q : ¬ a + 1 < b ∧ a < a + 1) : ¬ x < b := by
  obtain ⟨q1, q2⟩ := q
  have := c_iadd a 1; have := rng32 a; have := rng32 (a + 1); have e1 : (1 : Int32).toInt = 1 := rfl
  rw [Int32.lt_iff_toInt_lt] at *; omega
theorem own_b8 {x a b : Int32} (h : ¬ a < x) (q : a < b) : x < b := by rw [Int32.lt_iff_toInt_lt] at *; omega
theorem own_n1 {x b : Int32} (h : x < b) : ¬ x = b := fun q => by subst q; rw [Int32.lt_iff_toInt_lt] at h; omega
theorem own_n2 {x b : Int32} (h : b < x) : ¬ x = b := fun q => by subst q; rw [Int32.lt_iff_toInt_lt] at h; omega
theorem own_i1 {x y : Int32} (h : x < y) : x.toInt < y.toInt := Int32.lt_iff_toInt_lt.mp h
theorem own_i2 {x y : Int32} (h : ¬ x < y) : y.toInt ≤ x.toInt := Int.not_lt.mp fun q => h (Int32.lt_iff_toInt_lt.mpr q)
theorem own_i3 {x y : Int32} (h : x = y) : x.toInt = y.toInt := congrArg Int32.toInt h
theorem own_i4 {x y : Int32} (h : ¬ x = y) : ¬ x.toInt = y.toInt := fun q => h (Int32.toInt_inj.mp q)
theorem own_some {x y : Int32} (h : x = y) : some (Value.int x) = some (Value.int y) := congrArg (fun z => some (Value.int z)) h
theorem own_ae1 {a b : Addr} (h : a = b) : XT.acmp .eq (.ref a) (.ref b) = true ∧ XT.acmp .ne (.ref a) (.ref b) = false := ⟨decide_eq_true (congrArg Value.ref h), decide_eq_false fun q => q (congrArg Value.ref h)⟩
theorem own_ae0 {a b : Addr} (h : ¬ a = b) : XT.acmp .eq (.ref a) (.ref b) = false ∧ XT.acmp .ne (.ref a) (.ref b) = true := ⟨decide_eq_false fun q => h (Value.ref.inj q), decide_eq_true fun q => h (Value.ref.inj q)⟩
theorem own_ann : XT.acmp .eq .null .null = true ∧ XT.acmp .ne .null .null = false := ⟨rfl, rfl⟩
theorem own_anr (b : Addr) : XT.acmp .eq .null (.ref b) = false ∧ XT.acmp .ne .null (.ref b) = true := by constructor <;> first | rfl | (simp [XT.acmp]; done) | decide
theorem own_arn (b : Addr) : XT.acmp .eq (.ref b) .null = false ∧ XT.acmp .ne (.ref b) .null = true := by constructor <;> first | rfl | (simp [XT.acmp]; done) | decide
theorem own_eqi {args : Array Value} {s : State} {t : Term} {k : Int32} (h : (Jvm.Cond.eq t (Term.int k)).value args s none s [] = some true) : t.eval args s none [] s = some (.int k) := by
  obtain ⟨x, y, e1, e2, k1, k2⟩ := cmp_v (Or.inl h)
  obtain rfl : Value.int k = y := Option.some.inj ((Term.int_eval k).symm.trans e2)
  obtain ⟨z, rfl⟩ : ∃ z, x = .int z := k2
  have q : z = k := gotT (Cond.eq_ints e1 (Term.int_eval k)) h
  rw [e1, q]
theorem own_eql {args : Array Value} {s : State} {t : Term} {k : Int64} (h : (Jvm.Cond.eq t (Term.long k)).value args s none s [] = some true) : t.eval args s none [] s = some (.long k) := by
  obtain ⟨x, y, e1, e2, k1, k2⟩ := cmp_v (Or.inl h)
  obtain rfl : Value.long k = y := Option.some.inj ((show (Term.long k).eval args s none [] s = some (.long k) from rfl).symm.trans e2)
  obtain ⟨z, rfl⟩ : ∃ z, x = .long z := k2
  have q : z = k := gotT (eq_L e1 (show (Term.long k).eval args s none [] s = some (.long k) from rfl)) h
  rw [e1, q]
theorem own_len {args : Array Value} {s : State} {t : Term} {k : Int32} {a : Addr} {c : Cell} (h : (Term.length t).eval args s none [] s = some (.int k)) (ht : t.eval args s none [] s = some (.ref a)) (hc : s.heap[a]? = some c) : c.slots.size.toInt32 = k ∧ c.slots.size < 2 ^ 31 := by
  obtain ⟨a', cell, e1, e2, e3⟩ := Term.length_spec h
  cases ht.symm.trans e1
  have e4 : s.heap[a]? = some cell := own_arrat e2
  cases hc.symm.trans e4
  refine ⟨(Value.int.inj e3).symm, ?_⟩
  by_cases q : c.slots.size < 2 ^ 31
  · exact q
  · simp [Term.eval, ht, e2, q] at h
theorem own_nb0 : nar .boolean 0 = 0 := by decide
theorem own_nb1 : nar .boolean 1 = 1 := by decide
def own_ushr (x y : Int32) : Int32 := (x.toUInt32 >>> (y &&& 31).toUInt32).toInt32
def own_ushrL (x : Int64) (y : Int32) : Int64 := (x.toUInt64 >>> (y &&& 0x3f).toInt64.toUInt64).toInt64
theorem own_d1_0 : decode method_2_code 0 = .ok (.bipush 19, 2) := by decide +kernel
theorem own_d1_2 : decode method_2_code 2 = .ok (.newarray .long, 2) := by decide +kernel
theorem own_d1_4 : decode method_2_code 4 = .ok (.dup, 1) := by decide +kernel
theorem own_d1_5 : decode method_2_code 5 = .ok (.iconst 0, 1) := by decide +kernel
theorem own_d1_6 : decode method_2_code 6 = .ok (.lconst 1, 1) := by decide +kernel
theorem own_d1_7 : decode method_2_code 7 = .ok (.lastore, 1) := by decide +kernel
theorem own_d1_8 : decode method_2_code 8 = .ok (.dup, 1) := by decide +kernel
theorem own_d1_9 : decode method_2_code 9 = .ok (.iconst 1, 1) := by decide +kernel
theorem own_d1_10 : decode method_2_code 10 = .ok (.ldc2_w 7, 3) := by decide +kernel
theorem own_d1_13 : decode method_2_code 13 = .ok (.lastore, 1) := by decide +kernel
theorem own_d1_14 : decode method_2_code 14 = .ok (.dup, 1) := by decide +kernel
theorem own_d1_15 : decode method_2_code 15 = .ok (.iconst 2, 1) := by decide +kernel
theorem own_d1_16 : decode method_2_code 16 = .ok (.ldc2_w 9, 3) := by decide +kernel
theorem own_d1_19 : decode method_2_code 19 = .ok (.lastore, 1) := by decide +kernel
theorem own_d1_20 : decode method_2_code 20 = .ok (.dup, 1) := by decide +kernel
theorem own_d1_21 : decode method_2_code 21 = .ok (.iconst 3, 1) := by decide +kernel
theorem own_d1_22 : decode method_2_code 22 = .ok (.ldc2_w 11, 3) := by decide +kernel
theorem own_d1_25 : decode method_2_code 25 = .ok (.lastore, 1) := by decide +kernel
theorem own_d1_26 : decode method_2_code 26 = .ok (.dup, 1) := by decide +kernel
theorem own_d1_27 : decode method_2_code 27 = .ok (.iconst 4, 1) := by decide +kernel
theorem own_d1_28 : decode method_2_code 28 = .ok (.ldc2_w 13, 3) := by decide +kernel
theorem own_d1_31 : decode method_2_code 31 = .ok (.lastore, 1) := by decide +kernel
theorem own_d1_32 : decode method_2_code 32 = .ok (.dup, 1) := by decide +kernel
theorem own_d1_33 : decode method_2_code 33 = .ok (.iconst 5, 1) := by decide +kernel
theorem own_d1_34 : decode method_2_code 34 = .ok (.ldc2_w 15, 3) := by decide +kernel
theorem own_d1_37 : decode method_2_code 37 = .ok (.lastore, 1) := by decide +kernel
theorem own_d1_38 : decode method_2_code 38 = .ok (.dup, 1) := by decide +kernel
theorem own_d1_39 : decode method_2_code 39 = .ok (.bipush 6, 2) := by decide +kernel
theorem own_d1_41 : decode method_2_code 41 = .ok (.ldc2_w 17, 3) := by decide +kernel
theorem own_d1_44 : decode method_2_code 44 = .ok (.lastore, 1) := by decide +kernel
theorem own_d1_45 : decode method_2_code 45 = .ok (.dup, 1) := by decide +kernel
theorem own_d1_46 : decode method_2_code 46 = .ok (.bipush 7, 2) := by decide +kernel
theorem own_d1_48 : decode method_2_code 48 = .ok (.ldc2_w 19, 3) := by decide +kernel
theorem own_d1_51 : decode method_2_code 51 = .ok (.lastore, 1) := by decide +kernel
theorem own_d1_52 : decode method_2_code 52 = .ok (.dup, 1) := by decide +kernel
theorem own_d1_53 : decode method_2_code 53 = .ok (.bipush 8, 2) := by decide +kernel
theorem own_d1_55 : decode method_2_code 55 = .ok (.ldc2_w 21, 3) := by decide +kernel
theorem own_d1_58 : decode method_2_code 58 = .ok (.lastore, 1) := by decide +kernel
theorem own_d1_59 : decode method_2_code 59 = .ok (.dup, 1) := by decide +kernel
theorem own_d1_60 : decode method_2_code 60 = .ok (.bipush 9, 2) := by decide +kernel
theorem own_d1_62 : decode method_2_code 62 = .ok (.ldc2_w 23, 3) := by decide +kernel
theorem own_d1_65 : decode method_2_code 65 = .ok (.lastore, 1) := by decide +kernel
theorem own_d1_66 : decode method_2_code 66 = .ok (.dup, 1) := by decide +kernel
theorem own_d1_67 : decode method_2_code 67 = .ok (.bipush 10, 2) := by decide +kernel
theorem own_d1_69 : decode method_2_code 69 = .ok (.ldc2_w 25, 3) := by decide +kernel
theorem own_d1_72 : decode method_2_code 72 = .ok (.lastore, 1) := by decide +kernel
theorem own_d1_73 : decode method_2_code 73 = .ok (.dup, 1) := by decide +kernel
theorem own_d1_74 : decode method_2_code 74 = .ok (.bipush 11, 2) := by decide +kernel
theorem own_d1_76 : decode method_2_code 76 = .ok (.ldc2_w 27, 3) := by decide +kernel
theorem own_d1_79 : decode method_2_code 79 = .ok (.lastore, 1) := by decide +kernel
theorem own_d1_80 : decode method_2_code 80 = .ok (.dup, 1) := by decide +kernel
theorem own_d1_81 : decode method_2_code 81 = .ok (.bipush 12, 2) := by decide +kernel
theorem own_d1_83 : decode method_2_code 83 = .ok (.ldc2_w 29, 3) := by decide +kernel
theorem own_d1_86 : decode method_2_code 86 = .ok (.lastore, 1) := by decide +kernel
theorem own_d1_87 : decode method_2_code 87 = .ok (.dup, 1) := by decide +kernel
theorem own_d1_88 : decode method_2_code 88 = .ok (.bipush 13, 2) := by decide +kernel
theorem own_d1_90 : decode method_2_code 90 = .ok (.ldc2_w 31, 3) := by decide +kernel
theorem own_d1_93 : decode method_2_code 93 = .ok (.lastore, 1) := by decide +kernel
theorem own_d1_94 : decode method_2_code 94 = .ok (.dup, 1) := by decide +kernel
theorem own_d1_95 : decode method_2_code 95 = .ok (.bipush 14, 2) := by decide +kernel
theorem own_d1_97 : decode method_2_code 97 = .ok (.ldc2_w 33, 3) := by decide +kernel
theorem own_d1_100 : decode method_2_code 100 = .ok (.lastore, 1) := by decide +kernel
theorem own_d1_101 : decode method_2_code 101 = .ok (.dup, 1) := by decide +kernel
theorem own_d1_102 : decode method_2_code 102 = .ok (.bipush 15, 2) := by decide +kernel
theorem own_d1_104 : decode method_2_code 104 = .ok (.ldc2_w 35, 3) := by decide +kernel
theorem own_d1_107 : decode method_2_code 107 = .ok (.lastore, 1) := by decide +kernel
theorem own_d1_108 : decode method_2_code 108 = .ok (.dup, 1) := by decide +kernel
theorem own_d1_109 : decode method_2_code 109 = .ok (.bipush 16, 2) := by decide +kernel
theorem own_d1_111 : decode method_2_code 111 = .ok (.ldc2_w 37, 3) := by decide +kernel
theorem own_d1_114 : decode method_2_code 114 = .ok (.lastore, 1) := by decide +kernel
theorem own_d1_115 : decode method_2_code 115 = .ok (.dup, 1) := by decide +kernel
theorem own_d1_116 : decode method_2_code 116 = .ok (.bipush 17, 2) := by decide +kernel
theorem own_d1_118 : decode method_2_code 118 = .ok (.ldc2_w 39, 3) := by decide +kernel
theorem own_d1_121 : decode method_2_code 121 = .ok (.lastore, 1) := by decide +kernel
theorem own_d1_122 : decode method_2_code 122 = .ok (.dup, 1) := by decide +kernel
theorem own_d1_123 : decode method_2_code 123 = .ok (.bipush 18, 2) := by decide +kernel
theorem own_d1_125 : decode method_2_code 125 = .ok (.ldc2_w 41, 3) := by decide +kernel
theorem own_d1_128 : decode method_2_code 128 = .ok (.lastore, 1) := by decide +kernel
theorem own_d1_129 : decode method_2_code 129 = .ok (.astore_n 1, 1) := by decide +kernel
theorem own_d1_130 : decode method_2_code 130 = .ok (.aload_n 1, 1) := by decide +kernel
theorem own_d1_131 : decode method_2_code 131 = .ok (.iload_n 0, 1) := by decide +kernel
theorem own_d1_132 : decode method_2_code 132 = .ok (.laload, 1) := by decide +kernel
theorem own_d1_133 : decode method_2_code 133 = .ok (.lreturn, 1) := by decide +kernel
theorem own_d2_0 : decode prog_141_method_3_code 0 = .ok (.lload_n 0, 1) := by decide +kernel
theorem own_d2_1 : decode prog_141_method_3_code 1 = .ok (.lconst 0, 1) := by decide +kernel
theorem own_d2_2 : decode prog_141_method_3_code 2 = .ok (.lcmp, 1) := by decide +kernel
theorem own_d2_3 : decode prog_141_method_3_code 3 = .ok (.ifCond .eq 7, 3) := by decide +kernel
theorem own_d2_6 : decode prog_141_method_3_code 6 = .ok (.iload_n 2, 1) := by decide +kernel
theorem own_d2_7 : decode prog_141_method_3_code 7 = .ok (.ifCond .ne 5, 3) := by decide +kernel
theorem own_d2_10 : decode prog_141_method_3_code 10 = .ok (.lload_n 0, 1) := by decide +kernel
theorem own_d2_11 : decode prog_141_method_3_code 11 = .ok (.lreturn, 1) := by decide +kernel
theorem own_d2_12 : decode prog_141_method_3_code 12 = .ok (.iload_n 2, 1) := by decide +kernel
theorem own_d2_13 : decode prog_141_method_3_code 13 = .ok (.getstatic 15, 3) := by decide +kernel
theorem own_d2_16 : decode prog_141_method_3_code 16 = .ok (.arraylength, 1) := by decide +kernel
theorem own_d2_17 : decode prog_141_method_3_code 17 = .ok (.if_icmp .lt 7, 3) := by decide +kernel
theorem own_d2_20 : decode prog_141_method_3_code 20 = .ok (.ldc2_w 19, 3) := by decide +kernel
theorem own_d2_23 : decode prog_141_method_3_code 23 = .ok (.lreturn, 1) := by decide +kernel
theorem own_d2_24 : decode prog_141_method_3_code 24 = .ok (.ldc2_w 13, 3) := by decide +kernel
theorem own_d2_27 : decode prog_141_method_3_code 27 = .ok (.getstatic 15, 3) := by decide +kernel
theorem own_d2_30 : decode prog_141_method_3_code 30 = .ok (.iload_n 2, 1) := by decide +kernel
theorem own_d2_31 : decode prog_141_method_3_code 31 = .ok (.laload, 1) := by decide +kernel
theorem own_d2_32 : decode prog_141_method_3_code 32 = .ok (.ldiv, 1) := by decide +kernel
theorem own_d2_33 : decode prog_141_method_3_code 33 = .ok (.lstore_n 3, 1) := by decide +kernel
theorem own_d2_34 : decode prog_141_method_3_code 34 = .ok (.lload_n 0, 1) := by decide +kernel
theorem own_d2_35 : decode prog_141_method_3_code 35 = .ok (.lload_n 3, 1) := by decide +kernel
theorem own_d2_36 : decode prog_141_method_3_code 36 = .ok (.lneg, 1) := by decide +kernel
theorem own_d2_37 : decode prog_141_method_3_code 37 = .ok (.lcmp, 1) := by decide +kernel
theorem own_d2_38 : decode prog_141_method_3_code 38 = .ok (.ifCond .le 19, 3) := by decide +kernel
theorem own_d2_41 : decode prog_141_method_3_code 41 = .ok (.lload_n 0, 1) := by decide +kernel
theorem own_d2_42 : decode prog_141_method_3_code 42 = .ok (.lload_n 3, 1) := by decide +kernel
theorem own_d2_43 : decode prog_141_method_3_code 43 = .ok (.lcmp, 1) := by decide +kernel
theorem own_d2_44 : decode prog_141_method_3_code 44 = .ok (.ifCond .ge 13, 3) := by decide +kernel
theorem own_d2_47 : decode prog_141_method_3_code 47 = .ok (.lload_n 0, 1) := by decide +kernel
theorem own_d2_48 : decode prog_141_method_3_code 48 = .ok (.getstatic 15, 3) := by decide +kernel
theorem own_d2_51 : decode prog_141_method_3_code 51 = .ok (.iload_n 2, 1) := by decide +kernel
theorem own_d2_52 : decode prog_141_method_3_code 52 = .ok (.laload, 1) := by decide +kernel
theorem own_d2_53 : decode prog_141_method_3_code 53 = .ok (.lmul, 1) := by decide +kernel
theorem own_d2_54 : decode prog_141_method_3_code 54 = .ok (.goto 6, 3) := by decide +kernel
theorem own_d2_57 : decode prog_141_method_3_code 57 = .ok (.ldc2_w 19, 3) := by decide +kernel
theorem own_d2_60 : decode prog_141_method_3_code 60 = .ok (.lreturn, 1) := by decide +kernel
theorem own_d3_0 : decode jdk_29_method_61_code 0 = .ok (.lload_n 0, 1) := by decide +kernel
theorem own_d3_1 : decode jdk_29_method_61_code 1 = .ok (.lconst 0, 1) := by decide +kernel
theorem own_d3_2 : decode jdk_29_method_61_code 2 = .ok (.lcmp, 1) := by decide +kernel
theorem own_d3_3 : decode jdk_29_method_61_code 3 = .ok (.ifCond .ge 8, 3) := by decide +kernel
theorem own_d3_6 : decode jdk_29_method_61_code 6 = .ok (.lload_n 0, 1) := by decide +kernel
theorem own_d3_7 : decode jdk_29_method_61_code 7 = .ok (.lneg, 1) := by decide +kernel
theorem own_d3_8 : decode jdk_29_method_61_code 8 = .ok (.goto 4, 3) := by decide +kernel
theorem own_d3_11 : decode jdk_29_method_61_code 11 = .ok (.lload_n 0, 1) := by decide +kernel
theorem own_d3_12 : decode jdk_29_method_61_code 12 = .ok (.lreturn, 1) := by decide +kernel
def own_pows : List Int64 := [1, 10, 100, 1000, 10000, 100000, 1000000, 10000000, 100000000, 1000000000, 10000000000, 100000000000, 1000000000000, 10000000000000, 100000000000000, 1000000000000000, 10000000000000000, 100000000000000000, 1000000000000000000]
def own_pow (i : Int32) : Int64 := own_pows.getD i.toNatClampNeg 0
theorem own_mapL (l : List Int64) (n : Nat) : (l.map Value.long).getD n (.long (0 : Int64)) = .long (l.getD n 0) := by
  simp only [List.getD_eq_getElem?_getD, List.getElem?_map]
  cases l[n]? <;> rfl
theorem own_get (n : Nat) : [(.long (1 : Int64)), (.long (10 : Int64)), (.long (100 : Int64)), (.long (1000 : Int64)), (.long (10000 : Int64)), (.long (100000 : Int64)), (.long (1000000 : Int64)), (.long (10000000 : Int64)), (.long (100000000 : Int64)), (.long (1000000000 : Int64)), (.long (10000000000 : Int64)), (.long (100000000000 : Int64)), (.long (1000000000000 : Int64)), (.long (10000000000000 : Int64)), (.long (100000000000000 : Int64)), (.long (1000000000000000 : Int64)), (.long (10000000000000000 : Int64)), (.long (100000000000000000 : Int64)), (.long (1000000000000000000 : Int64))].getD n (.long (0 : Int64)) = Value.long (own_pows.getD n 0) := own_mapL own_pows n
theorem own_19 {d : Int32} (h : 0 ≤ d.toInt ∧ d.toInt ≤ 18) : (1000000000000000000 : Int64) / own_pow d = own_pow (18 - d) ∧ ¬ own_pow d = 0 ∧ 0 < own_pow (18 - d) ∧ own_pow (18 - d) < 1000000000000000001 := by
  have : d.toInt = 0 ∨ d.toInt = 1 ∨ d.toInt = 2 ∨ d.toInt = 3 ∨ d.toInt = 4 ∨ d.toInt = 5 ∨ d.toInt = 6 ∨ d.toInt = 7 ∨ d.toInt = 8 ∨ d.toInt = 9 ∨ d.toInt = 10 ∨ d.toInt = 11 ∨ d.toInt = 12 ∨ d.toInt = 13 ∨ d.toInt = 14 ∨ d.toInt = 15 ∨ d.toInt = 16 ∨ d.toInt = 17 ∨ d.toInt = 18 := by omega
  rcases this with q | q | q | q | q | q | q | q | q | q | q | q | q | q | q | q | q | q | q
  · obtain rfl : d = 0 := Int32.toInt_inj.mp q
    decide
  · obtain rfl : d = 1 := Int32.toInt_inj.mp q
    decide
  · obtain rfl : d = 2 := Int32.toInt_inj.mp q
    decide
  · obtain rfl : d = 3 := Int32.toInt_inj.mp q
    decide
  · obtain rfl : d = 4 := Int32.toInt_inj.mp q
    decide
  · obtain rfl : d = 5 := Int32.toInt_inj.mp q
    decide
  · obtain rfl : d = 6 := Int32.toInt_inj.mp q
    decide
  · obtain rfl : d = 7 := Int32.toInt_inj.mp q
    decide
  · obtain rfl : d = 8 := Int32.toInt_inj.mp q
    decide
  · obtain rfl : d = 9 := Int32.toInt_inj.mp q
    decide
  · obtain rfl : d = 10 := Int32.toInt_inj.mp q
    decide
  · obtain rfl : d = 11 := Int32.toInt_inj.mp q
    decide
  · obtain rfl : d = 12 := Int32.toInt_inj.mp q
    decide
  · obtain rfl : d = 13 := Int32.toInt_inj.mp q
    decide
  · obtain rfl : d = 14 := Int32.toInt_inj.mp q
    decide
  · obtain rfl : d = 15 := Int32.toInt_inj.mp q
    decide
  · obtain rfl : d = 16 := Int32.toInt_inj.mp q
    decide
  · obtain rfl : d = 17 := Int32.toInt_inj.mp q
    decide
  · obtain rfl : d = 18 := Int32.toInt_inj.mp q
    decide
def own_raised (u : Int64) (d : Int32) : Int64 := if u = 0 then u else if d = 0 then u else if d < 19 then (if -((1000000000000000000 : Int64) / own_pow d) < u then (if u < (1000000000000000000 : Int64) / own_pow d then u * own_pow d else -9223372036854775808) else -9223372036854775808) else -9223372036854775808
def own_abs (u : Int64) : Int64 := if u < 0 then -u else u
def own_rg (u : Int64) : Prop := -1000000000000000000 < u.toInt ∧ u.toInt < 1000000000000000000
theorem own_rem {x y u : Int64} {k : Int} (hy : y.toInt = k) (hk : 0 < k ∧ k ≤ 1000000000000000000) (h : x - x / y * y = u) : own_rg u := by
  have h1 := c_lrem x y k hy
  rw [h] at h1
  unfold own_rg
  have a1 := Int.emod_lt_of_pos x.toInt hk.1
  have a2 := Int.emod_nonneg x.toInt (by omega : k ≠ 0)
  have b1 := Int.emod_lt_of_pos (-x.toInt) hk.1
  have b2 := Int.emod_nonneg (-x.toInt) (by omega : k ≠ 0)
  by_cases q : 0 ≤ x.toInt
  · have := h1.1 q; omega
  · have := h1.2 (by omega); omega
theorem own_A {u : Int64} {d : Int32} (h0 : u = 0) : own_raised u d = 0 := by unfold own_raised; rw [if_pos h0]; exact h0
theorem own_B {u : Int64} {d : Int32} (hd : (18 : Int32) < d) (h0 : ¬ u = 0) : own_raised u d = -9223372036854775808 := by
  unfold own_raised
  rw [if_neg h0, if_neg (fun q => by rw [q] at hd; exact absurd hd (by decide)), if_neg (own_b7 hd (by decide))]
theorem own_absL {u : Int64} (h : own_rg u) (p : Int64) (hp : 0 < p ∧ p < 1000000000000000001) : own_abs u < p ↔ (-p < u ∧ u < p) := by
  unfold own_abs
  obtain ⟨h1, h2⟩ := h
  obtain ⟨p1, p2⟩ := hp
  have e0 : (0 : Int64).toInt = 0 := rfl
  have e1 : (1000000000000000001 : Int64).toInt = 1000000000000000001 := rfl
  rw [Int64.lt_iff_toInt_lt] at p1 p2
  have n1 := c_lneg u; have n2 := c_lneg p; have r1 := rng64 (-u); have r2 := rng64 (-p)
  by_cases q : u < 0
  · rw [if_pos q]
    simp only [Int64.lt_iff_toInt_lt] at *
    omega
  · rw [if_neg q]
    simp only [Int64.lt_iff_toInt_lt] at *
    omega
theorem own_C {u : Int64} {d : Int32} (hd : 0 ≤ d.toInt ∧ d.toInt ≤ 18) (hr : own_rg u) : (own_abs u < own_pow (18 - d) → own_raised u d = u * own_pow d) ∧ (¬ own_abs u < own_pow (18 - d) → own_raised u d = -9223372036854775808) := by
  obtain ⟨e1, e2, e3, e4⟩ := own_19 hd
  rw [own_absL hr _ ⟨e3, e4⟩]
  have l19 : d < 19 := by rw [Int32.lt_iff_toInt_lt]; have : (19 : Int32).toInt = 19 := rfl; omega
  unfold own_raised
  rw [e1]
  by_cases h0 : u = 0
  · subst h0
    constructor
    · intro _; rw [if_pos rfl, Int64.zero_mul]
    · intro q; exfalso; apply q
      rw [Int64.lt_iff_toInt_lt, Int64.lt_iff_toInt_lt]
      have n2 := c_lneg (own_pow (18 - d)); have r2 := rng64 (-own_pow (18 - d))
      rw [Int64.lt_iff_toInt_lt] at e3 e4
      have x0 : (0 : Int64).toInt = 0 := rfl
      have x1 : (1000000000000000001 : Int64).toInt = 1000000000000000001 := rfl
      omega
  · rw [if_neg h0]
    by_cases hz : d = 0
    · subst hz
      have k1 : own_pow 0 = 1 := by decide
      have k2 : own_pow (18 - 0) = 1000000000000000000 := by decide
      rw [if_pos rfl, k1, k2, Int64.mul_one]
      constructor
      · intro _; rfl
      · intro q; exfalso; apply q
        obtain ⟨h1, h2⟩ := hr
        rw [Int64.lt_iff_toInt_lt, Int64.lt_iff_toInt_lt]
        have x0 : (-(1000000000000000000 : Int64)).toInt = -1000000000000000000 := rfl
        have x1 : (1000000000000000000 : Int64).toInt = 1000000000000000000 := rfl
        omega
    · rw [if_neg hz, if_pos l19]
      constructor
      · intro q; rw [if_pos q.1, if_pos q.2]
      · intro q
        by_cases q1 : -own_pow (18 - d) < u
        · rw [if_pos q1, if_neg (fun q2 => q ⟨q1, q2⟩)]
        · rw [if_neg q1]
theorem own_and31 {p d : Int32} (h : p &&& 31 = d) : 0 ≤ d.toInt ∧ d.toInt ≤ 31 := by
  have h1 := c_mask p 31 5 (by decide) (by decide)
  rw [h] at h1; omega
theorem own_in19 {d : Int32} (h : 0 ≤ d.toInt ∧ d.toInt ≤ 18) : ¬ d < 0 ∧ d < 19 := by
  have e0 : (0 : Int32).toInt = 0 := rfl
  have e1 : (19 : Int32).toInt = 19 := rfl
  rw [Int32.lt_iff_toInt_lt, Int32.lt_iff_toInt_lt, e0, e1]; omega
theorem own_sub18 {d : Int32} (h : 0 ≤ d.toInt ∧ d.toInt ≤ 18) : 0 ≤ ((18 : Int32) - d).toInt ∧ ((18 : Int32) - d).toInt ≤ 18 := by
  have h1 := c_isub 18 d
  have e1 : (18 : Int32).toInt = 18 := rfl
  have := rng32 ((18 : Int32) - d)
  omega
def own_room1 : Room := { frames := 0, cells := 1, slots := 19, locals := 0 }
def own_Q1 (Z : State) (p0 : Int32) (h0 : Heap) (n0 : Nat) (v : Option Value) (h : Heap) (L : List Loc) : Prop := v = some (.long (own_pow p0)) ∧ Fr n0 L ∧ Keep h0 h []
theorem own_ef_rm1 (m : MethodId) (x0 : Int32) : entryFrame m #[(.int x0)] 2 = mkF m 0 #[.val (.int x0), .unset] [] := by first | (simp [entryFrame, mkF, argsToLocals, Value.category]; done) | rfl
set_option maxRecDepth 65536 in
set_option maxHeartbeats 40000000 in
theorem own_rm1 (l : Launch) (Z : State) (a0 : Array Value) (hw : ∀ d ∈ tables_1, d.before a0 Z = true) (ws : List Jvm.Cond) (p0 : Int32) (h0 : Heap) (n0 : Nat) (Z0 : n0 ≤ h0.size) (hi : 0 ≤ p0.toInt ∧ p0.toInt ≤ 18) :
    MetFree l (⟨"com/example/skewcube/skewcube/UnscaledRaisedPinLaw", "pow", "(I)J"⟩ : MethodName) (head1 (Jvm.Cond.code (⟨"com/example/skewcube/skewcube/UnscaledRaisedPinLaw", "pow", "(I)J"⟩ : MethodName) method_2_code 2 (some .long) :: ws) own_room1) (fun zz U => zz = #[(.int p0)] ∧ Z.Warmed39 U.vm ∧ U.heap = h0) (fun _ _ _ _ _ => True) (fun _ U o U' => ∃ v L, o = .returned v ∧ own_Q1 Z p0 h0 n0 v U'.heap L ∧ FrameEnd U o U' L own_room1.cells own_room1.slots) := by
  refine MetFree.of_bodySF (plainFor_of_name own_pn0) hisR ?_
  intro p e s m args below meth c s₁ Bd hml0 hP hK
  obtain ⟨rfl, hZ, hh⟩ := hP
  have hx := Bd.exec
  have hby := Bd.bytes
  have hml : c.maxLocals = 2 := hml0
  have hown : s.vm.findClass "com/example/skewcube/skewcube/UnscaledRaisedPinLaw" = some m.cls := findClass_of_methodNamed Bd.named
  have hnm := (name_of_methodNamed Bd.named Bd.method).1
  have hlk : meth.locks = false := BodyLoose.notSynchronized Bd
  have hret := Bd.returns
  have X0 : Stand p l e own_room1 s m #[(.int p0)] below meth c s₁ [] 0 0 := Stand.of_body Bd
  have e0 : s₁.heap = h0 := by rw [← hh, Bd.state]; rfl
  have N0 := Fr.nil n0
  show own_Ends p e below s (own_Q1 Z p0 h0 n0) own_room1.cells own_room1.slots s₁ (entryFrame m #[(.int p0)] 2)
  refine own_cast (own_ef_rm1 m p0) ?_
  have K0 := Keep.refl h0 ([] : List Addr)
  refine own_bipush (pc' := 2) (z := (19 : Int32)) X0 hx (hb hby own_d1_0) rfl rfl ?_
  refine own_newarr (pc' := 4) (aty := .long) X0 hx hZ (own_w4 hw) e0 (hb hby own_d1_2) rfl (by decide) 19 19 (by decide) (by decide) (by decide) (by decide) ?_
  intro T31 h31 a31 k31 X31 e31 E31 g31 V31
  replace V31 : Arv Z h31 a31 k31 .long (19 : Int32) [(.long (0 : Int64)), (.long (0 : Int64)), (.long (0 : Int64)), (.long (0 : Int64)), (.long (0 : Int64)), (.long (0 : Int64)), (.long (0 : Int64)), (.long (0 : Int64)), (.long (0 : Int64)), (.long (0 : Int64)), (.long (0 : Int64)), (.long (0 : Int64)), (.long (0 : Int64)), (.long (0 : Int64)), (.long (0 : Int64)), (.long (0 : Int64)), (.long (0 : Int64)), (.long (0 : Int64)), (.long (0 : Int64))] (.long (0 : Int64)) := V31
  have ge32 : n0 ≤ a31 := by rw [g31]; exact Z0
  have sz33 : h0.size ≤ a31 := by rw [g31]; exact K0.1
  show own_Ends p e below s _ _ _ T31 (mkF m 4 #[.val (.int p0), .unset] [(.ref a31)])
  refine own_dup (pc' := 5) X31 hx (hb hby own_d1_4) rfl rfl ?_
  refine own_iconst (pc' := 6) (z := (0 : Int32)) X31 hx (hb hby own_d1_5) rfl rfl ?_
  refine own_lconst (pc' := 7) (z := (1 : Int64)) X31 hx (hb hby own_d1_6) rfl rfl ?_
  refine own_lastore (pc' := 8) X31 hx hZ e31 V31 (hb hby own_d1_7) rfl (by decide) 0 rfl (by simp) N0 ge32 ?_
  intro T34 h34 L34 X34 e34 N34 W34 V34
  replace V34 : Arv Z h34 a31 k31 .long (19 : Int32) [(.long (1 : Int64)), (.long (0 : Int64)), (.long (0 : Int64)), (.long (0 : Int64)), (.long (0 : Int64)), (.long (0 : Int64)), (.long (0 : Int64)), (.long (0 : Int64)), (.long (0 : Int64)), (.long (0 : Int64)), (.long (0 : Int64)), (.long (0 : Int64)), (.long (0 : Int64)), (.long (0 : Int64)), (.long (0 : Int64)), (.long (0 : Int64)), (.long (0 : Int64)), (.long (0 : Int64)), (.long (0 : Int64))] (.long (0 : Int64)) := V34
  show own_Ends p e below s _ _ _ T34 (mkF m 8 #[.val (.int p0), .unset] [(.ref a31)])
  refine own_dup (pc' := 9) X34 hx (hb hby own_d1_8) rfl rfl ?_
  refine own_iconst (pc' := 10) (z := (1 : Int32)) X34 hx (hb hby own_d1_9) rfl rfl ?_
  refine own_ldc2J (pc' := 13) X34 hx hZ hown (own_w5 hw) (hb hby own_d1_10) rfl ?_
  refine own_lastore (pc' := 14) X34 hx hZ e34 V34 (hb hby own_d1_13) rfl (by decide) 1 rfl (by simp) N34 ge32 ?_
  intro T35 h35 L35 X35 e35 N35 W35 V35
  replace V35 : Arv Z h35 a31 k31 .long (19 : Int32) [(.long (1 : Int64)), (.long (10 : Int64)), (.long (0 : Int64)), (.long (0 : Int64)), (.long (0 : Int64)), (.long (0 : Int64)), (.long (0 : Int64)), (.long (0 : Int64)), (.long (0 : Int64)), (.long (0 : Int64)), (.long (0 : Int64)), (.long (0 : Int64)), (.long (0 : Int64)), (.long (0 : Int64)), (.long (0 : Int64)), (.long (0 : Int64)), (.long (0 : Int64)), (.long (0 : Int64)), (.long (0 : Int64))] (.long (0 : Int64)) := V35
  show own_Ends p e below s _ _ _ T35 (mkF m 14 #[.val (.int p0), .unset] [(.ref a31)])
  refine own_dup (pc' := 15) X35 hx (hb hby own_d1_14) rfl rfl ?_
  refine own_iconst (pc' := 16) (z := (2 : Int32)) X35 hx (hb hby own_d1_15) rfl rfl ?_
  refine own_ldc2J (pc' := 19) X35 hx hZ hown (own_w6 hw) (hb hby own_d1_16) rfl ?_
  refine own_lastore (pc' := 20) X35 hx hZ e35 V35 (hb hby own_d1_19) rfl (by decide) 2 rfl (by simp) N35 ge32 ?_
  intro T36 h36 L36 X36 e36 N36 W36 V36
  replace V36 : Arv Z h36 a31 k31 .long (19 : Int32) [(.long (1 : Int64)), (.long (10 : Int64)), (.long (100 : Int64)), (.long (0 : Int64)), (.long (0 : Int64)), (.long (0 : Int64)), (.long (0 : Int64)), (.long (0 : Int64)), (.long (0 : Int64)), (.long (0 : Int64)), (.long (0 : Int64)), (.long (0 : Int64)), (.long (0 : Int64)), (.long (0 : Int64)), (.long (0 : Int64)), (.long (0 : Int64)), (.long (0 : Int64)), (.long (0 : Int64)), (.long (0 : Int64))] (.long (0 : Int64)) := V36
  show own_Ends p e below s _ _ _ T36 (mkF m 20 #[.val (.int p0), .unset] [(.ref a31)])
  refine own_dup (pc' := 21) X36 hx (hb hby own_d1_20) rfl rfl ?_
  refine own_iconst (pc' := 22) (z := (3 : Int32)) X36 hx (hb hby own_d1_21) rfl rfl ?_
  refine own_ldc2J (pc' := 25) X36 hx hZ hown (own_w7 hw) (hb hby own_d1_22) rfl ?_
  refine own_lastore (pc' := 26) X36 hx hZ e36 V36 (hb hby own_d1_25) rfl (by decide) 3 rfl (by simp) N36 ge32 ?_
  intro T37 h37 L37 X37 e37 N37 W37 V37
  replace V37 : Arv Z h37 a31 k31 .long (19 : Int32) [(.long (1 : Int64)), (.long (10 : Int64)), (.long (100 : Int64)), (.long (1000 : Int64)), (.long (0 : Int64)), (.long (0 : Int64)), (.long (0 : Int64)), (.long (0 : Int64)), (.long (0 : Int64)), (.long (0 : Int64)), (.long (0 : Int64)), (.long (0 : Int64)), (.long (0 : Int64)), (.long (0 : Int64)), (.long (0 : Int64)), (.long (0 : Int64)), (.long (0 : Int64)), (.long (0 : Int64)), (.long (0 : Int64))] (.long (0 : Int64)) := V37
  show own_Ends p e below s _ _ _ T37 (mkF m 26 #[.val (.int p0), .unset] [(.ref a31)])
  refine own_dup (pc' := 27) X37 hx (hb hby own_d1_26) rfl rfl ?_
  refine own_iconst (pc' := 28) (z := (4 : Int32)) X37 hx (hb hby own_d1_27) rfl rfl ?_
  refine own_ldc2J (pc' := 31) X37 hx hZ hown (own_w8 hw) (hb hby own_d1_28) rfl ?_
  refine own_lastore (pc' := 32) X37 hx hZ e37 V37 (hb hby own_d1_31) rfl (by decide) 4 rfl (by simp) N37 ge32 ?_
  intro T38 h38 L38 X38 e38 N38 W38 V38
  replace V38 : Arv Z h38 a31 k31 .long (19 : Int32) [(.long (1 : Int64)), (.long (10 : Int64)), (.long (100 : Int64)), (.long (1000 : Int64)), (.long (10000 : Int64)), (.long (0 : Int64)), (.long (0 : Int64)), (.long (0 : Int64)), (.long (0 : Int64)), (.long (0 : Int64)), (.long (0 : Int64)), (.long (0 : Int64)), (.long (0 : Int64)), (.long (0 : Int64)), (.long (0 : Int64)), (.long (0 : Int64)), (.long (0 : Int64)), (.long (0 : Int64)), (.long (0 : Int64))] (.long (0 : Int64)) := V38
  show own_Ends p e below s _ _ _ T38 (mkF m 32 #[.val (.int p0), .unset] [(.ref a31)])
  refine own_dup (pc' := 33) X38 hx (hb hby own_d1_32) rfl rfl ?_
  refine own_iconst (pc' := 34) (z := (5 : Int32)) X38 hx (hb hby own_d1_33) rfl rfl ?_
  refine own_ldc2J (pc' := 37) X38 hx hZ hown (own_w9 hw) (hb hby own_d1_34) rfl ?_
  refine own_lastore (pc' := 38) X38 hx hZ e38 V38 (hb hby own_d1_37) rfl (by decide) 5 rfl (by simp) N38 ge32 ?_
  intro T39 h39 L39 X39 e39 N39 W39 V39
  replace V39 : Arv Z h39 a31 k31 .long (19 : Int32) [(.long (1 : Int64)), (.long (10 : Int64)), (.long (100 : Int64)), (.long (1000 : Int64)), (.long (10000 : Int64)), (.long (100000 : Int64)), (.long (0 : Int64)), (.long (0 : Int64)), (.long (0 : Int64)), (.long (0 : Int64)), (.long (0 : Int64)), (.long (0 : Int64)), (.long (0 : Int64)), (.long (0 : Int64)), (.long (0 : Int64)), (.long (0 : Int64)), (.long (0 : Int64)), (.long (0 : Int64)), (.long (0 : Int64))] (.long (0 : Int64)) := V39
  show own_Ends p e below s _ _ _ T39 (mkF m 38 #[.val (.int p0), .unset] [(.ref a31)])
  refine own_dup (pc' := 39) X39 hx (hb hby own_d1_38) rfl rfl ?_
  refine own_bipush (pc' := 41) (z := (6 : Int32)) X39 hx (hb hby own_d1_39) rfl rfl ?_
  refine own_ldc2J (pc' := 44) X39 hx hZ hown (own_w10 hw) (hb hby own_d1_41) rfl ?_
  refine own_lastore (pc' := 45) X39 hx hZ e39 V39 (hb hby own_d1_44) rfl (by decide) 6 rfl (by simp) N39 ge32 ?_
  intro T40 h40 L40 X40 e40 N40 W40 V40
  replace V40 : Arv Z h40 a31 k31 .long (19 : Int32) [(.long (1 : Int64)), (.long (10 : Int64)), (.long (100 : Int64)), (.long (1000 : Int64)), (.long (10000 : Int64)), (.long (100000 : Int64)), (.long (1000000 : Int64)), (.long (0 : Int64)), (.long (0 : Int64)), (.long (0 : Int64)), (.long (0 : Int64)), (.long (0 : Int64)), (.long (0 : Int64)), (.long (0 : Int64)), (.long (0 : Int64)), (.long (0 : Int64)), (.long (0 : Int64)), (.long (0 : Int64)), (.long (0 : Int64))] (.long (0 : Int64)) := V40
  show own_Ends p e below s _ _ _ T40 (mkF m 45 #[.val (.int p0), .unset] [(.ref a31)])
  refine own_dup (pc' := 46) X40 hx (hb hby own_d1_45) rfl rfl ?_
  refine own_bipush (pc' := 48) (z := (7 : Int32)) X40 hx (hb hby own_d1_46) rfl rfl ?_
  refine own_ldc2J (pc' := 51) X40 hx hZ hown (own_w11 hw) (hb hby own_d1_48) rfl ?_
  refine own_lastore (pc' := 52) X40 hx hZ e40 V40 (hb hby own_d1_51) rfl (by decide) 7 rfl (by simp) N40 ge32 ?_
  intro T41 h41 L41 X41 e41 N41 W41 V41
  replace V41 : Arv Z h41 a31 k31 .long (19 : Int32) [(.long (1 : Int64)), (.long (10 : Int64)), (.long (100 : Int64)), (.long (1000 : Int64)), (.long (10000 : Int64)), (.long (100000 : Int64)), (.long (1000000 : Int64)), (.long (10000000 : Int64)), (.long (0 : Int64)), (.long (0 : Int64)), (.long (0 : Int64)), (.long (0 : Int64)), (.long (0 : Int64)), (.long (0 : Int64)), (.long (0 : Int64)), (.long (0 : Int64)), (.long (0 : Int64)), (.long (0 : Int64)), (.long (0 : Int64))] (.long (0 : Int64)) := V41
  show own_Ends p e below s _ _ _ T41 (mkF m 52 #[.val (.int p0), .unset] [(.ref a31)])
  refine own_dup (pc' := 53) X41 hx (hb hby own_d1_52) rfl rfl ?_
  refine own_bipush (pc' := 55) (z := (8 : Int32)) X41 hx (hb hby own_d1_53) rfl rfl ?_
  refine own_ldc2J (pc' := 58) X41 hx hZ hown (own_w12 hw) (hb hby own_d1_55) rfl ?_
  refine own_lastore (pc' := 59) X41 hx hZ e41 V41 (hb hby own_d1_58) rfl (by decide) 8 rfl (by simp) N41 ge32 ?_
  intro T42 h42 L42 X42 e42 N42 W42 V42
  replace V42 : Arv Z h42 a31 k31 .long (19 : Int32) [(.long (1 : Int64)), (.long (10 : Int64)), (.long (100 : Int64)), (.long (1000 : Int64)), (.long (10000 : Int64)), (.long (100000 : Int64)), (.long (1000000 : Int64)), (.long (10000000 : Int64)), (.long (100000000 : Int64)), (.long (0 : Int64)), (.long (0 : Int64)), (.long (0 : Int64)), (.long (0 : Int64)), (.long (0 : Int64)), (.long (0 : Int64)), (.long (0 : Int64)), (.long (0 : Int64)), (.long (0 : Int64)), (.long (0 : Int64))] (.long (0 : Int64)) := V42
  show own_Ends p e below s _ _ _ T42 (mkF m 59 #[.val (.int p0), .unset] [(.ref a31)])
  refine own_dup (pc' := 60) X42 hx (hb hby own_d1_59) rfl rfl ?_
  refine own_bipush (pc' := 62) (z := (9 : Int32)) X42 hx (hb hby own_d1_60) rfl rfl ?_
  refine own_ldc2J (pc' := 65) X42 hx hZ hown (own_w13 hw) (hb hby own_d1_62) rfl ?_
  refine own_lastore (pc' := 66) X42 hx hZ e42 V42 (hb hby own_d1_65) rfl (by decide) 9 rfl (by simp) N42 ge32 ?_
  intro T43 h43 L43 X43 e43 N43 W43 V43
  replace V43 : Arv Z h43 a31 k31 .long (19 : Int32) [(.long (1 : Int64)), (.long (10 : Int64)), (.long (100 : Int64)), (.long (1000 : Int64)), (.long (10000 : Int64)), (.long (100000 : Int64)), (.long (1000000 : Int64)), (.long (10000000 : Int64)), (.long (100000000 : Int64)), (.long (1000000000 : Int64)), (.long (0 : Int64)), (.long (0 : Int64)), (.long (0 : Int64)), (.long (0 : Int64)), (.long (0 : Int64)), (.long (0 : Int64)), (.long (0 : Int64)), (.long (0 : Int64)), (.long (0 : Int64))] (.long (0 : Int64)) := V43
  show own_Ends p e below s _ _ _ T43 (mkF m 66 #[.val (.int p0), .unset] [(.ref a31)])
  refine own_dup (pc' := 67) X43 hx (hb hby own_d1_66) rfl rfl ?_
  refine own_bipush (pc' := 69) (z := (10 : Int32)) X43 hx (hb hby own_d1_67) rfl rfl ?_
  refine own_ldc2J (pc' := 72) X43 hx hZ hown (own_w14 hw) (hb hby own_d1_69) rfl ?_
  refine own_lastore (pc' := 73) X43 hx hZ e43 V43 (hb hby own_d1_72) rfl (by decide) 10 rfl (by simp) N43 ge32 ?_
  intro T44 h44 L44 X44 e44 N44 W44 V44
  replace V44 : Arv Z h44 a31 k31 .long (19 : Int32) [(.long (1 : Int64)), (.long (10 : Int64)), (.long (100 : Int64)), (.long (1000 : Int64)), (.long (10000 : Int64)), (.long (100000 : Int64)), (.long (1000000 : Int64)), (.long (10000000 : Int64)), (.long (100000000 : Int64)), (.long (1000000000 : Int64)), (.long (10000000000 : Int64)), (.long (0 : Int64)), (.long (0 : Int64)), (.long (0 : Int64)), (.long (0 : Int64)), (.long (0 : Int64)), (.long (0 : Int64)), (.long (0 : Int64)), (.long (0 : Int64))] (.long (0 : Int64)) := V44
  show own_Ends p e below s _ _ _ T44 (mkF m 73 #[.val (.int p0), .unset] [(.ref a31)])
  refine own_dup (pc' := 74) X44 hx (hb hby own_d1_73) rfl rfl ?_
  refine own_bipush (pc' := 76) (z := (11 : Int32)) X44 hx (hb hby own_d1_74) rfl rfl ?_
  refine own_ldc2J (pc' := 79) X44 hx hZ hown (own_w15 hw) (hb hby own_d1_76) rfl ?_
  refine own_lastore (pc' := 80) X44 hx hZ e44 V44 (hb hby own_d1_79) rfl (by decide) 11 rfl (by simp) N44 ge32 ?_
  intro T45 h45 L45 X45 e45 N45 W45 V45
  replace V45 : Arv Z h45 a31 k31 .long (19 : Int32) [(.long (1 : Int64)), (.long (10 : Int64)), (.long (100 : Int64)), (.long (1000 : Int64)), (.long (10000 : Int64)), (.long (100000 : Int64)), (.long (1000000 : Int64)), (.long (10000000 : Int64)), (.long (100000000 : Int64)), (.long (1000000000 : Int64)), (.long (10000000000 : Int64)), (.long (100000000000 : Int64)), (.long (0 : Int64)), (.long (0 : Int64)), (.long (0 : Int64)), (.long (0 : Int64)), (.long (0 : Int64)), (.long (0 : Int64)), (.long (0 : Int64))] (.long (0 : Int64)) := V45
  show own_Ends p e below s _ _ _ T45 (mkF m 80 #[.val (.int p0), .unset] [(.ref a31)])
  refine own_dup (pc' := 81) X45 hx (hb hby own_d1_80) rfl rfl ?_
  refine own_bipush (pc' := 83) (z := (12 : Int32)) X45 hx (hb hby own_d1_81) rfl rfl ?_
  refine own_ldc2J (pc' := 86) X45 hx hZ hown (own_w16 hw) (hb hby own_d1_83) rfl ?_
  refine own_lastore (pc' := 87) X45 hx hZ e45 V45 (hb hby own_d1_86) rfl (by decide) 12 rfl (by simp) N45 ge32 ?_
  intro T46 h46 L46 X46 e46 N46 W46 V46
  replace V46 : Arv Z h46 a31 k31 .long (19 : Int32) [(.long (1 : Int64)), (.long (10 : Int64)), (.long (100 : Int64)), (.long (1000 : Int64)), (.long (10000 : Int64)), (.long (100000 : Int64)), (.long (1000000 : Int64)), (.long (10000000 : Int64)), (.long (100000000 : Int64)), (.long (1000000000 : Int64)), (.long (10000000000 : Int64)), (.long (100000000000 : Int64)), (.long (1000000000000 : Int64)), (.long (0 : Int64)), (.long (0 : Int64)), (.long (0 : Int64)), (.long (0 : Int64)), (.long (0 : Int64)), (.long (0 : Int64))] (.long (0 : Int64)) := V46
  show own_Ends p e below s _ _ _ T46 (mkF m 87 #[.val (.int p0), .unset] [(.ref a31)])
  refine own_dup (pc' := 88) X46 hx (hb hby own_d1_87) rfl rfl ?_
  refine own_bipush (pc' := 90) (z := (13 : Int32)) X46 hx (hb hby own_d1_88) rfl rfl ?_
  refine own_ldc2J (pc' := 93) X46 hx hZ hown (own_w17 hw) (hb hby own_d1_90) rfl ?_
  refine own_lastore (pc' := 94) X46 hx hZ e46 V46 (hb hby own_d1_93) rfl (by decide) 13 rfl (by simp) N46 ge32 ?_
  intro T47 h47 L47 X47 e47 N47 W47 V47
  replace V47 : Arv Z h47 a31 k31 .long (19 : Int32) [(.long (1 : Int64)), (.long (10 : Int64)), (.long (100 : Int64)), (.long (1000 : Int64)), (.long (10000 : Int64)), (.long (100000 : Int64)), (.long (1000000 : Int64)), (.long (10000000 : Int64)), (.long (100000000 : Int64)), (.long (1000000000 : Int64)), (.long (10000000000 : Int64)), (.long (100000000000 : Int64)), (.long (1000000000000 : Int64)), (.long (10000000000000 : Int64)), (.long (0 : Int64)), (.long (0 : Int64)), (.long (0 : Int64)), (.long (0 : Int64)), (.long (0 : Int64))] (.long (0 : Int64)) := V47
  show own_Ends p e below s _ _ _ T47 (mkF m 94 #[.val (.int p0), .unset] [(.ref a31)])
  refine own_dup (pc' := 95) X47 hx (hb hby own_d1_94) rfl rfl ?_
  refine own_bipush (pc' := 97) (z := (14 : Int32)) X47 hx (hb hby own_d1_95) rfl rfl ?_
  refine own_ldc2J (pc' := 100) X47 hx hZ hown (own_w18 hw) (hb hby own_d1_97) rfl ?_
  refine own_lastore (pc' := 101) X47 hx hZ e47 V47 (hb hby own_d1_100) rfl (by decide) 14 rfl (by simp) N47 ge32 ?_
  intro T48 h48 L48 X48 e48 N48 W48 V48
  replace V48 : Arv Z h48 a31 k31 .long (19 : Int32) [(.long (1 : Int64)), (.long (10 : Int64)), (.long (100 : Int64)), (.long (1000 : Int64)), (.long (10000 : Int64)), (.long (100000 : Int64)), (.long (1000000 : Int64)), (.long (10000000 : Int64)), (.long (100000000 : Int64)), (.long (1000000000 : Int64)), (.long (10000000000 : Int64)), (.long (100000000000 : Int64)), (.long (1000000000000 : Int64)), (.long (10000000000000 : Int64)), (.long (100000000000000 : Int64)), (.long (0 : Int64)), (.long (0 : Int64)), (.long (0 : Int64)), (.long (0 : Int64))] (.long (0 : Int64)) := V48
  show own_Ends p e below s _ _ _ T48 (mkF m 101 #[.val (.int p0), .unset] [(.ref a31)])
  refine own_dup (pc' := 102) X48 hx (hb hby own_d1_101) rfl rfl ?_
  refine own_bipush (pc' := 104) (z := (15 : Int32)) X48 hx (hb hby own_d1_102) rfl rfl ?_
  refine own_ldc2J (pc' := 107) X48 hx hZ hown (own_w19 hw) (hb hby own_d1_104) rfl ?_
  refine own_lastore (pc' := 108) X48 hx hZ e48 V48 (hb hby own_d1_107) rfl (by decide) 15 rfl (by simp) N48 ge32 ?_
  intro T49 h49 L49 X49 e49 N49 W49 V49
  replace V49 : Arv Z h49 a31 k31 .long (19 : Int32) [(.long (1 : Int64)), (.long (10 : Int64)), (.long (100 : Int64)), (.long (1000 : Int64)), (.long (10000 : Int64)), (.long (100000 : Int64)), (.long (1000000 : Int64)), (.long (10000000 : Int64)), (.long (100000000 : Int64)), (.long (1000000000 : Int64)), (.long (10000000000 : Int64)), (.long (100000000000 : Int64)), (.long (1000000000000 : Int64)), (.long (10000000000000 : Int64)), (.long (100000000000000 : Int64)), (.long (1000000000000000 : Int64)), (.long (0 : Int64)), (.long (0 : Int64)), (.long (0 : Int64))] (.long (0 : Int64)) := V49
  show own_Ends p e below s _ _ _ T49 (mkF m 108 #[.val (.int p0), .unset] [(.ref a31)])
  refine own_dup (pc' := 109) X49 hx (hb hby own_d1_108) rfl rfl ?_
  refine own_bipush (pc' := 111) (z := (16 : Int32)) X49 hx (hb hby own_d1_109) rfl rfl ?_
  refine own_ldc2J (pc' := 114) X49 hx hZ hown (own_w20 hw) (hb hby own_d1_111) rfl ?_
  refine own_lastore (pc' := 115) X49 hx hZ e49 V49 (hb hby own_d1_114) rfl (by decide) 16 rfl (by simp) N49 ge32 ?_
  intro T50 h50 L50 X50 e50 N50 W50 V50
  replace V50 : Arv Z h50 a31 k31 .long (19 : Int32) [(.long (1 : Int64)), (.long (10 : Int64)), (.long (100 : Int64)), (.long (1000 : Int64)), (.long (10000 : Int64)), (.long (100000 : Int64)), (.long (1000000 : Int64)), (.long (10000000 : Int64)), (.long (100000000 : Int64)), (.long (1000000000 : Int64)), (.long (10000000000 : Int64)), (.long (100000000000 : Int64)), (.long (1000000000000 : Int64)), (.long (10000000000000 : Int64)), (.long (100000000000000 : Int64)), (.long (1000000000000000 : Int64)), (.long (10000000000000000 : Int64)), (.long (0 : Int64)), (.long (0 : Int64))] (.long (0 : Int64)) := V50
  show own_Ends p e below s _ _ _ T50 (mkF m 115 #[.val (.int p0), .unset] [(.ref a31)])
  refine own_dup (pc' := 116) X50 hx (hb hby own_d1_115) rfl rfl ?_
  refine own_bipush (pc' := 118) (z := (17 : Int32)) X50 hx (hb hby own_d1_116) rfl rfl ?_
  refine own_ldc2J (pc' := 121) X50 hx hZ hown (own_w21 hw) (hb hby own_d1_118) rfl ?_
  refine own_lastore (pc' := 122) X50 hx hZ e50 V50 (hb hby own_d1_121) rfl (by decide) 17 rfl (by simp) N50 ge32 ?_
  intro T51 h51 L51 X51 e51 N51 W51 V51
  replace V51 : Arv Z h51 a31 k31 .long (19 : Int32) [(.long (1 : Int64)), (.long (10 : Int64)), (.long (100 : Int64)), (.long (1000 : Int64)), (.long (10000 : Int64)), (.long (100000 : Int64)), (.long (1000000 : Int64)), (.long (10000000 : Int64)), (.long (100000000 : Int64)), (.long (1000000000 : Int64)), (.long (10000000000 : Int64)), (.long (100000000000 : Int64)), (.long (1000000000000 : Int64)), (.long (10000000000000 : Int64)), (.long (100000000000000 : Int64)), (.long (1000000000000000 : Int64)), (.long (10000000000000000 : Int64)), (.long (100000000000000000 : Int64)), (.long (0 : Int64))] (.long (0 : Int64)) := V51
  show own_Ends p e below s _ _ _ T51 (mkF m 122 #[.val (.int p0), .unset] [(.ref a31)])
  refine own_dup (pc' := 123) X51 hx (hb hby own_d1_122) rfl rfl ?_
  refine own_bipush (pc' := 125) (z := (18 : Int32)) X51 hx (hb hby own_d1_123) rfl rfl ?_
  refine own_ldc2J (pc' := 128) X51 hx hZ hown (own_w22 hw) (hb hby own_d1_125) rfl ?_
  refine own_lastore (pc' := 129) X51 hx hZ e51 V51 (hb hby own_d1_128) rfl (by decide) 18 rfl (by simp) N51 ge32 ?_
  intro T52 h52 L52 X52 e52 N52 W52 V52
  replace V52 : Arv Z h52 a31 k31 .long (19 : Int32) [(.long (1 : Int64)), (.long (10 : Int64)), (.long (100 : Int64)), (.long (1000 : Int64)), (.long (10000 : Int64)), (.long (100000 : Int64)), (.long (1000000 : Int64)), (.long (10000000 : Int64)), (.long (100000000 : Int64)), (.long (1000000000 : Int64)), (.long (10000000000 : Int64)), (.long (100000000000 : Int64)), (.long (1000000000000 : Int64)), (.long (10000000000000 : Int64)), (.long (100000000000000 : Int64)), (.long (1000000000000000 : Int64)), (.long (10000000000000000 : Int64)), (.long (100000000000000000 : Int64)), (.long (1000000000000000000 : Int64))] (.long (0 : Int64)) := V52
  show own_Ends p e below s _ _ _ T52 (mkF m 129 #[.val (.int p0), .unset] [(.ref a31)])
  refine own_astoreN (pc' := 130) (l' := #[.val (.int p0), .val (.ref a31)]) X52 hx (hb hby own_d1_129) rfl rfl rfl ?_
  refine own_aloadN (pc' := 131) X52 hx (hb hby own_d1_130) rfl rfl rfl ?_
  refine own_iloadN (pc' := 132) X52 hx (hb hby own_d1_131) rfl rfl ?_
  refine own_laload (pc' := 133) X52 hx hZ e52 V52 (hb hby own_d1_132) rfl (own_in19 hi) (own_get _) ?_
  refine own_retL X52 hx hlk hret (hb hby own_d1_133) (by decide) (by decide) ?_
  have f53 := ((((((((((((((((((((K0.ext E31).wr W34 (Or.inr sz33)).wr W35 (Or.inr sz33)).wr W36 (Or.inr sz33)).wr W37 (Or.inr sz33)).wr W38 (Or.inr sz33)).wr W39 (Or.inr sz33)).wr W40 (Or.inr sz33)).wr W41 (Or.inr sz33)).wr W42 (Or.inr sz33)).wr W43 (Or.inr sz33)).wr W44 (Or.inr sz33)).wr W45 (Or.inr sz33)).wr W46 (Or.inr sz33)).wr W47 (Or.inr sz33)).wr W48 (Or.inr sz33)).wr W49 (Or.inr sz33)).wr W50 (Or.inr sz33)).wr W51 (Or.inr sz33)).wr W52 (Or.inr sz33))
  rw [e52]; exact ⟨rfl, N52, f53⟩
def own_room3 : Room := { frames := 0, cells := 0, slots := 0, locals := 0 }
def own_Q3 (Z : State) (q0 : Int64) (h0 : Heap) (n0 : Nat) (v : Option Value) (h : Heap) (L : List Loc) : Prop := v = some (.long (own_abs q0)) ∧ Fr n0 L ∧ h = h0
theorem own_ef_rm3 (m : MethodId) (x0 : Int64) : entryFrame m #[(.long x0)] 2 = mkF m 0 #[.val (.long x0), .second] [] := by first | (simp [entryFrame, mkF, argsToLocals, Value.category]; done) | rfl
set_option maxRecDepth 65536 in
set_option maxHeartbeats 40000000 in
theorem own_rm3 (l : Launch) (Z : State) (a0 : Array Value) (hw : ∀ d ∈ tables_1, d.before a0 Z = true) (ws : List Jvm.Cond) (q0 : Int64) (h0 : Heap) (n0 : Nat) :
    MetFree l (⟨"java/lang/Math", "abs", "(J)J"⟩ : MethodName) (head1 (Jvm.Cond.code (⟨"java/lang/Math", "abs", "(J)J"⟩ : MethodName) jdk_29_method_61_code 2 (some .long) :: ws) own_room3) (fun zz U => zz = #[(.long q0)] ∧ Z.Warmed39 U.vm ∧ U.heap = h0) (fun _ _ _ _ _ => True) (fun _ U o U' => ∃ v L, o = .returned v ∧ own_Q3 Z q0 h0 n0 v U'.heap L ∧ FrameEnd U o U' L own_room3.cells own_room3.slots) := by
  refine MetFree.of_bodySF (Jvm.Free.JP.mathPlain rfl (by decide +kernel)) hisR ?_
  intro p e s m args below meth c s₁ Bd hml0 hP hK
  obtain ⟨rfl, hZ, hh⟩ := hP
  have hx := Bd.exec
  have hby := Bd.bytes
  have hml : c.maxLocals = 2 := hml0
  have hown : s.vm.findClass "java/lang/Math" = some m.cls := findClass_of_methodNamed Bd.named
  have hnm := (name_of_methodNamed Bd.named Bd.method).1
  have hlk : meth.locks = false := BodyLoose.notSynchronized Bd
  have hret := Bd.returns
  have X0 : Stand p l e own_room3 s m #[(.long q0)] below meth c s₁ [] 0 0 := Stand.of_body Bd
  have e0 : s₁.heap = h0 := by rw [← hh, Bd.state]; rfl
  have N0 := Fr.nil n0
  show own_Ends p e below s (own_Q3 Z q0 h0 n0) own_room3.cells own_room3.slots s₁ (entryFrame m #[(.long q0)] 2)
  refine own_cast (own_ef_rm3 m q0) ?_
  refine own_lloadN (pc' := 1) X0 hx (hb hby own_d3_0) rfl rfl ?_
  refine own_lconst (pc' := 2) (z := (0 : Int64)) X0 hx (hb hby own_d3_1) rfl rfl ?_
  refine own_lcmp (pc' := 3) (z := (lcmpW q0 (0 : Int64))) X0 hx (hb hby own_d3_2) rfl rfl ?_
  by_cases hc3_31 : q0 < (0 : Int64)
  · refine own_ifNo (pc' := 6) X0 hx (hb hby own_d3_3) rfl (tlt ((lw_lt _ _).mpr hc3_31)).2.1 ?_
    refine own_lloadN (pc' := 7) X0 hx (hb hby own_d3_6) rfl rfl ?_
    refine own_lneg (pc' := 8) (z := (-q0)) X0 hx (hb hby own_d3_7) rfl rfl ?_
    refine own_goto (pc' := 12) X0 hx (hb hby own_d3_8) (by decide) (by decide) ?_
    refine own_retL X0 hx hlk hret (hb hby own_d3_12) (by decide) (by decide) ?_
    exact ⟨congrArg (fun z => some (Value.long z)) (by simp [own_abs, hc3_31]), N0, e0⟩
  · refine own_ifYes (pc' := 11) X0 hx (hb hby own_d3_3) (flt (fun q => hc3_31 ((lw_lt _ _).mp q))).2.1 (by decide) (by decide) ?_
    refine own_lloadN (pc' := 12) X0 hx (hb hby own_d3_11) rfl rfl ?_
    refine own_retL X0 hx hlk hret (hb hby own_d3_12) (by decide) (by decide) ?_
    exact ⟨congrArg (fun z => some (Value.long z)) (by simp [own_abs, hc3_31]), N0, e0⟩
theorem own_dd {d : Int32} (h : ¬ d < 0) (q : d < 19) : 0 ≤ d.toInt ∧ d.toInt ≤ 18 := by
  have e0 : (0 : Int32).toInt = 0 := rfl
  have e1 : (19 : Int32).toInt = 19 := rfl
  rw [Int32.lt_iff_toInt_lt] at h q; omega
theorem own_nn {d : Int32} (h : 0 ≤ d.toInt ∧ d.toInt ≤ 31) : ¬ d < 0 := by
  have e0 : (0 : Int32).toInt = 0 := rfl
  rw [Int32.lt_iff_toInt_lt, e0]; omega
theorem own_le18 {d : Int32} (h : 0 ≤ d.toInt ∧ d.toInt ≤ 31) (q : ¬ (18 : Int32) < d) : 0 ≤ d.toInt ∧ d.toInt ≤ 18 := by
  have e1 : (18 : Int32).toInt = 18 := rfl
  rw [Int32.lt_iff_toInt_lt, e1] at q; omega
def own_room2 : Room := { frames := 0, cells := 0, slots := 0, locals := 0 }
def own_Q2 (Z : State) (q0 : Int64) (p1 : Int32) (pa : Addr) (pk : ClassId) (h0 : Heap) (n0 : Nat) (v : Option Value) (h : Heap) (L : List Loc) : Prop := v = some (.long (own_raised q0 p1)) ∧ Fr n0 L ∧ h = h0
theorem own_ef_rm2 (m : MethodId) (x0 : Int64) (x1 : Int32) : entryFrame m #[(.long x0), (.int x1)] 5 = mkF m 0 #[.val (.long x0), .second, .val (.int x1), .unset, .unset] [] := by first | (simp [entryFrame, mkF, argsToLocals, Value.category]; done) | rfl
set_option maxRecDepth 65536 in
set_option maxHeartbeats 40000000 in
theorem own_rm2 (l : Launch) (Z : State) (a0 : Array Value) (hw : ∀ d ∈ tables_1, d.before a0 Z = true) (ws : List Jvm.Cond) (q0 : Int64) (p1 : Int32) (pa : Addr) (pk : ClassId) (h0 : Heap) (n0 : Nat) (S0 : Sta Z h0 "com/example/skewcube/skewcube/Unscaled" "POWERS_OF_TEN" "[J" (.ref pa)) (V0 : Arv Z h0 pa pk .long (19 : Int32) [(.long (1 : Int64)), (.long (10 : Int64)), (.long (100 : Int64)), (.long (1000 : Int64)), (.long (10000 : Int64)), (.long (100000 : Int64)), (.long (1000000 : Int64)), (.long (10000000 : Int64)), (.long (100000000 : Int64)), (.long (1000000000 : Int64)), (.long (10000000000 : Int64)), (.long (100000000000 : Int64)), (.long (1000000000000 : Int64)), (.long (10000000000000 : Int64)), (.long (100000000000000 : Int64)), (.long (1000000000000000 : Int64)), (.long (10000000000000000 : Int64)), (.long (100000000000000000 : Int64)), (.long (1000000000000000000 : Int64))] (.long (0 : Int64))) (hd : ¬ p1 < 0) :
    MetFree l (⟨"com/example/skewcube/skewcube/Unscaled", "raised", "(JI)J"⟩ : MethodName) (head1 (Jvm.Cond.code (⟨"com/example/skewcube/skewcube/Unscaled", "raised", "(JI)J"⟩ : MethodName) prog_141_method_3_code 5 (some .long) :: ws) own_room2) (fun zz U => zz = #[(.long q0), (.int p1)] ∧ Z.Warmed39 U.vm ∧ U.heap = h0) (fun _ _ _ _ _ => True) (fun _ U o U' => ∃ v L, o = .returned v ∧ own_Q2 Z q0 p1 pa pk h0 n0 v U'.heap L ∧ FrameEnd U o U' L own_room2.cells own_room2.slots) := by
  refine MetFree.of_bodySF (plainFor_of_name own_pn1) hisR ?_
  intro p e s m args below meth c s₁ Bd hml0 hP hK
  obtain ⟨rfl, hZ, hh⟩ := hP
  have hx := Bd.exec
  have hby := Bd.bytes
  have hml : c.maxLocals = 5 := hml0
  have hown : s.vm.findClass "com/example/skewcube/skewcube/Unscaled" = some m.cls := findClass_of_methodNamed Bd.named
  have hnm := (name_of_methodNamed Bd.named Bd.method).1
  have hlk : meth.locks = false := BodyLoose.notSynchronized Bd
  have hret := Bd.returns
  have X0 : Stand p l e own_room2 s m #[(.long q0), (.int p1)] below meth c s₁ [] 0 0 := Stand.of_body Bd
  have e0 : s₁.heap = h0 := by rw [← hh, Bd.state]; rfl
  have N0 := Fr.nil n0
  show own_Ends p e below s (own_Q2 Z q0 p1 pa pk h0 n0) own_room2.cells own_room2.slots s₁ (entryFrame m #[(.long q0), (.int p1)] 5)
  refine own_cast (own_ef_rm2 m q0 p1) ?_
  refine own_lloadN (pc' := 1) X0 hx (hb hby own_d2_0) rfl rfl ?_
  refine own_lconst (pc' := 2) (z := (0 : Int64)) X0 hx (hb hby own_d2_1) rfl rfl ?_
  refine own_lcmp (pc' := 3) (z := (lcmpW q0 (0 : Int64))) X0 hx (hb hby own_d2_2) rfl rfl ?_
  by_cases hc3_31 : q0 = (0 : Int64)
  · refine own_ifYes (pc' := 10) X0 hx (hb hby own_d2_3) (teq ((lw_eq _ _).mpr hc3_31)).1 (by decide) (by decide) ?_
    refine own_lloadN (pc' := 11) X0 hx (hb hby own_d2_10) rfl rfl ?_
    refine own_retL X0 hx hlk hret (hb hby own_d2_11) (by decide) (by decide) ?_
    exact ⟨congrArg (fun z => some (Value.long z)) (by simp [own_raised, hc3_31]), N0, e0⟩
  · refine own_ifNo (pc' := 6) X0 hx (hb hby own_d2_3) rfl (feq (fun q => hc3_31 ((lw_eq _ _).mp q))).1 ?_
    refine own_iloadN (pc' := 7) X0 hx (hb hby own_d2_6) rfl rfl ?_
    by_cases hc7_32 : p1 = (0 : Int32)
    · refine own_ifNo (pc' := 10) X0 hx (hb hby own_d2_7) rfl (teq hc7_32).2 ?_
      refine own_lloadN (pc' := 11) X0 hx (hb hby own_d2_10) rfl rfl ?_
      refine own_retL X0 hx hlk hret (hb hby own_d2_11) (by decide) (by decide) ?_
      exact ⟨congrArg (fun z => some (Value.long z)) (by simp [own_raised, hc3_31, hc7_32]), N0, e0⟩
    · refine own_ifYes (pc' := 12) X0 hx (hb hby own_d2_7) (feq hc7_32).2 (by decide) (by decide) ?_
      refine own_iloadN (pc' := 13) X0 hx (hb hby own_d2_12) rfl rfl ?_
      obtain ⟨T33, X33, e33, st33⟩ := getS2 X0 hx hZ hown (host := "") (Or.inl (own_w27 hw)) Via.refl e0 S0 (g := (mkF m 13 #[.val (.long q0), .second, .val (.int p1), .unset, .unset] [(.int p1)])) rfl (hb hby own_d2_13)
      refine own_go st33 ?_
      show own_Ends p e below s _ _ _ T33 (mkF m 16 #[.val (.long q0), .second, .val (.int p1), .unset, .unset] [(.ref pa), (.int p1)])
      refine own_alen (pc' := 17) X33 hx hZ e33 V0 (hb hby own_d2_16) rfl ?_
      by_cases hc17_34 : p1 < (19 : Int32)
      · refine own_icmpYes (pc' := 24) X33 hx (hb hby own_d2_17) (tlt hc17_34).1 (by decide) (by decide) ?_
        refine own_ldc2J (pc' := 27) X33 hx hZ hown (own_w29 hw) (hb hby own_d2_24) rfl ?_
        obtain ⟨T35, X35, e35, st35⟩ := getS2 X33 hx hZ hown (host := "") (Or.inl (own_w27 hw)) Via.refl e33 S0 (g := (mkF m 27 #[.val (.long q0), .second, .val (.int p1), .unset, .unset] [(.long (1000000000000000000 : Int64))])) rfl (hb hby own_d2_27)
        refine own_go st35 ?_
        show own_Ends p e below s _ _ _ T35 (mkF m 30 #[.val (.long q0), .second, .val (.int p1), .unset, .unset] [(.ref pa), (.long (1000000000000000000 : Int64))])
        refine own_iloadN (pc' := 31) X35 hx (hb hby own_d2_30) rfl rfl ?_
        refine own_laload (pc' := 32) X35 hx hZ e35 V0 (hb hby own_d2_31) rfl ⟨hd, hc17_34⟩ (own_get _) ?_
        refine own_ldiv (pc' := 33) (z := ((1000000000000000000 : Int64) / (own_pow p1))) X35 hx (hb hby own_d2_32) rfl (own_19 (own_dd hd hc17_34)).2.1 rfl ?_
        refine own_lstoreN (pc' := 34) (l' := #[.val (.long q0), .second, .val (.int p1), .val (.long ((1000000000000000000 : Int64) / (own_pow p1))), .second]) X35 hx (hb hby own_d2_33) rfl rfl ?_
        refine own_lloadN (pc' := 35) X35 hx (hb hby own_d2_34) rfl rfl ?_
        refine own_lloadN (pc' := 36) X35 hx (hb hby own_d2_35) rfl rfl ?_
        refine own_lneg (pc' := 37) (z := (-((1000000000000000000 : Int64) / (own_pow p1)))) X35 hx (hb hby own_d2_36) rfl rfl ?_
        refine own_lcmp (pc' := 38) (z := (lcmpW q0 (-((1000000000000000000 : Int64) / (own_pow p1))))) X35 hx (hb hby own_d2_37) rfl rfl ?_
        by_cases hc38_36 : (-((1000000000000000000 : Int64) / (own_pow p1))) < q0
        · refine own_ifNo (pc' := 41) X35 hx (hb hby own_d2_38) rfl (tlt ((lw_gt _ _).mpr hc38_36)).2.2.2 ?_
          refine own_lloadN (pc' := 42) X35 hx (hb hby own_d2_41) rfl rfl ?_
          refine own_lloadN (pc' := 43) X35 hx (hb hby own_d2_42) rfl rfl ?_
          refine own_lcmp (pc' := 44) (z := (lcmpW q0 ((1000000000000000000 : Int64) / (own_pow p1)))) X35 hx (hb hby own_d2_43) rfl rfl ?_
          by_cases hc44_37 : q0 < ((1000000000000000000 : Int64) / (own_pow p1))
          · refine own_ifNo (pc' := 47) X35 hx (hb hby own_d2_44) rfl (tlt ((lw_lt _ _).mpr hc44_37)).2.1 ?_
            refine own_lloadN (pc' := 48) X35 hx (hb hby own_d2_47) rfl rfl ?_
            obtain ⟨T38, X38, e38, st38⟩ := getS2 X35 hx hZ hown (host := "") (Or.inl (own_w27 hw)) Via.refl e35 S0 (g := (mkF m 48 #[.val (.long q0), .second, .val (.int p1), .val (.long ((1000000000000000000 : Int64) / (own_pow p1))), .second] [(.long q0)])) rfl (hb hby own_d2_48)
            refine own_go st38 ?_
            show own_Ends p e below s _ _ _ T38 (mkF m 51 #[.val (.long q0), .second, .val (.int p1), .val (.long ((1000000000000000000 : Int64) / (own_pow p1))), .second] [(.ref pa), (.long q0)])
            refine own_iloadN (pc' := 52) X38 hx (hb hby own_d2_51) rfl rfl ?_
            refine own_laload (pc' := 53) X38 hx hZ e38 V0 (hb hby own_d2_52) rfl ⟨hd, hc17_34⟩ (own_get _) ?_
            refine own_lmul (pc' := 54) (z := (q0 * (own_pow p1))) X38 hx (hb hby own_d2_53) rfl rfl ?_
            refine own_goto (pc' := 60) X38 hx (hb hby own_d2_54) (by decide) (by decide) ?_
            refine own_retL X38 hx hlk hret (hb hby own_d2_60) (by decide) (by decide) ?_
            exact ⟨congrArg (fun z => some (Value.long z)) (by simp [own_raised, hc3_31, hc7_32, hc17_34, hc38_36, hc44_37]), N0, e38⟩
          · refine own_ifYes (pc' := 57) X35 hx (hb hby own_d2_44) (flt (fun q => hc44_37 ((lw_lt _ _).mp q))).2.1 (by decide) (by decide) ?_
            refine own_ldc2J (pc' := 60) X35 hx hZ hown (own_w34 hw) (hb hby own_d2_57) rfl ?_
            refine own_retL X35 hx hlk hret (hb hby own_d2_60) (by decide) (by decide) ?_
            exact ⟨congrArg (fun z => some (Value.long z)) (by simp [own_raised, hc3_31, hc7_32, hc17_34, hc38_36, hc44_37]), N0, e35⟩
        · refine own_ifYes (pc' := 57) X35 hx (hb hby own_d2_38) (flt (fun q => hc38_36 ((lw_gt _ _).mp q))).2.2.2 (by decide) (by decide) ?_
          refine own_ldc2J (pc' := 60) X35 hx hZ hown (own_w34 hw) (hb hby own_d2_57) rfl ?_
          refine own_retL X35 hx hlk hret (hb hby own_d2_60) (by decide) (by decide) ?_
          exact ⟨congrArg (fun z => some (Value.long z)) (by simp [own_raised, hc3_31, hc7_32, hc17_34, hc38_36]), N0, e35⟩
      · refine own_icmpNo (pc' := 20) X33 hx (hb hby own_d2_17) rfl (flt hc17_34).1 ?_
        refine own_ldc2J (pc' := 23) X33 hx hZ hown (own_w34 hw) (hb hby own_d2_20) rfl ?_
        refine own_retL X33 hx hlk hret (hb hby own_d2_23) (by decide) (by decide) ?_
        exact ⟨congrArg (fun z => some (Value.long z)) (by simp [own_raised, hc3_31, hc7_32, hc17_34]), N0, e33⟩
def own_Q0 (Z : State) (q0 : Int64) (p1 : Int32) (p2 : Int32) (pa : Addr) (pk : ClassId) (h0 : Heap) (n0 : Nat) (v : Option Value) (h : Heap) (L : List Loc) : Prop := v = some (.int 1) ∧ Fr n0 L
theorem own_ef_rm0 (m : MethodId) (x0 : Int64) (x1 : Int32) (x2 : Int32) : entryFrame m #[(.long x0), (.int x1), (.int x2)] maxLocals = mkF m 0 #[.val (.long x0), .second, .val (.int x1), .val (.int x2), .unset, .unset, .unset, .unset, .unset, .unset, .unset, .unset] [] := by first | (simp [entryFrame, mkF, argsToLocals, Value.category, maxLocals]; done) | rfl
set_option maxRecDepth 65536 in
set_option maxHeartbeats 40000000 in
theorem own_rm0 (l : Launch) (Z : State) (a0 : Array Value) (hw : ∀ d ∈ tables_1, d.before a0 Z = true) (ws : List Jvm.Cond) (q0 : Int64) (p1 : Int32) (p2 : Int32) (pa : Addr) (pk : ClassId) (h0 : Heap) (n0 : Nat) (Z0 : n0 ≤ h0.size) (S0 : Sta Z h0 "com/example/skewcube/skewcube/Unscaled" "POWERS_OF_TEN" "[J" (.ref pa)) (V0 : Arv Z h0 pa pk .long (19 : Int32) [(.long (1 : Int64)), (.long (10 : Int64)), (.long (100 : Int64)), (.long (1000 : Int64)), (.long (10000 : Int64)), (.long (100000 : Int64)), (.long (1000000 : Int64)), (.long (10000000 : Int64)), (.long (100000000 : Int64)), (.long (1000000000 : Int64)), (.long (10000000000 : Int64)), (.long (100000000000 : Int64)), (.long (1000000000000 : Int64)), (.long (10000000000000 : Int64)), (.long (100000000000000 : Int64)), (.long (1000000000000000 : Int64)), (.long (10000000000000000 : Int64)), (.long (100000000000000000 : Int64)), (.long (1000000000000000000 : Int64))] (.long (0 : Int64))) :
    MetFree l x (head1 (Jvm.Cond.code x code maxLocals ret :: ws) room_1) (fun zz U => zz = #[(.long q0), (.int p1), (.int p2)] ∧ Z.Warmed39 U.vm ∧ U.heap = h0) (fun _ _ _ _ _ => True) (fun _ U o U' => ∃ v L, o = .returned v ∧ own_Q0 Z q0 p1 p2 pa pk h0 n0 v U'.heap L ∧ FrameEnd U o U' L 16 192) := by
  refine MetFree.of_bodySF (plainFor_of_name own_pn0) hisR ?_
  intro p e s m args below meth c s₁ Bd hml0 hP hK
  obtain ⟨rfl, hZ, hh⟩ := hP
  have hx := Bd.exec
  have hby := Bd.bytes
  have hml : c.maxLocals = 12 := hml0
  have hown : s.vm.findClass "com/example/skewcube/skewcube/UnscaledRaisedPinLaw" = some m.cls := findClass_of_methodNamed Bd.named
  have hnm := (name_of_methodNamed Bd.named Bd.method).1
  have hlk : meth.locks = false := BodyLoose.notSynchronized Bd
  have hret := Bd.returns
  have X0 : Stand p l e room_1 s m #[(.long q0), (.int p1), (.int p2)] below meth c s₁ [] 0 0 := Stand.of_body Bd
  have e0 : s₁.heap = h0 := by rw [← hh, Bd.state]; rfl
  have N0 := Fr.nil n0
  show own_Ends p e below s (own_Q0 Z q0 p1 p2 pa pk h0 n0) 16 192 s₁ (entryFrame m #[(.long q0), (.int p1), (.int p2)] maxLocals)
  refine own_cast (own_ef_rm0 m q0 p1 p2) ?_
  refine own_iloadN (pc' := 1) X0 hx (hb hby at_0) rfl rfl ?_
  refine own_bipush (pc' := 3) (z := (31 : Int32)) X0 hx (hb hby at_1) rfl rfl ?_
  obtain ⟨d31, hd31⟩ : ∃ z, (p1 &&& (31 : Int32)) = z := ⟨_, rfl⟩
  refine own_iand (pc' := 4) (z := d31) X0 hx (hb hby at_3) rfl hd31 ?_
  have hd32 := own_and31 hd31
  refine own_istore (pc' := 6) (l' := #[.val (.long q0), .second, .val (.int p1), .val (.int p2), .val (.int d31), .unset, .unset, .unset, .unset, .unset, .unset, .unset]) X0 hx (hb hby at_4) rfl rfl ?_
  refine own_iloadN (pc' := 7) X0 hx (hb hby at_6) rfl rfl ?_
  refine own_iconst (pc' := 8) (z := (3 : Int32)) X0 hx (hb hby at_7) rfl rfl ?_
  refine own_iand (pc' := 9) (z := (p2 &&& (3 : Int32))) X0 hx (hb hby at_8) rfl rfl ?_
  refine own_istore (pc' := 11) (l' := #[.val (.long q0), .second, .val (.int p1), .val (.int p2), .val (.int d31), .val (.int (p2 &&& (3 : Int32))), .unset, .unset, .unset, .unset, .unset, .unset]) X0 hx (hb hby at_9) rfl rfl ?_
  refine own_iload (pc' := 13) X0 hx (hb hby at_11) rfl rfl ?_
  refine own_iconst (pc' := 14) (z := (1 : Int32)) X0 hx (hb hby at_13) rfl rfl ?_
  by_cases hc14_33 : (p2 &&& (3 : Int32)) = (1 : Int32)
  · refine own_icmpNo (pc' := 17) X0 hx (hb hby at_14) rfl (teq hc14_33).2 ?_
    refine own_iload (pc' := 19) X0 hx (hb hby at_17) rfl rfl ?_
    refine own_bipush (pc' := 21) (z := (18 : Int32)) X0 hx (hb hby at_19) rfl rfl ?_
    by_cases hc21_34 : (18 : Int32) < d31
    · refine own_icmpYes (pc' := 35) X0 hx (hb hby at_21) (tlt hc21_34).2.2.1 (by decide) (by decide) ?_
      refine own_lconst (pc' := 36) (z := (1 : Int64)) X0 hx (hb hby at_35) rfl rfl ?_
      refine own_lstore (pc' := 38) (l' := #[.val (.long q0), .second, .val (.int p1), .val (.int p2), .val (.int d31), .val (.int (p2 &&& (3 : Int32))), .unset, .unset, .val (.long (1 : Int64)), .second, .unset, .unset]) X0 hx (hb hby at_36) rfl rfl ?_
      refine own_lload (pc' := 40) X0 hx (hb hby at_38) rfl rfl ?_
      refine own_iloadN (pc' := 41) X0 hx (hb hby at_40) rfl rfl ?_
      refine own_iconst (pc' := 42) (z := (3 : Int32)) X0 hx (hb hby at_41) rfl rfl ?_
      refine own_ishr (pc' := 43) (z := (p2 >>> ((3 : Int32) &&& 31))) X0 hx (hb hby at_42) rfl rfl ?_
      refine own_iconst (pc' := 44) (z := (3 : Int32)) X0 hx (hb hby at_43) rfl rfl ?_
      refine own_iand (pc' := 45) (z := ((p2 >>> ((3 : Int32) &&& 31)) &&& (3 : Int32))) X0 hx (hb hby at_44) rfl rfl ?_
      refine own_iconst (pc' := 46) (z := (2 : Int32)) X0 hx (hb hby at_45) rfl rfl ?_
      refine own_isub (pc' := 47) (z := (((p2 >>> ((3 : Int32) &&& 31)) &&& (3 : Int32)) - (2 : Int32))) X0 hx (hb hby at_46) rfl rfl ?_
      refine own_i2l (pc' := 48) (z := (((p2 >>> ((3 : Int32) &&& 31)) &&& (3 : Int32)) - (2 : Int32)).toInt64) X0 hx (hb hby at_47) rfl rfl ?_
      refine own_ladd (pc' := 49) (z := ((1 : Int64) + (((p2 >>> ((3 : Int32) &&& 31)) &&& (3 : Int32)) - (2 : Int32)).toInt64)) X0 hx (hb hby at_48) rfl rfl ?_
      refine own_lstore (pc' := 51) (l' := #[.val (.long q0), .second, .val (.int p1), .val (.int p2), .val (.int d31), .val (.int (p2 &&& (3 : Int32))), .unset, .unset, .val (.long (1 : Int64)), .second, .val (.long ((1 : Int64) + (((p2 >>> ((3 : Int32) &&& 31)) &&& (3 : Int32)) - (2 : Int32)).toInt64)), .second]) X0 hx (hb hby at_49) rfl rfl ?_
      refine own_iloadN (pc' := 52) X0 hx (hb hby at_51) rfl rfl ?_
      refine own_iconst (pc' := 53) (z := (4 : Int32)) X0 hx (hb hby at_52) rfl rfl ?_
      refine own_iand (pc' := 54) (z := (p2 &&& (4 : Int32))) X0 hx (hb hby at_53) rfl rfl ?_
      by_cases hc54_35 : (p2 &&& (4 : Int32)) = (0 : Int32)
      · refine own_ifYes (pc' := 62) X0 hx (hb hby at_54) (teq hc54_35).1 (by decide) (by decide) ?_
        refine own_lload (pc' := 64) X0 hx (hb hby at_62) rfl rfl ?_
        refine own_ldc2J (pc' := 67) X0 hx hZ hown (own_w22 hw) (hb hby at_64) rfl ?_
        obtain ⟨v36, hv36⟩ : ∃ z, (((1 : Int64) + (((p2 >>> ((3 : Int32) &&& 31)) &&& (3 : Int32)) - (2 : Int32)).toInt64) - (((1 : Int64) + (((p2 >>> ((3 : Int32) &&& 31)) &&& (3 : Int32)) - (2 : Int32)).toInt64) / (1000000000000000000 : Int64)) * (1000000000000000000 : Int64)) = z := ⟨_, rfl⟩
        refine own_lrem (pc' := 68) (z := v36) X0 hx (hb hby at_67) rfl (by decide) hv36 ?_
        have rg37 : own_rg v36 := own_rem (k := 1000000000000000000) rfl (by decide) hv36
        refine own_lstore (pc' := 70) (l' := #[.val (.long q0), .second, .val (.int p1), .val (.int p2), .val (.int d31), .val (.int (p2 &&& (3 : Int32))), .val (.long v36), .second, .val (.long (1 : Int64)), .second, .val (.long ((1 : Int64) + (((p2 >>> ((3 : Int32) &&& 31)) &&& (3 : Int32)) - (2 : Int32)).toInt64)), .second]) X0 hx (hb hby at_68) rfl rfl ?_
        refine own_goto (pc' := 96) X0 hx (hb hby at_70) (by decide) (by decide) ?_
        refine own_lload (pc' := 98) X0 hx (hb hby at_96) rfl rfl ?_
        refine own_iload (pc' := 100) X0 hx (hb hby at_98) rfl rfl ?_
        refine own_callS (pc' := 103) (y := (⟨"com/example/skewcube/skewcube/Unscaled", "raised", "(JI)J"⟩ : MethodName)) (W := 0) (rm := own_room2) (argsL := [(.long v36), (.int d31)]) (rest := []) X0 hx hZ e0 hown (by rw [hml]; rfl) (own_w23 hw) (own_w24 hw) (own_w25 hw) (own_w26 hw) (by decide) (own_rm2 l Z a0 hw [] v36 d31 pa pk h0 n0 S0 V0 (own_nn hd32)) (by decide) (by decide) (by decide) (by decide) (lenOf own_pd0 rfl) rfl (by exact Nat.le_of_eq rfl) (hb hby at_100) rfl ?_
        intro T38 Lc38 v38 X38 hQ38
        obtain ⟨rfl, Nq38, Kq38⟩ := hQ38
        have N38 := Fr.app N0 Nq38
        show own_Ends p e below s _ _ _ T38 (mkF m 103 #[.val (.long q0), .second, .val (.int p1), .val (.int p2), .val (.int d31), .val (.int (p2 &&& (3 : Int32))), .val (.long v36), .second, .val (.long (1 : Int64)), .second, .val (.long ((1 : Int64) + (((p2 >>> ((3 : Int32) &&& 31)) &&& (3 : Int32)) - (2 : Int32)).toInt64)), .second] [(.long (own_raised v36 d31))])
        refine own_lstore (pc' := 105) (l' := #[.val (.long q0), .second, .val (.int p1), .val (.int p2), .val (.int d31), .val (.int (p2 &&& (3 : Int32))), .val (.long v36), .second, .val (.long (own_raised v36 d31)), .second, .val (.long ((1 : Int64) + (((p2 >>> ((3 : Int32) &&& 31)) &&& (3 : Int32)) - (2 : Int32)).toInt64)), .second]) X38 hx (hb hby at_103) rfl rfl ?_
        refine own_iload (pc' := 107) X38 hx (hb hby at_105) rfl rfl ?_
        refine own_bipush (pc' := 109) (z := (18 : Int32)) X38 hx (hb hby at_107) rfl rfl ?_
        refine own_icmpNo (pc' := 112) X38 hx (hb hby at_109) rfl (tlt (own_b3 hc21_34 (by decide))).2.2.2 ?_
        refine own_lload (pc' := 114) X38 hx (hb hby at_112) rfl rfl ?_
        refine own_lconst (pc' := 115) (z := (0 : Int64)) X38 hx (hb hby at_114) rfl rfl ?_
        refine own_lcmp (pc' := 116) (z := (lcmpW v36 (0 : Int64))) X38 hx (hb hby at_115) rfl rfl ?_
        by_cases hc116_39 : v36 = (0 : Int64)
        · refine own_ifNo (pc' := 119) X38 hx (hb hby at_116) rfl (teq ((lw_eq _ _).mpr hc116_39)).2 ?_
          refine own_lconst (pc' := 120) (z := (0 : Int64)) X38 hx (hb hby at_119) rfl rfl ?_
          refine own_goto (pc' := 126) X38 hx (hb hby at_120) (by decide) (by decide) ?_
          refine own_lstore (pc' := 128) (l' := #[.val (.long q0), .second, .val (.int p1), .val (.int p2), .val (.int d31), .val (.int (p2 &&& (3 : Int32))), .val (.long v36), .second, .val (.long (own_raised v36 d31)), .second, .val (.long (0 : Int64)), .second]) X38 hx (hb hby at_126) rfl rfl ?_
          refine own_goto (pc' := 164) X38 hx (hb hby at_128) (by decide) (by decide) ?_
          refine own_lload (pc' := 166) X38 hx (hb hby at_164) rfl rfl ?_
          refine own_lload (pc' := 168) X38 hx (hb hby at_166) rfl rfl ?_
          refine own_lcmp (pc' := 169) (z := (lcmpW (own_raised v36 d31) (0 : Int64))) X38 hx (hb hby at_168) rfl rfl ?_
          refine own_ifNo (pc' := 172) X38 hx (hb hby at_169) rfl (teq ((lw_eq _ _).mpr (own_A hc116_39))).2 ?_
          refine own_iconst (pc' := 173) (z := (1 : Int32)) X38 hx (hb hby at_172) rfl rfl ?_
          refine own_goto (pc' := 177) X38 hx (hb hby at_173) (by decide) (by decide) ?_
          refine own_retN X38 hx hlk hret (by simp) (hb hby at_177) (by decide) (by decide) ?_
          exact ⟨rfl, N38⟩
        · refine own_ifYes (pc' := 123) X38 hx (hb hby at_116) (feq (fun q => hc116_39 ((lw_eq _ _).mp q))).2 (by decide) (by decide) ?_
          refine own_ldc2J (pc' := 126) X38 hx hZ hown (own_w35 hw) (hb hby at_123) rfl ?_
          refine own_lstore (pc' := 128) (l' := #[.val (.long q0), .second, .val (.int p1), .val (.int p2), .val (.int d31), .val (.int (p2 &&& (3 : Int32))), .val (.long v36), .second, .val (.long (own_raised v36 d31)), .second, .val (.long (-9223372036854775808 : Int64)), .second]) X38 hx (hb hby at_126) rfl rfl ?_
          refine own_goto (pc' := 164) X38 hx (hb hby at_128) (by decide) (by decide) ?_
          refine own_lload (pc' := 166) X38 hx (hb hby at_164) rfl rfl ?_
          refine own_lload (pc' := 168) X38 hx (hb hby at_166) rfl rfl ?_
          refine own_lcmp (pc' := 169) (z := (lcmpW (own_raised v36 d31) (-9223372036854775808 : Int64))) X38 hx (hb hby at_168) rfl rfl ?_
          refine own_ifNo (pc' := 172) X38 hx (hb hby at_169) rfl (teq ((lw_eq _ _).mpr (own_B hc21_34 hc116_39))).2 ?_
          refine own_iconst (pc' := 173) (z := (1 : Int32)) X38 hx (hb hby at_172) rfl rfl ?_
          refine own_goto (pc' := 177) X38 hx (hb hby at_173) (by decide) (by decide) ?_
          refine own_retN X38 hx hlk hret (by simp) (hb hby at_177) (by decide) (by decide) ?_
          exact ⟨rfl, N38⟩
      · refine own_ifNo (pc' := 57) X0 hx (hb hby at_54) rfl (feq hc54_35).1 ?_
        refine own_lload (pc' := 59) X0 hx (hb hby at_57) rfl rfl ?_
        refine own_lneg (pc' := 60) (z := (-((1 : Int64) + (((p2 >>> ((3 : Int32) &&& 31)) &&& (3 : Int32)) - (2 : Int32)).toInt64))) X0 hx (hb hby at_59) rfl rfl ?_
        refine own_lstore (pc' := 62) (l' := #[.val (.long q0), .second, .val (.int p1), .val (.int p2), .val (.int d31), .val (.int (p2 &&& (3 : Int32))), .unset, .unset, .val (.long (1 : Int64)), .second, .val (.long (-((1 : Int64) + (((p2 >>> ((3 : Int32) &&& 31)) &&& (3 : Int32)) - (2 : Int32)).toInt64))), .second]) X0 hx (hb hby at_60) rfl rfl ?_
        refine own_lload (pc' := 64) X0 hx (hb hby at_62) rfl rfl ?_
        refine own_ldc2J (pc' := 67) X0 hx hZ hown (own_w22 hw) (hb hby at_64) rfl ?_
        obtain ⟨v40, hv40⟩ : ∃ z, ((-((1 : Int64) + (((p2 >>> ((3 : Int32) &&& 31)) &&& (3 : Int32)) - (2 : Int32)).toInt64)) - ((-((1 : Int64) + (((p2 >>> ((3 : Int32) &&& 31)) &&& (3 : Int32)) - (2 : Int32)).toInt64)) / (1000000000000000000 : Int64)) * (1000000000000000000 : Int64)) = z := ⟨_, rfl⟩
        refine own_lrem (pc' := 68) (z := v40) X0 hx (hb hby at_67) rfl (by decide) hv40 ?_
        have rg41 : own_rg v40 := own_rem (k := 1000000000000000000) rfl (by decide) hv40
        refine own_lstore (pc' := 70) (l' := #[.val (.long q0), .second, .val (.int p1), .val (.int p2), .val (.int d31), .val (.int (p2 &&& (3 : Int32))), .val (.long v40), .second, .val (.long (1 : Int64)), .second, .val (.long (-((1 : Int64) + (((p2 >>> ((3 : Int32) &&& 31)) &&& (3 : Int32)) - (2 : Int32)).toInt64))), .second]) X0 hx (hb hby at_68) rfl rfl ?_
        refine own_goto (pc' := 96) X0 hx (hb hby at_70) (by decide) (by decide) ?_
        refine own_lload (pc' := 98) X0 hx (hb hby at_96) rfl rfl ?_
        refine own_iload (pc' := 100) X0 hx (hb hby at_98) rfl rfl ?_
        refine own_callS (pc' := 103) (y := (⟨"com/example/skewcube/skewcube/Unscaled", "raised", "(JI)J"⟩ : MethodName)) (W := 0) (rm := own_room2) (argsL := [(.long v40), (.int d31)]) (rest := []) X0 hx hZ e0 hown (by rw [hml]; rfl) (own_w23 hw) (own_w24 hw) (own_w25 hw) (own_w26 hw) (by decide) (own_rm2 l Z a0 hw [] v40 d31 pa pk h0 n0 S0 V0 (own_nn hd32)) (by decide) (by decide) (by decide) (by decide) (lenOf own_pd0 rfl) rfl (by exact Nat.le_of_eq rfl) (hb hby at_100) rfl ?_
        intro T42 Lc42 v42 X42 hQ42
        obtain ⟨rfl, Nq42, Kq42⟩ := hQ42
        have N42 := Fr.app N0 Nq42
        show own_Ends p e below s _ _ _ T42 (mkF m 103 #[.val (.long q0), .second, .val (.int p1), .val (.int p2), .val (.int d31), .val (.int (p2 &&& (3 : Int32))), .val (.long v40), .second, .val (.long (1 : Int64)), .second, .val (.long (-((1 : Int64) + (((p2 >>> ((3 : Int32) &&& 31)) &&& (3 : Int32)) - (2 : Int32)).toInt64))), .second] [(.long (own_raised v40 d31))])
        refine own_lstore (pc' := 105) (l' := #[.val (.long q0), .second, .val (.int p1), .val (.int p2), .val (.int d31), .val (.int (p2 &&& (3 : Int32))), .val (.long v40), .second, .val (.long (own_raised v40 d31)), .second, .val (.long (-((1 : Int64) + (((p2 >>> ((3 : Int32) &&& 31)) &&& (3 : Int32)) - (2 : Int32)).toInt64))), .second]) X42 hx (hb hby at_103) rfl rfl ?_
        refine own_iload (pc' := 107) X42 hx (hb hby at_105) rfl rfl ?_
        refine own_bipush (pc' := 109) (z := (18 : Int32)) X42 hx (hb hby at_107) rfl rfl ?_
        refine own_icmpNo (pc' := 112) X42 hx (hb hby at_109) rfl (tlt (own_b3 hc21_34 (by decide))).2.2.2 ?_
        refine own_lload (pc' := 114) X42 hx (hb hby at_112) rfl rfl ?_
        refine own_lconst (pc' := 115) (z := (0 : Int64)) X42 hx (hb hby at_114) rfl rfl ?_
        refine own_lcmp (pc' := 116) (z := (lcmpW v40 (0 : Int64))) X42 hx (hb hby at_115) rfl rfl ?_
        by_cases hc116_43 : v40 = (0 : Int64)
        · refine own_ifNo (pc' := 119) X42 hx (hb hby at_116) rfl (teq ((lw_eq _ _).mpr hc116_43)).2 ?_
          refine own_lconst (pc' := 120) (z := (0 : Int64)) X42 hx (hb hby at_119) rfl rfl ?_
          refine own_goto (pc' := 126) X42 hx (hb hby at_120) (by decide) (by decide) ?_
          refine own_lstore (pc' := 128) (l' := #[.val (.long q0), .second, .val (.int p1), .val (.int p2), .val (.int d31), .val (.int (p2 &&& (3 : Int32))), .val (.long v40), .second, .val (.long (own_raised v40 d31)), .second, .val (.long (0 : Int64)), .second]) X42 hx (hb hby at_126) rfl rfl ?_
          refine own_goto (pc' := 164) X42 hx (hb hby at_128) (by decide) (by decide) ?_
          refine own_lload (pc' := 166) X42 hx (hb hby at_164) rfl rfl ?_
          refine own_lload (pc' := 168) X42 hx (hb hby at_166) rfl rfl ?_
          refine own_lcmp (pc' := 169) (z := (lcmpW (own_raised v40 d31) (0 : Int64))) X42 hx (hb hby at_168) rfl rfl ?_
          refine own_ifNo (pc' := 172) X42 hx (hb hby at_169) rfl (teq ((lw_eq _ _).mpr (own_A hc116_43))).2 ?_
          refine own_iconst (pc' := 173) (z := (1 : Int32)) X42 hx (hb hby at_172) rfl rfl ?_
          refine own_goto (pc' := 177) X42 hx (hb hby at_173) (by decide) (by decide) ?_
          refine own_retN X42 hx hlk hret (by simp) (hb hby at_177) (by decide) (by decide) ?_
          exact ⟨rfl, N42⟩
        · refine own_ifYes (pc' := 123) X42 hx (hb hby at_116) (feq (fun q => hc116_43 ((lw_eq _ _).mp q))).2 (by decide) (by decide) ?_
          refine own_ldc2J (pc' := 126) X42 hx hZ hown (own_w35 hw) (hb hby at_123) rfl ?_
          refine own_lstore (pc' := 128) (l' := #[.val (.long q0), .second, .val (.int p1), .val (.int p2), .val (.int d31), .val (.int (p2 &&& (3 : Int32))), .val (.long v40), .second, .val (.long (own_raised v40 d31)), .second, .val (.long (-9223372036854775808 : Int64)), .second]) X42 hx (hb hby at_126) rfl rfl ?_
          refine own_goto (pc' := 164) X42 hx (hb hby at_128) (by decide) (by decide) ?_
          refine own_lload (pc' := 166) X42 hx (hb hby at_164) rfl rfl ?_
          refine own_lload (pc' := 168) X42 hx (hb hby at_166) rfl rfl ?_
          refine own_lcmp (pc' := 169) (z := (lcmpW (own_raised v40 d31) (-9223372036854775808 : Int64))) X42 hx (hb hby at_168) rfl rfl ?_
          refine own_ifNo (pc' := 172) X42 hx (hb hby at_169) rfl (teq ((lw_eq _ _).mpr (own_B hc21_34 hc116_43))).2 ?_
          refine own_iconst (pc' := 173) (z := (1 : Int32)) X42 hx (hb hby at_172) rfl rfl ?_
          refine own_goto (pc' := 177) X42 hx (hb hby at_173) (by decide) (by decide) ?_
          refine own_retN X42 hx hlk hret (by simp) (hb hby at_177) (by decide) (by decide) ?_
          exact ⟨rfl, N42⟩
    · refine own_icmpNo (pc' := 24) X0 hx (hb hby at_21) rfl (flt hc21_34).2.2.1 ?_
      refine own_bipush (pc' := 26) (z := (18 : Int32)) X0 hx (hb hby at_24) rfl rfl ?_
      refine own_iload (pc' := 28) X0 hx (hb hby at_26) rfl rfl ?_
      refine own_isub (pc' := 29) (z := ((18 : Int32) - d31)) X0 hx (hb hby at_28) rfl rfl ?_
      refine own_callS (pc' := 32) (y := (⟨"com/example/skewcube/skewcube/UnscaledRaisedPinLaw", "pow", "(I)J"⟩ : MethodName)) (W := 0) (rm := own_room1) (argsL := [(.int ((18 : Int32) - d31))]) (rest := []) X0 hx hZ e0 hown (by rw [hml]; rfl) (own_w0 hw) (own_w1 hw) (own_w2 hw) (own_w3 hw) (by decide) (own_rm1 l Z a0 hw [] ((18 : Int32) - d31) h0 n0 Z0 (own_sub18 (own_le18 hd32 hc21_34))) (by decide) (by decide) (by decide) (by decide) (lenOf own_pd1 rfl) rfl (by exact Nat.le_of_eq rfl) (hb hby at_29) rfl ?_
      intro T44 Lc44 v44 X44 hQ44
      obtain ⟨rfl, Nq44, Kq44⟩ := hQ44
      have N44 := Fr.app N0 Nq44
      show own_Ends p e below s _ _ _ T44 (mkF m 32 #[.val (.long q0), .second, .val (.int p1), .val (.int p2), .val (.int d31), .val (.int (p2 &&& (3 : Int32))), .unset, .unset, .unset, .unset, .unset, .unset] [(.long (own_pow ((18 : Int32) - d31)))])
      refine own_goto (pc' := 36) X44 hx (hb hby at_32) (by decide) (by decide) ?_
      refine own_lstore (pc' := 38) (l' := #[.val (.long q0), .second, .val (.int p1), .val (.int p2), .val (.int d31), .val (.int (p2 &&& (3 : Int32))), .unset, .unset, .val (.long (own_pow ((18 : Int32) - d31))), .second, .unset, .unset]) X44 hx (hb hby at_36) rfl rfl ?_
      refine own_lload (pc' := 40) X44 hx (hb hby at_38) rfl rfl ?_
      refine own_iloadN (pc' := 41) X44 hx (hb hby at_40) rfl rfl ?_
      refine own_iconst (pc' := 42) (z := (3 : Int32)) X44 hx (hb hby at_41) rfl rfl ?_
      refine own_ishr (pc' := 43) (z := (p2 >>> ((3 : Int32) &&& 31))) X44 hx (hb hby at_42) rfl rfl ?_
      refine own_iconst (pc' := 44) (z := (3 : Int32)) X44 hx (hb hby at_43) rfl rfl ?_
      refine own_iand (pc' := 45) (z := ((p2 >>> ((3 : Int32) &&& 31)) &&& (3 : Int32))) X44 hx (hb hby at_44) rfl rfl ?_
      refine own_iconst (pc' := 46) (z := (2 : Int32)) X44 hx (hb hby at_45) rfl rfl ?_
      refine own_isub (pc' := 47) (z := (((p2 >>> ((3 : Int32) &&& 31)) &&& (3 : Int32)) - (2 : Int32))) X44 hx (hb hby at_46) rfl rfl ?_
      refine own_i2l (pc' := 48) (z := (((p2 >>> ((3 : Int32) &&& 31)) &&& (3 : Int32)) - (2 : Int32)).toInt64) X44 hx (hb hby at_47) rfl rfl ?_
      refine own_ladd (pc' := 49) (z := ((own_pow ((18 : Int32) - d31)) + (((p2 >>> ((3 : Int32) &&& 31)) &&& (3 : Int32)) - (2 : Int32)).toInt64)) X44 hx (hb hby at_48) rfl rfl ?_
      refine own_lstore (pc' := 51) (l' := #[.val (.long q0), .second, .val (.int p1), .val (.int p2), .val (.int d31), .val (.int (p2 &&& (3 : Int32))), .unset, .unset, .val (.long (own_pow ((18 : Int32) - d31))), .second, .val (.long ((own_pow ((18 : Int32) - d31)) + (((p2 >>> ((3 : Int32) &&& 31)) &&& (3 : Int32)) - (2 : Int32)).toInt64)), .second]) X44 hx (hb hby at_49) rfl rfl ?_
      refine own_iloadN (pc' := 52) X44 hx (hb hby at_51) rfl rfl ?_
      refine own_iconst (pc' := 53) (z := (4 : Int32)) X44 hx (hb hby at_52) rfl rfl ?_
      refine own_iand (pc' := 54) (z := (p2 &&& (4 : Int32))) X44 hx (hb hby at_53) rfl rfl ?_
      by_cases hc54_45 : (p2 &&& (4 : Int32)) = (0 : Int32)
      · refine own_ifYes (pc' := 62) X44 hx (hb hby at_54) (teq hc54_45).1 (by decide) (by decide) ?_
        refine own_lload (pc' := 64) X44 hx (hb hby at_62) rfl rfl ?_
        refine own_ldc2J (pc' := 67) X44 hx hZ hown (own_w22 hw) (hb hby at_64) rfl ?_
        obtain ⟨v46, hv46⟩ : ∃ z, (((own_pow ((18 : Int32) - d31)) + (((p2 >>> ((3 : Int32) &&& 31)) &&& (3 : Int32)) - (2 : Int32)).toInt64) - (((own_pow ((18 : Int32) - d31)) + (((p2 >>> ((3 : Int32) &&& 31)) &&& (3 : Int32)) - (2 : Int32)).toInt64) / (1000000000000000000 : Int64)) * (1000000000000000000 : Int64)) = z := ⟨_, rfl⟩
        refine own_lrem (pc' := 68) (z := v46) X44 hx (hb hby at_67) rfl (by decide) hv46 ?_
        have rg47 : own_rg v46 := own_rem (k := 1000000000000000000) rfl (by decide) hv46
        refine own_lstore (pc' := 70) (l' := #[.val (.long q0), .second, .val (.int p1), .val (.int p2), .val (.int d31), .val (.int (p2 &&& (3 : Int32))), .val (.long v46), .second, .val (.long (own_pow ((18 : Int32) - d31))), .second, .val (.long ((own_pow ((18 : Int32) - d31)) + (((p2 >>> ((3 : Int32) &&& 31)) &&& (3 : Int32)) - (2 : Int32)).toInt64)), .second]) X44 hx (hb hby at_68) rfl rfl ?_
        refine own_goto (pc' := 96) X44 hx (hb hby at_70) (by decide) (by decide) ?_
        refine own_lload (pc' := 98) X44 hx (hb hby at_96) rfl rfl ?_
        refine own_iload (pc' := 100) X44 hx (hb hby at_98) rfl rfl ?_
        have f48 := (own_stak S0 Kq44 all0)
        have f49 := (V0.keep Kq44 nin0)
        refine own_callS (pc' := 103) (y := (⟨"com/example/skewcube/skewcube/Unscaled", "raised", "(JI)J"⟩ : MethodName)) (W := 0) (rm := own_room2) (argsL := [(.long v46), (.int d31)]) (rest := []) X44 hx hZ rfl hown (by rw [hml]; rfl) (own_w23 hw) (own_w24 hw) (own_w25 hw) (own_w26 hw) (by decide) (own_rm2 l Z a0 hw [] v46 d31 pa pk T44.heap n0 f48 f49 (own_nn hd32)) (by decide) (by decide) (by decide) (by decide) (lenOf own_pd0 rfl) rfl (by exact Nat.le_of_eq rfl) (hb hby at_100) rfl ?_
        intro T50 Lc50 v50 X50 hQ50
        obtain ⟨rfl, Nq50, Kq50⟩ := hQ50
        have N50 := Fr.app N44 Nq50
        show own_Ends p e below s _ _ _ T50 (mkF m 103 #[.val (.long q0), .second, .val (.int p1), .val (.int p2), .val (.int d31), .val (.int (p2 &&& (3 : Int32))), .val (.long v46), .second, .val (.long (own_pow ((18 : Int32) - d31))), .second, .val (.long ((own_pow ((18 : Int32) - d31)) + (((p2 >>> ((3 : Int32) &&& 31)) &&& (3 : Int32)) - (2 : Int32)).toInt64)), .second] [(.long (own_raised v46 d31))])
        refine own_lstore (pc' := 105) (l' := #[.val (.long q0), .second, .val (.int p1), .val (.int p2), .val (.int d31), .val (.int (p2 &&& (3 : Int32))), .val (.long v46), .second, .val (.long (own_raised v46 d31)), .second, .val (.long ((own_pow ((18 : Int32) - d31)) + (((p2 >>> ((3 : Int32) &&& 31)) &&& (3 : Int32)) - (2 : Int32)).toInt64)), .second]) X50 hx (hb hby at_103) rfl rfl ?_
        refine own_iload (pc' := 107) X50 hx (hb hby at_105) rfl rfl ?_
        refine own_bipush (pc' := 109) (z := (18 : Int32)) X50 hx (hb hby at_107) rfl rfl ?_
        refine own_icmpYes (pc' := 131) X50 hx (hb hby at_109) (flt (own_b4 hc21_34 (by decide))).2.2.2 (by decide) (by decide) ?_
        refine own_lload (pc' := 133) X50 hx (hb hby at_131) rfl rfl ?_
        refine own_callS (pc' := 136) (y := (⟨"java/lang/Math", "abs", "(J)J"⟩ : MethodName)) (W := 0) (rm := own_room3) (argsL := [(.long v46)]) (rest := []) X50 hx hZ Kq50 hown (by rw [hml]; rfl) (own_w30 hw) (own_w31 hw) (own_w32 hw) (own_w33 hw) (by decide) (own_rm3 l Z a0 hw [] v46 T44.heap n0) (by decide) (by decide) (by decide) (by decide) (lenOf own_pd2 rfl) rfl (by exact Nat.le_of_eq rfl) (hb hby at_133) rfl ?_
        intro T51 Lc51 v51 X51 hQ51
        obtain ⟨rfl, Nq51, Kq51⟩ := hQ51
        have N51 := Fr.app N50 Nq51
        show own_Ends p e below s _ _ _ T51 (mkF m 136 #[.val (.long q0), .second, .val (.int p1), .val (.int p2), .val (.int d31), .val (.int (p2 &&& (3 : Int32))), .val (.long v46), .second, .val (.long (own_raised v46 d31)), .second, .val (.long ((own_pow ((18 : Int32) - d31)) + (((p2 >>> ((3 : Int32) &&& 31)) &&& (3 : Int32)) - (2 : Int32)).toInt64)), .second] [(.long (own_abs v46))])
        refine own_bipush (pc' := 138) (z := (18 : Int32)) X51 hx (hb hby at_136) rfl rfl ?_
        refine own_iload (pc' := 140) X51 hx (hb hby at_138) rfl rfl ?_
        refine own_isub (pc' := 141) (z := ((18 : Int32) - d31)) X51 hx (hb hby at_140) rfl rfl ?_
        have f52 := (Nat.le_trans Z0 Kq44.1)
        refine own_callS (pc' := 144) (y := (⟨"com/example/skewcube/skewcube/UnscaledRaisedPinLaw", "pow", "(I)J"⟩ : MethodName)) (W := 2) (rm := own_room1) (argsL := [(.int ((18 : Int32) - d31))]) (rest := [(.long (own_abs v46))]) X51 hx hZ Kq51 hown (by rw [hml]; rfl) (own_w0 hw) (own_w1 hw) (own_w2 hw) (own_w3 hw) (by decide) (own_rm1 l Z a0 hw [] ((18 : Int32) - d31) T44.heap n0 f52 (own_sub18 (own_le18 hd32 hc21_34))) (by decide) (by decide) (by decide) (by decide) (lenOf own_pd1 rfl) rfl (by exact Nat.le_of_eq rfl) (hb hby at_141) rfl ?_
        intro T53 Lc53 v53 X53 hQ53
        obtain ⟨rfl, Nq53, Kq53⟩ := hQ53
        have N53 := Fr.app N51 Nq53
        show own_Ends p e below s _ _ _ T53 (mkF m 144 #[.val (.long q0), .second, .val (.int p1), .val (.int p2), .val (.int d31), .val (.int (p2 &&& (3 : Int32))), .val (.long v46), .second, .val (.long (own_raised v46 d31)), .second, .val (.long ((own_pow ((18 : Int32) - d31)) + (((p2 >>> ((3 : Int32) &&& 31)) &&& (3 : Int32)) - (2 : Int32)).toInt64)), .second] [(.long (own_pow ((18 : Int32) - d31))), (.long (own_abs v46))])
        refine own_lcmp (pc' := 145) (z := (lcmpW (own_abs v46) (own_pow ((18 : Int32) - d31)))) X53 hx (hb hby at_144) rfl rfl ?_
        by_cases hc145_54 : (own_abs v46) < (own_pow ((18 : Int32) - d31))
        · refine own_ifNo (pc' := 148) X53 hx (hb hby at_145) rfl (tlt ((lw_lt _ _).mpr hc145_54)).2.1 ?_
          refine own_lload (pc' := 150) X53 hx (hb hby at_148) rfl rfl ?_
          refine own_iload (pc' := 152) X53 hx (hb hby at_150) rfl rfl ?_
          have f55 := (Nat.le_trans f52 Kq53.1)
          refine own_callS (pc' := 155) (y := (⟨"com/example/skewcube/skewcube/UnscaledRaisedPinLaw", "pow", "(I)J"⟩ : MethodName)) (W := 2) (rm := own_room1) (argsL := [(.int d31)]) (rest := [(.long v46)]) X53 hx hZ rfl hown (by rw [hml]; rfl) (own_w0 hw) (own_w1 hw) (own_w2 hw) (own_w3 hw) (by decide) (own_rm1 l Z a0 hw [] d31 T53.heap n0 f55 (own_le18 hd32 hc21_34)) (by decide) (by decide) (by decide) (by decide) (lenOf own_pd1 rfl) rfl (by exact Nat.le_of_eq rfl) (hb hby at_152) rfl ?_
          intro T56 Lc56 v56 X56 hQ56
          obtain ⟨rfl, Nq56, Kq56⟩ := hQ56
          have N56 := Fr.app N53 Nq56
          show own_Ends p e below s _ _ _ T56 (mkF m 155 #[.val (.long q0), .second, .val (.int p1), .val (.int p2), .val (.int d31), .val (.int (p2 &&& (3 : Int32))), .val (.long v46), .second, .val (.long (own_raised v46 d31)), .second, .val (.long ((own_pow ((18 : Int32) - d31)) + (((p2 >>> ((3 : Int32) &&& 31)) &&& (3 : Int32)) - (2 : Int32)).toInt64)), .second] [(.long (own_pow d31)), (.long v46)])
          refine own_lmul (pc' := 156) (z := (v46 * (own_pow d31))) X56 hx (hb hby at_155) rfl rfl ?_
          refine own_goto (pc' := 162) X56 hx (hb hby at_156) (by decide) (by decide) ?_
          refine own_lstore (pc' := 164) (l' := #[.val (.long q0), .second, .val (.int p1), .val (.int p2), .val (.int d31), .val (.int (p2 &&& (3 : Int32))), .val (.long v46), .second, .val (.long (own_raised v46 d31)), .second, .val (.long (v46 * (own_pow d31))), .second]) X56 hx (hb hby at_162) rfl rfl ?_
          refine own_lload (pc' := 166) X56 hx (hb hby at_164) rfl rfl ?_
          refine own_lload (pc' := 168) X56 hx (hb hby at_166) rfl rfl ?_
          refine own_lcmp (pc' := 169) (z := (lcmpW (own_raised v46 d31) (v46 * (own_pow d31)))) X56 hx (hb hby at_168) rfl rfl ?_
          refine own_ifNo (pc' := 172) X56 hx (hb hby at_169) rfl (teq ((lw_eq _ _).mpr ((own_C (own_le18 hd32 hc21_34) rg47).1 hc145_54))).2 ?_
          refine own_iconst (pc' := 173) (z := (1 : Int32)) X56 hx (hb hby at_172) rfl rfl ?_
          refine own_goto (pc' := 177) X56 hx (hb hby at_173) (by decide) (by decide) ?_
          refine own_retN X56 hx hlk hret (by simp) (hb hby at_177) (by decide) (by decide) ?_
          exact ⟨rfl, N56⟩
        · refine own_ifYes (pc' := 159) X53 hx (hb hby at_145) (flt (fun q => hc145_54 ((lw_lt _ _).mp q))).2.1 (by decide) (by decide) ?_
          refine own_ldc2J (pc' := 162) X53 hx hZ hown (own_w35 hw) (hb hby at_159) rfl ?_
          refine own_lstore (pc' := 164) (l' := #[.val (.long q0), .second, .val (.int p1), .val (.int p2), .val (.int d31), .val (.int (p2 &&& (3 : Int32))), .val (.long v46), .second, .val (.long (own_raised v46 d31)), .second, .val (.long (-9223372036854775808 : Int64)), .second]) X53 hx (hb hby at_162) rfl rfl ?_
          refine own_lload (pc' := 166) X53 hx (hb hby at_164) rfl rfl ?_
          refine own_lload (pc' := 168) X53 hx (hb hby at_166) rfl rfl ?_
          refine own_lcmp (pc' := 169) (z := (lcmpW (own_raised v46 d31) (-9223372036854775808 : Int64))) X53 hx (hb hby at_168) rfl rfl ?_
          refine own_ifNo (pc' := 172) X53 hx (hb hby at_169) rfl (teq ((lw_eq _ _).mpr ((own_C (own_le18 hd32 hc21_34) rg47).2 hc145_54))).2 ?_
          refine own_iconst (pc' := 173) (z := (1 : Int32)) X53 hx (hb hby at_172) rfl rfl ?_
          refine own_goto (pc' := 177) X53 hx (hb hby at_173) (by decide) (by decide) ?_
          refine own_retN X53 hx hlk hret (by simp) (hb hby at_177) (by decide) (by decide) ?_
          exact ⟨rfl, N53⟩
      · refine own_ifNo (pc' := 57) X44 hx (hb hby at_54) rfl (feq hc54_45).1 ?_
        refine own_lload (pc' := 59) X44 hx (hb hby at_57) rfl rfl ?_
        refine own_lneg (pc' := 60) (z := (-((own_pow ((18 : Int32) - d31)) + (((p2 >>> ((3 : Int32) &&& 31)) &&& (3 : Int32)) - (2 : Int32)).toInt64))) X44 hx (hb hby at_59) rfl rfl ?_
        refine own_lstore (pc' := 62) (l' := #[.val (.long q0), .second, .val (.int p1), .val (.int p2), .val (.int d31), .val (.int (p2 &&& (3 : Int32))), .unset, .unset, .val (.long (own_pow ((18 : Int32) - d31))), .second, .val (.long (-((own_pow ((18 : Int32) - d31)) + (((p2 >>> ((3 : Int32) &&& 31)) &&& (3 : Int32)) - (2 : Int32)).toInt64))), .second]) X44 hx (hb hby at_60) rfl rfl ?_
        refine own_lload (pc' := 64) X44 hx (hb hby at_62) rfl rfl ?_
        refine own_ldc2J (pc' := 67) X44 hx hZ hown (own_w22 hw) (hb hby at_64) rfl ?_
        obtain ⟨v57, hv57⟩ : ∃ z, ((-((own_pow ((18 : Int32) - d31)) + (((p2 >>> ((3 : Int32) &&& 31)) &&& (3 : Int32)) - (2 : Int32)).toInt64)) - ((-((own_pow ((18 : Int32) - d31)) + (((p2 >>> ((3 : Int32) &&& 31)) &&& (3 : Int32)) - (2 : Int32)).toInt64)) / (1000000000000000000 : Int64)) * (1000000000000000000 : Int64)) = z := ⟨_, rfl⟩
        refine own_lrem (pc' := 68) (z := v57) X44 hx (hb hby at_67) rfl (by decide) hv57 ?_
        have rg58 : own_rg v57 := own_rem (k := 1000000000000000000) rfl (by decide) hv57
        refine own_lstore (pc' := 70) (l' := #[.val (.long q0), .second, .val (.int p1), .val (.int p2), .val (.int d31), .val (.int (p2 &&& (3 : Int32))), .val (.long v57), .second, .val (.long (own_pow ((18 : Int32) - d31))), .second, .val (.long (-((own_pow ((18 : Int32) - d31)) + (((p2 >>> ((3 : Int32) &&& 31)) &&& (3 : Int32)) - (2 : Int32)).toInt64))), .second]) X44 hx (hb hby at_68) rfl rfl ?_
        refine own_goto (pc' := 96) X44 hx (hb hby at_70) (by decide) (by decide) ?_
        refine own_lload (pc' := 98) X44 hx (hb hby at_96) rfl rfl ?_
        refine own_iload (pc' := 100) X44 hx (hb hby at_98) rfl rfl ?_
        have f59 := (own_stak S0 Kq44 all0)
        have f60 := (V0.keep Kq44 nin0)
        refine own_callS (pc' := 103) (y := (⟨"com/example/skewcube/skewcube/Unscaled", "raised", "(JI)J"⟩ : MethodName)) (W := 0) (rm := own_room2) (argsL := [(.long v57), (.int d31)]) (rest := []) X44 hx hZ rfl hown (by rw [hml]; rfl) (own_w23 hw) (own_w24 hw) (own_w25 hw) (own_w26 hw) (by decide) (own_rm2 l Z a0 hw [] v57 d31 pa pk T44.heap n0 f59 f60 (own_nn hd32)) (by decide) (by decide) (by decide) (by decide) (lenOf own_pd0 rfl) rfl (by exact Nat.le_of_eq rfl) (hb hby at_100) rfl ?_
        intro T61 Lc61 v61 X61 hQ61
        obtain ⟨rfl, Nq61, Kq61⟩ := hQ61
        have N61 := Fr.app N44 Nq61
        show own_Ends p e below s _ _ _ T61 (mkF m 103 #[.val (.long q0), .second, .val (.int p1), .val (.int p2), .val (.int d31), .val (.int (p2 &&& (3 : Int32))), .val (.long v57), .second, .val (.long (own_pow ((18 : Int32) - d31))), .second, .val (.long (-((own_pow ((18 : Int32) - d31)) + (((p2 >>> ((3 : Int32) &&& 31)) &&& (3 : Int32)) - (2 : Int32)).toInt64))), .second] [(.long (own_raised v57 d31))])
        refine own_lstore (pc' := 105) (l' := #[.val (.long q0), .second, .val (.int p1), .val (.int p2), .val (.int d31), .val (.int (p2 &&& (3 : Int32))), .val (.long v57), .second, .val (.long (own_raised v57 d31)), .second, .val (.long (-((own_pow ((18 : Int32) - d31)) + (((p2 >>> ((3 : Int32) &&& 31)) &&& (3 : Int32)) - (2 : Int32)).toInt64))), .second]) X61 hx (hb hby at_103) rfl rfl ?_
        refine own_iload (pc' := 107) X61 hx (hb hby at_105) rfl rfl ?_
        refine own_bipush (pc' := 109) (z := (18 : Int32)) X61 hx (hb hby at_107) rfl rfl ?_
        refine own_icmpYes (pc' := 131) X61 hx (hb hby at_109) (flt (own_b4 hc21_34 (by decide))).2.2.2 (by decide) (by decide) ?_
        refine own_lload (pc' := 133) X61 hx (hb hby at_131) rfl rfl ?_
        refine own_callS (pc' := 136) (y := (⟨"java/lang/Math", "abs", "(J)J"⟩ : MethodName)) (W := 0) (rm := own_room3) (argsL := [(.long v57)]) (rest := []) X61 hx hZ Kq61 hown (by rw [hml]; rfl) (own_w30 hw) (own_w31 hw) (own_w32 hw) (own_w33 hw) (by decide) (own_rm3 l Z a0 hw [] v57 T44.heap n0) (by decide) (by decide) (by decide) (by decide) (lenOf own_pd2 rfl) rfl (by exact Nat.le_of_eq rfl) (hb hby at_133) rfl ?_
        intro T62 Lc62 v62 X62 hQ62
        obtain ⟨rfl, Nq62, Kq62⟩ := hQ62
        have N62 := Fr.app N61 Nq62
        show own_Ends p e below s _ _ _ T62 (mkF m 136 #[.val (.long q0), .second, .val (.int p1), .val (.int p2), .val (.int d31), .val (.int (p2 &&& (3 : Int32))), .val (.long v57), .second, .val (.long (own_raised v57 d31)), .second, .val (.long (-((own_pow ((18 : Int32) - d31)) + (((p2 >>> ((3 : Int32) &&& 31)) &&& (3 : Int32)) - (2 : Int32)).toInt64))), .second] [(.long (own_abs v57))])
        refine own_bipush (pc' := 138) (z := (18 : Int32)) X62 hx (hb hby at_136) rfl rfl ?_
        refine own_iload (pc' := 140) X62 hx (hb hby at_138) rfl rfl ?_
        refine own_isub (pc' := 141) (z := ((18 : Int32) - d31)) X62 hx (hb hby at_140) rfl rfl ?_
        have f63 := (Nat.le_trans Z0 Kq44.1)
        refine own_callS (pc' := 144) (y := (⟨"com/example/skewcube/skewcube/UnscaledRaisedPinLaw", "pow", "(I)J"⟩ : MethodName)) (W := 2) (rm := own_room1) (argsL := [(.int ((18 : Int32) - d31))]) (rest := [(.long (own_abs v57))]) X62 hx hZ Kq62 hown (by rw [hml]; rfl) (own_w0 hw) (own_w1 hw) (own_w2 hw) (own_w3 hw) (by decide) (own_rm1 l Z a0 hw [] ((18 : Int32) - d31) T44.heap n0 f63 (own_sub18 (own_le18 hd32 hc21_34))) (by decide) (by decide) (by decide) (by decide) (lenOf own_pd1 rfl) rfl (by exact Nat.le_of_eq rfl) (hb hby at_141) rfl ?_
        intro T64 Lc64 v64 X64 hQ64
        obtain ⟨rfl, Nq64, Kq64⟩ := hQ64
        have N64 := Fr.app N62 Nq64
        show own_Ends p e below s _ _ _ T64 (mkF m 144 #[.val (.long q0), .second, .val (.int p1), .val (.int p2), .val (.int d31), .val (.int (p2 &&& (3 : Int32))), .val (.long v57), .second, .val (.long (own_raised v57 d31)), .second, .val (.long (-((own_pow ((18 : Int32) - d31)) + (((p2 >>> ((3 : Int32) &&& 31)) &&& (3 : Int32)) - (2 : Int32)).toInt64))), .second] [(.long (own_pow ((18 : Int32) - d31))), (.long (own_abs v57))])
        refine own_lcmp (pc' := 145) (z := (lcmpW (own_abs v57) (own_pow ((18 : Int32) - d31)))) X64 hx (hb hby at_144) rfl rfl ?_
        by_cases hc145_65 : (own_abs v57) < (own_pow ((18 : Int32) - d31))
        · refine own_ifNo (pc' := 148) X64 hx (hb hby at_145) rfl (tlt ((lw_lt _ _).mpr hc145_65)).2.1 ?_
          refine own_lload (pc' := 150) X64 hx (hb hby at_148) rfl rfl ?_
          refine own_iload (pc' := 152) X64 hx (hb hby at_150) rfl rfl ?_
          have f66 := (Nat.le_trans f63 Kq64.1)
          refine own_callS (pc' := 155) (y := (⟨"com/example/skewcube/skewcube/UnscaledRaisedPinLaw", "pow", "(I)J"⟩ : MethodName)) (W := 2) (rm := own_room1) (argsL := [(.int d31)]) (rest := [(.long v57)]) X64 hx hZ rfl hown (by rw [hml]; rfl) (own_w0 hw) (own_w1 hw) (own_w2 hw) (own_w3 hw) (by decide) (own_rm1 l Z a0 hw [] d31 T64.heap n0 f66 (own_le18 hd32 hc21_34)) (by decide) (by decide) (by decide) (by decide) (lenOf own_pd1 rfl) rfl (by exact Nat.le_of_eq rfl) (hb hby at_152) rfl ?_
          intro T67 Lc67 v67 X67 hQ67
          obtain ⟨rfl, Nq67, Kq67⟩ := hQ67
          have N67 := Fr.app N64 Nq67
          show own_Ends p e below s _ _ _ T67 (mkF m 155 #[.val (.long q0), .second, .val (.int p1), .val (.int p2), .val (.int d31), .val (.int (p2 &&& (3 : Int32))), .val (.long v57), .second, .val (.long (own_raised v57 d31)), .second, .val (.long (-((own_pow ((18 : Int32) - d31)) + (((p2 >>> ((3 : Int32) &&& 31)) &&& (3 : Int32)) - (2 : Int32)).toInt64))), .second] [(.long (own_pow d31)), (.long v57)])
          refine own_lmul (pc' := 156) (z := (v57 * (own_pow d31))) X67 hx (hb hby at_155) rfl rfl ?_
          refine own_goto (pc' := 162) X67 hx (hb hby at_156) (by decide) (by decide) ?_
          refine own_lstore (pc' := 164) (l' := #[.val (.long q0), .second, .val (.int p1), .val (.int p2), .val (.int d31), .val (.int (p2 &&& (3 : Int32))), .val (.long v57), .second, .val (.long (own_raised v57 d31)), .second, .val (.long (v57 * (own_pow d31))), .second]) X67 hx (hb hby at_162) rfl rfl ?_
          refine own_lload (pc' := 166) X67 hx (hb hby at_164) rfl rfl ?_
          refine own_lload (pc' := 168) X67 hx (hb hby at_166) rfl rfl ?_
          refine own_lcmp (pc' := 169) (z := (lcmpW (own_raised v57 d31) (v57 * (own_pow d31)))) X67 hx (hb hby at_168) rfl rfl ?_
          refine own_ifNo (pc' := 172) X67 hx (hb hby at_169) rfl (teq ((lw_eq _ _).mpr ((own_C (own_le18 hd32 hc21_34) rg58).1 hc145_65))).2 ?_
          refine own_iconst (pc' := 173) (z := (1 : Int32)) X67 hx (hb hby at_172) rfl rfl ?_
          refine own_goto (pc' := 177) X67 hx (hb hby at_173) (by decide) (by decide) ?_
          refine own_retN X67 hx hlk hret (by simp) (hb hby at_177) (by decide) (by decide) ?_
          exact ⟨rfl, N67⟩
        · refine own_ifYes (pc' := 159) X64 hx (hb hby at_145) (flt (fun q => hc145_65 ((lw_lt _ _).mp q))).2.1 (by decide) (by decide) ?_
          refine own_ldc2J (pc' := 162) X64 hx hZ hown (own_w35 hw) (hb hby at_159) rfl ?_
          refine own_lstore (pc' := 164) (l' := #[.val (.long q0), .second, .val (.int p1), .val (.int p2), .val (.int d31), .val (.int (p2 &&& (3 : Int32))), .val (.long v57), .second, .val (.long (own_raised v57 d31)), .second, .val (.long (-9223372036854775808 : Int64)), .second]) X64 hx (hb hby at_162) rfl rfl ?_
          refine own_lload (pc' := 166) X64 hx (hb hby at_164) rfl rfl ?_
          refine own_lload (pc' := 168) X64 hx (hb hby at_166) rfl rfl ?_
          refine own_lcmp (pc' := 169) (z := (lcmpW (own_raised v57 d31) (-9223372036854775808 : Int64))) X64 hx (hb hby at_168) rfl rfl ?_
          refine own_ifNo (pc' := 172) X64 hx (hb hby at_169) rfl (teq ((lw_eq _ _).mpr ((own_C (own_le18 hd32 hc21_34) rg58).2 hc145_65))).2 ?_
          refine own_iconst (pc' := 173) (z := (1 : Int32)) X64 hx (hb hby at_172) rfl rfl ?_
          refine own_goto (pc' := 177) X64 hx (hb hby at_173) (by decide) (by decide) ?_
          refine own_retN X64 hx hlk hret (by simp) (hb hby at_177) (by decide) (by decide) ?_
          exact ⟨rfl, N64⟩
  · refine own_icmpYes (pc' := 73) X0 hx (hb hby at_14) (feq hc14_33).2 (by decide) (by decide) ?_
    refine own_iload (pc' := 75) X0 hx (hb hby at_73) rfl rfl ?_
    refine own_iconst (pc' := 76) (z := (2 : Int32)) X0 hx (hb hby at_75) rfl rfl ?_
    by_cases hc76_68 : (p2 &&& (3 : Int32)) = (2 : Int32)
    · refine own_icmpNo (pc' := 79) X0 hx (hb hby at_76) rfl (teq hc76_68).2 ?_
      refine own_lloadN (pc' := 80) X0 hx (hb hby at_79) rfl rfl ?_
      refine own_ldc2J (pc' := 83) X0 hx hZ hown (own_w6 hw) (hb hby at_80) rfl ?_
      obtain ⟨v69, hv69⟩ : ∃ z, (q0 - (q0 / (100 : Int64)) * (100 : Int64)) = z := ⟨_, rfl⟩
      refine own_lrem (pc' := 84) (z := v69) X0 hx (hb hby at_83) rfl (by decide) hv69 ?_
      have rg70 : own_rg v69 := own_rem (k := 100) rfl (by decide) hv69
      refine own_lstore (pc' := 86) (l' := #[.val (.long q0), .second, .val (.int p1), .val (.int p2), .val (.int d31), .val (.int (p2 &&& (3 : Int32))), .val (.long v69), .second, .unset, .unset, .unset, .unset]) X0 hx (hb hby at_84) rfl rfl ?_
      refine own_goto (pc' := 96) X0 hx (hb hby at_86) (by decide) (by decide) ?_
      refine own_lload (pc' := 98) X0 hx (hb hby at_96) rfl rfl ?_
      refine own_iload (pc' := 100) X0 hx (hb hby at_98) rfl rfl ?_
      refine own_callS (pc' := 103) (y := (⟨"com/example/skewcube/skewcube/Unscaled", "raised", "(JI)J"⟩ : MethodName)) (W := 0) (rm := own_room2) (argsL := [(.long v69), (.int d31)]) (rest := []) X0 hx hZ e0 hown (by rw [hml]; rfl) (own_w23 hw) (own_w24 hw) (own_w25 hw) (own_w26 hw) (by decide) (own_rm2 l Z a0 hw [] v69 d31 pa pk h0 n0 S0 V0 (own_nn hd32)) (by decide) (by decide) (by decide) (by decide) (lenOf own_pd0 rfl) rfl (by exact Nat.le_of_eq rfl) (hb hby at_100) rfl ?_
      intro T71 Lc71 v71 X71 hQ71
      obtain ⟨rfl, Nq71, Kq71⟩ := hQ71
      have N71 := Fr.app N0 Nq71
      show own_Ends p e below s _ _ _ T71 (mkF m 103 #[.val (.long q0), .second, .val (.int p1), .val (.int p2), .val (.int d31), .val (.int (p2 &&& (3 : Int32))), .val (.long v69), .second, .unset, .unset, .unset, .unset] [(.long (own_raised v69 d31))])
      refine own_lstore (pc' := 105) (l' := #[.val (.long q0), .second, .val (.int p1), .val (.int p2), .val (.int d31), .val (.int (p2 &&& (3 : Int32))), .val (.long v69), .second, .val (.long (own_raised v69 d31)), .second, .unset, .unset]) X71 hx (hb hby at_103) rfl rfl ?_
      refine own_iload (pc' := 107) X71 hx (hb hby at_105) rfl rfl ?_
      refine own_bipush (pc' := 109) (z := (18 : Int32)) X71 hx (hb hby at_107) rfl rfl ?_
      by_cases hc109_72 : (18 : Int32) < d31
      · refine own_icmpNo (pc' := 112) X71 hx (hb hby at_109) rfl (tlt hc109_72).2.2.2 ?_
        refine own_lload (pc' := 114) X71 hx (hb hby at_112) rfl rfl ?_
        refine own_lconst (pc' := 115) (z := (0 : Int64)) X71 hx (hb hby at_114) rfl rfl ?_
        refine own_lcmp (pc' := 116) (z := (lcmpW v69 (0 : Int64))) X71 hx (hb hby at_115) rfl rfl ?_
        by_cases hc116_73 : v69 = (0 : Int64)
        · refine own_ifNo (pc' := 119) X71 hx (hb hby at_116) rfl (teq ((lw_eq _ _).mpr hc116_73)).2 ?_
          refine own_lconst (pc' := 120) (z := (0 : Int64)) X71 hx (hb hby at_119) rfl rfl ?_
          refine own_goto (pc' := 126) X71 hx (hb hby at_120) (by decide) (by decide) ?_
          refine own_lstore (pc' := 128) (l' := #[.val (.long q0), .second, .val (.int p1), .val (.int p2), .val (.int d31), .val (.int (p2 &&& (3 : Int32))), .val (.long v69), .second, .val (.long (own_raised v69 d31)), .second, .val (.long (0 : Int64)), .second]) X71 hx (hb hby at_126) rfl rfl ?_
          refine own_goto (pc' := 164) X71 hx (hb hby at_128) (by decide) (by decide) ?_
          refine own_lload (pc' := 166) X71 hx (hb hby at_164) rfl rfl ?_
          refine own_lload (pc' := 168) X71 hx (hb hby at_166) rfl rfl ?_
          refine own_lcmp (pc' := 169) (z := (lcmpW (own_raised v69 d31) (0 : Int64))) X71 hx (hb hby at_168) rfl rfl ?_
          refine own_ifNo (pc' := 172) X71 hx (hb hby at_169) rfl (teq ((lw_eq _ _).mpr (own_A hc116_73))).2 ?_
          refine own_iconst (pc' := 173) (z := (1 : Int32)) X71 hx (hb hby at_172) rfl rfl ?_
          refine own_goto (pc' := 177) X71 hx (hb hby at_173) (by decide) (by decide) ?_
          refine own_retN X71 hx hlk hret (by simp) (hb hby at_177) (by decide) (by decide) ?_
          exact ⟨rfl, N71⟩
        · refine own_ifYes (pc' := 123) X71 hx (hb hby at_116) (feq (fun q => hc116_73 ((lw_eq _ _).mp q))).2 (by decide) (by decide) ?_
          refine own_ldc2J (pc' := 126) X71 hx hZ hown (own_w35 hw) (hb hby at_123) rfl ?_
          refine own_lstore (pc' := 128) (l' := #[.val (.long q0), .second, .val (.int p1), .val (.int p2), .val (.int d31), .val (.int (p2 &&& (3 : Int32))), .val (.long v69), .second, .val (.long (own_raised v69 d31)), .second, .val (.long (-9223372036854775808 : Int64)), .second]) X71 hx (hb hby at_126) rfl rfl ?_
          refine own_goto (pc' := 164) X71 hx (hb hby at_128) (by decide) (by decide) ?_
          refine own_lload (pc' := 166) X71 hx (hb hby at_164) rfl rfl ?_
          refine own_lload (pc' := 168) X71 hx (hb hby at_166) rfl rfl ?_
          refine own_lcmp (pc' := 169) (z := (lcmpW (own_raised v69 d31) (-9223372036854775808 : Int64))) X71 hx (hb hby at_168) rfl rfl ?_
          refine own_ifNo (pc' := 172) X71 hx (hb hby at_169) rfl (teq ((lw_eq _ _).mpr (own_B hc109_72 hc116_73))).2 ?_
          refine own_iconst (pc' := 173) (z := (1 : Int32)) X71 hx (hb hby at_172) rfl rfl ?_
          refine own_goto (pc' := 177) X71 hx (hb hby at_173) (by decide) (by decide) ?_
          refine own_retN X71 hx hlk hret (by simp) (hb hby at_177) (by decide) (by decide) ?_
          exact ⟨rfl, N71⟩
      · refine own_icmpYes (pc' := 131) X71 hx (hb hby at_109) (flt hc109_72).2.2.2 (by decide) (by decide) ?_
        refine own_lload (pc' := 133) X71 hx (hb hby at_131) rfl rfl ?_
        refine own_callS (pc' := 136) (y := (⟨"java/lang/Math", "abs", "(J)J"⟩ : MethodName)) (W := 0) (rm := own_room3) (argsL := [(.long v69)]) (rest := []) X71 hx hZ Kq71 hown (by rw [hml]; rfl) (own_w30 hw) (own_w31 hw) (own_w32 hw) (own_w33 hw) (by decide) (own_rm3 l Z a0 hw [] v69 h0 n0) (by decide) (by decide) (by decide) (by decide) (lenOf own_pd2 rfl) rfl (by exact Nat.le_of_eq rfl) (hb hby at_133) rfl ?_
        intro T74 Lc74 v74 X74 hQ74
        obtain ⟨rfl, Nq74, Kq74⟩ := hQ74
        have N74 := Fr.app N71 Nq74
        show own_Ends p e below s _ _ _ T74 (mkF m 136 #[.val (.long q0), .second, .val (.int p1), .val (.int p2), .val (.int d31), .val (.int (p2 &&& (3 : Int32))), .val (.long v69), .second, .val (.long (own_raised v69 d31)), .second, .unset, .unset] [(.long (own_abs v69))])
        refine own_bipush (pc' := 138) (z := (18 : Int32)) X74 hx (hb hby at_136) rfl rfl ?_
        refine own_iload (pc' := 140) X74 hx (hb hby at_138) rfl rfl ?_
        refine own_isub (pc' := 141) (z := ((18 : Int32) - d31)) X74 hx (hb hby at_140) rfl rfl ?_
        refine own_callS (pc' := 144) (y := (⟨"com/example/skewcube/skewcube/UnscaledRaisedPinLaw", "pow", "(I)J"⟩ : MethodName)) (W := 2) (rm := own_room1) (argsL := [(.int ((18 : Int32) - d31))]) (rest := [(.long (own_abs v69))]) X74 hx hZ Kq74 hown (by rw [hml]; rfl) (own_w0 hw) (own_w1 hw) (own_w2 hw) (own_w3 hw) (by decide) (own_rm1 l Z a0 hw [] ((18 : Int32) - d31) h0 n0 Z0 (own_sub18 (own_le18 hd32 hc109_72))) (by decide) (by decide) (by decide) (by decide) (lenOf own_pd1 rfl) rfl (by exact Nat.le_of_eq rfl) (hb hby at_141) rfl ?_
        intro T75 Lc75 v75 X75 hQ75
        obtain ⟨rfl, Nq75, Kq75⟩ := hQ75
        have N75 := Fr.app N74 Nq75
        show own_Ends p e below s _ _ _ T75 (mkF m 144 #[.val (.long q0), .second, .val (.int p1), .val (.int p2), .val (.int d31), .val (.int (p2 &&& (3 : Int32))), .val (.long v69), .second, .val (.long (own_raised v69 d31)), .second, .unset, .unset] [(.long (own_pow ((18 : Int32) - d31))), (.long (own_abs v69))])
        refine own_lcmp (pc' := 145) (z := (lcmpW (own_abs v69) (own_pow ((18 : Int32) - d31)))) X75 hx (hb hby at_144) rfl rfl ?_
        by_cases hc145_76 : (own_abs v69) < (own_pow ((18 : Int32) - d31))
        · refine own_ifNo (pc' := 148) X75 hx (hb hby at_145) rfl (tlt ((lw_lt _ _).mpr hc145_76)).2.1 ?_
          refine own_lload (pc' := 150) X75 hx (hb hby at_148) rfl rfl ?_
          refine own_iload (pc' := 152) X75 hx (hb hby at_150) rfl rfl ?_
          have f77 := (Nat.le_trans Z0 Kq75.1)
          refine own_callS (pc' := 155) (y := (⟨"com/example/skewcube/skewcube/UnscaledRaisedPinLaw", "pow", "(I)J"⟩ : MethodName)) (W := 2) (rm := own_room1) (argsL := [(.int d31)]) (rest := [(.long v69)]) X75 hx hZ rfl hown (by rw [hml]; rfl) (own_w0 hw) (own_w1 hw) (own_w2 hw) (own_w3 hw) (by decide) (own_rm1 l Z a0 hw [] d31 T75.heap n0 f77 (own_le18 hd32 hc109_72)) (by decide) (by decide) (by decide) (by decide) (lenOf own_pd1 rfl) rfl (by exact Nat.le_of_eq rfl) (hb hby at_152) rfl ?_
          intro T78 Lc78 v78 X78 hQ78
          obtain ⟨rfl, Nq78, Kq78⟩ := hQ78
          have N78 := Fr.app N75 Nq78
          show own_Ends p e below s _ _ _ T78 (mkF m 155 #[.val (.long q0), .second, .val (.int p1), .val (.int p2), .val (.int d31), .val (.int (p2 &&& (3 : Int32))), .val (.long v69), .second, .val (.long (own_raised v69 d31)), .second, .unset, .unset] [(.long (own_pow d31)), (.long v69)])
          refine own_lmul (pc' := 156) (z := (v69 * (own_pow d31))) X78 hx (hb hby at_155) rfl rfl ?_
          refine own_goto (pc' := 162) X78 hx (hb hby at_156) (by decide) (by decide) ?_
          refine own_lstore (pc' := 164) (l' := #[.val (.long q0), .second, .val (.int p1), .val (.int p2), .val (.int d31), .val (.int (p2 &&& (3 : Int32))), .val (.long v69), .second, .val (.long (own_raised v69 d31)), .second, .val (.long (v69 * (own_pow d31))), .second]) X78 hx (hb hby at_162) rfl rfl ?_
          refine own_lload (pc' := 166) X78 hx (hb hby at_164) rfl rfl ?_
          refine own_lload (pc' := 168) X78 hx (hb hby at_166) rfl rfl ?_
          refine own_lcmp (pc' := 169) (z := (lcmpW (own_raised v69 d31) (v69 * (own_pow d31)))) X78 hx (hb hby at_168) rfl rfl ?_
          refine own_ifNo (pc' := 172) X78 hx (hb hby at_169) rfl (teq ((lw_eq _ _).mpr ((own_C (own_le18 hd32 hc109_72) rg70).1 hc145_76))).2 ?_
          refine own_iconst (pc' := 173) (z := (1 : Int32)) X78 hx (hb hby at_172) rfl rfl ?_
          refine own_goto (pc' := 177) X78 hx (hb hby at_173) (by decide) (by decide) ?_
          refine own_retN X78 hx hlk hret (by simp) (hb hby at_177) (by decide) (by decide) ?_
          exact ⟨rfl, N78⟩
        · refine own_ifYes (pc' := 159) X75 hx (hb hby at_145) (flt (fun q => hc145_76 ((lw_lt _ _).mp q))).2.1 (by decide) (by decide) ?_
          refine own_ldc2J (pc' := 162) X75 hx hZ hown (own_w35 hw) (hb hby at_159) rfl ?_
          refine own_lstore (pc' := 164) (l' := #[.val (.long q0), .second, .val (.int p1), .val (.int p2), .val (.int d31), .val (.int (p2 &&& (3 : Int32))), .val (.long v69), .second, .val (.long (own_raised v69 d31)), .second, .val (.long (-9223372036854775808 : Int64)), .second]) X75 hx (hb hby at_162) rfl rfl ?_
          refine own_lload (pc' := 166) X75 hx (hb hby at_164) rfl rfl ?_
          refine own_lload (pc' := 168) X75 hx (hb hby at_166) rfl rfl ?_
          refine own_lcmp (pc' := 169) (z := (lcmpW (own_raised v69 d31) (-9223372036854775808 : Int64))) X75 hx (hb hby at_168) rfl rfl ?_
          refine own_ifNo (pc' := 172) X75 hx (hb hby at_169) rfl (teq ((lw_eq _ _).mpr ((own_C (own_le18 hd32 hc109_72) rg70).2 hc145_76))).2 ?_
          refine own_iconst (pc' := 173) (z := (1 : Int32)) X75 hx (hb hby at_172) rfl rfl ?_
          refine own_goto (pc' := 177) X75 hx (hb hby at_173) (by decide) (by decide) ?_
          refine own_retN X75 hx hlk hret (by simp) (hb hby at_177) (by decide) (by decide) ?_
          exact ⟨rfl, N75⟩
    · refine own_icmpYes (pc' := 89) X0 hx (hb hby at_76) (feq hc76_68).2 (by decide) (by decide) ?_
      refine own_lloadN (pc' := 90) X0 hx (hb hby at_89) rfl rfl ?_
      refine own_ldc2J (pc' := 93) X0 hx hZ hown (own_w22 hw) (hb hby at_90) rfl ?_
      obtain ⟨v79, hv79⟩ : ∃ z, (q0 - (q0 / (1000000000000000000 : Int64)) * (1000000000000000000 : Int64)) = z := ⟨_, rfl⟩
      refine own_lrem (pc' := 94) (z := v79) X0 hx (hb hby at_93) rfl (by decide) hv79 ?_
      have rg80 : own_rg v79 := own_rem (k := 1000000000000000000) rfl (by decide) hv79
      refine own_lstore (pc' := 96) (l' := #[.val (.long q0), .second, .val (.int p1), .val (.int p2), .val (.int d31), .val (.int (p2 &&& (3 : Int32))), .val (.long v79), .second, .unset, .unset, .unset, .unset]) X0 hx (hb hby at_94) rfl rfl ?_
      refine own_lload (pc' := 98) X0 hx (hb hby at_96) rfl rfl ?_
      refine own_iload (pc' := 100) X0 hx (hb hby at_98) rfl rfl ?_
      refine own_callS (pc' := 103) (y := (⟨"com/example/skewcube/skewcube/Unscaled", "raised", "(JI)J"⟩ : MethodName)) (W := 0) (rm := own_room2) (argsL := [(.long v79), (.int d31)]) (rest := []) X0 hx hZ e0 hown (by rw [hml]; rfl) (own_w23 hw) (own_w24 hw) (own_w25 hw) (own_w26 hw) (by decide) (own_rm2 l Z a0 hw [] v79 d31 pa pk h0 n0 S0 V0 (own_nn hd32)) (by decide) (by decide) (by decide) (by decide) (lenOf own_pd0 rfl) rfl (by exact Nat.le_of_eq rfl) (hb hby at_100) rfl ?_
      intro T81 Lc81 v81 X81 hQ81
      obtain ⟨rfl, Nq81, Kq81⟩ := hQ81
      have N81 := Fr.app N0 Nq81
      show own_Ends p e below s _ _ _ T81 (mkF m 103 #[.val (.long q0), .second, .val (.int p1), .val (.int p2), .val (.int d31), .val (.int (p2 &&& (3 : Int32))), .val (.long v79), .second, .unset, .unset, .unset, .unset] [(.long (own_raised v79 d31))])
      refine own_lstore (pc' := 105) (l' := #[.val (.long q0), .second, .val (.int p1), .val (.int p2), .val (.int d31), .val (.int (p2 &&& (3 : Int32))), .val (.long v79), .second, .val (.long (own_raised v79 d31)), .second, .unset, .unset]) X81 hx (hb hby at_103) rfl rfl ?_
      refine own_iload (pc' := 107) X81 hx (hb hby at_105) rfl rfl ?_
      refine own_bipush (pc' := 109) (z := (18 : Int32)) X81 hx (hb hby at_107) rfl rfl ?_
      by_cases hc109_82 : (18 : Int32) < d31
      · refine own_icmpNo (pc' := 112) X81 hx (hb hby at_109) rfl (tlt hc109_82).2.2.2 ?_
        refine own_lload (pc' := 114) X81 hx (hb hby at_112) rfl rfl ?_
        refine own_lconst (pc' := 115) (z := (0 : Int64)) X81 hx (hb hby at_114) rfl rfl ?_
        refine own_lcmp (pc' := 116) (z := (lcmpW v79 (0 : Int64))) X81 hx (hb hby at_115) rfl rfl ?_
        by_cases hc116_83 : v79 = (0 : Int64)
        · refine own_ifNo (pc' := 119) X81 hx (hb hby at_116) rfl (teq ((lw_eq _ _).mpr hc116_83)).2 ?_
          refine own_lconst (pc' := 120) (z := (0 : Int64)) X81 hx (hb hby at_119) rfl rfl ?_
          refine own_goto (pc' := 126) X81 hx (hb hby at_120) (by decide) (by decide) ?_
          refine own_lstore (pc' := 128) (l' := #[.val (.long q0), .second, .val (.int p1), .val (.int p2), .val (.int d31), .val (.int (p2 &&& (3 : Int32))), .val (.long v79), .second, .val (.long (own_raised v79 d31)), .second, .val (.long (0 : Int64)), .second]) X81 hx (hb hby at_126) rfl rfl ?_
          refine own_goto (pc' := 164) X81 hx (hb hby at_128) (by decide) (by decide) ?_
          refine own_lload (pc' := 166) X81 hx (hb hby at_164) rfl rfl ?_
          refine own_lload (pc' := 168) X81 hx (hb hby at_166) rfl rfl ?_
          refine own_lcmp (pc' := 169) (z := (lcmpW (own_raised v79 d31) (0 : Int64))) X81 hx (hb hby at_168) rfl rfl ?_
          refine own_ifNo (pc' := 172) X81 hx (hb hby at_169) rfl (teq ((lw_eq _ _).mpr (own_A hc116_83))).2 ?_
          refine own_iconst (pc' := 173) (z := (1 : Int32)) X81 hx (hb hby at_172) rfl rfl ?_
          refine own_goto (pc' := 177) X81 hx (hb hby at_173) (by decide) (by decide) ?_
          refine own_retN X81 hx hlk hret (by simp) (hb hby at_177) (by decide) (by decide) ?_
          exact ⟨rfl, N81⟩
        · refine own_ifYes (pc' := 123) X81 hx (hb hby at_116) (feq (fun q => hc116_83 ((lw_eq _ _).mp q))).2 (by decide) (by decide) ?_
          refine own_ldc2J (pc' := 126) X81 hx hZ hown (own_w35 hw) (hb hby at_123) rfl ?_
          refine own_lstore (pc' := 128) (l' := #[.val (.long q0), .second, .val (.int p1), .val (.int p2), .val (.int d31), .val (.int (p2 &&& (3 : Int32))), .val (.long v79), .second, .val (.long (own_raised v79 d31)), .second, .val (.long (-9223372036854775808 : Int64)), .second]) X81 hx (hb hby at_126) rfl rfl ?_
          refine own_goto (pc' := 164) X81 hx (hb hby at_128) (by decide) (by decide) ?_
          refine own_lload (pc' := 166) X81 hx (hb hby at_164) rfl rfl ?_
          refine own_lload (pc' := 168) X81 hx (hb hby at_166) rfl rfl ?_
          refine own_lcmp (pc' := 169) (z := (lcmpW (own_raised v79 d31) (-9223372036854775808 : Int64))) X81 hx (hb hby at_168) rfl rfl ?_
          refine own_ifNo (pc' := 172) X81 hx (hb hby at_169) rfl (teq ((lw_eq _ _).mpr (own_B hc109_82 hc116_83))).2 ?_
          refine own_iconst (pc' := 173) (z := (1 : Int32)) X81 hx (hb hby at_172) rfl rfl ?_
          refine own_goto (pc' := 177) X81 hx (hb hby at_173) (by decide) (by decide) ?_
          refine own_retN X81 hx hlk hret (by simp) (hb hby at_177) (by decide) (by decide) ?_
          exact ⟨rfl, N81⟩
      · refine own_icmpYes (pc' := 131) X81 hx (hb hby at_109) (flt hc109_82).2.2.2 (by decide) (by decide) ?_
        refine own_lload (pc' := 133) X81 hx (hb hby at_131) rfl rfl ?_
        refine own_callS (pc' := 136) (y := (⟨"java/lang/Math", "abs", "(J)J"⟩ : MethodName)) (W := 0) (rm := own_room3) (argsL := [(.long v79)]) (rest := []) X81 hx hZ Kq81 hown (by rw [hml]; rfl) (own_w30 hw) (own_w31 hw) (own_w32 hw) (own_w33 hw) (by decide) (own_rm3 l Z a0 hw [] v79 h0 n0) (by decide) (by decide) (by decide) (by decide) (lenOf own_pd2 rfl) rfl (by exact Nat.le_of_eq rfl) (hb hby at_133) rfl ?_
        intro T84 Lc84 v84 X84 hQ84
        obtain ⟨rfl, Nq84, Kq84⟩ := hQ84
        have N84 := Fr.app N81 Nq84
        show own_Ends p e below s _ _ _ T84 (mkF m 136 #[.val (.long q0), .second, .val (.int p1), .val (.int p2), .val (.int d31), .val (.int (p2 &&& (3 : Int32))), .val (.long v79), .second, .val (.long (own_raised v79 d31)), .second, .unset, .unset] [(.long (own_abs v79))])
        refine own_bipush (pc' := 138) (z := (18 : Int32)) X84 hx (hb hby at_136) rfl rfl ?_
        refine own_iload (pc' := 140) X84 hx (hb hby at_138) rfl rfl ?_
        refine own_isub (pc' := 141) (z := ((18 : Int32) - d31)) X84 hx (hb hby at_140) rfl rfl ?_
        refine own_callS (pc' := 144) (y := (⟨"com/example/skewcube/skewcube/UnscaledRaisedPinLaw", "pow", "(I)J"⟩ : MethodName)) (W := 2) (rm := own_room1) (argsL := [(.int ((18 : Int32) - d31))]) (rest := [(.long (own_abs v79))]) X84 hx hZ Kq84 hown (by rw [hml]; rfl) (own_w0 hw) (own_w1 hw) (own_w2 hw) (own_w3 hw) (by decide) (own_rm1 l Z a0 hw [] ((18 : Int32) - d31) h0 n0 Z0 (own_sub18 (own_le18 hd32 hc109_82))) (by decide) (by decide) (by decide) (by decide) (lenOf own_pd1 rfl) rfl (by exact Nat.le_of_eq rfl) (hb hby at_141) rfl ?_
        intro T85 Lc85 v85 X85 hQ85
        obtain ⟨rfl, Nq85, Kq85⟩ := hQ85
        have N85 := Fr.app N84 Nq85
        show own_Ends p e below s _ _ _ T85 (mkF m 144 #[.val (.long q0), .second, .val (.int p1), .val (.int p2), .val (.int d31), .val (.int (p2 &&& (3 : Int32))), .val (.long v79), .second, .val (.long (own_raised v79 d31)), .second, .unset, .unset] [(.long (own_pow ((18 : Int32) - d31))), (.long (own_abs v79))])
        refine own_lcmp (pc' := 145) (z := (lcmpW (own_abs v79) (own_pow ((18 : Int32) - d31)))) X85 hx (hb hby at_144) rfl rfl ?_
        by_cases hc145_86 : (own_abs v79) < (own_pow ((18 : Int32) - d31))
        · refine own_ifNo (pc' := 148) X85 hx (hb hby at_145) rfl (tlt ((lw_lt _ _).mpr hc145_86)).2.1 ?_
          refine own_lload (pc' := 150) X85 hx (hb hby at_148) rfl rfl ?_
          refine own_iload (pc' := 152) X85 hx (hb hby at_150) rfl rfl ?_
          have f87 := (Nat.le_trans Z0 Kq85.1)
          refine own_callS (pc' := 155) (y := (⟨"com/example/skewcube/skewcube/UnscaledRaisedPinLaw", "pow", "(I)J"⟩ : MethodName)) (W := 2) (rm := own_room1) (argsL := [(.int d31)]) (rest := [(.long v79)]) X85 hx hZ rfl hown (by rw [hml]; rfl) (own_w0 hw) (own_w1 hw) (own_w2 hw) (own_w3 hw) (by decide) (own_rm1 l Z a0 hw [] d31 T85.heap n0 f87 (own_le18 hd32 hc109_82)) (by decide) (by decide) (by decide) (by decide) (lenOf own_pd1 rfl) rfl (by exact Nat.le_of_eq rfl) (hb hby at_152) rfl ?_
          intro T88 Lc88 v88 X88 hQ88
          obtain ⟨rfl, Nq88, Kq88⟩ := hQ88
          have N88 := Fr.app N85 Nq88
          show own_Ends p e below s _ _ _ T88 (mkF m 155 #[.val (.long q0), .second, .val (.int p1), .val (.int p2), .val (.int d31), .val (.int (p2 &&& (3 : Int32))), .val (.long v79), .second, .val (.long (own_raised v79 d31)), .second, .unset, .unset] [(.long (own_pow d31)), (.long v79)])
          refine own_lmul (pc' := 156) (z := (v79 * (own_pow d31))) X88 hx (hb hby at_155) rfl rfl ?_
          refine own_goto (pc' := 162) X88 hx (hb hby at_156) (by decide) (by decide) ?_
          refine own_lstore (pc' := 164) (l' := #[.val (.long q0), .second, .val (.int p1), .val (.int p2), .val (.int d31), .val (.int (p2 &&& (3 : Int32))), .val (.long v79), .second, .val (.long (own_raised v79 d31)), .second, .val (.long (v79 * (own_pow d31))), .second]) X88 hx (hb hby at_162) rfl rfl ?_
          refine own_lload (pc' := 166) X88 hx (hb hby at_164) rfl rfl ?_
          refine own_lload (pc' := 168) X88 hx (hb hby at_166) rfl rfl ?_
          refine own_lcmp (pc' := 169) (z := (lcmpW (own_raised v79 d31) (v79 * (own_pow d31)))) X88 hx (hb hby at_168) rfl rfl ?_
          refine own_ifNo (pc' := 172) X88 hx (hb hby at_169) rfl (teq ((lw_eq _ _).mpr ((own_C (own_le18 hd32 hc109_82) rg80).1 hc145_86))).2 ?_
          refine own_iconst (pc' := 173) (z := (1 : Int32)) X88 hx (hb hby at_172) rfl rfl ?_
          refine own_goto (pc' := 177) X88 hx (hb hby at_173) (by decide) (by decide) ?_
          refine own_retN X88 hx hlk hret (by simp) (hb hby at_177) (by decide) (by decide) ?_
          exact ⟨rfl, N88⟩
        · refine own_ifYes (pc' := 159) X85 hx (hb hby at_145) (flt (fun q => hc145_86 ((lw_lt _ _).mp q))).2.1 (by decide) (by decide) ?_
          refine own_ldc2J (pc' := 162) X85 hx hZ hown (own_w35 hw) (hb hby at_159) rfl ?_
          refine own_lstore (pc' := 164) (l' := #[.val (.long q0), .second, .val (.int p1), .val (.int p2), .val (.int d31), .val (.int (p2 &&& (3 : Int32))), .val (.long v79), .second, .val (.long (own_raised v79 d31)), .second, .val (.long (-9223372036854775808 : Int64)), .second]) X85 hx (hb hby at_162) rfl rfl ?_
          refine own_lload (pc' := 166) X85 hx (hb hby at_164) rfl rfl ?_
          refine own_lload (pc' := 168) X85 hx (hb hby at_166) rfl rfl ?_
          refine own_lcmp (pc' := 169) (z := (lcmpW (own_raised v79 d31) (-9223372036854775808 : Int64))) X85 hx (hb hby at_168) rfl rfl ?_
          refine own_ifNo (pc' := 172) X85 hx (hb hby at_169) rfl (teq ((lw_eq _ _).mpr ((own_C (own_le18 hd32 hc109_82) rg80).2 hc145_86))).2 ?_
          refine own_iconst (pc' := 173) (z := (1 : Int32)) X85 hx (hb hby at_172) rfl rfl ?_
          refine own_goto (pc' := 177) X85 hx (hb hby at_173) (by decide) (by decide) ?_
          refine own_retN X85 hx hlk hret (by simp) (hb hby at_177) (by decide) (by decide) ?_
          exact ⟨rfl, N85⟩
set_option maxRecDepth 65536 in
set_option maxHeartbeats 40000000 in
theorem own_comes {Post : Tables → Env → Array Value → State → Outcome → State → Prop} (hpost : ∀ tb e args s v u, (limb_1_1.after args s (.returned v) u = true ∧ limb_1_2.after args s (.returned v) u = true ∧ True) → FrameEnd s (.returned v) u (Jvm.fieldLocs frame_1_writes args s ++ Jvm.arrayLocs frame_1_arrays args s ++ Jvm.staticLocs frame_1_statics s) 16 192 → Post tb e args s (.returned v) u) :
    ArmFor flags0 classFile x code maxLocals ret World_1 tables_1 room_1 Calls_1 rest_1 Pre_1 Post := by
  intro l hfl _ _ p e ha hc hk s m args below hf hA hF happ hP
  obtain ⟨hcalls, hrest, hpre⟩ := hP
  obtain ⟨-, -, -, hnamed, -, -, -, hat⟩ := (Spec.applies_iff hf).mp happ
  obtain ⟨hg, hn⟩ := and_e (Cond.before_iff.mp (show (Jvm.Cond.and given_1 narrow_1).before args s = true from hpre))
  obtain ⟨g1, g2⟩ := and_e hg
  obtain ⟨g3, g4⟩ := and_e g2
  obtain ⟨g5, g6⟩ := and_e g4
  obtain ⟨w0, w1, w2, rfl⟩ : ∃ w0 w1 w2 : Value, args = #[w0, w1, w2] := by
    have hs : args.size = 3 := by simpa [Cond.value, given_1] using g1
    obtain ⟨L⟩ := args
    match L, hs with
    | [w0, w1, w2], _ => exact ⟨w0, w1, w2, rfl⟩
  have hw := fun d (hd : d ∈ tables_1) => atoms_spec (ws := Jvm.Cond.code x code maxLocals ret :: tables_1) hat d (List.mem_cons_of_mem _ hd)
  have hfit : Fit s := fun {y c} hc i hi => by
    obtain ⟨ha, rfl⟩ := Array.getElem?_eq_some_iff.mp hc
    have q := List.all_eq_true.mp ((Array.all_eq_true_iff_forall_mem.mp hF) _ (Array.getElem_mem ha)) i (List.mem_range.mpr hi)
    simpa [Array.getElem?_eq_getElem hi] using q
  obtain ⟨i0, ei0⟩ := isL_v g3
  obtain rfl : w0 = (.long i0) := Option.some.inj ei0
  obtain ⟨i1, ei1⟩ := is_v g5
  obtain rfl : w1 = (.int i1) := Option.some.inj ei1
  obtain ⟨i2, ei2⟩ := is_v g6
  obtain rfl : w2 = (.int i2) := Option.some.inj ei2
  obtain ⟨n0, m0⟩ := and_e hn
  obtain ⟨n1, m1⟩ := and_e m0
  obtain ⟨n2, m2⟩ := and_e m1
  obtain ⟨n3, m3⟩ := and_e m2
  obtain ⟨n4, m4⟩ := and_e m3
  obtain ⟨n5, m5⟩ := and_e m4
  obtain ⟨n6, m6⟩ := and_e m5
  obtain ⟨n7, m7⟩ := and_e m6
  obtain ⟨n8, m8⟩ := and_e m7
  obtain ⟨n9, m9⟩ := and_e m8
  obtain ⟨n10, m10⟩ := and_e m9
  obtain ⟨n11, m11⟩ := and_e m10
  obtain ⟨n12, m12⟩ := and_e m11
  obtain ⟨n13, m13⟩ := and_e m12
  obtain ⟨n14, m14⟩ := and_e m13
  obtain ⟨n15, m15⟩ := and_e m14
  obtain ⟨n16, m16⟩ := and_e m15
  obtain ⟨n17, m17⟩ := and_e m16
  obtain ⟨n18, m18⟩ := and_e m17
  obtain ⟨n19, m19⟩ := and_e m18
  obtain ⟨Pa, Pe⟩ := arr_v n0
  obtain ⟨Pc, PA⟩ := Arr.start Pe n0
  have PS := Sta.start Pe (Or.inr ⟨(hw _ (List.mem_of_getElem? (i := 25) rfl)), (hw _ (List.mem_of_getElem? (i := 28) rfl))⟩)
  have Pl := own_len (own_eqi n1) Pe PA.1
  have Pv0 := (elem_in (own_eql n2) Pe (Term.int_eval (0)) PA.1).2
  have Pv1 := (elem_in (own_eql n3) Pe (Term.int_eval (1)) PA.1).2
  have Pv2 := (elem_in (own_eql n4) Pe (Term.int_eval (2)) PA.1).2
  have Pv3 := (elem_in (own_eql n5) Pe (Term.int_eval (3)) PA.1).2
  have Pv4 := (elem_in (own_eql n6) Pe (Term.int_eval (4)) PA.1).2
  have Pv5 := (elem_in (own_eql n7) Pe (Term.int_eval (5)) PA.1).2
  have Pv6 := (elem_in (own_eql n8) Pe (Term.int_eval (6)) PA.1).2
  have Pv7 := (elem_in (own_eql n9) Pe (Term.int_eval (7)) PA.1).2
  have Pv8 := (elem_in (own_eql n10) Pe (Term.int_eval (8)) PA.1).2
  have Pv9 := (elem_in (own_eql n11) Pe (Term.int_eval (9)) PA.1).2
  have Pv10 := (elem_in (own_eql n12) Pe (Term.int_eval (10)) PA.1).2
  have Pv11 := (elem_in (own_eql n13) Pe (Term.int_eval (11)) PA.1).2
  have Pv12 := (elem_in (own_eql n14) Pe (Term.int_eval (12)) PA.1).2
  have Pv13 := (elem_in (own_eql n15) Pe (Term.int_eval (13)) PA.1).2
  have Pv14 := (elem_in (own_eql n16) Pe (Term.int_eval (14)) PA.1).2
  have Pv15 := (elem_in (own_eql n17) Pe (Term.int_eval (15)) PA.1).2
  have Pv16 := (elem_in (own_eql n18) Pe (Term.int_eval (16)) PA.1).2
  have Pv17 := (elem_in (own_eql n19) Pe (Term.int_eval (17)) PA.1).2
  have Pv18 := (elem_in (own_eql m19) Pe (Term.int_eval (18)) PA.1).2
  have PV : Arv s s.heap Pa Pc.cls .long (19 : Int32) [(.long (1 : Int64)), (.long (10 : Int64)), (.long (100 : Int64)), (.long (1000 : Int64)), (.long (10000 : Int64)), (.long (100000 : Int64)), (.long (1000000 : Int64)), (.long (10000000 : Int64)), (.long (100000000 : Int64)), (.long (1000000000 : Int64)), (.long (10000000000 : Int64)), (.long (100000000000 : Int64)), (.long (1000000000000 : Int64)), (.long (10000000000000 : Int64)), (.long (100000000000000 : Int64)), (.long (1000000000000000 : Int64)), (.long (10000000000000000 : Int64)), (.long (100000000000000000 : Int64)), (.long (1000000000000000000 : Int64))] (.long (0 : Int64)) := Arv.start hfit PA Pl.2 Pl.1 (by decide) rfl ⟨Pv0, Pv1, Pv2, Pv3, Pv4, Pv5, Pv6, Pv7, Pv8, Pv9, Pv10, Pv11, Pv12, Pv13, Pv14, Pv15, Pv16, Pv17, Pv18, trivial⟩
  obtain ⟨n, o, h1, h2, h3, _, L, rfl, ⟨rfl, N⟩, hq⟩ := own_rm0 l s _ hw tables_1 i0 i1 i2 Pa Pc.cls s.heap s.heap.size (Nat.le_refl _) PS PV p e ha hc hk s m _ below hf ((Spec.applies_iff_loose hf).mp happ).1 ⟨rfl, State.Warmed39.refl s, rfl⟩ trivial
  refine ⟨n, _, h1, h2, h3, hpost _ _ _ _ _ _ ⟨Cond.after_iff.mpr rfl, Cond.after_iff.mpr (eq_i res_at (Term.int_eval (1)) rfl), trivial⟩ ⟨hq.1, hq.2.1, (hq.2.2.sift fun y hy => Or.inr (N y hy)).mono (by decide) (by decide)⟩⟩
theorem main_1_1 : Claimed_1_1 := own_comes fun _ _ _ _ _ _ h hF => ⟨h.1, hF⟩
theorem main_1_2 : Claimed_1_2 := own_comes fun _ _ _ _ _ _ h hF => ⟨h.2.1, hF⟩
end Jvm.Pilot.@@N@@
namespace Jvm.Pilot.@@N@@
open Jvm Jvm.ClassFile Sem Op Lib Jvm.Free Jvm.Stand Jvm.Pilot.@@N@@.Jvm.D
/-! MADE BY PROGRAM (witnessworld.py) out of the Statement's table words and the real class files: 12 classes; the members and pool entries that the words name. The judged class is class 1, her method 2. -/
namespace start1
open Jvm.ClassFile
def u (s : String) : CpInfo := .utf8 (stringToUtf16 s)
/-- a pool by its gaps: so many unusable entries, then the entry; so many at the end -/
def gap : Nat → List CpInfo → List CpInfo
  | 0, r => r
  | n + 1, r => .unusable :: gap n r
def poolList (es : List (Nat × CpInfo)) (last : Nat) : List CpInfo := es.foldr (fun e r => gap e.1 (e.2 :: r)) (gap last [])
def pool (es : List (Nat × CpInfo)) (last : Nat) : Array CpInfo := ⟨poolList es last⟩
def fileOf (pool : Array CpInfo) (this : Nat) (attrs : Array Attribute := #[]) (ms : Array MethodInfo := #[]) (fl : Nat := 33) (sup : Nat := 0) (ifs : Array Nat := #[]) (fds : Array FieldInfo := #[]) : ClassFile where
  minorVersion := 0
  majorVersion := 65
  constantPool := pool
  accessFlags := fl
  thisClass := this
  superClass := sup
  interfaces := ifs
  fields := fds
  methods := ms
  attributes := attrs
def plain (name : String) (sup : Option ClassId) : Class where
  name := name
  kind := .ordinary
  loader := none
  accessFlags := 33
  super := sup
  interfaces := #[]
  cf := none
  fields := #[]
  methods := #[]
  instanceTypes := #[]
  staticTypes := #[]
  resolved := #[]
  callSites := []
  init := .initialized
  statics := none
  mirror := none

def pool0 : Array CpInfo := pool [(5, u "<init>"), (0, u "()V"), (1, .class_ 10), (1, u "java/lang/Object")] 113

def k0m0 : Method := { name := "<init>", desc := "()V", sig := { parameters := [], returnType := none }, accessFlags := 1, code := none }
/-- java/lang/Object -/
def k0 : Class := { plain "java/lang/Object" none with
  accessFlags := 33
  interfaces := #[]
  cf := some (fileOf pool0 8 #[] #[{ accessFlags := 1, nameIndex := 5, descriptorIndex := 6, attributes := #[] }] 33 0 #[] #[])
  fields := #[]
  methods := #[k0m0]
  instanceTypes := #[]
  staticTypes := #[]
  resolved := Array.replicate 124 none
  statics := none }

def pool1 : Array CpInfo := pool [(2, .class_ 4), (1, u "java/lang/Object"), (0, u "<init>"), (0, u "()V"), (0, .long 10), (1, .long 100), (1, .long 1000), (1, .long 10000), (1, .long 100000), (1, .long 1000000), (1, .long 10000000), (1, .long 100000000), (1, .long 1000000000), (1, .long 10000000000), (1, .long 100000000000), (1, .long 1000000000000), (1, .long 10000000000000), (1, .long 100000000000000), (1, .long 1000000000000000), (1, .long 10000000000000000), (1, .long 100000000000000000), (1, .long 1000000000000000000), (1, .methodref 44 45), (0, .class_ 46), (0, .nameAndType 47 48), (0, u "com/example/skewcube/skewcube/UnscaledRaisedPinLaw"), (0, u "pow"), (0, u "(I)J"), (0, .methodref 50 51), (0, .class_ 52), (0, .nameAndType 53 54), (0, u "com/example/skewcube/skewcube/Unscaled"), (0, u "raised"), (0, u "(JI)J"), (0, .long 9223372036854775808), (1, .methodref 58 59), (0, .class_ 60), (0, .nameAndType 61 62), (0, u "java/lang/Math"), (0, u "abs"), (0, u "(J)J"), (2, u "law"), (0, u "(JII)Z")] 3

def k1m0 : Method := { name := "<init>", desc := "()V", sig := { parameters := [], returnType := none }, accessFlags := 2, code := none }
def k1c1 : Code := { maxStack := 5, maxLocals := 2, code := method_2_code, exceptionTable := #[], attributes := #[] }
def k1m1 : Method := { name := "pow", desc := "(I)J", sig := { parameters := [.int], returnType := some .long }, accessFlags := 10, code := some k1c1 }
def k1c2 : Code := { maxStack := 4, maxLocals := 12, code := code, exceptionTable := #[], attributes := #[] }
def k1m2 : Method := { name := "law", desc := "(JII)Z", sig := { parameters := [.long, .int, .int], returnType := some .boolean }, accessFlags := 9, code := some k1c2 }
/-- com/example/skewcube/skewcube/UnscaledRaisedPinLaw -/
def k1 : Class := { plain "com/example/skewcube/skewcube/UnscaledRaisedPinLaw" (some 0) with
  accessFlags := 49
  interfaces := #[]
  cf := some (fileOf pool1 44 #[] #[{ accessFlags := 2, nameIndex := 5, descriptorIndex := 6, attributes := #[] }, { accessFlags := 10, nameIndex := 47, descriptorIndex := 48, attributes := #[] }, { accessFlags := 9, nameIndex := 65, descriptorIndex := 66, attributes := #[] }] 49 2 #[] #[])
  fields := #[]
  methods := #[k1m0, k1m1, k1m2]
  instanceTypes := #[]
  staticTypes := #[]
  resolved := Array.replicate 70 none
  statics := none }

def pool2 : Array CpInfo := pool [(4, .class_ 6), (1, u "java/lang/Object"), (0, u "<init>"), (0, u "()V"), (0, .class_ 10), (0, u "com/example/skewcube/skewcube/Unscaled"), (2, .long 1000000000000000000), (1, .fieldref 9 16), (0, .nameAndType 17 18), (0, u "POWERS_OF_TEN"), (0, u "[J"), (0, .long 9223372036854775808), (3, u "LIMIT"), (0, u "J"), (1, u "NO_FIT"), (5, u "raised"), (0, u "(JI)J")] 3

def k2m0 : Method := { name := "<init>", desc := "()V", sig := { parameters := [], returnType := none }, accessFlags := 2, code := none }
def k2c1 : Code := { maxStack := 4, maxLocals := 5, code := prog_141_method_3_code, exceptionTable := #[], attributes := #[] }
def k2m1 : Method := { name := "raised", desc := "(JI)J", sig := { parameters := [.long, .int], returnType := some .long }, accessFlags := 8, code := some k2c1 }
/-- com/example/skewcube/skewcube/Unscaled -/
def k2 : Class := { plain "com/example/skewcube/skewcube/Unscaled" (some 0) with
  accessFlags := 48
  interfaces := #[]
  cf := some (fileOf pool2 9 #[] #[{ accessFlags := 2, nameIndex := 7, descriptorIndex := 8, attributes := #[] }, { accessFlags := 8, nameIndex := 32, descriptorIndex := 33, attributes := #[] }] 48 4 #[] #[{ accessFlags := 24, nameIndex := 23, descriptorIndex := 24, attributes := #[] }, { accessFlags := 24, nameIndex := 26, descriptorIndex := 24, attributes := #[] }, { accessFlags := 26, nameIndex := 17, descriptorIndex := 18, attributes := #[] }])
  fields := #[{ name := "LIMIT", type := .long, accessFlags := 24, slot := 0, constantValue := 0 }, { name := "NO_FIT", type := .long, accessFlags := 24, slot := 1, constantValue := 0 }, { name := "POWERS_OF_TEN", type := (.array .long), accessFlags := 26, slot := 2, constantValue := 0 }]
  methods := #[k2m0, k2m1]
  instanceTypes := #[]
  staticTypes := #[.long, .long, (.array .long)]
  resolved := Array.replicate 37 none
  statics := some 0 }

def pool3 : Array CpInfo := pool [(1, .class_ 2), (0, u "java/lang/Math"), (1, .class_ 6), (1, u "java/lang/Object"), (0, u "<init>"), (0, u "()V"), (89, .class_ 100), (1, u "java/lang/Math$RandomNumberGeneratorHolder"), (23, u "abs"), (0, u "(J)J"), (46, u "negativeZeroFloatBits"), (0, u "J"), (2, u "negativeZeroDoubleBits"), (68, u "$assertionsDisabled"), (0, u "Z"), (91, u "twoToTheDoubleScaleDown"), (0, u "D"), (4, u "twoToTheDoubleScaleUp"), (9, u "E"), (3, u "PI"), (2, u "TAU"), (2, u "DEGREES_TO_RADIANS"), (0, u "RADIANS_TO_DEGREES")] 94

def k3m0 : Method := { name := "<init>", desc := "()V", sig := { parameters := [], returnType := none }, accessFlags := 2, code := none }
def k3c1 : Code := { maxStack := 4, maxLocals := 2, code := jdk_29_method_61_code, exceptionTable := #[], attributes := #[] }
def k3m1 : Method := { name := "abs", desc := "(J)J", sig := { parameters := [.long], returnType := some .long }, accessFlags := 9, code := some k3c1 }
/-- java/lang/Math -/
def k3 : Class := { plain "java/lang/Math" (some 0) with
  accessFlags := 49
  interfaces := #[]
  cf := some (fileOf pool3 1 #[.nestMembers #[98]] #[{ accessFlags := 2, nameIndex := 7, descriptorIndex := 8, attributes := #[] }, { accessFlags := 9, nameIndex := 124, descriptorIndex := 125, attributes := #[] }] 49 4 #[] #[{ accessFlags := 25, nameIndex := 354, descriptorIndex := 339, attributes := #[] }, { accessFlags := 25, nameIndex := 358, descriptorIndex := 339, attributes := #[] }, { accessFlags := 25, nameIndex := 361, descriptorIndex := 339, attributes := #[] }, { accessFlags := 26, nameIndex := 364, descriptorIndex := 339, attributes := #[] }, { accessFlags := 26, nameIndex := 365, descriptorIndex := 339, attributes := #[] }, { accessFlags := 26, nameIndex := 172, descriptorIndex := 173, attributes := #[] }, { accessFlags := 26, nameIndex := 176, descriptorIndex := 173, attributes := #[] }, { accessFlags := 8, nameIndex := 344, descriptorIndex := 339, attributes := #[] }, { accessFlags := 8, nameIndex := 338, descriptorIndex := 339, attributes := #[] }, { accessFlags := 4120, nameIndex := 245, descriptorIndex := 246, attributes := #[] }])
  fields := #[{ name := "E", type := .double, accessFlags := 25, slot := 0, constantValue := 0 }, { name := "PI", type := .double, accessFlags := 25, slot := 1, constantValue := 0 }, { name := "TAU", type := .double, accessFlags := 25, slot := 2, constantValue := 0 }, { name := "DEGREES_TO_RADIANS", type := .double, accessFlags := 26, slot := 3, constantValue := 0 }, { name := "RADIANS_TO_DEGREES", type := .double, accessFlags := 26, slot := 4, constantValue := 0 }, { name := "negativeZeroFloatBits", type := .long, accessFlags := 26, slot := 5, constantValue := 0 }, { name := "negativeZeroDoubleBits", type := .long, accessFlags := 26, slot := 6, constantValue := 0 }, { name := "twoToTheDoubleScaleUp", type := .double, accessFlags := 8, slot := 7, constantValue := 0 }, { name := "twoToTheDoubleScaleDown", type := .double, accessFlags := 8, slot := 8, constantValue := 0 }, { name := "$assertionsDisabled", type := .boolean, accessFlags := 4120, slot := 9, constantValue := 0 }]
  methods := #[k3m0, k3m1]
  instanceTypes := #[]
  staticTypes := #[.double, .double, .double, .double, .double, .long, .long, .double, .double, .boolean]
  resolved := Array.replicate 460 none
  statics := none }

def pool4 : Array CpInfo := pool [(1, u "java/lang/Cloneable"), (0, .class_ 1), (0, u "java/lang/Object"), (0, .class_ 3)] 3

/-- java/lang/Cloneable -/
def k4 : Class := { plain "java/lang/Cloneable" (some 0) with
  accessFlags := 1537
  interfaces := #[]
  cf := some (fileOf pool4 2 #[] #[] 1537 4 #[] #[])
  fields := #[]
  methods := #[]
  instanceTypes := #[]
  staticTypes := #[]
  resolved := Array.replicate 8 none
  statics := none }

def pool5 : Array CpInfo := pool [(1, u "java/io/Serializable"), (0, .class_ 1), (0, u "java/lang/Object"), (0, .class_ 3)] 3

/-- java/io/Serializable -/
def k5 : Class := { plain "java/io/Serializable" (some 0) with
  accessFlags := 1537
  interfaces := #[]
  cf := some (fileOf pool5 2 #[] #[] 1537 4 #[] #[])
  fields := #[]
  methods := #[]
  instanceTypes := #[]
  staticTypes := #[]
  resolved := Array.replicate 8 none
  statics := none }

/-- the primitive byte -/
def k6 : Class := { plain "byte" none with kind := .primitive 'B', accessFlags := 0x411 }
/-- [B -/
def k7 : Class := { plain "[B" (some 0) with kind := .array 6 .byte, interfaces := #[4, 5], accessFlags := 1041 }

/-- the primitive int -/
def k8 : Class := { plain "int" none with kind := .primitive 'I', accessFlags := 0x411 }
/-- [I -/
def k9 : Class := { plain "[I" (some 0) with kind := .array 8 .int, interfaces := #[4, 5], accessFlags := 1041 }

/-- the primitive long -/
def k10 : Class := { plain "long" none with kind := .primitive 'J', accessFlags := 0x411 }
/-- [J -/
def k11 : Class := { plain "[J" (some 0) with kind := .array 10 .long, interfaces := #[4, 5], accessFlags := 1041 }

def heap : Heap := #[{ cls := 2, slots := #[.long 0, .long 0, .ref 1], vm := .statics 2 },
  { cls := 11, slots := #[.long 1, .long 10, .long 100, .long 1000, .long 10000, .long 100000, .long 1000000, .long 10000000, .long 100000000, .long 1000000000, .long 10000000000, .long 100000000000, .long 1000000000000, .long 10000000000000, .long 100000000000000, .long 1000000000000000, .long 10000000000000000, .long 100000000000000000, .long 1000000000000000000], vm := .none }]
def classes : Array Class := #[k0, k1, k2, k3, k4, k5, k6, k7, k8, k9, k10, k11]
def interned : List (Array UInt16 × Addr) := []
def slotsUsed : Nat := 22
def theMethod : MethodId := ⟨1, 2⟩
def args0 : Array Value := #[.long 5, .int 5, .int 5]
def aboutOver (below : List Frame) : State where
  vm := { classes := classes, interned := interned.toArray }
  heap := heap
  slotsUsed := slotsUsed
  threads := #[{ frames := .invoking theMethod args0 :: below }]
def below0 : List Frame := [.native { method := ⟨0, 0⟩, args := #[] }]
def about1 : State := aboutOver below0
def p0 : Program := .bare "" "" ""
def e0 : Env := launch0.env 0 0 0
theorem w_frames : about1.frames = Frame.invoking theMethod args0 :: below0 := rfl
set_option maxRecDepth 65536 in
theorem w_args : argsFit about1.vm theMethod args0 = true := by decide +kernel
set_option maxRecDepth 65536 in
theorem w_heap : heapFits about1 = true := by decide +kernel
set_option maxRecDepth 65536 in
theorem w_runnable : about1.curStatus? = some .runnable := by decide +kernel
set_option maxRecDepth 65536 in
theorem w_alone : about1.alone = true := by decide +kernel
set_option maxRecDepth 65536 in
theorem w_named : about1.methodNamed? x = some theMethod := by decide +kernel
set_option maxRecDepth 65536 in
theorem w_hears : about1.hears theMethod below0 = true := by decide +kernel
set_option maxRecDepth 65536 in
theorem w_ripe : about1.ripe theMethod args0 below0 = true := by decide +kernel
theorem w_running : about1.status = .running := rfl
set_option maxRecDepth 65536 in
theorem w_room : about1.hasRoom e0.platform room_1 = true :=
  launch0.hasRoom_least _ room_1 (by decide +kernel) (by decide +kernel) (by decide +kernel) (by decide +kernel) (by decide +kernel) (by decide +kernel)
theorem allAtoms_all (ts : List Jvm.Cond) (a : Array Jvm.Value) (st : Jvm.State) : (allAtoms ts).before a st = ts.all (fun c => c.before a st) := by
  induction ts with
  | nil => rfl
  | cons c t ih =>
    show (Jvm.Cond.and c (allAtoms t)).before a st = _
    rw [Jvm.Cond.before_and, ih, List.all_cons]
def words1 : List Jvm.Cond := Jvm.Cond.code x code maxLocals ret :: tables_1
/-- a 'code' word, met by the world's own term for the bytes: nothing is compared byte by byte -/
theorem code_word {y : MethodName} {bytes : ByteArray} {mx : Nat} {rt : Option FieldType} {a : Array Value} {s : State} {m : MethodId} {meth : Method} {c : Code} (h1 : s.methodNamed? y = some m) (h2 : s.vm.method? m = some meth) (h3 : meth.code = some c) (h4 : c.code = bytes)
    (h5 : (c.maxLocals == mx && c.exceptionTable.isEmpty && decide (c.maxStack ≤ mostOperands) && decide (meth.sig.returnType = rt) && !meth.locks && decide (parseMethodDescriptor y.desc = some meth.sig)) = true) : (Jvm.Cond.code y bytes mx rt).before a s = true := by
  simp only [Bool.and_eq_true, beq_iff_eq, Bool.not_eq_true', decide_eq_true_eq] at h5
  obtain ⟨⟨⟨⟨⟨g1, g2⟩, g3⟩, g4⟩, g5⟩, g6⟩ := h5
  simp [Cond.before, Cond.holds, Cond.value, h1, h2, h3, h4, g1, g2, g3, g4, g5, g6]
def isCode : Jvm.Cond → Bool
  | .code _ _ _ _ => true
  | _ => false
theorem all_split {L : List Jvm.Cond} {P : Jvm.Cond → Bool} (h1 : L.all (fun c => isCode c || P c) = true) (h2 : ∀ c ∈ L.filter isCode, P c = true) : L.all P = true := by
  refine List.all_eq_true.mpr fun c hc => ?_
  have h := List.all_eq_true.mp h1 c hc
  rcases Bool.eq_false_or_eq_true (isCode c) with hi | hi
  · exact h2 c (List.mem_filter.mpr ⟨hc, hi⟩)
  · simpa [hi] using h
set_option maxRecDepth 65536 in
theorem w_c0 : (Jvm.Cond.code x code maxLocals ret).before args0 about1 = true := code_word (m := ⟨1, 2⟩) (meth := k1m2) (c := k1c2) (by decide +kernel) rfl rfl rfl (by decide +kernel)
set_option maxRecDepth 65536 in
theorem w_c1 : (Jvm.Cond.code ({ cls := "com/example/skewcube/skewcube/UnscaledRaisedPinLaw", name := "pow", desc := "(I)J" } : Jvm.MethodName) method_2_code (2 : Nat) (Option.some Jvm.ClassFile.FieldType.long)).before args0 about1 = true := code_word (m := ⟨1, 1⟩) (meth := k1m1) (c := k1c1) (by decide +kernel) rfl rfl rfl (by decide +kernel)
set_option maxRecDepth 65536 in
theorem w_c2 : (Jvm.Cond.code ({ cls := "com/example/skewcube/skewcube/Unscaled", name := "raised", desc := "(JI)J" } : Jvm.MethodName) prog_141_method_3_code (5 : Nat) (Option.some Jvm.ClassFile.FieldType.long)).before args0 about1 = true := code_word (m := ⟨2, 1⟩) (meth := k2m1) (c := k2c1) (by decide +kernel) rfl rfl rfl (by decide +kernel)
set_option maxRecDepth 65536 in
theorem w_c3 : (Jvm.Cond.code ({ cls := "java/lang/Math", name := "abs", desc := "(J)J" } : Jvm.MethodName) jdk_29_method_61_code (2 : Nat) (Option.some Jvm.ClassFile.FieldType.long)).before args0 about1 = true := code_word (m := ⟨3, 1⟩) (meth := k3m1) (c := k3c1) (by decide +kernel) rfl rfl rfl (by decide +kernel)
def codes1 : List Jvm.Cond := [Jvm.Cond.code x code maxLocals ret, Jvm.Cond.code ({ cls := "com/example/skewcube/skewcube/UnscaledRaisedPinLaw", name := "pow", desc := "(I)J" } : Jvm.MethodName) method_2_code (2 : Nat) (Option.some Jvm.ClassFile.FieldType.long), Jvm.Cond.code ({ cls := "com/example/skewcube/skewcube/Unscaled", name := "raised", desc := "(JI)J" } : Jvm.MethodName) prog_141_method_3_code (5 : Nat) (Option.some Jvm.ClassFile.FieldType.long), Jvm.Cond.code ({ cls := "java/lang/Math", name := "abs", desc := "(J)J" } : Jvm.MethodName) jdk_29_method_61_code (2 : Nat) (Option.some Jvm.ClassFile.FieldType.long)]
set_option maxRecDepth 65536 in
theorem codes_eq : words1.filter isCode = codes1 := rfl
theorem w_codes : ∀ c ∈ words1.filter isCode, c.before args0 about1 = true := by
  rw [codes_eq]
  intro c hc
  simp only [codes1, List.mem_cons, List.not_mem_nil, or_false] at hc
  rcases hc with rfl | rfl | rfl | rfl
  · exact w_c0
  · exact w_c1
  · exact w_c2
  · exact w_c3
set_option maxRecDepth 65536 in
theorem w_t1 : (words1.take 24).all (fun c => isCode c || c.before args0 about1) = true := by decide +kernel
set_option maxRecDepth 65536 in
theorem w_t2 : (words1.drop 24).all (fun c => isCode c || c.before args0 about1) = true := by decide +kernel
theorem w_tables : (allAtoms (Jvm.Cond.code x code maxLocals ret :: tables_1)).before args0 about1 = true := by
  rw [allAtoms_all]
  show words1.all (fun c => c.before args0 about1) = true
  refine all_split ?_ w_codes
  rw [← List.take_append_drop 24 words1, List.all_append, w_t1, w_t2]
  rfl
set_option maxRecDepth 65536 in
theorem w_case : (Jvm.Cond.and given_1 narrow_1).before args0 about1 = true := by decide +kernel
theorem w_applies : (headSpec (Jvm.Cond.code x code maxLocals ret :: tables_1) room_1).applies x e0.platform about1 = true :=
  (Spec.applies_iff w_frames).mpr ⟨w_running, w_runnable, w_alone, w_named, w_hears, w_ripe, w_room, w_tables⟩
theorem atStart : AtStart classFile x code maxLocals ret World_1 tables_1 room_1 Calls_1 rest_1 Pre_1 launch0 p0 e0 about1 theMethod args0 below0 :=
  ⟨lists_1, trivial, launch0.admits_env _ _ _, launch0.least_env, fairChoices_fair.cas, fairChoices_fair.clock, w_frames, w_args, w_heap, w_applies, trivial, trivial, w_case⟩
end start1
theorem witness_1 : WitnessClaimed_1 := ⟨start1.p0, start1.e0, start1.about1, start1.theMethod, start1.args0, start1.below0, start1.atStart⟩
end Jvm.Pilot.@@N@@
