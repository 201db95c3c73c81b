import JvmDerived
import JvmDerived.Pilot.@@N@@Statement
import JvmDerived.Pilot.@@N@@Code
set_option linter.unusedVariables false
set_option linter.unusedSimpArgs false
namespace Jvm.RoadKit
open Sem ClassFile Op Lib Jvm.Stand Jvm.Free Jvm.LawKit
section New
variable {p : Program} {l : Launch} {e : Env} {R : Room} {s : State} {m : MethodId} {args : Array Value} {below : List Frame} {meth : Method} {c : Code} {T : State} {locs : List Loc} {cells slots : Nat}
theorem retI (X : Stand p l e R s m args below meth c T locs cells slots) (hx : p.tables.exec = Jvm.exec) {pc : Nat} {Ls : Array Slot} {z : Int32} {rest : List Value} (hret : meth.sig.returnType = some .int) (hd : decode c.code pc = .ok (.ireturn, 1)) {fs : List Frame}
    (hl : ∀ (f : JFrame) (acts : List Action), f.method = m → f.locked = none → f.entered = [] → (doReturn e (T.setTop f) acts (some (.int z))).1 = T.setFrames fs) : Steps p.tables e below (T.setTop (mkF m pc Ls (.int z :: rest))) (T.setFrames fs) := by
  have hm' : T.vm.method? m = some meth := X.method'
  have hn : narrow .int (.int z) = .int z := rfl
  show Steps p.tables e below (T.setTop { method := m, pc := pc, locals := Ls, stack := _ :: rest, locked := none }) _
  jvm_step X.here [X.here.top, hx, hd, hm', hret, hn]
  first | (intro acts; rw [hl _ acts rfl rfl rfl]) | rw [hl _ _ rfl rfl rfl]
  exact Steps.refl _
end New
end Jvm.RoadKit
namespace Jvm.Pilot.@@N@@
open Jvm Jvm.ClassFile Sem Op Lib Jvm.Free Jvm.Stand Jvm.LawKit Jvm.RoadKit Bundle Jvm.Pilot.@@N@@.Jvm.D
section Own
variable {p : Program} {l : Launch} {e : Env} {R : Room} {s : State} {m : MethodId} {args : Array Value} {below : List Frame} {meth : Method} {c : Code} {T T' : State} {locs : List Loc} {cells slots : Nat} {Q : Option Value → Heap → List Loc → Prop} {kc ks : Nat} {pc pc' : Nat} {ls : Array Slot} {st : List Value}
/-- from T with the frame g on top the run comes to its end, as Q asks -/
def own_Ends (p : Program) (e : Env) (below : List Frame) (s : State) (Q : Option Value → Heap → List Loc → Prop) (kc ks : Nat) (T : State) (g : JFrame) : Prop :=
  ∃ s₂ o, Steps p.tables e below (T.setTop g) s₂ ∧ s₂.status = .running ∧ Ended s₂ below o ∧ ∃ v L, o = .returned v ∧ Q v s₂.heap L ∧ FrameEnd s o s₂ L kc ks
theorem own_go {g g' : JFrame} (h : ∀ t, Steps p.tables e below (T'.setTop g') t → Steps p.tables e below (T.setTop g) t) (K : own_Ends p e below s Q kc ks T' g') : own_Ends p e below s Q kc ks T g := by
  obtain ⟨s2, o, h1, r⟩ := K
  exact ⟨s2, o, h _ h1, r⟩
theorem own_cast {g g' : JFrame} (q : g = g') (K : own_Ends p e below s Q kc ks T g') : own_Ends p e below s Q kc ks T g := q ▸ K
theorem own_leave {v : Option Value} {g : JFrame} (X : Stand p l e R s m args below meth c T locs cells slots) (hlk : meth.locks = false) (hv : meth.sig.returnType = none → v = none)
    (hs : ∀ fs, (∀ (f : JFrame) (acts : List Action), f.method = m → f.locked = none → f.entered = [] → (doReturn e (T.setTop f) acts v).1 = T.setFrames fs) → Steps p.tables e below (T.setTop g) (T.setFrames fs)) (hc : cells ≤ kc) (hn : slots ≤ ks) (hQ : Q v T.heap locs) : own_Ends p e below s Q kc ks T g := by
  obtain ⟨fs, hr, hrun, hended, hW, hsame⟩ := X.leave (v := v) hv hlk
  exact ⟨_, _, hs fs hr, hrun, hended, _, _, rfl, hQ, ⟨_, rfl⟩, hW, hsame.mono hc hn⟩
theorem own_retI (X : Stand p l e R s m args below meth c T locs cells slots) (hx : p.tables.exec = Jvm.exec) (hlk : meth.locks = false) {z : Int32} (hret : meth.sig.returnType = some .int) (hd : decode c.code pc = .ok (.ireturn, 1)) (hc : cells ≤ kc) (hn : slots ≤ ks) (hQ : Q (some (.int z)) T.heap locs) : own_Ends p e below s Q kc ks T (mkF m pc ls (.int z :: st)) :=
  own_leave X hlk (fun h => by rw [hret] at h; cases h) (fun fs hr => retI X hx hret hd hr) hc hn hQ
theorem own_retN (X : Stand p l e R s m args below meth c T locs cells slots) (hx : p.tables.exec = Jvm.exec) (hlk : meth.locks = false) {z : Int32} {ty : FieldType} (hret : meth.sig.returnType = some ty) (ht : ty = .boolean ∨ ty = .byte ∨ ty = .char ∨ ty = .short) (hd : decode c.code pc = .ok (.ireturn, 1)) (hc : cells ≤ kc) (hn : slots ≤ ks) (hQ : Q (some (.int (nar ty z))) T.heap locs) : own_Ends p e below s Q kc ks T (mkF m pc ls (.int z :: st)) :=
  own_leave X hlk (fun h => by rw [hret] at h; cases h) (fun fs hr => retN X hx (t := ty) hret ht hd hr) hc hn hQ
theorem own_retL (X : Stand p l e R s m args below meth c T locs cells slots) (hx : p.tables.exec = Jvm.exec) (hlk : meth.locks = false) {z : Int64} (hret : meth.sig.returnType = some .long) (hd : decode c.code pc = .ok (.lreturn, 1)) (hc : cells ≤ kc) (hn : slots ≤ ks) (hQ : Q (some (.long z)) T.heap locs) : own_Ends p e below s Q kc ks T (mkF m pc ls [.long z]) :=
  own_leave X hlk (fun h => by rw [hret] at h; cases h) (fun fs hr => retOut X hx (t := .long) hret rfl (Or.inr (Or.inl ⟨rfl, rfl, _, rfl⟩)) hd hr) hc hn hQ
theorem own_retD (X : Stand p l e R s m args below meth c T locs cells slots) (hx : p.tables.exec = Jvm.exec) (hlk : meth.locks = false) {z : UInt64} (hret : meth.sig.returnType = some .double) (hd : decode c.code pc = .ok (.dreturn, 1)) (hc : cells ≤ kc) (hn : slots ≤ ks) (hQ : Q (some (.double z)) T.heap locs) : own_Ends p e below s Q kc ks T (mkF m pc ls [.double z]) :=
  own_leave X hlk (fun h => by rw [hret] at h; cases h) (fun fs hr => retOut X hx (t := .double) hret rfl (Or.inr (Or.inr (Or.inl ⟨rfl, rfl, _, rfl⟩))) hd hr) hc hn hQ
theorem own_retA (X : Stand p l e R s m args below meth c T locs cells slots) (hx : p.tables.exec = Jvm.exec) (hlk : meth.locks = false) {w : Value} {ty : FieldType} (hret : meth.sig.returnType = some ty) (ht : ty.isReference = true) (hw : w.isRef = true) (hn1 : narrow ty w = w) (hd : decode c.code pc = .ok (.areturn, 1)) (hc : cells ≤ kc) (hn : slots ≤ ks) (hQ : Q (some w) T.heap locs) : own_Ends p e below s Q kc ks T (mkF m pc ls (w :: st)) :=
  own_leave X hlk (fun h => by rw [hret] at h; cases h) (fun fs hr => retOut X hx (t := ty) hret hn1 (Or.inr (Or.inr (Or.inr (Or.inr ⟨rfl, ht, hw⟩)))) hd hr) hc hn hQ
theorem own_retV (X : Stand p l e R s m args below meth c T locs cells slots) (hx : p.tables.exec = Jvm.exec) (hlk : meth.locks = false) (hret : meth.sig.returnType = none) (hd : decode c.code pc = .ok (.return_, 1)) (hc : cells ≤ kc) (hn : slots ≤ ks) (hQ : Q none T.heap locs) : own_Ends p e below s Q kc ks T (mkF m pc ls []) :=
  own_leave X hlk (fun _ => rfl) (fun fs hr => X.returnOut hx hret hd hr) hc hn hQ
theorem own_iloadN (X : Stand p l e R s m args below meth c T locs cells slots) (hx : p.tables.exec = Jvm.exec) {k : Fin 4} {v : Int32} (hd : decode c.code pc = .ok (.iload_n k, 1)) (hp : pc + 1 = pc') (hl : ls[k.val]? = some (.val (.int v))) (K : own_Ends p e below s Q kc ks T (mkF m pc' ls (.int v :: st))) : own_Ends p e below s Q kc ks T (mkF m pc ls st) := by
  subst hp
  exact own_go (fun t k => XS.iloadN X.here hx rfl hd hl k) K
theorem own_iload (X : Stand p l e R s m args below meth c T locs cells slots) (hx : p.tables.exec = Jvm.exec) {k : Nat} {v : Int32} (hd : decode c.code pc = .ok (.iload k, 2)) (hp : pc + 2 = pc') (hl : ls[k]? = some (.val (.int v))) (K : own_Ends p e below s Q kc ks T (mkF m pc' ls (.int v :: st))) : own_Ends p e below s Q kc ks T (mkF m pc ls st) := by
  subst hp
  exact own_go (fun t k => XS.iload X.here hx rfl hd hl k) K
theorem own_istoreN (X : Stand p l e R s m args below meth c T locs cells slots) (hx : p.tables.exec = Jvm.exec) {k : Fin 4} {v : Int32} {l' : Array Slot} (hd : decode c.code pc = .ok (.istore_n k, 1)) (hp : pc + 1 = pc') (hl : storeLocals ls k.val (.int v) = some l') (K : own_Ends p e below s Q kc ks T (mkF m pc' l' st)) : own_Ends p e below s Q kc ks T (mkF m pc ls (.int v :: st)) := by
  subst hp
  exact own_go (fun t k => XS.istoreN X.here hx rfl hd rfl hl k) K
theorem own_istore (X : Stand p l e R s m args below meth c T locs cells slots) (hx : p.tables.exec = Jvm.exec) {k : Nat} {v : Int32} {l' : Array Slot} (hd : decode c.code pc = .ok (.istore k, 2)) (hp : pc + 2 = pc') (hl : storeLocals ls k (.int v) = some l') (K : own_Ends p e below s Q kc ks T (mkF m pc' l' st)) : own_Ends p e below s Q kc ks T (mkF m pc ls (.int v :: st)) := by
  subst hp
  exact own_go (fun t k => XS.istore X.here hx rfl hd rfl hl k) K
theorem own_lloadN (X : Stand p l e R s m args below meth c T locs cells slots) (hx : p.tables.exec = Jvm.exec) {k : Fin 4} {v : Int64} (hd : decode c.code pc = .ok (.lload_n k, 1)) (hp : pc + 1 = pc') (hl : ls[k.val]? = some (.val (.long v))) (K : own_Ends p e below s Q kc ks T (mkF m pc' ls (.long v :: st))) : own_Ends p e below s Q kc ks T (mkF m pc ls st) := by
  subst hp
  exact own_go (fun t k => XS.lloadN X.here hx rfl hd hl k) K
theorem own_lload (X : Stand p l e R s m args below meth c T locs cells slots) (hx : p.tables.exec = Jvm.exec) {k : Nat} {v : Int64} (hd : decode c.code pc = .ok (.lload k, 2)) (hp : pc + 2 = pc') (hl : ls[k]? = some (.val (.long v))) (K : own_Ends p e below s Q kc ks T (mkF m pc' ls (.long v :: st))) : own_Ends p e below s Q kc ks T (mkF m pc ls st) := by
  subst hp
  exact own_go (fun t k => XS.lload X.here hx rfl hd hl k) K
theorem own_lstoreN (X : Stand p l e R s m args below meth c T locs cells slots) (hx : p.tables.exec = Jvm.exec) {k : Fin 4} {v : Int64} {l' : Array Slot} (hd : decode c.code pc = .ok (.lstore_n k, 1)) (hp : pc + 1 = pc') (hl : storeLocals ls k.val (.long v) = some l') (K : own_Ends p e below s Q kc ks T (mkF m pc' l' st)) : own_Ends p e below s Q kc ks T (mkF m pc ls (.long v :: st)) := by
  subst hp
  exact own_go (fun t k => XS.lstoreN X.here hx rfl hd rfl hl k) K
theorem own_lstore (X : Stand p l e R s m args below meth c T locs cells slots) (hx : p.tables.exec = Jvm.exec) {k : Nat} {v : Int64} {l' : Array Slot} (hd : decode c.code pc = .ok (.lstore k, 2)) (hp : pc + 2 = pc') (hl : storeLocals ls k (.long v) = some l') (K : own_Ends p e below s Q kc ks T (mkF m pc' l' st)) : own_Ends p e below s Q kc ks T (mkF m pc ls (.long v :: st)) := by
  subst hp
  exact own_go (fun t k => XS.lstore X.here hx rfl hd rfl hl k) K
theorem own_dloadN (X : Stand p l e R s m args below meth c T locs cells slots) (hx : p.tables.exec = Jvm.exec) {k : Fin 4} {v : UInt64} (hd : decode c.code pc = .ok (.dload_n k, 1)) (hp : pc + 1 = pc') (hl : ls[k.val]? = some (.val (.double v))) (K : own_Ends p e below s Q kc ks T (mkF m pc' ls (.double v :: st))) : own_Ends p e below s Q kc ks T (mkF m pc ls st) := by
  subst hp
  exact own_go (fun t k => XS.dloadN X.here hx rfl hd hl k) K
theorem own_dload (X : Stand p l e R s m args below meth c T locs cells slots) (hx : p.tables.exec = Jvm.exec) {k : Nat} {v : UInt64} (hd : decode c.code pc = .ok (.dload k, 2)) (hp : pc + 2 = pc') (hl : ls[k]? = some (.val (.double v))) (K : own_Ends p e below s Q kc ks T (mkF m pc' ls (.double v :: st))) : own_Ends p e below s Q kc ks T (mkF m pc ls st) := by
  subst hp
  exact own_go (fun t k => XS.dload X.here hx rfl hd hl k) K
theorem own_dstoreN (X : Stand p l e R s m args below meth c T locs cells slots) (hx : p.tables.exec = Jvm.exec) {k : Fin 4} {v : UInt64} {l' : Array Slot} (hd : decode c.code pc = .ok (.dstore_n k, 1)) (hp : pc + 1 = pc') (hl : storeLocals ls k.val (.double v) = some l') (K : own_Ends p e below s Q kc ks T (mkF m pc' l' st)) : own_Ends p e below s Q kc ks T (mkF m pc ls (.double v :: st)) := by
  subst hp
  exact own_go (fun t k => XS.dstoreN X.here hx rfl hd rfl hl k) K
theorem own_dstore (X : Stand p l e R s m args below meth c T locs cells slots) (hx : p.tables.exec = Jvm.exec) {k : Nat} {v : UInt64} {l' : Array Slot} (hd : decode c.code pc = .ok (.dstore k, 2)) (hp : pc + 2 = pc') (hl : storeLocals ls k (.double v) = some l') (K : own_Ends p e below s Q kc ks T (mkF m pc' l' st)) : own_Ends p e below s Q kc ks T (mkF m pc ls (.double v :: st)) := by
  subst hp
  exact own_go (fun t k => XS.dstore X.here hx rfl hd rfl hl k) K
theorem own_aloadN (X : Stand p l e R s m args below meth c T locs cells slots) (hx : p.tables.exec = Jvm.exec) {k : Fin 4} {v : Value} (hd : decode c.code pc = .ok (.aload_n k, 1)) (hp : pc + 1 = pc') (hl : ls[k.val]? = some (.val v)) (hv : v.isRef = true) (K : own_Ends p e below s Q kc ks T (mkF m pc' ls (v :: st))) : own_Ends p e below s Q kc ks T (mkF m pc ls st) := by
  subst hp
  exact own_go (fun t k => XS.aloadN X.here hx rfl hd hl hv k) K
theorem own_aload (X : Stand p l e R s m args below meth c T locs cells slots) (hx : p.tables.exec = Jvm.exec) {k : Nat} {v : Value} (hd : decode c.code pc = .ok (.aload k, 2)) (hp : pc + 2 = pc') (hl : ls[k]? = some (.val v)) (hv : v.isRef = true) (K : own_Ends p e below s Q kc ks T (mkF m pc' ls (v :: st))) : own_Ends p e below s Q kc ks T (mkF m pc ls st) := by
  subst hp
  exact own_go (fun t k => XS.aload X.here hx rfl hd hl hv k) K
theorem own_astoreN (X : Stand p l e R s m args below meth c T locs cells slots) (hx : p.tables.exec = Jvm.exec) {k : Fin 4} {v : Value} {l' : Array Slot} (hd : decode c.code pc = .ok (.astore_n k, 1)) (hp : pc + 1 = pc') (hv : v.isRef = true) (hl : storeLocals ls k.val v = some l') (K : own_Ends p e below s Q kc ks T (mkF m pc' l' st)) : own_Ends p e below s Q kc ks T (mkF m pc ls (v :: st)) := by
  subst hp
  exact own_go (fun t k => XS.astoreN X.here hx rfl hd rfl hv hl k) K
theorem own_astore (X : Stand p l e R s m args below meth c T locs cells slots) (hx : p.tables.exec = Jvm.exec) {k : Nat} {v : Value} {l' : Array Slot} (hd : decode c.code pc = .ok (.astore k, 2)) (hp : pc + 2 = pc') (hv : v.isRef = true) (hl : storeLocals ls k v = some l') (K : own_Ends p e below s Q kc ks T (mkF m pc' l' st)) : own_Ends p e below s Q kc ks T (mkF m pc ls (v :: st)) := by
  subst hp
  exact own_go (fun t k => XS.astore X.here hx rfl hd rfl hv hl k) K
theorem own_iconst (X : Stand p l e R s m args below meth c T locs cells slots) (hx : p.tables.exec = Jvm.exec) {i : Int} {z : Int32} (hd : decode c.code pc = .ok (.iconst i, 1)) (hp : pc + 1 = pc') (hz : Int32.ofInt i = z) (K : own_Ends p e below s Q kc ks T (mkF m pc' ls (.int z :: st))) : own_Ends p e below s Q kc ks T (mkF m pc ls st) := by
  subst hp hz
  exact own_go (fun t k => XS.iconst X.here hx rfl hd k) K
theorem own_bipush (X : Stand p l e R s m args below meth c T locs cells slots) (hx : p.tables.exec = Jvm.exec) {i : Int} {z : Int32} (hd : decode c.code pc = .ok (.bipush i, 2)) (hp : pc + 2 = pc') (hz : (Int8.ofInt i).toInt32 = z) (K : own_Ends p e below s Q kc ks T (mkF m pc' ls (.int z :: st))) : own_Ends p e below s Q kc ks T (mkF m pc ls st) := by
  subst hp hz
  exact own_go (fun t k => XS.bipush X.here hx rfl hd k) K
theorem own_sipush (X : Stand p l e R s m args below meth c T locs cells slots) (hx : p.tables.exec = Jvm.exec) {i : Int} {z : Int32} (hd : decode c.code pc = .ok (.sipush i, 3)) (hp : pc + 3 = pc') (hz : (Int16.ofInt i).toInt32 = z) (K : own_Ends p e below s Q kc ks T (mkF m pc' ls (.int z :: st))) : own_Ends p e below s Q kc ks T (mkF m pc ls st) := by
  subst hp hz
  exact own_go (fun t k => XS.sipush X.here hx rfl hd k) K
theorem own_lconst (X : Stand p l e R s m args below meth c T locs cells slots) (hx : p.tables.exec = Jvm.exec) {k : Fin 2} {z : Int64} (hd : decode c.code pc = .ok (.lconst k, 1)) (hp : pc + 1 = pc') (hz : Int64.ofNat k = z) (K : own_Ends p e below s Q kc ks T (mkF m pc' ls (.long z :: st))) : own_Ends p e below s Q kc ks T (mkF m pc ls st) := by
  subst hp hz
  exact own_go (fun t k => XS.lconst X.here hx rfl hd k) K
theorem own_anull (X : Stand p l e R s m args below meth c T locs cells slots) (hx : p.tables.exec = Jvm.exec) (hd : decode c.code pc = .ok (.aconst_null, 1)) (hp : pc + 1 = pc')  (K : own_Ends p e below s Q kc ks T (mkF m pc' ls (.null :: st))) : own_Ends p e below s Q kc ks T (mkF m pc ls st) := by
  subst hp
  exact own_go (fun t k => XS.aconstNull X.here hx rfl hd k) K
theorem own_iadd (X : Stand p l e R s m args below meth c T locs cells slots) (hx : p.tables.exec = Jvm.exec) {x y z : Int32} (hd : decode c.code pc = .ok (.iadd, 1)) (hp : pc + 1 = pc') (hz : x + y = z) (K : own_Ends p e below s Q kc ks T (mkF m pc' ls (.int z :: st))) : own_Ends p e below s Q kc ks T (mkF m pc ls (.int y :: .int x :: st)) := by
  subst hp hz
  exact own_go (fun t k => XS.iadd X.here hx rfl hd rfl k) K
theorem own_ladd (X : Stand p l e R s m args below meth c T locs cells slots) (hx : p.tables.exec = Jvm.exec) {x y z : Int64} (hd : decode c.code pc = .ok (.ladd, 1)) (hp : pc + 1 = pc') (hz : x + y = z) (K : own_Ends p e below s Q kc ks T (mkF m pc' ls (.long z :: st))) : own_Ends p e below s Q kc ks T (mkF m pc ls (.long y :: .long x :: st)) := by
  subst hp hz
  exact own_go (fun t k => XS.ladd X.here hx rfl hd rfl k) K
theorem own_isub (X : Stand p l e R s m args below meth c T locs cells slots) (hx : p.tables.exec = Jvm.exec) {x y z : Int32} (hd : decode c.code pc = .ok (.isub, 1)) (hp : pc + 1 = pc') (hz : x - y = z) (K : own_Ends p e below s Q kc ks T (mkF m pc' ls (.int z :: st))) : own_Ends p e below s Q kc ks T (mkF m pc ls (.int y :: .int x :: st)) := by
  subst hp hz
  exact own_go (fun t k => XS.isub X.here hx rfl hd rfl k) K
theorem own_lsub (X : Stand p l e R s m args below meth c T locs cells slots) (hx : p.tables.exec = Jvm.exec) {x y z : Int64} (hd : decode c.code pc = .ok (.lsub, 1)) (hp : pc + 1 = pc') (hz : x - y = z) (K : own_Ends p e below s Q kc ks T (mkF m pc' ls (.long z :: st))) : own_Ends p e below s Q kc ks T (mkF m pc ls (.long y :: .long x :: st)) := by
  subst hp hz
  exact own_go (fun t k => XS.lsub X.here hx rfl hd rfl k) K
theorem own_imul (X : Stand p l e R s m args below meth c T locs cells slots) (hx : p.tables.exec = Jvm.exec) {x y z : Int32} (hd : decode c.code pc = .ok (.imul, 1)) (hp : pc + 1 = pc') (hz : x * y = z) (K : own_Ends p e below s Q kc ks T (mkF m pc' ls (.int z :: st))) : own_Ends p e below s Q kc ks T (mkF m pc ls (.int y :: .int x :: st)) := by
  subst hp hz
  exact own_go (fun t k => XS.imul X.here hx rfl hd rfl k) K
theorem own_lmul (X : Stand p l e R s m args below meth c T locs cells slots) (hx : p.tables.exec = Jvm.exec) {x y z : Int64} (hd : decode c.code pc = .ok (.lmul, 1)) (hp : pc + 1 = pc') (hz : x * y = z) (K : own_Ends p e below s Q kc ks T (mkF m pc' ls (.long z :: st))) : own_Ends p e below s Q kc ks T (mkF m pc ls (.long y :: .long x :: st)) := by
  subst hp hz
  exact own_go (fun t k => XS.lmul X.here hx rfl hd rfl k) K
theorem own_iand (X : Stand p l e R s m args below meth c T locs cells slots) (hx : p.tables.exec = Jvm.exec) {x y z : Int32} (hd : decode c.code pc = .ok (.iand, 1)) (hp : pc + 1 = pc') (hz : x &&& y = z) (K : own_Ends p e below s Q kc ks T (mkF m pc' ls (.int z :: st))) : own_Ends p e below s Q kc ks T (mkF m pc ls (.int y :: .int x :: st)) := by
  subst hp hz
  exact own_go (fun t k => XS.iand X.here hx rfl hd rfl k) K
theorem own_land (X : Stand p l e R s m args below meth c T locs cells slots) (hx : p.tables.exec = Jvm.exec) {x y z : Int64} (hd : decode c.code pc = .ok (.land, 1)) (hp : pc + 1 = pc') (hz : x &&& y = z) (K : own_Ends p e below s Q kc ks T (mkF m pc' ls (.long z :: st))) : own_Ends p e below s Q kc ks T (mkF m pc ls (.long y :: .long x :: st)) := by
  subst hp hz
  exact own_go (fun t k => XS.land X.here hx rfl hd rfl k) K
theorem own_ior (X : Stand p l e R s m args below meth c T locs cells slots) (hx : p.tables.exec = Jvm.exec) {x y z : Int32} (hd : decode c.code pc = .ok (.ior, 1)) (hp : pc + 1 = pc') (hz : x ||| y = z) (K : own_Ends p e below s Q kc ks T (mkF m pc' ls (.int z :: st))) : own_Ends p e below s Q kc ks T (mkF m pc ls (.int y :: .int x :: st)) := by
  subst hp hz
  exact own_go (fun t k => XS.ior X.here hx rfl hd rfl k) K
theorem own_lor (X : Stand p l e R s m args below meth c T locs cells slots) (hx : p.tables.exec = Jvm.exec) {x y z : Int64} (hd : decode c.code pc = .ok (.lor, 1)) (hp : pc + 1 = pc') (hz : x ||| y = z) (K : own_Ends p e below s Q kc ks T (mkF m pc' ls (.long z :: st))) : own_Ends p e below s Q kc ks T (mkF m pc ls (.long y :: .long x :: st)) := by
  subst hp hz
  exact own_go (fun t k => XS.lor X.here hx rfl hd rfl k) K
theorem own_ixor (X : Stand p l e R s m args below meth c T locs cells slots) (hx : p.tables.exec = Jvm.exec) {x y z : Int32} (hd : decode c.code pc = .ok (.ixor, 1)) (hp : pc + 1 = pc') (hz : x ^^^ y = z) (K : own_Ends p e below s Q kc ks T (mkF m pc' ls (.int z :: st))) : own_Ends p e below s Q kc ks T (mkF m pc ls (.int y :: .int x :: st)) := by
  subst hp hz
  exact own_go (fun t k => XS.ixor X.here hx rfl hd rfl k) K
theorem own_lxor (X : Stand p l e R s m args below meth c T locs cells slots) (hx : p.tables.exec = Jvm.exec) {x y z : Int64} (hd : decode c.code pc = .ok (.lxor, 1)) (hp : pc + 1 = pc') (hz : x ^^^ y = z) (K : own_Ends p e below s Q kc ks T (mkF m pc' ls (.long z :: st))) : own_Ends p e below s Q kc ks T (mkF m pc ls (.long y :: .long x :: st)) := by
  subst hp hz
  exact own_go (fun t k => XS.lxor X.here hx rfl hd rfl k) K
theorem own_ishl (X : Stand p l e R s m args below meth c T locs cells slots) (hx : p.tables.exec = Jvm.exec) {x y z : Int32} (hd : decode c.code pc = .ok (.ishl, 1)) (hp : pc + 1 = pc') (hz : x <<< (y &&& 31) = z) (K : own_Ends p e below s Q kc ks T (mkF m pc' ls (.int z :: st))) : own_Ends p e below s Q kc ks T (mkF m pc ls (.int y :: .int x :: st)) := by
  subst hp hz
  exact own_go (fun t k => XS.ishl X.here hx rfl hd rfl k) K
theorem own_ishr (X : Stand p l e R s m args below meth c T locs cells slots) (hx : p.tables.exec = Jvm.exec) {x y z : Int32} (hd : decode c.code pc = .ok (.ishr, 1)) (hp : pc + 1 = pc') (hz : x >>> (y &&& 31) = z) (K : own_Ends p e below s Q kc ks T (mkF m pc' ls (.int z :: st))) : own_Ends p e below s Q kc ks T (mkF m pc ls (.int y :: .int x :: st)) := by
  subst hp hz
  exact own_go (fun t k => XS.ishr X.here hx rfl hd rfl k) K
theorem own_iushr (X : Stand p l e R s m args below meth c T locs cells slots) (hx : p.tables.exec = Jvm.exec) {x y z : Int32} (hd : decode c.code pc = .ok (.iushr, 1)) (hp : pc + 1 = pc') (hz : (x.toUInt32 >>> (y &&& 31).toUInt32).toInt32 = z) (K : own_Ends p e below s Q kc ks T (mkF m pc' ls (.int z :: st))) : own_Ends p e below s Q kc ks T (mkF m pc ls (.int y :: .int x :: st)) := by
  subst hp hz
  exact own_go (fun t k => XS.iushr X.here hx rfl hd rfl k) K
theorem own_lshl (X : Stand p l e R s m args below meth c T locs cells slots) (hx : p.tables.exec = Jvm.exec) {x z : Int64} {y : Int32} (hd : decode c.code pc = .ok (.lshl, 1)) (hp : pc + 1 = pc') (hz : x <<< (y &&& 0x3f).toInt64 = z) (K : own_Ends p e below s Q kc ks T (mkF m pc' ls (.long z :: st))) : own_Ends p e below s Q kc ks T (mkF m pc ls (.int y :: .long x :: st)) := by
  subst hp hz
  exact own_go (fun t k => XS.lshl X.here hx rfl hd rfl k) K
theorem own_lshr (X : Stand p l e R s m args below meth c T locs cells slots) (hx : p.tables.exec = Jvm.exec) {x z : Int64} {y : Int32} (hd : decode c.code pc = .ok (.lshr, 1)) (hp : pc + 1 = pc') (hz : x >>> (y &&& 0x3f).toInt64 = z) (K : own_Ends p e below s Q kc ks T (mkF m pc' ls (.long z :: st))) : own_Ends p e below s Q kc ks T (mkF m pc ls (.int y :: .long x :: st)) := by
  subst hp hz
  exact own_go (fun t k => XS.lshr X.here hx rfl hd rfl k) K
theorem own_lushr (X : Stand p l e R s m args below meth c T locs cells slots) (hx : p.tables.exec = Jvm.exec) {x z : Int64} {y : Int32} (hd : decode c.code pc = .ok (.lushr, 1)) (hp : pc + 1 = pc') (hz : (x.toUInt64 >>> (y &&& 0x3f).toInt64.toUInt64).toInt64 = z) (K : own_Ends p e below s Q kc ks T (mkF m pc' ls (.long z :: st))) : own_Ends p e below s Q kc ks T (mkF m pc ls (.int y :: .long x :: st)) := by
  subst hp hz
  exact own_go (fun t k => XS.lushr X.here hx rfl hd rfl k) K
theorem own_idiv (X : Stand p l e R s m args below meth c T locs cells slots) (hx : p.tables.exec = Jvm.exec) {x y z : Int32} (hd : decode c.code pc = .ok (.idiv, 1)) (hp : pc + 1 = pc') (hy : y ≠ 0) (hz : x / y = z) (K : own_Ends p e below s Q kc ks T (mkF m pc' ls (.int z :: st))) : own_Ends p e below s Q kc ks T (mkF m pc ls (.int y :: .int x :: st)) := by
  subst hp hz
  exact own_go (fun t k => XS.idiv X.here hx rfl hd rfl hy k) K
theorem own_irem (X : Stand p l e R s m args below meth c T locs cells slots) (hx : p.tables.exec = Jvm.exec) {x y z : Int32} (hd : decode c.code pc = .ok (.irem, 1)) (hp : pc + 1 = pc') (hy : y ≠ 0) (hz : x % y = z) (K : own_Ends p e below s Q kc ks T (mkF m pc' ls (.int z :: st))) : own_Ends p e below s Q kc ks T (mkF m pc ls (.int y :: .int x :: st)) := by
  subst hp hz
  exact own_go (fun t k => iremM (g := mkF m pc ls (.int y :: .int x :: st)) X hx rfl hd rfl hy k) K
theorem own_ldiv (X : Stand p l e R s m args below meth c T locs cells slots) (hx : p.tables.exec = Jvm.exec) {x y z : Int64} (hd : decode c.code pc = .ok (.ldiv, 1)) (hp : pc + 1 = pc') (hy : y ≠ 0) (hz : x / y = z) (K : own_Ends p e below s Q kc ks T (mkF m pc' ls (.long z :: st))) : own_Ends p e below s Q kc ks T (mkF m pc ls (.long y :: .long x :: st)) := by
  subst hp hz
  exact own_go (fun t k => XS.ldiv X.here hx rfl hd rfl hy k) K
theorem own_lrem (X : Stand p l e R s m args below meth c T locs cells slots) (hx : p.tables.exec = Jvm.exec) {x y z : Int64} (hd : decode c.code pc = .ok (.lrem, 1)) (hp : pc + 1 = pc') (hy : y ≠ 0) (hz : x - (x / y) * y = z) (K : own_Ends p e below s Q kc ks T (mkF m pc' ls (.long z :: st))) : own_Ends p e below s Q kc ks T (mkF m pc ls (.long y :: .long x :: st)) := by
  subst hp hz
  exact own_go (fun t k => XS.lrem X.here hx rfl hd rfl hy k) K
theorem own_ineg (X : Stand p l e R s m args below meth c T locs cells slots) (hx : p.tables.exec = Jvm.exec) {x : Int32} {z : Int32} (hd : decode c.code pc = .ok (.ineg, 1)) (hp : pc + 1 = pc') (hz : -x = z) (K : own_Ends p e below s Q kc ks T (mkF m pc' ls (.int z :: st))) : own_Ends p e below s Q kc ks T (mkF m pc ls (.int x :: st)) := by
  subst hp hz
  exact own_go (fun t k => XS.ineg X.here hx rfl hd rfl k) K
theorem own_lneg (X : Stand p l e R s m args below meth c T locs cells slots) (hx : p.tables.exec = Jvm.exec) {x : Int64} {z : Int64} (hd : decode c.code pc = .ok (.lneg, 1)) (hp : pc + 1 = pc') (hz : -x = z) (K : own_Ends p e below s Q kc ks T (mkF m pc' ls (.long z :: st))) : own_Ends p e below s Q kc ks T (mkF m pc ls (.long x :: st)) := by
  subst hp hz
  exact own_go (fun t k => XS.lneg X.here hx rfl hd rfl k) K
theorem own_i2l (X : Stand p l e R s m args below meth c T locs cells slots) (hx : p.tables.exec = Jvm.exec) {x : Int32} {z : Int64} (hd : decode c.code pc = .ok (.i2l, 1)) (hp : pc + 1 = pc') (hz : x.toInt64 = z) (K : own_Ends p e below s Q kc ks T (mkF m pc' ls (.long z :: st))) : own_Ends p e below s Q kc ks T (mkF m pc ls (.int x :: st)) := by
  subst hp hz
  exact own_go (fun t k => XS.i2l X.here hx rfl hd rfl k) K
theorem own_l2i (X : Stand p l e R s m args below meth c T locs cells slots) (hx : p.tables.exec = Jvm.exec) {x : Int64} {z : Int32} (hd : decode c.code pc = .ok (.l2i, 1)) (hp : pc + 1 = pc') (hz : x.toInt32 = z) (K : own_Ends p e below s Q kc ks T (mkF m pc' ls (.int z :: st))) : own_Ends p e below s Q kc ks T (mkF m pc ls (.long x :: st)) := by
  subst hp hz
  exact own_go (fun t k => XS.l2i X.here hx rfl hd rfl k) K
theorem own_i2b (X : Stand p l e R s m args below meth c T locs cells slots) (hx : p.tables.exec = Jvm.exec) {x : Int32} {z : Int32} (hd : decode c.code pc = .ok (.i2b, 1)) (hp : pc + 1 = pc') (hz : x.toInt8.toInt32 = z) (K : own_Ends p e below s Q kc ks T (mkF m pc' ls (.int z :: st))) : own_Ends p e below s Q kc ks T (mkF m pc ls (.int x :: st)) := by
  subst hp hz
  exact own_go (fun t k => XS.i2b X.here hx rfl hd rfl k) K
theorem own_i2s (X : Stand p l e R s m args below meth c T locs cells slots) (hx : p.tables.exec = Jvm.exec) {x : Int32} {z : Int32} (hd : decode c.code pc = .ok (.i2s, 1)) (hp : pc + 1 = pc') (hz : x.toInt16.toInt32 = z) (K : own_Ends p e below s Q kc ks T (mkF m pc' ls (.int z :: st))) : own_Ends p e below s Q kc ks T (mkF m pc ls (.int x :: st)) := by
  subst hp hz
  exact own_go (fun t k => XS.i2s X.here hx rfl hd rfl k) K
theorem own_i2c (X : Stand p l e R s m args below meth c T locs cells slots) (hx : p.tables.exec = Jvm.exec) {x : Int32} {z : Int32} (hd : decode c.code pc = .ok (.i2c, 1)) (hp : pc + 1 = pc') (hz : x.toUInt32.toUInt16.toUInt32.toInt32 = z) (K : own_Ends p e below s Q kc ks T (mkF m pc' ls (.int z :: st))) : own_Ends p e below s Q kc ks T (mkF m pc ls (.int x :: st)) := by
  subst hp hz
  exact own_go (fun t k => XS.i2c X.here hx rfl hd rfl k) K
theorem own_i2d (X : Stand p l e R s m args below meth c T locs cells slots) (hx : p.tables.exec = Jvm.exec) {x : Int32} {z : UInt64} (hd : decode c.code pc = .ok (.i2d, 1)) (hp : pc + 1 = pc') (hz : FP.i2d x = z) (K : own_Ends p e below s Q kc ks T (mkF m pc' ls (.double z :: st))) : own_Ends p e below s Q kc ks T (mkF m pc ls (.int x :: st)) := by
  subst hp hz
  exact own_go (fun t k => XS.i2dS (g := mkF m pc ls (.int x :: st)) X.here hx rfl hd rfl rfl k) K
theorem own_dadd (X : Stand p l e R s m args below meth c T locs cells slots) (hx : p.tables.exec = Jvm.exec) {x y z : UInt64} (hd : decode c.code pc = .ok (.dadd, 1)) (hp : pc + 1 = pc') (hn : Jvm.Free.Fl.NoNaN64 (FP.dadd x y)) (hz : FP.dadd x y = z) (K : own_Ends p e below s Q kc ks T (mkF m pc' ls (.double z :: st))) : own_Ends p e below s Q kc ks T (mkF m pc ls (.double y :: .double x :: st)) := by
  subst hp hz
  exact own_go (fun t k => XS.daddS (g := mkF m pc ls (.double y :: .double x :: st)) X.here hx rfl hd rfl hn rfl k) K
theorem own_dmul (X : Stand p l e R s m args below meth c T locs cells slots) (hx : p.tables.exec = Jvm.exec) {x y z : UInt64} (hd : decode c.code pc = .ok (.dmul, 1)) (hp : pc + 1 = pc') (hn : Jvm.Free.Fl.NoNaN64 (FP.dmul x y)) (hz : FP.dmul x y = z) (K : own_Ends p e below s Q kc ks T (mkF m pc' ls (.double z :: st))) : own_Ends p e below s Q kc ks T (mkF m pc ls (.double y :: .double x :: st)) := by
  subst hp hz
  exact own_go (fun t k => XS.dmulS (g := mkF m pc ls (.double y :: .double x :: st)) X.here hx rfl hd rfl hn rfl k) K
theorem own_dcmp (X : Stand p l e R s m args below meth c T locs cells slots) (hx : p.tables.exec = Jvm.exec) {o : CmpOp} {x y : UInt64} {z : Int32} (hd : decode c.code pc = .ok (.dcmp o, 1)) (hp : pc + 1 = pc') (hz : cmpValue (FP.dcmp x y) o = z) (K : own_Ends p e below s Q kc ks T (mkF m pc' ls (.int z :: st))) : own_Ends p e below s Q kc ks T (mkF m pc ls (.double y :: .double x :: st)) := by
  subst hp hz
  exact own_go (fun t k => XS.dcmpS (g := mkF m pc ls (.double y :: .double x :: st)) X.here hx rfl hd rfl rfl k) K
theorem own_lcmp (X : Stand p l e R s m args below meth c T locs cells slots) (hx : p.tables.exec = Jvm.exec) {x y : Int64} {z : Int32} (hd : decode c.code pc = .ok (.lcmp, 1)) (hp : pc + 1 = pc') (hz : lcmpW x y = z) (K : own_Ends p e below s Q kc ks T (mkF m pc' ls (.int z :: st))) : own_Ends p e below s Q kc ks T (mkF m pc ls (.long y :: .long x :: st)) := by
  subst hp hz
  exact own_go (fun t k => XS.lcmp X.here hx rfl hd rfl k) K
theorem own_pop (X : Stand p l e R s m args below meth c T locs cells slots) (hx : p.tables.exec = Jvm.exec) {v : Value} (hd : decode c.code pc = .ok (.pop, 1)) (hp : pc + 1 = pc') (hc : v.category = 1) (K : own_Ends p e below s Q kc ks T (mkF m pc' ls st)) : own_Ends p e below s Q kc ks T (mkF m pc ls (v :: st)) := by
  subst hp
  exact own_go (fun t k => XS.pop X.here hx rfl hd rfl hc k) K
theorem own_dup (X : Stand p l e R s m args below meth c T locs cells slots) (hx : p.tables.exec = Jvm.exec) {v : Value} (hd : decode c.code pc = .ok (.dup, 1)) (hp : pc + 1 = pc') (hc : v.category = 1) (K : own_Ends p e below s Q kc ks T (mkF m pc' ls (v :: v :: st))) : own_Ends p e below s Q kc ks T (mkF m pc ls (v :: st)) := by
  subst hp
  exact own_go (fun t k => XS.dup X.here hx rfl hd rfl hc k) K
theorem own_dupX1 (X : Stand p l e R s m args below meth c T locs cells slots) (hx : p.tables.exec = Jvm.exec) {v w : Value} (hd : decode c.code pc = .ok (.dup_x1, 1)) (hp : pc + 1 = pc') (hc : v.category = 1) (hc' : w.category = 1) (K : own_Ends p e below s Q kc ks T (mkF m pc' ls (v :: w :: v :: st))) : own_Ends p e below s Q kc ks T (mkF m pc ls (v :: w :: st)) := by
  subst hp
  exact own_go (fun t k => XS.dupX1 X.here hx rfl hd rfl hc hc' k) K
theorem own_dup2 (X : Stand p l e R s m args below meth c T locs cells slots) (hx : p.tables.exec = Jvm.exec) {v w : Value} (hd : decode c.code pc = .ok (.dup2, 1)) (hp : pc + 1 = pc') (hc : v.category = 1) (hc' : w.category = 1) (K : own_Ends p e below s Q kc ks T (mkF m pc' ls (v :: w :: v :: w :: st))) : own_Ends p e below s Q kc ks T (mkF m pc ls (v :: w :: st)) := by
  subst hp
  exact own_go (fun t k => XT.dup2 X.here hx rfl hd rfl hc hc' k) K
theorem own_dup2L (X : Stand p l e R s m args below meth c T locs cells slots) (hx : p.tables.exec = Jvm.exec) {x : Int64} (hd : decode c.code pc = .ok (.dup2, 1)) (hp : pc + 1 = pc')  (K : own_Ends p e below s Q kc ks T (mkF m pc' ls (.long x :: .long x :: st))) : own_Ends p e below s Q kc ks T (mkF m pc ls (.long x :: st)) := by
  subst hp
  exact own_go (fun t k => XT.dup2L X.here hx rfl hd rfl k) K
theorem own_iinc (X : Stand p l e R s m args below meth c T locs cells slots) (hx : p.tables.exec = Jvm.exec) {k : Nat} {i : Int} {x z : Int32} {l' : Array Slot} (hd : decode c.code pc = .ok (.iinc k i, 3)) (hp : pc + 3 = pc') (hl : ls[k]? = some (.val (.int x))) (hz : x + Int32.ofInt i = z) (hl' : storeLocals ls k (.int z) = some l') (K : own_Ends p e below s Q kc ks T (mkF m pc' l' st)) : own_Ends p e below s Q kc ks T (mkF m pc ls st) := by
  subst hp hz
  exact own_go (fun t k => XS.iinc X.here hx rfl hd hl hl' k) K
theorem own_goto (X : Stand p l e R s m args below meth c T locs cells slots) (hx : p.tables.exec = Jvm.exec) {o : Int} (hd : decode c.code pc = .ok (.goto o, 3)) (ho : 0 ≤ (pc : Int) + o) (hp : ((pc : Int) + o).toNat = pc') (K : own_Ends p e below s Q kc ks T (mkF m pc' ls st)) : own_Ends p e below s Q kc ks T (mkF m pc ls st) :=
  own_go (fun t k => XS.goto X.here hx rfl rfl hd ho hp k) K
theorem own_ifYes (X : Stand p l e R s m args below meth c T locs cells slots) (hx : p.tables.exec = Jvm.exec) {o : Int} {cd : ClassFile.Cond} {x : Int32} (hd : decode c.code pc = .ok (.ifCond cd o, 3)) (hc : if_icmp.holds cd x 0 = true) (ho : 0 ≤ (pc : Int) + o) (hp : ((pc : Int) + o).toNat = pc') (K : own_Ends p e below s Q kc ks T (mkF m pc' ls st)) : own_Ends p e below s Q kc ks T (mkF m pc ls (.int x :: st)) :=
  own_go (fun t k => XS.ifYes X.here hx rfl rfl hd rfl ((if0 _ _).trans hc) ho hp k) K
theorem own_ifNo (X : Stand p l e R s m args below meth c T locs cells slots) (hx : p.tables.exec = Jvm.exec) {o : Int} {cd : ClassFile.Cond} {x : Int32} (hd : decode c.code pc = .ok (.ifCond cd o, 3)) (hp : pc + 3 = pc') (hc : if_icmp.holds cd x 0 = false) (K : own_Ends p e below s Q kc ks T (mkF m pc' ls st)) : own_Ends p e below s Q kc ks T (mkF m pc ls (.int x :: st)) := by
  subst hp
  exact own_go (fun t k => XS.ifNo X.here hx rfl hd rfl ((if0 _ _).trans hc) k) K
theorem own_icmpYes (X : Stand p l e R s m args below meth c T locs cells slots) (hx : p.tables.exec = Jvm.exec) {o : Int} {cd : ClassFile.Cond} {x y : Int32} (hd : decode c.code pc = .ok (.if_icmp cd o, 3)) (hc : if_icmp.holds cd x y = true) (ho : 0 ≤ (pc : Int) + o) (hp : ((pc : Int) + o).toNat = pc') (K : own_Ends p e below s Q kc ks T (mkF m pc' ls st)) : own_Ends p e below s Q kc ks T (mkF m pc ls (.int y :: .int x :: st)) :=
  own_go (fun t k => XS.icmpYes X.here hx rfl rfl hd rfl hc ho hp k) K
theorem own_icmpNo (X : Stand p l e R s m args below meth c T locs cells slots) (hx : p.tables.exec = Jvm.exec) {o : Int} {cd : ClassFile.Cond} {x y : Int32} (hd : decode c.code pc = .ok (.if_icmp cd o, 3)) (hp : pc + 3 = pc') (hc : if_icmp.holds cd x y = false) (K : own_Ends p e below s Q kc ks T (mkF m pc' ls st)) : own_Ends p e below s Q kc ks T (mkF m pc ls (.int y :: .int x :: st)) := by
  subst hp
  exact own_go (fun t k => XS.icmpNo X.here hx rfl hd rfl hc k) K
theorem own_ifnullYes (X : Stand p l e R s m args below meth c T locs cells slots) (hx : p.tables.exec = Jvm.exec) {o : Int} (hd : decode c.code pc = .ok (.ifnull o, 3)) (ho : 0 ≤ (pc : Int) + o) (hp : ((pc : Int) + o).toNat = pc') (K : own_Ends p e below s Q kc ks T (mkF m pc' ls st)) : own_Ends p e below s Q kc ks T (mkF m pc ls (.null :: st)) :=
  own_go (fun t k => XS.ifnullYes X.here hx rfl rfl hd rfl ho hp k) K
theorem own_ifnullNo (X : Stand p l e R s m args below meth c T locs cells slots) (hx : p.tables.exec = Jvm.exec) {o : Int} {b : Addr} (hd : decode c.code pc = .ok (.ifnull o, 3)) (hp : pc + 3 = pc')  (K : own_Ends p e below s Q kc ks T (mkF m pc' ls st)) : own_Ends p e below s Q kc ks T (mkF m pc ls (.ref b :: st)) := by
  subst hp
  exact own_go (fun t k => XS.ifnullNo X.here hx rfl hd rfl k) K
theorem own_ifnonnullYes (X : Stand p l e R s m args below meth c T locs cells slots) (hx : p.tables.exec = Jvm.exec) {o : Int} {b : Addr} (hd : decode c.code pc = .ok (.ifnonnull o, 3)) (ho : 0 ≤ (pc : Int) + o) (hp : ((pc : Int) + o).toNat = pc') (K : own_Ends p e below s Q kc ks T (mkF m pc' ls st)) : own_Ends p e below s Q kc ks T (mkF m pc ls (.ref b :: st)) :=
  own_go (fun t k => XS.ifnonnullYes X.here hx rfl rfl hd rfl ho hp k) K
theorem own_ifnonnullNo (X : Stand p l e R s m args below meth c T locs cells slots) (hx : p.tables.exec = Jvm.exec) {o : Int} (hd : decode c.code pc = .ok (.ifnonnull o, 3)) (hp : pc + 3 = pc')  (K : own_Ends p e below s Q kc ks T (mkF m pc' ls st)) : own_Ends p e below s Q kc ks T (mkF m pc ls (.null :: st)) := by
  subst hp
  exact own_go (fun t k => XS.ifnonnullNo X.here hx rfl hd rfl k) K
theorem own_acmpYes (X : Stand p l e R s m args below meth c T locs cells slots) (hx : p.tables.exec = Jvm.exec) {o : Int} {cd : ACond} {v w : Value} (hd : decode c.code pc = .ok (.if_acmp cd o, 3)) (h1 : v.isRef = true) (h2 : w.isRef = true) (hc : XT.acmp cd v w = true) (ho : 0 ≤ (pc : Int) + o) (hp : ((pc : Int) + o).toNat = pc') (K : own_Ends p e below s Q kc ks T (mkF m pc' ls st)) : own_Ends p e below s Q kc ks T (mkF m pc ls (w :: v :: st)) :=
  own_go (fun t k => XT.acmpYes X.here hx rfl rfl hd rfl h1 h2 hc ho hp k) K
theorem own_acmpNo (X : Stand p l e R s m args below meth c T locs cells slots) (hx : p.tables.exec = Jvm.exec) {o : Int} {cd : ACond} {v w : Value} (hd : decode c.code pc = .ok (.if_acmp cd o, 3)) (hp : pc + 3 = pc') (h1 : v.isRef = true) (h2 : w.isRef = true) (hc : XT.acmp cd v w = false) (K : own_Ends p e below s Q kc ks T (mkF m pc' ls st)) : own_Ends p e below s Q kc ks T (mkF m pc ls (w :: v :: st)) := by
  subst hp
  exact own_go (fun t k => XT.acmpNo X.here hx rfl hd rfl h1 h2 hc k) K
theorem own_ldcI (X : Stand p l e R s m args below meth c T locs cells slots) (hx : p.tables.exec = Jvm.exec) {own : String} {ix : Nat} {v : Int32} {Z : State} {a0 : Array Value} (hZ : Z.Warmed39 s.vm) (hown : s.vm.findClass own = some m.cls) (w : (Jvm.Cond.constant own ix v).before a0 Z = true) (hd : decode c.code pc = .ok (.ldc ix, 2)) (hp : pc + 2 = pc')  (K : own_Ends p e below s Q kc ks T (mkF m pc' ls (.int v :: st))) : own_Ends p e below s Q kc ks T (mkF m pc ls st) := by
  subst hp
  exact own_go (fun t k => X.ldcInt hx hown (mvT hZ w) (g := mkF m pc ls st) rfl hd t k) K
theorem own_ldcwI (X : Stand p l e R s m args below meth c T locs cells slots) (hx : p.tables.exec = Jvm.exec) {own : String} {ix : Nat} {v : Int32} {Z : State} {a0 : Array Value} (hZ : Z.Warmed39 s.vm) (hown : s.vm.findClass own = some m.cls) (w : (Jvm.Cond.constant own ix v).before a0 Z = true) (hd : decode c.code pc = .ok (.ldc_w ix, 3)) (hp : pc + 3 = pc')  (K : own_Ends p e below s Q kc ks T (mkF m pc' ls (.int v :: st))) : own_Ends p e below s Q kc ks T (mkF m pc ls st) := by
  subst hp
  exact own_go (fun t k => X.ldcwInt hx hown (mvT hZ w) (g := mkF m pc ls st) rfl hd t k) K
theorem own_ldc2J (X : Stand p l e R s m args below meth c T locs cells slots) (hx : p.tables.exec = Jvm.exec) {own : String} {ix : Nat} {v : Int64} {Z : State} {a0 : Array Value} (hZ : Z.Warmed39 s.vm) (hown : s.vm.findClass own = some m.cls) (w : (Jvm.Cond.constantLong own ix v).before a0 Z = true) (hd : decode c.code pc = .ok (.ldc2_w ix, 3)) (hp : pc + 3 = pc')  (K : own_Ends p e below s Q kc ks T (mkF m pc' ls (.long v :: st))) : own_Ends p e below s Q kc ks T (mkF m pc ls st) := by
  subst hp
  exact own_go (fun t k => X.ldc2Long hx hown (mvT hZ w) (g := mkF m pc ls st) rfl hd t k) K
theorem own_iaload (X : Stand p l e R s m args below meth c T locs cells slots) (hx : p.tables.exec = Jvm.exec) {Z : State} {h : Heap} {a : Addr} {k : ClassId} {n j : Int32} {vs : List Value} {d v : Value} (hZ : Z.Warmed39 s.vm) (eT : T.heap = h) (V : Arv Z h a k .int n vs d) (hd : decode c.code pc = .ok (.iaload, 1)) (hp : pc + 1 = pc') (hj : ¬ j < 0 ∧ j < n) (hv : vs.getD j.toNatClampNeg d = v) (K : own_Ends p e below s Q kc ks T (mkF m pc' ls (v :: st))) : own_Ends p e below s Q kc ks T (mkF m pc ls (.int j :: .ref a :: st)) := by
  subst hp
  obtain ⟨cl, A, q1, S, q2, H, G⟩ := V
  have hin := inb_of S hj
  exact own_go (fun t k => X.iaload hx (by rw [eT]; exact A.1) (State.isArrayOf_alike hZ.alike A.2.1) A.2.2 hin (H.at hin hv) (g := mkF m pc ls (.int j :: .ref a :: st)) rfl rfl hd t k) K
theorem own_laload (X : Stand p l e R s m args below meth c T locs cells slots) (hx : p.tables.exec = Jvm.exec) {Z : State} {h : Heap} {a : Addr} {k : ClassId} {n j : Int32} {vs : List Value} {d v : Value} (hZ : Z.Warmed39 s.vm) (eT : T.heap = h) (V : Arv Z h a k .long n vs d) (hd : decode c.code pc = .ok (.laload, 1)) (hp : pc + 1 = pc') (hj : ¬ j < 0 ∧ j < n) (hv : vs.getD j.toNatClampNeg d = v) (K : own_Ends p e below s Q kc ks T (mkF m pc' ls (v :: st))) : own_Ends p e below s Q kc ks T (mkF m pc ls (.int j :: .ref a :: st)) := by
  subst hp
  obtain ⟨cl, A, q1, S, q2, H, G⟩ := V
  have hin := inb_of S hj
  exact own_go (fun t k => X.laload hx (by rw [eT]; exact A.1) (State.isArrayOf_alike hZ.alike A.2.1) A.2.2 hin (H.at hin hv) (g := mkF m pc ls (.int j :: .ref a :: st)) rfl rfl hd t k) K
theorem own_caload (X : Stand p l e R s m args below meth c T locs cells slots) (hx : p.tables.exec = Jvm.exec) {Z : State} {h : Heap} {a : Addr} {k : ClassId} {n j : Int32} {vs : List Value} {d v : Value} (hZ : Z.Warmed39 s.vm) (eT : T.heap = h) (V : Arv Z h a k .char n vs d) (hd : decode c.code pc = .ok (.caload, 1)) (hp : pc + 1 = pc') (hj : ¬ j < 0 ∧ j < n) (hv : vs.getD j.toNatClampNeg d = v) (K : own_Ends p e below s Q kc ks T (mkF m pc' ls (v :: st))) : own_Ends p e below s Q kc ks T (mkF m pc ls (.int j :: .ref a :: st)) := by
  subst hp
  obtain ⟨cl, A, q1, S, q2, H, G⟩ := V
  have hin := inb_of S hj
  exact own_go (fun t k => X.caload hx (by rw [eT]; exact A.1) (State.isArrayOf_alike hZ.alike A.2.1) A.2.2 hin (H.at hin hv) (g := mkF m pc ls (.int j :: .ref a :: st)) rfl rfl hd t k) K
theorem own_baload (X : Stand p l e R s m args below meth c T locs cells slots) (hx : p.tables.exec = Jvm.exec) {Z : State} {h : Heap} {a : Addr} {k : ClassId} {n j : Int32} {vs : List Value} {d v : Value} (hZ : Z.Warmed39 s.vm) (eT : T.heap = h) (V : Arv Z h a k .byte n vs d) (hd : decode c.code pc = .ok (.baload, 1)) (hp : pc + 1 = pc') (hj : ¬ j < 0 ∧ j < n) (hv : vs.getD j.toNatClampNeg d = v) (K : own_Ends p e below s Q kc ks T (mkF m pc' ls (v :: st))) : own_Ends p e below s Q kc ks T (mkF m pc ls (.int j :: .ref a :: st)) := by
  subst hp
  obtain ⟨cl, A, q1, S, q2, H, G⟩ := V
  have hin := inb_of S hj
  exact own_go (fun t k => X.baloadBytes hx (by rw [eT]; exact A.1) (State.isArrayOf_alike hZ.alike A.2.1) A.2.2 hin (H.at hin hv) (g := mkF m pc ls (.int j :: .ref a :: st)) rfl rfl hd t k) K
theorem own_zaload (X : Stand p l e R s m args below meth c T locs cells slots) (hx : p.tables.exec = Jvm.exec) {Z : State} {h : Heap} {a : Addr} {k : ClassId} {n j : Int32} {vs : List Value} {d v : Value} (hZ : Z.Warmed39 s.vm) (eT : T.heap = h) (V : Arv Z h a k .boolean n vs d) (hd : decode c.code pc = .ok (.baload, 1)) (hp : pc + 1 = pc') (hj : ¬ j < 0 ∧ j < n) (hv : vs.getD j.toNatClampNeg d = v) (K : own_Ends p e below s Q kc ks T (mkF m pc' ls (v :: st))) : own_Ends p e below s Q kc ks T (mkF m pc ls (.int j :: .ref a :: st)) := by
  subst hp
  obtain ⟨cl, A, q1, S, q2, H, G⟩ := V
  have hin := inb_of S hj
  exact own_go (fun t k => X.baloadBooleans hx (by rw [eT]; exact A.1) (State.isArrayOf_alike hZ.alike A.2.1) A.2.2 hin (H.at hin hv) (g := mkF m pc ls (.int j :: .ref a :: st)) rfl rfl hd t k) K
theorem own_daload (X : Stand p l e R s m args below meth c T locs cells slots) (hx : p.tables.exec = Jvm.exec) {Z : State} {h : Heap} {a : Addr} {k : ClassId} {n j : Int32} {vs : List Value} {d v : Value} (hZ : Z.Warmed39 s.vm) (eT : T.heap = h) (V : Arv Z h a k .double n vs d) (hd : decode c.code pc = .ok (.daload, 1)) (hp : pc + 1 = pc') (hj : ¬ j < 0 ∧ j < n) (hv : vs.getD j.toNatClampNeg d = v) (K : own_Ends p e below s Q kc ks T (mkF m pc' ls (v :: st))) : own_Ends p e below s Q kc ks T (mkF m pc ls (.int j :: .ref a :: st)) := by
  subst hp
  obtain ⟨cl, A, q1, S, q2, H, G⟩ := V
  have hin := inb_of S hj
  exact own_go (fun t k => X.daload hx (by rw [eT]; exact A.1) (State.isArrayOf_alike hZ.alike A.2.1) A.2.2 hin (H.at hin hv) (g := mkF m pc ls (.int j :: .ref a :: st)) rfl rfl hd t k) K
theorem own_alen (X : Stand p l e R s m args below meth c T locs cells slots) (hx : p.tables.exec = Jvm.exec) {Z : State} {h : Heap} {a : Addr} {k : ClassId} {ty : FieldType} {n : Int32} {vs : List Value} {d : Value} (hZ : Z.Warmed39 s.vm) (eT : T.heap = h) (V : Arv Z h a k ty n vs d) (hd : decode c.code pc = .ok (.arraylength, 1)) (hp : pc + 1 = pc')  (K : own_Ends p e below s Q kc ks T (mkF m pc' ls (.int n :: st))) : own_Ends p e below s Q kc ks T (mkF m pc ls (.ref a :: st)) := by
  subst hp
  obtain ⟨cl, A, q1, S, q2, H, G⟩ := V
  rw [← len_of S q2] at K
  exact own_go (fun t k => X.arraylength hx (by rw [eT]; exact A.1) (State.isArrayOf_alike hZ.alike A.2.1) (g := mkF m pc ls (.ref a :: st)) rfl rfl hd t k) K
theorem own_iastore (X : Stand p l e R s m args below meth c T locs cells slots) (hx : p.tables.exec = Jvm.exec) {Z : State} {h : Heap} {a : Addr} {k : ClassId} {n j : Int32} {vs : List Value} {d : Value} {x : Int32} (hZ : Z.Warmed39 s.vm) (eT : T.heap = h) (V : Arv Z h a k .int n vs d) (hd : decode c.code pc = .ok (.iastore, 1)) (hp : pc + 1 = pc') (hj : ¬ j < 0 ∧ j < n) (i : Nat) (hi : j.toNatClampNeg = i) (hl : i < vs.length) {n0 : Nat} (N : Fr n0 locs) (ge : n0 ≤ a)
    (K : ∀ T' h' L, Stand p l e R s m args below meth c T' L cells slots → T'.heap = h' → Fr n0 L → Wr h h' a j.toNatClampNeg (.int x) → Arv Z h' a k .int n (vs.set i (.int x)) d → own_Ends p e below s Q kc ks T' (mkF m pc' ls st)) : own_Ends p e below s Q kc ks T (mkF m pc ls (.int x :: .int j :: .ref a :: st)) := by
  subst hp
  obtain ⟨cl, A, q1, S, q2, H, G⟩ := V
  have hin := inb_of S hj
  obtain ⟨T1, h1, X1, e1, W1, st1⟩ := stI X hx hZ eT A (j := j) hin (g := mkF m pc ls (.int x :: .int j :: .ref a :: st)) rfl rfl hd
  exact own_go st1 (K T1 h1 _ X1 e1 (Fr.snoc X1 N ge) W1 (Arv.set A q1 S q2 H G rfl W1 i hi hl))
theorem own_lastore (X : Stand p l e R s m args below meth c T locs cells slots) (hx : p.tables.exec = Jvm.exec) {Z : State} {h : Heap} {a : Addr} {k : ClassId} {n j : Int32} {vs : List Value} {d : Value} {x : Int64} (hZ : Z.Warmed39 s.vm) (eT : T.heap = h) (V : Arv Z h a k .long n vs d) (hd : decode c.code pc = .ok (.lastore, 1)) (hp : pc + 1 = pc') (hj : ¬ j < 0 ∧ j < n) (i : Nat) (hi : j.toNatClampNeg = i) (hl : i < vs.length) {n0 : Nat} (N : Fr n0 locs) (ge : n0 ≤ a)
    (K : ∀ T' h' L, Stand p l e R s m args below meth c T' L cells slots → T'.heap = h' → Fr n0 L → Wr h h' a j.toNatClampNeg (.long x) → Arv Z h' a k .long n (vs.set i (.long x)) d → own_Ends p e below s Q kc ks T' (mkF m pc' ls st)) : own_Ends p e below s Q kc ks T (mkF m pc ls (.long x :: .int j :: .ref a :: st)) := by
  subst hp
  obtain ⟨cl, A, q1, S, q2, H, G⟩ := V
  have hin := inb_of S hj
  obtain ⟨T1, h1, X1, e1, W1, st1⟩ := stJ X hx hZ eT A (j := j) hin (g := mkF m pc ls (.long x :: .int j :: .ref a :: st)) rfl rfl hd
  exact own_go st1 (K T1 h1 _ X1 e1 (Fr.snoc X1 N ge) W1 (Arv.set A q1 S q2 H G rfl W1 i hi hl))
theorem own_dastore (X : Stand p l e R s m args below meth c T locs cells slots) (hx : p.tables.exec = Jvm.exec) {Z : State} {h : Heap} {a : Addr} {k : ClassId} {n j : Int32} {vs : List Value} {d : Value} {x : UInt64} (hZ : Z.Warmed39 s.vm) (eT : T.heap = h) (V : Arv Z h a k .double n vs d) (hd : decode c.code pc = .ok (.dastore, 1)) (hp : pc + 1 = pc') (hj : ¬ j < 0 ∧ j < n) (i : Nat) (hi : j.toNatClampNeg = i) (hl : i < vs.length) {n0 : Nat} (N : Fr n0 locs) (ge : n0 ≤ a)
    (K : ∀ T' h' L, Stand p l e R s m args below meth c T' L cells slots → T'.heap = h' → Fr n0 L → Wr h h' a j.toNatClampNeg (.double x) → Arv Z h' a k .double n (vs.set i (.double x)) d → own_Ends p e below s Q kc ks T' (mkF m pc' ls st)) : own_Ends p e below s Q kc ks T (mkF m pc ls (.double x :: .int j :: .ref a :: st)) := by
  subst hp
  obtain ⟨cl, A, q1, S, q2, H, G⟩ := V
  have hin := inb_of S hj
  obtain ⟨T1, h1, X1, e1, W1, st1⟩ := stD X hx hZ eT A (j := j) hin (g := mkF m pc ls (.double x :: .int j :: .ref a :: st)) rfl rfl hd
  exact own_go st1 (K T1 h1 _ X1 e1 (Fr.snoc X1 N ge) W1 (Arv.set A q1 S q2 H G rfl W1 i hi hl))
theorem own_castore (X : Stand p l e R s m args below meth c T locs cells slots) (hx : p.tables.exec = Jvm.exec) {Z : State} {h : Heap} {a : Addr} {k : ClassId} {n j : Int32} {vs : List Value} {d : Value} {x : Int32} (hZ : Z.Warmed39 s.vm) (eT : T.heap = h) (V : Arv Z h a k .char n vs d) (hd : decode c.code pc = .ok (.castore, 1)) (hp : pc + 1 = pc') (hj : ¬ j < 0 ∧ j < n) (i : Nat) (hi : j.toNatClampNeg = i) (hl : i < vs.length) {n0 : Nat} (N : Fr n0 locs) (ge : n0 ≤ a)
    (K : ∀ T' h' L, Stand p l e R s m args below meth c T' L cells slots → T'.heap = h' → Fr n0 L → Wr h h' a j.toNatClampNeg (.int (nar .char x)) → Arv Z h' a k .char n (vs.set i (.int (nar .char x))) d → own_Ends p e below s Q kc ks T' (mkF m pc' ls st)) : own_Ends p e below s Q kc ks T (mkF m pc ls (.int x :: .int j :: .ref a :: st)) := by
  subst hp
  obtain ⟨cl, A, q1, S, q2, H, G⟩ := V
  have hin := inb_of S hj
  obtain ⟨T1, h1, X1, e1, W1, st1⟩ := stC X hx hZ eT A (j := j) hin (g := mkF m pc ls (.int x :: .int j :: .ref a :: st)) rfl rfl hd
  exact own_go st1 (K T1 h1 _ X1 e1 (Fr.snoc X1 N ge) W1 (Arv.set A q1 S q2 H G (fits_nar_char _) W1 i hi hl))
theorem own_bastore (X : Stand p l e R s m args below meth c T locs cells slots) (hx : p.tables.exec = Jvm.exec) {Z : State} {h : Heap} {a : Addr} {k : ClassId} {n j : Int32} {vs : List Value} {d : Value} {x : Int32} (hZ : Z.Warmed39 s.vm) (eT : T.heap = h) (V : Arv Z h a k .byte n vs d) (hd : decode c.code pc = .ok (.bastore, 1)) (hp : pc + 1 = pc') (hj : ¬ j < 0 ∧ j < n) (i : Nat) (hi : j.toNatClampNeg = i) (hl : i < vs.length) {n0 : Nat} (N : Fr n0 locs) (ge : n0 ≤ a)
    (K : ∀ T' h' L, Stand p l e R s m args below meth c T' L cells slots → T'.heap = h' → Fr n0 L → Wr h h' a j.toNatClampNeg (.int (nar .byte x)) → Arv Z h' a k .byte n (vs.set i (.int (nar .byte x))) d → own_Ends p e below s Q kc ks T' (mkF m pc' ls st)) : own_Ends p e below s Q kc ks T (mkF m pc ls (.int x :: .int j :: .ref a :: st)) := by
  subst hp
  obtain ⟨cl, A, q1, S, q2, H, G⟩ := V
  have hin := inb_of S hj
  obtain ⟨T1, h1, X1, e1, W1, st1⟩ := stB X hx hZ eT A (j := j) hin (g := mkF m pc ls (.int x :: .int j :: .ref a :: st)) rfl rfl hd
  exact own_go st1 (K T1 h1 _ X1 e1 (Fr.snoc X1 N ge) W1 (Arv.set A q1 S q2 H G (fits_nar_byte _) W1 i hi hl))
theorem own_zastore (X : Stand p l e R s m args below meth c T locs cells slots) (hx : p.tables.exec = Jvm.exec) {Z : State} {h : Heap} {a : Addr} {k : ClassId} {n j : Int32} {vs : List Value} {d : Value} {x : Int32} (hZ : Z.Warmed39 s.vm) (eT : T.heap = h) (V : Arv Z h a k .boolean n vs d) (hd : decode c.code pc = .ok (.bastore, 1)) (hp : pc + 1 = pc') (hj : ¬ j < 0 ∧ j < n) (i : Nat) (hi : j.toNatClampNeg = i) (hl : i < vs.length) {n0 : Nat} (N : Fr n0 locs) (ge : n0 ≤ a)
    (K : ∀ T' h' L, Stand p l e R s m args below meth c T' L cells slots → T'.heap = h' → Fr n0 L → Wr h h' a j.toNatClampNeg (.int (nar .boolean x)) → Arv Z h' a k .boolean n (vs.set i (.int (nar .boolean x))) d → own_Ends p e below s Q kc ks T' (mkF m pc' ls st)) : own_Ends p e below s Q kc ks T (mkF m pc ls (.int x :: .int j :: .ref a :: st)) := by
  subst hp
  obtain ⟨cl, A, q1, S, q2, H, G⟩ := V
  have hin := inb_of S hj
  obtain ⟨T1, h1, X1, e1, W1, st1⟩ := stZ X hx hZ eT A (j := j) hin (g := mkF m pc ls (.int x :: .int j :: .ref a :: st)) rfl rfl hd
  exact own_go st1 (K T1 h1 _ X1 e1 (Fr.snoc X1 N ge) W1 (Arv.set A q1 S q2 H G (fits_nar_bool _) W1 i hi hl))
theorem own_newarr (X : Stand p l e R s m args below meth c T locs cells slots) (hx : p.tables.exec = Jvm.exec) {Z : State} {a0 : Array Value} {h : Heap} {aty : ArrayType} (hZ : Z.Warmed39 s.vm) (w : (Jvm.Cond.arrayClass (newarray.typeOf aty)).before a0 Z = true) (eT : T.heap = h) (hd : decode c.code pc = .ok (.newarray aty, 2)) (hp : pc + 2 = pc') {n : Int32} (hn : ¬ n < 0) (cap q : Nat) (hcap : n.toNatClampNeg ≤ cap) (hb : cap * 8 ≤ 536870912) (hc : cells + 1 ≤ R.cells) (hl : slots + cap ≤ R.slots)
    (K : ∀ T' h' a k, Stand p l e R s m args below meth c T' locs (cells + 1) (slots + cap) → T'.heap = h' → Ext h h' → a = h.size → Arv Z h' a k (newarray.typeOf aty) n (List.replicate q (defaultValue (newarray.typeOf aty))) (defaultValue (newarray.typeOf aty)) → own_Ends p e below s Q kc ks T' (mkF m pc' ls (.ref a :: st))) : own_Ends p e below s Q kc ks T (mkF m pc ls (.int n :: st)) := by
  subst hp
  obtain ⟨T1, h1, k1, X1, e1, E1, A1, st1⟩ := newP X hx hZ w eT (g := mkF m pc ls (.int n :: st)) rfl hd rfl hn (cap := cap) hcap hb hc hl
  exact own_go st1 (K T1 h1 _ k1 X1 e1 E1 rfl ((Arv.new A1 hn).pad (pad_rep [] _ q)))
theorem own_newarrE (X : Stand p l e R s m args below meth c T locs cells slots) (hx : p.tables.exec = Jvm.exec) {Z : State} {a0 : Array Value} {h : Heap} {aty : ArrayType} (hZ : Z.Warmed39 s.vm) (w : (Jvm.Cond.arrayClass (newarray.typeOf aty)).before a0 Z = true) (eT : T.heap = h) (hd : decode c.code pc = .ok (.newarray aty, 2)) (hp : pc + 2 = pc') {n : Int32} (hn : ¬ n < 0) (cap q : Nat) (hcap : n.toNatClampNeg ≤ cap) (hb : cap * 8 ≤ 536870912) (hc : cells + 1 ≤ R.cells) (hl : slots + cap ≤ R.slots) {ad : String} (had : "[" ++ (newarray.typeOf aty).toString = ad)
    (K : ∀ T' h' a k, Stand p l e R s m args below meth c T' locs (cells + 1) (slots + cap) → T'.heap = h' → Ext h h' → a = h.size → Arv Z h' a k (newarray.typeOf aty) n (List.replicate q (defaultValue (newarray.typeOf aty))) (defaultValue (newarray.typeOf aty)) → Exa Z h' a ad → own_Ends p e below s Q kc ks T' (mkF m pc' ls (.ref a :: st))) : own_Ends p e below s Q kc ks T (mkF m pc ls (.int n :: st)) := by
  subst hp
  obtain ⟨T1, h1, k1, X1, e1, E1, A1, Z1, st1⟩ := newPE X hx hZ w eT (g := mkF m pc ls (.int n :: st)) rfl hd rfl hn (cap := cap) hcap hb hc hl had
  exact own_go st1 (K T1 h1 _ k1 X1 e1 E1 rfl ((Arv.new A1 hn).pad (pad_rep [] _ q)) Z1)
theorem own_callS (X : Stand p l e R s m args below meth c T locs cells slots) (hx : p.tables.exec = Jvm.exec) {Z : State} {a0 : Array Value} {h : Heap} {own : String} {ix : Nat} {y : MethodName} {bytes : ByteArray} {maxL W : Nat} {ret : Option FieldType} {rm : Room} {Qc : Option Value → Heap → List Loc → Prop} {argsL rest : List Value} (hZ : Z.Warmed39 s.vm) (eT : T.heap = h) (hown : s.vm.findClass own = some m.cls) (hsz : ls.size = c.maxLocals) (wl : (Jvm.Cond.methodLink own ix y).before a0 Z = true) (ws : (Jvm.Cond.static y).before a0 Z = true) (wi : (Jvm.Cond.initialized y.cls).before a0 Z = true) (wc : (Jvm.Cond.code y bytes maxL ret).before a0 Z = true) (hy : y.cls ≠ "java/lang/invoke/MethodHandle" ∧ y.cls ≠ "java/lang/invoke/VarHandle") (hM : MetFree l y (head1 [Jvm.Cond.code y bytes maxL ret] rm) (fun a U => a = argsL.toArray ∧ Z.Warmed39 U.vm ∧ U.heap = h) (fun _ _ _ _ _ => True) (fun _ U o U' => ∃ v L, o = .returned v ∧ Qc v U'.heap L ∧ FrameEnd U o U' L rm.cells rm.slots)) (hf : rm.frames + 1 ≤ R.frames) (hlo : W + (maxL + 11) + rm.locals ≤ R.locals) (hcl : cells + rm.cells ≤ R.cells) (hsl : slots + rm.slots ≤ R.slots)
    (hlen : ∀ sig, parseMethodDescriptor y.desc = some sig → argsL.length = sig.parameters.length) (hst : st = argsL.reverse ++ rest) (hW : 2 * 0 + (rest.map fun v => v.category).sum ≤ W) (hd : decode c.code pc = .ok (.invokestatic ix, 3)) (hp : pc + 3 = pc') (K : ∀ T' L v, Stand p l e R s m args below meth c T' (locs ++ L) (cells + rm.cells) (slots + rm.slots) → Qc v T'.heap L → own_Ends p e below s Q kc ks T' (mkF m pc' ls (v.toList ++ rest))) : own_Ends p e below s Q kc ks T (mkF m pc ls st) := by
  subst hp
  obtain ⟨v, _, ⟨T1, L1, k1, n1⟩, -, X1, ⟨Lc, hQ, r1, r2, r3⟩, st1⟩ := Jvm.LawKit.callS X hx (y := y) hown (mvT hZ wl) (mvT hZ ws) (mvT hZ wi) (mvT hZ wc) hy (backOf (W := W) hM hZ wc wi hf hlo) (g := mkF m pc ls st) rfl hsz (argsL := argsL) (rest := rest) hlen hst hW hd (fun _ _ => ⟨rfl, eT, hcl, hsl⟩)
  dsimp only [Pt.U, Pt.locs, Pt.cells, Pt.slots] at X1 r1 r2 r3 st1 hQ
  subst r1 r2 r3
  exact own_go (st1) (K T1 Lc v X1 hQ)
theorem own_callC (X : Stand p l e R s m args below meth c T locs cells slots) (hx : p.tables.exec = Jvm.exec) {b : Addr} {Z : State} {a0 : Array Value} {h : Heap} {own : String} {ix : Nat} {y : MethodName} {bytes : ByteArray} {maxL W : Nat} {ret : Option FieldType} {rm : Room} {Qc : Option Value → Heap → List Loc → Prop} {argsL rest : List Value} (hZ : Z.Warmed39 s.vm) (eT : T.heap = h) (hown : s.vm.findClass own = some m.cls) (hsz : ls.size = c.maxLocals) (hret : ret = none) (hinit : y.name = "<init>") (wl : (Jvm.Cond.methodLink own ix y).before a0 Z = true) (wm : (Jvm.Cond.instanceMethod y).before a0 Z = true) (wi : (Jvm.Cond.initialized y.cls).before a0 Z = true) (wc : (Jvm.Cond.code y bytes maxL ret).before a0 Z = true) (hy : y.cls ≠ "java/lang/invoke/MethodHandle" ∧ y.cls ≠ "java/lang/invoke/VarHandle") (hM : MetFree l y (head1 [Jvm.Cond.code y bytes maxL ret] rm) (fun a U => a = (Value.ref b :: argsL).toArray ∧ Z.Warmed39 U.vm ∧ U.heap = h) (fun _ _ _ _ _ => True) (fun _ U o U' => ∃ v L, o = .returned v ∧ Qc v U'.heap L ∧ FrameEnd U o U' L rm.cells rm.slots)) (hf : rm.frames + 1 ≤ R.frames) (hlo : W + (maxL + 11) + rm.locals ≤ R.locals) (hcl : cells + rm.cells ≤ R.cells) (hsl : slots + rm.slots ≤ R.slots)
    (hlen : ∀ sig, parseMethodDescriptor y.desc = some sig → argsL.length = sig.parameters.length) (hst : st = argsL.reverse ++ .ref b :: rest) (hW : 2 * 0 + (rest.map fun v => v.category).sum ≤ W) (hd : decode c.code pc = .ok (.invokespecial ix, 3)) (hp : pc + 3 = pc') (K : ∀ T' L v, Stand p l e R s m args below meth c T' (locs ++ L) (cells + rm.cells) (slots + rm.slots) → Qc v T'.heap L → own_Ends p e below s Q kc ks T' (mkF m pc' ls (v.toList ++ rest))) : own_Ends p e below s Q kc ks T (mkF m pc ls st) := by
  subst hp hret
  obtain ⟨v, _, ⟨T1, L1, k1, n1⟩, -, X1, ⟨Lc, hQ, r1, r2, r3⟩, st1⟩ := X.specialBack hx (y := y) hinit hown (mvT hZ wl) (mvT hZ wm) (mvT hZ wc) hy (backOf (W := W) hM hZ wc wi hf hlo) (g := mkF m pc ls st) rfl hsz (Steps.refl _) (a := b) (argsL := argsL) (rest := rest) hlen hst hW hd (fun _ _ => ⟨rfl, eT, hcl, hsl⟩)
  dsimp only [Pt.U, Pt.locs, Pt.cells, Pt.slots] at X1 r1 r2 r3 st1 hQ
  subst r1 r2 r3
  exact own_go (fun t k => st1.trans k) (K T1 Lc v X1 hQ)
theorem own_callV (X : Stand p l e R s m args below meth c T locs cells slots) (hx : p.tables.exec = Jvm.exec) {b : Addr} {C : String} {Z : State} {a0 : Array Value} {h : Heap} {own : String} {ix : Nat} {y : MethodName} {bytes : ByteArray} {maxL W : Nat} {ret : Option FieldType} {rm : Room} {Qc : Option Value → Heap → List Loc → Prop} {argsL rest : List Value} (hZ : Z.Warmed39 s.vm) (eT : T.heap = h) (hown : s.vm.findClass own = some m.cls) (hsz : ls.size = c.maxLocals) (E : Exa Z h b C) (wl : (Jvm.Cond.methodLink own ix y).before a0 Z = true) (wd : (Jvm.Cond.declares y).before a0 Z = true) (wsel : (Jvm.Cond.selects C y y).before a0 Z = true) (wm : (Jvm.Cond.instanceMethod y).before a0 Z = true) (wi : (Jvm.Cond.initialized y.cls).before a0 Z = true) (wc : (Jvm.Cond.code y bytes maxL ret).before a0 Z = true) (hy : y.cls ≠ "java/lang/invoke/MethodHandle" ∧ y.cls ≠ "java/lang/invoke/VarHandle") (hM : MetFree l y (head1 [Jvm.Cond.code y bytes maxL ret] rm) (fun a U => a = (Value.ref b :: argsL).toArray ∧ Z.Warmed39 U.vm ∧ U.heap = h) (fun _ _ _ _ _ => True) (fun _ U o U' => ∃ v L, o = .returned v ∧ Qc v U'.heap L ∧ FrameEnd U o U' L rm.cells rm.slots)) (hf : rm.frames + 1 ≤ R.frames) (hlo : W + (maxL + 11) + rm.locals ≤ R.locals) (hcl : cells + rm.cells ≤ R.cells) (hsl : slots + rm.slots ≤ R.slots)
    (hlen : ∀ sig, parseMethodDescriptor y.desc = some sig → argsL.length = sig.parameters.length) (hst : st = argsL.reverse ++ .ref b :: rest) (hW : 2 * 0 + (rest.map fun v => v.category).sum ≤ W) (hd : decode c.code pc = .ok (.invokevirtual ix, 3)) (hp : pc + 3 = pc') (K : ∀ T' L v, Stand p l e R s m args below meth c T' (locs ++ L) (cells + rm.cells) (slots + rm.slots) → Qc v T'.heap L → own_Ends p e below s Q kc ks T' (mkF m pc' ls (v.toList ++ rest))) : own_Ends p e below s Q kc ks T (mkF m pc ls st) := by
  subst hp
  obtain ⟨cq, kq, qa, qb, qc⟩ := isOf hZ eT E
  obtain ⟨v, _, ⟨T1, L1, k1, n1⟩, -, X1, ⟨Lc, hQ, r1, r2, r3⟩, st1⟩ := X.virtualBack hx (y := y) (z := y) hown (mvT hZ wl) (mvT hZ wd) (notFace_of_selects (args := #[]) (mvT hZ wsel)) (mvT hZ wsel) (mvT hZ wm) hy (backOf (W := W) hM hZ wc wi hf hlo) qa qc (g := mkF m pc ls st) rfl hsz (Steps.refl _) (argsL := argsL) (rest := rest) hlen hst hW hd (fun _ _ => ⟨rfl, eT, hcl, hsl⟩)
  dsimp only [Pt.U, Pt.locs, Pt.cells, Pt.slots] at X1 r1 r2 r3 st1 hQ
  subst r1 r2 r3
  exact own_go (fun t k => st1.trans k) (K T1 Lc v X1 hQ)
theorem own_callP (X : Stand p l e R s m args below meth c T locs cells slots) (hx : p.tables.exec = Jvm.exec) {b : Addr} {C : String} {Z : State} {a0 : Array Value} {h : Heap} {own : String} {ix : Nat} {y : MethodName} {bytes : ByteArray} {maxL W : Nat} {ret : Option FieldType} {rm : Room} {Qc : Option Value → Heap → List Loc → Prop} {argsL rest : List Value} (hZ : Z.Warmed39 s.vm) (eT : T.heap = h) (hown : s.vm.findClass own = some m.cls) (hsz : ls.size = c.maxLocals) (E : Exa Z h b C) (wl : (Jvm.Cond.methodLink own ix y).before a0 Z = true) (wsel : (Jvm.Cond.selects y.cls y y).before a0 Z = true) (wp : (Jvm.Cond.privateMethod y).before a0 Z = true) (wm : (Jvm.Cond.instanceMethod y).before a0 Z = true) (wi : (Jvm.Cond.initialized y.cls).before a0 Z = true) (wc : (Jvm.Cond.code y bytes maxL ret).before a0 Z = true) (hy : y.cls ≠ "java/lang/invoke/MethodHandle" ∧ y.cls ≠ "java/lang/invoke/VarHandle") (hM : MetFree l y (head1 [Jvm.Cond.code y bytes maxL ret] rm) (fun a U => a = (Value.ref b :: argsL).toArray ∧ Z.Warmed39 U.vm ∧ U.heap = h) (fun _ _ _ _ _ => True) (fun _ U o U' => ∃ v L, o = .returned v ∧ Qc v U'.heap L ∧ FrameEnd U o U' L rm.cells rm.slots)) (hf : rm.frames + 1 ≤ R.frames) (hlo : W + (maxL + 11) + rm.locals ≤ R.locals) (hcl : cells + rm.cells ≤ R.cells) (hsl : slots + rm.slots ≤ R.slots)
    (hlen : ∀ sig, parseMethodDescriptor y.desc = some sig → argsL.length = sig.parameters.length) (hst : st = argsL.reverse ++ .ref b :: rest) (hW : 2 * 0 + (rest.map fun v => v.category).sum ≤ W) (hd : decode c.code pc = .ok (.invokevirtual ix, 3)) (hp : pc + 3 = pc') (K : ∀ T' L v, Stand p l e R s m args below meth c T' (locs ++ L) (cells + rm.cells) (slots + rm.slots) → Qc v T'.heap L → own_Ends p e below s Q kc ks T' (mkF m pc' ls (v.toList ++ rest))) : own_Ends p e below s Q kc ks T (mkF m pc ls st) := by
  subst hp
  obtain ⟨cq, qa, qb⟩ := E.cell
  obtain ⟨v, _, ⟨T1, L1, k1, n1⟩, -, X1, ⟨Lc, hQ, r1, r2, r3⟩, st1⟩ := X.privateBack hx (y := y) hown (mvT hZ wl) (mvT hZ wm) (mvT hZ wsel) (Jvm.Cond.privateMethod_at (mvP hZ wp (args := #[]))) (mvT hZ wc) hy (backOf (W := W) hM hZ wc wi hf hlo) (g := mkF m pc ls st) rfl hsz (Steps.refl _) (a := b) (by rw [eT]; exact qa) qb (argsL := argsL) (rest := rest) hlen hst hW hd (fun _ _ => ⟨rfl, eT, hcl, hsl⟩)
  dsimp only [Pt.U, Pt.locs, Pt.cells, Pt.slots] at X1 r1 r2 r3 st1 hQ
  subst r1 r2 r3
  exact own_go (fun t k => st1.trans k) (K T1 Lc v X1 hQ)
theorem own_mvM {Z : State} {a0 args : Array Value} {own host : String} {ix : Nat} {y : MethodName} (hZ : Z.Warmed39 s.vm) (w : (Jvm.Cond.methodLinkNest own ix y host).before a0 Z = true) : (Jvm.Cond.methodLinkNest own ix y host).before args s = true := (Jvm.Cond.methodLinkNest_wide hZ w :)
theorem own_callN (X : Stand p l e R s m args below meth c T locs cells slots) (hx : p.tables.exec = Jvm.exec) {b : Addr} {host : String} {Z : State} {a0 : Array Value} {h : Heap} {own : String} {ix : Nat} {y : MethodName} {bytes : ByteArray} {maxL W : Nat} {ret : Option FieldType} {rm : Room} {Qc : Option Value → Heap → List Loc → Prop} {argsL rest : List Value} (hZ : Z.Warmed39 s.vm) (eT : T.heap = h) (hown : s.vm.findClass own = some m.cls) (hsz : ls.size = c.maxLocals) (hret : ret = none) (hinit : y.name = "<init>") (wl : (Jvm.Cond.methodLinkNest own ix y host).before a0 Z = true) (wm : (Jvm.Cond.instanceMethod y).before a0 Z = true) (wi : (Jvm.Cond.initialized y.cls).before a0 Z = true) (wc : (Jvm.Cond.code y bytes maxL ret).before a0 Z = true) (hy : y.cls ≠ "java/lang/invoke/MethodHandle" ∧ y.cls ≠ "java/lang/invoke/VarHandle") (hM : MetFree l y (head1 [Jvm.Cond.code y bytes maxL ret] rm) (fun a U => a = (Value.ref b :: argsL).toArray ∧ Z.Warmed39 U.vm ∧ U.heap = h) (fun _ _ _ _ _ => True) (fun _ U o U' => ∃ v L, o = .returned v ∧ Qc v U'.heap L ∧ FrameEnd U o U' L rm.cells rm.slots)) (hf : rm.frames + 1 ≤ R.frames) (hlo : W + (maxL + 11) + rm.locals ≤ R.locals) (hcl : cells + rm.cells ≤ R.cells) (hsl : slots + rm.slots ≤ R.slots)
    (hlen : ∀ sig, parseMethodDescriptor y.desc = some sig → argsL.length = sig.parameters.length) (hst : st = argsL.reverse ++ .ref b :: rest) (hW : 2 * 0 + (rest.map fun v => v.category).sum ≤ W) (hd : decode c.code pc = .ok (.invokespecial ix, 3)) (hp : pc + 3 = pc') (K : ∀ T' L v, Stand p l e R s m args below meth c T' (locs ++ L) (cells + rm.cells) (slots + rm.slots) → Qc v T'.heap L → own_Ends p e below s Q kc ks T' (mkF m pc' ls (v.toList ++ rest))) : own_Ends p e below s Q kc ks T (mkF m pc ls st) := by
  subst hp hret
  obtain ⟨v, _, ⟨T1, L1, k1, n1⟩, -, X1, ⟨Lc, hQ, r1, r2, r3⟩, st1⟩ := X.specialBackNest hx (y := y) hinit hown (own_mvM hZ wl) (mvT hZ wm) (mvT hZ wc) hy (backOf (W := W) hM hZ wc wi hf hlo) (g := mkF m pc ls st) rfl hsz (Steps.refl _) (a := b) (argsL := argsL) (rest := rest) hlen hst hW hd (fun _ _ => ⟨rfl, eT, hcl, hsl⟩)
  dsimp only [Pt.U, Pt.locs, Pt.cells, Pt.slots] at X1 r1 r2 r3 st1 hQ
  subst r1 r2 r3
  exact own_go (fun t k => st1.trans k) (K T1 Lc v X1 hQ)
theorem own_anewarr (X : Stand p l e R s m args below meth c T locs cells slots) (hx : p.tables.exec = Jvm.exec) {Z : State} {a0 : Array Value} {h : Heap} {own C : String} {ix : Nat} (hZ : Z.Warmed39 s.vm) (hown : s.vm.findClass own = some m.cls) (w1 : (Jvm.Cond.classLink own ix C).before a0 Z = true) (w2 : (Jvm.Cond.arrayOver (.object C)).before a0 Z = true) (eT : T.heap = h) (hd : decode c.code pc = .ok (.anewarray ix, 3)) (hp : pc + 3 = pc') {n : Int32} (hn : ¬ n < 0) (cap q : Nat) (hcap : n.toNatClampNeg ≤ cap) (hb : cap * 8 ≤ 536870912) (hc : cells + 1 ≤ R.cells) (hl : slots + cap ≤ R.slots) {ad : String} (had : "[" ++ (FieldType.object C).toString = ad)
    (K : ∀ T' h' a k, Stand p l e R s m args below meth c T' locs (cells + 1) (slots + cap) → T'.heap = h' → Ext h h' → a = h.size → Arv Z h' a k (.object C) n (List.replicate q .null) .null → Exa Z h' a ad → Ovr Z k C → own_Ends p e below s Q kc ks T' (mkF m pc' ls (.ref a :: st))) : own_Ends p e below s Q kc ks T (mkF m pc ls (.int n :: st)) := by
  subst hp
  obtain ⟨T1, h1, k1, X1, e1, E1, A1, Z1, O1, st1⟩ := newRE X hx hZ hown w1 w2 eT (g := mkF m pc ls (.int n :: st)) rfl hd rfl hn (cap := cap) hcap hb hc hl had
  exact own_go st1 (K T1 h1 _ k1 X1 e1 E1 rfl ((Arv.new A1 hn).pad (pad_rep [] _ q)) Z1 O1)
theorem own_aastore (X : Stand p l e R s m args below meth c T locs cells slots) (hx : p.tables.exec = Jvm.exec) {Z : State} {h : Heap} {a b : Addr} {k : ClassId} {C D : String} {n j : Int32} {vs : List Value} {d : Value} (hZ : Z.Warmed39 s.vm) (eT : T.heap = h) (V : Arv Z h a k (.object D) n vs d) (O : Ovr Z k C) (I : Ins Z h b C true) (hd : decode c.code pc = .ok (.aastore, 1)) (hp : pc + 1 = pc') (hj : ¬ j < 0 ∧ j < n) (i : Nat) (hi : j.toNatClampNeg = i) (hl : i < vs.length) {n0 : Nat} (N : Fr n0 locs) (ge : n0 ≤ a)
    (K : ∀ T' h' L, Stand p l e R s m args below meth c T' L cells slots → T'.heap = h' → Fr n0 L → Wr h h' a j.toNatClampNeg (.ref b) → Arv Z h' a k (.object D) n (vs.set i (.ref b)) d → own_Ends p e below s Q kc ks T' (mkF m pc' ls st)) : own_Ends p e below s Q kc ks T (mkF m pc ls (.ref b :: .int j :: .ref a :: st)) := by
  subst hp
  obtain ⟨cl, A, q1, S, q2, H, G⟩ := V
  have hin := inb_of S hj
  obtain ⟨T1, h1, X1, e1, W1, st1⟩ := stR X hx hZ eT A (j := j) hin rfl (Sto.ofV A q1 O I) (g := mkF m pc ls (.ref b :: .int j :: .ref a :: st)) rfl rfl hd
  exact own_go st1 (K T1 h1 _ X1 e1 (Fr.snoc X1 N ge) W1 (Arv.set A q1 S q2 H G rfl W1 i hi hl))
theorem own_tswIn (X : Stand p l e R s m args below meth c T locs cells slots) (hx : p.tables.exec = Jvm.exec) {d lo hi o : Int} {offs : Array Int} {len : Nat} {i : Int32} (hd : decode c.code pc = .ok (.tableswitch d lo hi offs, len)) (hin : ¬ (i.toInt < lo ∨ i.toInt > hi)) (hoff : offs[(i.toInt - lo).toNat]? = some o) (ho : 0 ≤ (pc : Int) + o) (hp : ((pc : Int) + o).toNat = pc') (K : own_Ends p e below s Q kc ks T (mkF m pc' ls st)) : own_Ends p e below s Q kc ks T (mkF m pc ls (.int i :: st)) :=
  own_go (fun t k => XS.tswIn X.here hx rfl rfl hd rfl hin hoff ho hp k) K
theorem own_tswOut (X : Stand p l e R s m args below meth c T locs cells slots) (hx : p.tables.exec = Jvm.exec) {d lo hi : Int} {offs : Array Int} {len : Nat} {i : Int32} (hd : decode c.code pc = .ok (.tableswitch d lo hi offs, len)) (hout : i.toInt < lo ∨ i.toInt > hi) (ho : 0 ≤ (pc : Int) + d) (hp : ((pc : Int) + d).toNat = pc') (K : own_Ends p e below s Q kc ks T (mkF m pc' ls st)) : own_Ends p e below s Q kc ks T (mkF m pc ls (.int i :: st)) :=
  own_go (fun t k => XS.tswOut X.here hx rfl rfl hd rfl hout ho hp k) K
theorem own_ext {h h' : Heap} (K : Keep h h' []) : Ext h h' := ⟨K.1, fun a c q => K.2.1 a c q nin0⟩
theorem own_stak {Z : State} {h h' : Heap} {ws : List Addr} {C n d : String} {v : Value} (F : Sta Z h C n d v) (K : Keep h h' ws) (q : ∀ x ∈ ws, ∃ c : Cell, h[x]? = some c ∧ c.vm.isStatics = false) : Sta Z h' C n d v := by
  obtain ⟨cf, i, k, f, st, cell, h1, h2, h3, h4, h5, h6, h7⟩ := F
  refine ⟨cf, i, k, f, st, cell, h1, h2, h3, h4, K.2.1 st cell h5 (fun z => ?_), h6, h7⟩
  obtain ⟨c, q1, q2⟩ := q st z
  cases h5.symm.trans q1
  rw [h6] at q2; cases q2
theorem own_exac {Z : State} {h : Heap} {a : Addr} {C : String} (F : Exa Z h a C) : ∃ c : Cell, h[a]? = some c ∧ c.vm.isStatics = false := by
  obtain ⟨c, _, h1, -, -, h4, -⟩ := F; exact ⟨c, h1, h4⟩
theorem own_arvc {Z : State} {h : Heap} {a : Addr} {k : ClassId} {ty : FieldType} {n : Int32} {vs : List Value} {d : Value} (F : Arv Z h a k ty n vs d) : ∃ c : Cell, h[a]? = some c ∧ c.vm.isStatics = false := by
  obtain ⟨c, A, -⟩ := F; exact ⟨c, A.1, A.plain⟩
end Own
theorem own_w0 {Z : State} {a0 : Array Value} (hw : ∀ d ∈ tables_1, d.before a0 Z = true) : (Jvm.Cond.arrayClass Jvm.ClassFile.FieldType.int).before a0 Z = true := hw _ (List.mem_of_getElem? (i := 0) rfl)
theorem own_w1 {Z : State} {a0 : Array Value} (hw : ∀ d ∈ tables_1, d.before a0 Z = true) : (Jvm.Cond.methodLink "com/example/skewcube/skewcube/AccumulatorReorderedPinLaw" (7 : Nat) ({ cls := "com/example/skewcube/skewcube/AccumulatorReorderedPinLaw", name := "makeOrder", desc := "(IIIII)[I" } : Jvm.MethodName)).before a0 Z = true := hw _ (List.mem_of_getElem? (i := 1) rfl)
theorem own_w2 {Z : State} {a0 : Array Value} (hw : ∀ d ∈ tables_1, d.before a0 Z = true) : (Jvm.Cond.static ({ cls := "com/example/skewcube/skewcube/AccumulatorReorderedPinLaw", name := "makeOrder", desc := "(IIIII)[I" } : Jvm.MethodName)).before a0 Z = true := hw _ (List.mem_of_getElem? (i := 2) rfl)
theorem own_w3 {Z : State} {a0 : Array Value} (hw : ∀ d ∈ tables_1, d.before a0 Z = true) : (Jvm.Cond.initialized "com/example/skewcube/skewcube/AccumulatorReorderedPinLaw").before a0 Z = true := hw _ (List.mem_of_getElem? (i := 3) rfl)
theorem own_w4 {Z : State} {a0 : Array Value} (hw : ∀ d ∈ tables_1, d.before a0 Z = true) : (Jvm.Cond.code ({ cls := "com/example/skewcube/skewcube/AccumulatorReorderedPinLaw", name := "makeOrder", desc := "(IIIII)[I" } : Jvm.MethodName) method_2_code (5 : Nat) (Option.some (Jvm.ClassFile.FieldType.array Jvm.ClassFile.FieldType.int))).before a0 Z = true := hw _ (List.mem_of_getElem? (i := 4) rfl)
theorem own_w5 {Z : State} {a0 : Array Value} (hw : ∀ d ∈ tables_1, d.before a0 Z = true) : (Jvm.Cond.methodLink "com/example/skewcube/skewcube/AccumulatorReorderedPinLaw" (13 : Nat) ({ cls := "com/example/skewcube/skewcube/Accumulator", name := "reordered", desc := "([I[I)[I" } : Jvm.MethodName)).before a0 Z = true := hw _ (List.mem_of_getElem? (i := 5) rfl)
theorem own_w6 {Z : State} {a0 : Array Value} (hw : ∀ d ∈ tables_1, d.before a0 Z = true) : (Jvm.Cond.static ({ cls := "com/example/skewcube/skewcube/Accumulator", name := "reordered", desc := "([I[I)[I" } : Jvm.MethodName)).before a0 Z = true := hw _ (List.mem_of_getElem? (i := 6) rfl)
theorem own_w7 {Z : State} {a0 : Array Value} (hw : ∀ d ∈ tables_1, d.before a0 Z = true) : (Jvm.Cond.initialized "com/example/skewcube/skewcube/Accumulator").before a0 Z = true := hw _ (List.mem_of_getElem? (i := 7) rfl)
theorem own_w8 {Z : State} {a0 : Array Value} (hw : ∀ d ∈ tables_1, d.before a0 Z = true) : (Jvm.Cond.code ({ cls := "com/example/skewcube/skewcube/Accumulator", name := "reordered", desc := "([I[I)[I" } : Jvm.MethodName) prog_1_method_8_code (4 : Nat) (Option.some (Jvm.ClassFile.FieldType.array Jvm.ClassFile.FieldType.int))).before a0 Z = true := hw _ (List.mem_of_getElem? (i := 8) rfl)
theorem own_w9 {Z : State} {a0 : Array Value} (hw : ∀ d ∈ tables_1, d.before a0 Z = true) : (Jvm.Cond.methodLink "com/example/skewcube/skewcube/AccumulatorReorderedPinLaw" (19 : Nat) ({ cls := "com/example/skewcube/skewcube/AccumulatorReorderedPinLaw", name := "pick", desc := "(IIIII)I" } : Jvm.MethodName)).before a0 Z = true := hw _ (List.mem_of_getElem? (i := 9) rfl)
theorem own_w10 {Z : State} {a0 : Array Value} (hw : ∀ d ∈ tables_1, d.before a0 Z = true) : (Jvm.Cond.static ({ cls := "com/example/skewcube/skewcube/AccumulatorReorderedPinLaw", name := "pick", desc := "(IIIII)I" } : Jvm.MethodName)).before a0 Z = true := hw _ (List.mem_of_getElem? (i := 10) rfl)
theorem own_w11 {Z : State} {a0 : Array Value} (hw : ∀ d ∈ tables_1, d.before a0 Z = true) : (Jvm.Cond.code ({ cls := "com/example/skewcube/skewcube/AccumulatorReorderedPinLaw", name := "pick", desc := "(IIIII)I" } : Jvm.MethodName) method_3_code (5 : Nat) (Option.some Jvm.ClassFile.FieldType.int)).before a0 Z = true := hw _ (List.mem_of_getElem? (i := 11) rfl)
theorem own_pd0 : parseMethodDescriptor "(IIIII)[I" = some ⟨[.int, .int, .int, .int, .int], some (.array .int)⟩ := by decide +kernel
theorem own_pd1 : parseMethodDescriptor "([I[I)[I" = some ⟨[(.array .int), (.array .int)], some (.array .int)⟩ := by decide +kernel
theorem own_pd2 : parseMethodDescriptor "(IIIII)I" = some ⟨[.int, .int, .int, .int, .int], some .int⟩ := by decide +kernel
theorem own_pn0 : plainName "com/example/skewcube/skewcube/AccumulatorReorderedPinLaw" = true := by first | (simp [plainName, overriddenIn]; done) | decide +kernel
theorem own_pn1 : plainName "com/example/skewcube/skewcube/Accumulator" = true := by first | (simp [plainName, overriddenIn]; done) | decide +kernel
theorem own_arrat {s : State} {a : Addr} {c : Cell} (h : s.arrayAt? a = some c) : s.heap[a]? = some c := by
  unfold State.arrayAt? at h
  cases q : s.heap[a]? with
  | none => simp [q] at h
  | some d =>
    simp [q] at h
    obtain ⟨k, -, h2⟩ := Option.bind_eq_some_iff.mp h
    split at h2
    · cases h2
    · split at h2
      · exact h2
      · cases h2
theorem own_b1 {x a b : Int32} (h : x < a) (q : ¬ b < a) : x < b := by rw [Int32.lt_iff_toInt_lt] at *; omega
theorem own_b2 {x a b : Int32} (h : ¬ x < a) (q : ¬ a < b) : ¬ x < b := by rw [Int32.lt_iff_toInt_lt] at *; omega
theorem own_b3 {x a b : Int32} (h : a < x) (q : ¬ a < b) : b < x := by rw [Int32.lt_iff_toInt_lt] at *; omega
theorem own_b4 {x a b : Int32} (h : ¬ a < x) (q : ¬ b < a) : ¬ b < x := by rw [Int32.lt_iff_toInt_lt] at *; omega
theorem own_b5 {x a b : Int32} (h : x < a) (q : ¬ b < a - 1 ∧ a - 1 < a) : ¬ b < x := by
  obtain ⟨q1, q2⟩ := q
  have := c_isub a 1; have := rng32 a; have := rng32 (a - 1); have e1 : (1 : Int32).toInt = 1 := rfl
  rw [Int32.lt_iff_toInt_lt] at *; omega
theorem own_b6 {x a b : Int32} (h : ¬ x < a) (q : b < a) : b < x := by rw [Int32.lt_iff_toInt_lt] at *; omega
theorem own_b7 {x a b : Int32} (h : a < x) (q : ¬ a + 1 < b ∧ a < a + 1) : ¬ x < b := by
  obtain ⟨q1, q2⟩ := q
  have := c_iadd a 1; have := rng32 a; have := rng32 (a + 1); have e1 : (1 : Int32).toInt = 1 := rfl
  rw [Int32.lt_iff_toInt_lt] at *; omega
theorem own_b8 {x a b : Int32} (h : ¬ a < x) (q : a < b) : x < b := by rw [Int32.lt_iff_toInt_lt] at *; omega
theorem own_n1 {x b : Int32} (h : x < b) : ¬ x = b := fun q => by subst q; rw [Int32.lt_iff_toInt_lt] at h; omega
theorem own_n2 {x b : Int32} (h : b < x) : ¬ x = b := fun q => by subst q; rw [Int32.lt_iff_toInt_lt] at h; omega
theorem own_i1 {x y : Int32} (h : x < y) : x.toInt < y.toInt := Int32.lt_iff_toInt_lt.mp h
theorem own_i2 {x y : Int32} (h : ¬ x < y) : y.toInt ≤ x.toInt := Int.not_lt.mp fun q => h (Int32.lt_iff_toInt_lt.mpr q)
theorem own_i3 {x y : Int32} (h : x = y) : x.toInt = y.toInt := congrArg Int32.toInt h
theorem own_i4 {x y : Int32} (h : ¬ x = y) : ¬ x.toInt = y.toInt := fun q => h (Int32.toInt_inj.mp q)
theorem own_some {x y : Int32} (h : x = y) : some (Value.int x) = some (Value.int y) := congrArg (fun z => some (Value.int z)) h
theorem own_ae1 {a b : Addr} (h : a = b) : XT.acmp .eq (.ref a) (.ref b) = true ∧ XT.acmp .ne (.ref a) (.ref b) = false := ⟨decide_eq_true (congrArg Value.ref h), decide_eq_false fun q => q (congrArg Value.ref h)⟩
theorem own_ae0 {a b : Addr} (h : ¬ a = b) : XT.acmp .eq (.ref a) (.ref b) = false ∧ XT.acmp .ne (.ref a) (.ref b) = true := ⟨decide_eq_false fun q => h (Value.ref.inj q), decide_eq_true fun q => h (Value.ref.inj q)⟩
theorem own_ann : XT.acmp .eq .null .null = true ∧ XT.acmp .ne .null .null = false := ⟨rfl, rfl⟩
theorem own_anr (b : Addr) : XT.acmp .eq .null (.ref b) = false ∧ XT.acmp .ne .null (.ref b) = true := by constructor <;> first | rfl | (simp [XT.acmp]; done) | decide
theorem own_arn (b : Addr) : XT.acmp .eq (.ref b) .null = false ∧ XT.acmp .ne (.ref b) .null = true := by constructor <;> first | rfl | (simp [XT.acmp]; done) | decide
theorem own_eqi {args : Array Value} {s : State} {t : Term} {k : Int32} (h : (Jvm.Cond.eq t (Term.int k)).value args s none s [] = some true) : t.eval args s none [] s = some (.int k) := by
  obtain ⟨x, y, e1, e2, k1, k2⟩ := cmp_v (Or.inl h)
  obtain rfl : Value.int k = y := Option.some.inj ((Term.int_eval k).symm.trans e2)
  obtain ⟨z, rfl⟩ : ∃ z, x = .int z := k2
  have q : z = k := gotT (Cond.eq_ints e1 (Term.int_eval k)) h
  rw [e1, q]
theorem own_eql {args : Array Value} {s : State} {t : Term} {k : Int64} (h : (Jvm.Cond.eq t (Term.long k)).value args s none s [] = some true) : t.eval args s none [] s = some (.long k) := by
  obtain ⟨x, y, e1, e2, k1, k2⟩ := cmp_v (Or.inl h)
  obtain rfl : Value.long k = y := Option.some.inj ((show (Term.long k).eval args s none [] s = some (.long k) from rfl).symm.trans e2)
  obtain ⟨z, rfl⟩ : ∃ z, x = .long z := k2
  have q : z = k := gotT (eq_L e1 (show (Term.long k).eval args s none [] s = some (.long k) from rfl)) h
  rw [e1, q]
theorem own_len {args : Array Value} {s : State} {t : Term} {k : Int32} {a : Addr} {c : Cell} (h : (Term.length t).eval args s none [] s = some (.int k)) (ht : t.eval args s none [] s = some (.ref a)) (hc : s.heap[a]? = some c) : c.slots.size.toInt32 = k ∧ c.slots.size < 2 ^ 31 := by
  obtain ⟨a', cell, e1, e2, e3⟩ := Term.length_spec h
  cases ht.symm.trans e1
  have e4 : s.heap[a]? = some cell := own_arrat e2
  cases hc.symm.trans e4
  refine ⟨(Value.int.inj e3).symm, ?_⟩
  by_cases q : c.slots.size < 2 ^ 31
  · exact q
  · simp [Term.eval, ht, e2, q] at h
theorem own_nb0 : nar .boolean 0 = 0 := by decide
theorem own_nb1 : nar .boolean 1 = 1 := by decide
def own_ushr (x y : Int32) : Int32 := (x.toUInt32 >>> (y &&& 31).toUInt32).toInt32
def own_ushrL (x : Int64) (y : Int32) : Int64 := (x.toUInt64 >>> (y &&& 0x3f).toInt64.toUInt64).toInt64
theorem own_d1_0 : decode method_2_code 0 = .ok (.iload_n 0, 1) := by decide +kernel
theorem own_d1_1 : decode method_2_code 1 = .ok (.ifCond .ne 7, 3) := by decide +kernel
theorem own_d1_4 : decode method_2_code 4 = .ok (.iconst 0, 1) := by decide +kernel
theorem own_d1_5 : decode method_2_code 5 = .ok (.newarray .int, 2) := by decide +kernel
theorem own_d1_7 : decode method_2_code 7 = .ok (.areturn, 1) := by decide +kernel
theorem own_d1_8 : decode method_2_code 8 = .ok (.iload_n 0, 1) := by decide +kernel
theorem own_d1_9 : decode method_2_code 9 = .ok (.iconst 1, 1) := by decide +kernel
theorem own_d1_10 : decode method_2_code 10 = .ok (.if_icmp .ne 11, 3) := by decide +kernel
theorem own_d1_13 : decode method_2_code 13 = .ok (.iconst 1, 1) := by decide +kernel
theorem own_d1_14 : decode method_2_code 14 = .ok (.newarray .int, 2) := by decide +kernel
theorem own_d1_16 : decode method_2_code 16 = .ok (.dup, 1) := by decide +kernel
theorem own_d1_17 : decode method_2_code 17 = .ok (.iconst 0, 1) := by decide +kernel
theorem own_d1_18 : decode method_2_code 18 = .ok (.iload_n 1, 1) := by decide +kernel
theorem own_d1_19 : decode method_2_code 19 = .ok (.iastore, 1) := by decide +kernel
theorem own_d1_20 : decode method_2_code 20 = .ok (.areturn, 1) := by decide +kernel
theorem own_d1_21 : decode method_2_code 21 = .ok (.iload_n 0, 1) := by decide +kernel
theorem own_d1_22 : decode method_2_code 22 = .ok (.iconst 2, 1) := by decide +kernel
theorem own_d1_23 : decode method_2_code 23 = .ok (.if_icmp .ne 15, 3) := by decide +kernel
theorem own_d1_26 : decode method_2_code 26 = .ok (.iconst 2, 1) := by decide +kernel
theorem own_d1_27 : decode method_2_code 27 = .ok (.newarray .int, 2) := by decide +kernel
theorem own_d1_29 : decode method_2_code 29 = .ok (.dup, 1) := by decide +kernel
theorem own_d1_30 : decode method_2_code 30 = .ok (.iconst 0, 1) := by decide +kernel
theorem own_d1_31 : decode method_2_code 31 = .ok (.iload_n 1, 1) := by decide +kernel
theorem own_d1_32 : decode method_2_code 32 = .ok (.iastore, 1) := by decide +kernel
theorem own_d1_33 : decode method_2_code 33 = .ok (.dup, 1) := by decide +kernel
theorem own_d1_34 : decode method_2_code 34 = .ok (.iconst 1, 1) := by decide +kernel
theorem own_d1_35 : decode method_2_code 35 = .ok (.iload_n 2, 1) := by decide +kernel
theorem own_d1_36 : decode method_2_code 36 = .ok (.iastore, 1) := by decide +kernel
theorem own_d1_37 : decode method_2_code 37 = .ok (.areturn, 1) := by decide +kernel
theorem own_d1_38 : decode method_2_code 38 = .ok (.iload_n 0, 1) := by decide +kernel
theorem own_d1_39 : decode method_2_code 39 = .ok (.iconst 3, 1) := by decide +kernel
theorem own_d1_40 : decode method_2_code 40 = .ok (.if_icmp .ne 19, 3) := by decide +kernel
theorem own_d1_43 : decode method_2_code 43 = .ok (.iconst 3, 1) := by decide +kernel
theorem own_d1_44 : decode method_2_code 44 = .ok (.newarray .int, 2) := by decide +kernel
theorem own_d1_46 : decode method_2_code 46 = .ok (.dup, 1) := by decide +kernel
theorem own_d1_47 : decode method_2_code 47 = .ok (.iconst 0, 1) := by decide +kernel
theorem own_d1_48 : decode method_2_code 48 = .ok (.iload_n 1, 1) := by decide +kernel
theorem own_d1_49 : decode method_2_code 49 = .ok (.iastore, 1) := by decide +kernel
theorem own_d1_50 : decode method_2_code 50 = .ok (.dup, 1) := by decide +kernel
theorem own_d1_51 : decode method_2_code 51 = .ok (.iconst 1, 1) := by decide +kernel
theorem own_d1_52 : decode method_2_code 52 = .ok (.iload_n 2, 1) := by decide +kernel
theorem own_d1_53 : decode method_2_code 53 = .ok (.iastore, 1) := by decide +kernel
theorem own_d1_54 : decode method_2_code 54 = .ok (.dup, 1) := by decide +kernel
theorem own_d1_55 : decode method_2_code 55 = .ok (.iconst 2, 1) := by decide +kernel
theorem own_d1_56 : decode method_2_code 56 = .ok (.iload_n 3, 1) := by decide +kernel
theorem own_d1_57 : decode method_2_code 57 = .ok (.iastore, 1) := by decide +kernel
theorem own_d1_58 : decode method_2_code 58 = .ok (.areturn, 1) := by decide +kernel
theorem own_d1_59 : decode method_2_code 59 = .ok (.iconst 4, 1) := by decide +kernel
theorem own_d1_60 : decode method_2_code 60 = .ok (.newarray .int, 2) := by decide +kernel
theorem own_d1_62 : decode method_2_code 62 = .ok (.dup, 1) := by decide +kernel
theorem own_d1_63 : decode method_2_code 63 = .ok (.iconst 0, 1) := by decide +kernel
theorem own_d1_64 : decode method_2_code 64 = .ok (.iload_n 1, 1) := by decide +kernel
theorem own_d1_65 : decode method_2_code 65 = .ok (.iastore, 1) := by decide +kernel
theorem own_d1_66 : decode method_2_code 66 = .ok (.dup, 1) := by decide +kernel
theorem own_d1_67 : decode method_2_code 67 = .ok (.iconst 1, 1) := by decide +kernel
theorem own_d1_68 : decode method_2_code 68 = .ok (.iload_n 2, 1) := by decide +kernel
theorem own_d1_69 : decode method_2_code 69 = .ok (.iastore, 1) := by decide +kernel
theorem own_d1_70 : decode method_2_code 70 = .ok (.dup, 1) := by decide +kernel
theorem own_d1_71 : decode method_2_code 71 = .ok (.iconst 2, 1) := by decide +kernel
theorem own_d1_72 : decode method_2_code 72 = .ok (.iload_n 3, 1) := by decide +kernel
theorem own_d1_73 : decode method_2_code 73 = .ok (.iastore, 1) := by decide +kernel
theorem own_d1_74 : decode method_2_code 74 = .ok (.dup, 1) := by decide +kernel
theorem own_d1_75 : decode method_2_code 75 = .ok (.iconst 3, 1) := by decide +kernel
theorem own_d1_76 : decode method_2_code 76 = .ok (.iload 4, 2) := by decide +kernel
theorem own_d1_78 : decode method_2_code 78 = .ok (.iastore, 1) := by decide +kernel
theorem own_d1_79 : decode method_2_code 79 = .ok (.areturn, 1) := by decide +kernel
theorem own_d2_0 : decode prog_1_method_8_code 0 = .ok (.aload_n 1, 1) := by decide +kernel
theorem own_d2_1 : decode prog_1_method_8_code 1 = .ok (.arraylength, 1) := by decide +kernel
theorem own_d2_2 : decode prog_1_method_8_code 2 = .ok (.newarray .int, 2) := by decide +kernel
theorem own_d2_4 : decode prog_1_method_8_code 4 = .ok (.astore_n 2, 1) := by decide +kernel
theorem own_d2_5 : decode prog_1_method_8_code 5 = .ok (.iconst 0, 1) := by decide +kernel
theorem own_d2_6 : decode prog_1_method_8_code 6 = .ok (.istore_n 3, 1) := by decide +kernel
theorem own_d2_7 : decode prog_1_method_8_code 7 = .ok (.iload_n 3, 1) := by decide +kernel
theorem own_d2_8 : decode prog_1_method_8_code 8 = .ok (.aload_n 1, 1) := by decide +kernel
theorem own_d2_9 : decode prog_1_method_8_code 9 = .ok (.arraylength, 1) := by decide +kernel
theorem own_d2_10 : decode prog_1_method_8_code 10 = .ok (.if_icmp .ge 17, 3) := by decide +kernel
theorem own_d2_13 : decode prog_1_method_8_code 13 = .ok (.aload_n 2, 1) := by decide +kernel
theorem own_d2_14 : decode prog_1_method_8_code 14 = .ok (.iload_n 3, 1) := by decide +kernel
theorem own_d2_15 : decode prog_1_method_8_code 15 = .ok (.aload_n 0, 1) := by decide +kernel
theorem own_d2_16 : decode prog_1_method_8_code 16 = .ok (.aload_n 1, 1) := by decide +kernel
theorem own_d2_17 : decode prog_1_method_8_code 17 = .ok (.iload_n 3, 1) := by decide +kernel
theorem own_d2_18 : decode prog_1_method_8_code 18 = .ok (.iaload, 1) := by decide +kernel
theorem own_d2_19 : decode prog_1_method_8_code 19 = .ok (.iaload, 1) := by decide +kernel
theorem own_d2_20 : decode prog_1_method_8_code 20 = .ok (.iastore, 1) := by decide +kernel
theorem own_d2_21 : decode prog_1_method_8_code 21 = .ok (.iinc 3 1, 3) := by decide +kernel
theorem own_d2_24 : decode prog_1_method_8_code 24 = .ok (.goto (-17), 3) := by decide +kernel
theorem own_d2_27 : decode prog_1_method_8_code 27 = .ok (.aload_n 2, 1) := by decide +kernel
theorem own_d2_28 : decode prog_1_method_8_code 28 = .ok (.areturn, 1) := by decide +kernel
theorem own_d3_0 : decode method_3_code 0 = .ok (.iload_n 0, 1) := by decide +kernel
theorem own_d3_1 : decode method_3_code 1 = .ok (.ifCond .ne 5, 3) := by decide +kernel
theorem own_d3_4 : decode method_3_code 4 = .ok (.iload_n 1, 1) := by decide +kernel
theorem own_d3_5 : decode method_3_code 5 = .ok (.ireturn, 1) := by decide +kernel
theorem own_d3_6 : decode method_3_code 6 = .ok (.iload_n 0, 1) := by decide +kernel
theorem own_d3_7 : decode method_3_code 7 = .ok (.iconst 1, 1) := by decide +kernel
theorem own_d3_8 : decode method_3_code 8 = .ok (.if_icmp .ne 5, 3) := by decide +kernel
theorem own_d3_11 : decode method_3_code 11 = .ok (.iload_n 2, 1) := by decide +kernel
theorem own_d3_12 : decode method_3_code 12 = .ok (.ireturn, 1) := by decide +kernel
theorem own_d3_13 : decode method_3_code 13 = .ok (.iload_n 0, 1) := by decide +kernel
theorem own_d3_14 : decode method_3_code 14 = .ok (.iconst 2, 1) := by decide +kernel
theorem own_d3_15 : decode method_3_code 15 = .ok (.if_icmp .ne 5, 3) := by decide +kernel
theorem own_d3_18 : decode method_3_code 18 = .ok (.iload_n 3, 1) := by decide +kernel
theorem own_d3_19 : decode method_3_code 19 = .ok (.ireturn, 1) := by decide +kernel
theorem own_d3_20 : decode method_3_code 20 = .ok (.iload 4, 2) := by decide +kernel
theorem own_d3_22 : decode method_3_code 22 = .ok (.ireturn, 1) := by decide +kernel
def own_pick (i v0 v1 v2 v3 : Int32) : Int32 := if i = 0 then v0 else if i = 1 then v1 else if i = 2 then v2 else v3
theorem own_03 {x i : Int32} (h : x &&& 3 = i) : ¬ i < 0 ∧ i < 4 := by
  have h1 := c_mask x 3 2 (by decide) (by decide)
  rw [h] at h1
  have e0 : (0 : Int32).toInt = 0 := rfl
  have e4 : (4 : Int32).toInt = 4 := rfl
  rw [Int32.lt_iff_toInt_lt, Int32.lt_iff_toInt_lt, e0, e4]; omega
theorem own_get {i v0 v1 v2 v3 : Int32} (h : ¬ i < 0 ∧ i < 4) : [Value.int v0, .int v1, .int v2, .int v3].getD i.toNatClampNeg (.int (0 : Int32)) = .int (own_pick i v0 v1 v2 v3) := by
  have e0 : (0 : Int32).toInt = 0 := rfl
  have e4 : (4 : Int32).toInt = 4 := rfl
  rw [Int32.lt_iff_toInt_lt, Int32.lt_iff_toInt_lt, e0, e4] at h
  have : i.toInt = 0 ∨ i.toInt = 1 ∨ i.toInt = 2 ∨ i.toInt = 3 := by omega
  rcases this with q | q | q | q
  · obtain rfl : i = 0 := Int32.toInt_inj.mp q
    rfl
  · obtain rfl : i = 1 := Int32.toInt_inj.mp q
    rfl
  · obtain rfl : i = 2 := Int32.toInt_inj.mp q
    rfl
  · obtain rfl : i = 3 := Int32.toInt_inj.mp q
    rfl
theorem own_r5 {p n : Int32} (h : (p &&& 7) % 5 = n) : n = 0 ∨ n = 1 ∨ n = 2 ∨ n = 3 ∨ n = 4 := by
  have h1 := c_mask p 7 3 (by decide) (by decide)
  have h2 := (c_irem (p &&& 7) 5 5 rfl).1 (by rw [h1]; omega)
  rw [h] at h2
  have : n.toInt = 0 ∨ n.toInt = 1 ∨ n.toInt = 2 ∨ n.toInt = 3 ∨ n.toInt = 4 := by omega
  rcases this with q | q | q | q | q
  · exact Or.inl (Int32.toInt_inj.mp q)
  · exact Or.inr (Or.inl (Int32.toInt_inj.mp q))
  · exact Or.inr (Or.inr (Or.inl (Int32.toInt_inj.mp q)))
  · exact Or.inr (Or.inr (Or.inr (Or.inl (Int32.toInt_inj.mp q))))
  · exact Or.inr (Or.inr (Or.inr (Or.inr (Int32.toInt_inj.mp q))))
def own_room3 : Room := { frames := 0, cells := 0, slots := 0, locals := 0 }
def own_Q3 (Z : State) (p0 : Int32) (p1 : Int32) (p2 : Int32) (p3 : Int32) (p4 : Int32) (h0 : Heap) (n0 : Nat) (v : Option Value) (h : Heap) (L : List Loc) : Prop := v = some (.int (own_pick p0 p1 p2 p3 p4)) ∧ Fr n0 L ∧ h = h0
theorem own_ef_rm3 (m : MethodId) (x0 : Int32) (x1 : Int32) (x2 : Int32) (x3 : Int32) (x4 : Int32) : entryFrame m #[(.int x0), (.int x1), (.int x2), (.int x3), (.int x4)] 5 = mkF m 0 #[.val (.int x0), .val (.int x1), .val (.int x2), .val (.int x3), .val (.int x4)] [] := by first | (simp [entryFrame, mkF, argsToLocals, Value.category]; done) | rfl
set_option maxRecDepth 65536 in
set_option maxHeartbeats 40000000 in
theorem own_rm3 (l : Launch) (Z : State) (a0 : Array Value) (hw : ∀ d ∈ tables_1, d.before a0 Z = true) (ws : List Jvm.Cond) (p0 : Int32) (p1 : Int32) (p2 : Int32) (p3 : Int32) (p4 : Int32) (h0 : Heap) (n0 : Nat) :
    MetFree l (⟨"com/example/skewcube/skewcube/AccumulatorReorderedPinLaw", "pick", "(IIIII)I"⟩ : MethodName) (head1 (Jvm.Cond.code (⟨"com/example/skewcube/skewcube/AccumulatorReorderedPinLaw", "pick", "(IIIII)I"⟩ : MethodName) method_3_code 5 (some .int) :: ws) own_room3) (fun zz U => zz = #[(.int p0), (.int p1), (.int p2), (.int p3), (.int p4)] ∧ Z.Warmed39 U.vm ∧ U.heap = h0) (fun _ _ _ _ _ => True) (fun _ U o U' => ∃ v L, o = .returned v ∧ own_Q3 Z p0 p1 p2 p3 p4 h0 n0 v U'.heap L ∧ FrameEnd U o U' L own_room3.cells own_room3.slots) := by
  refine MetFree.of_bodySF (plainFor_of_name own_pn0) hisR ?_
  intro p e s m args below meth c s₁ Bd hml0 hP hK
  obtain ⟨rfl, hZ, hh⟩ := hP
  have hx := Bd.exec
  have hby := Bd.bytes
  have hml : c.maxLocals = 5 := hml0
  have hown : s.vm.findClass "com/example/skewcube/skewcube/AccumulatorReorderedPinLaw" = some m.cls := findClass_of_methodNamed Bd.named
  have hnm := (name_of_methodNamed Bd.named Bd.method).1
  have hlk : meth.locks = false := BodyLoose.notSynchronized Bd
  have hret := Bd.returns
  have X0 : Stand p l e own_room3 s m #[(.int p0), (.int p1), (.int p2), (.int p3), (.int p4)] below meth c s₁ [] 0 0 := Stand.of_body Bd
  have e0 : s₁.heap = h0 := by rw [← hh, Bd.state]; rfl
  have N0 := Fr.nil n0
  show own_Ends p e below s (own_Q3 Z p0 p1 p2 p3 p4 h0 n0) own_room3.cells own_room3.slots s₁ (entryFrame m #[(.int p0), (.int p1), (.int p2), (.int p3), (.int p4)] 5)
  refine own_cast (own_ef_rm3 m p0 p1 p2 p3 p4) ?_
  refine own_iloadN (pc' := 1) X0 hx (hb hby own_d3_0) rfl rfl ?_
  by_cases hc1_31 : p0 = (0 : Int32)
  · refine own_ifNo (pc' := 4) X0 hx (hb hby own_d3_1) rfl (teq hc1_31).2 ?_
    refine own_iloadN (pc' := 5) X0 hx (hb hby own_d3_4) rfl rfl ?_
    refine own_retI X0 hx hlk hret (hb hby own_d3_5) (by decide) (by decide) ?_
    exact ⟨own_some (by simp [own_pick, hc1_31]), N0, e0⟩
  · refine own_ifYes (pc' := 6) X0 hx (hb hby own_d3_1) (feq hc1_31).2 (by decide) (by decide) ?_
    refine own_iloadN (pc' := 7) X0 hx (hb hby own_d3_6) rfl rfl ?_
    refine own_iconst (pc' := 8) (z := (1 : Int32)) X0 hx (hb hby own_d3_7) rfl rfl ?_
    by_cases hc8_32 : p0 = (1 : Int32)
    · refine own_icmpNo (pc' := 11) X0 hx (hb hby own_d3_8) rfl (teq hc8_32).2 ?_
      refine own_iloadN (pc' := 12) X0 hx (hb hby own_d3_11) rfl rfl ?_
      refine own_retI X0 hx hlk hret (hb hby own_d3_12) (by decide) (by decide) ?_
      exact ⟨own_some (by simp [own_pick, hc1_31, hc8_32]), N0, e0⟩
    · refine own_icmpYes (pc' := 13) X0 hx (hb hby own_d3_8) (feq hc8_32).2 (by decide) (by decide) ?_
      refine own_iloadN (pc' := 14) X0 hx (hb hby own_d3_13) rfl rfl ?_
      refine own_iconst (pc' := 15) (z := (2 : Int32)) X0 hx (hb hby own_d3_14) rfl rfl ?_
      by_cases hc15_33 : p0 = (2 : Int32)
      · refine own_icmpNo (pc' := 18) X0 hx (hb hby own_d3_15) rfl (teq hc15_33).2 ?_
        refine own_iloadN (pc' := 19) X0 hx (hb hby own_d3_18) rfl rfl ?_
        refine own_retI X0 hx hlk hret (hb hby own_d3_19) (by decide) (by decide) ?_
        exact ⟨own_some (by simp [own_pick, hc1_31, hc8_32, hc15_33]), N0, e0⟩
      · refine own_icmpYes (pc' := 20) X0 hx (hb hby own_d3_15) (feq hc15_33).2 (by decide) (by decide) ?_
        refine own_iload (pc' := 22) X0 hx (hb hby own_d3_20) rfl rfl ?_
        refine own_retI X0 hx hlk hret (hb hby own_d3_22) (by decide) (by decide) ?_
        exact ⟨own_some (by simp [own_pick, hc1_31, hc8_32, hc15_33]), N0, e0⟩
def own_room1_0 : Room := { frames := 0, cells := 1, slots := 0, locals := 0 }
def own_Q1_0 (Z : State) (i0 : Int32) (i1 : Int32) (i2 : Int32) (i3 : Int32) (h0 : Heap) (n0 : Nat) (v : Option Value) (h : Heap) (L : List Loc) : Prop := ∃ (ra : Addr) (rk : ClassId), v = some (.ref ra) ∧ Fr n0 L ∧ Keep h0 h [] ∧ h0.size ≤ ra ∧ Arv Z h ra rk .int (0 : Int32) [] (.int (0 : Int32))
theorem own_ef_rm1_0 (m : MethodId) (x0 : Int32) (x1 : Int32) (x2 : Int32) (x3 : Int32) (x4 : Int32) : entryFrame m #[(.int x0), (.int x1), (.int x2), (.int x3), (.int x4)] 5 = mkF m 0 #[.val (.int x0), .val (.int x1), .val (.int x2), .val (.int x3), .val (.int x4)] [] := by first | (simp [entryFrame, mkF, argsToLocals, Value.category]; done) | rfl
set_option maxRecDepth 65536 in
set_option maxHeartbeats 40000000 in
theorem own_rm1_0 (l : Launch) (Z : State) (a0 : Array Value) (hw : ∀ d ∈ tables_1, d.before a0 Z = true) (ws : List Jvm.Cond) (i0 : Int32) (i1 : Int32) (i2 : Int32) (i3 : Int32) (h0 : Heap) (n0 : Nat) (Z0 : n0 ≤ h0.size) :
    MetFree l (⟨"com/example/skewcube/skewcube/AccumulatorReorderedPinLaw", "makeOrder", "(IIIII)[I"⟩ : MethodName) (head1 (Jvm.Cond.code (⟨"com/example/skewcube/skewcube/AccumulatorReorderedPinLaw", "makeOrder", "(IIIII)[I"⟩ : MethodName) method_2_code 5 (some (.array .int)) :: ws) own_room1_0) (fun zz U => zz = #[(.int (0 : Int32)), (.int i0), (.int i1), (.int i2), (.int i3)] ∧ Z.Warmed39 U.vm ∧ U.heap = h0) (fun _ _ _ _ _ => True) (fun _ U o U' => ∃ v L, o = .returned v ∧ own_Q1_0 Z i0 i1 i2 i3 h0 n0 v U'.heap L ∧ FrameEnd U o U' L own_room1_0.cells own_room1_0.slots) := by
  refine MetFree.of_bodySF (plainFor_of_name own_pn0) hisR ?_
  intro p e s m args below meth c s₁ Bd hml0 hP hK
  obtain ⟨rfl, hZ, hh⟩ := hP
  have hx := Bd.exec
  have hby := Bd.bytes
  have hml : c.maxLocals = 5 := hml0
  have hown : s.vm.findClass "com/example/skewcube/skewcube/AccumulatorReorderedPinLaw" = some m.cls := findClass_of_methodNamed Bd.named
  have hnm := (name_of_methodNamed Bd.named Bd.method).1
  have hlk : meth.locks = false := BodyLoose.notSynchronized Bd
  have hret := Bd.returns
  have X0 : Stand p l e own_room1_0 s m #[(.int (0 : Int32)), (.int i0), (.int i1), (.int i2), (.int i3)] below meth c s₁ [] 0 0 := Stand.of_body Bd
  have e0 : s₁.heap = h0 := by rw [← hh, Bd.state]; rfl
  have N0 := Fr.nil n0
  show own_Ends p e below s (own_Q1_0 Z i0 i1 i2 i3 h0 n0) own_room1_0.cells own_room1_0.slots s₁ (entryFrame m #[(.int (0 : Int32)), (.int i0), (.int i1), (.int i2), (.int i3)] 5)
  refine own_cast (own_ef_rm1_0 m (0 : Int32) i0 i1 i2 i3) ?_
  have K0 := Keep.refl h0 ([] : List Addr)
  refine own_iloadN (pc' := 1) X0 hx (hb hby own_d1_0) rfl rfl ?_
  refine own_ifNo (pc' := 4) X0 hx (hb hby own_d1_1) rfl (teq (by decide)).2 ?_
  refine own_iconst (pc' := 5) (z := (0 : Int32)) X0 hx (hb hby own_d1_4) rfl rfl ?_
  refine own_newarr (pc' := 7) (aty := .int) X0 hx hZ (own_w0 hw) e0 (hb hby own_d1_5) rfl (by decide) 0 0 (by decide) (by decide) (by decide) (by decide) ?_
  intro T31 h31 a31 k31 X31 e31 E31 g31 V31
  replace V31 : Arv Z h31 a31 k31 .int (0 : Int32) [] (.int (0 : Int32)) := V31
  have ge32 : n0 ≤ a31 := by rw [g31]; exact Z0
  have sz33 : h0.size ≤ a31 := by rw [g31]; exact K0.1
  show own_Ends p e below s _ _ _ T31 (mkF m 7 #[.val (.int (0 : Int32)), .val (.int i0), .val (.int i1), .val (.int i2), .val (.int i3)] [(.ref a31)])
  refine own_retA X31 hx hlk hret rfl rfl rfl (hb hby own_d1_7) (by decide) (by decide) ?_
  have f34 := (K0.ext E31)
  rw [e31]
  exact ⟨a31, k31, rfl, N0, f34, sz33, V31⟩
def own_room2_0 : Room := { frames := 0, cells := 1, slots := 0, locals := 0 }
def own_Q2_0 (Z : State) (ra0 : Addr) (ra1 : Addr) (k0 : ClassId) (k1 : ClassId) (v0 : Int32) (v1 : Int32) (v2 : Int32) (v3 : Int32) (h0 : Heap) (n0 : Nat) (v : Option Value) (h : Heap) (L : List Loc) : Prop := ∃ (ra : Addr) (rk : ClassId), v = some (.ref ra) ∧ Fr n0 L ∧ Keep h0 h [] ∧ h0.size ≤ ra ∧ Arv Z h ra rk .int (0 : Int32) [] (.int (0 : Int32))
theorem own_ef_rm2_0 (m : MethodId) (x0 : Addr) (x1 : Addr) : entryFrame m #[(.ref x0), (.ref x1)] 4 = mkF m 0 #[.val (.ref x0), .val (.ref x1), .unset, .unset] [] := by first | (simp [entryFrame, mkF, argsToLocals, Value.category]; done) | rfl
set_option maxRecDepth 65536 in
set_option maxHeartbeats 40000000 in
theorem own_rm2_0 (l : Launch) (Z : State) (a0 : Array Value) (hw : ∀ d ∈ tables_1, d.before a0 Z = true) (ws : List Jvm.Cond) (ra0 : Addr) (ra1 : Addr) (k0 : ClassId) (k1 : ClassId) (v0 : Int32) (v1 : Int32) (v2 : Int32) (v3 : Int32) (h0 : Heap) (n0 : Nat) (Z0 : n0 ≤ h0.size) (V0 : Arv Z h0 ra0 k0 .int (4 : Int32) [(.int v0), (.int v1), (.int v2), (.int v3)] (.int (0 : Int32))) (V1 : Arv Z h0 ra1 k1 .int (0 : Int32) [] (.int (0 : Int32))) (hne : ra0 ≠ ra1) :
    MetFree l (⟨"com/example/skewcube/skewcube/Accumulator", "reordered", "([I[I)[I"⟩ : MethodName) (head1 (Jvm.Cond.code (⟨"com/example/skewcube/skewcube/Accumulator", "reordered", "([I[I)[I"⟩ : MethodName) prog_1_method_8_code 4 (some (.array .int)) :: ws) own_room2_0) (fun zz U => zz = #[(.ref ra0), (.ref ra1)] ∧ Z.Warmed39 U.vm ∧ U.heap = h0) (fun _ _ _ _ _ => True) (fun _ U o U' => ∃ v L, o = .returned v ∧ own_Q2_0 Z ra0 ra1 k0 k1 v0 v1 v2 v3 h0 n0 v U'.heap L ∧ FrameEnd U o U' L own_room2_0.cells own_room2_0.slots) := by
  refine MetFree.of_bodySF (plainFor_of_name own_pn1) hisR ?_
  intro p e s m args below meth c s₁ Bd hml0 hP hK
  obtain ⟨rfl, hZ, hh⟩ := hP
  have hx := Bd.exec
  have hby := Bd.bytes
  have hml : c.maxLocals = 4 := hml0
  have hown : s.vm.findClass "com/example/skewcube/skewcube/Accumulator" = some m.cls := findClass_of_methodNamed Bd.named
  have hnm := (name_of_methodNamed Bd.named Bd.method).1
  have hlk : meth.locks = false := BodyLoose.notSynchronized Bd
  have hret := Bd.returns
  have X0 : Stand p l e own_room2_0 s m #[(.ref ra0), (.ref ra1)] below meth c s₁ [] 0 0 := Stand.of_body Bd
  have e0 : s₁.heap = h0 := by rw [← hh, Bd.state]; rfl
  have N0 := Fr.nil n0
  show own_Ends p e below s (own_Q2_0 Z ra0 ra1 k0 k1 v0 v1 v2 v3 h0 n0) own_room2_0.cells own_room2_0.slots s₁ (entryFrame m #[(.ref ra0), (.ref ra1)] 4)
  refine own_cast (own_ef_rm2_0 m ra0 ra1) ?_
  have K0 := Keep.refl h0 ([] : List Addr)
  refine own_aloadN (pc' := 1) X0 hx (hb hby own_d2_0) rfl rfl rfl ?_
  refine own_alen (pc' := 2) X0 hx hZ e0 V1 (hb hby own_d2_1) rfl ?_
  refine own_newarr (pc' := 4) (aty := .int) X0 hx hZ (own_w0 hw) e0 (hb hby own_d2_2) rfl (by decide) 0 0 (by decide) (by decide) (by decide) (by decide) ?_
  intro T31 h31 a31 k31 X31 e31 E31 g31 V31
  replace V31 : Arv Z h31 a31 k31 .int (0 : Int32) [] (.int (0 : Int32)) := V31
  have ge32 : n0 ≤ a31 := by rw [g31]; exact Z0
  have sz33 : h0.size ≤ a31 := by rw [g31]; exact K0.1
  have ne34 : ra0 ≠ a31 := Nat.ne_of_lt (by rw [g31]; exact V0.lt)
  have ne35 : ra1 ≠ a31 := Nat.ne_of_lt (by rw [g31]; exact V1.lt)
  show own_Ends p e below s _ _ _ T31 (mkF m 4 #[.val (.ref ra0), .val (.ref ra1), .unset, .unset] [(.ref a31)])
  refine own_astoreN (pc' := 5) (l' := #[.val (.ref ra0), .val (.ref ra1), .val (.ref a31), .unset]) X31 hx (hb hby own_d2_4) rfl rfl rfl ?_
  refine own_iconst (pc' := 6) (z := (0 : Int32)) X31 hx (hb hby own_d2_5) rfl rfl ?_
  refine own_istoreN (pc' := 7) (l' := #[.val (.ref ra0), .val (.ref ra1), .val (.ref a31), .val (.int (0 : Int32))]) X31 hx (hb hby own_d2_6) rfl rfl ?_
  refine own_iloadN (pc' := 8) X31 hx (hb hby own_d2_7) rfl rfl ?_
  refine own_aloadN (pc' := 9) X31 hx (hb hby own_d2_8) rfl rfl rfl ?_
  have f36 := (V1.ext E31)
  refine own_alen (pc' := 10) X31 hx hZ e31 f36 (hb hby own_d2_9) rfl ?_
  refine own_icmpYes (pc' := 27) X31 hx (hb hby own_d2_10) (flt (by decide)).2.1 (by decide) (by decide) ?_
  refine own_aloadN (pc' := 28) X31 hx (hb hby own_d2_27) rfl rfl rfl ?_
  refine own_retA X31 hx hlk hret rfl rfl rfl (hb hby own_d2_28) (by decide) (by decide) ?_
  have f37 := (K0.ext E31)
  rw [e31]
  exact ⟨a31, k31, rfl, N0, f37, sz33, V31⟩
def own_room1_1 : Room := { frames := 0, cells := 1, slots := 1, locals := 0 }
def own_Q1_1 (Z : State) (i0 : Int32) (i1 : Int32) (i2 : Int32) (i3 : Int32) (h0 : Heap) (n0 : Nat) (v : Option Value) (h : Heap) (L : List Loc) : Prop := ∃ (ra : Addr) (rk : ClassId), v = some (.ref ra) ∧ Fr n0 L ∧ Keep h0 h [] ∧ h0.size ≤ ra ∧ Arv Z h ra rk .int (1 : Int32) [(.int i0)] (.int (0 : Int32))
theorem own_ef_rm1_1 (m : MethodId) (x0 : Int32) (x1 : Int32) (x2 : Int32) (x3 : Int32) (x4 : Int32) : entryFrame m #[(.int x0), (.int x1), (.int x2), (.int x3), (.int x4)] 5 = mkF m 0 #[.val (.int x0), .val (.int x1), .val (.int x2), .val (.int x3), .val (.int x4)] [] := by first | (simp [entryFrame, mkF, argsToLocals, Value.category]; done) | rfl
set_option maxRecDepth 65536 in
set_option maxHeartbeats 40000000 in
theorem own_rm1_1 (l : Launch) (Z : State) (a0 : Array Value) (hw : ∀ d ∈ tables_1, d.before a0 Z = true) (ws : List Jvm.Cond) (i0 : Int32) (i1 : Int32) (i2 : Int32) (i3 : Int32) (h0 : Heap) (n0 : Nat) (Z0 : n0 ≤ h0.size) :
    MetFree l (⟨"com/example/skewcube/skewcube/AccumulatorReorderedPinLaw", "makeOrder", "(IIIII)[I"⟩ : MethodName) (head1 (Jvm.Cond.code (⟨"com/example/skewcube/skewcube/AccumulatorReorderedPinLaw", "makeOrder", "(IIIII)[I"⟩ : MethodName) method_2_code 5 (some (.array .int)) :: ws) own_room1_1) (fun zz U => zz = #[(.int (1 : Int32)), (.int i0), (.int i1), (.int i2), (.int i3)] ∧ Z.Warmed39 U.vm ∧ U.heap = h0) (fun _ _ _ _ _ => True) (fun _ U o U' => ∃ v L, o = .returned v ∧ own_Q1_1 Z i0 i1 i2 i3 h0 n0 v U'.heap L ∧ FrameEnd U o U' L own_room1_1.cells own_room1_1.slots) := by
  refine MetFree.of_bodySF (plainFor_of_name own_pn0) hisR ?_
  intro p e s m args below meth c s₁ Bd hml0 hP hK
  obtain ⟨rfl, hZ, hh⟩ := hP
  have hx := Bd.exec
  have hby := Bd.bytes
  have hml : c.maxLocals = 5 := hml0
  have hown : s.vm.findClass "com/example/skewcube/skewcube/AccumulatorReorderedPinLaw" = some m.cls := findClass_of_methodNamed Bd.named
  have hnm := (name_of_methodNamed Bd.named Bd.method).1
  have hlk : meth.locks = false := BodyLoose.notSynchronized Bd
  have hret := Bd.returns
  have X0 : Stand p l e own_room1_1 s m #[(.int (1 : Int32)), (.int i0), (.int i1), (.int i2), (.int i3)] below meth c s₁ [] 0 0 := Stand.of_body Bd
  have e0 : s₁.heap = h0 := by rw [← hh, Bd.state]; rfl
  have N0 := Fr.nil n0
  show own_Ends p e below s (own_Q1_1 Z i0 i1 i2 i3 h0 n0) own_room1_1.cells own_room1_1.slots s₁ (entryFrame m #[(.int (1 : Int32)), (.int i0), (.int i1), (.int i2), (.int i3)] 5)
  refine own_cast (own_ef_rm1_1 m (1 : Int32) i0 i1 i2 i3) ?_
  have K0 := Keep.refl h0 ([] : List Addr)
  refine own_iloadN (pc' := 1) X0 hx (hb hby own_d1_0) rfl rfl ?_
  refine own_ifYes (pc' := 8) X0 hx (hb hby own_d1_1) (feq (by decide)).2 (by decide) (by decide) ?_
  refine own_iloadN (pc' := 9) X0 hx (hb hby own_d1_8) rfl rfl ?_
  refine own_iconst (pc' := 10) (z := (1 : Int32)) X0 hx (hb hby own_d1_9) rfl rfl ?_
  refine own_icmpNo (pc' := 13) X0 hx (hb hby own_d1_10) rfl (teq (by decide)).2 ?_
  refine own_iconst (pc' := 14) (z := (1 : Int32)) X0 hx (hb hby own_d1_13) rfl rfl ?_
  refine own_newarr (pc' := 16) (aty := .int) X0 hx hZ (own_w0 hw) e0 (hb hby own_d1_14) rfl (by decide) 1 1 (by decide) (by decide) (by decide) (by decide) ?_
  intro T31 h31 a31 k31 X31 e31 E31 g31 V31
  replace V31 : Arv Z h31 a31 k31 .int (1 : Int32) [(.int (0 : Int32))] (.int (0 : Int32)) := V31
  have ge32 : n0 ≤ a31 := by rw [g31]; exact Z0
  have sz33 : h0.size ≤ a31 := by rw [g31]; exact K0.1
  show own_Ends p e below s _ _ _ T31 (mkF m 16 #[.val (.int (1 : Int32)), .val (.int i0), .val (.int i1), .val (.int i2), .val (.int i3)] [(.ref a31)])
  refine own_dup (pc' := 17) X31 hx (hb hby own_d1_16) rfl rfl ?_
  refine own_iconst (pc' := 18) (z := (0 : Int32)) X31 hx (hb hby own_d1_17) rfl rfl ?_
  refine own_iloadN (pc' := 19) X31 hx (hb hby own_d1_18) rfl rfl ?_
  refine own_iastore (pc' := 20) X31 hx hZ e31 V31 (hb hby own_d1_19) rfl (by decide) 0 rfl (by simp) N0 ge32 ?_
  intro T34 h34 L34 X34 e34 N34 W34 V34
  replace V34 : Arv Z h34 a31 k31 .int (1 : Int32) [(.int i0)] (.int (0 : Int32)) := V34
  show own_Ends p e below s _ _ _ T34 (mkF m 20 #[.val (.int (1 : Int32)), .val (.int i0), .val (.int i1), .val (.int i2), .val (.int i3)] [(.ref a31)])
  refine own_retA X34 hx hlk hret rfl rfl rfl (hb hby own_d1_20) (by decide) (by decide) ?_
  have f35 := ((K0.ext E31).wr W34 (Or.inr sz33))
  rw [e34]
  exact ⟨a31, k31, rfl, N34, f35, sz33, V34⟩
def own_room2_1 : Room := { frames := 0, cells := 1, slots := 1, locals := 0 }
def own_Q2_1 (Z : State) (ra0 : Addr) (ra1 : Addr) (k0 : ClassId) (k1 : ClassId) (v0 : Int32) (v1 : Int32) (v2 : Int32) (v3 : Int32) (i0 : Int32) (h0 : Heap) (n0 : Nat) (v : Option Value) (h : Heap) (L : List Loc) : Prop := ∃ (ra : Addr) (rk : ClassId), v = some (.ref ra) ∧ Fr n0 L ∧ Keep h0 h [] ∧ h0.size ≤ ra ∧ Arv Z h ra rk .int (1 : Int32) [(.int (own_pick i0 v0 v1 v2 v3))] (.int (0 : Int32))
theorem own_ef_rm2_1 (m : MethodId) (x0 : Addr) (x1 : Addr) : entryFrame m #[(.ref x0), (.ref x1)] 4 = mkF m 0 #[.val (.ref x0), .val (.ref x1), .unset, .unset] [] := by first | (simp [entryFrame, mkF, argsToLocals, Value.category]; done) | rfl
set_option maxRecDepth 65536 in
set_option maxHeartbeats 40000000 in
theorem own_rm2_1 (l : Launch) (Z : State) (a0 : Array Value) (hw : ∀ d ∈ tables_1, d.before a0 Z = true) (ws : List Jvm.Cond) (ra0 : Addr) (ra1 : Addr) (k0 : ClassId) (k1 : ClassId) (v0 : Int32) (v1 : Int32) (v2 : Int32) (v3 : Int32) (i0 : Int32) (h0 : Heap) (n0 : Nat) (Z0 : n0 ≤ h0.size) (V0 : Arv Z h0 ra0 k0 .int (4 : Int32) [(.int v0), (.int v1), (.int v2), (.int v3)] (.int (0 : Int32))) (V1 : Arv Z h0 ra1 k1 .int (1 : Int32) [(.int i0)] (.int (0 : Int32))) (hne : ra0 ≠ ra1) (hi0 : ¬ i0 < 0 ∧ i0 < 4) :
    MetFree l (⟨"com/example/skewcube/skewcube/Accumulator", "reordered", "([I[I)[I"⟩ : MethodName) (head1 (Jvm.Cond.code (⟨"com/example/skewcube/skewcube/Accumulator", "reordered", "([I[I)[I"⟩ : MethodName) prog_1_method_8_code 4 (some (.array .int)) :: ws) own_room2_1) (fun zz U => zz = #[(.ref ra0), (.ref ra1)] ∧ Z.Warmed39 U.vm ∧ U.heap = h0) (fun _ _ _ _ _ => True) (fun _ U o U' => ∃ v L, o = .returned v ∧ own_Q2_1 Z ra0 ra1 k0 k1 v0 v1 v2 v3 i0 h0 n0 v U'.heap L ∧ FrameEnd U o U' L own_room2_1.cells own_room2_1.slots) := by
  refine MetFree.of_bodySF (plainFor_of_name own_pn1) hisR ?_
  intro p e s m args below meth c s₁ Bd hml0 hP hK
  obtain ⟨rfl, hZ, hh⟩ := hP
  have hx := Bd.exec
  have hby := Bd.bytes
  have hml : c.maxLocals = 4 := hml0
  have hown : s.vm.findClass "com/example/skewcube/skewcube/Accumulator" = some m.cls := findClass_of_methodNamed Bd.named
  have hnm := (name_of_methodNamed Bd.named Bd.method).1
  have hlk : meth.locks = false := BodyLoose.notSynchronized Bd
  have hret := Bd.returns
  have X0 : Stand p l e own_room2_1 s m #[(.ref ra0), (.ref ra1)] below meth c s₁ [] 0 0 := Stand.of_body Bd
  have e0 : s₁.heap = h0 := by rw [← hh, Bd.state]; rfl
  have N0 := Fr.nil n0
  show own_Ends p e below s (own_Q2_1 Z ra0 ra1 k0 k1 v0 v1 v2 v3 i0 h0 n0) own_room2_1.cells own_room2_1.slots s₁ (entryFrame m #[(.ref ra0), (.ref ra1)] 4)
  refine own_cast (own_ef_rm2_1 m ra0 ra1) ?_
  have K0 := Keep.refl h0 ([] : List Addr)
  refine own_aloadN (pc' := 1) X0 hx (hb hby own_d2_0) rfl rfl rfl ?_
  refine own_alen (pc' := 2) X0 hx hZ e0 V1 (hb hby own_d2_1) rfl ?_
  refine own_newarr (pc' := 4) (aty := .int) X0 hx hZ (own_w0 hw) e0 (hb hby own_d2_2) rfl (by decide) 1 1 (by decide) (by decide) (by decide) (by decide) ?_
  intro T31 h31 a31 k31 X31 e31 E31 g31 V31
  replace V31 : Arv Z h31 a31 k31 .int (1 : Int32) [(.int (0 : Int32))] (.int (0 : Int32)) := V31
  have ge32 : n0 ≤ a31 := by rw [g31]; exact Z0
  have sz33 : h0.size ≤ a31 := by rw [g31]; exact K0.1
  have ne34 : ra0 ≠ a31 := Nat.ne_of_lt (by rw [g31]; exact V0.lt)
  have ne35 : ra1 ≠ a31 := Nat.ne_of_lt (by rw [g31]; exact V1.lt)
  show own_Ends p e below s _ _ _ T31 (mkF m 4 #[.val (.ref ra0), .val (.ref ra1), .unset, .unset] [(.ref a31)])
  refine own_astoreN (pc' := 5) (l' := #[.val (.ref ra0), .val (.ref ra1), .val (.ref a31), .unset]) X31 hx (hb hby own_d2_4) rfl rfl rfl ?_
  refine own_iconst (pc' := 6) (z := (0 : Int32)) X31 hx (hb hby own_d2_5) rfl rfl ?_
  refine own_istoreN (pc' := 7) (l' := #[.val (.ref ra0), .val (.ref ra1), .val (.ref a31), .val (.int (0 : Int32))]) X31 hx (hb hby own_d2_6) rfl rfl ?_
  refine own_iloadN (pc' := 8) X31 hx (hb hby own_d2_7) rfl rfl ?_
  refine own_aloadN (pc' := 9) X31 hx (hb hby own_d2_8) rfl rfl rfl ?_
  have f36 := (V1.ext E31)
  refine own_alen (pc' := 10) X31 hx hZ e31 f36 (hb hby own_d2_9) rfl ?_
  refine own_icmpNo (pc' := 13) X31 hx (hb hby own_d2_10) rfl (tlt (by decide)).2.1 ?_
  refine own_aloadN (pc' := 14) X31 hx (hb hby own_d2_13) rfl rfl rfl ?_
  refine own_iloadN (pc' := 15) X31 hx (hb hby own_d2_14) rfl rfl ?_
  refine own_aloadN (pc' := 16) X31 hx (hb hby own_d2_15) rfl rfl rfl ?_
  refine own_aloadN (pc' := 17) X31 hx (hb hby own_d2_16) rfl rfl rfl ?_
  refine own_iloadN (pc' := 18) X31 hx (hb hby own_d2_17) rfl rfl ?_
  refine own_iaload (pc' := 19) X31 hx hZ e31 f36 (hb hby own_d2_18) rfl (by decide) rfl ?_
  have f37 := (V0.ext E31)
  refine own_iaload (pc' := 20) X31 hx hZ e31 f37 (hb hby own_d2_19) rfl hi0 (own_get hi0) ?_
  refine own_iastore (pc' := 21) X31 hx hZ e31 V31 (hb hby own_d2_20) rfl (by decide) 0 rfl (by simp) N0 ge32 ?_
  intro T38 h38 L38 X38 e38 N38 W38 V38
  replace V38 : Arv Z h38 a31 k31 .int (1 : Int32) [(.int (own_pick i0 v0 v1 v2 v3))] (.int (0 : Int32)) := V38
  show own_Ends p e below s _ _ _ T38 (mkF m 21 #[.val (.ref ra0), .val (.ref ra1), .val (.ref a31), .val (.int (0 : Int32))] [])
  refine own_iinc (pc' := 24) (z := (1 : Int32)) (l' := #[.val (.ref ra0), .val (.ref ra1), .val (.ref a31), .val (.int (1 : Int32))]) X38 hx (hb hby own_d2_21) rfl rfl (by decide) rfl ?_
  refine own_goto (pc' := 7) X38 hx (hb hby own_d2_24) (by decide) (by decide) ?_
  refine own_iloadN (pc' := 8) X38 hx (hb hby own_d2_7) rfl rfl ?_
  refine own_aloadN (pc' := 9) X38 hx (hb hby own_d2_8) rfl rfl rfl ?_
  have f39 := (f36.other W38 ne35)
  refine own_alen (pc' := 10) X38 hx hZ e38 f39 (hb hby own_d2_9) rfl ?_
  refine own_icmpYes (pc' := 27) X38 hx (hb hby own_d2_10) (flt (by decide)).2.1 (by decide) (by decide) ?_
  refine own_aloadN (pc' := 28) X38 hx (hb hby own_d2_27) rfl rfl rfl ?_
  refine own_retA X38 hx hlk hret rfl rfl rfl (hb hby own_d2_28) (by decide) (by decide) ?_
  have f40 := ((K0.ext E31).wr W38 (Or.inr sz33))
  rw [e38]
  exact ⟨a31, k31, rfl, N38, f40, sz33, V38⟩
def own_room1_2 : Room := { frames := 0, cells := 1, slots := 2, locals := 0 }
def own_Q1_2 (Z : State) (i0 : Int32) (i1 : Int32) (i2 : Int32) (i3 : Int32) (h0 : Heap) (n0 : Nat) (v : Option Value) (h : Heap) (L : List Loc) : Prop := ∃ (ra : Addr) (rk : ClassId), v = some (.ref ra) ∧ Fr n0 L ∧ Keep h0 h [] ∧ h0.size ≤ ra ∧ Arv Z h ra rk .int (2 : Int32) [(.int i0), (.int i1)] (.int (0 : Int32))
theorem own_ef_rm1_2 (m : MethodId) (x0 : Int32) (x1 : Int32) (x2 : Int32) (x3 : Int32) (x4 : Int32) : entryFrame m #[(.int x0), (.int x1), (.int x2), (.int x3), (.int x4)] 5 = mkF m 0 #[.val (.int x0), .val (.int x1), .val (.int x2), .val (.int x3), .val (.int x4)] [] := by first | (simp [entryFrame, mkF, argsToLocals, Value.category]; done) | rfl
set_option maxRecDepth 65536 in
set_option maxHeartbeats 40000000 in
theorem own_rm1_2 (l : Launch) (Z : State) (a0 : Array Value) (hw : ∀ d ∈ tables_1, d.before a0 Z = true) (ws : List Jvm.Cond) (i0 : Int32) (i1 : Int32) (i2 : Int32) (i3 : Int32) (h0 : Heap) (n0 : Nat) (Z0 : n0 ≤ h0.size) :
    MetFree l (⟨"com/example/skewcube/skewcube/AccumulatorReorderedPinLaw", "makeOrder", "(IIIII)[I"⟩ : MethodName) (head1 (Jvm.Cond.code (⟨"com/example/skewcube/skewcube/AccumulatorReorderedPinLaw", "makeOrder", "(IIIII)[I"⟩ : MethodName) method_2_code 5 (some (.array .int)) :: ws) own_room1_2) (fun zz U => zz = #[(.int (2 : Int32)), (.int i0), (.int i1), (.int i2), (.int i3)] ∧ Z.Warmed39 U.vm ∧ U.heap = h0) (fun _ _ _ _ _ => True) (fun _ U o U' => ∃ v L, o = .returned v ∧ own_Q1_2 Z i0 i1 i2 i3 h0 n0 v U'.heap L ∧ FrameEnd U o U' L own_room1_2.cells own_room1_2.slots) := by
  refine MetFree.of_bodySF (plainFor_of_name own_pn0) hisR ?_
  intro p e s m args below meth c s₁ Bd hml0 hP hK
  obtain ⟨rfl, hZ, hh⟩ := hP
  have hx := Bd.exec
  have hby := Bd.bytes
  have hml : c.maxLocals = 5 := hml0
  have hown : s.vm.findClass "com/example/skewcube/skewcube/AccumulatorReorderedPinLaw" = some m.cls := findClass_of_methodNamed Bd.named
  have hnm := (name_of_methodNamed Bd.named Bd.method).1
  have hlk : meth.locks = false := BodyLoose.notSynchronized Bd
  have hret := Bd.returns
  have X0 : Stand p l e own_room1_2 s m #[(.int (2 : Int32)), (.int i0), (.int i1), (.int i2), (.int i3)] below meth c s₁ [] 0 0 := Stand.of_body Bd
  have e0 : s₁.heap = h0 := by rw [← hh, Bd.state]; rfl
  have N0 := Fr.nil n0
  show own_Ends p e below s (own_Q1_2 Z i0 i1 i2 i3 h0 n0) own_room1_2.cells own_room1_2.slots s₁ (entryFrame m #[(.int (2 : Int32)), (.int i0), (.int i1), (.int i2), (.int i3)] 5)
  refine own_cast (own_ef_rm1_2 m (2 : Int32) i0 i1 i2 i3) ?_
  have K0 := Keep.refl h0 ([] : List Addr)
  refine own_iloadN (pc' := 1) X0 hx (hb hby own_d1_0) rfl rfl ?_
  refine own_ifYes (pc' := 8) X0 hx (hb hby own_d1_1) (feq (by decide)).2 (by decide) (by decide) ?_
  refine own_iloadN (pc' := 9) X0 hx (hb hby own_d1_8) rfl rfl ?_
  refine own_iconst (pc' := 10) (z := (1 : Int32)) X0 hx (hb hby own_d1_9) rfl rfl ?_
  refine own_icmpYes (pc' := 21) X0 hx (hb hby own_d1_10) (feq (by decide)).2 (by decide) (by decide) ?_
  refine own_iloadN (pc' := 22) X0 hx (hb hby own_d1_21) rfl rfl ?_
  refine own_iconst (pc' := 23) (z := (2 : Int32)) X0 hx (hb hby own_d1_22) rfl rfl ?_
  refine own_icmpNo (pc' := 26) X0 hx (hb hby own_d1_23) rfl (teq (by decide)).2 ?_
  refine own_iconst (pc' := 27) (z := (2 : Int32)) X0 hx (hb hby own_d1_26) rfl rfl ?_
  refine own_newarr (pc' := 29) (aty := .int) X0 hx hZ (own_w0 hw) e0 (hb hby own_d1_27) rfl (by decide) 2 2 (by decide) (by decide) (by decide) (by decide) ?_
  intro T31 h31 a31 k31 X31 e31 E31 g31 V31
  replace V31 : Arv Z h31 a31 k31 .int (2 : Int32) [(.int (0 : Int32)), (.int (0 : Int32))] (.int (0 : Int32)) := V31
  have ge32 : n0 ≤ a31 := by rw [g31]; exact Z0
  have sz33 : h0.size ≤ a31 := by rw [g31]; exact K0.1
  show own_Ends p e below s _ _ _ T31 (mkF m 29 #[.val (.int (2 : Int32)), .val (.int i0), .val (.int i1), .val (.int i2), .val (.int i3)] [(.ref a31)])
  refine own_dup (pc' := 30) X31 hx (hb hby own_d1_29) rfl rfl ?_
  refine own_iconst (pc' := 31) (z := (0 : Int32)) X31 hx (hb hby own_d1_30) rfl rfl ?_
  refine own_iloadN (pc' := 32) X31 hx (hb hby own_d1_31) rfl rfl ?_
  refine own_iastore (pc' := 33) X31 hx hZ e31 V31 (hb hby own_d1_32) rfl (by decide) 0 rfl (by simp) N0 ge32 ?_
  intro T34 h34 L34 X34 e34 N34 W34 V34
  replace V34 : Arv Z h34 a31 k31 .int (2 : Int32) [(.int i0), (.int (0 : Int32))] (.int (0 : Int32)) := V34
  show own_Ends p e below s _ _ _ T34 (mkF m 33 #[.val (.int (2 : Int32)), .val (.int i0), .val (.int i1), .val (.int i2), .val (.int i3)] [(.ref a31)])
  refine own_dup (pc' := 34) X34 hx (hb hby own_d1_33) rfl rfl ?_
  refine own_iconst (pc' := 35) (z := (1 : Int32)) X34 hx (hb hby own_d1_34) rfl rfl ?_
  refine own_iloadN (pc' := 36) X34 hx (hb hby own_d1_35) rfl rfl ?_
  refine own_iastore (pc' := 37) X34 hx hZ e34 V34 (hb hby own_d1_36) rfl (by decide) 1 rfl (by simp) N34 ge32 ?_
  intro T35 h35 L35 X35 e35 N35 W35 V35
  replace V35 : Arv Z h35 a31 k31 .int (2 : Int32) [(.int i0), (.int i1)] (.int (0 : Int32)) := V35
  show own_Ends p e below s _ _ _ T35 (mkF m 37 #[.val (.int (2 : Int32)), .val (.int i0), .val (.int i1), .val (.int i2), .val (.int i3)] [(.ref a31)])
  refine own_retA X35 hx hlk hret rfl rfl rfl (hb hby own_d1_37) (by decide) (by decide) ?_
  have f36 := (((K0.ext E31).wr W34 (Or.inr sz33)).wr W35 (Or.inr sz33))
  rw [e35]
  exact ⟨a31, k31, rfl, N35, f36, sz33, V35⟩
def own_room2_2 : Room := { frames := 0, cells := 1, slots := 2, locals := 0 }
def own_Q2_2 (Z : State) (ra0 : Addr) (ra1 : Addr) (k0 : ClassId) (k1 : ClassId) (v0 : Int32) (v1 : Int32) (v2 : Int32) (v3 : Int32) (i0 : Int32) (i1 : Int32) (h0 : Heap) (n0 : Nat) (v : Option Value) (h : Heap) (L : List Loc) : Prop := ∃ (ra : Addr) (rk : ClassId), v = some (.ref ra) ∧ Fr n0 L ∧ Keep h0 h [] ∧ h0.size ≤ ra ∧ Arv Z h ra rk .int (2 : Int32) [(.int (own_pick i0 v0 v1 v2 v3)), (.int (own_pick i1 v0 v1 v2 v3))] (.int (0 : Int32))
theorem own_ef_rm2_2 (m : MethodId) (x0 : Addr) (x1 : Addr) : entryFrame m #[(.ref x0), (.ref x1)] 4 = mkF m 0 #[.val (.ref x0), .val (.ref x1), .unset, .unset] [] := by first | (simp [entryFrame, mkF, argsToLocals, Value.category]; done) | rfl
set_option maxRecDepth 65536 in
set_option maxHeartbeats 40000000 in
theorem own_rm2_2 (l : Launch) (Z : State) (a0 : Array Value) (hw : ∀ d ∈ tables_1, d.before a0 Z = true) (ws : List Jvm.Cond) (ra0 : Addr) (ra1 : Addr) (k0 : ClassId) (k1 : ClassId) (v0 : Int32) (v1 : Int32) (v2 : Int32) (v3 : Int32) (i0 : Int32) (i1 : Int32) (h0 : Heap) (n0 : Nat) (Z0 : n0 ≤ h0.size) (V0 : Arv Z h0 ra0 k0 .int (4 : Int32) [(.int v0), (.int v1), (.int v2), (.int v3)] (.int (0 : Int32))) (V1 : Arv Z h0 ra1 k1 .int (2 : Int32) [(.int i0), (.int i1)] (.int (0 : Int32))) (hne : ra0 ≠ ra1) (hi0 : ¬ i0 < 0 ∧ i0 < 4) (hi1 : ¬ i1 < 0 ∧ i1 < 4) :
    MetFree l (⟨"com/example/skewcube/skewcube/Accumulator", "reordered", "([I[I)[I"⟩ : MethodName) (head1 (Jvm.Cond.code (⟨"com/example/skewcube/skewcube/Accumulator", "reordered", "([I[I)[I"⟩ : MethodName) prog_1_method_8_code 4 (some (.array .int)) :: ws) own_room2_2) (fun zz U => zz = #[(.ref ra0), (.ref ra1)] ∧ Z.Warmed39 U.vm ∧ U.heap = h0) (fun _ _ _ _ _ => True) (fun _ U o U' => ∃ v L, o = .returned v ∧ own_Q2_2 Z ra0 ra1 k0 k1 v0 v1 v2 v3 i0 i1 h0 n0 v U'.heap L ∧ FrameEnd U o U' L own_room2_2.cells own_room2_2.slots) := by
  refine MetFree.of_bodySF (plainFor_of_name own_pn1) hisR ?_
  intro p e s m args below meth c s₁ Bd hml0 hP hK
  obtain ⟨rfl, hZ, hh⟩ := hP
  have hx := Bd.exec
  have hby := Bd.bytes
  have hml : c.maxLocals = 4 := hml0
  have hown : s.vm.findClass "com/example/skewcube/skewcube/Accumulator" = some m.cls := findClass_of_methodNamed Bd.named
  have hnm := (name_of_methodNamed Bd.named Bd.method).1
  have hlk : meth.locks = false := BodyLoose.notSynchronized Bd
  have hret := Bd.returns
  have X0 : Stand p l e own_room2_2 s m #[(.ref ra0), (.ref ra1)] below meth c s₁ [] 0 0 := Stand.of_body Bd
  have e0 : s₁.heap = h0 := by rw [← hh, Bd.state]; rfl
  have N0 := Fr.nil n0
  show own_Ends p e below s (own_Q2_2 Z ra0 ra1 k0 k1 v0 v1 v2 v3 i0 i1 h0 n0) own_room2_2.cells own_room2_2.slots s₁ (entryFrame m #[(.ref ra0), (.ref ra1)] 4)
  refine own_cast (own_ef_rm2_2 m ra0 ra1) ?_
  have K0 := Keep.refl h0 ([] : List Addr)
  refine own_aloadN (pc' := 1) X0 hx (hb hby own_d2_0) rfl rfl rfl ?_
  refine own_alen (pc' := 2) X0 hx hZ e0 V1 (hb hby own_d2_1) rfl ?_
  refine own_newarr (pc' := 4) (aty := .int) X0 hx hZ (own_w0 hw) e0 (hb hby own_d2_2) rfl (by decide) 2 2 (by decide) (by decide) (by decide) (by decide) ?_
  intro T31 h31 a31 k31 X31 e31 E31 g31 V31
  replace V31 : Arv Z h31 a31 k31 .int (2 : Int32) [(.int (0 : Int32)), (.int (0 : Int32))] (.int (0 : Int32)) := V31
  have ge32 : n0 ≤ a31 := by rw [g31]; exact Z0
  have sz33 : h0.size ≤ a31 := by rw [g31]; exact K0.1
  have ne34 : ra0 ≠ a31 := Nat.ne_of_lt (by rw [g31]; exact V0.lt)
  have ne35 : ra1 ≠ a31 := Nat.ne_of_lt (by rw [g31]; exact V1.lt)
  show own_Ends p e below s _ _ _ T31 (mkF m 4 #[.val (.ref ra0), .val (.ref ra1), .unset, .unset] [(.ref a31)])
  refine own_astoreN (pc' := 5) (l' := #[.val (.ref ra0), .val (.ref ra1), .val (.ref a31), .unset]) X31 hx (hb hby own_d2_4) rfl rfl rfl ?_
  refine own_iconst (pc' := 6) (z := (0 : Int32)) X31 hx (hb hby own_d2_5) rfl rfl ?_
  refine own_istoreN (pc' := 7) (l' := #[.val (.ref ra0), .val (.ref ra1), .val (.ref a31), .val (.int (0 : Int32))]) X31 hx (hb hby own_d2_6) rfl rfl ?_
  refine own_iloadN (pc' := 8) X31 hx (hb hby own_d2_7) rfl rfl ?_
  refine own_aloadN (pc' := 9) X31 hx (hb hby own_d2_8) rfl rfl rfl ?_
  have f36 := (V1.ext E31)
  refine own_alen (pc' := 10) X31 hx hZ e31 f36 (hb hby own_d2_9) rfl ?_
  refine own_icmpNo (pc' := 13) X31 hx (hb hby own_d2_10) rfl (tlt (by decide)).2.1 ?_
  refine own_aloadN (pc' := 14) X31 hx (hb hby own_d2_13) rfl rfl rfl ?_
  refine own_iloadN (pc' := 15) X31 hx (hb hby own_d2_14) rfl rfl ?_
  refine own_aloadN (pc' := 16) X31 hx (hb hby own_d2_15) rfl rfl rfl ?_
  refine own_aloadN (pc' := 17) X31 hx (hb hby own_d2_16) rfl rfl rfl ?_
  refine own_iloadN (pc' := 18) X31 hx (hb hby own_d2_17) rfl rfl ?_
  refine own_iaload (pc' := 19) X31 hx hZ e31 f36 (hb hby own_d2_18) rfl (by decide) rfl ?_
  have f37 := (V0.ext E31)
  refine own_iaload (pc' := 20) X31 hx hZ e31 f37 (hb hby own_d2_19) rfl hi0 (own_get hi0) ?_
  refine own_iastore (pc' := 21) X31 hx hZ e31 V31 (hb hby own_d2_20) rfl (by decide) 0 rfl (by simp) N0 ge32 ?_
  intro T38 h38 L38 X38 e38 N38 W38 V38
  replace V38 : Arv Z h38 a31 k31 .int (2 : Int32) [(.int (own_pick i0 v0 v1 v2 v3)), (.int (0 : Int32))] (.int (0 : Int32)) := V38
  show own_Ends p e below s _ _ _ T38 (mkF m 21 #[.val (.ref ra0), .val (.ref ra1), .val (.ref a31), .val (.int (0 : Int32))] [])
  refine own_iinc (pc' := 24) (z := (1 : Int32)) (l' := #[.val (.ref ra0), .val (.ref ra1), .val (.ref a31), .val (.int (1 : Int32))]) X38 hx (hb hby own_d2_21) rfl rfl (by decide) rfl ?_
  refine own_goto (pc' := 7) X38 hx (hb hby own_d2_24) (by decide) (by decide) ?_
  refine own_iloadN (pc' := 8) X38 hx (hb hby own_d2_7) rfl rfl ?_
  refine own_aloadN (pc' := 9) X38 hx (hb hby own_d2_8) rfl rfl rfl ?_
  have f39 := (f36.other W38 ne35)
  refine own_alen (pc' := 10) X38 hx hZ e38 f39 (hb hby own_d2_9) rfl ?_
  refine own_icmpNo (pc' := 13) X38 hx (hb hby own_d2_10) rfl (tlt (by decide)).2.1 ?_
  refine own_aloadN (pc' := 14) X38 hx (hb hby own_d2_13) rfl rfl rfl ?_
  refine own_iloadN (pc' := 15) X38 hx (hb hby own_d2_14) rfl rfl ?_
  refine own_aloadN (pc' := 16) X38 hx (hb hby own_d2_15) rfl rfl rfl ?_
  refine own_aloadN (pc' := 17) X38 hx (hb hby own_d2_16) rfl rfl rfl ?_
  refine own_iloadN (pc' := 18) X38 hx (hb hby own_d2_17) rfl rfl ?_
  refine own_iaload (pc' := 19) X38 hx hZ e38 f39 (hb hby own_d2_18) rfl (by decide) rfl ?_
  have f40 := (f37.other W38 ne34)
  refine own_iaload (pc' := 20) X38 hx hZ e38 f40 (hb hby own_d2_19) rfl hi1 (own_get hi1) ?_
  refine own_iastore (pc' := 21) X38 hx hZ e38 V38 (hb hby own_d2_20) rfl (by decide) 1 rfl (by simp) N38 ge32 ?_
  intro T41 h41 L41 X41 e41 N41 W41 V41
  replace V41 : Arv Z h41 a31 k31 .int (2 : Int32) [(.int (own_pick i0 v0 v1 v2 v3)), (.int (own_pick i1 v0 v1 v2 v3))] (.int (0 : Int32)) := V41
  show own_Ends p e below s _ _ _ T41 (mkF m 21 #[.val (.ref ra0), .val (.ref ra1), .val (.ref a31), .val (.int (1 : Int32))] [])
  refine own_iinc (pc' := 24) (z := (2 : Int32)) (l' := #[.val (.ref ra0), .val (.ref ra1), .val (.ref a31), .val (.int (2 : Int32))]) X41 hx (hb hby own_d2_21) rfl rfl (by decide) rfl ?_
  refine own_goto (pc' := 7) X41 hx (hb hby own_d2_24) (by decide) (by decide) ?_
  refine own_iloadN (pc' := 8) X41 hx (hb hby own_d2_7) rfl rfl ?_
  refine own_aloadN (pc' := 9) X41 hx (hb hby own_d2_8) rfl rfl rfl ?_
  have f42 := (f39.other W41 ne35)
  refine own_alen (pc' := 10) X41 hx hZ e41 f42 (hb hby own_d2_9) rfl ?_
  refine own_icmpYes (pc' := 27) X41 hx (hb hby own_d2_10) (flt (by decide)).2.1 (by decide) (by decide) ?_
  refine own_aloadN (pc' := 28) X41 hx (hb hby own_d2_27) rfl rfl rfl ?_
  refine own_retA X41 hx hlk hret rfl rfl rfl (hb hby own_d2_28) (by decide) (by decide) ?_
  have f43 := (((K0.ext E31).wr W38 (Or.inr sz33)).wr W41 (Or.inr sz33))
  rw [e41]
  exact ⟨a31, k31, rfl, N41, f43, sz33, V41⟩
def own_room1_3 : Room := { frames := 0, cells := 1, slots := 3, locals := 0 }
def own_Q1_3 (Z : State) (i0 : Int32) (i1 : Int32) (i2 : Int32) (i3 : Int32) (h0 : Heap) (n0 : Nat) (v : Option Value) (h : Heap) (L : List Loc) : Prop := ∃ (ra : Addr) (rk : ClassId), v = some (.ref ra) ∧ Fr n0 L ∧ Keep h0 h [] ∧ h0.size ≤ ra ∧ Arv Z h ra rk .int (3 : Int32) [(.int i0), (.int i1), (.int i2)] (.int (0 : Int32))
theorem own_ef_rm1_3 (m : MethodId) (x0 : Int32) (x1 : Int32) (x2 : Int32) (x3 : Int32) (x4 : Int32) : entryFrame m #[(.int x0), (.int x1), (.int x2), (.int x3), (.int x4)] 5 = mkF m 0 #[.val (.int x0), .val (.int x1), .val (.int x2), .val (.int x3), .val (.int x4)] [] := by first | (simp [entryFrame, mkF, argsToLocals, Value.category]; done) | rfl
set_option maxRecDepth 65536 in
set_option maxHeartbeats 40000000 in
theorem own_rm1_3 (l : Launch) (Z : State) (a0 : Array Value) (hw : ∀ d ∈ tables_1, d.before a0 Z = true) (ws : List Jvm.Cond) (i0 : Int32) (i1 : Int32) (i2 : Int32) (i3 : Int32) (h0 : Heap) (n0 : Nat) (Z0 : n0 ≤ h0.size) :
    MetFree l (⟨"com/example/skewcube/skewcube/AccumulatorReorderedPinLaw", "makeOrder", "(IIIII)[I"⟩ : MethodName) (head1 (Jvm.Cond.code (⟨"com/example/skewcube/skewcube/AccumulatorReorderedPinLaw", "makeOrder", "(IIIII)[I"⟩ : MethodName) method_2_code 5 (some (.array .int)) :: ws) own_room1_3) (fun zz U => zz = #[(.int (3 : Int32)), (.int i0), (.int i1), (.int i2), (.int i3)] ∧ Z.Warmed39 U.vm ∧ U.heap = h0) (fun _ _ _ _ _ => True) (fun _ U o U' => ∃ v L, o = .returned v ∧ own_Q1_3 Z i0 i1 i2 i3 h0 n0 v U'.heap L ∧ FrameEnd U o U' L own_room1_3.cells own_room1_3.slots) := by
  refine MetFree.of_bodySF (plainFor_of_name own_pn0) hisR ?_
  intro p e s m args below meth c s₁ Bd hml0 hP hK
  obtain ⟨rfl, hZ, hh⟩ := hP
  have hx := Bd.exec
  have hby := Bd.bytes
  have hml : c.maxLocals = 5 := hml0
  have hown : s.vm.findClass "com/example/skewcube/skewcube/AccumulatorReorderedPinLaw" = some m.cls := findClass_of_methodNamed Bd.named
  have hnm := (name_of_methodNamed Bd.named Bd.method).1
  have hlk : meth.locks = false := BodyLoose.notSynchronized Bd
  have hret := Bd.returns
  have X0 : Stand p l e own_room1_3 s m #[(.int (3 : Int32)), (.int i0), (.int i1), (.int i2), (.int i3)] below meth c s₁ [] 0 0 := Stand.of_body Bd
  have e0 : s₁.heap = h0 := by rw [← hh, Bd.state]; rfl
  have N0 := Fr.nil n0
  show own_Ends p e below s (own_Q1_3 Z i0 i1 i2 i3 h0 n0) own_room1_3.cells own_room1_3.slots s₁ (entryFrame m #[(.int (3 : Int32)), (.int i0), (.int i1), (.int i2), (.int i3)] 5)
  refine own_cast (own_ef_rm1_3 m (3 : Int32) i0 i1 i2 i3) ?_
  have K0 := Keep.refl h0 ([] : List Addr)
  refine own_iloadN (pc' := 1) X0 hx (hb hby own_d1_0) rfl rfl ?_
  refine own_ifYes (pc' := 8) X0 hx (hb hby own_d1_1) (feq (by decide)).2 (by decide) (by decide) ?_
  refine own_iloadN (pc' := 9) X0 hx (hb hby own_d1_8) rfl rfl ?_
  refine own_iconst (pc' := 10) (z := (1 : Int32)) X0 hx (hb hby own_d1_9) rfl rfl ?_
  refine own_icmpYes (pc' := 21) X0 hx (hb hby own_d1_10) (feq (by decide)).2 (by decide) (by decide) ?_
  refine own_iloadN (pc' := 22) X0 hx (hb hby own_d1_21) rfl rfl ?_
  refine own_iconst (pc' := 23) (z := (2 : Int32)) X0 hx (hb hby own_d1_22) rfl rfl ?_
  refine own_icmpYes (pc' := 38) X0 hx (hb hby own_d1_23) (feq (by decide)).2 (by decide) (by decide) ?_
  refine own_iloadN (pc' := 39) X0 hx (hb hby own_d1_38) rfl rfl ?_
  refine own_iconst (pc' := 40) (z := (3 : Int32)) X0 hx (hb hby own_d1_39) rfl rfl ?_
  refine own_icmpNo (pc' := 43) X0 hx (hb hby own_d1_40) rfl (teq (by decide)).2 ?_
  refine own_iconst (pc' := 44) (z := (3 : Int32)) X0 hx (hb hby own_d1_43) rfl rfl ?_
  refine own_newarr (pc' := 46) (aty := .int) X0 hx hZ (own_w0 hw) e0 (hb hby own_d1_44) rfl (by decide) 3 3 (by decide) (by decide) (by decide) (by decide) ?_
  intro T31 h31 a31 k31 X31 e31 E31 g31 V31
  replace V31 : Arv Z h31 a31 k31 .int (3 : Int32) [(.int (0 : Int32)), (.int (0 : Int32)), (.int (0 : Int32))] (.int (0 : Int32)) := V31
  have ge32 : n0 ≤ a31 := by rw [g31]; exact Z0
  have sz33 : h0.size ≤ a31 := by rw [g31]; exact K0.1
  show own_Ends p e below s _ _ _ T31 (mkF m 46 #[.val (.int (3 : Int32)), .val (.int i0), .val (.int i1), .val (.int i2), .val (.int i3)] [(.ref a31)])
  refine own_dup (pc' := 47) X31 hx (hb hby own_d1_46) rfl rfl ?_
  refine own_iconst (pc' := 48) (z := (0 : Int32)) X31 hx (hb hby own_d1_47) rfl rfl ?_
  refine own_iloadN (pc' := 49) X31 hx (hb hby own_d1_48) rfl rfl ?_
  refine own_iastore (pc' := 50) X31 hx hZ e31 V31 (hb hby own_d1_49) rfl (by decide) 0 rfl (by simp) N0 ge32 ?_
  intro T34 h34 L34 X34 e34 N34 W34 V34
  replace V34 : Arv Z h34 a31 k31 .int (3 : Int32) [(.int i0), (.int (0 : Int32)), (.int (0 : Int32))] (.int (0 : Int32)) := V34
  show own_Ends p e below s _ _ _ T34 (mkF m 50 #[.val (.int (3 : Int32)), .val (.int i0), .val (.int i1), .val (.int i2), .val (.int i3)] [(.ref a31)])
  refine own_dup (pc' := 51) X34 hx (hb hby own_d1_50) rfl rfl ?_
  refine own_iconst (pc' := 52) (z := (1 : Int32)) X34 hx (hb hby own_d1_51) rfl rfl ?_
  refine own_iloadN (pc' := 53) X34 hx (hb hby own_d1_52) rfl rfl ?_
  refine own_iastore (pc' := 54) X34 hx hZ e34 V34 (hb hby own_d1_53) rfl (by decide) 1 rfl (by simp) N34 ge32 ?_
  intro T35 h35 L35 X35 e35 N35 W35 V35
  replace V35 : Arv Z h35 a31 k31 .int (3 : Int32) [(.int i0), (.int i1), (.int (0 : Int32))] (.int (0 : Int32)) := V35
  show own_Ends p e below s _ _ _ T35 (mkF m 54 #[.val (.int (3 : Int32)), .val (.int i0), .val (.int i1), .val (.int i2), .val (.int i3)] [(.ref a31)])
  refine own_dup (pc' := 55) X35 hx (hb hby own_d1_54) rfl rfl ?_
  refine own_iconst (pc' := 56) (z := (2 : Int32)) X35 hx (hb hby own_d1_55) rfl rfl ?_
  refine own_iloadN (pc' := 57) X35 hx (hb hby own_d1_56) rfl rfl ?_
  refine own_iastore (pc' := 58) X35 hx hZ e35 V35 (hb hby own_d1_57) rfl (by decide) 2 rfl (by simp) N35 ge32 ?_
  intro T36 h36 L36 X36 e36 N36 W36 V36
  replace V36 : Arv Z h36 a31 k31 .int (3 : Int32) [(.int i0), (.int i1), (.int i2)] (.int (0 : Int32)) := V36
  show own_Ends p e below s _ _ _ T36 (mkF m 58 #[.val (.int (3 : Int32)), .val (.int i0), .val (.int i1), .val (.int i2), .val (.int i3)] [(.ref a31)])
  refine own_retA X36 hx hlk hret rfl rfl rfl (hb hby own_d1_58) (by decide) (by decide) ?_
  have f37 := ((((K0.ext E31).wr W34 (Or.inr sz33)).wr W35 (Or.inr sz33)).wr W36 (Or.inr sz33))
  rw [e36]
  exact ⟨a31, k31, rfl, N36, f37, sz33, V36⟩
def own_room2_3 : Room := { frames := 0, cells := 1, slots := 3, locals := 0 }
def own_Q2_3 (Z : State) (ra0 : Addr) (ra1 : Addr) (k0 : ClassId) (k1 : ClassId) (v0 : Int32) (v1 : Int32) (v2 : Int32) (v3 : Int32) (i0 : Int32) (i1 : Int32) (i2 : Int32) (h0 : Heap) (n0 : Nat) (v : Option Value) (h : Heap) (L : List Loc) : Prop := ∃ (ra : Addr) (rk : ClassId), v = some (.ref ra) ∧ Fr n0 L ∧ Keep h0 h [] ∧ h0.size ≤ ra ∧ Arv Z h ra rk .int (3 : Int32) [(.int (own_pick i0 v0 v1 v2 v3)), (.int (own_pick i1 v0 v1 v2 v3)), (.int (own_pick i2 v0 v1 v2 v3))] (.int (0 : Int32))
theorem own_ef_rm2_3 (m : MethodId) (x0 : Addr) (x1 : Addr) : entryFrame m #[(.ref x0), (.ref x1)] 4 = mkF m 0 #[.val (.ref x0), .val (.ref x1), .unset, .unset] [] := by first | (simp [entryFrame, mkF, argsToLocals, Value.category]; done) | rfl
set_option maxRecDepth 65536 in
set_option maxHeartbeats 40000000 in
theorem own_rm2_3 (l : Launch) (Z : State) (a0 : Array Value) (hw : ∀ d ∈ tables_1, d.before a0 Z = true) (ws : List Jvm.Cond) (ra0 : Addr) (ra1 : Addr) (k0 : ClassId) (k1 : ClassId) (v0 : Int32) (v1 : Int32) (v2 : Int32) (v3 : Int32) (i0 : Int32) (i1 : Int32) (i2 : Int32) (h0 : Heap) (n0 : Nat) (Z0 : n0 ≤ h0.size) (V0 : Arv Z h0 ra0 k0 .int (4 : Int32) [(.int v0), (.int v1), (.int v2), (.int v3)] (.int (0 : Int32))) (V1 : Arv Z h0 ra1 k1 .int (3 : Int32) [(.int i0), (.int i1), (.int i2)] (.int (0 : Int32))) (hne : ra0 ≠ ra1) (hi0 : ¬ i0 < 0 ∧ i0 < 4) (hi1 : ¬ i1 < 0 ∧ i1 < 4) (hi2 : ¬ i2 < 0 ∧ i2 < 4) :
    MetFree l (⟨"com/example/skewcube/skewcube/Accumulator", "reordered", "([I[I)[I"⟩ : MethodName) (head1 (Jvm.Cond.code (⟨"com/example/skewcube/skewcube/Accumulator", "reordered", "([I[I)[I"⟩ : MethodName) prog_1_method_8_code 4 (some (.array .int)) :: ws) own_room2_3) (fun zz U => zz = #[(.ref ra0), (.ref ra1)] ∧ Z.Warmed39 U.vm ∧ U.heap = h0) (fun _ _ _ _ _ => True) (fun _ U o U' => ∃ v L, o = .returned v ∧ own_Q2_3 Z ra0 ra1 k0 k1 v0 v1 v2 v3 i0 i1 i2 h0 n0 v U'.heap L ∧ FrameEnd U o U' L own_room2_3.cells own_room2_3.slots) := by
  refine MetFree.of_bodySF (plainFor_of_name own_pn1) hisR ?_
  intro p e s m args below meth c s₁ Bd hml0 hP hK
  obtain ⟨rfl, hZ, hh⟩ := hP
  have hx := Bd.exec
  have hby := Bd.bytes
  have hml : c.maxLocals = 4 := hml0
  have hown : s.vm.findClass "com/example/skewcube/skewcube/Accumulator" = some m.cls := findClass_of_methodNamed Bd.named
  have hnm := (name_of_methodNamed Bd.named Bd.method).1
  have hlk : meth.locks = false := BodyLoose.notSynchronized Bd
  have hret := Bd.returns
  have X0 : Stand p l e own_room2_3 s m #[(.ref ra0), (.ref ra1)] below meth c s₁ [] 0 0 := Stand.of_body Bd
  have e0 : s₁.heap = h0 := by rw [← hh, Bd.state]; rfl
  have N0 := Fr.nil n0
  show own_Ends p e below s (own_Q2_3 Z ra0 ra1 k0 k1 v0 v1 v2 v3 i0 i1 i2 h0 n0) own_room2_3.cells own_room2_3.slots s₁ (entryFrame m #[(.ref ra0), (.ref ra1)] 4)
  refine own_cast (own_ef_rm2_3 m ra0 ra1) ?_
  have K0 := Keep.refl h0 ([] : List Addr)
  refine own_aloadN (pc' := 1) X0 hx (hb hby own_d2_0) rfl rfl rfl ?_
  refine own_alen (pc' := 2) X0 hx hZ e0 V1 (hb hby own_d2_1) rfl ?_
  refine own_newarr (pc' := 4) (aty := .int) X0 hx hZ (own_w0 hw) e0 (hb hby own_d2_2) rfl (by decide) 3 3 (by decide) (by decide) (by decide) (by decide) ?_
  intro T31 h31 a31 k31 X31 e31 E31 g31 V31
  replace V31 : Arv Z h31 a31 k31 .int (3 : Int32) [(.int (0 : Int32)), (.int (0 : Int32)), (.int (0 : Int32))] (.int (0 : Int32)) := V31
  have ge32 : n0 ≤ a31 := by rw [g31]; exact Z0
  have sz33 : h0.size ≤ a31 := by rw [g31]; exact K0.1
  have ne34 : ra0 ≠ a31 := Nat.ne_of_lt (by rw [g31]; exact V0.lt)
  have ne35 : ra1 ≠ a31 := Nat.ne_of_lt (by rw [g31]; exact V1.lt)
  show own_Ends p e below s _ _ _ T31 (mkF m 4 #[.val (.ref ra0), .val (.ref ra1), .unset, .unset] [(.ref a31)])
  refine own_astoreN (pc' := 5) (l' := #[.val (.ref ra0), .val (.ref ra1), .val (.ref a31), .unset]) X31 hx (hb hby own_d2_4) rfl rfl rfl ?_
  refine own_iconst (pc' := 6) (z := (0 : Int32)) X31 hx (hb hby own_d2_5) rfl rfl ?_
  refine own_istoreN (pc' := 7) (l' := #[.val (.ref ra0), .val (.ref ra1), .val (.ref a31), .val (.int (0 : Int32))]) X31 hx (hb hby own_d2_6) rfl rfl ?_
  refine own_iloadN (pc' := 8) X31 hx (hb hby own_d2_7) rfl rfl ?_
  refine own_aloadN (pc' := 9) X31 hx (hb hby own_d2_8) rfl rfl rfl ?_
  have f36 := (V1.ext E31)
  refine own_alen (pc' := 10) X31 hx hZ e31 f36 (hb hby own_d2_9) rfl ?_
  refine own_icmpNo (pc' := 13) X31 hx (hb hby own_d2_10) rfl (tlt (by decide)).2.1 ?_
  refine own_aloadN (pc' := 14) X31 hx (hb hby own_d2_13) rfl rfl rfl ?_
  refine own_iloadN (pc' := 15) X31 hx (hb hby own_d2_14) rfl rfl ?_
  refine own_aloadN (pc' := 16) X31 hx (hb hby own_d2_15) rfl rfl rfl ?_
  refine own_aloadN (pc' := 17) X31 hx (hb hby own_d2_16) rfl rfl rfl ?_
  refine own_iloadN (pc' := 18) X31 hx (hb hby own_d2_17) rfl rfl ?_
  refine own_iaload (pc' := 19) X31 hx hZ e31 f36 (hb hby own_d2_18) rfl (by decide) rfl ?_
  have f37 := (V0.ext E31)
  refine own_iaload (pc' := 20) X31 hx hZ e31 f37 (hb hby own_d2_19) rfl hi0 (own_get hi0) ?_
  refine own_iastore (pc' := 21) X31 hx hZ e31 V31 (hb hby own_d2_20) rfl (by decide) 0 rfl (by simp) N0 ge32 ?_
  intro T38 h38 L38 X38 e38 N38 W38 V38
  replace V38 : Arv Z h38 a31 k31 .int (3 : Int32) [(.int (own_pick i0 v0 v1 v2 v3)), (.int (0 : Int32)), (.int (0 : Int32))] (.int (0 : Int32)) := V38
  show own_Ends p e below s _ _ _ T38 (mkF m 21 #[.val (.ref ra0), .val (.ref ra1), .val (.ref a31), .val (.int (0 : Int32))] [])
  refine own_iinc (pc' := 24) (z := (1 : Int32)) (l' := #[.val (.ref ra0), .val (.ref ra1), .val (.ref a31), .val (.int (1 : Int32))]) X38 hx (hb hby own_d2_21) rfl rfl (by decide) rfl ?_
  refine own_goto (pc' := 7) X38 hx (hb hby own_d2_24) (by decide) (by decide) ?_
  refine own_iloadN (pc' := 8) X38 hx (hb hby own_d2_7) rfl rfl ?_
  refine own_aloadN (pc' := 9) X38 hx (hb hby own_d2_8) rfl rfl rfl ?_
  have f39 := (f36.other W38 ne35)
  refine own_alen (pc' := 10) X38 hx hZ e38 f39 (hb hby own_d2_9) rfl ?_
  refine own_icmpNo (pc' := 13) X38 hx (hb hby own_d2_10) rfl (tlt (by decide)).2.1 ?_
  refine own_aloadN (pc' := 14) X38 hx (hb hby own_d2_13) rfl rfl rfl ?_
  refine own_iloadN (pc' := 15) X38 hx (hb hby own_d2_14) rfl rfl ?_
  refine own_aloadN (pc' := 16) X38 hx (hb hby own_d2_15) rfl rfl rfl ?_
  refine own_aloadN (pc' := 17) X38 hx (hb hby own_d2_16) rfl rfl rfl ?_
  refine own_iloadN (pc' := 18) X38 hx (hb hby own_d2_17) rfl rfl ?_
  refine own_iaload (pc' := 19) X38 hx hZ e38 f39 (hb hby own_d2_18) rfl (by decide) rfl ?_
  have f40 := (f37.other W38 ne34)
  refine own_iaload (pc' := 20) X38 hx hZ e38 f40 (hb hby own_d2_19) rfl hi1 (own_get hi1) ?_
  refine own_iastore (pc' := 21) X38 hx hZ e38 V38 (hb hby own_d2_20) rfl (by decide) 1 rfl (by simp) N38 ge32 ?_
  intro T41 h41 L41 X41 e41 N41 W41 V41
  replace V41 : Arv Z h41 a31 k31 .int (3 : Int32) [(.int (own_pick i0 v0 v1 v2 v3)), (.int (own_pick i1 v0 v1 v2 v3)), (.int (0 : Int32))] (.int (0 : Int32)) := V41
  show own_Ends p e below s _ _ _ T41 (mkF m 21 #[.val (.ref ra0), .val (.ref ra1), .val (.ref a31), .val (.int (1 : Int32))] [])
  refine own_iinc (pc' := 24) (z := (2 : Int32)) (l' := #[.val (.ref ra0), .val (.ref ra1), .val (.ref a31), .val (.int (2 : Int32))]) X41 hx (hb hby own_d2_21) rfl rfl (by decide) rfl ?_
  refine own_goto (pc' := 7) X41 hx (hb hby own_d2_24) (by decide) (by decide) ?_
  refine own_iloadN (pc' := 8) X41 hx (hb hby own_d2_7) rfl rfl ?_
  refine own_aloadN (pc' := 9) X41 hx (hb hby own_d2_8) rfl rfl rfl ?_
  have f42 := (f39.other W41 ne35)
  refine own_alen (pc' := 10) X41 hx hZ e41 f42 (hb hby own_d2_9) rfl ?_
  refine own_icmpNo (pc' := 13) X41 hx (hb hby own_d2_10) rfl (tlt (by decide)).2.1 ?_
  refine own_aloadN (pc' := 14) X41 hx (hb hby own_d2_13) rfl rfl rfl ?_
  refine own_iloadN (pc' := 15) X41 hx (hb hby own_d2_14) rfl rfl ?_
  refine own_aloadN (pc' := 16) X41 hx (hb hby own_d2_15) rfl rfl rfl ?_
  refine own_aloadN (pc' := 17) X41 hx (hb hby own_d2_16) rfl rfl rfl ?_
  refine own_iloadN (pc' := 18) X41 hx (hb hby own_d2_17) rfl rfl ?_
  refine own_iaload (pc' := 19) X41 hx hZ e41 f42 (hb hby own_d2_18) rfl (by decide) rfl ?_
  have f43 := (f40.other W41 ne34)
  refine own_iaload (pc' := 20) X41 hx hZ e41 f43 (hb hby own_d2_19) rfl hi2 (own_get hi2) ?_
  refine own_iastore (pc' := 21) X41 hx hZ e41 V41 (hb hby own_d2_20) rfl (by decide) 2 rfl (by simp) N41 ge32 ?_
  intro T44 h44 L44 X44 e44 N44 W44 V44
  replace V44 : Arv Z h44 a31 k31 .int (3 : Int32) [(.int (own_pick i0 v0 v1 v2 v3)), (.int (own_pick i1 v0 v1 v2 v3)), (.int (own_pick i2 v0 v1 v2 v3))] (.int (0 : Int32)) := V44
  show own_Ends p e below s _ _ _ T44 (mkF m 21 #[.val (.ref ra0), .val (.ref ra1), .val (.ref a31), .val (.int (2 : Int32))] [])
  refine own_iinc (pc' := 24) (z := (3 : Int32)) (l' := #[.val (.ref ra0), .val (.ref ra1), .val (.ref a31), .val (.int (3 : Int32))]) X44 hx (hb hby own_d2_21) rfl rfl (by decide) rfl ?_
  refine own_goto (pc' := 7) X44 hx (hb hby own_d2_24) (by decide) (by decide) ?_
  refine own_iloadN (pc' := 8) X44 hx (hb hby own_d2_7) rfl rfl ?_
  refine own_aloadN (pc' := 9) X44 hx (hb hby own_d2_8) rfl rfl rfl ?_
  have f45 := (f42.other W44 ne35)
  refine own_alen (pc' := 10) X44 hx hZ e44 f45 (hb hby own_d2_9) rfl ?_
  refine own_icmpYes (pc' := 27) X44 hx (hb hby own_d2_10) (flt (by decide)).2.1 (by decide) (by decide) ?_
  refine own_aloadN (pc' := 28) X44 hx (hb hby own_d2_27) rfl rfl rfl ?_
  refine own_retA X44 hx hlk hret rfl rfl rfl (hb hby own_d2_28) (by decide) (by decide) ?_
  have f46 := ((((K0.ext E31).wr W38 (Or.inr sz33)).wr W41 (Or.inr sz33)).wr W44 (Or.inr sz33))
  rw [e44]
  exact ⟨a31, k31, rfl, N44, f46, sz33, V44⟩
def own_room1_4 : Room := { frames := 0, cells := 1, slots := 4, locals := 0 }
def own_Q1_4 (Z : State) (i0 : Int32) (i1 : Int32) (i2 : Int32) (i3 : Int32) (h0 : Heap) (n0 : Nat) (v : Option Value) (h : Heap) (L : List Loc) : Prop := ∃ (ra : Addr) (rk : ClassId), v = some (.ref ra) ∧ Fr n0 L ∧ Keep h0 h [] ∧ h0.size ≤ ra ∧ Arv Z h ra rk .int (4 : Int32) [(.int i0), (.int i1), (.int i2), (.int i3)] (.int (0 : Int32))
theorem own_ef_rm1_4 (m : MethodId) (x0 : Int32) (x1 : Int32) (x2 : Int32) (x3 : Int32) (x4 : Int32) : entryFrame m #[(.int x0), (.int x1), (.int x2), (.int x3), (.int x4)] 5 = mkF m 0 #[.val (.int x0), .val (.int x1), .val (.int x2), .val (.int x3), .val (.int x4)] [] := by first | (simp [entryFrame, mkF, argsToLocals, Value.category]; done) | rfl
set_option maxRecDepth 65536 in
set_option maxHeartbeats 40000000 in
theorem own_rm1_4 (l : Launch) (Z : State) (a0 : Array Value) (hw : ∀ d ∈ tables_1, d.before a0 Z = true) (ws : List Jvm.Cond) (i0 : Int32) (i1 : Int32) (i2 : Int32) (i3 : Int32) (h0 : Heap) (n0 : Nat) (Z0 : n0 ≤ h0.size) :
    MetFree l (⟨"com/example/skewcube/skewcube/AccumulatorReorderedPinLaw", "makeOrder", "(IIIII)[I"⟩ : MethodName) (head1 (Jvm.Cond.code (⟨"com/example/skewcube/skewcube/AccumulatorReorderedPinLaw", "makeOrder", "(IIIII)[I"⟩ : MethodName) method_2_code 5 (some (.array .int)) :: ws) own_room1_4) (fun zz U => zz = #[(.int (4 : Int32)), (.int i0), (.int i1), (.int i2), (.int i3)] ∧ Z.Warmed39 U.vm ∧ U.heap = h0) (fun _ _ _ _ _ => True) (fun _ U o U' => ∃ v L, o = .returned v ∧ own_Q1_4 Z i0 i1 i2 i3 h0 n0 v U'.heap L ∧ FrameEnd U o U' L own_room1_4.cells own_room1_4.slots) := by
  refine MetFree.of_bodySF (plainFor_of_name own_pn0) hisR ?_
  intro p e s m args below meth c s₁ Bd hml0 hP hK
  obtain ⟨rfl, hZ, hh⟩ := hP
  have hx := Bd.exec
  have hby := Bd.bytes
  have hml : c.maxLocals = 5 := hml0
  have hown : s.vm.findClass "com/example/skewcube/skewcube/AccumulatorReorderedPinLaw" = some m.cls := findClass_of_methodNamed Bd.named
  have hnm := (name_of_methodNamed Bd.named Bd.method).1
  have hlk : meth.locks = false := BodyLoose.notSynchronized Bd
  have hret := Bd.returns
  have X0 : Stand p l e own_room1_4 s m #[(.int (4 : Int32)), (.int i0), (.int i1), (.int i2), (.int i3)] below meth c s₁ [] 0 0 := Stand.of_body Bd
  have e0 : s₁.heap = h0 := by rw [← hh, Bd.state]; rfl
  have N0 := Fr.nil n0
  show own_Ends p e below s (own_Q1_4 Z i0 i1 i2 i3 h0 n0) own_room1_4.cells own_room1_4.slots s₁ (entryFrame m #[(.int (4 : Int32)), (.int i0), (.int i1), (.int i2), (.int i3)] 5)
  refine own_cast (own_ef_rm1_4 m (4 : Int32) i0 i1 i2 i3) ?_
  have K0 := Keep.refl h0 ([] : List Addr)
  refine own_iloadN (pc' := 1) X0 hx (hb hby own_d1_0) rfl rfl ?_
  refine own_ifYes (pc' := 8) X0 hx (hb hby own_d1_1) (feq (by decide)).2 (by decide) (by decide) ?_
  refine own_iloadN (pc' := 9) X0 hx (hb hby own_d1_8) rfl rfl ?_
  refine own_iconst (pc' := 10) (z := (1 : Int32)) X0 hx (hb hby own_d1_9) rfl rfl ?_
  refine own_icmpYes (pc' := 21) X0 hx (hb hby own_d1_10) (feq (by decide)).2 (by decide) (by decide) ?_
  refine own_iloadN (pc' := 22) X0 hx (hb hby own_d1_21) rfl rfl ?_
  refine own_iconst (pc' := 23) (z := (2 : Int32)) X0 hx (hb hby own_d1_22) rfl rfl ?_
  refine own_icmpYes (pc' := 38) X0 hx (hb hby own_d1_23) (feq (by decide)).2 (by decide) (by decide) ?_
  refine own_iloadN (pc' := 39) X0 hx (hb hby own_d1_38) rfl rfl ?_
  refine own_iconst (pc' := 40) (z := (3 : Int32)) X0 hx (hb hby own_d1_39) rfl rfl ?_
  refine own_icmpYes (pc' := 59) X0 hx (hb hby own_d1_40) (feq (by decide)).2 (by decide) (by decide) ?_
  refine own_iconst (pc' := 60) (z := (4 : Int32)) X0 hx (hb hby own_d1_59) rfl rfl ?_
  refine own_newarr (pc' := 62) (aty := .int) X0 hx hZ (own_w0 hw) e0 (hb hby own_d1_60) rfl (by decide) 4 4 (by decide) (by decide) (by decide) (by decide) ?_
  intro T31 h31 a31 k31 X31 e31 E31 g31 V31
  replace V31 : Arv Z h31 a31 k31 .int (4 : Int32) [(.int (0 : Int32)), (.int (0 : Int32)), (.int (0 : Int32)), (.int (0 : Int32))] (.int (0 : Int32)) := V31
  have ge32 : n0 ≤ a31 := by rw [g31]; exact Z0
  have sz33 : h0.size ≤ a31 := by rw [g31]; exact K0.1
  show own_Ends p e below s _ _ _ T31 (mkF m 62 #[.val (.int (4 : Int32)), .val (.int i0), .val (.int i1), .val (.int i2), .val (.int i3)] [(.ref a31)])
  refine own_dup (pc' := 63) X31 hx (hb hby own_d1_62) rfl rfl ?_
  refine own_iconst (pc' := 64) (z := (0 : Int32)) X31 hx (hb hby own_d1_63) rfl rfl ?_
  refine own_iloadN (pc' := 65) X31 hx (hb hby own_d1_64) rfl rfl ?_
  refine own_iastore (pc' := 66) X31 hx hZ e31 V31 (hb hby own_d1_65) rfl (by decide) 0 rfl (by simp) N0 ge32 ?_
  intro T34 h34 L34 X34 e34 N34 W34 V34
  replace V34 : Arv Z h34 a31 k31 .int (4 : Int32) [(.int i0), (.int (0 : Int32)), (.int (0 : Int32)), (.int (0 : Int32))] (.int (0 : Int32)) := V34
  show own_Ends p e below s _ _ _ T34 (mkF m 66 #[.val (.int (4 : Int32)), .val (.int i0), .val (.int i1), .val (.int i2), .val (.int i3)] [(.ref a31)])
  refine own_dup (pc' := 67) X34 hx (hb hby own_d1_66) rfl rfl ?_
  refine own_iconst (pc' := 68) (z := (1 : Int32)) X34 hx (hb hby own_d1_67) rfl rfl ?_
  refine own_iloadN (pc' := 69) X34 hx (hb hby own_d1_68) rfl rfl ?_
  refine own_iastore (pc' := 70) X34 hx hZ e34 V34 (hb hby own_d1_69) rfl (by decide) 1 rfl (by simp) N34 ge32 ?_
  intro T35 h35 L35 X35 e35 N35 W35 V35
  replace V35 : Arv Z h35 a31 k31 .int (4 : Int32) [(.int i0), (.int i1), (.int (0 : Int32)), (.int (0 : Int32))] (.int (0 : Int32)) := V35
  show own_Ends p e below s _ _ _ T35 (mkF m 70 #[.val (.int (4 : Int32)), .val (.int i0), .val (.int i1), .val (.int i2), .val (.int i3)] [(.ref a31)])
  refine own_dup (pc' := 71) X35 hx (hb hby own_d1_70) rfl rfl ?_
  refine own_iconst (pc' := 72) (z := (2 : Int32)) X35 hx (hb hby own_d1_71) rfl rfl ?_
  refine own_iloadN (pc' := 73) X35 hx (hb hby own_d1_72) rfl rfl ?_
  refine own_iastore (pc' := 74) X35 hx hZ e35 V35 (hb hby own_d1_73) rfl (by decide) 2 rfl (by simp) N35 ge32 ?_
  intro T36 h36 L36 X36 e36 N36 W36 V36
  replace V36 : Arv Z h36 a31 k31 .int (4 : Int32) [(.int i0), (.int i1), (.int i2), (.int (0 : Int32))] (.int (0 : Int32)) := V36
  show own_Ends p e below s _ _ _ T36 (mkF m 74 #[.val (.int (4 : Int32)), .val (.int i0), .val (.int i1), .val (.int i2), .val (.int i3)] [(.ref a31)])
  refine own_dup (pc' := 75) X36 hx (hb hby own_d1_74) rfl rfl ?_
  refine own_iconst (pc' := 76) (z := (3 : Int32)) X36 hx (hb hby own_d1_75) rfl rfl ?_
  refine own_iload (pc' := 78) X36 hx (hb hby own_d1_76) rfl rfl ?_
  refine own_iastore (pc' := 79) X36 hx hZ e36 V36 (hb hby own_d1_78) rfl (by decide) 3 rfl (by simp) N36 ge32 ?_
  intro T37 h37 L37 X37 e37 N37 W37 V37
  replace V37 : Arv Z h37 a31 k31 .int (4 : Int32) [(.int i0), (.int i1), (.int i2), (.int i3)] (.int (0 : Int32)) := V37
  show own_Ends p e below s _ _ _ T37 (mkF m 79 #[.val (.int (4 : Int32)), .val (.int i0), .val (.int i1), .val (.int i2), .val (.int i3)] [(.ref a31)])
  refine own_retA X37 hx hlk hret rfl rfl rfl (hb hby own_d1_79) (by decide) (by decide) ?_
  have f38 := (((((K0.ext E31).wr W34 (Or.inr sz33)).wr W35 (Or.inr sz33)).wr W36 (Or.inr sz33)).wr W37 (Or.inr sz33))
  rw [e37]
  exact ⟨a31, k31, rfl, N37, f38, sz33, V37⟩
def own_room2_4 : Room := { frames := 0, cells := 1, slots := 4, locals := 0 }
def own_Q2_4 (Z : State) (ra0 : Addr) (ra1 : Addr) (k0 : ClassId) (k1 : ClassId) (v0 : Int32) (v1 : Int32) (v2 : Int32) (v3 : Int32) (i0 : Int32) (i1 : Int32) (i2 : Int32) (i3 : Int32) (h0 : Heap) (n0 : Nat) (v : Option Value) (h : Heap) (L : List Loc) : Prop := ∃ (ra : Addr) (rk : ClassId), v = some (.ref ra) ∧ Fr n0 L ∧ Keep h0 h [] ∧ h0.size ≤ ra ∧ Arv Z h ra rk .int (4 : Int32) [(.int (own_pick i0 v0 v1 v2 v3)), (.int (own_pick i1 v0 v1 v2 v3)), (.int (own_pick i2 v0 v1 v2 v3)), (.int (own_pick i3 v0 v1 v2 v3))] (.int (0 : Int32))
theorem own_ef_rm2_4 (m : MethodId) (x0 : Addr) (x1 : Addr) : entryFrame m #[(.ref x0), (.ref x1)] 4 = mkF m 0 #[.val (.ref x0), .val (.ref x1), .unset, .unset] [] := by first | (simp [entryFrame, mkF, argsToLocals, Value.category]; done) | rfl
set_option maxRecDepth 65536 in
set_option maxHeartbeats 40000000 in
theorem own_rm2_4 (l : Launch) (Z : State) (a0 : Array Value) (hw : ∀ d ∈ tables_1, d.before a0 Z = true) (ws : List Jvm.Cond) (ra0 : Addr) (ra1 : Addr) (k0 : ClassId) (k1 : ClassId) (v0 : Int32) (v1 : Int32) (v2 : Int32) (v3 : Int32) (i0 : Int32) (i1 : Int32) (i2 : Int32) (i3 : Int32) (h0 : Heap) (n0 : Nat) (Z0 : n0 ≤ h0.size) (V0 : Arv Z h0 ra0 k0 .int (4 : Int32) [(.int v0), (.int v1), (.int v2), (.int v3)] (.int (0 : Int32))) (V1 : Arv Z h0 ra1 k1 .int (4 : Int32) [(.int i0), (.int i1), (.int i2), (.int i3)] (.int (0 : Int32))) (hne : ra0 ≠ ra1) (hi0 : ¬ i0 < 0 ∧ i0 < 4) (hi1 : ¬ i1 < 0 ∧ i1 < 4) (hi2 : ¬ i2 < 0 ∧ i2 < 4) (hi3 : ¬ i3 < 0 ∧ i3 < 4) :
    MetFree l (⟨"com/example/skewcube/skewcube/Accumulator", "reordered", "([I[I)[I"⟩ : MethodName) (head1 (Jvm.Cond.code (⟨"com/example/skewcube/skewcube/Accumulator", "reordered", "([I[I)[I"⟩ : MethodName) prog_1_method_8_code 4 (some (.array .int)) :: ws) own_room2_4) (fun zz U => zz = #[(.ref ra0), (.ref ra1)] ∧ Z.Warmed39 U.vm ∧ U.heap = h0) (fun _ _ _ _ _ => True) (fun _ U o U' => ∃ v L, o = .returned v ∧ own_Q2_4 Z ra0 ra1 k0 k1 v0 v1 v2 v3 i0 i1 i2 i3 h0 n0 v U'.heap L ∧ FrameEnd U o U' L own_room2_4.cells own_room2_4.slots) := by
  refine MetFree.of_bodySF (plainFor_of_name own_pn1) hisR ?_
  intro p e s m args below meth c s₁ Bd hml0 hP hK
  obtain ⟨rfl, hZ, hh⟩ := hP
  have hx := Bd.exec
  have hby := Bd.bytes
  have hml : c.maxLocals = 4 := hml0
  have hown : s.vm.findClass "com/example/skewcube/skewcube/Accumulator" = some m.cls := findClass_of_methodNamed Bd.named
  have hnm := (name_of_methodNamed Bd.named Bd.method).1
  have hlk : meth.locks = false := BodyLoose.notSynchronized Bd
  have hret := Bd.returns
  have X0 : Stand p l e own_room2_4 s m #[(.ref ra0), (.ref ra1)] below meth c s₁ [] 0 0 := Stand.of_body Bd
  have e0 : s₁.heap = h0 := by rw [← hh, Bd.state]; rfl
  have N0 := Fr.nil n0
  show own_Ends p e below s (own_Q2_4 Z ra0 ra1 k0 k1 v0 v1 v2 v3 i0 i1 i2 i3 h0 n0) own_room2_4.cells own_room2_4.slots s₁ (entryFrame m #[(.ref ra0), (.ref ra1)] 4)
  refine own_cast (own_ef_rm2_4 m ra0 ra1) ?_
  have K0 := Keep.refl h0 ([] : List Addr)
  refine own_aloadN (pc' := 1) X0 hx (hb hby own_d2_0) rfl rfl rfl ?_
  refine own_alen (pc' := 2) X0 hx hZ e0 V1 (hb hby own_d2_1) rfl ?_
  refine own_newarr (pc' := 4) (aty := .int) X0 hx hZ (own_w0 hw) e0 (hb hby own_d2_2) rfl (by decide) 4 4 (by decide) (by decide) (by decide) (by decide) ?_
  intro T31 h31 a31 k31 X31 e31 E31 g31 V31
  replace V31 : Arv Z h31 a31 k31 .int (4 : Int32) [(.int (0 : Int32)), (.int (0 : Int32)), (.int (0 : Int32)), (.int (0 : Int32))] (.int (0 : Int32)) := V31
  have ge32 : n0 ≤ a31 := by rw [g31]; exact Z0
  have sz33 : h0.size ≤ a31 := by rw [g31]; exact K0.1
  have ne34 : ra0 ≠ a31 := Nat.ne_of_lt (by rw [g31]; exact V0.lt)
  have ne35 : ra1 ≠ a31 := Nat.ne_of_lt (by rw [g31]; exact V1.lt)
  show own_Ends p e below s _ _ _ T31 (mkF m 4 #[.val (.ref ra0), .val (.ref ra1), .unset, .unset] [(.ref a31)])
  refine own_astoreN (pc' := 5) (l' := #[.val (.ref ra0), .val (.ref ra1), .val (.ref a31), .unset]) X31 hx (hb hby own_d2_4) rfl rfl rfl ?_
  refine own_iconst (pc' := 6) (z := (0 : Int32)) X31 hx (hb hby own_d2_5) rfl rfl ?_
  refine own_istoreN (pc' := 7) (l' := #[.val (.ref ra0), .val (.ref ra1), .val (.ref a31), .val (.int (0 : Int32))]) X31 hx (hb hby own_d2_6) rfl rfl ?_
  refine own_iloadN (pc' := 8) X31 hx (hb hby own_d2_7) rfl rfl ?_
  refine own_aloadN (pc' := 9) X31 hx (hb hby own_d2_8) rfl rfl rfl ?_
  have f36 := (V1.ext E31)
  refine own_alen (pc' := 10) X31 hx hZ e31 f36 (hb hby own_d2_9) rfl ?_
  refine own_icmpNo (pc' := 13) X31 hx (hb hby own_d2_10) rfl (tlt (by decide)).2.1 ?_
  refine own_aloadN (pc' := 14) X31 hx (hb hby own_d2_13) rfl rfl rfl ?_
  refine own_iloadN (pc' := 15) X31 hx (hb hby own_d2_14) rfl rfl ?_
  refine own_aloadN (pc' := 16) X31 hx (hb hby own_d2_15) rfl rfl rfl ?_
  refine own_aloadN (pc' := 17) X31 hx (hb hby own_d2_16) rfl rfl rfl ?_
  refine own_iloadN (pc' := 18) X31 hx (hb hby own_d2_17) rfl rfl ?_
  refine own_iaload (pc' := 19) X31 hx hZ e31 f36 (hb hby own_d2_18) rfl (by decide) rfl ?_
  have f37 := (V0.ext E31)
  refine own_iaload (pc' := 20) X31 hx hZ e31 f37 (hb hby own_d2_19) rfl hi0 (own_get hi0) ?_
  refine own_iastore (pc' := 21) X31 hx hZ e31 V31 (hb hby own_d2_20) rfl (by decide) 0 rfl (by simp) N0 ge32 ?_
  intro T38 h38 L38 X38 e38 N38 W38 V38
  replace V38 : Arv Z h38 a31 k31 .int (4 : Int32) [(.int (own_pick i0 v0 v1 v2 v3)), (.int (0 : Int32)), (.int (0 : Int32)), (.int (0 : Int32))] (.int (0 : Int32)) := V38
  show own_Ends p e below s _ _ _ T38 (mkF m 21 #[.val (.ref ra0), .val (.ref ra1), .val (.ref a31), .val (.int (0 : Int32))] [])
  refine own_iinc (pc' := 24) (z := (1 : Int32)) (l' := #[.val (.ref ra0), .val (.ref ra1), .val (.ref a31), .val (.int (1 : Int32))]) X38 hx (hb hby own_d2_21) rfl rfl (by decide) rfl ?_
  refine own_goto (pc' := 7) X38 hx (hb hby own_d2_24) (by decide) (by decide) ?_
  refine own_iloadN (pc' := 8) X38 hx (hb hby own_d2_7) rfl rfl ?_
  refine own_aloadN (pc' := 9) X38 hx (hb hby own_d2_8) rfl rfl rfl ?_
  have f39 := (f36.other W38 ne35)
  refine own_alen (pc' := 10) X38 hx hZ e38 f39 (hb hby own_d2_9) rfl ?_
  refine own_icmpNo (pc' := 13) X38 hx (hb hby own_d2_10) rfl (tlt (by decide)).2.1 ?_
  refine own_aloadN (pc' := 14) X38 hx (hb hby own_d2_13) rfl rfl rfl ?_
  refine own_iloadN (pc' := 15) X38 hx (hb hby own_d2_14) rfl rfl ?_
  refine own_aloadN (pc' := 16) X38 hx (hb hby own_d2_15) rfl rfl rfl ?_
  refine own_aloadN (pc' := 17) X38 hx (hb hby own_d2_16) rfl rfl rfl ?_
  refine own_iloadN (pc' := 18) X38 hx (hb hby own_d2_17) rfl rfl ?_
  refine own_iaload (pc' := 19) X38 hx hZ e38 f39 (hb hby own_d2_18) rfl (by decide) rfl ?_
  have f40 := (f37.other W38 ne34)
  refine own_iaload (pc' := 20) X38 hx hZ e38 f40 (hb hby own_d2_19) rfl hi1 (own_get hi1) ?_
  refine own_iastore (pc' := 21) X38 hx hZ e38 V38 (hb hby own_d2_20) rfl (by decide) 1 rfl (by simp) N38 ge32 ?_
  intro T41 h41 L41 X41 e41 N41 W41 V41
  replace V41 : Arv Z h41 a31 k31 .int (4 : Int32) [(.int (own_pick i0 v0 v1 v2 v3)), (.int (own_pick i1 v0 v1 v2 v3)), (.int (0 : Int32)), (.int (0 : Int32))] (.int (0 : Int32)) := V41
  show own_Ends p e below s _ _ _ T41 (mkF m 21 #[.val (.ref ra0), .val (.ref ra1), .val (.ref a31), .val (.int (1 : Int32))] [])
  refine own_iinc (pc' := 24) (z := (2 : Int32)) (l' := #[.val (.ref ra0), .val (.ref ra1), .val (.ref a31), .val (.int (2 : Int32))]) X41 hx (hb hby own_d2_21) rfl rfl (by decide) rfl ?_
  refine own_goto (pc' := 7) X41 hx (hb hby own_d2_24) (by decide) (by decide) ?_
  refine own_iloadN (pc' := 8) X41 hx (hb hby own_d2_7) rfl rfl ?_
  refine own_aloadN (pc' := 9) X41 hx (hb hby own_d2_8) rfl rfl rfl ?_
  have f42 := (f39.other W41 ne35)
  refine own_alen (pc' := 10) X41 hx hZ e41 f42 (hb hby own_d2_9) rfl ?_
  refine own_icmpNo (pc' := 13) X41 hx (hb hby own_d2_10) rfl (tlt (by decide)).2.1 ?_
  refine own_aloadN (pc' := 14) X41 hx (hb hby own_d2_13) rfl rfl rfl ?_
  refine own_iloadN (pc' := 15) X41 hx (hb hby own_d2_14) rfl rfl ?_
  refine own_aloadN (pc' := 16) X41 hx (hb hby own_d2_15) rfl rfl rfl ?_
  refine own_aloadN (pc' := 17) X41 hx (hb hby own_d2_16) rfl rfl rfl ?_
  refine own_iloadN (pc' := 18) X41 hx (hb hby own_d2_17) rfl rfl ?_
  refine own_iaload (pc' := 19) X41 hx hZ e41 f42 (hb hby own_d2_18) rfl (by decide) rfl ?_
  have f43 := (f40.other W41 ne34)
  refine own_iaload (pc' := 20) X41 hx hZ e41 f43 (hb hby own_d2_19) rfl hi2 (own_get hi2) ?_
  refine own_iastore (pc' := 21) X41 hx hZ e41 V41 (hb hby own_d2_20) rfl (by decide) 2 rfl (by simp) N41 ge32 ?_
  intro T44 h44 L44 X44 e44 N44 W44 V44
  replace V44 : Arv Z h44 a31 k31 .int (4 : Int32) [(.int (own_pick i0 v0 v1 v2 v3)), (.int (own_pick i1 v0 v1 v2 v3)), (.int (own_pick i2 v0 v1 v2 v3)), (.int (0 : Int32))] (.int (0 : Int32)) := V44
  show own_Ends p e below s _ _ _ T44 (mkF m 21 #[.val (.ref ra0), .val (.ref ra1), .val (.ref a31), .val (.int (2 : Int32))] [])
  refine own_iinc (pc' := 24) (z := (3 : Int32)) (l' := #[.val (.ref ra0), .val (.ref ra1), .val (.ref a31), .val (.int (3 : Int32))]) X44 hx (hb hby own_d2_21) rfl rfl (by decide) rfl ?_
  refine own_goto (pc' := 7) X44 hx (hb hby own_d2_24) (by decide) (by decide) ?_
  refine own_iloadN (pc' := 8) X44 hx (hb hby own_d2_7) rfl rfl ?_
  refine own_aloadN (pc' := 9) X44 hx (hb hby own_d2_8) rfl rfl rfl ?_
  have f45 := (f42.other W44 ne35)
  refine own_alen (pc' := 10) X44 hx hZ e44 f45 (hb hby own_d2_9) rfl ?_
  refine own_icmpNo (pc' := 13) X44 hx (hb hby own_d2_10) rfl (tlt (by decide)).2.1 ?_
  refine own_aloadN (pc' := 14) X44 hx (hb hby own_d2_13) rfl rfl rfl ?_
  refine own_iloadN (pc' := 15) X44 hx (hb hby own_d2_14) rfl rfl ?_
  refine own_aloadN (pc' := 16) X44 hx (hb hby own_d2_15) rfl rfl rfl ?_
  refine own_aloadN (pc' := 17) X44 hx (hb hby own_d2_16) rfl rfl rfl ?_
  refine own_iloadN (pc' := 18) X44 hx (hb hby own_d2_17) rfl rfl ?_
  refine own_iaload (pc' := 19) X44 hx hZ e44 f45 (hb hby own_d2_18) rfl (by decide) rfl ?_
  have f46 := (f43.other W44 ne34)
  refine own_iaload (pc' := 20) X44 hx hZ e44 f46 (hb hby own_d2_19) rfl hi3 (own_get hi3) ?_
  refine own_iastore (pc' := 21) X44 hx hZ e44 V44 (hb hby own_d2_20) rfl (by decide) 3 rfl (by simp) N44 ge32 ?_
  intro T47 h47 L47 X47 e47 N47 W47 V47
  replace V47 : Arv Z h47 a31 k31 .int (4 : Int32) [(.int (own_pick i0 v0 v1 v2 v3)), (.int (own_pick i1 v0 v1 v2 v3)), (.int (own_pick i2 v0 v1 v2 v3)), (.int (own_pick i3 v0 v1 v2 v3))] (.int (0 : Int32)) := V47
  show own_Ends p e below s _ _ _ T47 (mkF m 21 #[.val (.ref ra0), .val (.ref ra1), .val (.ref a31), .val (.int (3 : Int32))] [])
  refine own_iinc (pc' := 24) (z := (4 : Int32)) (l' := #[.val (.ref ra0), .val (.ref ra1), .val (.ref a31), .val (.int (4 : Int32))]) X47 hx (hb hby own_d2_21) rfl rfl (by decide) rfl ?_
  refine own_goto (pc' := 7) X47 hx (hb hby own_d2_24) (by decide) (by decide) ?_
  refine own_iloadN (pc' := 8) X47 hx (hb hby own_d2_7) rfl rfl ?_
  refine own_aloadN (pc' := 9) X47 hx (hb hby own_d2_8) rfl rfl rfl ?_
  have f48 := (f45.other W47 ne35)
  refine own_alen (pc' := 10) X47 hx hZ e47 f48 (hb hby own_d2_9) rfl ?_
  refine own_icmpYes (pc' := 27) X47 hx (hb hby own_d2_10) (flt (by decide)).2.1 (by decide) (by decide) ?_
  refine own_aloadN (pc' := 28) X47 hx (hb hby own_d2_27) rfl rfl rfl ?_
  refine own_retA X47 hx hlk hret rfl rfl rfl (hb hby own_d2_28) (by decide) (by decide) ?_
  have f49 := (((((K0.ext E31).wr W38 (Or.inr sz33)).wr W41 (Or.inr sz33)).wr W44 (Or.inr sz33)).wr W47 (Or.inr sz33))
  rw [e47]
  exact ⟨a31, k31, rfl, N47, f49, sz33, V47⟩
def own_Q0 (Z : State) (p0 : Int32) (p1 : Int32) (p2 : Int32) (p3 : Int32) (p4 : Int32) (h0 : Heap) (n0 : Nat) (v : Option Value) (h : Heap) (L : List Loc) : Prop := v = some (.int 1) ∧ Fr n0 L
theorem own_ef_rm0 (m : MethodId) (x0 : Int32) (x1 : Int32) (x2 : Int32) (x3 : Int32) (x4 : Int32) : entryFrame m #[(.int x0), (.int x1), (.int x2), (.int x3), (.int x4)] maxLocals = mkF m 0 #[.val (.int x0), .val (.int x1), .val (.int x2), .val (.int x3), .val (.int x4), .unset, .unset, .unset, .unset, .unset, .unset, .unset, .unset] [] := by first | (simp [entryFrame, mkF, argsToLocals, Value.category, maxLocals]; done) | rfl
set_option maxRecDepth 65536 in
set_option maxHeartbeats 40000000 in
theorem own_rm0 (l : Launch) (Z : State) (a0 : Array Value) (hw : ∀ d ∈ tables_1, d.before a0 Z = true) (ws : List Jvm.Cond) (p0 : Int32) (p1 : Int32) (p2 : Int32) (p3 : Int32) (p4 : Int32) (h0 : Heap) (n0 : Nat) (Z0 : n0 ≤ h0.size) :
    MetFree l x (head1 (Jvm.Cond.code x code maxLocals ret :: ws) room_1) (fun zz U => zz = #[(.int p0), (.int p1), (.int p2), (.int p3), (.int p4)] ∧ Z.Warmed39 U.vm ∧ U.heap = h0) (fun _ _ _ _ _ => True) (fun _ U o U' => ∃ v L, o = .returned v ∧ own_Q0 Z p0 p1 p2 p3 p4 h0 n0 v U'.heap L ∧ FrameEnd U o U' L 16 128) := by
  refine MetFree.of_bodySF (plainFor_of_name own_pn0) hisR ?_
  intro p e s m args below meth c s₁ Bd hml0 hP hK
  obtain ⟨rfl, hZ, hh⟩ := hP
  have hx := Bd.exec
  have hby := Bd.bytes
  have hml : c.maxLocals = 13 := hml0
  have hown : s.vm.findClass "com/example/skewcube/skewcube/AccumulatorReorderedPinLaw" = some m.cls := findClass_of_methodNamed Bd.named
  have hnm := (name_of_methodNamed Bd.named Bd.method).1
  have hlk : meth.locks = false := BodyLoose.notSynchronized Bd
  have hret := Bd.returns
  have X0 : Stand p l e room_1 s m #[(.int p0), (.int p1), (.int p2), (.int p3), (.int p4)] below meth c s₁ [] 0 0 := Stand.of_body Bd
  have e0 : s₁.heap = h0 := by rw [← hh, Bd.state]; rfl
  have N0 := Fr.nil n0
  show own_Ends p e below s (own_Q0 Z p0 p1 p2 p3 p4 h0 n0) 16 128 s₁ (entryFrame m #[(.int p0), (.int p1), (.int p2), (.int p3), (.int p4)] maxLocals)
  refine own_cast (own_ef_rm0 m p0 p1 p2 p3 p4) ?_
  refine own_iload (pc' := 2) X0 hx (hb hby at_0) rfl rfl ?_
  refine own_bipush (pc' := 4) (z := (7 : Int32)) X0 hx (hb hby at_2) rfl rfl ?_
  refine own_iand (pc' := 5) (z := (p4 &&& (7 : Int32))) X0 hx (hb hby at_4) rfl rfl ?_
  refine own_iconst (pc' := 6) (z := (5 : Int32)) X0 hx (hb hby at_5) rfl rfl ?_
  obtain ⟨n31, hn31⟩ : ∃ z, ((p4 &&& (7 : Int32)) % (5 : Int32)) = z := ⟨_, rfl⟩
  refine own_irem (pc' := 7) (z := n31) X0 hx (hb hby at_6) rfl (by decide) hn31 ?_
  refine own_istore (pc' := 9) (l' := #[.val (.int p0), .val (.int p1), .val (.int p2), .val (.int p3), .val (.int p4), .val (.int n31), .unset, .unset, .unset, .unset, .unset, .unset, .unset]) X0 hx (hb hby at_7) rfl rfl ?_
  refine own_iload (pc' := 11) X0 hx (hb hby at_9) rfl rfl ?_
  refine own_iconst (pc' := 12) (z := (3 : Int32)) X0 hx (hb hby at_11) rfl rfl ?_
  refine own_iushr (pc' := 13) (z := (own_ushr p4 (3 : Int32))) X0 hx (hb hby at_12) rfl rfl ?_
  refine own_iconst (pc' := 14) (z := (3 : Int32)) X0 hx (hb hby at_13) rfl rfl ?_
  obtain ⟨i32, hi32⟩ : ∃ z, ((own_ushr p4 (3 : Int32)) &&& (3 : Int32)) = z := ⟨_, rfl⟩
  refine own_iand (pc' := 15) (z := i32) X0 hx (hb hby at_14) rfl hi32 ?_
  refine own_istore (pc' := 17) (l' := #[.val (.int p0), .val (.int p1), .val (.int p2), .val (.int p3), .val (.int p4), .val (.int n31), .val (.int i32), .unset, .unset, .unset, .unset, .unset, .unset]) X0 hx (hb hby at_15) rfl rfl ?_
  refine own_iload (pc' := 19) X0 hx (hb hby at_17) rfl rfl ?_
  refine own_iconst (pc' := 20) (z := (5 : Int32)) X0 hx (hb hby at_19) rfl rfl ?_
  refine own_iushr (pc' := 21) (z := (own_ushr p4 (5 : Int32))) X0 hx (hb hby at_20) rfl rfl ?_
  refine own_iconst (pc' := 22) (z := (3 : Int32)) X0 hx (hb hby at_21) rfl rfl ?_
  obtain ⟨i33, hi33⟩ : ∃ z, ((own_ushr p4 (5 : Int32)) &&& (3 : Int32)) = z := ⟨_, rfl⟩
  refine own_iand (pc' := 23) (z := i33) X0 hx (hb hby at_22) rfl hi33 ?_
  refine own_istore (pc' := 25) (l' := #[.val (.int p0), .val (.int p1), .val (.int p2), .val (.int p3), .val (.int p4), .val (.int n31), .val (.int i32), .val (.int i33), .unset, .unset, .unset, .unset, .unset]) X0 hx (hb hby at_23) rfl rfl ?_
  refine own_iload (pc' := 27) X0 hx (hb hby at_25) rfl rfl ?_
  refine own_bipush (pc' := 29) (z := (7 : Int32)) X0 hx (hb hby at_27) rfl rfl ?_
  refine own_iushr (pc' := 30) (z := (own_ushr p4 (7 : Int32))) X0 hx (hb hby at_29) rfl rfl ?_
  refine own_iconst (pc' := 31) (z := (3 : Int32)) X0 hx (hb hby at_30) rfl rfl ?_
  obtain ⟨i34, hi34⟩ : ∃ z, ((own_ushr p4 (7 : Int32)) &&& (3 : Int32)) = z := ⟨_, rfl⟩
  refine own_iand (pc' := 32) (z := i34) X0 hx (hb hby at_31) rfl hi34 ?_
  refine own_istore (pc' := 34) (l' := #[.val (.int p0), .val (.int p1), .val (.int p2), .val (.int p3), .val (.int p4), .val (.int n31), .val (.int i32), .val (.int i33), .val (.int i34), .unset, .unset, .unset, .unset]) X0 hx (hb hby at_32) rfl rfl ?_
  refine own_iload (pc' := 36) X0 hx (hb hby at_34) rfl rfl ?_
  refine own_bipush (pc' := 38) (z := (9 : Int32)) X0 hx (hb hby at_36) rfl rfl ?_
  refine own_iushr (pc' := 39) (z := (own_ushr p4 (9 : Int32))) X0 hx (hb hby at_38) rfl rfl ?_
  refine own_iconst (pc' := 40) (z := (3 : Int32)) X0 hx (hb hby at_39) rfl rfl ?_
  obtain ⟨i35, hi35⟩ : ∃ z, ((own_ushr p4 (9 : Int32)) &&& (3 : Int32)) = z := ⟨_, rfl⟩
  refine own_iand (pc' := 41) (z := i35) X0 hx (hb hby at_40) rfl hi35 ?_
  refine own_istore (pc' := 43) (l' := #[.val (.int p0), .val (.int p1), .val (.int p2), .val (.int p3), .val (.int p4), .val (.int n31), .val (.int i32), .val (.int i33), .val (.int i34), .val (.int i35), .unset, .unset, .unset]) X0 hx (hb hby at_41) rfl rfl ?_
  refine own_iconst (pc' := 44) (z := (4 : Int32)) X0 hx (hb hby at_43) rfl rfl ?_
  refine own_newarr (pc' := 46) (aty := .int) X0 hx hZ (own_w0 hw) e0 (hb hby at_44) rfl (by decide) 4 4 (by decide) (by decide) (by decide) (by decide) ?_
  intro T36 h36 a36 k36 X36 e36 E36 g36 V36
  replace V36 : Arv Z h36 a36 k36 .int (4 : Int32) [(.int (0 : Int32)), (.int (0 : Int32)), (.int (0 : Int32)), (.int (0 : Int32))] (.int (0 : Int32)) := V36
  have ge37 : n0 ≤ a36 := by rw [g36]; exact Z0
  show own_Ends p e below s _ _ _ T36 (mkF m 46 #[.val (.int p0), .val (.int p1), .val (.int p2), .val (.int p3), .val (.int p4), .val (.int n31), .val (.int i32), .val (.int i33), .val (.int i34), .val (.int i35), .unset, .unset, .unset] [(.ref a36)])
  refine own_dup (pc' := 47) X36 hx (hb hby at_46) rfl rfl ?_
  refine own_iconst (pc' := 48) (z := (0 : Int32)) X36 hx (hb hby at_47) rfl rfl ?_
  refine own_iloadN (pc' := 49) X36 hx (hb hby at_48) rfl rfl ?_
  refine own_iastore (pc' := 50) X36 hx hZ e36 V36 (hb hby at_49) rfl (by decide) 0 rfl (by simp) N0 ge37 ?_
  intro T38 h38 L38 X38 e38 N38 W38 V38
  replace V38 : Arv Z h38 a36 k36 .int (4 : Int32) [(.int p0), (.int (0 : Int32)), (.int (0 : Int32)), (.int (0 : Int32))] (.int (0 : Int32)) := V38
  show own_Ends p e below s _ _ _ T38 (mkF m 50 #[.val (.int p0), .val (.int p1), .val (.int p2), .val (.int p3), .val (.int p4), .val (.int n31), .val (.int i32), .val (.int i33), .val (.int i34), .val (.int i35), .unset, .unset, .unset] [(.ref a36)])
  refine own_dup (pc' := 51) X38 hx (hb hby at_50) rfl rfl ?_
  refine own_iconst (pc' := 52) (z := (1 : Int32)) X38 hx (hb hby at_51) rfl rfl ?_
  refine own_iloadN (pc' := 53) X38 hx (hb hby at_52) rfl rfl ?_
  refine own_iastore (pc' := 54) X38 hx hZ e38 V38 (hb hby at_53) rfl (by decide) 1 rfl (by simp) N38 ge37 ?_
  intro T39 h39 L39 X39 e39 N39 W39 V39
  replace V39 : Arv Z h39 a36 k36 .int (4 : Int32) [(.int p0), (.int p1), (.int (0 : Int32)), (.int (0 : Int32))] (.int (0 : Int32)) := V39
  show own_Ends p e below s _ _ _ T39 (mkF m 54 #[.val (.int p0), .val (.int p1), .val (.int p2), .val (.int p3), .val (.int p4), .val (.int n31), .val (.int i32), .val (.int i33), .val (.int i34), .val (.int i35), .unset, .unset, .unset] [(.ref a36)])
  refine own_dup (pc' := 55) X39 hx (hb hby at_54) rfl rfl ?_
  refine own_iconst (pc' := 56) (z := (2 : Int32)) X39 hx (hb hby at_55) rfl rfl ?_
  refine own_iloadN (pc' := 57) X39 hx (hb hby at_56) rfl rfl ?_
  refine own_iastore (pc' := 58) X39 hx hZ e39 V39 (hb hby at_57) rfl (by decide) 2 rfl (by simp) N39 ge37 ?_
  intro T40 h40 L40 X40 e40 N40 W40 V40
  replace V40 : Arv Z h40 a36 k36 .int (4 : Int32) [(.int p0), (.int p1), (.int p2), (.int (0 : Int32))] (.int (0 : Int32)) := V40
  show own_Ends p e below s _ _ _ T40 (mkF m 58 #[.val (.int p0), .val (.int p1), .val (.int p2), .val (.int p3), .val (.int p4), .val (.int n31), .val (.int i32), .val (.int i33), .val (.int i34), .val (.int i35), .unset, .unset, .unset] [(.ref a36)])
  refine own_dup (pc' := 59) X40 hx (hb hby at_58) rfl rfl ?_
  refine own_iconst (pc' := 60) (z := (3 : Int32)) X40 hx (hb hby at_59) rfl rfl ?_
  refine own_iloadN (pc' := 61) X40 hx (hb hby at_60) rfl rfl ?_
  refine own_iastore (pc' := 62) X40 hx hZ e40 V40 (hb hby at_61) rfl (by decide) 3 rfl (by simp) N40 ge37 ?_
  intro T41 h41 L41 X41 e41 N41 W41 V41
  replace V41 : Arv Z h41 a36 k36 .int (4 : Int32) [(.int p0), (.int p1), (.int p2), (.int p3)] (.int (0 : Int32)) := V41
  show own_Ends p e below s _ _ _ T41 (mkF m 62 #[.val (.int p0), .val (.int p1), .val (.int p2), .val (.int p3), .val (.int p4), .val (.int n31), .val (.int i32), .val (.int i33), .val (.int i34), .val (.int i35), .unset, .unset, .unset] [(.ref a36)])
  refine own_astore (pc' := 64) (l' := #[.val (.int p0), .val (.int p1), .val (.int p2), .val (.int p3), .val (.int p4), .val (.int n31), .val (.int i32), .val (.int i33), .val (.int i34), .val (.int i35), .val (.ref a36), .unset, .unset]) X41 hx (hb hby at_62) rfl rfl rfl ?_
  rcases own_r5 hn31 with rfl | rfl | rfl | rfl | rfl
  · refine own_iload (pc' := 66) X41 hx (hb hby at_64) rfl rfl ?_
    refine own_iload (pc' := 68) X41 hx (hb hby at_66) rfl rfl ?_
    refine own_iload (pc' := 70) X41 hx (hb hby at_68) rfl rfl ?_
    refine own_iload (pc' := 72) X41 hx (hb hby at_70) rfl rfl ?_
    refine own_iload (pc' := 74) X41 hx (hb hby at_72) rfl rfl ?_
    have f42 := (Nat.le_trans (Nat.le_trans (Nat.le_trans (Nat.le_trans (Nat.le_trans Z0 E36.1) (Keep.of_wr W38).1) (Keep.of_wr W39).1) (Keep.of_wr W40).1) (Keep.of_wr W41).1)
    refine own_callS (pc' := 77) (y := (⟨"com/example/skewcube/skewcube/AccumulatorReorderedPinLaw", "makeOrder", "(IIIII)[I"⟩ : MethodName)) (W := 0) (rm := own_room1_0) (argsL := [(.int (0 : Int32)), (.int i32), (.int i33), (.int i34), (.int i35)]) (rest := []) X41 hx hZ e41 hown (by rw [hml]; rfl) (own_w1 hw) (own_w2 hw) (own_w3 hw) (own_w4 hw) (by decide) (own_rm1_0 l Z a0 hw [] i32 i33 i34 i35 h41 n0 f42) (by decide) (by decide) (by decide) (by decide) (lenOf own_pd0 rfl) rfl (by exact Nat.le_of_eq rfl) (hb hby at_74) rfl ?_
    intro T43 Lc43 v43 X43 hQ43
    obtain ⟨ra43, rk43, rfl, Nq43, Kq43, sq43, Vq43⟩ := hQ43
    have N43 := Fr.app N41 Nq43
    have ge44 : n0 ≤ ra43 := Nat.le_trans f42 sq43
    have ne45 : a36 ≠ ra43 := Nat.ne_of_lt (Nat.lt_of_lt_of_le V41.lt sq43)
    show own_Ends p e below s _ _ _ T43 (mkF m 77 #[.val (.int p0), .val (.int p1), .val (.int p2), .val (.int p3), .val (.int p4), .val (.int (0 : Int32)), .val (.int i32), .val (.int i33), .val (.int i34), .val (.int i35), .val (.ref a36), .unset, .unset] [(.ref ra43)])
    refine own_astore (pc' := 79) (l' := #[.val (.int p0), .val (.int p1), .val (.int p2), .val (.int p3), .val (.int p4), .val (.int (0 : Int32)), .val (.int i32), .val (.int i33), .val (.int i34), .val (.int i35), .val (.ref a36), .val (.ref ra43), .unset]) X43 hx (hb hby at_77) rfl rfl rfl ?_
    refine own_aload (pc' := 81) X43 hx (hb hby at_79) rfl rfl rfl ?_
    refine own_aload (pc' := 83) X43 hx (hb hby at_81) rfl rfl rfl ?_
    have f46 := (Nat.le_trans f42 Kq43.1)
    have f47 := (V41.keep Kq43 nin0)
    refine own_callS (pc' := 86) (y := (⟨"com/example/skewcube/skewcube/Accumulator", "reordered", "([I[I)[I"⟩ : MethodName)) (W := 0) (rm := own_room2_0) (argsL := [(.ref a36), (.ref ra43)]) (rest := []) X43 hx hZ rfl hown (by rw [hml]; rfl) (own_w5 hw) (own_w6 hw) (own_w7 hw) (own_w8 hw) (by decide) (own_rm2_0 l Z a0 hw [] a36 ra43 k36 rk43 p0 p1 p2 p3  T43.heap n0 f46 f47 Vq43 ne45 ) (by decide) (by decide) (by decide) (by decide) (lenOf own_pd1 rfl) rfl (by exact Nat.le_of_eq rfl) (hb hby at_83) rfl ?_
    intro T48 Lc48 v48 X48 hQ48
    obtain ⟨ra48, rk48, rfl, Nq48, Kq48, sq48, Vq48⟩ := hQ48
    have N48 := Fr.app N43 Nq48
    have ge49 : n0 ≤ ra48 := Nat.le_trans f46 sq48
    have ne50 : a36 ≠ ra48 := Nat.ne_of_lt (Nat.lt_of_lt_of_le f47.lt sq48)
    have ne51 : ra43 ≠ ra48 := Nat.ne_of_lt (Nat.lt_of_lt_of_le Vq43.lt sq48)
    show own_Ends p e below s _ _ _ T48 (mkF m 86 #[.val (.int p0), .val (.int p1), .val (.int p2), .val (.int p3), .val (.int p4), .val (.int (0 : Int32)), .val (.int i32), .val (.int i33), .val (.int i34), .val (.int i35), .val (.ref a36), .val (.ref ra43), .unset] [(.ref ra48)])
    refine own_astore (pc' := 88) (l' := #[.val (.int p0), .val (.int p1), .val (.int p2), .val (.int p3), .val (.int p4), .val (.int (0 : Int32)), .val (.int i32), .val (.int i33), .val (.int i34), .val (.int i35), .val (.ref a36), .val (.ref ra43), .val (.ref ra48)]) X48 hx (hb hby at_86) rfl rfl rfl ?_
    refine own_aload (pc' := 90) X48 hx (hb hby at_88) rfl rfl rfl ?_
    refine own_ifnullNo (pc' := 93) X48 hx (hb hby at_90) rfl ?_
    refine own_aload (pc' := 95) X48 hx (hb hby at_93) rfl rfl rfl ?_
    refine own_alen (pc' := 96) X48 hx hZ rfl Vq48 (hb hby at_95) rfl ?_
    refine own_iload (pc' := 98) X48 hx (hb hby at_96) rfl rfl ?_
    refine own_icmpYes (pc' := 103) X48 hx (hb hby at_98) (teq (by decide)).1 (by decide) (by decide) ?_
    refine own_iload (pc' := 105) X48 hx (hb hby at_103) rfl rfl ?_
    refine own_ifYes (pc' := 126) X48 hx (hb hby at_105) (flt (by decide)).2.2.2 (by decide) (by decide) ?_
    refine own_iload (pc' := 128) X48 hx (hb hby at_126) rfl rfl ?_
    refine own_iconst (pc' := 129) (z := (1 : Int32)) X48 hx (hb hby at_128) rfl rfl ?_
    refine own_icmpYes (pc' := 150) X48 hx (hb hby at_129) (flt (by decide)).2.2.2 (by decide) (by decide) ?_
    refine own_iload (pc' := 152) X48 hx (hb hby at_150) rfl rfl ?_
    refine own_iconst (pc' := 153) (z := (2 : Int32)) X48 hx (hb hby at_152) rfl rfl ?_
    refine own_icmpYes (pc' := 174) X48 hx (hb hby at_153) (flt (by decide)).2.2.2 (by decide) (by decide) ?_
    refine own_iload (pc' := 176) X48 hx (hb hby at_174) rfl rfl ?_
    refine own_iconst (pc' := 177) (z := (3 : Int32)) X48 hx (hb hby at_176) rfl rfl ?_
    refine own_icmpYes (pc' := 198) X48 hx (hb hby at_177) (flt (by decide)).2.2.2 (by decide) (by decide) ?_
    refine own_aload (pc' := 200) X48 hx (hb hby at_198) rfl rfl rfl ?_
    have f52 := (f47.keep Kq48 nin0)
    refine own_alen (pc' := 201) X48 hx hZ rfl f52 (hb hby at_200) rfl ?_
    refine own_iconst (pc' := 202) (z := (4 : Int32)) X48 hx (hb hby at_201) rfl rfl ?_
    refine own_icmpNo (pc' := 205) X48 hx (hb hby at_202) rfl (teq (by decide)).2 ?_
    refine own_aload (pc' := 207) X48 hx (hb hby at_205) rfl rfl rfl ?_
    refine own_iconst (pc' := 208) (z := (0 : Int32)) X48 hx (hb hby at_207) rfl rfl ?_
    refine own_iaload (pc' := 209) X48 hx hZ rfl f52 (hb hby at_208) rfl (by decide) rfl ?_
    refine own_iloadN (pc' := 210) X48 hx (hb hby at_209) rfl rfl ?_
    refine own_icmpNo (pc' := 213) X48 hx (hb hby at_210) rfl (teq rfl).2 ?_
    refine own_aload (pc' := 215) X48 hx (hb hby at_213) rfl rfl rfl ?_
    refine own_iconst (pc' := 216) (z := (1 : Int32)) X48 hx (hb hby at_215) rfl rfl ?_
    refine own_iaload (pc' := 217) X48 hx hZ rfl f52 (hb hby at_216) rfl (by decide) rfl ?_
    refine own_iloadN (pc' := 218) X48 hx (hb hby at_217) rfl rfl ?_
    refine own_icmpNo (pc' := 221) X48 hx (hb hby at_218) rfl (teq rfl).2 ?_
    refine own_aload (pc' := 223) X48 hx (hb hby at_221) rfl rfl rfl ?_
    refine own_iconst (pc' := 224) (z := (2 : Int32)) X48 hx (hb hby at_223) rfl rfl ?_
    refine own_iaload (pc' := 225) X48 hx hZ rfl f52 (hb hby at_224) rfl (by decide) rfl ?_
    refine own_iloadN (pc' := 226) X48 hx (hb hby at_225) rfl rfl ?_
    refine own_icmpNo (pc' := 229) X48 hx (hb hby at_226) rfl (teq rfl).2 ?_
    refine own_aload (pc' := 231) X48 hx (hb hby at_229) rfl rfl rfl ?_
    refine own_iconst (pc' := 232) (z := (3 : Int32)) X48 hx (hb hby at_231) rfl rfl ?_
    refine own_iaload (pc' := 233) X48 hx hZ rfl f52 (hb hby at_232) rfl (by decide) rfl ?_
    refine own_iloadN (pc' := 234) X48 hx (hb hby at_233) rfl rfl ?_
    refine own_icmpYes (pc' := 239) X48 hx (hb hby at_234) (teq rfl).1 (by decide) (by decide) ?_
    refine own_aload (pc' := 241) X48 hx (hb hby at_239) rfl rfl rfl ?_
    have f53 := (Vq43.keep Kq48 nin0)
    refine own_alen (pc' := 242) X48 hx hZ rfl f53 (hb hby at_241) rfl ?_
    refine own_iload (pc' := 244) X48 hx (hb hby at_242) rfl rfl ?_
    refine own_icmpYes (pc' := 249) X48 hx (hb hby at_244) (teq (by decide)).1 (by decide) (by decide) ?_
    refine own_iload (pc' := 251) X48 hx (hb hby at_249) rfl rfl ?_
    refine own_ifYes (pc' := 265) X48 hx (hb hby at_251) (flt (by decide)).2.2.2 (by decide) (by decide) ?_
    refine own_iload (pc' := 267) X48 hx (hb hby at_265) rfl rfl ?_
    refine own_iconst (pc' := 268) (z := (1 : Int32)) X48 hx (hb hby at_267) rfl rfl ?_
    refine own_icmpYes (pc' := 282) X48 hx (hb hby at_268) (flt (by decide)).2.2.2 (by decide) (by decide) ?_
    refine own_iload (pc' := 284) X48 hx (hb hby at_282) rfl rfl ?_
    refine own_iconst (pc' := 285) (z := (2 : Int32)) X48 hx (hb hby at_284) rfl rfl ?_
    refine own_icmpYes (pc' := 299) X48 hx (hb hby at_285) (flt (by decide)).2.2.2 (by decide) (by decide) ?_
    refine own_iload (pc' := 301) X48 hx (hb hby at_299) rfl rfl ?_
    refine own_iconst (pc' := 302) (z := (3 : Int32)) X48 hx (hb hby at_301) rfl rfl ?_
    refine own_icmpYes (pc' := 316) X48 hx (hb hby at_302) (flt (by decide)).2.2.2 (by decide) (by decide) ?_
    refine own_iconst (pc' := 317) (z := (1 : Int32)) X48 hx (hb hby at_316) rfl rfl ?_
    refine own_retN X48 hx hlk hret (by simp) (hb hby at_317) (by decide) (by decide) ?_
    exact ⟨rfl, N48⟩
  · refine own_iload (pc' := 66) X41 hx (hb hby at_64) rfl rfl ?_
    refine own_iload (pc' := 68) X41 hx (hb hby at_66) rfl rfl ?_
    refine own_iload (pc' := 70) X41 hx (hb hby at_68) rfl rfl ?_
    refine own_iload (pc' := 72) X41 hx (hb hby at_70) rfl rfl ?_
    refine own_iload (pc' := 74) X41 hx (hb hby at_72) rfl rfl ?_
    have f54 := (Nat.le_trans (Nat.le_trans (Nat.le_trans (Nat.le_trans (Nat.le_trans Z0 E36.1) (Keep.of_wr W38).1) (Keep.of_wr W39).1) (Keep.of_wr W40).1) (Keep.of_wr W41).1)
    refine own_callS (pc' := 77) (y := (⟨"com/example/skewcube/skewcube/AccumulatorReorderedPinLaw", "makeOrder", "(IIIII)[I"⟩ : MethodName)) (W := 0) (rm := own_room1_1) (argsL := [(.int (1 : Int32)), (.int i32), (.int i33), (.int i34), (.int i35)]) (rest := []) X41 hx hZ e41 hown (by rw [hml]; rfl) (own_w1 hw) (own_w2 hw) (own_w3 hw) (own_w4 hw) (by decide) (own_rm1_1 l Z a0 hw [] i32 i33 i34 i35 h41 n0 f54) (by decide) (by decide) (by decide) (by decide) (lenOf own_pd0 rfl) rfl (by exact Nat.le_of_eq rfl) (hb hby at_74) rfl ?_
    intro T55 Lc55 v55 X55 hQ55
    obtain ⟨ra55, rk55, rfl, Nq55, Kq55, sq55, Vq55⟩ := hQ55
    have N55 := Fr.app N41 Nq55
    have ge56 : n0 ≤ ra55 := Nat.le_trans f54 sq55
    have ne57 : a36 ≠ ra55 := Nat.ne_of_lt (Nat.lt_of_lt_of_le V41.lt sq55)
    show own_Ends p e below s _ _ _ T55 (mkF m 77 #[.val (.int p0), .val (.int p1), .val (.int p2), .val (.int p3), .val (.int p4), .val (.int (1 : Int32)), .val (.int i32), .val (.int i33), .val (.int i34), .val (.int i35), .val (.ref a36), .unset, .unset] [(.ref ra55)])
    refine own_astore (pc' := 79) (l' := #[.val (.int p0), .val (.int p1), .val (.int p2), .val (.int p3), .val (.int p4), .val (.int (1 : Int32)), .val (.int i32), .val (.int i33), .val (.int i34), .val (.int i35), .val (.ref a36), .val (.ref ra55), .unset]) X55 hx (hb hby at_77) rfl rfl rfl ?_
    refine own_aload (pc' := 81) X55 hx (hb hby at_79) rfl rfl rfl ?_
    refine own_aload (pc' := 83) X55 hx (hb hby at_81) rfl rfl rfl ?_
    have f58 := (Nat.le_trans f54 Kq55.1)
    have f59 := (V41.keep Kq55 nin0)
    refine own_callS (pc' := 86) (y := (⟨"com/example/skewcube/skewcube/Accumulator", "reordered", "([I[I)[I"⟩ : MethodName)) (W := 0) (rm := own_room2_1) (argsL := [(.ref a36), (.ref ra55)]) (rest := []) X55 hx hZ rfl hown (by rw [hml]; rfl) (own_w5 hw) (own_w6 hw) (own_w7 hw) (own_w8 hw) (by decide) (own_rm2_1 l Z a0 hw [] a36 ra55 k36 rk55 p0 p1 p2 p3 i32 T55.heap n0 f58 f59 Vq55 ne57 (own_03 hi32)) (by decide) (by decide) (by decide) (by decide) (lenOf own_pd1 rfl) rfl (by exact Nat.le_of_eq rfl) (hb hby at_83) rfl ?_
    intro T60 Lc60 v60 X60 hQ60
    obtain ⟨ra60, rk60, rfl, Nq60, Kq60, sq60, Vq60⟩ := hQ60
    have N60 := Fr.app N55 Nq60
    have ge61 : n0 ≤ ra60 := Nat.le_trans f58 sq60
    have ne62 : a36 ≠ ra60 := Nat.ne_of_lt (Nat.lt_of_lt_of_le f59.lt sq60)
    have ne63 : ra55 ≠ ra60 := Nat.ne_of_lt (Nat.lt_of_lt_of_le Vq55.lt sq60)
    show own_Ends p e below s _ _ _ T60 (mkF m 86 #[.val (.int p0), .val (.int p1), .val (.int p2), .val (.int p3), .val (.int p4), .val (.int (1 : Int32)), .val (.int i32), .val (.int i33), .val (.int i34), .val (.int i35), .val (.ref a36), .val (.ref ra55), .unset] [(.ref ra60)])
    refine own_astore (pc' := 88) (l' := #[.val (.int p0), .val (.int p1), .val (.int p2), .val (.int p3), .val (.int p4), .val (.int (1 : Int32)), .val (.int i32), .val (.int i33), .val (.int i34), .val (.int i35), .val (.ref a36), .val (.ref ra55), .val (.ref ra60)]) X60 hx (hb hby at_86) rfl rfl rfl ?_
    refine own_aload (pc' := 90) X60 hx (hb hby at_88) rfl rfl rfl ?_
    refine own_ifnullNo (pc' := 93) X60 hx (hb hby at_90) rfl ?_
    refine own_aload (pc' := 95) X60 hx (hb hby at_93) rfl rfl rfl ?_
    refine own_alen (pc' := 96) X60 hx hZ rfl Vq60 (hb hby at_95) rfl ?_
    refine own_iload (pc' := 98) X60 hx (hb hby at_96) rfl rfl ?_
    refine own_icmpYes (pc' := 103) X60 hx (hb hby at_98) (teq (by decide)).1 (by decide) (by decide) ?_
    refine own_iload (pc' := 105) X60 hx (hb hby at_103) rfl rfl ?_
    refine own_ifNo (pc' := 108) X60 hx (hb hby at_105) rfl (tlt (by decide)).2.2.2 ?_
    refine own_aload (pc' := 110) X60 hx (hb hby at_108) rfl rfl rfl ?_
    refine own_iconst (pc' := 111) (z := (0 : Int32)) X60 hx (hb hby at_110) rfl rfl ?_
    refine own_iaload (pc' := 112) X60 hx hZ rfl Vq60 (hb hby at_111) rfl (by decide) rfl ?_
    refine own_iload (pc' := 114) X60 hx (hb hby at_112) rfl rfl ?_
    refine own_iloadN (pc' := 115) X60 hx (hb hby at_114) rfl rfl ?_
    refine own_iloadN (pc' := 116) X60 hx (hb hby at_115) rfl rfl ?_
    refine own_iloadN (pc' := 117) X60 hx (hb hby at_116) rfl rfl ?_
    refine own_iloadN (pc' := 118) X60 hx (hb hby at_117) rfl rfl ?_
    refine own_callS (pc' := 121) (y := (⟨"com/example/skewcube/skewcube/AccumulatorReorderedPinLaw", "pick", "(IIIII)I"⟩ : MethodName)) (W := 1) (rm := own_room3) (argsL := [(.int i32), (.int p0), (.int p1), (.int p2), (.int p3)]) (rest := [(.int (own_pick i32 p0 p1 p2 p3))]) X60 hx hZ rfl hown (by rw [hml]; rfl) (own_w9 hw) (own_w10 hw) (own_w3 hw) (own_w11 hw) (by decide) (own_rm3 l Z a0 hw [] i32 p0 p1 p2 p3 T60.heap n0) (by decide) (by decide) (by decide) (by decide) (lenOf own_pd2 rfl) rfl (by exact Nat.le_of_eq rfl) (hb hby at_118) rfl ?_
    intro T64 Lc64 v64 X64 hQ64
    obtain ⟨rfl, Nq65, eq66⟩ := hQ64
    have N67 := Fr.app N60 Nq65
    show own_Ends p e below s _ _ _ T64 (mkF m 121 #[.val (.int p0), .val (.int p1), .val (.int p2), .val (.int p3), .val (.int p4), .val (.int (1 : Int32)), .val (.int i32), .val (.int i33), .val (.int i34), .val (.int i35), .val (.ref a36), .val (.ref ra55), .val (.ref ra60)] [(.int (own_pick i32 p0 p1 p2 p3)), (.int (own_pick i32 p0 p1 p2 p3))])
    refine own_icmpYes (pc' := 126) X64 hx (hb hby at_121) (teq rfl).1 (by decide) (by decide) ?_
    refine own_iload (pc' := 128) X64 hx (hb hby at_126) rfl rfl ?_
    refine own_iconst (pc' := 129) (z := (1 : Int32)) X64 hx (hb hby at_128) rfl rfl ?_
    refine own_icmpYes (pc' := 150) X64 hx (hb hby at_129) (flt (by decide)).2.2.2 (by decide) (by decide) ?_
    refine own_iload (pc' := 152) X64 hx (hb hby at_150) rfl rfl ?_
    refine own_iconst (pc' := 153) (z := (2 : Int32)) X64 hx (hb hby at_152) rfl rfl ?_
    refine own_icmpYes (pc' := 174) X64 hx (hb hby at_153) (flt (by decide)).2.2.2 (by decide) (by decide) ?_
    refine own_iload (pc' := 176) X64 hx (hb hby at_174) rfl rfl ?_
    refine own_iconst (pc' := 177) (z := (3 : Int32)) X64 hx (hb hby at_176) rfl rfl ?_
    refine own_icmpYes (pc' := 198) X64 hx (hb hby at_177) (flt (by decide)).2.2.2 (by decide) (by decide) ?_
    refine own_aload (pc' := 200) X64 hx (hb hby at_198) rfl rfl rfl ?_
    have f68 := (f59.keep Kq60 nin0)
    refine own_alen (pc' := 201) X64 hx hZ eq66 f68 (hb hby at_200) rfl ?_
    refine own_iconst (pc' := 202) (z := (4 : Int32)) X64 hx (hb hby at_201) rfl rfl ?_
    refine own_icmpNo (pc' := 205) X64 hx (hb hby at_202) rfl (teq (by decide)).2 ?_
    refine own_aload (pc' := 207) X64 hx (hb hby at_205) rfl rfl rfl ?_
    refine own_iconst (pc' := 208) (z := (0 : Int32)) X64 hx (hb hby at_207) rfl rfl ?_
    refine own_iaload (pc' := 209) X64 hx hZ eq66 f68 (hb hby at_208) rfl (by decide) rfl ?_
    refine own_iloadN (pc' := 210) X64 hx (hb hby at_209) rfl rfl ?_
    refine own_icmpNo (pc' := 213) X64 hx (hb hby at_210) rfl (teq rfl).2 ?_
    refine own_aload (pc' := 215) X64 hx (hb hby at_213) rfl rfl rfl ?_
    refine own_iconst (pc' := 216) (z := (1 : Int32)) X64 hx (hb hby at_215) rfl rfl ?_
    refine own_iaload (pc' := 217) X64 hx hZ eq66 f68 (hb hby at_216) rfl (by decide) rfl ?_
    refine own_iloadN (pc' := 218) X64 hx (hb hby at_217) rfl rfl ?_
    refine own_icmpNo (pc' := 221) X64 hx (hb hby at_218) rfl (teq rfl).2 ?_
    refine own_aload (pc' := 223) X64 hx (hb hby at_221) rfl rfl rfl ?_
    refine own_iconst (pc' := 224) (z := (2 : Int32)) X64 hx (hb hby at_223) rfl rfl ?_
    refine own_iaload (pc' := 225) X64 hx hZ eq66 f68 (hb hby at_224) rfl (by decide) rfl ?_
    refine own_iloadN (pc' := 226) X64 hx (hb hby at_225) rfl rfl ?_
    refine own_icmpNo (pc' := 229) X64 hx (hb hby at_226) rfl (teq rfl).2 ?_
    refine own_aload (pc' := 231) X64 hx (hb hby at_229) rfl rfl rfl ?_
    refine own_iconst (pc' := 232) (z := (3 : Int32)) X64 hx (hb hby at_231) rfl rfl ?_
    refine own_iaload (pc' := 233) X64 hx hZ eq66 f68 (hb hby at_232) rfl (by decide) rfl ?_
    refine own_iloadN (pc' := 234) X64 hx (hb hby at_233) rfl rfl ?_
    refine own_icmpYes (pc' := 239) X64 hx (hb hby at_234) (teq rfl).1 (by decide) (by decide) ?_
    refine own_aload (pc' := 241) X64 hx (hb hby at_239) rfl rfl rfl ?_
    have f69 := (Vq55.keep Kq60 nin0)
    refine own_alen (pc' := 242) X64 hx hZ eq66 f69 (hb hby at_241) rfl ?_
    refine own_iload (pc' := 244) X64 hx (hb hby at_242) rfl rfl ?_
    refine own_icmpYes (pc' := 249) X64 hx (hb hby at_244) (teq (by decide)).1 (by decide) (by decide) ?_
    refine own_iload (pc' := 251) X64 hx (hb hby at_249) rfl rfl ?_
    refine own_ifNo (pc' := 254) X64 hx (hb hby at_251) rfl (tlt (by decide)).2.2.2 ?_
    refine own_aload (pc' := 256) X64 hx (hb hby at_254) rfl rfl rfl ?_
    refine own_iconst (pc' := 257) (z := (0 : Int32)) X64 hx (hb hby at_256) rfl rfl ?_
    refine own_iaload (pc' := 258) X64 hx hZ eq66 f69 (hb hby at_257) rfl (by decide) rfl ?_
    refine own_iload (pc' := 260) X64 hx (hb hby at_258) rfl rfl ?_
    refine own_icmpYes (pc' := 265) X64 hx (hb hby at_260) (teq rfl).1 (by decide) (by decide) ?_
    refine own_iload (pc' := 267) X64 hx (hb hby at_265) rfl rfl ?_
    refine own_iconst (pc' := 268) (z := (1 : Int32)) X64 hx (hb hby at_267) rfl rfl ?_
    refine own_icmpYes (pc' := 282) X64 hx (hb hby at_268) (flt (by decide)).2.2.2 (by decide) (by decide) ?_
    refine own_iload (pc' := 284) X64 hx (hb hby at_282) rfl rfl ?_
    refine own_iconst (pc' := 285) (z := (2 : Int32)) X64 hx (hb hby at_284) rfl rfl ?_
    refine own_icmpYes (pc' := 299) X64 hx (hb hby at_285) (flt (by decide)).2.2.2 (by decide) (by decide) ?_
    refine own_iload (pc' := 301) X64 hx (hb hby at_299) rfl rfl ?_
    refine own_iconst (pc' := 302) (z := (3 : Int32)) X64 hx (hb hby at_301) rfl rfl ?_
    refine own_icmpYes (pc' := 316) X64 hx (hb hby at_302) (flt (by decide)).2.2.2 (by decide) (by decide) ?_
    refine own_iconst (pc' := 317) (z := (1 : Int32)) X64 hx (hb hby at_316) rfl rfl ?_
    refine own_retN X64 hx hlk hret (by simp) (hb hby at_317) (by decide) (by decide) ?_
    exact ⟨rfl, N67⟩
  · refine own_iload (pc' := 66) X41 hx (hb hby at_64) rfl rfl ?_
    refine own_iload (pc' := 68) X41 hx (hb hby at_66) rfl rfl ?_
    refine own_iload (pc' := 70) X41 hx (hb hby at_68) rfl rfl ?_
    refine own_iload (pc' := 72) X41 hx (hb hby at_70) rfl rfl ?_
    refine own_iload (pc' := 74) X41 hx (hb hby at_72) rfl rfl ?_
    have f70 := (Nat.le_trans (Nat.le_trans (Nat.le_trans (Nat.le_trans (Nat.le_trans Z0 E36.1) (Keep.of_wr W38).1) (Keep.of_wr W39).1) (Keep.of_wr W40).1) (Keep.of_wr W41).1)
    refine own_callS (pc' := 77) (y := (⟨"com/example/skewcube/skewcube/AccumulatorReorderedPinLaw", "makeOrder", "(IIIII)[I"⟩ : MethodName)) (W := 0) (rm := own_room1_2) (argsL := [(.int (2 : Int32)), (.int i32), (.int i33), (.int i34), (.int i35)]) (rest := []) X41 hx hZ e41 hown (by rw [hml]; rfl) (own_w1 hw) (own_w2 hw) (own_w3 hw) (own_w4 hw) (by decide) (own_rm1_2 l Z a0 hw [] i32 i33 i34 i35 h41 n0 f70) (by decide) (by decide) (by decide) (by decide) (lenOf own_pd0 rfl) rfl (by exact Nat.le_of_eq rfl) (hb hby at_74) rfl ?_
    intro T71 Lc71 v71 X71 hQ71
    obtain ⟨ra71, rk71, rfl, Nq71, Kq71, sq71, Vq71⟩ := hQ71
    have N71 := Fr.app N41 Nq71
    have ge72 : n0 ≤ ra71 := Nat.le_trans f70 sq71
    have ne73 : a36 ≠ ra71 := Nat.ne_of_lt (Nat.lt_of_lt_of_le V41.lt sq71)
    show own_Ends p e below s _ _ _ T71 (mkF m 77 #[.val (.int p0), .val (.int p1), .val (.int p2), .val (.int p3), .val (.int p4), .val (.int (2 : Int32)), .val (.int i32), .val (.int i33), .val (.int i34), .val (.int i35), .val (.ref a36), .unset, .unset] [(.ref ra71)])
    refine own_astore (pc' := 79) (l' := #[.val (.int p0), .val (.int p1), .val (.int p2), .val (.int p3), .val (.int p4), .val (.int (2 : Int32)), .val (.int i32), .val (.int i33), .val (.int i34), .val (.int i35), .val (.ref a36), .val (.ref ra71), .unset]) X71 hx (hb hby at_77) rfl rfl rfl ?_
    refine own_aload (pc' := 81) X71 hx (hb hby at_79) rfl rfl rfl ?_
    refine own_aload (pc' := 83) X71 hx (hb hby at_81) rfl rfl rfl ?_
    have f74 := (Nat.le_trans f70 Kq71.1)
    have f75 := (V41.keep Kq71 nin0)
    refine own_callS (pc' := 86) (y := (⟨"com/example/skewcube/skewcube/Accumulator", "reordered", "([I[I)[I"⟩ : MethodName)) (W := 0) (rm := own_room2_2) (argsL := [(.ref a36), (.ref ra71)]) (rest := []) X71 hx hZ rfl hown (by rw [hml]; rfl) (own_w5 hw) (own_w6 hw) (own_w7 hw) (own_w8 hw) (by decide) (own_rm2_2 l Z a0 hw [] a36 ra71 k36 rk71 p0 p1 p2 p3 i32 i33 T71.heap n0 f74 f75 Vq71 ne73 (own_03 hi32) (own_03 hi33)) (by decide) (by decide) (by decide) (by decide) (lenOf own_pd1 rfl) rfl (by exact Nat.le_of_eq rfl) (hb hby at_83) rfl ?_
    intro T76 Lc76 v76 X76 hQ76
    obtain ⟨ra76, rk76, rfl, Nq76, Kq76, sq76, Vq76⟩ := hQ76
    have N76 := Fr.app N71 Nq76
    have ge77 : n0 ≤ ra76 := Nat.le_trans f74 sq76
    have ne78 : a36 ≠ ra76 := Nat.ne_of_lt (Nat.lt_of_lt_of_le f75.lt sq76)
    have ne79 : ra71 ≠ ra76 := Nat.ne_of_lt (Nat.lt_of_lt_of_le Vq71.lt sq76)
    show own_Ends p e below s _ _ _ T76 (mkF m 86 #[.val (.int p0), .val (.int p1), .val (.int p2), .val (.int p3), .val (.int p4), .val (.int (2 : Int32)), .val (.int i32), .val (.int i33), .val (.int i34), .val (.int i35), .val (.ref a36), .val (.ref ra71), .unset] [(.ref ra76)])
    refine own_astore (pc' := 88) (l' := #[.val (.int p0), .val (.int p1), .val (.int p2), .val (.int p3), .val (.int p4), .val (.int (2 : Int32)), .val (.int i32), .val (.int i33), .val (.int i34), .val (.int i35), .val (.ref a36), .val (.ref ra71), .val (.ref ra76)]) X76 hx (hb hby at_86) rfl rfl rfl ?_
    refine own_aload (pc' := 90) X76 hx (hb hby at_88) rfl rfl rfl ?_
    refine own_ifnullNo (pc' := 93) X76 hx (hb hby at_90) rfl ?_
    refine own_aload (pc' := 95) X76 hx (hb hby at_93) rfl rfl rfl ?_
    refine own_alen (pc' := 96) X76 hx hZ rfl Vq76 (hb hby at_95) rfl ?_
    refine own_iload (pc' := 98) X76 hx (hb hby at_96) rfl rfl ?_
    refine own_icmpYes (pc' := 103) X76 hx (hb hby at_98) (teq (by decide)).1 (by decide) (by decide) ?_
    refine own_iload (pc' := 105) X76 hx (hb hby at_103) rfl rfl ?_
    refine own_ifNo (pc' := 108) X76 hx (hb hby at_105) rfl (tlt (by decide)).2.2.2 ?_
    refine own_aload (pc' := 110) X76 hx (hb hby at_108) rfl rfl rfl ?_
    refine own_iconst (pc' := 111) (z := (0 : Int32)) X76 hx (hb hby at_110) rfl rfl ?_
    refine own_iaload (pc' := 112) X76 hx hZ rfl Vq76 (hb hby at_111) rfl (by decide) rfl ?_
    refine own_iload (pc' := 114) X76 hx (hb hby at_112) rfl rfl ?_
    refine own_iloadN (pc' := 115) X76 hx (hb hby at_114) rfl rfl ?_
    refine own_iloadN (pc' := 116) X76 hx (hb hby at_115) rfl rfl ?_
    refine own_iloadN (pc' := 117) X76 hx (hb hby at_116) rfl rfl ?_
    refine own_iloadN (pc' := 118) X76 hx (hb hby at_117) rfl rfl ?_
    refine own_callS (pc' := 121) (y := (⟨"com/example/skewcube/skewcube/AccumulatorReorderedPinLaw", "pick", "(IIIII)I"⟩ : MethodName)) (W := 1) (rm := own_room3) (argsL := [(.int i32), (.int p0), (.int p1), (.int p2), (.int p3)]) (rest := [(.int (own_pick i32 p0 p1 p2 p3))]) X76 hx hZ rfl hown (by rw [hml]; rfl) (own_w9 hw) (own_w10 hw) (own_w3 hw) (own_w11 hw) (by decide) (own_rm3 l Z a0 hw [] i32 p0 p1 p2 p3 T76.heap n0) (by decide) (by decide) (by decide) (by decide) (lenOf own_pd2 rfl) rfl (by exact Nat.le_of_eq rfl) (hb hby at_118) rfl ?_
    intro T80 Lc80 v80 X80 hQ80
    obtain ⟨rfl, Nq81, eq82⟩ := hQ80
    have N83 := Fr.app N76 Nq81
    show own_Ends p e below s _ _ _ T80 (mkF m 121 #[.val (.int p0), .val (.int p1), .val (.int p2), .val (.int p3), .val (.int p4), .val (.int (2 : Int32)), .val (.int i32), .val (.int i33), .val (.int i34), .val (.int i35), .val (.ref a36), .val (.ref ra71), .val (.ref ra76)] [(.int (own_pick i32 p0 p1 p2 p3)), (.int (own_pick i32 p0 p1 p2 p3))])
    refine own_icmpYes (pc' := 126) X80 hx (hb hby at_121) (teq rfl).1 (by decide) (by decide) ?_
    refine own_iload (pc' := 128) X80 hx (hb hby at_126) rfl rfl ?_
    refine own_iconst (pc' := 129) (z := (1 : Int32)) X80 hx (hb hby at_128) rfl rfl ?_
    refine own_icmpNo (pc' := 132) X80 hx (hb hby at_129) rfl (tlt (by decide)).2.2.2 ?_
    refine own_aload (pc' := 134) X80 hx (hb hby at_132) rfl rfl rfl ?_
    refine own_iconst (pc' := 135) (z := (1 : Int32)) X80 hx (hb hby at_134) rfl rfl ?_
    refine own_iaload (pc' := 136) X80 hx hZ eq82 Vq76 (hb hby at_135) rfl (by decide) rfl ?_
    refine own_iload (pc' := 138) X80 hx (hb hby at_136) rfl rfl ?_
    refine own_iloadN (pc' := 139) X80 hx (hb hby at_138) rfl rfl ?_
    refine own_iloadN (pc' := 140) X80 hx (hb hby at_139) rfl rfl ?_
    refine own_iloadN (pc' := 141) X80 hx (hb hby at_140) rfl rfl ?_
    refine own_iloadN (pc' := 142) X80 hx (hb hby at_141) rfl rfl ?_
    refine own_callS (pc' := 145) (y := (⟨"com/example/skewcube/skewcube/AccumulatorReorderedPinLaw", "pick", "(IIIII)I"⟩ : MethodName)) (W := 1) (rm := own_room3) (argsL := [(.int i33), (.int p0), (.int p1), (.int p2), (.int p3)]) (rest := [(.int (own_pick i33 p0 p1 p2 p3))]) X80 hx hZ eq82 hown (by rw [hml]; rfl) (own_w9 hw) (own_w10 hw) (own_w3 hw) (own_w11 hw) (by decide) (own_rm3 l Z a0 hw [] i33 p0 p1 p2 p3 T76.heap n0) (by decide) (by decide) (by decide) (by decide) (lenOf own_pd2 rfl) rfl (by exact Nat.le_of_eq rfl) (hb hby at_142) rfl ?_
    intro T84 Lc84 v84 X84 hQ84
    obtain ⟨rfl, Nq85, eq86⟩ := hQ84
    have N87 := Fr.app N83 Nq85
    show own_Ends p e below s _ _ _ T84 (mkF m 145 #[.val (.int p0), .val (.int p1), .val (.int p2), .val (.int p3), .val (.int p4), .val (.int (2 : Int32)), .val (.int i32), .val (.int i33), .val (.int i34), .val (.int i35), .val (.ref a36), .val (.ref ra71), .val (.ref ra76)] [(.int (own_pick i33 p0 p1 p2 p3)), (.int (own_pick i33 p0 p1 p2 p3))])
    refine own_icmpYes (pc' := 150) X84 hx (hb hby at_145) (teq rfl).1 (by decide) (by decide) ?_
    refine own_iload (pc' := 152) X84 hx (hb hby at_150) rfl rfl ?_
    refine own_iconst (pc' := 153) (z := (2 : Int32)) X84 hx (hb hby at_152) rfl rfl ?_
    refine own_icmpYes (pc' := 174) X84 hx (hb hby at_153) (flt (by decide)).2.2.2 (by decide) (by decide) ?_
    refine own_iload (pc' := 176) X84 hx (hb hby at_174) rfl rfl ?_
    refine own_iconst (pc' := 177) (z := (3 : Int32)) X84 hx (hb hby at_176) rfl rfl ?_
    refine own_icmpYes (pc' := 198) X84 hx (hb hby at_177) (flt (by decide)).2.2.2 (by decide) (by decide) ?_
    refine own_aload (pc' := 200) X84 hx (hb hby at_198) rfl rfl rfl ?_
    have f88 := (f75.keep Kq76 nin0)
    refine own_alen (pc' := 201) X84 hx hZ eq86 f88 (hb hby at_200) rfl ?_
    refine own_iconst (pc' := 202) (z := (4 : Int32)) X84 hx (hb hby at_201) rfl rfl ?_
    refine own_icmpNo (pc' := 205) X84 hx (hb hby at_202) rfl (teq (by decide)).2 ?_
    refine own_aload (pc' := 207) X84 hx (hb hby at_205) rfl rfl rfl ?_
    refine own_iconst (pc' := 208) (z := (0 : Int32)) X84 hx (hb hby at_207) rfl rfl ?_
    refine own_iaload (pc' := 209) X84 hx hZ eq86 f88 (hb hby at_208) rfl (by decide) rfl ?_
    refine own_iloadN (pc' := 210) X84 hx (hb hby at_209) rfl rfl ?_
    refine own_icmpNo (pc' := 213) X84 hx (hb hby at_210) rfl (teq rfl).2 ?_
    refine own_aload (pc' := 215) X84 hx (hb hby at_213) rfl rfl rfl ?_
    refine own_iconst (pc' := 216) (z := (1 : Int32)) X84 hx (hb hby at_215) rfl rfl ?_
    refine own_iaload (pc' := 217) X84 hx hZ eq86 f88 (hb hby at_216) rfl (by decide) rfl ?_
    refine own_iloadN (pc' := 218) X84 hx (hb hby at_217) rfl rfl ?_
    refine own_icmpNo (pc' := 221) X84 hx (hb hby at_218) rfl (teq rfl).2 ?_
    refine own_aload (pc' := 223) X84 hx (hb hby at_221) rfl rfl rfl ?_
    refine own_iconst (pc' := 224) (z := (2 : Int32)) X84 hx (hb hby at_223) rfl rfl ?_
    refine own_iaload (pc' := 225) X84 hx hZ eq86 f88 (hb hby at_224) rfl (by decide) rfl ?_
    refine own_iloadN (pc' := 226) X84 hx (hb hby at_225) rfl rfl ?_
    refine own_icmpNo (pc' := 229) X84 hx (hb hby at_226) rfl (teq rfl).2 ?_
    refine own_aload (pc' := 231) X84 hx (hb hby at_229) rfl rfl rfl ?_
    refine own_iconst (pc' := 232) (z := (3 : Int32)) X84 hx (hb hby at_231) rfl rfl ?_
    refine own_iaload (pc' := 233) X84 hx hZ eq86 f88 (hb hby at_232) rfl (by decide) rfl ?_
    refine own_iloadN (pc' := 234) X84 hx (hb hby at_233) rfl rfl ?_
    refine own_icmpYes (pc' := 239) X84 hx (hb hby at_234) (teq rfl).1 (by decide) (by decide) ?_
    refine own_aload (pc' := 241) X84 hx (hb hby at_239) rfl rfl rfl ?_
    have f89 := (Vq71.keep Kq76 nin0)
    refine own_alen (pc' := 242) X84 hx hZ eq86 f89 (hb hby at_241) rfl ?_
    refine own_iload (pc' := 244) X84 hx (hb hby at_242) rfl rfl ?_
    refine own_icmpYes (pc' := 249) X84 hx (hb hby at_244) (teq (by decide)).1 (by decide) (by decide) ?_
    refine own_iload (pc' := 251) X84 hx (hb hby at_249) rfl rfl ?_
    refine own_ifNo (pc' := 254) X84 hx (hb hby at_251) rfl (tlt (by decide)).2.2.2 ?_
    refine own_aload (pc' := 256) X84 hx (hb hby at_254) rfl rfl rfl ?_
    refine own_iconst (pc' := 257) (z := (0 : Int32)) X84 hx (hb hby at_256) rfl rfl ?_
    refine own_iaload (pc' := 258) X84 hx hZ eq86 f89 (hb hby at_257) rfl (by decide) rfl ?_
    refine own_iload (pc' := 260) X84 hx (hb hby at_258) rfl rfl ?_
    refine own_icmpYes (pc' := 265) X84 hx (hb hby at_260) (teq rfl).1 (by decide) (by decide) ?_
    refine own_iload (pc' := 267) X84 hx (hb hby at_265) rfl rfl ?_
    refine own_iconst (pc' := 268) (z := (1 : Int32)) X84 hx (hb hby at_267) rfl rfl ?_
    refine own_icmpNo (pc' := 271) X84 hx (hb hby at_268) rfl (tlt (by decide)).2.2.2 ?_
    refine own_aload (pc' := 273) X84 hx (hb hby at_271) rfl rfl rfl ?_
    refine own_iconst (pc' := 274) (z := (1 : Int32)) X84 hx (hb hby at_273) rfl rfl ?_
    refine own_iaload (pc' := 275) X84 hx hZ eq86 f89 (hb hby at_274) rfl (by decide) rfl ?_
    refine own_iload (pc' := 277) X84 hx (hb hby at_275) rfl rfl ?_
    refine own_icmpYes (pc' := 282) X84 hx (hb hby at_277) (teq rfl).1 (by decide) (by decide) ?_
    refine own_iload (pc' := 284) X84 hx (hb hby at_282) rfl rfl ?_
    refine own_iconst (pc' := 285) (z := (2 : Int32)) X84 hx (hb hby at_284) rfl rfl ?_
    refine own_icmpYes (pc' := 299) X84 hx (hb hby at_285) (flt (by decide)).2.2.2 (by decide) (by decide) ?_
    refine own_iload (pc' := 301) X84 hx (hb hby at_299) rfl rfl ?_
    refine own_iconst (pc' := 302) (z := (3 : Int32)) X84 hx (hb hby at_301) rfl rfl ?_
    refine own_icmpYes (pc' := 316) X84 hx (hb hby at_302) (flt (by decide)).2.2.2 (by decide) (by decide) ?_
    refine own_iconst (pc' := 317) (z := (1 : Int32)) X84 hx (hb hby at_316) rfl rfl ?_
    refine own_retN X84 hx hlk hret (by simp) (hb hby at_317) (by decide) (by decide) ?_
    exact ⟨rfl, N87⟩
  · refine own_iload (pc' := 66) X41 hx (hb hby at_64) rfl rfl ?_
    refine own_iload (pc' := 68) X41 hx (hb hby at_66) rfl rfl ?_
    refine own_iload (pc' := 70) X41 hx (hb hby at_68) rfl rfl ?_
    refine own_iload (pc' := 72) X41 hx (hb hby at_70) rfl rfl ?_
    refine own_iload (pc' := 74) X41 hx (hb hby at_72) rfl rfl ?_
    have f90 := (Nat.le_trans (Nat.le_trans (Nat.le_trans (Nat.le_trans (Nat.le_trans Z0 E36.1) (Keep.of_wr W38).1) (Keep.of_wr W39).1) (Keep.of_wr W40).1) (Keep.of_wr W41).1)
    refine own_callS (pc' := 77) (y := (⟨"com/example/skewcube/skewcube/AccumulatorReorderedPinLaw", "makeOrder", "(IIIII)[I"⟩ : MethodName)) (W := 0) (rm := own_room1_3) (argsL := [(.int (3 : Int32)), (.int i32), (.int i33), (.int i34), (.int i35)]) (rest := []) X41 hx hZ e41 hown (by rw [hml]; rfl) (own_w1 hw) (own_w2 hw) (own_w3 hw) (own_w4 hw) (by decide) (own_rm1_3 l Z a0 hw [] i32 i33 i34 i35 h41 n0 f90) (by decide) (by decide) (by decide) (by decide) (lenOf own_pd0 rfl) rfl (by exact Nat.le_of_eq rfl) (hb hby at_74) rfl ?_
    intro T91 Lc91 v91 X91 hQ91
    obtain ⟨ra91, rk91, rfl, Nq91, Kq91, sq91, Vq91⟩ := hQ91
    have N91 := Fr.app N41 Nq91
    have ge92 : n0 ≤ ra91 := Nat.le_trans f90 sq91
    have ne93 : a36 ≠ ra91 := Nat.ne_of_lt (Nat.lt_of_lt_of_le V41.lt sq91)
    show own_Ends p e below s _ _ _ T91 (mkF m 77 #[.val (.int p0), .val (.int p1), .val (.int p2), .val (.int p3), .val (.int p4), .val (.int (3 : Int32)), .val (.int i32), .val (.int i33), .val (.int i34), .val (.int i35), .val (.ref a36), .unset, .unset] [(.ref ra91)])
    refine own_astore (pc' := 79) (l' := #[.val (.int p0), .val (.int p1), .val (.int p2), .val (.int p3), .val (.int p4), .val (.int (3 : Int32)), .val (.int i32), .val (.int i33), .val (.int i34), .val (.int i35), .val (.ref a36), .val (.ref ra91), .unset]) X91 hx (hb hby at_77) rfl rfl rfl ?_
    refine own_aload (pc' := 81) X91 hx (hb hby at_79) rfl rfl rfl ?_
    refine own_aload (pc' := 83) X91 hx (hb hby at_81) rfl rfl rfl ?_
    have f94 := (Nat.le_trans f90 Kq91.1)
    have f95 := (V41.keep Kq91 nin0)
    refine own_callS (pc' := 86) (y := (⟨"com/example/skewcube/skewcube/Accumulator", "reordered", "([I[I)[I"⟩ : MethodName)) (W := 0) (rm := own_room2_3) (argsL := [(.ref a36), (.ref ra91)]) (rest := []) X91 hx hZ rfl hown (by rw [hml]; rfl) (own_w5 hw) (own_w6 hw) (own_w7 hw) (own_w8 hw) (by decide) (own_rm2_3 l Z a0 hw [] a36 ra91 k36 rk91 p0 p1 p2 p3 i32 i33 i34 T91.heap n0 f94 f95 Vq91 ne93 (own_03 hi32) (own_03 hi33) (own_03 hi34)) (by decide) (by decide) (by decide) (by decide) (lenOf own_pd1 rfl) rfl (by exact Nat.le_of_eq rfl) (hb hby at_83) rfl ?_
    intro T96 Lc96 v96 X96 hQ96
    obtain ⟨ra96, rk96, rfl, Nq96, Kq96, sq96, Vq96⟩ := hQ96
    have N96 := Fr.app N91 Nq96
    have ge97 : n0 ≤ ra96 := Nat.le_trans f94 sq96
    have ne98 : a36 ≠ ra96 := Nat.ne_of_lt (Nat.lt_of_lt_of_le f95.lt sq96)
    have ne99 : ra91 ≠ ra96 := Nat.ne_of_lt (Nat.lt_of_lt_of_le Vq91.lt sq96)
    show own_Ends p e below s _ _ _ T96 (mkF m 86 #[.val (.int p0), .val (.int p1), .val (.int p2), .val (.int p3), .val (.int p4), .val (.int (3 : Int32)), .val (.int i32), .val (.int i33), .val (.int i34), .val (.int i35), .val (.ref a36), .val (.ref ra91), .unset] [(.ref ra96)])
    refine own_astore (pc' := 88) (l' := #[.val (.int p0), .val (.int p1), .val (.int p2), .val (.int p3), .val (.int p4), .val (.int (3 : Int32)), .val (.int i32), .val (.int i33), .val (.int i34), .val (.int i35), .val (.ref a36), .val (.ref ra91), .val (.ref ra96)]) X96 hx (hb hby at_86) rfl rfl rfl ?_
    refine own_aload (pc' := 90) X96 hx (hb hby at_88) rfl rfl rfl ?_
    refine own_ifnullNo (pc' := 93) X96 hx (hb hby at_90) rfl ?_
    refine own_aload (pc' := 95) X96 hx (hb hby at_93) rfl rfl rfl ?_
    refine own_alen (pc' := 96) X96 hx hZ rfl Vq96 (hb hby at_95) rfl ?_
    refine own_iload (pc' := 98) X96 hx (hb hby at_96) rfl rfl ?_
    refine own_icmpYes (pc' := 103) X96 hx (hb hby at_98) (teq (by decide)).1 (by decide) (by decide) ?_
    refine own_iload (pc' := 105) X96 hx (hb hby at_103) rfl rfl ?_
    refine own_ifNo (pc' := 108) X96 hx (hb hby at_105) rfl (tlt (by decide)).2.2.2 ?_
    refine own_aload (pc' := 110) X96 hx (hb hby at_108) rfl rfl rfl ?_
    refine own_iconst (pc' := 111) (z := (0 : Int32)) X96 hx (hb hby at_110) rfl rfl ?_
    refine own_iaload (pc' := 112) X96 hx hZ rfl Vq96 (hb hby at_111) rfl (by decide) rfl ?_
    refine own_iload (pc' := 114) X96 hx (hb hby at_112) rfl rfl ?_
    refine own_iloadN (pc' := 115) X96 hx (hb hby at_114) rfl rfl ?_
    refine own_iloadN (pc' := 116) X96 hx (hb hby at_115) rfl rfl ?_
    refine own_iloadN (pc' := 117) X96 hx (hb hby at_116) rfl rfl ?_
    refine own_iloadN (pc' := 118) X96 hx (hb hby at_117) rfl rfl ?_
    refine own_callS (pc' := 121) (y := (⟨"com/example/skewcube/skewcube/AccumulatorReorderedPinLaw", "pick", "(IIIII)I"⟩ : MethodName)) (W := 1) (rm := own_room3) (argsL := [(.int i32), (.int p0), (.int p1), (.int p2), (.int p3)]) (rest := [(.int (own_pick i32 p0 p1 p2 p3))]) X96 hx hZ rfl hown (by rw [hml]; rfl) (own_w9 hw) (own_w10 hw) (own_w3 hw) (own_w11 hw) (by decide) (own_rm3 l Z a0 hw [] i32 p0 p1 p2 p3 T96.heap n0) (by decide) (by decide) (by decide) (by decide) (lenOf own_pd2 rfl) rfl (by exact Nat.le_of_eq rfl) (hb hby at_118) rfl ?_
    intro T100 Lc100 v100 X100 hQ100
    obtain ⟨rfl, Nq101, eq102⟩ := hQ100
    have N103 := Fr.app N96 Nq101
    show own_Ends p e below s _ _ _ T100 (mkF m 121 #[.val (.int p0), .val (.int p1), .val (.int p2), .val (.int p3), .val (.int p4), .val (.int (3 : Int32)), .val (.int i32), .val (.int i33), .val (.int i34), .val (.int i35), .val (.ref a36), .val (.ref ra91), .val (.ref ra96)] [(.int (own_pick i32 p0 p1 p2 p3)), (.int (own_pick i32 p0 p1 p2 p3))])
    refine own_icmpYes (pc' := 126) X100 hx (hb hby at_121) (teq rfl).1 (by decide) (by decide) ?_
    refine own_iload (pc' := 128) X100 hx (hb hby at_126) rfl rfl ?_
    refine own_iconst (pc' := 129) (z := (1 : Int32)) X100 hx (hb hby at_128) rfl rfl ?_
    refine own_icmpNo (pc' := 132) X100 hx (hb hby at_129) rfl (tlt (by decide)).2.2.2 ?_
    refine own_aload (pc' := 134) X100 hx (hb hby at_132) rfl rfl rfl ?_
    refine own_iconst (pc' := 135) (z := (1 : Int32)) X100 hx (hb hby at_134) rfl rfl ?_
    refine own_iaload (pc' := 136) X100 hx hZ eq102 Vq96 (hb hby at_135) rfl (by decide) rfl ?_
    refine own_iload (pc' := 138) X100 hx (hb hby at_136) rfl rfl ?_
    refine own_iloadN (pc' := 139) X100 hx (hb hby at_138) rfl rfl ?_
    refine own_iloadN (pc' := 140) X100 hx (hb hby at_139) rfl rfl ?_
    refine own_iloadN (pc' := 141) X100 hx (hb hby at_140) rfl rfl ?_
    refine own_iloadN (pc' := 142) X100 hx (hb hby at_141) rfl rfl ?_
    refine own_callS (pc' := 145) (y := (⟨"com/example/skewcube/skewcube/AccumulatorReorderedPinLaw", "pick", "(IIIII)I"⟩ : MethodName)) (W := 1) (rm := own_room3) (argsL := [(.int i33), (.int p0), (.int p1), (.int p2), (.int p3)]) (rest := [(.int (own_pick i33 p0 p1 p2 p3))]) X100 hx hZ eq102 hown (by rw [hml]; rfl) (own_w9 hw) (own_w10 hw) (own_w3 hw) (own_w11 hw) (by decide) (own_rm3 l Z a0 hw [] i33 p0 p1 p2 p3 T96.heap n0) (by decide) (by decide) (by decide) (by decide) (lenOf own_pd2 rfl) rfl (by exact Nat.le_of_eq rfl) (hb hby at_142) rfl ?_
    intro T104 Lc104 v104 X104 hQ104
    obtain ⟨rfl, Nq105, eq106⟩ := hQ104
    have N107 := Fr.app N103 Nq105
    show own_Ends p e below s _ _ _ T104 (mkF m 145 #[.val (.int p0), .val (.int p1), .val (.int p2), .val (.int p3), .val (.int p4), .val (.int (3 : Int32)), .val (.int i32), .val (.int i33), .val (.int i34), .val (.int i35), .val (.ref a36), .val (.ref ra91), .val (.ref ra96)] [(.int (own_pick i33 p0 p1 p2 p3)), (.int (own_pick i33 p0 p1 p2 p3))])
    refine own_icmpYes (pc' := 150) X104 hx (hb hby at_145) (teq rfl).1 (by decide) (by decide) ?_
    refine own_iload (pc' := 152) X104 hx (hb hby at_150) rfl rfl ?_
    refine own_iconst (pc' := 153) (z := (2 : Int32)) X104 hx (hb hby at_152) rfl rfl ?_
    refine own_icmpNo (pc' := 156) X104 hx (hb hby at_153) rfl (tlt (by decide)).2.2.2 ?_
    refine own_aload (pc' := 158) X104 hx (hb hby at_156) rfl rfl rfl ?_
    refine own_iconst (pc' := 159) (z := (2 : Int32)) X104 hx (hb hby at_158) rfl rfl ?_
    refine own_iaload (pc' := 160) X104 hx hZ eq106 Vq96 (hb hby at_159) rfl (by decide) rfl ?_
    refine own_iload (pc' := 162) X104 hx (hb hby at_160) rfl rfl ?_
    refine own_iloadN (pc' := 163) X104 hx (hb hby at_162) rfl rfl ?_
    refine own_iloadN (pc' := 164) X104 hx (hb hby at_163) rfl rfl ?_
    refine own_iloadN (pc' := 165) X104 hx (hb hby at_164) rfl rfl ?_
    refine own_iloadN (pc' := 166) X104 hx (hb hby at_165) rfl rfl ?_
    refine own_callS (pc' := 169) (y := (⟨"com/example/skewcube/skewcube/AccumulatorReorderedPinLaw", "pick", "(IIIII)I"⟩ : MethodName)) (W := 1) (rm := own_room3) (argsL := [(.int i34), (.int p0), (.int p1), (.int p2), (.int p3)]) (rest := [(.int (own_pick i34 p0 p1 p2 p3))]) X104 hx hZ eq106 hown (by rw [hml]; rfl) (own_w9 hw) (own_w10 hw) (own_w3 hw) (own_w11 hw) (by decide) (own_rm3 l Z a0 hw [] i34 p0 p1 p2 p3 T96.heap n0) (by decide) (by decide) (by decide) (by decide) (lenOf own_pd2 rfl) rfl (by exact Nat.le_of_eq rfl) (hb hby at_166) rfl ?_
    intro T108 Lc108 v108 X108 hQ108
    obtain ⟨rfl, Nq109, eq110⟩ := hQ108
    have N111 := Fr.app N107 Nq109
    show own_Ends p e below s _ _ _ T108 (mkF m 169 #[.val (.int p0), .val (.int p1), .val (.int p2), .val (.int p3), .val (.int p4), .val (.int (3 : Int32)), .val (.int i32), .val (.int i33), .val (.int i34), .val (.int i35), .val (.ref a36), .val (.ref ra91), .val (.ref ra96)] [(.int (own_pick i34 p0 p1 p2 p3)), (.int (own_pick i34 p0 p1 p2 p3))])
    refine own_icmpYes (pc' := 174) X108 hx (hb hby at_169) (teq rfl).1 (by decide) (by decide) ?_
    refine own_iload (pc' := 176) X108 hx (hb hby at_174) rfl rfl ?_
    refine own_iconst (pc' := 177) (z := (3 : Int32)) X108 hx (hb hby at_176) rfl rfl ?_
    refine own_icmpYes (pc' := 198) X108 hx (hb hby at_177) (flt (by decide)).2.2.2 (by decide) (by decide) ?_
    refine own_aload (pc' := 200) X108 hx (hb hby at_198) rfl rfl rfl ?_
    have f112 := (f95.keep Kq96 nin0)
    refine own_alen (pc' := 201) X108 hx hZ eq110 f112 (hb hby at_200) rfl ?_
    refine own_iconst (pc' := 202) (z := (4 : Int32)) X108 hx (hb hby at_201) rfl rfl ?_
    refine own_icmpNo (pc' := 205) X108 hx (hb hby at_202) rfl (teq (by decide)).2 ?_
    refine own_aload (pc' := 207) X108 hx (hb hby at_205) rfl rfl rfl ?_
    refine own_iconst (pc' := 208) (z := (0 : Int32)) X108 hx (hb hby at_207) rfl rfl ?_
    refine own_iaload (pc' := 209) X108 hx hZ eq110 f112 (hb hby at_208) rfl (by decide) rfl ?_
    refine own_iloadN (pc' := 210) X108 hx (hb hby at_209) rfl rfl ?_
    refine own_icmpNo (pc' := 213) X108 hx (hb hby at_210) rfl (teq rfl).2 ?_
    refine own_aload (pc' := 215) X108 hx (hb hby at_213) rfl rfl rfl ?_
    refine own_iconst (pc' := 216) (z := (1 : Int32)) X108 hx (hb hby at_215) rfl rfl ?_
    refine own_iaload (pc' := 217) X108 hx hZ eq110 f112 (hb hby at_216) rfl (by decide) rfl ?_
    refine own_iloadN (pc' := 218) X108 hx (hb hby at_217) rfl rfl ?_
    refine own_icmpNo (pc' := 221) X108 hx (hb hby at_218) rfl (teq rfl).2 ?_
    refine own_aload (pc' := 223) X108 hx (hb hby at_221) rfl rfl rfl ?_
    refine own_iconst (pc' := 224) (z := (2 : Int32)) X108 hx (hb hby at_223) rfl rfl ?_
    refine own_iaload (pc' := 225) X108 hx hZ eq110 f112 (hb hby at_224) rfl (by decide) rfl ?_
    refine own_iloadN (pc' := 226) X108 hx (hb hby at_225) rfl rfl ?_
    refine own_icmpNo (pc' := 229) X108 hx (hb hby at_226) rfl (teq rfl).2 ?_
    refine own_aload (pc' := 231) X108 hx (hb hby at_229) rfl rfl rfl ?_
    refine own_iconst (pc' := 232) (z := (3 : Int32)) X108 hx (hb hby at_231) rfl rfl ?_
    refine own_iaload (pc' := 233) X108 hx hZ eq110 f112 (hb hby at_232) rfl (by decide) rfl ?_
    refine own_iloadN (pc' := 234) X108 hx (hb hby at_233) rfl rfl ?_
    refine own_icmpYes (pc' := 239) X108 hx (hb hby at_234) (teq rfl).1 (by decide) (by decide) ?_
    refine own_aload (pc' := 241) X108 hx (hb hby at_239) rfl rfl rfl ?_
    have f113 := (Vq91.keep Kq96 nin0)
    refine own_alen (pc' := 242) X108 hx hZ eq110 f113 (hb hby at_241) rfl ?_
    refine own_iload (pc' := 244) X108 hx (hb hby at_242) rfl rfl ?_
    refine own_icmpYes (pc' := 249) X108 hx (hb hby at_244) (teq (by decide)).1 (by decide) (by decide) ?_
    refine own_iload (pc' := 251) X108 hx (hb hby at_249) rfl rfl ?_
    refine own_ifNo (pc' := 254) X108 hx (hb hby at_251) rfl (tlt (by decide)).2.2.2 ?_
    refine own_aload (pc' := 256) X108 hx (hb hby at_254) rfl rfl rfl ?_
    refine own_iconst (pc' := 257) (z := (0 : Int32)) X108 hx (hb hby at_256) rfl rfl ?_
    refine own_iaload (pc' := 258) X108 hx hZ eq110 f113 (hb hby at_257) rfl (by decide) rfl ?_
    refine own_iload (pc' := 260) X108 hx (hb hby at_258) rfl rfl ?_
    refine own_icmpYes (pc' := 265) X108 hx (hb hby at_260) (teq rfl).1 (by decide) (by decide) ?_
    refine own_iload (pc' := 267) X108 hx (hb hby at_265) rfl rfl ?_
    refine own_iconst (pc' := 268) (z := (1 : Int32)) X108 hx (hb hby at_267) rfl rfl ?_
    refine own_icmpNo (pc' := 271) X108 hx (hb hby at_268) rfl (tlt (by decide)).2.2.2 ?_
    refine own_aload (pc' := 273) X108 hx (hb hby at_271) rfl rfl rfl ?_
    refine own_iconst (pc' := 274) (z := (1 : Int32)) X108 hx (hb hby at_273) rfl rfl ?_
    refine own_iaload (pc' := 275) X108 hx hZ eq110 f113 (hb hby at_274) rfl (by decide) rfl ?_
    refine own_iload (pc' := 277) X108 hx (hb hby at_275) rfl rfl ?_
    refine own_icmpYes (pc' := 282) X108 hx (hb hby at_277) (teq rfl).1 (by decide) (by decide) ?_
    refine own_iload (pc' := 284) X108 hx (hb hby at_282) rfl rfl ?_
    refine own_iconst (pc' := 285) (z := (2 : Int32)) X108 hx (hb hby at_284) rfl rfl ?_
    refine own_icmpNo (pc' := 288) X108 hx (hb hby at_285) rfl (tlt (by decide)).2.2.2 ?_
    refine own_aload (pc' := 290) X108 hx (hb hby at_288) rfl rfl rfl ?_
    refine own_iconst (pc' := 291) (z := (2 : Int32)) X108 hx (hb hby at_290) rfl rfl ?_
    refine own_iaload (pc' := 292) X108 hx hZ eq110 f113 (hb hby at_291) rfl (by decide) rfl ?_
    refine own_iload (pc' := 294) X108 hx (hb hby at_292) rfl rfl ?_
    refine own_icmpYes (pc' := 299) X108 hx (hb hby at_294) (teq rfl).1 (by decide) (by decide) ?_
    refine own_iload (pc' := 301) X108 hx (hb hby at_299) rfl rfl ?_
    refine own_iconst (pc' := 302) (z := (3 : Int32)) X108 hx (hb hby at_301) rfl rfl ?_
    refine own_icmpYes (pc' := 316) X108 hx (hb hby at_302) (flt (by decide)).2.2.2 (by decide) (by decide) ?_
    refine own_iconst (pc' := 317) (z := (1 : Int32)) X108 hx (hb hby at_316) rfl rfl ?_
    refine own_retN X108 hx hlk hret (by simp) (hb hby at_317) (by decide) (by decide) ?_
    exact ⟨rfl, N111⟩
  · refine own_iload (pc' := 66) X41 hx (hb hby at_64) rfl rfl ?_
    refine own_iload (pc' := 68) X41 hx (hb hby at_66) rfl rfl ?_
    refine own_iload (pc' := 70) X41 hx (hb hby at_68) rfl rfl ?_
    refine own_iload (pc' := 72) X41 hx (hb hby at_70) rfl rfl ?_
    refine own_iload (pc' := 74) X41 hx (hb hby at_72) rfl rfl ?_
    have f114 := (Nat.le_trans (Nat.le_trans (Nat.le_trans (Nat.le_trans (Nat.le_trans Z0 E36.1) (Keep.of_wr W38).1) (Keep.of_wr W39).1) (Keep.of_wr W40).1) (Keep.of_wr W41).1)
    refine own_callS (pc' := 77) (y := (⟨"com/example/skewcube/skewcube/AccumulatorReorderedPinLaw", "makeOrder", "(IIIII)[I"⟩ : MethodName)) (W := 0) (rm := own_room1_4) (argsL := [(.int (4 : Int32)), (.int i32), (.int i33), (.int i34), (.int i35)]) (rest := []) X41 hx hZ e41 hown (by rw [hml]; rfl) (own_w1 hw) (own_w2 hw) (own_w3 hw) (own_w4 hw) (by decide) (own_rm1_4 l Z a0 hw [] i32 i33 i34 i35 h41 n0 f114) (by decide) (by decide) (by decide) (by decide) (lenOf own_pd0 rfl) rfl (by exact Nat.le_of_eq rfl) (hb hby at_74) rfl ?_
    intro T115 Lc115 v115 X115 hQ115
    obtain ⟨ra115, rk115, rfl, Nq115, Kq115, sq115, Vq115⟩ := hQ115
    have N115 := Fr.app N41 Nq115
    have ge116 : n0 ≤ ra115 := Nat.le_trans f114 sq115
    have ne117 : a36 ≠ ra115 := Nat.ne_of_lt (Nat.lt_of_lt_of_le V41.lt sq115)
    show own_Ends p e below s _ _ _ T115 (mkF m 77 #[.val (.int p0), .val (.int p1), .val (.int p2), .val (.int p3), .val (.int p4), .val (.int (4 : Int32)), .val (.int i32), .val (.int i33), .val (.int i34), .val (.int i35), .val (.ref a36), .unset, .unset] [(.ref ra115)])
    refine own_astore (pc' := 79) (l' := #[.val (.int p0), .val (.int p1), .val (.int p2), .val (.int p3), .val (.int p4), .val (.int (4 : Int32)), .val (.int i32), .val (.int i33), .val (.int i34), .val (.int i35), .val (.ref a36), .val (.ref ra115), .unset]) X115 hx (hb hby at_77) rfl rfl rfl ?_
    refine own_aload (pc' := 81) X115 hx (hb hby at_79) rfl rfl rfl ?_
    refine own_aload (pc' := 83) X115 hx (hb hby at_81) rfl rfl rfl ?_
    have f118 := (Nat.le_trans f114 Kq115.1)
    have f119 := (V41.keep Kq115 nin0)
    refine own_callS (pc' := 86) (y := (⟨"com/example/skewcube/skewcube/Accumulator", "reordered", "([I[I)[I"⟩ : MethodName)) (W := 0) (rm := own_room2_4) (argsL := [(.ref a36), (.ref ra115)]) (rest := []) X115 hx hZ rfl hown (by rw [hml]; rfl) (own_w5 hw) (own_w6 hw) (own_w7 hw) (own_w8 hw) (by decide) (own_rm2_4 l Z a0 hw [] a36 ra115 k36 rk115 p0 p1 p2 p3 i32 i33 i34 i35 T115.heap n0 f118 f119 Vq115 ne117 (own_03 hi32) (own_03 hi33) (own_03 hi34) (own_03 hi35)) (by decide) (by decide) (by decide) (by decide) (lenOf own_pd1 rfl) rfl (by exact Nat.le_of_eq rfl) (hb hby at_83) rfl ?_
    intro T120 Lc120 v120 X120 hQ120
    obtain ⟨ra120, rk120, rfl, Nq120, Kq120, sq120, Vq120⟩ := hQ120
    have N120 := Fr.app N115 Nq120
    have ge121 : n0 ≤ ra120 := Nat.le_trans f118 sq120
    have ne122 : a36 ≠ ra120 := Nat.ne_of_lt (Nat.lt_of_lt_of_le f119.lt sq120)
    have ne123 : ra115 ≠ ra120 := Nat.ne_of_lt (Nat.lt_of_lt_of_le Vq115.lt sq120)
    show own_Ends p e below s _ _ _ T120 (mkF m 86 #[.val (.int p0), .val (.int p1), .val (.int p2), .val (.int p3), .val (.int p4), .val (.int (4 : Int32)), .val (.int i32), .val (.int i33), .val (.int i34), .val (.int i35), .val (.ref a36), .val (.ref ra115), .unset] [(.ref ra120)])
    refine own_astore (pc' := 88) (l' := #[.val (.int p0), .val (.int p1), .val (.int p2), .val (.int p3), .val (.int p4), .val (.int (4 : Int32)), .val (.int i32), .val (.int i33), .val (.int i34), .val (.int i35), .val (.ref a36), .val (.ref ra115), .val (.ref ra120)]) X120 hx (hb hby at_86) rfl rfl rfl ?_
    refine own_aload (pc' := 90) X120 hx (hb hby at_88) rfl rfl rfl ?_
    refine own_ifnullNo (pc' := 93) X120 hx (hb hby at_90) rfl ?_
    refine own_aload (pc' := 95) X120 hx (hb hby at_93) rfl rfl rfl ?_
    refine own_alen (pc' := 96) X120 hx hZ rfl Vq120 (hb hby at_95) rfl ?_
    refine own_iload (pc' := 98) X120 hx (hb hby at_96) rfl rfl ?_
    refine own_icmpYes (pc' := 103) X120 hx (hb hby at_98) (teq (by decide)).1 (by decide) (by decide) ?_
    refine own_iload (pc' := 105) X120 hx (hb hby at_103) rfl rfl ?_
    refine own_ifNo (pc' := 108) X120 hx (hb hby at_105) rfl (tlt (by decide)).2.2.2 ?_
    refine own_aload (pc' := 110) X120 hx (hb hby at_108) rfl rfl rfl ?_
    refine own_iconst (pc' := 111) (z := (0 : Int32)) X120 hx (hb hby at_110) rfl rfl ?_
    refine own_iaload (pc' := 112) X120 hx hZ rfl Vq120 (hb hby at_111) rfl (by decide) rfl ?_
    refine own_iload (pc' := 114) X120 hx (hb hby at_112) rfl rfl ?_
    refine own_iloadN (pc' := 115) X120 hx (hb hby at_114) rfl rfl ?_
    refine own_iloadN (pc' := 116) X120 hx (hb hby at_115) rfl rfl ?_
    refine own_iloadN (pc' := 117) X120 hx (hb hby at_116) rfl rfl ?_
    refine own_iloadN (pc' := 118) X120 hx (hb hby at_117) rfl rfl ?_
    refine own_callS (pc' := 121) (y := (⟨"com/example/skewcube/skewcube/AccumulatorReorderedPinLaw", "pick", "(IIIII)I"⟩ : MethodName)) (W := 1) (rm := own_room3) (argsL := [(.int i32), (.int p0), (.int p1), (.int p2), (.int p3)]) (rest := [(.int (own_pick i32 p0 p1 p2 p3))]) X120 hx hZ rfl hown (by rw [hml]; rfl) (own_w9 hw) (own_w10 hw) (own_w3 hw) (own_w11 hw) (by decide) (own_rm3 l Z a0 hw [] i32 p0 p1 p2 p3 T120.heap n0) (by decide) (by decide) (by decide) (by decide) (lenOf own_pd2 rfl) rfl (by exact Nat.le_of_eq rfl) (hb hby at_118) rfl ?_
    intro T124 Lc124 v124 X124 hQ124
    obtain ⟨rfl, Nq125, eq126⟩ := hQ124
    have N127 := Fr.app N120 Nq125
    show own_Ends p e below s _ _ _ T124 (mkF m 121 #[.val (.int p0), .val (.int p1), .val (.int p2), .val (.int p3), .val (.int p4), .val (.int (4 : Int32)), .val (.int i32), .val (.int i33), .val (.int i34), .val (.int i35), .val (.ref a36), .val (.ref ra115), .val (.ref ra120)] [(.int (own_pick i32 p0 p1 p2 p3)), (.int (own_pick i32 p0 p1 p2 p3))])
    refine own_icmpYes (pc' := 126) X124 hx (hb hby at_121) (teq rfl).1 (by decide) (by decide) ?_
    refine own_iload (pc' := 128) X124 hx (hb hby at_126) rfl rfl ?_
    refine own_iconst (pc' := 129) (z := (1 : Int32)) X124 hx (hb hby at_128) rfl rfl ?_
    refine own_icmpNo (pc' := 132) X124 hx (hb hby at_129) rfl (tlt (by decide)).2.2.2 ?_
    refine own_aload (pc' := 134) X124 hx (hb hby at_132) rfl rfl rfl ?_
    refine own_iconst (pc' := 135) (z := (1 : Int32)) X124 hx (hb hby at_134) rfl rfl ?_
    refine own_iaload (pc' := 136) X124 hx hZ eq126 Vq120 (hb hby at_135) rfl (by decide) rfl ?_
    refine own_iload (pc' := 138) X124 hx (hb hby at_136) rfl rfl ?_
    refine own_iloadN (pc' := 139) X124 hx (hb hby at_138) rfl rfl ?_
    refine own_iloadN (pc' := 140) X124 hx (hb hby at_139) rfl rfl ?_
    refine own_iloadN (pc' := 141) X124 hx (hb hby at_140) rfl rfl ?_
    refine own_iloadN (pc' := 142) X124 hx (hb hby at_141) rfl rfl ?_
    refine own_callS (pc' := 145) (y := (⟨"com/example/skewcube/skewcube/AccumulatorReorderedPinLaw", "pick", "(IIIII)I"⟩ : MethodName)) (W := 1) (rm := own_room3) (argsL := [(.int i33), (.int p0), (.int p1), (.int p2), (.int p3)]) (rest := [(.int (own_pick i33 p0 p1 p2 p3))]) X124 hx hZ eq126 hown (by rw [hml]; rfl) (own_w9 hw) (own_w10 hw) (own_w3 hw) (own_w11 hw) (by decide) (own_rm3 l Z a0 hw [] i33 p0 p1 p2 p3 T120.heap n0) (by decide) (by decide) (by decide) (by decide) (lenOf own_pd2 rfl) rfl (by exact Nat.le_of_eq rfl) (hb hby at_142) rfl ?_
    intro T128 Lc128 v128 X128 hQ128
    obtain ⟨rfl, Nq129, eq130⟩ := hQ128
    have N131 := Fr.app N127 Nq129
    show own_Ends p e below s _ _ _ T128 (mkF m 145 #[.val (.int p0), .val (.int p1), .val (.int p2), .val (.int p3), .val (.int p4), .val (.int (4 : Int32)), .val (.int i32), .val (.int i33), .val (.int i34), .val (.int i35), .val (.ref a36), .val (.ref ra115), .val (.ref ra120)] [(.int (own_pick i33 p0 p1 p2 p3)), (.int (own_pick i33 p0 p1 p2 p3))])
    refine own_icmpYes (pc' := 150) X128 hx (hb hby at_145) (teq rfl).1 (by decide) (by decide) ?_
    refine own_iload (pc' := 152) X128 hx (hb hby at_150) rfl rfl ?_
    refine own_iconst (pc' := 153) (z := (2 : Int32)) X128 hx (hb hby at_152) rfl rfl ?_
    refine own_icmpNo (pc' := 156) X128 hx (hb hby at_153) rfl (tlt (by decide)).2.2.2 ?_
    refine own_aload (pc' := 158) X128 hx (hb hby at_156) rfl rfl rfl ?_
    refine own_iconst (pc' := 159) (z := (2 : Int32)) X128 hx (hb hby at_158) rfl rfl ?_
    refine own_iaload (pc' := 160) X128 hx hZ eq130 Vq120 (hb hby at_159) rfl (by decide) rfl ?_
    refine own_iload (pc' := 162) X128 hx (hb hby at_160) rfl rfl ?_
    refine own_iloadN (pc' := 163) X128 hx (hb hby at_162) rfl rfl ?_
    refine own_iloadN (pc' := 164) X128 hx (hb hby at_163) rfl rfl ?_
    refine own_iloadN (pc' := 165) X128 hx (hb hby at_164) rfl rfl ?_
    refine own_iloadN (pc' := 166) X128 hx (hb hby at_165) rfl rfl ?_
    refine own_callS (pc' := 169) (y := (⟨"com/example/skewcube/skewcube/AccumulatorReorderedPinLaw", "pick", "(IIIII)I"⟩ : MethodName)) (W := 1) (rm := own_room3) (argsL := [(.int i34), (.int p0), (.int p1), (.int p2), (.int p3)]) (rest := [(.int (own_pick i34 p0 p1 p2 p3))]) X128 hx hZ eq130 hown (by rw [hml]; rfl) (own_w9 hw) (own_w10 hw) (own_w3 hw) (own_w11 hw) (by decide) (own_rm3 l Z a0 hw [] i34 p0 p1 p2 p3 T120.heap n0) (by decide) (by decide) (by decide) (by decide) (lenOf own_pd2 rfl) rfl (by exact Nat.le_of_eq rfl) (hb hby at_166) rfl ?_
    intro T132 Lc132 v132 X132 hQ132
    obtain ⟨rfl, Nq133, eq134⟩ := hQ132
    have N135 := Fr.app N131 Nq133
    show own_Ends p e below s _ _ _ T132 (mkF m 169 #[.val (.int p0), .val (.int p1), .val (.int p2), .val (.int p3), .val (.int p4), .val (.int (4 : Int32)), .val (.int i32), .val (.int i33), .val (.int i34), .val (.int i35), .val (.ref a36), .val (.ref ra115), .val (.ref ra120)] [(.int (own_pick i34 p0 p1 p2 p3)), (.int (own_pick i34 p0 p1 p2 p3))])
    refine own_icmpYes (pc' := 174) X132 hx (hb hby at_169) (teq rfl).1 (by decide) (by decide) ?_
    refine own_iload (pc' := 176) X132 hx (hb hby at_174) rfl rfl ?_
    refine own_iconst (pc' := 177) (z := (3 : Int32)) X132 hx (hb hby at_176) rfl rfl ?_
    refine own_icmpNo (pc' := 180) X132 hx (hb hby at_177) rfl (tlt (by decide)).2.2.2 ?_
    refine own_aload (pc' := 182) X132 hx (hb hby at_180) rfl rfl rfl ?_
    refine own_iconst (pc' := 183) (z := (3 : Int32)) X132 hx (hb hby at_182) rfl rfl ?_
    refine own_iaload (pc' := 184) X132 hx hZ eq134 Vq120 (hb hby at_183) rfl (by decide) rfl ?_
    refine own_iload (pc' := 186) X132 hx (hb hby at_184) rfl rfl ?_
    refine own_iloadN (pc' := 187) X132 hx (hb hby at_186) rfl rfl ?_
    refine own_iloadN (pc' := 188) X132 hx (hb hby at_187) rfl rfl ?_
    refine own_iloadN (pc' := 189) X132 hx (hb hby at_188) rfl rfl ?_
    refine own_iloadN (pc' := 190) X132 hx (hb hby at_189) rfl rfl ?_
    refine own_callS (pc' := 193) (y := (⟨"com/example/skewcube/skewcube/AccumulatorReorderedPinLaw", "pick", "(IIIII)I"⟩ : MethodName)) (W := 1) (rm := own_room3) (argsL := [(.int i35), (.int p0), (.int p1), (.int p2), (.int p3)]) (rest := [(.int (own_pick i35 p0 p1 p2 p3))]) X132 hx hZ eq134 hown (by rw [hml]; rfl) (own_w9 hw) (own_w10 hw) (own_w3 hw) (own_w11 hw) (by decide) (own_rm3 l Z a0 hw [] i35 p0 p1 p2 p3 T120.heap n0) (by decide) (by decide) (by decide) (by decide) (lenOf own_pd2 rfl) rfl (by exact Nat.le_of_eq rfl) (hb hby at_190) rfl ?_
    intro T136 Lc136 v136 X136 hQ136
    obtain ⟨rfl, Nq137, eq138⟩ := hQ136
    have N139 := Fr.app N135 Nq137
    show own_Ends p e below s _ _ _ T136 (mkF m 193 #[.val (.int p0), .val (.int p1), .val (.int p2), .val (.int p3), .val (.int p4), .val (.int (4 : Int32)), .val (.int i32), .val (.int i33), .val (.int i34), .val (.int i35), .val (.ref a36), .val (.ref ra115), .val (.ref ra120)] [(.int (own_pick i35 p0 p1 p2 p3)), (.int (own_pick i35 p0 p1 p2 p3))])
    refine own_icmpYes (pc' := 198) X136 hx (hb hby at_193) (teq rfl).1 (by decide) (by decide) ?_
    refine own_aload (pc' := 200) X136 hx (hb hby at_198) rfl rfl rfl ?_
    have f140 := (f119.keep Kq120 nin0)
    refine own_alen (pc' := 201) X136 hx hZ eq138 f140 (hb hby at_200) rfl ?_
    refine own_iconst (pc' := 202) (z := (4 : Int32)) X136 hx (hb hby at_201) rfl rfl ?_
    refine own_icmpNo (pc' := 205) X136 hx (hb hby at_202) rfl (teq (by decide)).2 ?_
    refine own_aload (pc' := 207) X136 hx (hb hby at_205) rfl rfl rfl ?_
    refine own_iconst (pc' := 208) (z := (0 : Int32)) X136 hx (hb hby at_207) rfl rfl ?_
    refine own_iaload (pc' := 209) X136 hx hZ eq138 f140 (hb hby at_208) rfl (by decide) rfl ?_
    refine own_iloadN (pc' := 210) X136 hx (hb hby at_209) rfl rfl ?_
    refine own_icmpNo (pc' := 213) X136 hx (hb hby at_210) rfl (teq rfl).2 ?_
    refine own_aload (pc' := 215) X136 hx (hb hby at_213) rfl rfl rfl ?_
    refine own_iconst (pc' := 216) (z := (1 : Int32)) X136 hx (hb hby at_215) rfl rfl ?_
    refine own_iaload (pc' := 217) X136 hx hZ eq138 f140 (hb hby at_216) rfl (by decide) rfl ?_
    refine own_iloadN (pc' := 218) X136 hx (hb hby at_217) rfl rfl ?_
    refine own_icmpNo (pc' := 221) X136 hx (hb hby at_218) rfl (teq rfl).2 ?_
    refine own_aload (pc' := 223) X136 hx (hb hby at_221) rfl rfl rfl ?_
    refine own_iconst (pc' := 224) (z := (2 : Int32)) X136 hx (hb hby at_223) rfl rfl ?_
    refine own_iaload (pc' := 225) X136 hx hZ eq138 f140 (hb hby at_224) rfl (by decide) rfl ?_
    refine own_iloadN (pc' := 226) X136 hx (hb hby at_225) rfl rfl ?_
    refine own_icmpNo (pc' := 229) X136 hx (hb hby at_226) rfl (teq rfl).2 ?_
    refine own_aload (pc' := 231) X136 hx (hb hby at_229) rfl rfl rfl ?_
    refine own_iconst (pc' := 232) (z := (3 : Int32)) X136 hx (hb hby at_231) rfl rfl ?_
    refine own_iaload (pc' := 233) X136 hx hZ eq138 f140 (hb hby at_232) rfl (by decide) rfl ?_
    refine own_iloadN (pc' := 234) X136 hx (hb hby at_233) rfl rfl ?_
    refine own_icmpYes (pc' := 239) X136 hx (hb hby at_234) (teq rfl).1 (by decide) (by decide) ?_
    refine own_aload (pc' := 241) X136 hx (hb hby at_239) rfl rfl rfl ?_
    have f141 := (Vq115.keep Kq120 nin0)
    refine own_alen (pc' := 242) X136 hx hZ eq138 f141 (hb hby at_241) rfl ?_
    refine own_iload (pc' := 244) X136 hx (hb hby at_242) rfl rfl ?_
    refine own_icmpYes (pc' := 249) X136 hx (hb hby at_244) (teq (by decide)).1 (by decide) (by decide) ?_
    refine own_iload (pc' := 251) X136 hx (hb hby at_249) rfl rfl ?_
    refine own_ifNo (pc' := 254) X136 hx (hb hby at_251) rfl (tlt (by decide)).2.2.2 ?_
    refine own_aload (pc' := 256) X136 hx (hb hby at_254) rfl rfl rfl ?_
    refine own_iconst (pc' := 257) (z := (0 : Int32)) X136 hx (hb hby at_256) rfl rfl ?_
    refine own_iaload (pc' := 258) X136 hx hZ eq138 f141 (hb hby at_257) rfl (by decide) rfl ?_
    refine own_iload (pc' := 260) X136 hx (hb hby at_258) rfl rfl ?_
    refine own_icmpYes (pc' := 265) X136 hx (hb hby at_260) (teq rfl).1 (by decide) (by decide) ?_
    refine own_iload (pc' := 267) X136 hx (hb hby at_265) rfl rfl ?_
    refine own_iconst (pc' := 268) (z := (1 : Int32)) X136 hx (hb hby at_267) rfl rfl ?_
    refine own_icmpNo (pc' := 271) X136 hx (hb hby at_268) rfl (tlt (by decide)).2.2.2 ?_
    refine own_aload (pc' := 273) X136 hx (hb hby at_271) rfl rfl rfl ?_
    refine own_iconst (pc' := 274) (z := (1 : Int32)) X136 hx (hb hby at_273) rfl rfl ?_
    refine own_iaload (pc' := 275) X136 hx hZ eq138 f141 (hb hby at_274) rfl (by decide) rfl ?_
    refine own_iload (pc' := 277) X136 hx (hb hby at_275) rfl rfl ?_
    refine own_icmpYes (pc' := 282) X136 hx (hb hby at_277) (teq rfl).1 (by decide) (by decide) ?_
    refine own_iload (pc' := 284) X136 hx (hb hby at_282) rfl rfl ?_
    refine own_iconst (pc' := 285) (z := (2 : Int32)) X136 hx (hb hby at_284) rfl rfl ?_
    refine own_icmpNo (pc' := 288) X136 hx (hb hby at_285) rfl (tlt (by decide)).2.2.2 ?_
    refine own_aload (pc' := 290) X136 hx (hb hby at_288) rfl rfl rfl ?_
    refine own_iconst (pc' := 291) (z := (2 : Int32)) X136 hx (hb hby at_290) rfl rfl ?_
    refine own_iaload (pc' := 292) X136 hx hZ eq138 f141 (hb hby at_291) rfl (by decide) rfl ?_
    refine own_iload (pc' := 294) X136 hx (hb hby at_292) rfl rfl ?_
    refine own_icmpYes (pc' := 299) X136 hx (hb hby at_294) (teq rfl).1 (by decide) (by decide) ?_
    refine own_iload (pc' := 301) X136 hx (hb hby at_299) rfl rfl ?_
    refine own_iconst (pc' := 302) (z := (3 : Int32)) X136 hx (hb hby at_301) rfl rfl ?_
    refine own_icmpNo (pc' := 305) X136 hx (hb hby at_302) rfl (tlt (by decide)).2.2.2 ?_
    refine own_aload (pc' := 307) X136 hx (hb hby at_305) rfl rfl rfl ?_
    refine own_iconst (pc' := 308) (z := (3 : Int32)) X136 hx (hb hby at_307) rfl rfl ?_
    refine own_iaload (pc' := 309) X136 hx hZ eq138 f141 (hb hby at_308) rfl (by decide) rfl ?_
    refine own_iload (pc' := 311) X136 hx (hb hby at_309) rfl rfl ?_
    refine own_icmpYes (pc' := 316) X136 hx (hb hby at_311) (teq rfl).1 (by decide) (by decide) ?_
    refine own_iconst (pc' := 317) (z := (1 : Int32)) X136 hx (hb hby at_316) rfl rfl ?_
    refine own_retN X136 hx hlk hret (by simp) (hb hby at_317) (by decide) (by decide) ?_
    exact ⟨rfl, N139⟩
set_option maxRecDepth 65536 in
set_option maxHeartbeats 40000000 in
theorem own_comes {Post : Tables → Env → Array Value → State → Outcome → State → Prop} (hpost : ∀ tb e args s v u, (limb_1_1.after args s (.returned v) u = true ∧ limb_1_2.after args s (.returned v) u = true ∧ True) → FrameEnd s (.returned v) u (Jvm.fieldLocs frame_1_writes args s ++ Jvm.arrayLocs frame_1_arrays args s ++ Jvm.staticLocs frame_1_statics s) 16 128 → Post tb e args s (.returned v) u) :
    ArmFor flags0 classFile x code maxLocals ret World_1 tables_1 room_1 Calls_1 rest_1 Pre_1 Post := by
  intro l hfl _ _ p e ha hc hk s m args below hf hA hF happ hP
  obtain ⟨hcalls, hrest, hpre⟩ := hP
  obtain ⟨-, -, -, hnamed, -, -, -, hat⟩ := (Spec.applies_iff hf).mp happ
  obtain ⟨hg, hn⟩ := and_e (Cond.before_iff.mp (show (Jvm.Cond.and given_1 narrow_1).before args s = true from hpre))
  obtain ⟨g1, g2⟩ := and_e hg
  obtain ⟨g3, g4⟩ := and_e g2
  obtain ⟨g5, g6⟩ := and_e g4
  obtain ⟨g7, g8⟩ := and_e g6
  obtain ⟨g9, g10⟩ := and_e g8
  obtain ⟨w0, w1, w2, w3, w4, rfl⟩ : ∃ w0 w1 w2 w3 w4 : Value, args = #[w0, w1, w2, w3, w4] := by
    have hs : args.size = 5 := by simpa [Cond.value, given_1] using g1
    obtain ⟨L⟩ := args
    match L, hs with
    | [w0, w1, w2, w3, w4], _ => exact ⟨w0, w1, w2, w3, w4, rfl⟩
  have hw := fun d (hd : d ∈ tables_1) => atoms_spec (ws := Jvm.Cond.code x code maxLocals ret :: tables_1) hat d (List.mem_cons_of_mem _ hd)
  have hfit : Fit s := fun {y c} hc i hi => by
    obtain ⟨ha, rfl⟩ := Array.getElem?_eq_some_iff.mp hc
    have q := List.all_eq_true.mp ((Array.all_eq_true_iff_forall_mem.mp hF) _ (Array.getElem_mem ha)) i (List.mem_range.mpr hi)
    simpa [Array.getElem?_eq_getElem hi] using q
  obtain ⟨i0, ei0⟩ := is_v g3
  obtain rfl : w0 = (.int i0) := Option.some.inj ei0
  obtain ⟨i1, ei1⟩ := is_v g5
  obtain rfl : w1 = (.int i1) := Option.some.inj ei1
  obtain ⟨i2, ei2⟩ := is_v g7
  obtain rfl : w2 = (.int i2) := Option.some.inj ei2
  obtain ⟨i3, ei3⟩ := is_v g9
  obtain rfl : w3 = (.int i3) := Option.some.inj ei3
  obtain ⟨i4, ei4⟩ := is_v g10
  obtain rfl : w4 = (.int i4) := Option.some.inj ei4
  obtain ⟨n, o, h1, h2, h3, _, L, rfl, ⟨rfl, N⟩, hq⟩ := own_rm0 l s _ hw tables_1 i0 i1 i2 i3 i4 s.heap s.heap.size (Nat.le_refl _) p e ha hc hk s m _ below hf ((Spec.applies_iff_loose hf).mp happ).1 ⟨rfl, State.Warmed39.refl s, rfl⟩ trivial
  refine ⟨n, _, h1, h2, h3, hpost _ _ _ _ _ _ ⟨Cond.after_iff.mpr rfl, Cond.after_iff.mpr (eq_i res_at (Term.int_eval (1)) rfl), trivial⟩ ⟨hq.1, hq.2.1, (hq.2.2.sift fun y hy => Or.inr (N y hy)).mono (by decide) (by decide)⟩⟩
theorem main_1_1 : Claimed_1_1 := own_comes fun _ _ _ _ _ _ h hF => ⟨h.1, hF⟩
theorem main_1_2 : Claimed_1_2 := own_comes fun _ _ _ _ _ _ h hF => ⟨h.2.1, hF⟩
end Jvm.Pilot.@@N@@
namespace Jvm.Pilot.@@N@@
open Jvm Jvm.ClassFile Sem Op Lib Jvm.Free Jvm.Stand Jvm.Pilot.@@N@@.Jvm.D
/-! MADE BY PROGRAM (witnessworld.py) out of the Statement's table words and the real class files: 9 classes; the members and pool entries that the words name. The judged class is class 1, her method 3. -/
namespace start1
open Jvm.ClassFile
def u (s : String) : CpInfo := .utf8 (stringToUtf16 s)
/-- a pool by its gaps: so many unusable entries, then the entry; so many at the end -/
def gap : Nat → List CpInfo → List CpInfo
  | 0, r => r
  | n + 1, r => .unusable :: gap n r
def poolList (es : List (Nat × CpInfo)) (last : Nat) : List CpInfo := es.foldr (fun e r => gap e.1 (e.2 :: r)) (gap last [])
def pool (es : List (Nat × CpInfo)) (last : Nat) : Array CpInfo := ⟨poolList es last⟩
def fileOf (pool : Array CpInfo) (this : Nat) (attrs : Array Attribute := #[]) (ms : Array MethodInfo := #[]) (fl : Nat := 33) (sup : Nat := 0) (ifs : Array Nat := #[]) (fds : Array FieldInfo := #[]) : ClassFile where
  minorVersion := 0
  majorVersion := 65
  constantPool := pool
  accessFlags := fl
  thisClass := this
  superClass := sup
  interfaces := ifs
  fields := fds
  methods := ms
  attributes := attrs
def plain (name : String) (sup : Option ClassId) : Class where
  name := name
  kind := .ordinary
  loader := none
  accessFlags := 33
  super := sup
  interfaces := #[]
  cf := none
  fields := #[]
  methods := #[]
  instanceTypes := #[]
  staticTypes := #[]
  resolved := #[]
  callSites := []
  init := .initialized
  statics := none
  mirror := none

def pool0 : Array CpInfo := pool [(5, u "<init>"), (0, u "()V"), (1, .class_ 10), (1, u "java/lang/Object")] 113

def k0m0 : Method := { name := "<init>", desc := "()V", sig := { parameters := [], returnType := none }, accessFlags := 1, code := none }
/-- java/lang/Object -/
def k0 : Class := { plain "java/lang/Object" none with
  accessFlags := 33
  interfaces := #[]
  cf := some (fileOf pool0 8 #[] #[{ accessFlags := 1, nameIndex := 5, descriptorIndex := 6, attributes := #[] }] 33 0 #[] #[])
  fields := #[]
  methods := #[k0m0]
  instanceTypes := #[]
  staticTypes := #[]
  resolved := Array.replicate 124 none
  statics := none }

def pool1 : Array CpInfo := pool [(2, .class_ 4), (1, u "java/lang/Object"), (0, u "<init>"), (0, u "()V"), (0, .methodref 8 9), (0, .class_ 10), (0, .nameAndType 11 12), (0, u "com/example/skewcube/skewcube/AccumulatorReorderedPinLaw"), (0, u "makeOrder"), (0, u "(IIIII)[I"), (0, .interfaceMethodref 14 15), (0, .class_ 16), (0, .nameAndType 17 18), (0, u "com/example/skewcube/skewcube/Accumulator"), (0, u "reordered"), (0, u "([I[I)[I"), (0, .methodref 8 20), (0, .nameAndType 21 22), (0, u "pick"), (0, u "(IIIII)I"), (3, u "law"), (0, u "(IIIII)Z")] 4

def k1m0 : Method := { name := "<init>", desc := "()V", sig := { parameters := [], returnType := none }, accessFlags := 1, code := none }
def k1c1 : Code := { maxStack := 4, maxLocals := 5, code := method_2_code, exceptionTable := #[], attributes := #[] }
def k1m1 : Method := { name := "makeOrder", desc := "(IIIII)[I", sig := { parameters := [.int, .int, .int, .int, .int], returnType := some (.array .int) }, accessFlags := 10, code := some k1c1 }
def k1c2 : Code := { maxStack := 2, maxLocals := 5, code := method_3_code, exceptionTable := #[], attributes := #[] }
def k1m2 : Method := { name := "pick", desc := "(IIIII)I", sig := { parameters := [.int, .int, .int, .int, .int], returnType := some .int }, accessFlags := 10, code := some k1c2 }
def k1c3 : Code := { maxStack := 6, maxLocals := 13, code := code, exceptionTable := #[], attributes := #[] }
def k1m3 : Method := { name := "law", desc := "(IIIII)Z", sig := { parameters := [.int, .int, .int, .int, .int], returnType := some .boolean }, accessFlags := 9, code := some k1c3 }
/-- com/example/skewcube/skewcube/AccumulatorReorderedPinLaw -/
def k1 : Class := { plain "com/example/skewcube/skewcube/AccumulatorReorderedPinLaw" (some 0) with
  accessFlags := 49
  interfaces := #[]
  cf := some (fileOf pool1 8 #[] #[{ accessFlags := 1, nameIndex := 5, descriptorIndex := 6, attributes := #[] }, { accessFlags := 10, nameIndex := 11, descriptorIndex := 12, attributes := #[] }, { accessFlags := 10, nameIndex := 21, descriptorIndex := 22, attributes := #[] }, { accessFlags := 9, nameIndex := 26, descriptorIndex := 27, attributes := #[] }] 49 2 #[] #[])
  fields := #[]
  methods := #[k1m0, k1m1, k1m2, k1m3]
  instanceTypes := #[]
  staticTypes := #[]
  resolved := Array.replicate 32 none
  statics := none }

def pool2 : Array CpInfo := pool [(1, .class_ 2), (0, u "com/example/skewcube/skewcube/Accumulator"), (0, .class_ 4), (0, u "java/lang/Object"), (14, u "reordered"), (0, u "([I[I)[I")] 8

def k2c0 : Code := { maxStack := 5, maxLocals := 4, code := prog_1_method_8_code, exceptionTable := #[], attributes := #[] }
def k2m0 : Method := { name := "reordered", desc := "([I[I)[I", sig := { parameters := [(.array .int), (.array .int)], returnType := some (.array .int) }, accessFlags := 9, code := some k2c0 }
/-- com/example/skewcube/skewcube/Accumulator -/
def k2 : Class := { plain "com/example/skewcube/skewcube/Accumulator" (some 0) with
  accessFlags := 1536
  interfaces := #[]
  cf := some (fileOf pool2 1 #[] #[{ accessFlags := 9, nameIndex := 19, descriptorIndex := 20, attributes := #[] }] 1536 3 #[] #[])
  fields := #[]
  methods := #[k2m0]
  instanceTypes := #[]
  staticTypes := #[]
  resolved := Array.replicate 29 none
  statics := none }

def pool3 : Array CpInfo := pool [(1, u "java/lang/Cloneable"), (0, .class_ 1), (0, u "java/lang/Object"), (0, .class_ 3)] 3

/-- java/lang/Cloneable -/
def k3 : Class := { plain "java/lang/Cloneable" (some 0) with
  accessFlags := 1537
  interfaces := #[]
  cf := some (fileOf pool3 2 #[] #[] 1537 4 #[] #[])
  fields := #[]
  methods := #[]
  instanceTypes := #[]
  staticTypes := #[]
  resolved := Array.replicate 8 none
  statics := none }

def pool4 : Array CpInfo := pool [(1, u "java/io/Serializable"), (0, .class_ 1), (0, u "java/lang/Object"), (0, .class_ 3)] 3

/-- java/io/Serializable -/
def k4 : Class := { plain "java/io/Serializable" (some 0) with
  accessFlags := 1537
  interfaces := #[]
  cf := some (fileOf pool4 2 #[] #[] 1537 4 #[] #[])
  fields := #[]
  methods := #[]
  instanceTypes := #[]
  staticTypes := #[]
  resolved := Array.replicate 8 none
  statics := none }

/-- the primitive byte -/
def k5 : Class := { plain "byte" none with kind := .primitive 'B', accessFlags := 0x411 }
/-- [B -/
def k6 : Class := { plain "[B" (some 0) with kind := .array 5 .byte, interfaces := #[3, 4], accessFlags := 1041 }

/-- the primitive int -/
def k7 : Class := { plain "int" none with kind := .primitive 'I', accessFlags := 0x411 }
/-- [I -/
def k8 : Class := { plain "[I" (some 0) with kind := .array 7 .int, interfaces := #[3, 4], accessFlags := 1041 }

def heap : Heap := #[]
def classes : Array Class := #[k0, k1, k2, k3, k4, k5, k6, k7, k8]
def interned : List (Array UInt16 × Addr) := []
def slotsUsed : Nat := 0
def theMethod : MethodId := ⟨1, 3⟩
def args0 : Array Value := #[.int 5, .int 5, .int 5, .int 5, .int 5]
def aboutOver (below : List Frame) : State where
  vm := { classes := classes, interned := interned.toArray }
  heap := heap
  slotsUsed := slotsUsed
  threads := #[{ frames := .invoking theMethod args0 :: below }]
def below0 : List Frame := [.native { method := ⟨0, 0⟩, args := #[] }]
def about1 : State := aboutOver below0
def p0 : Program := .bare "" "" ""
def e0 : Env := launch0.env 0 0 0
theorem w_frames : about1.frames = Frame.invoking theMethod args0 :: below0 := rfl
set_option maxRecDepth 65536 in
theorem w_args : argsFit about1.vm theMethod args0 = true := by decide +kernel
set_option maxRecDepth 65536 in
theorem w_heap : heapFits about1 = true := by decide +kernel
set_option maxRecDepth 65536 in
theorem w_runnable : about1.curStatus? = some .runnable := by decide +kernel
set_option maxRecDepth 65536 in
theorem w_alone : about1.alone = true := by decide +kernel
set_option maxRecDepth 65536 in
theorem w_named : about1.methodNamed? x = some theMethod := by decide +kernel
set_option maxRecDepth 65536 in
theorem w_hears : about1.hears theMethod below0 = true := by decide +kernel
set_option maxRecDepth 65536 in
theorem w_ripe : about1.ripe theMethod args0 below0 = true := by decide +kernel
theorem w_running : about1.status = .running := rfl
set_option maxRecDepth 65536 in
theorem w_room : about1.hasRoom e0.platform room_1 = true :=
  launch0.hasRoom_least _ room_1 (by decide +kernel) (by decide +kernel) (by decide +kernel) (by decide +kernel) (by decide +kernel) (by decide +kernel)
theorem allAtoms_all (ts : List Jvm.Cond) (a : Array Jvm.Value) (st : Jvm.State) : (allAtoms ts).before a st = ts.all (fun c => c.before a st) := by
  induction ts with
  | nil => rfl
  | cons c t ih =>
    show (Jvm.Cond.and c (allAtoms t)).before a st = _
    rw [Jvm.Cond.before_and, ih, List.all_cons]
def words1 : List Jvm.Cond := Jvm.Cond.code x code maxLocals ret :: tables_1
/-- a 'code' word, met by the world's own term for the bytes: nothing is compared byte by byte -/
theorem code_word {y : MethodName} {bytes : ByteArray} {mx : Nat} {rt : Option FieldType} {a : Array Value} {s : State} {m : MethodId} {meth : Method} {c : Code} (h1 : s.methodNamed? y = some m) (h2 : s.vm.method? m = some meth) (h3 : meth.code = some c) (h4 : c.code = bytes)
    (h5 : (c.maxLocals == mx && c.exceptionTable.isEmpty && decide (c.maxStack ≤ mostOperands) && decide (meth.sig.returnType = rt) && !meth.locks && decide (parseMethodDescriptor y.desc = some meth.sig)) = true) : (Jvm.Cond.code y bytes mx rt).before a s = true := by
  simp only [Bool.and_eq_true, beq_iff_eq, Bool.not_eq_true', decide_eq_true_eq] at h5
  obtain ⟨⟨⟨⟨⟨g1, g2⟩, g3⟩, g4⟩, g5⟩, g6⟩ := h5
  simp [Cond.before, Cond.holds, Cond.value, h1, h2, h3, h4, g1, g2, g3, g4, g5, g6]
def isCode : Jvm.Cond → Bool
  | .code _ _ _ _ => true
  | _ => false
theorem all_split {L : List Jvm.Cond} {P : Jvm.Cond → Bool} (h1 : L.all (fun c => isCode c || P c) = true) (h2 : ∀ c ∈ L.filter isCode, P c = true) : L.all P = true := by
  refine List.all_eq_true.mpr fun c hc => ?_
  have h := List.all_eq_true.mp h1 c hc
  rcases Bool.eq_false_or_eq_true (isCode c) with hi | hi
  · exact h2 c (List.mem_filter.mpr ⟨hc, hi⟩)
  · simpa [hi] using h
set_option maxRecDepth 65536 in
theorem w_c0 : (Jvm.Cond.code x code maxLocals ret).before args0 about1 = true := code_word (m := ⟨1, 3⟩) (meth := k1m3) (c := k1c3) (by decide +kernel) rfl rfl rfl (by decide +kernel)
set_option maxRecDepth 65536 in
theorem w_c1 : (Jvm.Cond.code ({ cls := "com/example/skewcube/skewcube/AccumulatorReorderedPinLaw", name := "makeOrder", desc := "(IIIII)[I" } : Jvm.MethodName) method_2_code (5 : Nat) (Option.some (Jvm.ClassFile.FieldType.array Jvm.ClassFile.FieldType.int))).before args0 about1 = true := code_word (m := ⟨1, 1⟩) (meth := k1m1) (c := k1c1) (by decide +kernel) rfl rfl rfl (by decide +kernel)
set_option maxRecDepth 65536 in
theorem w_c2 : (Jvm.Cond.code ({ cls := "com/example/skewcube/skewcube/Accumulator", name := "reordered", desc := "([I[I)[I" } : Jvm.MethodName) prog_1_method_8_code (4 : Nat) (Option.some (Jvm.ClassFile.FieldType.array Jvm.ClassFile.FieldType.int))).before args0 about1 = true := code_word (m := ⟨2, 0⟩) (meth := k2m0) (c := k2c0) (by decide +kernel) rfl rfl rfl (by decide +kernel)
set_option maxRecDepth 65536 in
theorem w_c3 : (Jvm.Cond.code ({ cls := "com/example/skewcube/skewcube/AccumulatorReorderedPinLaw", name := "pick", desc := "(IIIII)I" } : Jvm.MethodName) method_3_code (5 : Nat) (Option.some Jvm.ClassFile.FieldType.int)).before args0 about1 = true := code_word (m := ⟨1, 2⟩) (meth := k1m2) (c := k1c2) (by decide +kernel) rfl rfl rfl (by decide +kernel)
def codes1 : List Jvm.Cond := [Jvm.Cond.code x code maxLocals ret, Jvm.Cond.code ({ cls := "com/example/skewcube/skewcube/AccumulatorReorderedPinLaw", name := "makeOrder", desc := "(IIIII)[I" } : Jvm.MethodName) method_2_code (5 : Nat) (Option.some (Jvm.ClassFile.FieldType.array Jvm.ClassFile.FieldType.int)), Jvm.Cond.code ({ cls := "com/example/skewcube/skewcube/Accumulator", name := "reordered", desc := "([I[I)[I" } : Jvm.MethodName) prog_1_method_8_code (4 : Nat) (Option.some (Jvm.ClassFile.FieldType.array Jvm.ClassFile.FieldType.int)), Jvm.Cond.code ({ cls := "com/example/skewcube/skewcube/AccumulatorReorderedPinLaw", name := "pick", desc := "(IIIII)I" } : Jvm.MethodName) method_3_code (5 : Nat) (Option.some Jvm.ClassFile.FieldType.int)]
set_option maxRecDepth 65536 in
theorem codes_eq : words1.filter isCode = codes1 := rfl
theorem w_codes : ∀ c ∈ words1.filter isCode, c.before args0 about1 = true := by
  rw [codes_eq]
  intro c hc
  simp only [codes1, List.mem_cons, List.not_mem_nil, or_false] at hc
  rcases hc with rfl | rfl | rfl | rfl
  · exact w_c0
  · exact w_c1
  · exact w_c2
  · exact w_c3
set_option maxRecDepth 65536 in
theorem w_t1 : words1.all (fun c => isCode c || c.before args0 about1) = true := by decide +kernel
theorem w_tables : (allAtoms (Jvm.Cond.code x code maxLocals ret :: tables_1)).before args0 about1 = true := by
  rw [allAtoms_all]
  show words1.all (fun c => c.before args0 about1) = true
  refine all_split ?_ w_codes
  rw [w_t1]
set_option maxRecDepth 65536 in
theorem w_case : (Jvm.Cond.and given_1 narrow_1).before args0 about1 = true := by decide +kernel
theorem w_applies : (headSpec (Jvm.Cond.code x code maxLocals ret :: tables_1) room_1).applies x e0.platform about1 = true :=
  (Spec.applies_iff w_frames).mpr ⟨w_running, w_runnable, w_alone, w_named, w_hears, w_ripe, w_room, w_tables⟩
theorem atStart : AtStart classFile x code maxLocals ret World_1 tables_1 room_1 Calls_1 rest_1 Pre_1 launch0 p0 e0 about1 theMethod args0 below0 :=
  ⟨lists_1, trivial, launch0.admits_env _ _ _, launch0.least_env, fairChoices_fair.cas, fairChoices_fair.clock, w_frames, w_args, w_heap, w_applies, trivial, trivial, w_case⟩
end start1
theorem witness_1 : WitnessClaimed_1 := ⟨start1.p0, start1.e0, start1.about1, start1.theMethod, start1.args0, start1.below0, start1.atStart⟩
end Jvm.Pilot.@@N@@
