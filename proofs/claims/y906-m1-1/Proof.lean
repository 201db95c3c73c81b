import JvmDerived
import JvmDerived.Pilot.@@N@@Statement
import JvmDerived.Pilot.@@N@@Code
set_option linter.unusedVariables false
set_option linter.unusedSimpArgs false
namespace Jvm.RoadKit
open Sem ClassFile Op Lib Jvm.Stand Jvm.Free Jvm.LawKit
section New
variable {p : Program} {l : Launch} {e : Env} {R : Room} {s : State} {m : MethodId} {args : Array Value} {below : List Frame} {meth : Method} {c : Code} {T : State} {locs : List Loc} {cells slots : Nat}
theorem retI (X : Stand p l e R s m args below meth c T locs cells slots) (hx : p.tables.exec = Jvm.exec) {pc : Nat} {Ls : Array Slot} {z : Int32} {rest : List Value} (hret : meth.sig.returnType = some .int) (hd : decode c.code pc = .ok (.ireturn, 1)) {fs : List Frame}
    (hl : ∀ (f : JFrame) (acts : List Action), f.method = m → f.locked = none → f.entered = [] → (doReturn e (T.setTop f) acts (some (.int z))).1 = T.setFrames fs) : Steps p.tables e below (T.setTop (mkF m pc Ls (.int z :: rest))) (T.setFrames fs) := by
  have hm' : T.vm.method? m = some meth := X.method'
  have hn : narrow .int (.int z) = .int z := rfl
  show Steps p.tables e below (T.setTop { method := m, pc := pc, locals := Ls, stack := _ :: rest, locked := none }) _
  jvm_step X.here [X.here.top, hx, hd, hm', hret, hn]
  first | (intro acts; rw [hl _ acts rfl rfl rfl]) | rw [hl _ _ rfl rfl rfl]
  exact Steps.refl _
end New
end Jvm.RoadKit
namespace Jvm.Pilot.@@N@@
open Jvm Jvm.ClassFile Sem Op Lib Jvm.Free Jvm.Stand Jvm.LawKit Jvm.RoadKit Bundle Jvm.Pilot.@@N@@.Jvm.D
section Own
variable {p : Program} {l : Launch} {e : Env} {R : Room} {s : State} {m : MethodId} {args : Array Value} {below : List Frame} {meth : Method} {c : Code} {T T' : State} {locs : List Loc} {cells slots : Nat} {Q : Option Value → Heap → List Loc → Prop} {kc ks : Nat} {pc pc' : Nat} {ls : Array Slot} {st : List Value}
/-- from T with the frame g on top the run comes to its end, as Q asks -/
def own_Ends (p : Program) (e : Env) (below : List Frame) (s : State) (Q : Option Value → Heap → List Loc → Prop) (kc ks : Nat) (T : State) (g : JFrame) : Prop :=
  ∃ s₂ o, Steps p.tables e below (T.setTop g) s₂ ∧ s₂.status = .running ∧ Ended s₂ below o ∧ ∃ v L, o = .returned v ∧ Q v s₂.heap L ∧ FrameEnd s o s₂ L kc ks
theorem own_go {g g' : JFrame} (h : ∀ t, Steps p.tables e below (T'.setTop g') t → Steps p.tables e below (T.setTop g) t) (K : own_Ends p e below s Q kc ks T' g') : own_Ends p e below s Q kc ks T g := by
  obtain ⟨s2, o, h1, r⟩ := K
  exact ⟨s2, o, h _ h1, r⟩
theorem own_cast {g g' : JFrame} (q : g = g') (K : own_Ends p e below s Q kc ks T g') : own_Ends p e below s Q kc ks T g := q ▸ K
theorem own_leave {v : Option Value} {g : JFrame} (X : Stand p l e R s m args below meth c T locs cells slots) (hlk : meth.locks = false) (hv : meth.sig.returnType = none → v = none)
    (hs : ∀ fs, (∀ (f : JFrame) (acts : List Action), f.method = m → f.locked = none → f.entered = [] → (doReturn e (T.setTop f) acts v).1 = T.setFrames fs) → Steps p.tables e below (T.setTop g) (T.setFrames fs)) (hc : cells ≤ kc) (hn : slots ≤ ks) (hQ : Q v T.heap locs) : own_Ends p e below s Q kc ks T g := by
  obtain ⟨fs, hr, hrun, hended, hW, hsame⟩ := X.leave (v := v) hv hlk
  exact ⟨_, _, hs fs hr, hrun, hended, _, _, rfl, hQ, ⟨_, rfl⟩, hW, hsame.mono hc hn⟩
theorem own_retI (X : Stand p l e R s m args below meth c T locs cells slots) (hx : p.tables.exec = Jvm.exec) (hlk : meth.locks = false) {z : Int32} (hret : meth.sig.returnType = some .int) (hd : decode c.code pc = .ok (.ireturn, 1)) (hc : cells ≤ kc) (hn : slots ≤ ks) (hQ : Q (some (.int z)) T.heap locs) : own_Ends p e below s Q kc ks T (mkF m pc ls (.int z :: st)) :=
  own_leave X hlk (fun h => by rw [hret] at h; cases h) (fun fs hr => retI X hx hret hd hr) hc hn hQ
theorem own_retN (X : Stand p l e R s m args below meth c T locs cells slots) (hx : p.tables.exec = Jvm.exec) (hlk : meth.locks = false) {z : Int32} {ty : FieldType} (hret : meth.sig.returnType = some ty) (ht : ty = .boolean ∨ ty = .byte ∨ ty = .char ∨ ty = .short) (hd : decode c.code pc = .ok (.ireturn, 1)) (hc : cells ≤ kc) (hn : slots ≤ ks) (hQ : Q (some (.int (nar ty z))) T.heap locs) : own_Ends p e below s Q kc ks T (mkF m pc ls (.int z :: st)) :=
  own_leave X hlk (fun h => by rw [hret] at h; cases h) (fun fs hr => retN X hx (t := ty) hret ht hd hr) hc hn hQ
theorem own_retL (X : Stand p l e R s m args below meth c T locs cells slots) (hx : p.tables.exec = Jvm.exec) (hlk : meth.locks = false) {z : Int64} (hret : meth.sig.returnType = some .long) (hd : decode c.code pc = .ok (.lreturn, 1)) (hc : cells ≤ kc) (hn : slots ≤ ks) (hQ : Q (some (.long z)) T.heap locs) : own_Ends p e below s Q kc ks T (mkF m pc ls [.long z]) :=
  own_leave X hlk (fun h => by rw [hret] at h; cases h) (fun fs hr => retOut X hx (t := .long) hret rfl (Or.inr (Or.inl ⟨rfl, rfl, _, rfl⟩)) hd hr) hc hn hQ
theorem own_retD (X : Stand p l e R s m args below meth c T locs cells slots) (hx : p.tables.exec = Jvm.exec) (hlk : meth.locks = false) {z : UInt64} (hret : meth.sig.returnType = some .double) (hd : decode c.code pc = .ok (.dreturn, 1)) (hc : cells ≤ kc) (hn : slots ≤ ks) (hQ : Q (some (.double z)) T.heap locs) : own_Ends p e below s Q kc ks T (mkF m pc ls [.double z]) :=
  own_leave X hlk (fun h => by rw [hret] at h; cases h) (fun fs hr => retOut X hx (t := .double) hret rfl (Or.inr (Or.inr (Or.inl ⟨rfl, rfl, _, rfl⟩))) hd hr) hc hn hQ
theorem own_retA (X : Stand p l e R s m args below meth c T locs cells slots) (hx : p.tables.exec = Jvm.exec) (hlk : meth.locks = false) {w : Value} {ty : FieldType} (hret : meth.sig.returnType = some ty) (ht : ty.isReference = true) (hw : w.isRef = true) (hn1 : narrow ty w = w) (hd : decode c.code pc = .ok (.areturn, 1)) (hc : cells ≤ kc) (hn : slots ≤ ks) (hQ : Q (some w) T.heap locs) : own_Ends p e below s Q kc ks T (mkF m pc ls (w :: st)) :=
  own_leave X hlk (fun h => by rw [hret] at h; cases h) (fun fs hr => retOut X hx (t := ty) hret hn1 (Or.inr (Or.inr (Or.inr (Or.inr ⟨rfl, ht, hw⟩)))) hd hr) hc hn hQ
theorem own_retV (X : Stand p l e R s m args below meth c T locs cells slots) (hx : p.tables.exec = Jvm.exec) (hlk : meth.locks = false) (hret : meth.sig.returnType = none) (hd : decode c.code pc = .ok (.return_, 1)) (hc : cells ≤ kc) (hn : slots ≤ ks) (hQ : Q none T.heap locs) : own_Ends p e below s Q kc ks T (mkF m pc ls []) :=
  own_leave X hlk (fun _ => rfl) (fun fs hr => X.returnOut hx hret hd hr) hc hn hQ
theorem own_iloadN (X : Stand p l e R s m args below meth c T locs cells slots) (hx : p.tables.exec = Jvm.exec) {k : Fin 4} {v : Int32} (hd : decode c.code pc = .ok (.iload_n k, 1)) (hp : pc + 1 = pc') (hl : ls[k.val]? = some (.val (.int v))) (K : own_Ends p e below s Q kc ks T (mkF m pc' ls (.int v :: st))) : own_Ends p e below s Q kc ks T (mkF m pc ls st) := by
  subst hp
  exact own_go (fun t k => XS.iloadN X.here hx rfl hd hl k) K
theorem own_iload (X : Stand p l e R s m args below meth c T locs cells slots) (hx : p.tables.exec = Jvm.exec) {k : Nat} {v : Int32} (hd : decode c.code pc = .ok (.iload k, 2)) (hp : pc + 2 = pc') (hl : ls[k]? = some (.val (.int v))) (K : own_Ends p e below s Q kc ks T (mkF m pc' ls (.int v :: st))) : own_Ends p e below s Q kc ks T (mkF m pc ls st) := by
  subst hp
  exact own_go (fun t k => XS.iload X.here hx rfl hd hl k) K
theorem own_istoreN (X : Stand p l e R s m args below meth c T locs cells slots) (hx : p.tables.exec = Jvm.exec) {k : Fin 4} {v : Int32} {l' : Array Slot} (hd : decode c.code pc = .ok (.istore_n k, 1)) (hp : pc + 1 = pc') (hl : storeLocals ls k.val (.int v) = some l') (K : own_Ends p e below s Q kc ks T (mkF m pc' l' st)) : own_Ends p e below s Q kc ks T (mkF m pc ls (.int v :: st)) := by
  subst hp
  exact own_go (fun t k => XS.istoreN X.here hx rfl hd rfl hl k) K
theorem own_istore (X : Stand p l e R s m args below meth c T locs cells slots) (hx : p.tables.exec = Jvm.exec) {k : Nat} {v : Int32} {l' : Array Slot} (hd : decode c.code pc = .ok (.istore k, 2)) (hp : pc + 2 = pc') (hl : storeLocals ls k (.int v) = some l') (K : own_Ends p e below s Q kc ks T (mkF m pc' l' st)) : own_Ends p e below s Q kc ks T (mkF m pc ls (.int v :: st)) := by
  subst hp
  exact own_go (fun t k => XS.istore X.here hx rfl hd rfl hl k) K
theorem own_lloadN (X : Stand p l e R s m args below meth c T locs cells slots) (hx : p.tables.exec = Jvm.exec) {k : Fin 4} {v : Int64} (hd : decode c.code pc = .ok (.lload_n k, 1)) (hp : pc + 1 = pc') (hl : ls[k.val]? = some (.val (.long v))) (K : own_Ends p e below s Q kc ks T (mkF m pc' ls (.long v :: st))) : own_Ends p e below s Q kc ks T (mkF m pc ls st) := by
  subst hp
  exact own_go (fun t k => XS.lloadN X.here hx rfl hd hl k) K
theorem own_lload (X : Stand p l e R s m args below meth c T locs cells slots) (hx : p.tables.exec = Jvm.exec) {k : Nat} {v : Int64} (hd : decode c.code pc = .ok (.lload k, 2)) (hp : pc + 2 = pc') (hl : ls[k]? = some (.val (.long v))) (K : own_Ends p e below s Q kc ks T (mkF m pc' ls (.long v :: st))) : own_Ends p e below s Q kc ks T (mkF m pc ls st) := by
  subst hp
  exact own_go (fun t k => XS.lload X.here hx rfl hd hl k) K
theorem own_lstoreN (X : Stand p l e R s m args below meth c T locs cells slots) (hx : p.tables.exec = Jvm.exec) {k : Fin 4} {v : Int64} {l' : Array Slot} (hd : decode c.code pc = .ok (.lstore_n k, 1)) (hp : pc + 1 = pc') (hl : storeLocals ls k.val (.long v) = some l') (K : own_Ends p e below s Q kc ks T (mkF m pc' l' st)) : own_Ends p e below s Q kc ks T (mkF m pc ls (.long v :: st)) := by
  subst hp
  exact own_go (fun t k => XS.lstoreN X.here hx rfl hd rfl hl k) K
theorem own_lstore (X : Stand p l e R s m args below meth c T locs cells slots) (hx : p.tables.exec = Jvm.exec) {k : Nat} {v : Int64} {l' : Array Slot} (hd : decode c.code pc = .ok (.lstore k, 2)) (hp : pc + 2 = pc') (hl : storeLocals ls k (.long v) = some l') (K : own_Ends p e below s Q kc ks T (mkF m pc' l' st)) : own_Ends p e below s Q kc ks T (mkF m pc ls (.long v :: st)) := by
  subst hp
  exact own_go (fun t k => XS.lstore X.here hx rfl hd rfl hl k) K
theorem own_dloadN (X : Stand p l e R s m args below meth c T locs cells slots) (hx : p.tables.exec = Jvm.exec) {k : Fin 4} {v : UInt64} (hd : decode c.code pc = .ok (.dload_n k, 1)) (hp : pc + 1 = pc') (hl : ls[k.val]? = some (.val (.double v))) (K : own_Ends p e below s Q kc ks T (mkF m pc' ls (.double v :: st))) : own_Ends p e below s Q kc ks T (mkF m pc ls st) := by
  subst hp
  exact own_go (fun t k => XS.dloadN X.here hx rfl hd hl k) K
theorem own_dload (X : Stand p l e R s m args below meth c T locs cells slots) (hx : p.tables.exec = Jvm.exec) {k : Nat} {v : UInt64} (hd : decode c.code pc = .ok (.dload k, 2)) (hp : pc + 2 = pc') (hl : ls[k]? = some (.val (.double v))) (K : own_Ends p e below s Q kc ks T (mkF m pc' ls (.double v :: st))) : own_Ends p e below s Q kc ks T (mkF m pc ls st) := by
  subst hp
  exact own_go (fun t k => XS.dload X.here hx rfl hd hl k) K
theorem own_dstoreN (X : Stand p l e R s m args below meth c T locs cells slots) (hx : p.tables.exec = Jvm.exec) {k : Fin 4} {v : UInt64} {l' : Array Slot} (hd : decode c.code pc = .ok (.dstore_n k, 1)) (hp : pc + 1 = pc') (hl : storeLocals ls k.val (.double v) = some l') (K : own_Ends p e below s Q kc ks T (mkF m pc' l' st)) : own_Ends p e below s Q kc ks T (mkF m pc ls (.double v :: st)) := by
  subst hp
  exact own_go (fun t k => XS.dstoreN X.here hx rfl hd rfl hl k) K
theorem own_dstore (X : Stand p l e R s m args below meth c T locs cells slots) (hx : p.tables.exec = Jvm.exec) {k : Nat} {v : UInt64} {l' : Array Slot} (hd : decode c.code pc = .ok (.dstore k, 2)) (hp : pc + 2 = pc') (hl : storeLocals ls k (.double v) = some l') (K : own_Ends p e below s Q kc ks T (mkF m pc' l' st)) : own_Ends p e below s Q kc ks T (mkF m pc ls (.double v :: st)) := by
  subst hp
  exact own_go (fun t k => XS.dstore X.here hx rfl hd rfl hl k) K
theorem own_aloadN (X : Stand p l e R s m args below meth c T locs cells slots) (hx : p.tables.exec = Jvm.exec) {k : Fin 4} {v : Value} (hd : decode c.code pc = .ok (.aload_n k, 1)) (hp : pc + 1 = pc') (hl : ls[k.val]? = some (.val v)) (hv : v.isRef = true) (K : own_Ends p e below s Q kc ks T (mkF m pc' ls (v :: st))) : own_Ends p e below s Q kc ks T (mkF m pc ls st) := by
  subst hp
  exact own_go (fun t k => XS.aloadN X.here hx rfl hd hl hv k) K
theorem own_aload (X : Stand p l e R s m args below meth c T locs cells slots) (hx : p.tables.exec = Jvm.exec) {k : Nat} {v : Value} (hd : decode c.code pc = .ok (.aload k, 2)) (hp : pc + 2 = pc') (hl : ls[k]? = some (.val v)) (hv : v.isRef = true) (K : own_Ends p e below s Q kc ks T (mkF m pc' ls (v :: st))) : own_Ends p e below s Q kc ks T (mkF m pc ls st) := by
  subst hp
  exact own_go (fun t k => XS.aload X.here hx rfl hd hl hv k) K
theorem own_astoreN (X : Stand p l e R s m args below meth c T locs cells slots) (hx : p.tables.exec = Jvm.exec) {k : Fin 4} {v : Value} {l' : Array Slot} (hd : decode c.code pc = .ok (.astore_n k, 1)) (hp : pc + 1 = pc') (hv : v.isRef = true) (hl : storeLocals ls k.val v = some l') (K : own_Ends p e below s Q kc ks T (mkF m pc' l' st)) : own_Ends p e below s Q kc ks T (mkF m pc ls (v :: st)) := by
  subst hp
  exact own_go (fun t k => XS.astoreN X.here hx rfl hd rfl hv hl k) K
theorem own_astore (X : Stand p l e R s m args below meth c T locs cells slots) (hx : p.tables.exec = Jvm.exec) {k : Nat} {v : Value} {l' : Array Slot} (hd : decode c.code pc = .ok (.astore k, 2)) (hp : pc + 2 = pc') (hv : v.isRef = true) (hl : storeLocals ls k v = some l') (K : own_Ends p e below s Q kc ks T (mkF m pc' l' st)) : own_Ends p e below s Q kc ks T (mkF m pc ls (v :: st)) := by
  subst hp
  exact own_go (fun t k => XS.astore X.here hx rfl hd rfl hv hl k) K
theorem own_iconst (X : Stand p l e R s m args below meth c T locs cells slots) (hx : p.tables.exec = Jvm.exec) {i : Int} {z : Int32} (hd : decode c.code pc = .ok (.iconst i, 1)) (hp : pc + 1 = pc') (hz : Int32.ofInt i = z) (K : own_Ends p e below s Q kc ks T (mkF m pc' ls (.int z :: st))) : own_Ends p e below s Q kc ks T (mkF m pc ls st) := by
  subst hp hz
  exact own_go (fun t k => XS.iconst X.here hx rfl hd k) K
theorem own_bipush (X : Stand p l e R s m args below meth c T locs cells slots) (hx : p.tables.exec = Jvm.exec) {i : Int} {z : Int32} (hd : decode c.code pc = .ok (.bipush i, 2)) (hp : pc + 2 = pc') (hz : (Int8.ofInt i).toInt32 = z) (K : own_Ends p e below s Q kc ks T (mkF m pc' ls (.int z :: st))) : own_Ends p e below s Q kc ks T (mkF m pc ls st) := by
  subst hp hz
  exact own_go (fun t k => XS.bipush X.here hx rfl hd k) K
theorem own_sipush (X : Stand p l e R s m args below meth c T locs cells slots) (hx : p.tables.exec = Jvm.exec) {i : Int} {z : Int32} (hd : decode c.code pc = .ok (.sipush i, 3)) (hp : pc + 3 = pc') (hz : (Int16.ofInt i).toInt32 = z) (K : own_Ends p e below s Q kc ks T (mkF m pc' ls (.int z :: st))) : own_Ends p e below s Q kc ks T (mkF m pc ls st) := by
  subst hp hz
  exact own_go (fun t k => XS.sipush X.here hx rfl hd k) K
theorem own_lconst (X : Stand p l e R s m args below meth c T locs cells slots) (hx : p.tables.exec = Jvm.exec) {k : Fin 2} {z : Int64} (hd : decode c.code pc = .ok (.lconst k, 1)) (hp : pc + 1 = pc') (hz : Int64.ofNat k = z) (K : own_Ends p e below s Q kc ks T (mkF m pc' ls (.long z :: st))) : own_Ends p e below s Q kc ks T (mkF m pc ls st) := by
  subst hp hz
  exact own_go (fun t k => XS.lconst X.here hx rfl hd k) K
theorem own_anull (X : Stand p l e R s m args below meth c T locs cells slots) (hx : p.tables.exec = Jvm.exec) (hd : decode c.code pc = .ok (.aconst_null, 1)) (hp : pc + 1 = pc')  (K : own_Ends p e below s Q kc ks T (mkF m pc' ls (.null :: st))) : own_Ends p e below s Q kc ks T (mkF m pc ls st) := by
  subst hp
  exact own_go (fun t k => XS.aconstNull X.here hx rfl hd k) K
theorem own_iadd (X : Stand p l e R s m args below meth c T locs cells slots) (hx : p.tables.exec = Jvm.exec) {x y z : Int32} (hd : decode c.code pc = .ok (.iadd, 1)) (hp : pc + 1 = pc') (hz : x + y = z) (K : own_Ends p e below s Q kc ks T (mkF m pc' ls (.int z :: st))) : own_Ends p e below s Q kc ks T (mkF m pc ls (.int y :: .int x :: st)) := by
  subst hp hz
  exact own_go (fun t k => XS.iadd X.here hx rfl hd rfl k) K
theorem own_ladd (X : Stand p l e R s m args below meth c T locs cells slots) (hx : p.tables.exec = Jvm.exec) {x y z : Int64} (hd : decode c.code pc = .ok (.ladd, 1)) (hp : pc + 1 = pc') (hz : x + y = z) (K : own_Ends p e below s Q kc ks T (mkF m pc' ls (.long z :: st))) : own_Ends p e below s Q kc ks T (mkF m pc ls (.long y :: .long x :: st)) := by
  subst hp hz
  exact own_go (fun t k => XS.ladd X.here hx rfl hd rfl k) K
theorem own_isub (X : Stand p l e R s m args below meth c T locs cells slots) (hx : p.tables.exec = Jvm.exec) {x y z : Int32} (hd : decode c.code pc = .ok (.isub, 1)) (hp : pc + 1 = pc') (hz : x - y = z) (K : own_Ends p e below s Q kc ks T (mkF m pc' ls (.int z :: st))) : own_Ends p e below s Q kc ks T (mkF m pc ls (.int y :: .int x :: st)) := by
  subst hp hz
  exact own_go (fun t k => XS.isub X.here hx rfl hd rfl k) K
theorem own_lsub (X : Stand p l e R s m args below meth c T locs cells slots) (hx : p.tables.exec = Jvm.exec) {x y z : Int64} (hd : decode c.code pc = .ok (.lsub, 1)) (hp : pc + 1 = pc') (hz : x - y = z) (K : own_Ends p e below s Q kc ks T (mkF m pc' ls (.long z :: st))) : own_Ends p e below s Q kc ks T (mkF m pc ls (.long y :: .long x :: st)) := by
  subst hp hz
  exact own_go (fun t k => XS.lsub X.here hx rfl hd rfl k) K
theorem own_imul (X : Stand p l e R s m args below meth c T locs cells slots) (hx : p.tables.exec = Jvm.exec) {x y z : Int32} (hd : decode c.code pc = .ok (.imul, 1)) (hp : pc + 1 = pc') (hz : x * y = z) (K : own_Ends p e below s Q kc ks T (mkF m pc' ls (.int z :: st))) : own_Ends p e below s Q kc ks T (mkF m pc ls (.int y :: .int x :: st)) := by
  subst hp hz
  exact own_go (fun t k => XS.imul X.here hx rfl hd rfl k) K
theorem own_lmul (X : Stand p l e R s m args below meth c T locs cells slots) (hx : p.tables.exec = Jvm.exec) {x y z : Int64} (hd : decode c.code pc = .ok (.lmul, 1)) (hp : pc + 1 = pc') (hz : x * y = z) (K : own_Ends p e below s Q kc ks T (mkF m pc' ls (.long z :: st))) : own_Ends p e below s Q kc ks T (mkF m pc ls (.long y :: .long x :: st)) := by
  subst hp hz
  exact own_go (fun t k => XS.lmul X.here hx rfl hd rfl k) K
theorem own_iand (X : Stand p l e R s m args below meth c T locs cells slots) (hx : p.tables.exec = Jvm.exec) {x y z : Int32} (hd : decode c.code pc = .ok (.iand, 1)) (hp : pc + 1 = pc') (hz : x &&& y = z) (K : own_Ends p e below s Q kc ks T (mkF m pc' ls (.int z :: st))) : own_Ends p e below s Q kc ks T (mkF m pc ls (.int y :: .int x :: st)) := by
  subst hp hz
  exact own_go (fun t k => XS.iand X.here hx rfl hd rfl k) K
theorem own_land (X : Stand p l e R s m args below meth c T locs cells slots) (hx : p.tables.exec = Jvm.exec) {x y z : Int64} (hd : decode c.code pc = .ok (.land, 1)) (hp : pc + 1 = pc') (hz : x &&& y = z) (K : own_Ends p e below s Q kc ks T (mkF m pc' ls (.long z :: st))) : own_Ends p e below s Q kc ks T (mkF m pc ls (.long y :: .long x :: st)) := by
  subst hp hz
  exact own_go (fun t k => XS.land X.here hx rfl hd rfl k) K
theorem own_ior (X : Stand p l e R s m args below meth c T locs cells slots) (hx : p.tables.exec = Jvm.exec) {x y z : Int32} (hd : decode c.code pc = .ok (.ior, 1)) (hp : pc + 1 = pc') (hz : x ||| y = z) (K : own_Ends p e below s Q kc ks T (mkF m pc' ls (.int z :: st))) : own_Ends p e below s Q kc ks T (mkF m pc ls (.int y :: .int x :: st)) := by
  subst hp hz
  exact own_go (fun t k => XS.ior X.here hx rfl hd rfl k) K
theorem own_lor (X : Stand p l e R s m args below meth c T locs cells slots) (hx : p.tables.exec = Jvm.exec) {x y z : Int64} (hd : decode c.code pc = .ok (.lor, 1)) (hp : pc + 1 = pc') (hz : x ||| y = z) (K : own_Ends p e below s Q kc ks T (mkF m pc' ls (.long z :: st))) : own_Ends p e below s Q kc ks T (mkF m pc ls (.long y :: .long x :: st)) := by
  subst hp hz
  exact own_go (fun t k => XS.lor X.here hx rfl hd rfl k) K
theorem own_ixor (X : Stand p l e R s m args below meth c T locs cells slots) (hx : p.tables.exec = Jvm.exec) {x y z : Int32} (hd : decode c.code pc = .ok (.ixor, 1)) (hp : pc + 1 = pc') (hz : x ^^^ y = z) (K : own_Ends p e below s Q kc ks T (mkF m pc' ls (.int z :: st))) : own_Ends p e below s Q kc ks T (mkF m pc ls (.int y :: .int x :: st)) := by
  subst hp hz
  exact own_go (fun t k => XS.ixor X.here hx rfl hd rfl k) K
theorem own_lxor (X : Stand p l e R s m args below meth c T locs cells slots) (hx : p.tables.exec = Jvm.exec) {x y z : Int64} (hd : decode c.code pc = .ok (.lxor, 1)) (hp : pc + 1 = pc') (hz : x ^^^ y = z) (K : own_Ends p e below s Q kc ks T (mkF m pc' ls (.long z :: st))) : own_Ends p e below s Q kc ks T (mkF m pc ls (.long y :: .long x :: st)) := by
  subst hp hz
  exact own_go (fun t k => XS.lxor X.here hx rfl hd rfl k) K
theorem own_ishl (X : Stand p l e R s m args below meth c T locs cells slots) (hx : p.tables.exec = Jvm.exec) {x y z : Int32} (hd : decode c.code pc = .ok (.ishl, 1)) (hp : pc + 1 = pc') (hz : x <<< (y &&& 31) = z) (K : own_Ends p e below s Q kc ks T (mkF m pc' ls (.int z :: st))) : own_Ends p e below s Q kc ks T (mkF m pc ls (.int y :: .int x :: st)) := by
  subst hp hz
  exact own_go (fun t k => XS.ishl X.here hx rfl hd rfl k) K
theorem own_ishr (X : Stand p l e R s m args below meth c T locs cells slots) (hx : p.tables.exec = Jvm.exec) {x y z : Int32} (hd : decode c.code pc = .ok (.ishr, 1)) (hp : pc + 1 = pc') (hz : x >>> (y &&& 31) = z) (K : own_Ends p e below s Q kc ks T (mkF m pc' ls (.int z :: st))) : own_Ends p e below s Q kc ks T (mkF m pc ls (.int y :: .int x :: st)) := by
  subst hp hz
  exact own_go (fun t k => XS.ishr X.here hx rfl hd rfl k) K
theorem own_iushr (X : Stand p l e R s m args below meth c T locs cells slots) (hx : p.tables.exec = Jvm.exec) {x y z : Int32} (hd : decode c.code pc = .ok (.iushr, 1)) (hp : pc + 1 = pc') (hz : (x.toUInt32 >>> (y &&& 31).toUInt32).toInt32 = z) (K : own_Ends p e below s Q kc ks T (mkF m pc' ls (.int z :: st))) : own_Ends p e below s Q kc ks T (mkF m pc ls (.int y :: .int x :: st)) := by
  subst hp hz
  exact own_go (fun t k => XS.iushr X.here hx rfl hd rfl k) K
theorem own_lshl (X : Stand p l e R s m args below meth c T locs cells slots) (hx : p.tables.exec = Jvm.exec) {x z : Int64} {y : Int32} (hd : decode c.code pc = .ok (.lshl, 1)) (hp : pc + 1 = pc') (hz : x <<< (y &&& 0x3f).toInt64 = z) (K : own_Ends p e below s Q kc ks T (mkF m pc' ls (.long z :: st))) : own_Ends p e below s Q kc ks T (mkF m pc ls (.int y :: .long x :: st)) := by
  subst hp hz
  exact own_go (fun t k => XS.lshl X.here hx rfl hd rfl k) K
theorem own_lshr (X : Stand p l e R s m args below meth c T locs cells slots) (hx : p.tables.exec = Jvm.exec) {x z : Int64} {y : Int32} (hd : decode c.code pc = .ok (.lshr, 1)) (hp : pc + 1 = pc') (hz : x >>> (y &&& 0x3f).toInt64 = z) (K : own_Ends p e below s Q kc ks T (mkF m pc' ls (.long z :: st))) : own_Ends p e below s Q kc ks T (mkF m pc ls (.int y :: .long x :: st)) := by
  subst hp hz
  exact own_go (fun t k => XS.lshr X.here hx rfl hd rfl k) K
theorem own_lushr (X : Stand p l e R s m args below meth c T locs cells slots) (hx : p.tables.exec = Jvm.exec) {x z : Int64} {y : Int32} (hd : decode c.code pc = .ok (.lushr, 1)) (hp : pc + 1 = pc') (hz : (x.toUInt64 >>> (y &&& 0x3f).toInt64.toUInt64).toInt64 = z) (K : own_Ends p e below s Q kc ks T (mkF m pc' ls (.long z :: st))) : own_Ends p e below s Q kc ks T (mkF m pc ls (.int y :: .long x :: st)) := by
  subst hp hz
  exact own_go (fun t k => XS.lushr X.here hx rfl hd rfl k) K
theorem own_idiv (X : Stand p l e R s m args below meth c T locs cells slots) (hx : p.tables.exec = Jvm.exec) {x y z : Int32} (hd : decode c.code pc = .ok (.idiv, 1)) (hp : pc + 1 = pc') (hy : y ≠ 0) (hz : x / y = z) (K : own_Ends p e below s Q kc ks T (mkF m pc' ls (.int z :: st))) : own_Ends p e below s Q kc ks T (mkF m pc ls (.int y :: .int x :: st)) := by
  subst hp hz
  exact own_go (fun t k => XS.idiv X.here hx rfl hd rfl hy k) K
theorem own_irem (X : Stand p l e R s m args below meth c T locs cells slots) (hx : p.tables.exec = Jvm.exec) {x y z : Int32} (hd : decode c.code pc = .ok (.irem, 1)) (hp : pc + 1 = pc') (hy : y ≠ 0) (hz : x % y = z) (K : own_Ends p e below s Q kc ks T (mkF m pc' ls (.int z :: st))) : own_Ends p e below s Q kc ks T (mkF m pc ls (.int y :: .int x :: st)) := by
  subst hp hz
  exact own_go (fun t k => iremM (g := mkF m pc ls (.int y :: .int x :: st)) X hx rfl hd rfl hy k) K
theorem own_ldiv (X : Stand p l e R s m args below meth c T locs cells slots) (hx : p.tables.exec = Jvm.exec) {x y z : Int64} (hd : decode c.code pc = .ok (.ldiv, 1)) (hp : pc + 1 = pc') (hy : y ≠ 0) (hz : x / y = z) (K : own_Ends p e below s Q kc ks T (mkF m pc' ls (.long z :: st))) : own_Ends p e below s Q kc ks T (mkF m pc ls (.long y :: .long x :: st)) := by
  subst hp hz
  exact own_go (fun t k => XS.ldiv X.here hx rfl hd rfl hy k) K
theorem own_lrem (X : Stand p l e R s m args below meth c T locs cells slots) (hx : p.tables.exec = Jvm.exec) {x y z : Int64} (hd : decode c.code pc = .ok (.lrem, 1)) (hp : pc + 1 = pc') (hy : y ≠ 0) (hz : x - (x / y) * y = z) (K : own_Ends p e below s Q kc ks T (mkF m pc' ls (.long z :: st))) : own_Ends p e below s Q kc ks T (mkF m pc ls (.long y :: .long x :: st)) := by
  subst hp hz
  exact own_go (fun t k => XS.lrem X.here hx rfl hd rfl hy k) K
theorem own_ineg (X : Stand p l e R s m args below meth c T locs cells slots) (hx : p.tables.exec = Jvm.exec) {x : Int32} {z : Int32} (hd : decode c.code pc = .ok (.ineg, 1)) (hp : pc + 1 = pc') (hz : -x = z) (K : own_Ends p e below s Q kc ks T (mkF m pc' ls (.int z :: st))) : own_Ends p e below s Q kc ks T (mkF m pc ls (.int x :: st)) := by
  subst hp hz
  exact own_go (fun t k => XS.ineg X.here hx rfl hd rfl k) K
theorem own_lneg (X : Stand p l e R s m args below meth c T locs cells slots) (hx : p.tables.exec = Jvm.exec) {x : Int64} {z : Int64} (hd : decode c.code pc = .ok (.lneg, 1)) (hp : pc + 1 = pc') (hz : -x = z) (K : own_Ends p e below s Q kc ks T (mkF m pc' ls (.long z :: st))) : own_Ends p e below s Q kc ks T (mkF m pc ls (.long x :: st)) := by
  subst hp hz
  exact own_go (fun t k => XS.lneg X.here hx rfl hd rfl k) K
theorem own_i2l (X : Stand p l e R s m args below meth c T locs cells slots) (hx : p.tables.exec = Jvm.exec) {x : Int32} {z : Int64} (hd : decode c.code pc = .ok (.i2l, 1)) (hp : pc + 1 = pc') (hz : x.toInt64 = z) (K : own_Ends p e below s Q kc ks T (mkF m pc' ls (.long z :: st))) : own_Ends p e below s Q kc ks T (mkF m pc ls (.int x :: st)) := by
  subst hp hz
  exact own_go (fun t k => XS.i2l X.here hx rfl hd rfl k) K
theorem own_l2i (X : Stand p l e R s m args below meth c T locs cells slots) (hx : p.tables.exec = Jvm.exec) {x : Int64} {z : Int32} (hd : decode c.code pc = .ok (.l2i, 1)) (hp : pc + 1 = pc') (hz : x.toInt32 = z) (K : own_Ends p e below s Q kc ks T (mkF m pc' ls (.int z :: st))) : own_Ends p e below s Q kc ks T (mkF m pc ls (.long x :: st)) := by
  subst hp hz
  exact own_go (fun t k => XS.l2i X.here hx rfl hd rfl k) K
theorem own_i2b (X : Stand p l e R s m args below meth c T locs cells slots) (hx : p.tables.exec = Jvm.exec) {x : Int32} {z : Int32} (hd : decode c.code pc = .ok (.i2b, 1)) (hp : pc + 1 = pc') (hz : x.toInt8.toInt32 = z) (K : own_Ends p e below s Q kc ks T (mkF m pc' ls (.int z :: st))) : own_Ends p e below s Q kc ks T (mkF m pc ls (.int x :: st)) := by
  subst hp hz
  exact own_go (fun t k => XS.i2b X.here hx rfl hd rfl k) K
theorem own_i2s (X : Stand p l e R s m args below meth c T locs cells slots) (hx : p.tables.exec = Jvm.exec) {x : Int32} {z : Int32} (hd : decode c.code pc = .ok (.i2s, 1)) (hp : pc + 1 = pc') (hz : x.toInt16.toInt32 = z) (K : own_Ends p e below s Q kc ks T (mkF m pc' ls (.int z :: st))) : own_Ends p e below s Q kc ks T (mkF m pc ls (.int x :: st)) := by
  subst hp hz
  exact own_go (fun t k => XS.i2s X.here hx rfl hd rfl k) K
theorem own_i2c (X : Stand p l e R s m args below meth c T locs cells slots) (hx : p.tables.exec = Jvm.exec) {x : Int32} {z : Int32} (hd : decode c.code pc = .ok (.i2c, 1)) (hp : pc + 1 = pc') (hz : x.toUInt32.toUInt16.toUInt32.toInt32 = z) (K : own_Ends p e below s Q kc ks T (mkF m pc' ls (.int z :: st))) : own_Ends p e below s Q kc ks T (mkF m pc ls (.int x :: st)) := by
  subst hp hz
  exact own_go (fun t k => XS.i2c X.here hx rfl hd rfl k) K
theorem own_i2d (X : Stand p l e R s m args below meth c T locs cells slots) (hx : p.tables.exec = Jvm.exec) {x : Int32} {z : UInt64} (hd : decode c.code pc = .ok (.i2d, 1)) (hp : pc + 1 = pc') (hz : FP.i2d x = z) (K : own_Ends p e below s Q kc ks T (mkF m pc' ls (.double z :: st))) : own_Ends p e below s Q kc ks T (mkF m pc ls (.int x :: st)) := by
  subst hp hz
  exact own_go (fun t k => XS.i2dS (g := mkF m pc ls (.int x :: st)) X.here hx rfl hd rfl rfl k) K
theorem own_dadd (X : Stand p l e R s m args below meth c T locs cells slots) (hx : p.tables.exec = Jvm.exec) {x y z : UInt64} (hd : decode c.code pc = .ok (.dadd, 1)) (hp : pc + 1 = pc') (hn : Jvm.Free.Fl.NoNaN64 (FP.dadd x y)) (hz : FP.dadd x y = z) (K : own_Ends p e below s Q kc ks T (mkF m pc' ls (.double z :: st))) : own_Ends p e below s Q kc ks T (mkF m pc ls (.double y :: .double x :: st)) := by
  subst hp hz
  exact own_go (fun t k => XS.daddS (g := mkF m pc ls (.double y :: .double x :: st)) X.here hx rfl hd rfl hn rfl k) K
theorem own_dmul (X : Stand p l e R s m args below meth c T locs cells slots) (hx : p.tables.exec = Jvm.exec) {x y z : UInt64} (hd : decode c.code pc = .ok (.dmul, 1)) (hp : pc + 1 = pc') (hn : Jvm.Free.Fl.NoNaN64 (FP.dmul x y)) (hz : FP.dmul x y = z) (K : own_Ends p e below s Q kc ks T (mkF m pc' ls (.double z :: st))) : own_Ends p e below s Q kc ks T (mkF m pc ls (.double y :: .double x :: st)) := by
  subst hp hz
  exact own_go (fun t k => XS.dmulS (g := mkF m pc ls (.double y :: .double x :: st)) X.here hx rfl hd rfl hn rfl k) K
theorem own_dcmp (X : Stand p l e R s m args below meth c T locs cells slots) (hx : p.tables.exec = Jvm.exec) {o : CmpOp} {x y : UInt64} {z : Int32} (hd : decode c.code pc = .ok (.dcmp o, 1)) (hp : pc + 1 = pc') (hz : cmpValue (FP.dcmp x y) o = z) (K : own_Ends p e below s Q kc ks T (mkF m pc' ls (.int z :: st))) : own_Ends p e below s Q kc ks T (mkF m pc ls (.double y :: .double x :: st)) := by
  subst hp hz
  exact own_go (fun t k => XS.dcmpS (g := mkF m pc ls (.double y :: .double x :: st)) X.here hx rfl hd rfl rfl k) K
theorem own_lcmp (X : Stand p l e R s m args below meth c T locs cells slots) (hx : p.tables.exec = Jvm.exec) {x y : Int64} {z : Int32} (hd : decode c.code pc = .ok (.lcmp, 1)) (hp : pc + 1 = pc') (hz : lcmpW x y = z) (K : own_Ends p e below s Q kc ks T (mkF m pc' ls (.int z :: st))) : own_Ends p e below s Q kc ks T (mkF m pc ls (.long y :: .long x :: st)) := by
  subst hp hz
  exact own_go (fun t k => XS.lcmp X.here hx rfl hd rfl k) K
theorem own_pop (X : Stand p l e R s m args below meth c T locs cells slots) (hx : p.tables.exec = Jvm.exec) {v : Value} (hd : decode c.code pc = .ok (.pop, 1)) (hp : pc + 1 = pc') (hc : v.category = 1) (K : own_Ends p e below s Q kc ks T (mkF m pc' ls st)) : own_Ends p e below s Q kc ks T (mkF m pc ls (v :: st)) := by
  subst hp
  exact own_go (fun t k => XS.pop X.here hx rfl hd rfl hc k) K
theorem own_dup (X : Stand p l e R s m args below meth c T locs cells slots) (hx : p.tables.exec = Jvm.exec) {v : Value} (hd : decode c.code pc = .ok (.dup, 1)) (hp : pc + 1 = pc') (hc : v.category = 1) (K : own_Ends p e below s Q kc ks T (mkF m pc' ls (v :: v :: st))) : own_Ends p e below s Q kc ks T (mkF m pc ls (v :: st)) := by
  subst hp
  exact own_go (fun t k => XS.dup X.here hx rfl hd rfl hc k) K
theorem own_dupX1 (X : Stand p l e R s m args below meth c T locs cells slots) (hx : p.tables.exec = Jvm.exec) {v w : Value} (hd : decode c.code pc = .ok (.dup_x1, 1)) (hp : pc + 1 = pc') (hc : v.category = 1) (hc' : w.category = 1) (K : own_Ends p e below s Q kc ks T (mkF m pc' ls (v :: w :: v :: st))) : own_Ends p e below s Q kc ks T (mkF m pc ls (v :: w :: st)) := by
  subst hp
  exact own_go (fun t k => XS.dupX1 X.here hx rfl hd rfl hc hc' k) K
theorem own_dup2 (X : Stand p l e R s m args below meth c T locs cells slots) (hx : p.tables.exec = Jvm.exec) {v w : Value} (hd : decode c.code pc = .ok (.dup2, 1)) (hp : pc + 1 = pc') (hc : v.category = 1) (hc' : w.category = 1) (K : own_Ends p e below s Q kc ks T (mkF m pc' ls (v :: w :: v :: w :: st))) : own_Ends p e below s Q kc ks T (mkF m pc ls (v :: w :: st)) := by
  subst hp
  exact own_go (fun t k => XT.dup2 X.here hx rfl hd rfl hc hc' k) K
theorem own_dup2L (X : Stand p l e R s m args below meth c T locs cells slots) (hx : p.tables.exec = Jvm.exec) {x : Int64} (hd : decode c.code pc = .ok (.dup2, 1)) (hp : pc + 1 = pc')  (K : own_Ends p e below s Q kc ks T (mkF m pc' ls (.long x :: .long x :: st))) : own_Ends p e below s Q kc ks T (mkF m pc ls (.long x :: st)) := by
  subst hp
  exact own_go (fun t k => XT.dup2L X.here hx rfl hd rfl k) K
theorem own_iinc (X : Stand p l e R s m args below meth c T locs cells slots) (hx : p.tables.exec = Jvm.exec) {k : Nat} {i : Int} {x z : Int32} {l' : Array Slot} (hd : decode c.code pc = .ok (.iinc k i, 3)) (hp : pc + 3 = pc') (hl : ls[k]? = some (.val (.int x))) (hz : x + Int32.ofInt i = z) (hl' : storeLocals ls k (.int z) = some l') (K : own_Ends p e below s Q kc ks T (mkF m pc' l' st)) : own_Ends p e below s Q kc ks T (mkF m pc ls st) := by
  subst hp hz
  exact own_go (fun t k => XS.iinc X.here hx rfl hd hl hl' k) K
theorem own_goto (X : Stand p l e R s m args below meth c T locs cells slots) (hx : p.tables.exec = Jvm.exec) {o : Int} (hd : decode c.code pc = .ok (.goto o, 3)) (ho : 0 ≤ (pc : Int) + o) (hp : ((pc : Int) + o).toNat = pc') (K : own_Ends p e below s Q kc ks T (mkF m pc' ls st)) : own_Ends p e below s Q kc ks T (mkF m pc ls st) :=
  own_go (fun t k => XS.goto X.here hx rfl rfl hd ho hp k) K
theorem own_ifYes (X : Stand p l e R s m args below meth c T locs cells slots) (hx : p.tables.exec = Jvm.exec) {o : Int} {cd : ClassFile.Cond} {x : Int32} (hd : decode c.code pc = .ok (.ifCond cd o, 3)) (hc : if_icmp.holds cd x 0 = true) (ho : 0 ≤ (pc : Int) + o) (hp : ((pc : Int) + o).toNat = pc') (K : own_Ends p e below s Q kc ks T (mkF m pc' ls st)) : own_Ends p e below s Q kc ks T (mkF m pc ls (.int x :: st)) :=
  own_go (fun t k => XS.ifYes X.here hx rfl rfl hd rfl ((if0 _ _).trans hc) ho hp k) K
theorem own_ifNo (X : Stand p l e R s m args below meth c T locs cells slots) (hx : p.tables.exec = Jvm.exec) {o : Int} {cd : ClassFile.Cond} {x : Int32} (hd : decode c.code pc = .ok (.ifCond cd o, 3)) (hp : pc + 3 = pc') (hc : if_icmp.holds cd x 0 = false) (K : own_Ends p e below s Q kc ks T (mkF m pc' ls st)) : own_Ends p e below s Q kc ks T (mkF m pc ls (.int x :: st)) := by
  subst hp
  exact own_go (fun t k => XS.ifNo X.here hx rfl hd rfl ((if0 _ _).trans hc) k) K
theorem own_icmpYes (X : Stand p l e R s m args below meth c T locs cells slots) (hx : p.tables.exec = Jvm.exec) {o : Int} {cd : ClassFile.Cond} {x y : Int32} (hd : decode c.code pc = .ok (.if_icmp cd o, 3)) (hc : if_icmp.holds cd x y = true) (ho : 0 ≤ (pc : Int) + o) (hp : ((pc : Int) + o).toNat = pc') (K : own_Ends p e below s Q kc ks T (mkF m pc' ls st)) : own_Ends p e below s Q kc ks T (mkF m pc ls (.int y :: .int x :: st)) :=
  own_go (fun t k => XS.icmpYes X.here hx rfl rfl hd rfl hc ho hp k) K
theorem own_icmpNo (X : Stand p l e R s m args below meth c T locs cells slots) (hx : p.tables.exec = Jvm.exec) {o : Int} {cd : ClassFile.Cond} {x y : Int32} (hd : decode c.code pc = .ok (.if_icmp cd o, 3)) (hp : pc + 3 = pc') (hc : if_icmp.holds cd x y = false) (K : own_Ends p e below s Q kc ks T (mkF m pc' ls st)) : own_Ends p e below s Q kc ks T (mkF m pc ls (.int y :: .int x :: st)) := by
  subst hp
  exact own_go (fun t k => XS.icmpNo X.here hx rfl hd rfl hc k) K
theorem own_ifnullYes (X : Stand p l e R s m args below meth c T locs cells slots) (hx : p.tables.exec = Jvm.exec) {o : Int} (hd : decode c.code pc = .ok (.ifnull o, 3)) (ho : 0 ≤ (pc : Int) + o) (hp : ((pc : Int) + o).toNat = pc') (K : own_Ends p e below s Q kc ks T (mkF m pc' ls st)) : own_Ends p e below s Q kc ks T (mkF m pc ls (.null :: st)) :=
  own_go (fun t k => XS.ifnullYes X.here hx rfl rfl hd rfl ho hp k) K
theorem own_ifnullNo (X : Stand p l e R s m args below meth c T locs cells slots) (hx : p.tables.exec = Jvm.exec) {o : Int} {b : Addr} (hd : decode c.code pc = .ok (.ifnull o, 3)) (hp : pc + 3 = pc')  (K : own_Ends p e below s Q kc ks T (mkF m pc' ls st)) : own_Ends p e below s Q kc ks T (mkF m pc ls (.ref b :: st)) := by
  subst hp
  exact own_go (fun t k => XS.ifnullNo X.here hx rfl hd rfl k) K
theorem own_ifnonnullYes (X : Stand p l e R s m args below meth c T locs cells slots) (hx : p.tables.exec = Jvm.exec) {o : Int} {b : Addr} (hd : decode c.code pc = .ok (.ifnonnull o, 3)) (ho : 0 ≤ (pc : Int) + o) (hp : ((pc : Int) + o).toNat = pc') (K : own_Ends p e below s Q kc ks T (mkF m pc' ls st)) : own_Ends p e below s Q kc ks T (mkF m pc ls (.ref b :: st)) :=
  own_go (fun t k => XS.ifnonnullYes X.here hx rfl rfl hd rfl ho hp k) K
theorem own_ifnonnullNo (X : Stand p l e R s m args below meth c T locs cells slots) (hx : p.tables.exec = Jvm.exec) {o : Int} (hd : decode c.code pc = .ok (.ifnonnull o, 3)) (hp : pc + 3 = pc')  (K : own_Ends p e below s Q kc ks T (mkF m pc' ls st)) : own_Ends p e below s Q kc ks T (mkF m pc ls (.null :: st)) := by
  subst hp
  exact own_go (fun t k => XS.ifnonnullNo X.here hx rfl hd rfl k) K
theorem own_acmpYes (X : Stand p l e R s m args below meth c T locs cells slots) (hx : p.tables.exec = Jvm.exec) {o : Int} {cd : ACond} {v w : Value} (hd : decode c.code pc = .ok (.if_acmp cd o, 3)) (h1 : v.isRef = true) (h2 : w.isRef = true) (hc : XT.acmp cd v w = true) (ho : 0 ≤ (pc : Int) + o) (hp : ((pc : Int) + o).toNat = pc') (K : own_Ends p e below s Q kc ks T (mkF m pc' ls st)) : own_Ends p e below s Q kc ks T (mkF m pc ls (w :: v :: st)) :=
  own_go (fun t k => XT.acmpYes X.here hx rfl rfl hd rfl h1 h2 hc ho hp k) K
theorem own_acmpNo (X : Stand p l e R s m args below meth c T locs cells slots) (hx : p.tables.exec = Jvm.exec) {o : Int} {cd : ACond} {v w : Value} (hd : decode c.code pc = .ok (.if_acmp cd o, 3)) (hp : pc + 3 = pc') (h1 : v.isRef = true) (h2 : w.isRef = true) (hc : XT.acmp cd v w = false) (K : own_Ends p e below s Q kc ks T (mkF m pc' ls st)) : own_Ends p e below s Q kc ks T (mkF m pc ls (w :: v :: st)) := by
  subst hp
  exact own_go (fun t k => XT.acmpNo X.here hx rfl hd rfl h1 h2 hc k) K
theorem own_ldcI (X : Stand p l e R s m args below meth c T locs cells slots) (hx : p.tables.exec = Jvm.exec) {own : String} {ix : Nat} {v : Int32} {Z : State} {a0 : Array Value} (hZ : Z.Warmed39 s.vm) (hown : s.vm.findClass own = some m.cls) (w : (Jvm.Cond.constant own ix v).before a0 Z = true) (hd : decode c.code pc = .ok (.ldc ix, 2)) (hp : pc + 2 = pc')  (K : own_Ends p e below s Q kc ks T (mkF m pc' ls (.int v :: st))) : own_Ends p e below s Q kc ks T (mkF m pc ls st) := by
  subst hp
  exact own_go (fun t k => X.ldcInt hx hown (mvT hZ w) (g := mkF m pc ls st) rfl hd t k) K
theorem own_ldcwI (X : Stand p l e R s m args below meth c T locs cells slots) (hx : p.tables.exec = Jvm.exec) {own : String} {ix : Nat} {v : Int32} {Z : State} {a0 : Array Value} (hZ : Z.Warmed39 s.vm) (hown : s.vm.findClass own = some m.cls) (w : (Jvm.Cond.constant own ix v).before a0 Z = true) (hd : decode c.code pc = .ok (.ldc_w ix, 3)) (hp : pc + 3 = pc')  (K : own_Ends p e below s Q kc ks T (mkF m pc' ls (.int v :: st))) : own_Ends p e below s Q kc ks T (mkF m pc ls st) := by
  subst hp
  exact own_go (fun t k => X.ldcwInt hx hown (mvT hZ w) (g := mkF m pc ls st) rfl hd t k) K
theorem own_ldc2J (X : Stand p l e R s m args below meth c T locs cells slots) (hx : p.tables.exec = Jvm.exec) {own : String} {ix : Nat} {v : Int64} {Z : State} {a0 : Array Value} (hZ : Z.Warmed39 s.vm) (hown : s.vm.findClass own = some m.cls) (w : (Jvm.Cond.constantLong own ix v).before a0 Z = true) (hd : decode c.code pc = .ok (.ldc2_w ix, 3)) (hp : pc + 3 = pc')  (K : own_Ends p e below s Q kc ks T (mkF m pc' ls (.long v :: st))) : own_Ends p e below s Q kc ks T (mkF m pc ls st) := by
  subst hp
  exact own_go (fun t k => X.ldc2Long hx hown (mvT hZ w) (g := mkF m pc ls st) rfl hd t k) K
theorem own_iaload (X : Stand p l e R s m args below meth c T locs cells slots) (hx : p.tables.exec = Jvm.exec) {Z : State} {h : Heap} {a : Addr} {k : ClassId} {n j : Int32} {vs : List Value} {d v : Value} (hZ : Z.Warmed39 s.vm) (eT : T.heap = h) (V : Arv Z h a k .int n vs d) (hd : decode c.code pc = .ok (.iaload, 1)) (hp : pc + 1 = pc') (hj : ¬ j < 0 ∧ j < n) (hv : vs.getD j.toNatClampNeg d = v) (K : own_Ends p e below s Q kc ks T (mkF m pc' ls (v :: st))) : own_Ends p e below s Q kc ks T (mkF m pc ls (.int j :: .ref a :: st)) := by
  subst hp
  obtain ⟨cl, A, q1, S, q2, H, G⟩ := V
  have hin := inb_of S hj
  exact own_go (fun t k => X.iaload hx (by rw [eT]; exact A.1) (State.isArrayOf_alike hZ.alike A.2.1) A.2.2 hin (H.at hin hv) (g := mkF m pc ls (.int j :: .ref a :: st)) rfl rfl hd t k) K
theorem own_laload (X : Stand p l e R s m args below meth c T locs cells slots) (hx : p.tables.exec = Jvm.exec) {Z : State} {h : Heap} {a : Addr} {k : ClassId} {n j : Int32} {vs : List Value} {d v : Value} (hZ : Z.Warmed39 s.vm) (eT : T.heap = h) (V : Arv Z h a k .long n vs d) (hd : decode c.code pc = .ok (.laload, 1)) (hp : pc + 1 = pc') (hj : ¬ j < 0 ∧ j < n) (hv : vs.getD j.toNatClampNeg d = v) (K : own_Ends p e below s Q kc ks T (mkF m pc' ls (v :: st))) : own_Ends p e below s Q kc ks T (mkF m pc ls (.int j :: .ref a :: st)) := by
  subst hp
  obtain ⟨cl, A, q1, S, q2, H, G⟩ := V
  have hin := inb_of S hj
  exact own_go (fun t k => X.laload hx (by rw [eT]; exact A.1) (State.isArrayOf_alike hZ.alike A.2.1) A.2.2 hin (H.at hin hv) (g := mkF m pc ls (.int j :: .ref a :: st)) rfl rfl hd t k) K
theorem own_caload (X : Stand p l e R s m args below meth c T locs cells slots) (hx : p.tables.exec = Jvm.exec) {Z : State} {h : Heap} {a : Addr} {k : ClassId} {n j : Int32} {vs : List Value} {d v : Value} (hZ : Z.Warmed39 s.vm) (eT : T.heap = h) (V : Arv Z h a k .char n vs d) (hd : decode c.code pc = .ok (.caload, 1)) (hp : pc + 1 = pc') (hj : ¬ j < 0 ∧ j < n) (hv : vs.getD j.toNatClampNeg d = v) (K : own_Ends p e below s Q kc ks T (mkF m pc' ls (v :: st))) : own_Ends p e below s Q kc ks T (mkF m pc ls (.int j :: .ref a :: st)) := by
  subst hp
  obtain ⟨cl, A, q1, S, q2, H, G⟩ := V
  have hin := inb_of S hj
  exact own_go (fun t k => X.caload hx (by rw [eT]; exact A.1) (State.isArrayOf_alike hZ.alike A.2.1) A.2.2 hin (H.at hin hv) (g := mkF m pc ls (.int j :: .ref a :: st)) rfl rfl hd t k) K
theorem own_baload (X : Stand p l e R s m args below meth c T locs cells slots) (hx : p.tables.exec = Jvm.exec) {Z : State} {h : Heap} {a : Addr} {k : ClassId} {n j : Int32} {vs : List Value} {d v : Value} (hZ : Z.Warmed39 s.vm) (eT : T.heap = h) (V : Arv Z h a k .byte n vs d) (hd : decode c.code pc = .ok (.baload, 1)) (hp : pc + 1 = pc') (hj : ¬ j < 0 ∧ j < n) (hv : vs.getD j.toNatClampNeg d = v) (K : own_Ends p e below s Q kc ks T (mkF m pc' ls (v :: st))) : own_Ends p e below s Q kc ks T (mkF m pc ls (.int j :: .ref a :: st)) := by
  subst hp
  obtain ⟨cl, A, q1, S, q2, H, G⟩ := V
  have hin := inb_of S hj
  exact own_go (fun t k => X.baloadBytes hx (by rw [eT]; exact A.1) (State.isArrayOf_alike hZ.alike A.2.1) A.2.2 hin (H.at hin hv) (g := mkF m pc ls (.int j :: .ref a :: st)) rfl rfl hd t k) K
theorem own_zaload (X : Stand p l e R s m args below meth c T locs cells slots) (hx : p.tables.exec = Jvm.exec) {Z : State} {h : Heap} {a : Addr} {k : ClassId} {n j : Int32} {vs : List Value} {d v : Value} (hZ : Z.Warmed39 s.vm) (eT : T.heap = h) (V : Arv Z h a k .boolean n vs d) (hd : decode c.code pc = .ok (.baload, 1)) (hp : pc + 1 = pc') (hj : ¬ j < 0 ∧ j < n) (hv : vs.getD j.toNatClampNeg d = v) (K : own_Ends p e below s Q kc ks T (mkF m pc' ls (v :: st))) : own_Ends p e below s Q kc ks T (mkF m pc ls (.int j :: .ref a :: st)) := by
  subst hp
  obtain ⟨cl, A, q1, S, q2, H, G⟩ := V
  have hin := inb_of S hj
  exact own_go (fun t k => X.baloadBooleans hx (by rw [eT]; exact A.1) (State.isArrayOf_alike hZ.alike A.2.1) A.2.2 hin (H.at hin hv) (g := mkF m pc ls (.int j :: .ref a :: st)) rfl rfl hd t k) K
theorem own_daload (X : Stand p l e R s m args below meth c T locs cells slots) (hx : p.tables.exec = Jvm.exec) {Z : State} {h : Heap} {a : Addr} {k : ClassId} {n j : Int32} {vs : List Value} {d v : Value} (hZ : Z.Warmed39 s.vm) (eT : T.heap = h) (V : Arv Z h a k .double n vs d) (hd : decode c.code pc = .ok (.daload, 1)) (hp : pc + 1 = pc') (hj : ¬ j < 0 ∧ j < n) (hv : vs.getD j.toNatClampNeg d = v) (K : own_Ends p e below s Q kc ks T (mkF m pc' ls (v :: st))) : own_Ends p e below s Q kc ks T (mkF m pc ls (.int j :: .ref a :: st)) := by
  subst hp
  obtain ⟨cl, A, q1, S, q2, H, G⟩ := V
  have hin := inb_of S hj
  exact own_go (fun t k => X.daload hx (by rw [eT]; exact A.1) (State.isArrayOf_alike hZ.alike A.2.1) A.2.2 hin (H.at hin hv) (g := mkF m pc ls (.int j :: .ref a :: st)) rfl rfl hd t k) K
theorem own_alen (X : Stand p l e R s m args below meth c T locs cells slots) (hx : p.tables.exec = Jvm.exec) {Z : State} {h : Heap} {a : Addr} {k : ClassId} {ty : FieldType} {n : Int32} {vs : List Value} {d : Value} (hZ : Z.Warmed39 s.vm) (eT : T.heap = h) (V : Arv Z h a k ty n vs d) (hd : decode c.code pc = .ok (.arraylength, 1)) (hp : pc + 1 = pc')  (K : own_Ends p e below s Q kc ks T (mkF m pc' ls (.int n :: st))) : own_Ends p e below s Q kc ks T (mkF m pc ls (.ref a :: st)) := by
  subst hp
  obtain ⟨cl, A, q1, S, q2, H, G⟩ := V
  rw [← len_of S q2] at K
  exact own_go (fun t k => X.arraylength hx (by rw [eT]; exact A.1) (State.isArrayOf_alike hZ.alike A.2.1) (g := mkF m pc ls (.ref a :: st)) rfl rfl hd t k) K
theorem own_iastore (X : Stand p l e R s m args below meth c T locs cells slots) (hx : p.tables.exec = Jvm.exec) {Z : State} {h : Heap} {a : Addr} {k : ClassId} {n j : Int32} {vs : List Value} {d : Value} {x : Int32} (hZ : Z.Warmed39 s.vm) (eT : T.heap = h) (V : Arv Z h a k .int n vs d) (hd : decode c.code pc = .ok (.iastore, 1)) (hp : pc + 1 = pc') (hj : ¬ j < 0 ∧ j < n) (i : Nat) (hi : j.toNatClampNeg = i) (hl : i < vs.length) {n0 : Nat} (N : Fr n0 locs) (ge : n0 ≤ a)
    (K : ∀ T' h' L, Stand p l e R s m args below meth c T' L cells slots → T'.heap = h' → Fr n0 L → Wr h h' a j.toNatClampNeg (.int x) → Arv Z h' a k .int n (vs.set i (.int x)) d → own_Ends p e below s Q kc ks T' (mkF m pc' ls st)) : own_Ends p e below s Q kc ks T (mkF m pc ls (.int x :: .int j :: .ref a :: st)) := by
  subst hp
  obtain ⟨cl, A, q1, S, q2, H, G⟩ := V
  have hin := inb_of S hj
  obtain ⟨T1, h1, X1, e1, W1, st1⟩ := stI X hx hZ eT A (j := j) hin (g := mkF m pc ls (.int x :: .int j :: .ref a :: st)) rfl rfl hd
  exact own_go st1 (K T1 h1 _ X1 e1 (Fr.snoc X1 N ge) W1 (Arv.set A q1 S q2 H G rfl W1 i hi hl))
theorem own_lastore (X : Stand p l e R s m args below meth c T locs cells slots) (hx : p.tables.exec = Jvm.exec) {Z : State} {h : Heap} {a : Addr} {k : ClassId} {n j : Int32} {vs : List Value} {d : Value} {x : Int64} (hZ : Z.Warmed39 s.vm) (eT : T.heap = h) (V : Arv Z h a k .long n vs d) (hd : decode c.code pc = .ok (.lastore, 1)) (hp : pc + 1 = pc') (hj : ¬ j < 0 ∧ j < n) (i : Nat) (hi : j.toNatClampNeg = i) (hl : i < vs.length) {n0 : Nat} (N : Fr n0 locs) (ge : n0 ≤ a)
    (K : ∀ T' h' L, Stand p l e R s m args below meth c T' L cells slots → T'.heap = h' → Fr n0 L → Wr h h' a j.toNatClampNeg (.long x) → Arv Z h' a k .long n (vs.set i (.long x)) d → own_Ends p e below s Q kc ks T' (mkF m pc' ls st)) : own_Ends p e below s Q kc ks T (mkF m pc ls (.long x :: .int j :: .ref a :: st)) := by
  subst hp
  obtain ⟨cl, A, q1, S, q2, H, G⟩ := V
  have hin := inb_of S hj
  obtain ⟨T1, h1, X1, e1, W1, st1⟩ := stJ X hx hZ eT A (j := j) hin (g := mkF m pc ls (.long x :: .int j :: .ref a :: st)) rfl rfl hd
  exact own_go st1 (K T1 h1 _ X1 e1 (Fr.snoc X1 N ge) W1 (Arv.set A q1 S q2 H G rfl W1 i hi hl))
theorem own_dastore (X : Stand p l e R s m args below meth c T locs cells slots) (hx : p.tables.exec = Jvm.exec) {Z : State} {h : Heap} {a : Addr} {k : ClassId} {n j : Int32} {vs : List Value} {d : Value} {x : UInt64} (hZ : Z.Warmed39 s.vm) (eT : T.heap = h) (V : Arv Z h a k .double n vs d) (hd : decode c.code pc = .ok (.dastore, 1)) (hp : pc + 1 = pc') (hj : ¬ j < 0 ∧ j < n) (i : Nat) (hi : j.toNatClampNeg = i) (hl : i < vs.length) {n0 : Nat} (N : Fr n0 locs) (ge : n0 ≤ a)
    (K : ∀ T' h' L, Stand p l e R s m args below meth c T' L cells slots → T'.heap = h' → Fr n0 L → Wr h h' a j.toNatClampNeg (.double x) → Arv Z h' a k .double n (vs.set i (.double x)) d → own_Ends p e below s Q kc ks T' (mkF m pc' ls st)) : own_Ends p e below s Q kc ks T (mkF m pc ls (.double x :: .int j :: .ref a :: st)) := by
  subst hp
  obtain ⟨cl, A, q1, S, q2, H, G⟩ := V
  have hin := inb_of S hj
  obtain ⟨T1, h1, X1, e1, W1, st1⟩ := stD X hx hZ eT A (j := j) hin (g := mkF m pc ls (.double x :: .int j :: .ref a :: st)) rfl rfl hd
  exact own_go st1 (K T1 h1 _ X1 e1 (Fr.snoc X1 N ge) W1 (Arv.set A q1 S q2 H G rfl W1 i hi hl))
theorem own_castore (X : Stand p l e R s m args below meth c T locs cells slots) (hx : p.tables.exec = Jvm.exec) {Z : State} {h : Heap} {a : Addr} {k : ClassId} {n j : Int32} {vs : List Value} {d : Value} {x : Int32} (hZ : Z.Warmed39 s.vm) (eT : T.heap = h) (V : Arv Z h a k .char n vs d) (hd : decode c.code pc = .ok (.castore, 1)) (hp : pc + 1 = pc') (hj : ¬ j < 0 ∧ j < n) (i : Nat) (hi : j.toNatClampNeg = i) (hl : i < vs.length) {n0 : Nat} (N : Fr n0 locs) (ge : n0 ≤ a)
    (K : ∀ T' h' L, Stand p l e R s m args below meth c T' L cells slots → T'.heap = h' → Fr n0 L → Wr h h' a j.toNatClampNeg (.int (nar .char x)) → Arv Z h' a k .char n (vs.set i (.int (nar .char x))) d → own_Ends p e below s Q kc ks T' (mkF m pc' ls st)) : own_Ends p e below s Q kc ks T (mkF m pc ls (.int x :: .int j :: .ref a :: st)) := by
  subst hp
  obtain ⟨cl, A, q1, S, q2, H, G⟩ := V
  have hin := inb_of S hj
  obtain ⟨T1, h1, X1, e1, W1, st1⟩ := stC X hx hZ eT A (j := j) hin (g := mkF m pc ls (.int x :: .int j :: .ref a :: st)) rfl rfl hd
  exact own_go st1 (K T1 h1 _ X1 e1 (Fr.snoc X1 N ge) W1 (Arv.set A q1 S q2 H G (fits_nar_char _) W1 i hi hl))
theorem own_bastore (X : Stand p l e R s m args below meth c T locs cells slots) (hx : p.tables.exec = Jvm.exec) {Z : State} {h : Heap} {a : Addr} {k : ClassId} {n j : Int32} {vs : List Value} {d : Value} {x : Int32} (hZ : Z.Warmed39 s.vm) (eT : T.heap = h) (V : Arv Z h a k .byte n vs d) (hd : decode c.code pc = .ok (.bastore, 1)) (hp : pc + 1 = pc') (hj : ¬ j < 0 ∧ j < n) (i : Nat) (hi : j.toNatClampNeg = i) (hl : i < vs.length) {n0 : Nat} (N : Fr n0 locs) (ge : n0 ≤ a)
    (K : ∀ T' h' L, Stand p l e R s m args below meth c T' L cells slots → T'.heap = h' → Fr n0 L → Wr h h' a j.toNatClampNeg (.int (nar .byte x)) → Arv Z h' a k .byte n (vs.set i (.int (nar .byte x))) d → own_Ends p e below s Q kc ks T' (mkF m pc' ls st)) : own_Ends p e below s Q kc ks T (mkF m pc ls (.int x :: .int j :: .ref a :: st)) := by
  subst hp
  obtain ⟨cl, A, q1, S, q2, H, G⟩ := V
  have hin := inb_of S hj
  obtain ⟨T1, h1, X1, e1, W1, st1⟩ := stB X hx hZ eT A (j := j) hin (g := mkF m pc ls (.int x :: .int j :: .ref a :: st)) rfl rfl hd
  exact own_go st1 (K T1 h1 _ X1 e1 (Fr.snoc X1 N ge) W1 (Arv.set A q1 S q2 H G (fits_nar_byte _) W1 i hi hl))
theorem own_zastore (X : Stand p l e R s m args below meth c T locs cells slots) (hx : p.tables.exec = Jvm.exec) {Z : State} {h : Heap} {a : Addr} {k : ClassId} {n j : Int32} {vs : List Value} {d : Value} {x : Int32} (hZ : Z.Warmed39 s.vm) (eT : T.heap = h) (V : Arv Z h a k .boolean n vs d) (hd : decode c.code pc = .ok (.bastore, 1)) (hp : pc + 1 = pc') (hj : ¬ j < 0 ∧ j < n) (i : Nat) (hi : j.toNatClampNeg = i) (hl : i < vs.length) {n0 : Nat} (N : Fr n0 locs) (ge : n0 ≤ a)
    (K : ∀ T' h' L, Stand p l e R s m args below meth c T' L cells slots → T'.heap = h' → Fr n0 L → Wr h h' a j.toNatClampNeg (.int (nar .boolean x)) → Arv Z h' a k .boolean n (vs.set i (.int (nar .boolean x))) d → own_Ends p e below s Q kc ks T' (mkF m pc' ls st)) : own_Ends p e below s Q kc ks T (mkF m pc ls (.int x :: .int j :: .ref a :: st)) := by
  subst hp
  obtain ⟨cl, A, q1, S, q2, H, G⟩ := V
  have hin := inb_of S hj
  obtain ⟨T1, h1, X1, e1, W1, st1⟩ := stZ X hx hZ eT A (j := j) hin (g := mkF m pc ls (.int x :: .int j :: .ref a :: st)) rfl rfl hd
  exact own_go st1 (K T1 h1 _ X1 e1 (Fr.snoc X1 N ge) W1 (Arv.set A q1 S q2 H G (fits_nar_bool _) W1 i hi hl))
theorem own_newarr (X : Stand p l e R s m args below meth c T locs cells slots) (hx : p.tables.exec = Jvm.exec) {Z : State} {a0 : Array Value} {h : Heap} {aty : ArrayType} (hZ : Z.Warmed39 s.vm) (w : (Jvm.Cond.arrayClass (newarray.typeOf aty)).before a0 Z = true) (eT : T.heap = h) (hd : decode c.code pc = .ok (.newarray aty, 2)) (hp : pc + 2 = pc') {n : Int32} (hn : ¬ n < 0) (cap q : Nat) (hcap : n.toNatClampNeg ≤ cap) (hb : cap * 8 ≤ 536870912) (hc : cells + 1 ≤ R.cells) (hl : slots + cap ≤ R.slots)
    (K : ∀ T' h' a k, Stand p l e R s m args below meth c T' locs (cells + 1) (slots + cap) → T'.heap = h' → Ext h h' → a = h.size → Arv Z h' a k (newarray.typeOf aty) n (List.replicate q (defaultValue (newarray.typeOf aty))) (defaultValue (newarray.typeOf aty)) → own_Ends p e below s Q kc ks T' (mkF m pc' ls (.ref a :: st))) : own_Ends p e below s Q kc ks T (mkF m pc ls (.int n :: st)) := by
  subst hp
  obtain ⟨T1, h1, k1, X1, e1, E1, A1, st1⟩ := newP X hx hZ w eT (g := mkF m pc ls (.int n :: st)) rfl hd rfl hn (cap := cap) hcap hb hc hl
  exact own_go st1 (K T1 h1 _ k1 X1 e1 E1 rfl ((Arv.new A1 hn).pad (pad_rep [] _ q)))
theorem own_newarrE (X : Stand p l e R s m args below meth c T locs cells slots) (hx : p.tables.exec = Jvm.exec) {Z : State} {a0 : Array Value} {h : Heap} {aty : ArrayType} (hZ : Z.Warmed39 s.vm) (w : (Jvm.Cond.arrayClass (newarray.typeOf aty)).before a0 Z = true) (eT : T.heap = h) (hd : decode c.code pc = .ok (.newarray aty, 2)) (hp : pc + 2 = pc') {n : Int32} (hn : ¬ n < 0) (cap q : Nat) (hcap : n.toNatClampNeg ≤ cap) (hb : cap * 8 ≤ 536870912) (hc : cells + 1 ≤ R.cells) (hl : slots + cap ≤ R.slots) {ad : String} (had : "[" ++ (newarray.typeOf aty).toString = ad)
    (K : ∀ T' h' a k, Stand p l e R s m args below meth c T' locs (cells + 1) (slots + cap) → T'.heap = h' → Ext h h' → a = h.size → Arv Z h' a k (newarray.typeOf aty) n (List.replicate q (defaultValue (newarray.typeOf aty))) (defaultValue (newarray.typeOf aty)) → Exa Z h' a ad → own_Ends p e below s Q kc ks T' (mkF m pc' ls (.ref a :: st))) : own_Ends p e below s Q kc ks T (mkF m pc ls (.int n :: st)) := by
  subst hp
  obtain ⟨T1, h1, k1, X1, e1, E1, A1, Z1, st1⟩ := newPE X hx hZ w eT (g := mkF m pc ls (.int n :: st)) rfl hd rfl hn (cap := cap) hcap hb hc hl had
  exact own_go st1 (K T1 h1 _ k1 X1 e1 E1 rfl ((Arv.new A1 hn).pad (pad_rep [] _ q)) Z1)
theorem own_callS (X : Stand p l e R s m args below meth c T locs cells slots) (hx : p.tables.exec = Jvm.exec) {Z : State} {a0 : Array Value} {h : Heap} {own : String} {ix : Nat} {y : MethodName} {bytes : ByteArray} {maxL W : Nat} {ret : Option FieldType} {rm : Room} {Qc : Option Value → Heap → List Loc → Prop} {argsL rest : List Value} (hZ : Z.Warmed39 s.vm) (eT : T.heap = h) (hown : s.vm.findClass own = some m.cls) (hsz : ls.size = c.maxLocals) (wl : (Jvm.Cond.methodLink own ix y).before a0 Z = true) (ws : (Jvm.Cond.static y).before a0 Z = true) (wi : (Jvm.Cond.initialized y.cls).before a0 Z = true) (wc : (Jvm.Cond.code y bytes maxL ret).before a0 Z = true) (hy : y.cls ≠ "java/lang/invoke/MethodHandle" ∧ y.cls ≠ "java/lang/invoke/VarHandle") (hM : MetFree l y (head1 [Jvm.Cond.code y bytes maxL ret] rm) (fun a U => a = argsL.toArray ∧ Z.Warmed39 U.vm ∧ U.heap = h) (fun _ _ _ _ _ => True) (fun _ U o U' => ∃ v L, o = .returned v ∧ Qc v U'.heap L ∧ FrameEnd U o U' L rm.cells rm.slots)) (hf : rm.frames + 1 ≤ R.frames) (hlo : W + (maxL + 11) + rm.locals ≤ R.locals) (hcl : cells + rm.cells ≤ R.cells) (hsl : slots + rm.slots ≤ R.slots)
    (hlen : ∀ sig, parseMethodDescriptor y.desc = some sig → argsL.length = sig.parameters.length) (hst : st = argsL.reverse ++ rest) (hW : 2 * 0 + (rest.map fun v => v.category).sum ≤ W) (hd : decode c.code pc = .ok (.invokestatic ix, 3)) (hp : pc + 3 = pc') (K : ∀ T' L v, Stand p l e R s m args below meth c T' (locs ++ L) (cells + rm.cells) (slots + rm.slots) → Qc v T'.heap L → own_Ends p e below s Q kc ks T' (mkF m pc' ls (v.toList ++ rest))) : own_Ends p e below s Q kc ks T (mkF m pc ls st) := by
  subst hp
  obtain ⟨v, _, ⟨T1, L1, k1, n1⟩, -, X1, ⟨Lc, hQ, r1, r2, r3⟩, st1⟩ := Jvm.LawKit.callS X hx (y := y) hown (mvT hZ wl) (mvT hZ ws) (mvT hZ wi) (mvT hZ wc) hy (backOf (W := W) hM hZ wc wi hf hlo) (g := mkF m pc ls st) rfl hsz (argsL := argsL) (rest := rest) hlen hst hW hd (fun _ _ => ⟨rfl, eT, hcl, hsl⟩)
  dsimp only [Pt.U, Pt.locs, Pt.cells, Pt.slots] at X1 r1 r2 r3 st1 hQ
  subst r1 r2 r3
  exact own_go (st1) (K T1 Lc v X1 hQ)
theorem own_callC (X : Stand p l e R s m args below meth c T locs cells slots) (hx : p.tables.exec = Jvm.exec) {b : Addr} {Z : State} {a0 : Array Value} {h : Heap} {own : String} {ix : Nat} {y : MethodName} {bytes : ByteArray} {maxL W : Nat} {ret : Option FieldType} {rm : Room} {Qc : Option Value → Heap → List Loc → Prop} {argsL rest : List Value} (hZ : Z.Warmed39 s.vm) (eT : T.heap = h) (hown : s.vm.findClass own = some m.cls) (hsz : ls.size = c.maxLocals) (hret : ret = none) (hinit : y.name = "<init>") (wl : (Jvm.Cond.methodLink own ix y).before a0 Z = true) (wm : (Jvm.Cond.instanceMethod y).before a0 Z = true) (wi : (Jvm.Cond.initialized y.cls).before a0 Z = true) (wc : (Jvm.Cond.code y bytes maxL ret).before a0 Z = true) (hy : y.cls ≠ "java/lang/invoke/MethodHandle" ∧ y.cls ≠ "java/lang/invoke/VarHandle") (hM : MetFree l y (head1 [Jvm.Cond.code y bytes maxL ret] rm) (fun a U => a = (Value.ref b :: argsL).toArray ∧ Z.Warmed39 U.vm ∧ U.heap = h) (fun _ _ _ _ _ => True) (fun _ U o U' => ∃ v L, o = .returned v ∧ Qc v U'.heap L ∧ FrameEnd U o U' L rm.cells rm.slots)) (hf : rm.frames + 1 ≤ R.frames) (hlo : W + (maxL + 11) + rm.locals ≤ R.locals) (hcl : cells + rm.cells ≤ R.cells) (hsl : slots + rm.slots ≤ R.slots)
    (hlen : ∀ sig, parseMethodDescriptor y.desc = some sig → argsL.length = sig.parameters.length) (hst : st = argsL.reverse ++ .ref b :: rest) (hW : 2 * 0 + (rest.map fun v => v.category).sum ≤ W) (hd : decode c.code pc = .ok (.invokespecial ix, 3)) (hp : pc + 3 = pc') (K : ∀ T' L v, Stand p l e R s m args below meth c T' (locs ++ L) (cells + rm.cells) (slots + rm.slots) → Qc v T'.heap L → own_Ends p e below s Q kc ks T' (mkF m pc' ls (v.toList ++ rest))) : own_Ends p e below s Q kc ks T (mkF m pc ls st) := by
  subst hp hret
  obtain ⟨v, _, ⟨T1, L1, k1, n1⟩, -, X1, ⟨Lc, hQ, r1, r2, r3⟩, st1⟩ := X.specialBack hx (y := y) hinit hown (mvT hZ wl) (mvT hZ wm) (mvT hZ wc) hy (backOf (W := W) hM hZ wc wi hf hlo) (g := mkF m pc ls st) rfl hsz (Steps.refl _) (a := b) (argsL := argsL) (rest := rest) hlen hst hW hd (fun _ _ => ⟨rfl, eT, hcl, hsl⟩)
  dsimp only [Pt.U, Pt.locs, Pt.cells, Pt.slots] at X1 r1 r2 r3 st1 hQ
  subst r1 r2 r3
  exact own_go (fun t k => st1.trans k) (K T1 Lc v X1 hQ)
theorem own_callV (X : Stand p l e R s m args below meth c T locs cells slots) (hx : p.tables.exec = Jvm.exec) {b : Addr} {C : String} {Z : State} {a0 : Array Value} {h : Heap} {own : String} {ix : Nat} {y : MethodName} {bytes : ByteArray} {maxL W : Nat} {ret : Option FieldType} {rm : Room} {Qc : Option Value → Heap → List Loc → Prop} {argsL rest : List Value} (hZ : Z.Warmed39 s.vm) (eT : T.heap = h) (hown : s.vm.findClass own = some m.cls) (hsz : ls.size = c.maxLocals) (E : Exa Z h b C) (wl : (Jvm.Cond.methodLink own ix y).before a0 Z = true) (wd : (Jvm.Cond.declares y).before a0 Z = true) (wsel : (Jvm.Cond.selects C y y).before a0 Z = true) (wm : (Jvm.Cond.instanceMethod y).before a0 Z = true) (wi : (Jvm.Cond.initialized y.cls).before a0 Z = true) (wc : (Jvm.Cond.code y bytes maxL ret).before a0 Z = true) (hy : y.cls ≠ "java/lang/invoke/MethodHandle" ∧ y.cls ≠ "java/lang/invoke/VarHandle") (hM : MetFree l y (head1 [Jvm.Cond.code y bytes maxL ret] rm) (fun a U => a = (Value.ref b :: argsL).toArray ∧ Z.Warmed39 U.vm ∧ U.heap = h) (fun _ _ _ _ _ => True) (fun _ U o U' => ∃ v L, o = .returned v ∧ Qc v U'.heap L ∧ FrameEnd U o U' L rm.cells rm.slots)) (hf : rm.frames + 1 ≤ R.frames) (hlo : W + (maxL + 11) + rm.locals ≤ R.locals) (hcl : cells + rm.cells ≤ R.cells) (hsl : slots + rm.slots ≤ R.slots)
    (hlen : ∀ sig, parseMethodDescriptor y.desc = some sig → argsL.length = sig.parameters.length) (hst : st = argsL.reverse ++ .ref b :: rest) (hW : 2 * 0 + (rest.map fun v => v.category).sum ≤ W) (hd : decode c.code pc = .ok (.invokevirtual ix, 3)) (hp : pc + 3 = pc') (K : ∀ T' L v, Stand p l e R s m args below meth c T' (locs ++ L) (cells + rm.cells) (slots + rm.slots) → Qc v T'.heap L → own_Ends p e below s Q kc ks T' (mkF m pc' ls (v.toList ++ rest))) : own_Ends p e below s Q kc ks T (mkF m pc ls st) := by
  subst hp
  obtain ⟨cq, kq, qa, qb, qc⟩ := isOf hZ eT E
  obtain ⟨v, _, ⟨T1, L1, k1, n1⟩, -, X1, ⟨Lc, hQ, r1, r2, r3⟩, st1⟩ := X.virtualBack hx (y := y) (z := y) hown (mvT hZ wl) (mvT hZ wd) (notFace_of_selects (args := #[]) (mvT hZ wsel)) (mvT hZ wsel) (mvT hZ wm) hy (backOf (W := W) hM hZ wc wi hf hlo) qa qc (g := mkF m pc ls st) rfl hsz (Steps.refl _) (argsL := argsL) (rest := rest) hlen hst hW hd (fun _ _ => ⟨rfl, eT, hcl, hsl⟩)
  dsimp only [Pt.U, Pt.locs, Pt.cells, Pt.slots] at X1 r1 r2 r3 st1 hQ
  subst r1 r2 r3
  exact own_go (fun t k => st1.trans k) (K T1 Lc v X1 hQ)
theorem own_callP (X : Stand p l e R s m args below meth c T locs cells slots) (hx : p.tables.exec = Jvm.exec) {b : Addr} {C : String} {Z : State} {a0 : Array Value} {h : Heap} {own : String} {ix : Nat} {y : MethodName} {bytes : ByteArray} {maxL W : Nat} {ret : Option FieldType} {rm : Room} {Qc : Option Value → Heap → List Loc → Prop} {argsL rest : List Value} (hZ : Z.Warmed39 s.vm) (eT : T.heap = h) (hown : s.vm.findClass own = some m.cls) (hsz : ls.size = c.maxLocals) (E : Exa Z h b C) (wl : (Jvm.Cond.methodLink own ix y).before a0 Z = true) (wsel : (Jvm.Cond.selects y.cls y y).before a0 Z = true) (wp : (Jvm.Cond.privateMethod y).before a0 Z = true) (wm : (Jvm.Cond.instanceMethod y).before a0 Z = true) (wi : (Jvm.Cond.initialized y.cls).before a0 Z = true) (wc : (Jvm.Cond.code y bytes maxL ret).before a0 Z = true) (hy : y.cls ≠ "java/lang/invoke/MethodHandle" ∧ y.cls ≠ "java/lang/invoke/VarHandle") (hM : MetFree l y (head1 [Jvm.Cond.code y bytes maxL ret] rm) (fun a U => a = (Value.ref b :: argsL).toArray ∧ Z.Warmed39 U.vm ∧ U.heap = h) (fun _ _ _ _ _ => True) (fun _ U o U' => ∃ v L, o = .returned v ∧ Qc v U'.heap L ∧ FrameEnd U o U' L rm.cells rm.slots)) (hf : rm.frames + 1 ≤ R.frames) (hlo : W + (maxL + 11) + rm.locals ≤ R.locals) (hcl : cells + rm.cells ≤ R.cells) (hsl : slots + rm.slots ≤ R.slots)
    (hlen : ∀ sig, parseMethodDescriptor y.desc = some sig → argsL.length = sig.parameters.length) (hst : st = argsL.reverse ++ .ref b :: rest) (hW : 2 * 0 + (rest.map fun v => v.category).sum ≤ W) (hd : decode c.code pc = .ok (.invokevirtual ix, 3)) (hp : pc + 3 = pc') (K : ∀ T' L v, Stand p l e R s m args below meth c T' (locs ++ L) (cells + rm.cells) (slots + rm.slots) → Qc v T'.heap L → own_Ends p e below s Q kc ks T' (mkF m pc' ls (v.toList ++ rest))) : own_Ends p e below s Q kc ks T (mkF m pc ls st) := by
  subst hp
  obtain ⟨cq, qa, qb⟩ := E.cell
  obtain ⟨v, _, ⟨T1, L1, k1, n1⟩, -, X1, ⟨Lc, hQ, r1, r2, r3⟩, st1⟩ := X.privateBack hx (y := y) hown (mvT hZ wl) (mvT hZ wm) (mvT hZ wsel) (Jvm.Cond.privateMethod_at (mvP hZ wp (args := #[]))) (mvT hZ wc) hy (backOf (W := W) hM hZ wc wi hf hlo) (g := mkF m pc ls st) rfl hsz (Steps.refl _) (a := b) (by rw [eT]; exact qa) qb (argsL := argsL) (rest := rest) hlen hst hW hd (fun _ _ => ⟨rfl, eT, hcl, hsl⟩)
  dsimp only [Pt.U, Pt.locs, Pt.cells, Pt.slots] at X1 r1 r2 r3 st1 hQ
  subst r1 r2 r3
  exact own_go (fun t k => st1.trans k) (K T1 Lc v X1 hQ)
theorem own_mvM {Z : State} {a0 args : Array Value} {own host : String} {ix : Nat} {y : MethodName} (hZ : Z.Warmed39 s.vm) (w : (Jvm.Cond.methodLinkNest own ix y host).before a0 Z = true) : (Jvm.Cond.methodLinkNest own ix y host).before args s = true := (Jvm.Cond.methodLinkNest_wide hZ w :)
theorem own_callN (X : Stand p l e R s m args below meth c T locs cells slots) (hx : p.tables.exec = Jvm.exec) {b : Addr} {host : String} {Z : State} {a0 : Array Value} {h : Heap} {own : String} {ix : Nat} {y : MethodName} {bytes : ByteArray} {maxL W : Nat} {ret : Option FieldType} {rm : Room} {Qc : Option Value → Heap → List Loc → Prop} {argsL rest : List Value} (hZ : Z.Warmed39 s.vm) (eT : T.heap = h) (hown : s.vm.findClass own = some m.cls) (hsz : ls.size = c.maxLocals) (hret : ret = none) (hinit : y.name = "<init>") (wl : (Jvm.Cond.methodLinkNest own ix y host).before a0 Z = true) (wm : (Jvm.Cond.instanceMethod y).before a0 Z = true) (wi : (Jvm.Cond.initialized y.cls).before a0 Z = true) (wc : (Jvm.Cond.code y bytes maxL ret).before a0 Z = true) (hy : y.cls ≠ "java/lang/invoke/MethodHandle" ∧ y.cls ≠ "java/lang/invoke/VarHandle") (hM : MetFree l y (head1 [Jvm.Cond.code y bytes maxL ret] rm) (fun a U => a = (Value.ref b :: argsL).toArray ∧ Z.Warmed39 U.vm ∧ U.heap = h) (fun _ _ _ _ _ => True) (fun _ U o U' => ∃ v L, o = .returned v ∧ Qc v U'.heap L ∧ FrameEnd U o U' L rm.cells rm.slots)) (hf : rm.frames + 1 ≤ R.frames) (hlo : W + (maxL + 11) + rm.locals ≤ R.locals) (hcl : cells + rm.cells ≤ R.cells) (hsl : slots + rm.slots ≤ R.slots)
    (hlen : ∀ sig, parseMethodDescriptor y.desc = some sig → argsL.length = sig.parameters.length) (hst : st = argsL.reverse ++ .ref b :: rest) (hW : 2 * 0 + (rest.map fun v => v.category).sum ≤ W) (hd : decode c.code pc = .ok (.invokespecial ix, 3)) (hp : pc + 3 = pc') (K : ∀ T' L v, Stand p l e R s m args below meth c T' (locs ++ L) (cells + rm.cells) (slots + rm.slots) → Qc v T'.heap L → own_Ends p e below s Q kc ks T' (mkF m pc' ls (v.toList ++ rest))) : own_Ends p e below s Q kc ks T (mkF m pc ls st) := by
  subst hp hret
  obtain ⟨v, _, ⟨T1, L1, k1, n1⟩, -, X1, ⟨Lc, hQ, r1, r2, r3⟩, st1⟩ := X.specialBackNest hx (y := y) hinit hown (own_mvM hZ wl) (mvT hZ wm) (mvT hZ wc) hy (backOf (W := W) hM hZ wc wi hf hlo) (g := mkF m pc ls st) rfl hsz (Steps.refl _) (a := b) (argsL := argsL) (rest := rest) hlen hst hW hd (fun _ _ => ⟨rfl, eT, hcl, hsl⟩)
  dsimp only [Pt.U, Pt.locs, Pt.cells, Pt.slots] at X1 r1 r2 r3 st1 hQ
  subst r1 r2 r3
  exact own_go (fun t k => st1.trans k) (K T1 Lc v X1 hQ)
theorem own_anewarr (X : Stand p l e R s m args below meth c T locs cells slots) (hx : p.tables.exec = Jvm.exec) {Z : State} {a0 : Array Value} {h : Heap} {own C : String} {ix : Nat} (hZ : Z.Warmed39 s.vm) (hown : s.vm.findClass own = some m.cls) (w1 : (Jvm.Cond.classLink own ix C).before a0 Z = true) (w2 : (Jvm.Cond.arrayOver (.object C)).before a0 Z = true) (eT : T.heap = h) (hd : decode c.code pc = .ok (.anewarray ix, 3)) (hp : pc + 3 = pc') {n : Int32} (hn : ¬ n < 0) (cap q : Nat) (hcap : n.toNatClampNeg ≤ cap) (hb : cap * 8 ≤ 536870912) (hc : cells + 1 ≤ R.cells) (hl : slots + cap ≤ R.slots) {ad : String} (had : "[" ++ (FieldType.object C).toString = ad)
    (K : ∀ T' h' a k, Stand p l e R s m args below meth c T' locs (cells + 1) (slots + cap) → T'.heap = h' → Ext h h' → a = h.size → Arv Z h' a k (.object C) n (List.replicate q .null) .null → Exa Z h' a ad → Ovr Z k C → own_Ends p e below s Q kc ks T' (mkF m pc' ls (.ref a :: st))) : own_Ends p e below s Q kc ks T (mkF m pc ls (.int n :: st)) := by
  subst hp
  obtain ⟨T1, h1, k1, X1, e1, E1, A1, Z1, O1, st1⟩ := newRE X hx hZ hown w1 w2 eT (g := mkF m pc ls (.int n :: st)) rfl hd rfl hn (cap := cap) hcap hb hc hl had
  exact own_go st1 (K T1 h1 _ k1 X1 e1 E1 rfl ((Arv.new A1 hn).pad (pad_rep [] _ q)) Z1 O1)
theorem own_aastore (X : Stand p l e R s m args below meth c T locs cells slots) (hx : p.tables.exec = Jvm.exec) {Z : State} {h : Heap} {a b : Addr} {k : ClassId} {C D : String} {n j : Int32} {vs : List Value} {d : Value} (hZ : Z.Warmed39 s.vm) (eT : T.heap = h) (V : Arv Z h a k (.object D) n vs d) (O : Ovr Z k C) (I : Ins Z h b C true) (hd : decode c.code pc = .ok (.aastore, 1)) (hp : pc + 1 = pc') (hj : ¬ j < 0 ∧ j < n) (i : Nat) (hi : j.toNatClampNeg = i) (hl : i < vs.length) {n0 : Nat} (N : Fr n0 locs) (ge : n0 ≤ a)
    (K : ∀ T' h' L, Stand p l e R s m args below meth c T' L cells slots → T'.heap = h' → Fr n0 L → Wr h h' a j.toNatClampNeg (.ref b) → Arv Z h' a k (.object D) n (vs.set i (.ref b)) d → own_Ends p e below s Q kc ks T' (mkF m pc' ls st)) : own_Ends p e below s Q kc ks T (mkF m pc ls (.ref b :: .int j :: .ref a :: st)) := by
  subst hp
  obtain ⟨cl, A, q1, S, q2, H, G⟩ := V
  have hin := inb_of S hj
  obtain ⟨T1, h1, X1, e1, W1, st1⟩ := stR X hx hZ eT A (j := j) hin rfl (Sto.ofV A q1 O I) (g := mkF m pc ls (.ref b :: .int j :: .ref a :: st)) rfl rfl hd
  exact own_go st1 (K T1 h1 _ X1 e1 (Fr.snoc X1 N ge) W1 (Arv.set A q1 S q2 H G rfl W1 i hi hl))
theorem own_tswIn (X : Stand p l e R s m args below meth c T locs cells slots) (hx : p.tables.exec = Jvm.exec) {d lo hi o : Int} {offs : Array Int} {len : Nat} {i : Int32} (hd : decode c.code pc = .ok (.tableswitch d lo hi offs, len)) (hin : ¬ (i.toInt < lo ∨ i.toInt > hi)) (hoff : offs[(i.toInt - lo).toNat]? = some o) (ho : 0 ≤ (pc : Int) + o) (hp : ((pc : Int) + o).toNat = pc') (K : own_Ends p e below s Q kc ks T (mkF m pc' ls st)) : own_Ends p e below s Q kc ks T (mkF m pc ls (.int i :: st)) :=
  own_go (fun t k => XS.tswIn X.here hx rfl rfl hd rfl hin hoff ho hp k) K
theorem own_tswOut (X : Stand p l e R s m args below meth c T locs cells slots) (hx : p.tables.exec = Jvm.exec) {d lo hi : Int} {offs : Array Int} {len : Nat} {i : Int32} (hd : decode c.code pc = .ok (.tableswitch d lo hi offs, len)) (hout : i.toInt < lo ∨ i.toInt > hi) (ho : 0 ≤ (pc : Int) + d) (hp : ((pc : Int) + d).toNat = pc') (K : own_Ends p e below s Q kc ks T (mkF m pc' ls st)) : own_Ends p e below s Q kc ks T (mkF m pc ls (.int i :: st)) :=
  own_go (fun t k => XS.tswOut X.here hx rfl rfl hd rfl hout ho hp k) K
theorem own_ext {h h' : Heap} (K : Keep h h' []) : Ext h h' := ⟨K.1, fun a c q => K.2.1 a c q nin0⟩
theorem own_stak {Z : State} {h h' : Heap} {ws : List Addr} {C n d : String} {v : Value} (F : Sta Z h C n d v) (K : Keep h h' ws) (q : ∀ x ∈ ws, ∃ c : Cell, h[x]? = some c ∧ c.vm.isStatics = false) : Sta Z h' C n d v := by
  obtain ⟨cf, i, k, f, st, cell, h1, h2, h3, h4, h5, h6, h7⟩ := F
  refine ⟨cf, i, k, f, st, cell, h1, h2, h3, h4, K.2.1 st cell h5 (fun z => ?_), h6, h7⟩
  obtain ⟨c, q1, q2⟩ := q st z
  cases h5.symm.trans q1
  rw [h6] at q2; cases q2
theorem own_exac {Z : State} {h : Heap} {a : Addr} {C : String} (F : Exa Z h a C) : ∃ c : Cell, h[a]? = some c ∧ c.vm.isStatics = false := by
  obtain ⟨c, _, h1, -, -, h4, -⟩ := F; exact ⟨c, h1, h4⟩
theorem own_arvc {Z : State} {h : Heap} {a : Addr} {k : ClassId} {ty : FieldType} {n : Int32} {vs : List Value} {d : Value} (F : Arv Z h a k ty n vs d) : ∃ c : Cell, h[a]? = some c ∧ c.vm.isStatics = false := by
  obtain ⟨c, A, -⟩ := F; exact ⟨c, A.1, A.plain⟩
end Own
theorem own_w0 {Z : State} {a0 : Array Value} (hw : ∀ d ∈ tables_1, d.before a0 Z = true) : (Jvm.Cond.methodLink "com/example/closure_crew/closurecrew/engine/RelationFinishPinLaw" (9 : Nat) ({ cls := "com/example/closure_crew/closurecrew/engine/Relation", name := "finish", desc := "(I)I" } : Jvm.MethodName)).before a0 Z = true := hw _ (List.mem_of_getElem? (i := 0) rfl)
theorem own_w1 {Z : State} {a0 : Array Value} (hw : ∀ d ∈ tables_1, d.before a0 Z = true) : (Jvm.Cond.static ({ cls := "com/example/closure_crew/closurecrew/engine/Relation", name := "finish", desc := "(I)I" } : Jvm.MethodName)).before a0 Z = true := hw _ (List.mem_of_getElem? (i := 1) rfl)
theorem own_w2 {Z : State} {a0 : Array Value} (hw : ∀ d ∈ tables_1, d.before a0 Z = true) : (Jvm.Cond.initialized "com/example/closure_crew/closurecrew/engine/Relation").before a0 Z = true := hw _ (List.mem_of_getElem? (i := 2) rfl)
theorem own_w3 {Z : State} {a0 : Array Value} (hw : ∀ d ∈ tables_1, d.before a0 Z = true) : (Jvm.Cond.code ({ cls := "com/example/closure_crew/closurecrew/engine/Relation", name := "finish", desc := "(I)I" } : Jvm.MethodName) prog_33_method_33_code (1 : Nat) (Option.some Jvm.ClassFile.FieldType.int)).before a0 Z = true := hw _ (List.mem_of_getElem? (i := 3) rfl)
theorem own_w4 {Z : State} {a0 : Array Value} (hw : ∀ d ∈ tables_1, d.before a0 Z = true) : (Jvm.Cond.constant "com/example/closure_crew/closurecrew/engine/Relation" (304 : Nat) (-2048144789 : Int32)).before a0 Z = true := hw _ (List.mem_of_getElem? (i := 4) rfl)
theorem own_w5 {Z : State} {a0 : Array Value} (hw : ∀ d ∈ tables_1, d.before a0 Z = true) : (Jvm.Cond.constant "com/example/closure_crew/closurecrew/engine/Relation" (305 : Nat) (-1028477387 : Int32)).before a0 Z = true := hw _ (List.mem_of_getElem? (i := 5) rfl)
theorem own_w6 {Z : State} {a0 : Array Value} (hw : ∀ d ∈ tables_1, d.before a0 Z = true) : (Jvm.Cond.methodLink "com/example/closure_crew/closurecrew/engine/RelationFinishPinLaw" (15 : Nat) ({ cls := "com/example/closure_crew/closurecrew/engine/RelationFinishPinLaw", name := "unfinish", desc := "(I)I" } : Jvm.MethodName)).before a0 Z = true := hw _ (List.mem_of_getElem? (i := 6) rfl)
theorem own_w7 {Z : State} {a0 : Array Value} (hw : ∀ d ∈ tables_1, d.before a0 Z = true) : (Jvm.Cond.static ({ cls := "com/example/closure_crew/closurecrew/engine/RelationFinishPinLaw", name := "unfinish", desc := "(I)I" } : Jvm.MethodName)).before a0 Z = true := hw _ (List.mem_of_getElem? (i := 7) rfl)
theorem own_w8 {Z : State} {a0 : Array Value} (hw : ∀ d ∈ tables_1, d.before a0 Z = true) : (Jvm.Cond.initialized "com/example/closure_crew/closurecrew/engine/RelationFinishPinLaw").before a0 Z = true := hw _ (List.mem_of_getElem? (i := 8) rfl)
theorem own_w9 {Z : State} {a0 : Array Value} (hw : ∀ d ∈ tables_1, d.before a0 Z = true) : (Jvm.Cond.code ({ cls := "com/example/closure_crew/closurecrew/engine/RelationFinishPinLaw", name := "unfinish", desc := "(I)I" } : Jvm.MethodName) method_2_code (2 : Nat) (Option.some Jvm.ClassFile.FieldType.int)).before a0 Z = true := hw _ (List.mem_of_getElem? (i := 9) rfl)
theorem own_w10 {Z : State} {a0 : Array Value} (hw : ∀ d ∈ tables_1, d.before a0 Z = true) : (Jvm.Cond.constant "com/example/closure_crew/closurecrew/engine/RelationFinishPinLaw" (7 : Nat) (2127672349 : Int32)).before a0 Z = true := hw _ (List.mem_of_getElem? (i := 10) rfl)
theorem own_w11 {Z : State} {a0 : Array Value} (hw : ∀ d ∈ tables_1, d.before a0 Z = true) : (Jvm.Cond.constant "com/example/closure_crew/closurecrew/engine/RelationFinishPinLaw" (8 : Nat) (-1513385405 : Int32)).before a0 Z = true := hw _ (List.mem_of_getElem? (i := 11) rfl)
theorem own_pd0 : parseMethodDescriptor "(I)I" = some ⟨[.int], some .int⟩ := by decide +kernel
theorem own_pn0 : plainName "com/example/closure_crew/closurecrew/engine/Relation" = true := by first | (simp [plainName, overriddenIn]; done) | decide +kernel
theorem own_pn1 : plainName "com/example/closure_crew/closurecrew/engine/RelationFinishPinLaw" = true := by first | (simp [plainName, overriddenIn]; done) | decide +kernel
theorem own_arrat {s : State} {a : Addr} {c : Cell} (h : s.arrayAt? a = some c) : s.heap[a]? = some c := by
  unfold State.arrayAt? at h
  cases q : s.heap[a]? with
  | none => simp [q] at h
  | some d =>
    simp [q] at h
    obtain ⟨k, -, h2⟩ := Option.bind_eq_some_iff.mp h
    split at h2
    · cases h2
    · split at h2
      · exact h2
      · cases h2
theorem own_b1 {x a b : Int32} (h : x < a) (q : ¬ b < a) : x < b := by rw [Int32.lt_iff_toInt_lt] at *; omega
theorem own_b2 {x a b : Int32} (h : ¬ x < a) (q : ¬ a < b) : ¬ x < b := by rw [Int32.lt_iff_toInt_lt] at *; omega
theorem own_b3 {x a b : Int32} (h : a < x) (q : ¬ a < b) : b < x := by rw [Int32.lt_iff_toInt_lt] at *; omega
theorem own_b4 {x a b : Int32} (h : ¬ a < x) (q : ¬ b < a) : ¬ b < x := by rw [Int32.lt_iff_toInt_lt] at *; omega
theorem own_b5 {x a b : Int32} (h : x < a) (q : ¬ b < a - 1 ∧ a - 1 < a) : ¬ b < x := by
  obtain ⟨q1, q2⟩ := q
  have := c_isub a 1; have := rng32 a; have := rng32 (a - 1); have e1 : (1 : Int32).toInt = 1 := rfl
  rw [Int32.lt_iff_toInt_lt] at *; omega
theorem own_b6 {x a b : Int32} (h : ¬ x < a) (q : b < a) : b < x := by rw [Int32.lt_iff_toInt_lt] at *; omega
theorem own_b7 {x a b : Int32} (h : a < x) (q : ¬ a + 1 < b ∧ a < a + 1) : ¬ x < b := by
  obtain ⟨q1, q2⟩ := q
  have := c_iadd a 1; have := rng32 a; have := rng32 (a + 1); have e1 : (1 : Int32).toInt = 1 := rfl
  rw [Int32.lt_iff_toInt_lt] at *; omega
theorem own_b8 {x a b : Int32} (h : ¬ a < x) (q : a < b) : x < b := by rw [Int32.lt_iff_toInt_lt] at *; omega
theorem own_n1 {x b : Int32} (h : x < b) : ¬ x = b := fun q => by subst q; rw [Int32.lt_iff_toInt_lt] at h; omega
theorem own_n2 {x b : Int32} (h : b < x) : ¬ x = b := fun q => by subst q; rw [Int32.lt_iff_toInt_lt] at h; omega
theorem own_i1 {x y : Int32} (h : x < y) : x.toInt < y.toInt := Int32.lt_iff_toInt_lt.mp h
theorem own_i2 {x y : Int32} (h : ¬ x < y) : y.toInt ≤ x.toInt := Int.not_lt.mp fun q => h (Int32.lt_iff_toInt_lt.mpr q)
theorem own_i3 {x y : Int32} (h : x = y) : x.toInt = y.toInt := congrArg Int32.toInt h
theorem own_i4 {x y : Int32} (h : ¬ x = y) : ¬ x.toInt = y.toInt := fun q => h (Int32.toInt_inj.mp q)
theorem own_some {x y : Int32} (h : x = y) : some (Value.int x) = some (Value.int y) := congrArg (fun z => some (Value.int z)) h
theorem own_ae1 {a b : Addr} (h : a = b) : XT.acmp .eq (.ref a) (.ref b) = true ∧ XT.acmp .ne (.ref a) (.ref b) = false := ⟨decide_eq_true (congrArg Value.ref h), decide_eq_false fun q => q (congrArg Value.ref h)⟩
theorem own_ae0 {a b : Addr} (h : ¬ a = b) : XT.acmp .eq (.ref a) (.ref b) = false ∧ XT.acmp .ne (.ref a) (.ref b) = true := ⟨decide_eq_false fun q => h (Value.ref.inj q), decide_eq_true fun q => h (Value.ref.inj q)⟩
theorem own_ann : XT.acmp .eq .null .null = true ∧ XT.acmp .ne .null .null = false := ⟨rfl, rfl⟩
theorem own_anr (b : Addr) : XT.acmp .eq .null (.ref b) = false ∧ XT.acmp .ne .null (.ref b) = true := by constructor <;> first | rfl | (simp [XT.acmp]; done) | decide
theorem own_arn (b : Addr) : XT.acmp .eq (.ref b) .null = false ∧ XT.acmp .ne (.ref b) .null = true := by constructor <;> first | rfl | (simp [XT.acmp]; done) | decide
theorem own_eqi {args : Array Value} {s : State} {t : Term} {k : Int32} (h : (Jvm.Cond.eq t (Term.int k)).value args s none s [] = some true) : t.eval args s none [] s = some (.int k) := by
  obtain ⟨x, y, e1, e2, k1, k2⟩ := cmp_v (Or.inl h)
  obtain rfl : Value.int k = y := Option.some.inj ((Term.int_eval k).symm.trans e2)
  obtain ⟨z, rfl⟩ : ∃ z, x = .int z := k2
  have q : z = k := gotT (Cond.eq_ints e1 (Term.int_eval k)) h
  rw [e1, q]
theorem own_eql {args : Array Value} {s : State} {t : Term} {k : Int64} (h : (Jvm.Cond.eq t (Term.long k)).value args s none s [] = some true) : t.eval args s none [] s = some (.long k) := by
  obtain ⟨x, y, e1, e2, k1, k2⟩ := cmp_v (Or.inl h)
  obtain rfl : Value.long k = y := Option.some.inj ((show (Term.long k).eval args s none [] s = some (.long k) from rfl).symm.trans e2)
  obtain ⟨z, rfl⟩ : ∃ z, x = .long z := k2
  have q : z = k := gotT (eq_L e1 (show (Term.long k).eval args s none [] s = some (.long k) from rfl)) h
  rw [e1, q]
theorem own_len {args : Array Value} {s : State} {t : Term} {k : Int32} {a : Addr} {c : Cell} (h : (Term.length t).eval args s none [] s = some (.int k)) (ht : t.eval args s none [] s = some (.ref a)) (hc : s.heap[a]? = some c) : c.slots.size.toInt32 = k ∧ c.slots.size < 2 ^ 31 := by
  obtain ⟨a', cell, e1, e2, e3⟩ := Term.length_spec h
  cases ht.symm.trans e1
  have e4 : s.heap[a]? = some cell := own_arrat e2
  cases hc.symm.trans e4
  refine ⟨(Value.int.inj e3).symm, ?_⟩
  by_cases q : c.slots.size < 2 ^ 31
  · exact q
  · simp [Term.eval, ht, e2, q] at h
theorem own_nb0 : nar .boolean 0 = 0 := by decide
theorem own_nb1 : nar .boolean 1 = 1 := by decide
def own_ushr (x y : Int32) : Int32 := (x.toUInt32 >>> (y &&& 31).toUInt32).toInt32
def own_ushrL (x : Int64) (y : Int32) : Int64 := (x.toUInt64 >>> (y &&& 0x3f).toInt64.toUInt64).toInt64
theorem own_d1_0 : decode prog_33_method_33_code 0 = .ok (.iload_n 0, 1) := by decide +kernel
theorem own_d1_1 : decode prog_33_method_33_code 1 = .ok (.iload_n 0, 1) := by decide +kernel
theorem own_d1_2 : decode prog_33_method_33_code 2 = .ok (.bipush 16, 2) := by decide +kernel
theorem own_d1_4 : decode prog_33_method_33_code 4 = .ok (.iushr, 1) := by decide +kernel
theorem own_d1_5 : decode prog_33_method_33_code 5 = .ok (.ixor, 1) := by decide +kernel
theorem own_d1_6 : decode prog_33_method_33_code 6 = .ok (.istore_n 0, 1) := by decide +kernel
theorem own_d1_7 : decode prog_33_method_33_code 7 = .ok (.iload_n 0, 1) := by decide +kernel
theorem own_d1_8 : decode prog_33_method_33_code 8 = .ok (.ldc_w 304, 3) := by decide +kernel
theorem own_d1_11 : decode prog_33_method_33_code 11 = .ok (.imul, 1) := by decide +kernel
theorem own_d1_12 : decode prog_33_method_33_code 12 = .ok (.istore_n 0, 1) := by decide +kernel
theorem own_d1_13 : decode prog_33_method_33_code 13 = .ok (.iload_n 0, 1) := by decide +kernel
theorem own_d1_14 : decode prog_33_method_33_code 14 = .ok (.iload_n 0, 1) := by decide +kernel
theorem own_d1_15 : decode prog_33_method_33_code 15 = .ok (.bipush 13, 2) := by decide +kernel
theorem own_d1_17 : decode prog_33_method_33_code 17 = .ok (.iushr, 1) := by decide +kernel
theorem own_d1_18 : decode prog_33_method_33_code 18 = .ok (.ixor, 1) := by decide +kernel
theorem own_d1_19 : decode prog_33_method_33_code 19 = .ok (.istore_n 0, 1) := by decide +kernel
theorem own_d1_20 : decode prog_33_method_33_code 20 = .ok (.iload_n 0, 1) := by decide +kernel
theorem own_d1_21 : decode prog_33_method_33_code 21 = .ok (.ldc_w 305, 3) := by decide +kernel
theorem own_d1_24 : decode prog_33_method_33_code 24 = .ok (.imul, 1) := by decide +kernel
theorem own_d1_25 : decode prog_33_method_33_code 25 = .ok (.istore_n 0, 1) := by decide +kernel
theorem own_d1_26 : decode prog_33_method_33_code 26 = .ok (.iload_n 0, 1) := by decide +kernel
theorem own_d1_27 : decode prog_33_method_33_code 27 = .ok (.iload_n 0, 1) := by decide +kernel
theorem own_d1_28 : decode prog_33_method_33_code 28 = .ok (.bipush 16, 2) := by decide +kernel
theorem own_d1_30 : decode prog_33_method_33_code 30 = .ok (.iushr, 1) := by decide +kernel
theorem own_d1_31 : decode prog_33_method_33_code 31 = .ok (.ixor, 1) := by decide +kernel
theorem own_d1_32 : decode prog_33_method_33_code 32 = .ok (.ireturn, 1) := by decide +kernel
theorem own_d2_0 : decode method_2_code 0 = .ok (.iload_n 0, 1) := by decide +kernel
theorem own_d2_1 : decode method_2_code 1 = .ok (.iload_n 0, 1) := by decide +kernel
theorem own_d2_2 : decode method_2_code 2 = .ok (.bipush 16, 2) := by decide +kernel
theorem own_d2_4 : decode method_2_code 4 = .ok (.iushr, 1) := by decide +kernel
theorem own_d2_5 : decode method_2_code 5 = .ok (.ixor, 1) := by decide +kernel
theorem own_d2_6 : decode method_2_code 6 = .ok (.istore_n 1, 1) := by decide +kernel
theorem own_d2_7 : decode method_2_code 7 = .ok (.iload_n 1, 1) := by decide +kernel
theorem own_d2_8 : decode method_2_code 8 = .ok (.ldc 7, 2) := by decide +kernel
theorem own_d2_10 : decode method_2_code 10 = .ok (.imul, 1) := by decide +kernel
theorem own_d2_11 : decode method_2_code 11 = .ok (.istore_n 1, 1) := by decide +kernel
theorem own_d2_12 : decode method_2_code 12 = .ok (.iload_n 1, 1) := by decide +kernel
theorem own_d2_13 : decode method_2_code 13 = .ok (.iload_n 1, 1) := by decide +kernel
theorem own_d2_14 : decode method_2_code 14 = .ok (.bipush 13, 2) := by decide +kernel
theorem own_d2_16 : decode method_2_code 16 = .ok (.iushr, 1) := by decide +kernel
theorem own_d2_17 : decode method_2_code 17 = .ok (.ixor, 1) := by decide +kernel
theorem own_d2_18 : decode method_2_code 18 = .ok (.iload_n 1, 1) := by decide +kernel
theorem own_d2_19 : decode method_2_code 19 = .ok (.bipush 26, 2) := by decide +kernel
theorem own_d2_21 : decode method_2_code 21 = .ok (.iushr, 1) := by decide +kernel
theorem own_d2_22 : decode method_2_code 22 = .ok (.ixor, 1) := by decide +kernel
theorem own_d2_23 : decode method_2_code 23 = .ok (.istore_n 1, 1) := by decide +kernel
theorem own_d2_24 : decode method_2_code 24 = .ok (.iload_n 1, 1) := by decide +kernel
theorem own_d2_25 : decode method_2_code 25 = .ok (.ldc 8, 2) := by decide +kernel
theorem own_d2_27 : decode method_2_code 27 = .ok (.imul, 1) := by decide +kernel
theorem own_d2_28 : decode method_2_code 28 = .ok (.istore_n 1, 1) := by decide +kernel
theorem own_d2_29 : decode method_2_code 29 = .ok (.iload_n 1, 1) := by decide +kernel
theorem own_d2_30 : decode method_2_code 30 = .ok (.iload_n 1, 1) := by decide +kernel
theorem own_d2_31 : decode method_2_code 31 = .ok (.bipush 16, 2) := by decide +kernel
theorem own_d2_33 : decode method_2_code 33 = .ok (.iushr, 1) := by decide +kernel
theorem own_d2_34 : decode method_2_code 34 = .ok (.ixor, 1) := by decide +kernel
theorem own_d2_35 : decode method_2_code 35 = .ok (.istore_n 1, 1) := by decide +kernel
theorem own_d2_36 : decode method_2_code 36 = .ok (.iload_n 1, 1) := by decide +kernel
theorem own_d2_37 : decode method_2_code 37 = .ok (.ireturn, 1) := by decide +kernel
theorem own_ushr_bv (x y : Int32) (k : Nat) (hy : ((y &&& 31).toUInt32.toBitVec % 32).toNat = k) : (own_ushr x y).toBitVec = x.toBitVec >>> k := by
  show x.toBitVec >>> ((y &&& 31).toUInt32.toBitVec % 32) = _
  rw [← hy]; rfl
theorem own_xs16 (x : BitVec 32) : (x ^^^ (x >>> 16)) ^^^ ((x ^^^ (x >>> 16)) >>> 16) = x := by
  apply BitVec.eq_of_getLsbD_eq
  intro i hi
  simp only [BitVec.getLsbD_xor, BitVec.getLsbD_ushiftRight]
  have : x.getLsbD (16 + (16 + i)) = false := BitVec.getLsbD_of_ge _ _ (by omega)
  rw [this]
  cases x.getLsbD i <;> cases x.getLsbD (16 + i) <;> rfl
theorem own_x16 (x : Int32) : (x ^^^ own_ushr x 16) ^^^ own_ushr (x ^^^ own_ushr x 16) 16 = x := by
  apply Int32.toBitVec_inj.mp
  simp only [Int32.toBitVec_xor, own_ushr_bv _ 16 16 (by decide)]
  exact own_xs16 _
theorem own_xs13 (x : BitVec 32) : (x ^^^ (x >>> 13)) ^^^ ((x ^^^ (x >>> 13)) >>> 13) ^^^ ((x ^^^ (x >>> 13)) >>> 26) = x := by
  apply BitVec.eq_of_getLsbD_eq
  intro i hi
  simp only [BitVec.getLsbD_xor, BitVec.getLsbD_ushiftRight]
  have h1 : x.getLsbD (13 + (26 + i)) = false := BitVec.getLsbD_of_ge _ _ (by omega)
  have e1 : 13 + (13 + i) = 26 + i := by omega
  rw [h1, e1]
  cases x.getLsbD i <;> cases x.getLsbD (13 + i) <;> cases x.getLsbD (26 + i) <;> rfl
theorem own_x13 (x : Int32) : (x ^^^ own_ushr x 13) ^^^ own_ushr (x ^^^ own_ushr x 13) 13 ^^^ own_ushr (x ^^^ own_ushr x 13) 26 = x := by
  apply Int32.toBitVec_inj.mp
  simp only [Int32.toBitVec_xor, own_ushr_bv _ 13 13 (by decide), own_ushr_bv _ 26 26 (by decide)]
  exact own_xs13 _
def own_finish (h : Int32) : Int32 :=
  let a := (h ^^^ own_ushr h 16) * (-2048144789)
  let b := (a ^^^ own_ushr a 13) * (-1028477387)
  b ^^^ own_ushr b 16
def own_unfinish (y : Int32) : Int32 :=
  let a := (y ^^^ own_ushr y 16) * 2127672349
  let b := (a ^^^ own_ushr a 13 ^^^ own_ushr a 26) * (-1513385405)
  b ^^^ own_ushr b 16
theorem own_m1 (x : Int32) : x * (-2048144789) * (-1513385405) = x := by
  rw [Int32.mul_assoc]
  have : (-2048144789 : Int32) * (-1513385405) = 1 := by decide
  rw [this, Int32.mul_one]
theorem own_m2 (x : Int32) : x * (-1028477387) * 2127672349 = x := by
  rw [Int32.mul_assoc]
  have : (-1028477387 : Int32) * 2127672349 = 1 := by decide
  rw [this, Int32.mul_one]
theorem own_law (h : Int32) : own_unfinish (own_finish h) = h := by
  simp only [own_unfinish, own_finish, own_x16, own_m2, own_x13, own_m1]
def own_room1 : Room := { frames := 0, cells := 0, slots := 0, locals := 0 }
def own_Q1 (Z : State) (p0 : Int32) (h0 : Heap) (n0 : Nat) (v : Option Value) (h : Heap) (L : List Loc) : Prop := v = some (.int (own_finish p0)) ∧ Fr n0 L ∧ h = h0
theorem own_ef_rm1 (m : MethodId) (x0 : Int32) : entryFrame m #[(.int x0)] 1 = mkF m 0 #[.val (.int x0)] [] := by first | (simp [entryFrame, mkF, argsToLocals, Value.category]; done) | rfl
set_option maxRecDepth 65536 in
set_option maxHeartbeats 40000000 in
theorem own_rm1 (l : Launch) (Z : State) (a0 : Array Value) (hw : ∀ d ∈ tables_1, d.before a0 Z = true) (ws : List Jvm.Cond) (p0 : Int32) (h0 : Heap) (n0 : Nat) :
    MetFree l (⟨"com/example/closure_crew/closurecrew/engine/Relation", "finish", "(I)I"⟩ : MethodName) (head1 (Jvm.Cond.code (⟨"com/example/closure_crew/closurecrew/engine/Relation", "finish", "(I)I"⟩ : MethodName) prog_33_method_33_code 1 (some .int) :: ws) own_room1) (fun a U => a = #[(.int p0)] ∧ Z.Warmed39 U.vm ∧ U.heap = h0) (fun _ _ _ _ _ => True) (fun _ U o U' => ∃ v L, o = .returned v ∧ own_Q1 Z p0 h0 n0 v U'.heap L ∧ FrameEnd U o U' L own_room1.cells own_room1.slots) := by
  refine MetFree.of_bodySF (plainFor_of_name own_pn0) hisR ?_
  intro p e s m args below meth c s₁ Bd hml0 hP hK
  obtain ⟨rfl, hZ, hh⟩ := hP
  have hx := Bd.exec
  have hby := Bd.bytes
  have hml : c.maxLocals = 1 := hml0
  have hown : s.vm.findClass "com/example/closure_crew/closurecrew/engine/Relation" = some m.cls := findClass_of_methodNamed Bd.named
  have hnm := (name_of_methodNamed Bd.named Bd.method).1
  have hlk : meth.locks = false := BodyLoose.notSynchronized Bd
  have hret := Bd.returns
  have X0 : Stand p l e own_room1 s m #[(.int p0)] below meth c s₁ [] 0 0 := Stand.of_body Bd
  have e0 : s₁.heap = h0 := by rw [← hh, Bd.state]; rfl
  have N0 := Fr.nil n0
  show own_Ends p e below s (own_Q1 Z p0 h0 n0) own_room1.cells own_room1.slots s₁ (entryFrame m #[(.int p0)] 1)
  refine own_cast (own_ef_rm1 m p0) ?_
  refine own_iloadN (pc' := 1) X0 hx (hb hby own_d1_0) rfl rfl ?_
  refine own_iloadN (pc' := 2) X0 hx (hb hby own_d1_1) rfl rfl ?_
  refine own_bipush (pc' := 4) (z := (16 : Int32)) X0 hx (hb hby own_d1_2) rfl rfl ?_
  refine own_iushr (pc' := 5) (z := (own_ushr p0 (16 : Int32))) X0 hx (hb hby own_d1_4) rfl rfl ?_
  refine own_ixor (pc' := 6) (z := (p0 ^^^ (own_ushr p0 (16 : Int32)))) X0 hx (hb hby own_d1_5) rfl rfl ?_
  refine own_istoreN (pc' := 7) (l' := #[.val (.int (p0 ^^^ (own_ushr p0 (16 : Int32))))]) X0 hx (hb hby own_d1_6) rfl rfl ?_
  refine own_iloadN (pc' := 8) X0 hx (hb hby own_d1_7) rfl rfl ?_
  refine own_ldcwI (pc' := 11) X0 hx hZ hown (own_w4 hw) (hb hby own_d1_8) rfl ?_
  refine own_imul (pc' := 12) (z := ((p0 ^^^ (own_ushr p0 (16 : Int32))) * (-2048144789 : Int32))) X0 hx (hb hby own_d1_11) rfl rfl ?_
  refine own_istoreN (pc' := 13) (l' := #[.val (.int ((p0 ^^^ (own_ushr p0 (16 : Int32))) * (-2048144789 : Int32)))]) X0 hx (hb hby own_d1_12) rfl rfl ?_
  refine own_iloadN (pc' := 14) X0 hx (hb hby own_d1_13) rfl rfl ?_
  refine own_iloadN (pc' := 15) X0 hx (hb hby own_d1_14) rfl rfl ?_
  refine own_bipush (pc' := 17) (z := (13 : Int32)) X0 hx (hb hby own_d1_15) rfl rfl ?_
  refine own_iushr (pc' := 18) (z := (own_ushr ((p0 ^^^ (own_ushr p0 (16 : Int32))) * (-2048144789 : Int32)) (13 : Int32))) X0 hx (hb hby own_d1_17) rfl rfl ?_
  refine own_ixor (pc' := 19) (z := (((p0 ^^^ (own_ushr p0 (16 : Int32))) * (-2048144789 : Int32)) ^^^ (own_ushr ((p0 ^^^ (own_ushr p0 (16 : Int32))) * (-2048144789 : Int32)) (13 : Int32)))) X0 hx (hb hby own_d1_18) rfl rfl ?_
  refine own_istoreN (pc' := 20) (l' := #[.val (.int (((p0 ^^^ (own_ushr p0 (16 : Int32))) * (-2048144789 : Int32)) ^^^ (own_ushr ((p0 ^^^ (own_ushr p0 (16 : Int32))) * (-2048144789 : Int32)) (13 : Int32))))]) X0 hx (hb hby own_d1_19) rfl rfl ?_
  refine own_iloadN (pc' := 21) X0 hx (hb hby own_d1_20) rfl rfl ?_
  refine own_ldcwI (pc' := 24) X0 hx hZ hown (own_w5 hw) (hb hby own_d1_21) rfl ?_
  refine own_imul (pc' := 25) (z := ((((p0 ^^^ (own_ushr p0 (16 : Int32))) * (-2048144789 : Int32)) ^^^ (own_ushr ((p0 ^^^ (own_ushr p0 (16 : Int32))) * (-2048144789 : Int32)) (13 : Int32))) * (-1028477387 : Int32))) X0 hx (hb hby own_d1_24) rfl rfl ?_
  refine own_istoreN (pc' := 26) (l' := #[.val (.int ((((p0 ^^^ (own_ushr p0 (16 : Int32))) * (-2048144789 : Int32)) ^^^ (own_ushr ((p0 ^^^ (own_ushr p0 (16 : Int32))) * (-2048144789 : Int32)) (13 : Int32))) * (-1028477387 : Int32)))]) X0 hx (hb hby own_d1_25) rfl rfl ?_
  refine own_iloadN (pc' := 27) X0 hx (hb hby own_d1_26) rfl rfl ?_
  refine own_iloadN (pc' := 28) X0 hx (hb hby own_d1_27) rfl rfl ?_
  refine own_bipush (pc' := 30) (z := (16 : Int32)) X0 hx (hb hby own_d1_28) rfl rfl ?_
  refine own_iushr (pc' := 31) (z := (own_ushr ((((p0 ^^^ (own_ushr p0 (16 : Int32))) * (-2048144789 : Int32)) ^^^ (own_ushr ((p0 ^^^ (own_ushr p0 (16 : Int32))) * (-2048144789 : Int32)) (13 : Int32))) * (-1028477387 : Int32)) (16 : Int32))) X0 hx (hb hby own_d1_30) rfl rfl ?_
  refine own_ixor (pc' := 32) (z := (((((p0 ^^^ (own_ushr p0 (16 : Int32))) * (-2048144789 : Int32)) ^^^ (own_ushr ((p0 ^^^ (own_ushr p0 (16 : Int32))) * (-2048144789 : Int32)) (13 : Int32))) * (-1028477387 : Int32)) ^^^ (own_ushr ((((p0 ^^^ (own_ushr p0 (16 : Int32))) * (-2048144789 : Int32)) ^^^ (own_ushr ((p0 ^^^ (own_ushr p0 (16 : Int32))) * (-2048144789 : Int32)) (13 : Int32))) * (-1028477387 : Int32)) (16 : Int32)))) X0 hx (hb hby own_d1_31) rfl rfl ?_
  refine own_retI X0 hx hlk hret (hb hby own_d1_32) (by decide) (by decide) ?_
  exact ⟨rfl, N0, e0⟩
def own_room2 : Room := { frames := 0, cells := 0, slots := 0, locals := 0 }
def own_Q2 (Z : State) (p0 : Int32) (h0 : Heap) (n0 : Nat) (v : Option Value) (h : Heap) (L : List Loc) : Prop := v = some (.int (own_unfinish p0)) ∧ Fr n0 L ∧ h = h0
theorem own_ef_rm2 (m : MethodId) (x0 : Int32) : entryFrame m #[(.int x0)] 2 = mkF m 0 #[.val (.int x0), .unset] [] := by first | (simp [entryFrame, mkF, argsToLocals, Value.category]; done) | rfl
set_option maxRecDepth 65536 in
set_option maxHeartbeats 40000000 in
theorem own_rm2 (l : Launch) (Z : State) (a0 : Array Value) (hw : ∀ d ∈ tables_1, d.before a0 Z = true) (ws : List Jvm.Cond) (p0 : Int32) (h0 : Heap) (n0 : Nat) :
    MetFree l (⟨"com/example/closure_crew/closurecrew/engine/RelationFinishPinLaw", "unfinish", "(I)I"⟩ : MethodName) (head1 (Jvm.Cond.code (⟨"com/example/closure_crew/closurecrew/engine/RelationFinishPinLaw", "unfinish", "(I)I"⟩ : MethodName) method_2_code 2 (some .int) :: ws) own_room2) (fun a U => a = #[(.int p0)] ∧ Z.Warmed39 U.vm ∧ U.heap = h0) (fun _ _ _ _ _ => True) (fun _ U o U' => ∃ v L, o = .returned v ∧ own_Q2 Z p0 h0 n0 v U'.heap L ∧ FrameEnd U o U' L own_room2.cells own_room2.slots) := by
  refine MetFree.of_bodySF (plainFor_of_name own_pn1) hisR ?_
  intro p e s m args below meth c s₁ Bd hml0 hP hK
  obtain ⟨rfl, hZ, hh⟩ := hP
  have hx := Bd.exec
  have hby := Bd.bytes
  have hml : c.maxLocals = 2 := hml0
  have hown : s.vm.findClass "com/example/closure_crew/closurecrew/engine/RelationFinishPinLaw" = some m.cls := findClass_of_methodNamed Bd.named
  have hnm := (name_of_methodNamed Bd.named Bd.method).1
  have hlk : meth.locks = false := BodyLoose.notSynchronized Bd
  have hret := Bd.returns
  have X0 : Stand p l e own_room2 s m #[(.int p0)] below meth c s₁ [] 0 0 := Stand.of_body Bd
  have e0 : s₁.heap = h0 := by rw [← hh, Bd.state]; rfl
  have N0 := Fr.nil n0
  show own_Ends p e below s (own_Q2 Z p0 h0 n0) own_room2.cells own_room2.slots s₁ (entryFrame m #[(.int p0)] 2)
  refine own_cast (own_ef_rm2 m p0) ?_
  refine own_iloadN (pc' := 1) X0 hx (hb hby own_d2_0) rfl rfl ?_
  refine own_iloadN (pc' := 2) X0 hx (hb hby own_d2_1) rfl rfl ?_
  refine own_bipush (pc' := 4) (z := (16 : Int32)) X0 hx (hb hby own_d2_2) rfl rfl ?_
  refine own_iushr (pc' := 5) (z := (own_ushr p0 (16 : Int32))) X0 hx (hb hby own_d2_4) rfl rfl ?_
  refine own_ixor (pc' := 6) (z := (p0 ^^^ (own_ushr p0 (16 : Int32)))) X0 hx (hb hby own_d2_5) rfl rfl ?_
  refine own_istoreN (pc' := 7) (l' := #[.val (.int p0), .val (.int (p0 ^^^ (own_ushr p0 (16 : Int32))))]) X0 hx (hb hby own_d2_6) rfl rfl ?_
  refine own_iloadN (pc' := 8) X0 hx (hb hby own_d2_7) rfl rfl ?_
  refine own_ldcI (pc' := 10) X0 hx hZ hown (own_w10 hw) (hb hby own_d2_8) rfl ?_
  refine own_imul (pc' := 11) (z := ((p0 ^^^ (own_ushr p0 (16 : Int32))) * (2127672349 : Int32))) X0 hx (hb hby own_d2_10) rfl rfl ?_
  refine own_istoreN (pc' := 12) (l' := #[.val (.int p0), .val (.int ((p0 ^^^ (own_ushr p0 (16 : Int32))) * (2127672349 : Int32)))]) X0 hx (hb hby own_d2_11) rfl rfl ?_
  refine own_iloadN (pc' := 13) X0 hx (hb hby own_d2_12) rfl rfl ?_
  refine own_iloadN (pc' := 14) X0 hx (hb hby own_d2_13) rfl rfl ?_
  refine own_bipush (pc' := 16) (z := (13 : Int32)) X0 hx (hb hby own_d2_14) rfl rfl ?_
  refine own_iushr (pc' := 17) (z := (own_ushr ((p0 ^^^ (own_ushr p0 (16 : Int32))) * (2127672349 : Int32)) (13 : Int32))) X0 hx (hb hby own_d2_16) rfl rfl ?_
  refine own_ixor (pc' := 18) (z := (((p0 ^^^ (own_ushr p0 (16 : Int32))) * (2127672349 : Int32)) ^^^ (own_ushr ((p0 ^^^ (own_ushr p0 (16 : Int32))) * (2127672349 : Int32)) (13 : Int32)))) X0 hx (hb hby own_d2_17) rfl rfl ?_
  refine own_iloadN (pc' := 19) X0 hx (hb hby own_d2_18) rfl rfl ?_
  refine own_bipush (pc' := 21) (z := (26 : Int32)) X0 hx (hb hby own_d2_19) rfl rfl ?_
  refine own_iushr (pc' := 22) (z := (own_ushr ((p0 ^^^ (own_ushr p0 (16 : Int32))) * (2127672349 : Int32)) (26 : Int32))) X0 hx (hb hby own_d2_21) rfl rfl ?_
  refine own_ixor (pc' := 23) (z := ((((p0 ^^^ (own_ushr p0 (16 : Int32))) * (2127672349 : Int32)) ^^^ (own_ushr ((p0 ^^^ (own_ushr p0 (16 : Int32))) * (2127672349 : Int32)) (13 : Int32))) ^^^ (own_ushr ((p0 ^^^ (own_ushr p0 (16 : Int32))) * (2127672349 : Int32)) (26 : Int32)))) X0 hx (hb hby own_d2_22) rfl rfl ?_
  refine own_istoreN (pc' := 24) (l' := #[.val (.int p0), .val (.int ((((p0 ^^^ (own_ushr p0 (16 : Int32))) * (2127672349 : Int32)) ^^^ (own_ushr ((p0 ^^^ (own_ushr p0 (16 : Int32))) * (2127672349 : Int32)) (13 : Int32))) ^^^ (own_ushr ((p0 ^^^ (own_ushr p0 (16 : Int32))) * (2127672349 : Int32)) (26 : Int32))))]) X0 hx (hb hby own_d2_23) rfl rfl ?_
  refine own_iloadN (pc' := 25) X0 hx (hb hby own_d2_24) rfl rfl ?_
  refine own_ldcI (pc' := 27) X0 hx hZ hown (own_w11 hw) (hb hby own_d2_25) rfl ?_
  refine own_imul (pc' := 28) (z := (((((p0 ^^^ (own_ushr p0 (16 : Int32))) * (2127672349 : Int32)) ^^^ (own_ushr ((p0 ^^^ (own_ushr p0 (16 : Int32))) * (2127672349 : Int32)) (13 : Int32))) ^^^ (own_ushr ((p0 ^^^ (own_ushr p0 (16 : Int32))) * (2127672349 : Int32)) (26 : Int32))) * (-1513385405 : Int32))) X0 hx (hb hby own_d2_27) rfl rfl ?_
  refine own_istoreN (pc' := 29) (l' := #[.val (.int p0), .val (.int (((((p0 ^^^ (own_ushr p0 (16 : Int32))) * (2127672349 : Int32)) ^^^ (own_ushr ((p0 ^^^ (own_ushr p0 (16 : Int32))) * (2127672349 : Int32)) (13 : Int32))) ^^^ (own_ushr ((p0 ^^^ (own_ushr p0 (16 : Int32))) * (2127672349 : Int32)) (26 : Int32))) * (-1513385405 : Int32)))]) X0 hx (hb hby own_d2_28) rfl rfl ?_
  refine own_iloadN (pc' := 30) X0 hx (hb hby own_d2_29) rfl rfl ?_
  refine own_iloadN (pc' := 31) X0 hx (hb hby own_d2_30) rfl rfl ?_
  refine own_bipush (pc' := 33) (z := (16 : Int32)) X0 hx (hb hby own_d2_31) rfl rfl ?_
  refine own_iushr (pc' := 34) (z := (own_ushr (((((p0 ^^^ (own_ushr p0 (16 : Int32))) * (2127672349 : Int32)) ^^^ (own_ushr ((p0 ^^^ (own_ushr p0 (16 : Int32))) * (2127672349 : Int32)) (13 : Int32))) ^^^ (own_ushr ((p0 ^^^ (own_ushr p0 (16 : Int32))) * (2127672349 : Int32)) (26 : Int32))) * (-1513385405 : Int32)) (16 : Int32))) X0 hx (hb hby own_d2_33) rfl rfl ?_
  refine own_ixor (pc' := 35) (z := ((((((p0 ^^^ (own_ushr p0 (16 : Int32))) * (2127672349 : Int32)) ^^^ (own_ushr ((p0 ^^^ (own_ushr p0 (16 : Int32))) * (2127672349 : Int32)) (13 : Int32))) ^^^ (own_ushr ((p0 ^^^ (own_ushr p0 (16 : Int32))) * (2127672349 : Int32)) (26 : Int32))) * (-1513385405 : Int32)) ^^^ (own_ushr (((((p0 ^^^ (own_ushr p0 (16 : Int32))) * (2127672349 : Int32)) ^^^ (own_ushr ((p0 ^^^ (own_ushr p0 (16 : Int32))) * (2127672349 : Int32)) (13 : Int32))) ^^^ (own_ushr ((p0 ^^^ (own_ushr p0 (16 : Int32))) * (2127672349 : Int32)) (26 : Int32))) * (-1513385405 : Int32)) (16 : Int32)))) X0 hx (hb hby own_d2_34) rfl rfl ?_
  refine own_istoreN (pc' := 36) (l' := #[.val (.int p0), .val (.int ((((((p0 ^^^ (own_ushr p0 (16 : Int32))) * (2127672349 : Int32)) ^^^ (own_ushr ((p0 ^^^ (own_ushr p0 (16 : Int32))) * (2127672349 : Int32)) (13 : Int32))) ^^^ (own_ushr ((p0 ^^^ (own_ushr p0 (16 : Int32))) * (2127672349 : Int32)) (26 : Int32))) * (-1513385405 : Int32)) ^^^ (own_ushr (((((p0 ^^^ (own_ushr p0 (16 : Int32))) * (2127672349 : Int32)) ^^^ (own_ushr ((p0 ^^^ (own_ushr p0 (16 : Int32))) * (2127672349 : Int32)) (13 : Int32))) ^^^ (own_ushr ((p0 ^^^ (own_ushr p0 (16 : Int32))) * (2127672349 : Int32)) (26 : Int32))) * (-1513385405 : Int32)) (16 : Int32))))]) X0 hx (hb hby own_d2_35) rfl rfl ?_
  refine own_iloadN (pc' := 37) X0 hx (hb hby own_d2_36) rfl rfl ?_
  refine own_retI X0 hx hlk hret (hb hby own_d2_37) (by decide) (by decide) ?_
  exact ⟨rfl, N0, e0⟩
def own_Q0 (Z : State) (p0 : Int32) (h0 : Heap) (n0 : Nat) (v : Option Value) (h : Heap) (L : List Loc) : Prop := v = some (.int 1) ∧ Fr n0 L
theorem own_ef_rm0 (m : MethodId) (x0 : Int32) : entryFrame m #[(.int x0)] maxLocals = mkF m 0 #[.val (.int x0), .unset] [] := by first | (simp [entryFrame, mkF, argsToLocals, Value.category, maxLocals]; done) | rfl
set_option maxRecDepth 65536 in
set_option maxHeartbeats 40000000 in
theorem own_rm0 (l : Launch) (Z : State) (a0 : Array Value) (hw : ∀ d ∈ tables_1, d.before a0 Z = true) (ws : List Jvm.Cond) (p0 : Int32) (h0 : Heap) (n0 : Nat) (Z0 : n0 ≤ h0.size) :
    MetFree l x (head1 (Jvm.Cond.code x code maxLocals ret :: ws) room_1) (fun a U => a = #[(.int p0)] ∧ Z.Warmed39 U.vm ∧ U.heap = h0) (fun _ _ _ _ _ => True) (fun _ U o U' => ∃ v L, o = .returned v ∧ own_Q0 Z p0 h0 n0 v U'.heap L ∧ FrameEnd U o U' L 0 0) := by
  refine MetFree.of_bodySF (plainFor_of_name own_pn1) hisR ?_
  intro p e s m args below meth c s₁ Bd hml0 hP hK
  obtain ⟨rfl, hZ, hh⟩ := hP
  have hx := Bd.exec
  have hby := Bd.bytes
  have hml : c.maxLocals = 2 := hml0
  have hown : s.vm.findClass "com/example/closure_crew/closurecrew/engine/RelationFinishPinLaw" = some m.cls := findClass_of_methodNamed Bd.named
  have hnm := (name_of_methodNamed Bd.named Bd.method).1
  have hlk : meth.locks = false := BodyLoose.notSynchronized Bd
  have hret := Bd.returns
  have X0 : Stand p l e room_1 s m #[(.int p0)] below meth c s₁ [] 0 0 := Stand.of_body Bd
  have e0 : s₁.heap = h0 := by rw [← hh, Bd.state]; rfl
  have N0 := Fr.nil n0
  show own_Ends p e below s (own_Q0 Z p0 h0 n0) 0 0 s₁ (entryFrame m #[(.int p0)] maxLocals)
  refine own_cast (own_ef_rm0 m p0) ?_
  refine own_iloadN (pc' := 1) X0 hx (hb hby at_0) rfl rfl ?_
  refine own_callS (pc' := 4) (y := (⟨"com/example/closure_crew/closurecrew/engine/Relation", "finish", "(I)I"⟩ : MethodName)) (W := 0) (rm := own_room1) (argsL := [(.int p0)]) (rest := []) X0 hx hZ e0 hown (by rw [hml]; rfl) (own_w0 hw) (own_w1 hw) (own_w2 hw) (own_w3 hw) (by decide) (own_rm1 l Z a0 hw [] p0 h0 n0) (by decide) (by decide) (by decide) (by decide) (lenOf own_pd0 rfl) rfl (by exact Nat.le_of_eq rfl) (hb hby at_1) rfl ?_
  intro T1 Lc1 v1 X1 hQ1
  obtain ⟨rfl, Nq2, eq3⟩ := hQ1
  have N4 := Fr.app N0 Nq2
  show own_Ends p e below s _ _ _ T1 (mkF m 4 #[.val (.int p0), .unset] [(.int (own_finish p0))])
  refine own_istoreN (pc' := 5) (l' := #[.val (.int p0), .val (.int (own_finish p0))]) X1 hx (hb hby at_4) rfl rfl ?_
  refine own_iloadN (pc' := 6) X1 hx (hb hby at_5) rfl rfl ?_
  refine own_callS (pc' := 9) (y := (⟨"com/example/closure_crew/closurecrew/engine/RelationFinishPinLaw", "unfinish", "(I)I"⟩ : MethodName)) (W := 0) (rm := own_room2) (argsL := [(.int (own_finish p0))]) (rest := []) X1 hx hZ eq3 hown (by rw [hml]; rfl) (own_w6 hw) (own_w7 hw) (own_w8 hw) (own_w9 hw) (by decide) (own_rm2 l Z a0 hw [] (own_finish p0) h0 n0) (by decide) (by decide) (by decide) (by decide) (lenOf own_pd0 rfl) rfl (by exact Nat.le_of_eq rfl) (hb hby at_6) rfl ?_
  intro T5 Lc5 v5 X5 hQ5
  obtain ⟨rfl, Nq6, eq7⟩ := hQ5
  have N8 := Fr.app N4 Nq6
  show own_Ends p e below s _ _ _ T5 (mkF m 9 #[.val (.int p0), .val (.int (own_finish p0))] [(.int (own_unfinish (own_finish p0)))])
  refine own_iloadN (pc' := 10) X5 hx (hb hby at_9) rfl rfl ?_
  refine own_icmpNo (pc' := 13) X5 hx (hb hby at_10) rfl (teq (own_law p0)).2 ?_
  refine own_iconst (pc' := 14) (z := (1 : Int32)) X5 hx (hb hby at_13) rfl rfl ?_
  refine own_goto (pc' := 18) X5 hx (hb hby at_14) (by decide) (by decide) ?_
  refine own_retN X5 hx hlk hret (by simp) (hb hby at_18) (by decide) (by decide) ?_
  exact ⟨rfl, N8⟩
set_option maxRecDepth 65536 in
set_option maxHeartbeats 40000000 in
theorem own_comes {Post : Tables → Env → Array Value → State → Outcome → State → Prop} (hpost : ∀ tb e args s v u, (limb_1_1.after args s (.returned v) u = true ∧ limb_1_2.after args s (.returned v) u = true ∧ True) → FrameEnd s (.returned v) u (Jvm.fieldLocs frame_1_writes args s ++ Jvm.arrayLocs frame_1_arrays args s ++ Jvm.staticLocs frame_1_statics s) 0 0 → Post tb e args s (.returned v) u) :
    ArmFor flags0 classFile x code maxLocals ret World_1 tables_1 room_1 Calls_1 rest_1 Pre_1 Post := by
  intro l hfl _ _ p e ha hc hk s m args below hf hA hF happ hP
  obtain ⟨hcalls, hrest, hpre⟩ := hP
  obtain ⟨-, -, -, hnamed, -, -, -, hat⟩ := (Spec.applies_iff hf).mp happ
  obtain ⟨hg, hn⟩ := and_e (Cond.before_iff.mp (show (Jvm.Cond.and given_1 narrow_1).before args s = true from hpre))
  obtain ⟨g1, g2⟩ := and_e hg
  obtain ⟨w0, rfl⟩ : ∃ w0 : Value, args = #[w0] := by
    have hs : args.size = 1 := by simpa [Cond.value, given_1] using g1
    obtain ⟨L⟩ := args
    match L, hs with
    | [w0], _ => exact ⟨w0, rfl⟩
  have hw := fun d (hd : d ∈ tables_1) => atoms_spec (ws := Jvm.Cond.code x code maxLocals ret :: tables_1) hat d (List.mem_cons_of_mem _ hd)
  have hfit : Fit s := fun {y c} hc i hi => by
    obtain ⟨ha, rfl⟩ := Array.getElem?_eq_some_iff.mp hc
    have q := List.all_eq_true.mp ((Array.all_eq_true_iff_forall_mem.mp hF) _ (Array.getElem_mem ha)) i (List.mem_range.mpr hi)
    simpa [Array.getElem?_eq_getElem hi] using q
  obtain ⟨i0, ei0⟩ := is_v g2
  obtain rfl : w0 = (.int i0) := Option.some.inj ei0
  obtain ⟨n, o, h1, h2, h3, _, L, rfl, ⟨rfl, N⟩, hq⟩ := own_rm0 l s _ hw tables_1 i0 s.heap s.heap.size (Nat.le_refl _) p e ha hc hk s m _ below hf ((Spec.applies_iff_loose hf).mp happ).1 ⟨rfl, State.Warmed39.refl s, rfl⟩ trivial
  refine ⟨n, _, h1, h2, h3, hpost _ _ _ _ _ _ ⟨Cond.after_iff.mpr rfl, Cond.after_iff.mpr (eq_i res_at (Term.int_eval (1)) rfl), trivial⟩ ⟨hq.1, hq.2.1, (hq.2.2.sift fun y hy => Or.inr (N y hy)).mono (by decide) (by decide)⟩⟩
theorem main_1_1 : Claimed_1_1 := own_comes fun _ _ _ _ _ _ h hF => ⟨h.1, hF⟩
theorem main_1_2 : Claimed_1_2 := own_comes fun _ _ _ _ _ _ h hF => ⟨h.2.1, hF⟩
end Jvm.Pilot.@@N@@
namespace Jvm.Pilot.@@N@@
open Jvm Jvm.ClassFile Sem Op Lib Jvm.Free Jvm.Stand Jvm.Pilot.@@N@@.Jvm.D
/-! MADE BY PROGRAM (witnessworld.py) out of the Statement's table words and the real class files: 9 classes; the members and pool entries that the words name. The judged class is class 1, her method 2. -/
namespace start1
open Jvm.ClassFile
def u (s : String) : CpInfo := .utf8 (stringToUtf16 s)
/-- a pool by its gaps: so many unusable entries, then the entry; so many at the end -/
def gap : Nat → List CpInfo → List CpInfo
  | 0, r => r
  | n + 1, r => .unusable :: gap n r
def poolList (es : List (Nat × CpInfo)) (last : Nat) : List CpInfo := es.foldr (fun e r => gap e.1 (e.2 :: r)) (gap last [])
def pool (es : List (Nat × CpInfo)) (last : Nat) : Array CpInfo := ⟨poolList es last⟩
def fileOf (pool : Array CpInfo) (this : Nat) (attrs : Array Attribute := #[]) (ms : Array MethodInfo := #[]) (fl : Nat := 33) (sup : Nat := 0) (ifs : Array Nat := #[]) (fds : Array FieldInfo := #[]) : ClassFile where
  minorVersion := 0
  majorVersion := 65
  constantPool := pool
  accessFlags := fl
  thisClass := this
  superClass := sup
  interfaces := ifs
  fields := fds
  methods := ms
  attributes := attrs
def plain (name : String) (sup : Option ClassId) : Class where
  name := name
  kind := .ordinary
  loader := none
  accessFlags := 33
  super := sup
  interfaces := #[]
  cf := none
  fields := #[]
  methods := #[]
  instanceTypes := #[]
  staticTypes := #[]
  resolved := #[]
  callSites := []
  init := .initialized
  statics := none
  mirror := none

def pool0 : Array CpInfo := pool [(5, u "<init>"), (0, u "()V"), (1, .class_ 10), (1, u "java/lang/Object")] 113

def k0m0 : Method := { name := "<init>", desc := "()V", sig := { parameters := [], returnType := none }, accessFlags := 1, code := none }
/-- java/lang/Object -/
def k0 : Class := { plain "java/lang/Object" none with
  accessFlags := 33
  interfaces := #[]
  cf := some (fileOf pool0 8 #[] #[{ accessFlags := 1, nameIndex := 5, descriptorIndex := 6, attributes := #[] }] 33 0 #[] #[])
  fields := #[]
  methods := #[k0m0]
  instanceTypes := #[]
  staticTypes := #[]
  resolved := Array.replicate 124 none
  statics := none }

def pool1 : Array CpInfo := pool [(2, .class_ 4), (1, u "java/lang/Object"), (0, u "<init>"), (0, u "()V"), (0, .integer 2127672349), (0, .integer 2781581891), (0, .methodref 10 11), (0, .class_ 12), (0, .nameAndType 13 14), (0, u "com/example/closure_crew/closurecrew/engine/Relation"), (0, u "finish"), (0, u "(I)I"), (0, .methodref 16 17), (0, .class_ 18), (0, .nameAndType 19 14), (0, u "com/example/closure_crew/closurecrew/engine/RelationFinishPinLaw"), (0, u "unfinish"), (2, u "law"), (0, u "(I)Z")] 3

def k1m0 : Method := { name := "<init>", desc := "()V", sig := { parameters := [], returnType := none }, accessFlags := 2, code := none }
def k1c1 : Code := { maxStack := 3, maxLocals := 2, code := method_2_code, exceptionTable := #[], attributes := #[] }
def k1m1 : Method := { name := "unfinish", desc := "(I)I", sig := { parameters := [.int], returnType := some .int }, accessFlags := 10, code := some k1c1 }
def k1c2 : Code := { maxStack := 2, maxLocals := 2, code := code, exceptionTable := #[], attributes := #[] }
def k1m2 : Method := { name := "law", desc := "(I)Z", sig := { parameters := [.int], returnType := some .boolean }, accessFlags := 9, code := some k1c2 }
/-- com/example/closure_crew/closurecrew/engine/RelationFinishPinLaw -/
def k1 : Class := { plain "com/example/closure_crew/closurecrew/engine/RelationFinishPinLaw" (some 0) with
  accessFlags := 49
  interfaces := #[]
  cf := some (fileOf pool1 16 #[] #[{ accessFlags := 2, nameIndex := 5, descriptorIndex := 6, attributes := #[] }, { accessFlags := 10, nameIndex := 19, descriptorIndex := 14, attributes := #[] }, { accessFlags := 9, nameIndex := 22, descriptorIndex := 23, attributes := #[] }] 49 2 #[] #[])
  fields := #[]
  methods := #[k1m0, k1m1, k1m2]
  instanceTypes := #[]
  staticTypes := #[]
  resolved := Array.replicate 27 none
  statics := none }

def pool2 : Array CpInfo := pool [(10, .class_ 12), (1, u "com/example/closure_crew/closurecrew/engine/Relation"), (3, .class_ 18), (1, u "java/lang/Object"), (6, u "replaced"), (0, u "Ljava/util/BitSet;"), (2, u "retired"), (2, u "replacements"), (5, u "indexes"), (0, u "Ljava/util/Map;"), (2, u "name"), (0, u "Ljava/lang/String;"), (2, u "arity"), (0, u "I"), (2, u "aggregate"), (0, u "Ljava/util/Optional;"), (2, u "symbols"), (0, u "Lcom/example/closure_crew/closurecrew/engine/Symbols;"), (30, u "best"), (8, u "values"), (0, u "[I"), (5, u "pairs"), (0, u "Lcom/example/closure_crew/closurecrew/engine/PairSet;"), (2, u "slots"), (38, u "visible"), (5, u "replacedRows"), (2, u "rows"), (38, u "retiredRows"), (2, u "deltaStart"), (77, u "finish"), (0, u "(I)I"), (28, .integer 2246822507), (0, .integer 3266489909), (6, u "MAX_SLOTS"), (1, u "MAX_VALUES")] 76

def k2c0 : Code := { maxStack := 3, maxLocals := 1, code := prog_33_method_33_code, exceptionTable := #[], attributes := #[] }
def k2m0 : Method := { name := "finish", desc := "(I)I", sig := { parameters := [.int], returnType := some .int }, accessFlags := 8, code := some k2c0 }
/-- com/example/closure_crew/closurecrew/engine/Relation -/
def k2 : Class := { plain "com/example/closure_crew/closurecrew/engine/Relation" (some 0) with
  accessFlags := 48
  interfaces := #[]
  cf := some (fileOf pool2 10 #[] #[{ accessFlags := 8, nameIndex := 274, descriptorIndex := 275, attributes := #[] }] 48 16 #[] #[{ accessFlags := 26, nameIndex := 312, descriptorIndex := 47, attributes := #[] }, { accessFlags := 26, nameIndex := 314, descriptorIndex := 47, attributes := #[] }, { accessFlags := 18, nameIndex := 42, descriptorIndex := 43, attributes := #[] }, { accessFlags := 18, nameIndex := 46, descriptorIndex := 47, attributes := #[] }, { accessFlags := 18, nameIndex := 50, descriptorIndex := 51, attributes := #[] }, { accessFlags := 18, nameIndex := 54, descriptorIndex := 55, attributes := #[] }, { accessFlags := 18, nameIndex := 86, descriptorIndex := 47, attributes := #[] }, { accessFlags := 18, nameIndex := 25, descriptorIndex := 26, attributes := #[] }, { accessFlags := 18, nameIndex := 29, descriptorIndex := 26, attributes := #[] }, { accessFlags := 18, nameIndex := 32, descriptorIndex := 26, attributes := #[] }, { accessFlags := 2, nameIndex := 151, descriptorIndex := 47, attributes := #[] }, { accessFlags := 2, nameIndex := 193, descriptorIndex := 47, attributes := #[] }, { accessFlags := 2, nameIndex := 95, descriptorIndex := 96, attributes := #[] }, { accessFlags := 2, nameIndex := 154, descriptorIndex := 47, attributes := #[] }, { accessFlags := 2, nameIndex := 145, descriptorIndex := 47, attributes := #[] }, { accessFlags := 2, nameIndex := 196, descriptorIndex := 47, attributes := #[] }, { accessFlags := 18, nameIndex := 102, descriptorIndex := 103, attributes := #[] }, { accessFlags := 2, nameIndex := 106, descriptorIndex := 96, attributes := #[] }, { accessFlags := 18, nameIndex := 38, descriptorIndex := 39, attributes := #[] }])
  fields := #[{ name := "MAX_SLOTS", type := .int, accessFlags := 26, slot := 0, constantValue := 0 }, { name := "MAX_VALUES", type := .int, accessFlags := 26, slot := 1, constantValue := 0 }, { name := "name", type := (.object "java/lang/String"), accessFlags := 18, slot := 0, constantValue := 0 }, { name := "arity", type := .int, accessFlags := 18, slot := 1, constantValue := 0 }, { name := "aggregate", type := (.object "java/util/Optional"), accessFlags := 18, slot := 2, constantValue := 0 }, { name := "symbols", type := (.object "com/example/closure_crew/closurecrew/engine/Symbols"), accessFlags := 18, slot := 3, constantValue := 0 }, { name := "best", type := .int, accessFlags := 18, slot := 4, constantValue := 0 }, { name := "replaced", type := (.object "java/util/BitSet"), accessFlags := 18, slot := 5, constantValue := 0 }, { name := "retired", type := (.object "java/util/BitSet"), accessFlags := 18, slot := 6, constantValue := 0 }, { name := "replacements", type := (.object "java/util/BitSet"), accessFlags := 18, slot := 7, constantValue := 0 }, { name := "replacedRows", type := .int, accessFlags := 2, slot := 8, constantValue := 0 }, { name := "retiredRows", type := .int, accessFlags := 2, slot := 9, constantValue := 0 }, { name := "values", type := (.array .int), accessFlags := 2, slot := 10, constantValue := 0 }, { name := "rows", type := .int, accessFlags := 2, slot := 11, constantValue := 0 }, { name := "visible", type := .int, accessFlags := 2, slot := 12, constantValue := 0 }, { name := "deltaStart", type := .int, accessFlags := 2, slot := 13, constantValue := 0 }, { name := "pairs", type := (.object "com/example/closure_crew/closurecrew/engine/PairSet"), accessFlags := 18, slot := 14, constantValue := 0 }, { name := "slots", type := (.array .int), accessFlags := 2, slot := 15, constantValue := 0 }, { name := "indexes", type := (.object "java/util/Map"), accessFlags := 18, slot := 16, constantValue := 0 }]
  methods := #[k2m0]
  instanceTypes := #[(.object "java/lang/String"), .int, (.object "java/util/Optional"), (.object "com/example/closure_crew/closurecrew/engine/Symbols"), .int, (.object "java/util/BitSet"), (.object "java/util/BitSet"), (.object "java/util/BitSet"), .int, .int, (.array .int), .int, .int, .int, (.object "com/example/closure_crew/closurecrew/engine/PairSet"), (.array .int), (.object "java/util/Map")]
  staticTypes := #[.int, .int]
  resolved := Array.replicate 391 none
  statics := none }

def pool3 : Array CpInfo := pool [(1, u "java/lang/Cloneable"), (0, .class_ 1), (0, u "java/lang/Object"), (0, .class_ 3)] 3

/-- java/lang/Cloneable -/
def k3 : Class := { plain "java/lang/Cloneable" (some 0) with
  accessFlags := 1537
  interfaces := #[]
  cf := some (fileOf pool3 2 #[] #[] 1537 4 #[] #[])
  fields := #[]
  methods := #[]
  instanceTypes := #[]
  staticTypes := #[]
  resolved := Array.replicate 8 none
  statics := none }

def pool4 : Array CpInfo := pool [(1, u "java/io/Serializable"), (0, .class_ 1), (0, u "java/lang/Object"), (0, .class_ 3)] 3

/-- java/io/Serializable -/
def k4 : Class := { plain "java/io/Serializable" (some 0) with
  accessFlags := 1537
  interfaces := #[]
  cf := some (fileOf pool4 2 #[] #[] 1537 4 #[] #[])
  fields := #[]
  methods := #[]
  instanceTypes := #[]
  staticTypes := #[]
  resolved := Array.replicate 8 none
  statics := none }

/-- the primitive byte -/
def k5 : Class := { plain "byte" none with kind := .primitive 'B', accessFlags := 0x411 }
/-- [B -/
def k6 : Class := { plain "[B" (some 0) with kind := .array 5 .byte, interfaces := #[3, 4], accessFlags := 1041 }

/-- the primitive int -/
def k7 : Class := { plain "int" none with kind := .primitive 'I', accessFlags := 0x411 }
/-- [I -/
def k8 : Class := { plain "[I" (some 0) with kind := .array 7 .int, interfaces := #[3, 4], accessFlags := 1041 }

def heap : Heap := #[]
def classes : Array Class := #[k0, k1, k2, k3, k4, k5, k6, k7, k8]
def interned : List (Array UInt16 × Addr) := []
def slotsUsed : Nat := 0
def theMethod : MethodId := ⟨1, 2⟩
def args0 : Array Value := #[.int 5]
def aboutOver (below : List Frame) : State where
  vm := { classes := classes, interned := interned.toArray }
  heap := heap
  slotsUsed := slotsUsed
  threads := #[{ frames := .invoking theMethod args0 :: below }]
def below0 : List Frame := [.native { method := ⟨0, 0⟩, args := #[] }]
def about1 : State := aboutOver below0
def p0 : Program := .bare "" "" ""
def e0 : Env := launch0.env 0 0 0
theorem w_frames : about1.frames = Frame.invoking theMethod args0 :: below0 := rfl
set_option maxRecDepth 65536 in
theorem w_args : argsFit about1.vm theMethod args0 = true := by decide +kernel
set_option maxRecDepth 65536 in
theorem w_heap : heapFits about1 = true := by decide +kernel
set_option maxRecDepth 65536 in
theorem w_runnable : about1.curStatus? = some .runnable := by decide +kernel
set_option maxRecDepth 65536 in
theorem w_alone : about1.alone = true := by decide +kernel
set_option maxRecDepth 65536 in
theorem w_named : about1.methodNamed? x = some theMethod := by decide +kernel
set_option maxRecDepth 65536 in
theorem w_hears : about1.hears theMethod below0 = true := by decide +kernel
set_option maxRecDepth 65536 in
theorem w_ripe : about1.ripe theMethod args0 below0 = true := by decide +kernel
theorem w_running : about1.status = .running := rfl
set_option maxRecDepth 65536 in
theorem w_room : about1.hasRoom e0.platform room_1 = true :=
  launch0.hasRoom_least _ room_1 (by decide +kernel) (by decide +kernel) (by decide +kernel) (by decide +kernel) (by decide +kernel) (by decide +kernel)
theorem allAtoms_all (ts : List Jvm.Cond) (a : Array Jvm.Value) (st : Jvm.State) : (allAtoms ts).before a st = ts.all (fun c => c.before a st) := by
  induction ts with
  | nil => rfl
  | cons c t ih =>
    show (Jvm.Cond.and c (allAtoms t)).before a st = _
    rw [Jvm.Cond.before_and, ih, List.all_cons]
def words1 : List Jvm.Cond := Jvm.Cond.code x code maxLocals ret :: tables_1
/-- a 'code' word, met by the world's own term for the bytes: nothing is compared byte by byte -/
theorem code_word {y : MethodName} {bytes : ByteArray} {mx : Nat} {rt : Option FieldType} {a : Array Value} {s : State} {m : MethodId} {meth : Method} {c : Code} (h1 : s.methodNamed? y = some m) (h2 : s.vm.method? m = some meth) (h3 : meth.code = some c) (h4 : c.code = bytes)
    (h5 : (c.maxLocals == mx && c.exceptionTable.isEmpty && decide (c.maxStack ≤ mostOperands) && decide (meth.sig.returnType = rt) && !meth.locks && decide (parseMethodDescriptor y.desc = some meth.sig)) = true) : (Jvm.Cond.code y bytes mx rt).before a s = true := by
  simp only [Bool.and_eq_true, beq_iff_eq, Bool.not_eq_true', decide_eq_true_eq] at h5
  obtain ⟨⟨⟨⟨⟨g1, g2⟩, g3⟩, g4⟩, g5⟩, g6⟩ := h5
  simp [Cond.before, Cond.holds, Cond.value, h1, h2, h3, h4, g1, g2, g3, g4, g5, g6]
def isCode : Jvm.Cond → Bool
  | .code _ _ _ _ => true
  | _ => false
theorem all_split {L : List Jvm.Cond} {P : Jvm.Cond → Bool} (h1 : L.all (fun c => isCode c || P c) = true) (h2 : ∀ c ∈ L.filter isCode, P c = true) : L.all P = true := by
  refine List.all_eq_true.mpr fun c hc => ?_
  have h := List.all_eq_true.mp h1 c hc
  rcases Bool.eq_false_or_eq_true (isCode c) with hi | hi
  · exact h2 c (List.mem_filter.mpr ⟨hc, hi⟩)
  · simpa [hi] using h
set_option maxRecDepth 65536 in
theorem w_c0 : (Jvm.Cond.code x code maxLocals ret).before args0 about1 = true := code_word (m := ⟨1, 2⟩) (meth := k1m2) (c := k1c2) (by decide +kernel) rfl rfl rfl (by decide +kernel)
set_option maxRecDepth 65536 in
theorem w_c1 : (Jvm.Cond.code ({ cls := "com/example/closure_crew/closurecrew/engine/Relation", name := "finish", desc := "(I)I" } : Jvm.MethodName) prog_33_method_33_code (1 : Nat) (Option.some Jvm.ClassFile.FieldType.int)).before args0 about1 = true := code_word (m := ⟨2, 0⟩) (meth := k2m0) (c := k2c0) (by decide +kernel) rfl rfl rfl (by decide +kernel)
set_option maxRecDepth 65536 in
theorem w_c2 : (Jvm.Cond.code ({ cls := "com/example/closure_crew/closurecrew/engine/RelationFinishPinLaw", name := "unfinish", desc := "(I)I" } : Jvm.MethodName) method_2_code (2 : Nat) (Option.some Jvm.ClassFile.FieldType.int)).before args0 about1 = true := code_word (m := ⟨1, 1⟩) (meth := k1m1) (c := k1c1) (by decide +kernel) rfl rfl rfl (by decide +kernel)
def codes1 : List Jvm.Cond := [Jvm.Cond.code x code maxLocals ret, Jvm.Cond.code ({ cls := "com/example/closure_crew/closurecrew/engine/Relation", name := "finish", desc := "(I)I" } : Jvm.MethodName) prog_33_method_33_code (1 : Nat) (Option.some Jvm.ClassFile.FieldType.int), Jvm.Cond.code ({ cls := "com/example/closure_crew/closurecrew/engine/RelationFinishPinLaw", name := "unfinish", desc := "(I)I" } : Jvm.MethodName) method_2_code (2 : Nat) (Option.some Jvm.ClassFile.FieldType.int)]
set_option maxRecDepth 65536 in
theorem codes_eq : words1.filter isCode = codes1 := rfl
theorem w_codes : ∀ c ∈ words1.filter isCode, c.before args0 about1 = true := by
  rw [codes_eq]
  intro c hc
  simp only [codes1, List.mem_cons, List.not_mem_nil, or_false] at hc
  rcases hc with rfl | rfl | rfl
  · exact w_c0
  · exact w_c1
  · exact w_c2
set_option maxRecDepth 65536 in
theorem w_t1 : words1.all (fun c => isCode c || c.before args0 about1) = true := by decide +kernel
theorem w_tables : (allAtoms (Jvm.Cond.code x code maxLocals ret :: tables_1)).before args0 about1 = true := by
  rw [allAtoms_all]
  show words1.all (fun c => c.before args0 about1) = true
  refine all_split ?_ w_codes
  rw [w_t1]
set_option maxRecDepth 65536 in
theorem w_case : (Jvm.Cond.and given_1 narrow_1).before args0 about1 = true := by decide +kernel
theorem w_applies : (headSpec (Jvm.Cond.code x code maxLocals ret :: tables_1) room_1).applies x e0.platform about1 = true :=
  (Spec.applies_iff w_frames).mpr ⟨w_running, w_runnable, w_alone, w_named, w_hears, w_ripe, w_room, w_tables⟩
theorem atStart : AtStart classFile x code maxLocals ret World_1 tables_1 room_1 Calls_1 rest_1 Pre_1 launch0 p0 e0 about1 theMethod args0 below0 :=
  ⟨lists_1, trivial, launch0.admits_env _ _ _, launch0.least_env, fairChoices_fair.cas, fairChoices_fair.clock, w_frames, w_args, w_heap, w_applies, trivial, trivial, w_case⟩
end start1
theorem witness_1 : WitnessClaimed_1 := ⟨start1.p0, start1.e0, start1.about1, start1.theMethod, start1.args0, start1.below0, start1.atStart⟩
end Jvm.Pilot.@@N@@
