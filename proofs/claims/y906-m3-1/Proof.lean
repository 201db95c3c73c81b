import JvmDerived
import JvmDerived.Pilot.@@N@@Statement
import JvmDerived.Pilot.@@N@@Code
set_option linter.unusedVariables false
set_option linter.unusedSimpArgs false
namespace Jvm.RoadKit
open Sem ClassFile Op Lib Jvm.Stand Jvm.Free Jvm.LawKit
section New
variable {p : Program} {l : Launch} {e : Env} {R : Room} {s : State} {m : MethodId} {args : Array Value} {below : List Frame} {meth : Method} {c : Code} {T : State} {locs : List Loc} {cells slots : Nat}
theorem retI (X : Stand p l e R s m args below meth c T locs cells slots) (hx : p.tables.exec = Jvm.exec) {pc : Nat} {Ls : Array Slot} {z : Int32} {rest : List Value} (hret : meth.sig.returnType = some .int) (hd : decode c.code pc = .ok (.ireturn, 1)) {fs : List Frame}
    (hl : ∀ (f : JFrame) (acts : List Action), f.method = m → f.locked = none → f.entered = [] → (doReturn e (T.setTop f) acts (some (.int z))).1 = T.setFrames fs) : Steps p.tables e below (T.setTop (mkF m pc Ls (.int z :: rest))) (T.setFrames fs) := by
  have hm' : T.vm.method? m = some meth := X.method'
  have hn : narrow .int (.int z) = .int z := rfl
  show Steps p.tables e below (T.setTop { method := m, pc := pc, locals := Ls, stack := _ :: rest, locked := none }) _
  jvm_step X.here [X.here.top, hx, hd, hm', hret, hn]
  first | (intro acts; rw [hl _ acts rfl rfl rfl]) | rw [hl _ _ rfl rfl rfl]
  exact Steps.refl _
end New
end Jvm.RoadKit
namespace Jvm.Pilot.@@N@@
open Jvm Jvm.ClassFile Sem Op Lib Jvm.Free Jvm.Stand Jvm.LawKit Jvm.RoadKit Bundle Jvm.Pilot.@@N@@.Jvm.D
section Own
variable {p : Program} {l : Launch} {e : Env} {R : Room} {s : State} {m : MethodId} {args : Array Value} {below : List Frame} {meth : Method} {c : Code} {T T' : State} {locs : List Loc} {cells slots : Nat} {Q : Option Value → Heap → List Loc → Prop} {kc ks : Nat} {pc pc' : Nat} {ls : Array Slot} {st : List Value}
/-- from T with the frame g on top the run comes to its end, as Q asks -/
def own_Ends (p : Program) (e : Env) (below : List Frame) (s : State) (Q : Option Value → Heap → List Loc → Prop) (kc ks : Nat) (T : State) (g : JFrame) : Prop :=
  ∃ s₂ o, Steps p.tables e below (T.setTop g) s₂ ∧ s₂.status = .running ∧ Ended s₂ below o ∧ ∃ v L, o = .returned v ∧ Q v s₂.heap L ∧ FrameEnd s o s₂ L kc ks
theorem own_go {g g' : JFrame} (h : ∀ t, Steps p.tables e below (T'.setTop g') t → Steps p.tables e below (T.setTop g) t) (K : own_Ends p e below s Q kc ks T' g') : own_Ends p e below s Q kc ks T g := by
  obtain ⟨s2, o, h1, r⟩ := K
  exact ⟨s2, o, h _ h1, r⟩
theorem own_cast {g g' : JFrame} (q : g = g') (K : own_Ends p e below s Q kc ks T g') : own_Ends p e below s Q kc ks T g := q ▸ K
theorem own_leave {v : Option Value} {g : JFrame} (X : Stand p l e R s m args below meth c T locs cells slots) (hlk : meth.locks = false) (hv : meth.sig.returnType = none → v = none)
    (hs : ∀ fs, (∀ (f : JFrame) (acts : List Action), f.method = m → f.locked = none → f.entered = [] → (doReturn e (T.setTop f) acts v).1 = T.setFrames fs) → Steps p.tables e below (T.setTop g) (T.setFrames fs)) (hc : cells ≤ kc) (hn : slots ≤ ks) (hQ : Q v T.heap locs) : own_Ends p e below s Q kc ks T g := by
  obtain ⟨fs, hr, hrun, hended, hW, hsame⟩ := X.leave (v := v) hv hlk
  exact ⟨_, _, hs fs hr, hrun, hended, _, _, rfl, hQ, ⟨_, rfl⟩, hW, hsame.mono hc hn⟩
theorem own_retI (X : Stand p l e R s m args below meth c T locs cells slots) (hx : p.tables.exec = Jvm.exec) (hlk : meth.locks = false) {z : Int32} (hret : meth.sig.returnType = some .int) (hd : decode c.code pc = .ok (.ireturn, 1)) (hc : cells ≤ kc) (hn : slots ≤ ks) (hQ : Q (some (.int z)) T.heap locs) : own_Ends p e below s Q kc ks T (mkF m pc ls (.int z :: st)) :=
  own_leave X hlk (fun h => by rw [hret] at h; cases h) (fun fs hr => retI X hx hret hd hr) hc hn hQ
theorem own_retN (X : Stand p l e R s m args below meth c T locs cells slots) (hx : p.tables.exec = Jvm.exec) (hlk : meth.locks = false) {z : Int32} {ty : FieldType} (hret : meth.sig.returnType = some ty) (ht : ty = .boolean ∨ ty = .byte ∨ ty = .char ∨ ty = .short) (hd : decode c.code pc = .ok (.ireturn, 1)) (hc : cells ≤ kc) (hn : slots ≤ ks) (hQ : Q (some (.int (nar ty z))) T.heap locs) : own_Ends p e below s Q kc ks T (mkF m pc ls (.int z :: st)) :=
  own_leave X hlk (fun h => by rw [hret] at h; cases h) (fun fs hr => retN X hx (t := ty) hret ht hd hr) hc hn hQ
theorem own_retL (X : Stand p l e R s m args below meth c T locs cells slots) (hx : p.tables.exec = Jvm.exec) (hlk : meth.locks = false) {z : Int64} (hret : meth.sig.returnType = some .long) (hd : decode c.code pc = .ok (.lreturn, 1)) (hc : cells ≤ kc) (hn : slots ≤ ks) (hQ : Q (some (.long z)) T.heap locs) : own_Ends p e below s Q kc ks T (mkF m pc ls [.long z]) :=
  own_leave X hlk (fun h => by rw [hret] at h; cases h) (fun fs hr => retOut X hx (t := .long) hret rfl (Or.inr (Or.inl ⟨rfl, rfl, _, rfl⟩)) hd hr) hc hn hQ
theorem own_retD (X : Stand p l e R s m args below meth c T locs cells slots) (hx : p.tables.exec = Jvm.exec) (hlk : meth.locks = false) {z : UInt64} (hret : meth.sig.returnType = some .double) (hd : decode c.code pc = .ok (.dreturn, 1)) (hc : cells ≤ kc) (hn : slots ≤ ks) (hQ : Q (some (.double z)) T.heap locs) : own_Ends p e below s Q kc ks T (mkF m pc ls [.double z]) :=
  own_leave X hlk (fun h => by rw [hret] at h; cases h) (fun fs hr => retOut X hx (t := .double) hret rfl (Or.inr (Or.inr (Or.inl ⟨rfl, rfl, _, rfl⟩))) hd hr) hc hn hQ
theorem own_retA (X : Stand p l e R s m args below meth c T locs cells slots) (hx : p.tables.exec = Jvm.exec) (hlk : meth.locks = false) {w : Value} {ty : FieldType} (hret : meth.sig.returnType = some ty) (ht : ty.isReference = true) (hw : w.isRef = true) (hn1 : narrow ty w = w) (hd : decode c.code pc = .ok (.areturn, 1)) (hc : cells ≤ kc) (hn : slots ≤ ks) (hQ : Q (some w) T.heap locs) : own_Ends p e below s Q kc ks T (mkF m pc ls (w :: st)) :=
  own_leave X hlk (fun h => by rw [hret] at h; cases h) (fun fs hr => retOut X hx (t := ty) hret hn1 (Or.inr (Or.inr (Or.inr (Or.inr ⟨rfl, ht, hw⟩)))) hd hr) hc hn hQ
theorem own_retV (X : Stand p l e R s m args below meth c T locs cells slots) (hx : p.tables.exec = Jvm.exec) (hlk : meth.locks = false) (hret : meth.sig.returnType = none) (hd : decode c.code pc = .ok (.return_, 1)) (hc : cells ≤ kc) (hn : slots ≤ ks) (hQ : Q none T.heap locs) : own_Ends p e below s Q kc ks T (mkF m pc ls []) :=
  own_leave X hlk (fun _ => rfl) (fun fs hr => X.returnOut hx hret hd hr) hc hn hQ
theorem own_iloadN (X : Stand p l e R s m args below meth c T locs cells slots) (hx : p.tables.exec = Jvm.exec) {k : Fin 4} {v : Int32} (hd : decode c.code pc = .ok (.iload_n k, 1)) (hp : pc + 1 = pc') (hl : ls[k.val]? = some (.val (.int v))) (K : own_Ends p e below s Q kc ks T (mkF m pc' ls (.int v :: st))) : own_Ends p e below s Q kc ks T (mkF m pc ls st) := by
  subst hp
  exact own_go (fun t k => XS.iloadN X.here hx rfl hd hl k) K
theorem own_iload (X : Stand p l e R s m args below meth c T locs cells slots) (hx : p.tables.exec = Jvm.exec) {k : Nat} {v : Int32} (hd : decode c.code pc = .ok (.iload k, 2)) (hp : pc + 2 = pc') (hl : ls[k]? = some (.val (.int v))) (K : own_Ends p e below s Q kc ks T (mkF m pc' ls (.int v :: st))) : own_Ends p e below s Q kc ks T (mkF m pc ls st) := by
  subst hp
  exact own_go (fun t k => XS.iload X.here hx rfl hd hl k) K
theorem own_istoreN (X : Stand p l e R s m args below meth c T locs cells slots) (hx : p.tables.exec = Jvm.exec) {k : Fin 4} {v : Int32} {l' : Array Slot} (hd : decode c.code pc = .ok (.istore_n k, 1)) (hp : pc + 1 = pc') (hl : storeLocals ls k.val (.int v) = some l') (K : own_Ends p e below s Q kc ks T (mkF m pc' l' st)) : own_Ends p e below s Q kc ks T (mkF m pc ls (.int v :: st)) := by
  subst hp
  exact own_go (fun t k => XS.istoreN X.here hx rfl hd rfl hl k) K
theorem own_istore (X : Stand p l e R s m args below meth c T locs cells slots) (hx : p.tables.exec = Jvm.exec) {k : Nat} {v : Int32} {l' : Array Slot} (hd : decode c.code pc = .ok (.istore k, 2)) (hp : pc + 2 = pc') (hl : storeLocals ls k (.int v) = some l') (K : own_Ends p e below s Q kc ks T (mkF m pc' l' st)) : own_Ends p e below s Q kc ks T (mkF m pc ls (.int v :: st)) := by
  subst hp
  exact own_go (fun t k => XS.istore X.here hx rfl hd rfl hl k) K
theorem own_lloadN (X : Stand p l e R s m args below meth c T locs cells slots) (hx : p.tables.exec = Jvm.exec) {k : Fin 4} {v : Int64} (hd : decode c.code pc = .ok (.lload_n k, 1)) (hp : pc + 1 = pc') (hl : ls[k.val]? = some (.val (.long v))) (K : own_Ends p e below s Q kc ks T (mkF m pc' ls (.long v :: st))) : own_Ends p e below s Q kc ks T (mkF m pc ls st) := by
  subst hp
  exact own_go (fun t k => XS.lloadN X.here hx rfl hd hl k) K
theorem own_lload (X : Stand p l e R s m args below meth c T locs cells slots) (hx : p.tables.exec = Jvm.exec) {k : Nat} {v : Int64} (hd : decode c.code pc = .ok (.lload k, 2)) (hp : pc + 2 = pc') (hl : ls[k]? = some (.val (.long v))) (K : own_Ends p e below s Q kc ks T (mkF m pc' ls (.long v :: st))) : own_Ends p e below s Q kc ks T (mkF m pc ls st) := by
  subst hp
  exact own_go (fun t k => XS.lload X.here hx rfl hd hl k) K
theorem own_lstoreN (X : Stand p l e R s m args below meth c T locs cells slots) (hx : p.tables.exec = Jvm.exec) {k : Fin 4} {v : Int64} {l' : Array Slot} (hd : decode c.code pc = .ok (.lstore_n k, 1)) (hp : pc + 1 = pc') (hl : storeLocals ls k.val (.long v) = some l') (K : own_Ends p e below s Q kc ks T (mkF m pc' l' st)) : own_Ends p e below s Q kc ks T (mkF m pc ls (.long v :: st)) := by
  subst hp
  exact own_go (fun t k => XS.lstoreN X.here hx rfl hd rfl hl k) K
theorem own_lstore (X : Stand p l e R s m args below meth c T locs cells slots) (hx : p.tables.exec = Jvm.exec) {k : Nat} {v : Int64} {l' : Array Slot} (hd : decode c.code pc = .ok (.lstore k, 2)) (hp : pc + 2 = pc') (hl : storeLocals ls k (.long v) = some l') (K : own_Ends p e below s Q kc ks T (mkF m pc' l' st)) : own_Ends p e below s Q kc ks T (mkF m pc ls (.long v :: st)) := by
  subst hp
  exact own_go (fun t k => XS.lstore X.here hx rfl hd rfl hl k) K
theorem own_dloadN (X : Stand p l e R s m args below meth c T locs cells slots) (hx : p.tables.exec = Jvm.exec) {k : Fin 4} {v : UInt64} (hd : decode c.code pc = .ok (.dload_n k, 1)) (hp : pc + 1 = pc') (hl : ls[k.val]? = some (.val (.double v))) (K : own_Ends p e below s Q kc ks T (mkF m pc' ls (.double v :: st))) : own_Ends p e below s Q kc ks T (mkF m pc ls st) := by
  subst hp
  exact own_go (fun t k => XS.dloadN X.here hx rfl hd hl k) K
theorem own_dload (X : Stand p l e R s m args below meth c T locs cells slots) (hx : p.tables.exec = Jvm.exec) {k : Nat} {v : UInt64} (hd : decode c.code pc = .ok (.dload k, 2)) (hp : pc + 2 = pc') (hl : ls[k]? = some (.val (.double v))) (K : own_Ends p e below s Q kc ks T (mkF m pc' ls (.double v :: st))) : own_Ends p e below s Q kc ks T (mkF m pc ls st) := by
  subst hp
  exact own_go (fun t k => XS.dload X.here hx rfl hd hl k) K
theorem own_dstoreN (X : Stand p l e R s m args below meth c T locs cells slots) (hx : p.tables.exec = Jvm.exec) {k : Fin 4} {v : UInt64} {l' : Array Slot} (hd : decode c.code pc = .ok (.dstore_n k, 1)) (hp : pc + 1 = pc') (hl : storeLocals ls k.val (.double v) = some l') (K : own_Ends p e below s Q kc ks T (mkF m pc' l' st)) : own_Ends p e below s Q kc ks T (mkF m pc ls (.double v :: st)) := by
  subst hp
  exact own_go (fun t k => XS.dstoreN X.here hx rfl hd rfl hl k) K
theorem own_dstore (X : Stand p l e R s m args below meth c T locs cells slots) (hx : p.tables.exec = Jvm.exec) {k : Nat} {v : UInt64} {l' : Array Slot} (hd : decode c.code pc = .ok (.dstore k, 2)) (hp : pc + 2 = pc') (hl : storeLocals ls k (.double v) = some l') (K : own_Ends p e below s Q kc ks T (mkF m pc' l' st)) : own_Ends p e below s Q kc ks T (mkF m pc ls (.double v :: st)) := by
  subst hp
  exact own_go (fun t k => XS.dstore X.here hx rfl hd rfl hl k) K
theorem own_aloadN (X : Stand p l e R s m args below meth c T locs cells slots) (hx : p.tables.exec = Jvm.exec) {k : Fin 4} {v : Value} (hd : decode c.code pc = .ok (.aload_n k, 1)) (hp : pc + 1 = pc') (hl : ls[k.val]? = some (.val v)) (hv : v.isRef = true) (K : own_Ends p e below s Q kc ks T (mkF m pc' ls (v :: st))) : own_Ends p e below s Q kc ks T (mkF m pc ls st) := by
  subst hp
  exact own_go (fun t k => XS.aloadN X.here hx rfl hd hl hv k) K
theorem own_aload (X : Stand p l e R s m args below meth c T locs cells slots) (hx : p.tables.exec = Jvm.exec) {k : Nat} {v : Value} (hd : decode c.code pc = .ok (.aload k, 2)) (hp : pc + 2 = pc') (hl : ls[k]? = some (.val v)) (hv : v.isRef = true) (K : own_Ends p e below s Q kc ks T (mkF m pc' ls (v :: st))) : own_Ends p e below s Q kc ks T (mkF m pc ls st) := by
  subst hp
  exact own_go (fun t k => XS.aload X.here hx rfl hd hl hv k) K
theorem own_astoreN (X : Stand p l e R s m args below meth c T locs cells slots) (hx : p.tables.exec = Jvm.exec) {k : Fin 4} {v : Value} {l' : Array Slot} (hd : decode c.code pc = .ok (.astore_n k, 1)) (hp : pc + 1 = pc') (hv : v.isRef = true) (hl : storeLocals ls k.val v = some l') (K : own_Ends p e below s Q kc ks T (mkF m pc' l' st)) : own_Ends p e below s Q kc ks T (mkF m pc ls (v :: st)) := by
  subst hp
  exact own_go (fun t k => XS.astoreN X.here hx rfl hd rfl hv hl k) K
theorem own_astore (X : Stand p l e R s m args below meth c T locs cells slots) (hx : p.tables.exec = Jvm.exec) {k : Nat} {v : Value} {l' : Array Slot} (hd : decode c.code pc = .ok (.astore k, 2)) (hp : pc + 2 = pc') (hv : v.isRef = true) (hl : storeLocals ls k v = some l') (K : own_Ends p e below s Q kc ks T (mkF m pc' l' st)) : own_Ends p e below s Q kc ks T (mkF m pc ls (v :: st)) := by
  subst hp
  exact own_go (fun t k => XS.astore X.here hx rfl hd rfl hv hl k) K
theorem own_iconst (X : Stand p l e R s m args below meth c T locs cells slots) (hx : p.tables.exec = Jvm.exec) {i : Int} {z : Int32} (hd : decode c.code pc = .ok (.iconst i, 1)) (hp : pc + 1 = pc') (hz : Int32.ofInt i = z) (K : own_Ends p e below s Q kc ks T (mkF m pc' ls (.int z :: st))) : own_Ends p e below s Q kc ks T (mkF m pc ls st) := by
  subst hp hz
  exact own_go (fun t k => XS.iconst X.here hx rfl hd k) K
theorem own_bipush (X : Stand p l e R s m args below meth c T locs cells slots) (hx : p.tables.exec = Jvm.exec) {i : Int} {z : Int32} (hd : decode c.code pc = .ok (.bipush i, 2)) (hp : pc + 2 = pc') (hz : (Int8.ofInt i).toInt32 = z) (K : own_Ends p e below s Q kc ks T (mkF m pc' ls (.int z :: st))) : own_Ends p e below s Q kc ks T (mkF m pc ls st) := by
  subst hp hz
  exact own_go (fun t k => XS.bipush X.here hx rfl hd k) K
theorem own_sipush (X : Stand p l e R s m args below meth c T locs cells slots) (hx : p.tables.exec = Jvm.exec) {i : Int} {z : Int32} (hd : decode c.code pc = .ok (.sipush i, 3)) (hp : pc + 3 = pc') (hz : (Int16.ofInt i).toInt32 = z) (K : own_Ends p e below s Q kc ks T (mkF m pc' ls (.int z :: st))) : own_Ends p e below s Q kc ks T (mkF m pc ls st) := by
  subst hp hz
  exact own_go (fun t k => XS.sipush X.here hx rfl hd k) K
theorem own_lconst (X : Stand p l e R s m args below meth c T locs cells slots) (hx : p.tables.exec = Jvm.exec) {k : Fin 2} {z : Int64} (hd : decode c.code pc = .ok (.lconst k, 1)) (hp : pc + 1 = pc') (hz : Int64.ofNat k = z) (K : own_Ends p e below s Q kc ks T (mkF m pc' ls (.long z :: st))) : own_Ends p e below s Q kc ks T (mkF m pc ls st) := by
  subst hp hz
  exact own_go (fun t k => XS.lconst X.here hx rfl hd k) K
theorem own_anull (X : Stand p l e R s m args below meth c T locs cells slots) (hx : p.tables.exec = Jvm.exec) (hd : decode c.code pc = .ok (.aconst_null, 1)) (hp : pc + 1 = pc')  (K : own_Ends p e below s Q kc ks T (mkF m pc' ls (.null :: st))) : own_Ends p e below s Q kc ks T (mkF m pc ls st) := by
  subst hp
  exact own_go (fun t k => XS.aconstNull X.here hx rfl hd k) K
theorem own_iadd (X : Stand p l e R s m args below meth c T locs cells slots) (hx : p.tables.exec = Jvm.exec) {x y z : Int32} (hd : decode c.code pc = .ok (.iadd, 1)) (hp : pc + 1 = pc') (hz : x + y = z) (K : own_Ends p e below s Q kc ks T (mkF m pc' ls (.int z :: st))) : own_Ends p e below s Q kc ks T (mkF m pc ls (.int y :: .int x :: st)) := by
  subst hp hz
  exact own_go (fun t k => XS.iadd X.here hx rfl hd rfl k) K
theorem own_ladd (X : Stand p l e R s m args below meth c T locs cells slots) (hx : p.tables.exec = Jvm.exec) {x y z : Int64} (hd : decode c.code pc = .ok (.ladd, 1)) (hp : pc + 1 = pc') (hz : x + y = z) (K : own_Ends p e below s Q kc ks T (mkF m pc' ls (.long z :: st))) : own_Ends p e below s Q kc ks T (mkF m pc ls (.long y :: .long x :: st)) := by
  subst hp hz
  exact own_go (fun t k => XS.ladd X.here hx rfl hd rfl k) K
theorem own_isub (X : Stand p l e R s m args below meth c T locs cells slots) (hx : p.tables.exec = Jvm.exec) {x y z : Int32} (hd : decode c.code pc = .ok (.isub, 1)) (hp : pc + 1 = pc') (hz : x - y = z) (K : own_Ends p e below s Q kc ks T (mkF m pc' ls (.int z :: st))) : own_Ends p e below s Q kc ks T (mkF m pc ls (.int y :: .int x :: st)) := by
  subst hp hz
  exact own_go (fun t k => XS.isub X.here hx rfl hd rfl k) K
theorem own_lsub (X : Stand p l e R s m args below meth c T locs cells slots) (hx : p.tables.exec = Jvm.exec) {x y z : Int64} (hd : decode c.code pc = .ok (.lsub, 1)) (hp : pc + 1 = pc') (hz : x - y = z) (K : own_Ends p e below s Q kc ks T (mkF m pc' ls (.long z :: st))) : own_Ends p e below s Q kc ks T (mkF m pc ls (.long y :: .long x :: st)) := by
  subst hp hz
  exact own_go (fun t k => XS.lsub X.here hx rfl hd rfl k) K
theorem own_imul (X : Stand p l e R s m args below meth c T locs cells slots) (hx : p.tables.exec = Jvm.exec) {x y z : Int32} (hd : decode c.code pc = .ok (.imul, 1)) (hp : pc + 1 = pc') (hz : x * y = z) (K : own_Ends p e below s Q kc ks T (mkF m pc' ls (.int z :: st))) : own_Ends p e below s Q kc ks T (mkF m pc ls (.int y :: .int x :: st)) := by
  subst hp hz
  exact own_go (fun t k => XS.imul X.here hx rfl hd rfl k) K
theorem own_lmul (X : Stand p l e R s m args below meth c T locs cells slots) (hx : p.tables.exec = Jvm.exec) {x y z : Int64} (hd : decode c.code pc = .ok (.lmul, 1)) (hp : pc + 1 = pc') (hz : x * y = z) (K : own_Ends p e below s Q kc ks T (mkF m pc' ls (.long z :: st))) : own_Ends p e below s Q kc ks T (mkF m pc ls (.long y :: .long x :: st)) := by
  subst hp hz
  exact own_go (fun t k => XS.lmul X.here hx rfl hd rfl k) K
theorem own_iand (X : Stand p l e R s m args below meth c T locs cells slots) (hx : p.tables.exec = Jvm.exec) {x y z : Int32} (hd : decode c.code pc = .ok (.iand, 1)) (hp : pc + 1 = pc') (hz : x &&& y = z) (K : own_Ends p e below s Q kc ks T (mkF m pc' ls (.int z :: st))) : own_Ends p e below s Q kc ks T (mkF m pc ls (.int y :: .int x :: st)) := by
  subst hp hz
  exact own_go (fun t k => XS.iand X.here hx rfl hd rfl k) K
theorem own_land (X : Stand p l e R s m args below meth c T locs cells slots) (hx : p.tables.exec = Jvm.exec) {x y z : Int64} (hd : decode c.code pc = .ok (.land, 1)) (hp : pc + 1 = pc') (hz : x &&& y = z) (K : own_Ends p e below s Q kc ks T (mkF m pc' ls (.long z :: st))) : own_Ends p e below s Q kc ks T (mkF m pc ls (.long y :: .long x :: st)) := by
  subst hp hz
  exact own_go (fun t k => XS.land X.here hx rfl hd rfl k) K
theorem own_ior (X : Stand p l e R s m args below meth c T locs cells slots) (hx : p.tables.exec = Jvm.exec) {x y z : Int32} (hd : decode c.code pc = .ok (.ior, 1)) (hp : pc + 1 = pc') (hz : x ||| y = z) (K : own_Ends p e below s Q kc ks T (mkF m pc' ls (.int z :: st))) : own_Ends p e below s Q kc ks T (mkF m pc ls (.int y :: .int x :: st)) := by
  subst hp hz
  exact own_go (fun t k => XS.ior X.here hx rfl hd rfl k) K
theorem own_lor (X : Stand p l e R s m args below meth c T locs cells slots) (hx : p.tables.exec = Jvm.exec) {x y z : Int64} (hd : decode c.code pc = .ok (.lor, 1)) (hp : pc + 1 = pc') (hz : x ||| y = z) (K : own_Ends p e below s Q kc ks T (mkF m pc' ls (.long z :: st))) : own_Ends p e below s Q kc ks T (mkF m pc ls (.long y :: .long x :: st)) := by
  subst hp hz
  exact own_go (fun t k => XS.lor X.here hx rfl hd rfl k) K
theorem own_ixor (X : Stand p l e R s m args below meth c T locs cells slots) (hx : p.tables.exec = Jvm.exec) {x y z : Int32} (hd : decode c.code pc = .ok (.ixor, 1)) (hp : pc + 1 = pc') (hz : x ^^^ y = z) (K : own_Ends p e below s Q kc ks T (mkF m pc' ls (.int z :: st))) : own_Ends p e below s Q kc ks T (mkF m pc ls (.int y :: .int x :: st)) := by
  subst hp hz
  exact own_go (fun t k => XS.ixor X.here hx rfl hd rfl k) K
theorem own_lxor (X : Stand p l e R s m args below meth c T locs cells slots) (hx : p.tables.exec = Jvm.exec) {x y z : Int64} (hd : decode c.code pc = .ok (.lxor, 1)) (hp : pc + 1 = pc') (hz : x ^^^ y = z) (K : own_Ends p e below s Q kc ks T (mkF m pc' ls (.long z :: st))) : own_Ends p e below s Q kc ks T (mkF m pc ls (.long y :: .long x :: st)) := by
  subst hp hz
  exact own_go (fun t k => XS.lxor X.here hx rfl hd rfl k) K
theorem own_ishl (X : Stand p l e R s m args below meth c T locs cells slots) (hx : p.tables.exec = Jvm.exec) {x y z : Int32} (hd : decode c.code pc = .ok (.ishl, 1)) (hp : pc + 1 = pc') (hz : x <<< (y &&& 31) = z) (K : own_Ends p e below s Q kc ks T (mkF m pc' ls (.int z :: st))) : own_Ends p e below s Q kc ks T (mkF m pc ls (.int y :: .int x :: st)) := by
  subst hp hz
  exact own_go (fun t k => XS.ishl X.here hx rfl hd rfl k) K
theorem own_ishr (X : Stand p l e R s m args below meth c T locs cells slots) (hx : p.tables.exec = Jvm.exec) {x y z : Int32} (hd : decode c.code pc = .ok (.ishr, 1)) (hp : pc + 1 = pc') (hz : x >>> (y &&& 31) = z) (K : own_Ends p e below s Q kc ks T (mkF m pc' ls (.int z :: st))) : own_Ends p e below s Q kc ks T (mkF m pc ls (.int y :: .int x :: st)) := by
  subst hp hz
  exact own_go (fun t k => XS.ishr X.here hx rfl hd rfl k) K
theorem own_iushr (X : Stand p l e R s m args below meth c T locs cells slots) (hx : p.tables.exec = Jvm.exec) {x y z : Int32} (hd : decode c.code pc = .ok (.iushr, 1)) (hp : pc + 1 = pc') (hz : (x.toUInt32 >>> (y &&& 31).toUInt32).toInt32 = z) (K : own_Ends p e below s Q kc ks T (mkF m pc' ls (.int z :: st))) : own_Ends p e below s Q kc ks T (mkF m pc ls (.int y :: .int x :: st)) := by
  subst hp hz
  exact own_go (fun t k => XS.iushr X.here hx rfl hd rfl k) K
theorem own_lshl (X : Stand p l e R s m args below meth c T locs cells slots) (hx : p.tables.exec = Jvm.exec) {x z : Int64} {y : Int32} (hd : decode c.code pc = .ok (.lshl, 1)) (hp : pc + 1 = pc') (hz : x <<< (y &&& 0x3f).toInt64 = z) (K : own_Ends p e below s Q kc ks T (mkF m pc' ls (.long z :: st))) : own_Ends p e below s Q kc ks T (mkF m pc ls (.int y :: .long x :: st)) := by
  subst hp hz
  exact own_go (fun t k => XS.lshl X.here hx rfl hd rfl k) K
theorem own_lshr (X : Stand p l e R s m args below meth c T locs cells slots) (hx : p.tables.exec = Jvm.exec) {x z : Int64} {y : Int32} (hd : decode c.code pc = .ok (.lshr, 1)) (hp : pc + 1 = pc') (hz : x >>> (y &&& 0x3f).toInt64 = z) (K : own_Ends p e below s Q kc ks T (mkF m pc' ls (.long z :: st))) : own_Ends p e below s Q kc ks T (mkF m pc ls (.int y :: .long x :: st)) := by
  subst hp hz
  exact own_go (fun t k => XS.lshr X.here hx rfl hd rfl k) K
theorem own_lushr (X : Stand p l e R s m args below meth c T locs cells slots) (hx : p.tables.exec = Jvm.exec) {x z : Int64} {y : Int32} (hd : decode c.code pc = .ok (.lushr, 1)) (hp : pc + 1 = pc') (hz : (x.toUInt64 >>> (y &&& 0x3f).toInt64.toUInt64).toInt64 = z) (K : own_Ends p e below s Q kc ks T (mkF m pc' ls (.long z :: st))) : own_Ends p e below s Q kc ks T (mkF m pc ls (.int y :: .long x :: st)) := by
  subst hp hz
  exact own_go (fun t k => XS.lushr X.here hx rfl hd rfl k) K
theorem own_idiv (X : Stand p l e R s m args below meth c T locs cells slots) (hx : p.tables.exec = Jvm.exec) {x y z : Int32} (hd : decode c.code pc = .ok (.idiv, 1)) (hp : pc + 1 = pc') (hy : y ≠ 0) (hz : x / y = z) (K : own_Ends p e below s Q kc ks T (mkF m pc' ls (.int z :: st))) : own_Ends p e below s Q kc ks T (mkF m pc ls (.int y :: .int x :: st)) := by
  subst hp hz
  exact own_go (fun t k => XS.idiv X.here hx rfl hd rfl hy k) K
theorem own_irem (X : Stand p l e R s m args below meth c T locs cells slots) (hx : p.tables.exec = Jvm.exec) {x y z : Int32} (hd : decode c.code pc = .ok (.irem, 1)) (hp : pc + 1 = pc') (hy : y ≠ 0) (hz : x % y = z) (K : own_Ends p e below s Q kc ks T (mkF m pc' ls (.int z :: st))) : own_Ends p e below s Q kc ks T (mkF m pc ls (.int y :: .int x :: st)) := by
  subst hp hz
  exact own_go (fun t k => iremM (g := mkF m pc ls (.int y :: .int x :: st)) X hx rfl hd rfl hy k) K
theorem own_ldiv (X : Stand p l e R s m args below meth c T locs cells slots) (hx : p.tables.exec = Jvm.exec) {x y z : Int64} (hd : decode c.code pc = .ok (.ldiv, 1)) (hp : pc + 1 = pc') (hy : y ≠ 0) (hz : x / y = z) (K : own_Ends p e below s Q kc ks T (mkF m pc' ls (.long z :: st))) : own_Ends p e below s Q kc ks T (mkF m pc ls (.long y :: .long x :: st)) := by
  subst hp hz
  exact own_go (fun t k => XS.ldiv X.here hx rfl hd rfl hy k) K
theorem own_lrem (X : Stand p l e R s m args below meth c T locs cells slots) (hx : p.tables.exec = Jvm.exec) {x y z : Int64} (hd : decode c.code pc = .ok (.lrem, 1)) (hp : pc + 1 = pc') (hy : y ≠ 0) (hz : x - (x / y) * y = z) (K : own_Ends p e below s Q kc ks T (mkF m pc' ls (.long z :: st))) : own_Ends p e below s Q kc ks T (mkF m pc ls (.long y :: .long x :: st)) := by
  subst hp hz
  exact own_go (fun t k => XS.lrem X.here hx rfl hd rfl hy k) K
theorem own_ineg (X : Stand p l e R s m args below meth c T locs cells slots) (hx : p.tables.exec = Jvm.exec) {x : Int32} {z : Int32} (hd : decode c.code pc = .ok (.ineg, 1)) (hp : pc + 1 = pc') (hz : -x = z) (K : own_Ends p e below s Q kc ks T (mkF m pc' ls (.int z :: st))) : own_Ends p e below s Q kc ks T (mkF m pc ls (.int x :: st)) := by
  subst hp hz
  exact own_go (fun t k => XS.ineg X.here hx rfl hd rfl k) K
theorem own_lneg (X : Stand p l e R s m args below meth c T locs cells slots) (hx : p.tables.exec = Jvm.exec) {x : Int64} {z : Int64} (hd : decode c.code pc = .ok (.lneg, 1)) (hp : pc + 1 = pc') (hz : -x = z) (K : own_Ends p e below s Q kc ks T (mkF m pc' ls (.long z :: st))) : own_Ends p e below s Q kc ks T (mkF m pc ls (.long x :: st)) := by
  subst hp hz
  exact own_go (fun t k => XS.lneg X.here hx rfl hd rfl k) K
theorem own_i2l (X : Stand p l e R s m args below meth c T locs cells slots) (hx : p.tables.exec = Jvm.exec) {x : Int32} {z : Int64} (hd : decode c.code pc = .ok (.i2l, 1)) (hp : pc + 1 = pc') (hz : x.toInt64 = z) (K : own_Ends p e below s Q kc ks T (mkF m pc' ls (.long z :: st))) : own_Ends p e below s Q kc ks T (mkF m pc ls (.int x :: st)) := by
  subst hp hz
  exact own_go (fun t k => XS.i2l X.here hx rfl hd rfl k) K
theorem own_l2i (X : Stand p l e R s m args below meth c T locs cells slots) (hx : p.tables.exec = Jvm.exec) {x : Int64} {z : Int32} (hd : decode c.code pc = .ok (.l2i, 1)) (hp : pc + 1 = pc') (hz : x.toInt32 = z) (K : own_Ends p e below s Q kc ks T (mkF m pc' ls (.int z :: st))) : own_Ends p e below s Q kc ks T (mkF m pc ls (.long x :: st)) := by
  subst hp hz
  exact own_go (fun t k => XS.l2i X.here hx rfl hd rfl k) K
theorem own_i2b (X : Stand p l e R s m args below meth c T locs cells slots) (hx : p.tables.exec = Jvm.exec) {x : Int32} {z : Int32} (hd : decode c.code pc = .ok (.i2b, 1)) (hp : pc + 1 = pc') (hz : x.toInt8.toInt32 = z) (K : own_Ends p e below s Q kc ks T (mkF m pc' ls (.int z :: st))) : own_Ends p e below s Q kc ks T (mkF m pc ls (.int x :: st)) := by
  subst hp hz
  exact own_go (fun t k => XS.i2b X.here hx rfl hd rfl k) K
theorem own_i2s (X : Stand p l e R s m args below meth c T locs cells slots) (hx : p.tables.exec = Jvm.exec) {x : Int32} {z : Int32} (hd : decode c.code pc = .ok (.i2s, 1)) (hp : pc + 1 = pc') (hz : x.toInt16.toInt32 = z) (K : own_Ends p e below s Q kc ks T (mkF m pc' ls (.int z :: st))) : own_Ends p e below s Q kc ks T (mkF m pc ls (.int x :: st)) := by
  subst hp hz
  exact own_go (fun t k => XS.i2s X.here hx rfl hd rfl k) K
theorem own_i2c (X : Stand p l e R s m args below meth c T locs cells slots) (hx : p.tables.exec = Jvm.exec) {x : Int32} {z : Int32} (hd : decode c.code pc = .ok (.i2c, 1)) (hp : pc + 1 = pc') (hz : x.toUInt32.toUInt16.toUInt32.toInt32 = z) (K : own_Ends p e below s Q kc ks T (mkF m pc' ls (.int z :: st))) : own_Ends p e below s Q kc ks T (mkF m pc ls (.int x :: st)) := by
  subst hp hz
  exact own_go (fun t k => XS.i2c X.here hx rfl hd rfl k) K
theorem own_i2d (X : Stand p l e R s m args below meth c T locs cells slots) (hx : p.tables.exec = Jvm.exec) {x : Int32} {z : UInt64} (hd : decode c.code pc = .ok (.i2d, 1)) (hp : pc + 1 = pc') (hz : FP.i2d x = z) (K : own_Ends p e below s Q kc ks T (mkF m pc' ls (.double z :: st))) : own_Ends p e below s Q kc ks T (mkF m pc ls (.int x :: st)) := by
  subst hp hz
  exact own_go (fun t k => XS.i2dS (g := mkF m pc ls (.int x :: st)) X.here hx rfl hd rfl rfl k) K
theorem own_dadd (X : Stand p l e R s m args below meth c T locs cells slots) (hx : p.tables.exec = Jvm.exec) {x y z : UInt64} (hd : decode c.code pc = .ok (.dadd, 1)) (hp : pc + 1 = pc') (hn : Jvm.Free.Fl.NoNaN64 (FP.dadd x y)) (hz : FP.dadd x y = z) (K : own_Ends p e below s Q kc ks T (mkF m pc' ls (.double z :: st))) : own_Ends p e below s Q kc ks T (mkF m pc ls (.double y :: .double x :: st)) := by
  subst hp hz
  exact own_go (fun t k => XS.daddS (g := mkF m pc ls (.double y :: .double x :: st)) X.here hx rfl hd rfl hn rfl k) K
theorem own_dmul (X : Stand p l e R s m args below meth c T locs cells slots) (hx : p.tables.exec = Jvm.exec) {x y z : UInt64} (hd : decode c.code pc = .ok (.dmul, 1)) (hp : pc + 1 = pc') (hn : Jvm.Free.Fl.NoNaN64 (FP.dmul x y)) (hz : FP.dmul x y = z) (K : own_Ends p e below s Q kc ks T (mkF m pc' ls (.double z :: st))) : own_Ends p e below s Q kc ks T (mkF m pc ls (.double y :: .double x :: st)) := by
  subst hp hz
  exact own_go (fun t k => XS.dmulS (g := mkF m pc ls (.double y :: .double x :: st)) X.here hx rfl hd rfl hn rfl k) K
theorem own_dcmp (X : Stand p l e R s m args below meth c T locs cells slots) (hx : p.tables.exec = Jvm.exec) {o : CmpOp} {x y : UInt64} {z : Int32} (hd : decode c.code pc = .ok (.dcmp o, 1)) (hp : pc + 1 = pc') (hz : cmpValue (FP.dcmp x y) o = z) (K : own_Ends p e below s Q kc ks T (mkF m pc' ls (.int z :: st))) : own_Ends p e below s Q kc ks T (mkF m pc ls (.double y :: .double x :: st)) := by
  subst hp hz
  exact own_go (fun t k => XS.dcmpS (g := mkF m pc ls (.double y :: .double x :: st)) X.here hx rfl hd rfl rfl k) K
theorem own_lcmp (X : Stand p l e R s m args below meth c T locs cells slots) (hx : p.tables.exec = Jvm.exec) {x y : Int64} {z : Int32} (hd : decode c.code pc = .ok (.lcmp, 1)) (hp : pc + 1 = pc') (hz : lcmpW x y = z) (K : own_Ends p e below s Q kc ks T (mkF m pc' ls (.int z :: st))) : own_Ends p e below s Q kc ks T (mkF m pc ls (.long y :: .long x :: st)) := by
  subst hp hz
  exact own_go (fun t k => XS.lcmp X.here hx rfl hd rfl k) K
theorem own_pop (X : Stand p l e R s m args below meth c T locs cells slots) (hx : p.tables.exec = Jvm.exec) {v : Value} (hd : decode c.code pc = .ok (.pop, 1)) (hp : pc + 1 = pc') (hc : v.category = 1) (K : own_Ends p e below s Q kc ks T (mkF m pc' ls st)) : own_Ends p e below s Q kc ks T (mkF m pc ls (v :: st)) := by
  subst hp
  exact own_go (fun t k => XS.pop X.here hx rfl hd rfl hc k) K
theorem own_dup (X : Stand p l e R s m args below meth c T locs cells slots) (hx : p.tables.exec = Jvm.exec) {v : Value} (hd : decode c.code pc = .ok (.dup, 1)) (hp : pc + 1 = pc') (hc : v.category = 1) (K : own_Ends p e below s Q kc ks T (mkF m pc' ls (v :: v :: st))) : own_Ends p e below s Q kc ks T (mkF m pc ls (v :: st)) := by
  subst hp
  exact own_go (fun t k => XS.dup X.here hx rfl hd rfl hc k) K
theorem own_dupX1 (X : Stand p l e R s m args below meth c T locs cells slots) (hx : p.tables.exec = Jvm.exec) {v w : Value} (hd : decode c.code pc = .ok (.dup_x1, 1)) (hp : pc + 1 = pc') (hc : v.category = 1) (hc' : w.category = 1) (K : own_Ends p e below s Q kc ks T (mkF m pc' ls (v :: w :: v :: st))) : own_Ends p e below s Q kc ks T (mkF m pc ls (v :: w :: st)) := by
  subst hp
  exact own_go (fun t k => XS.dupX1 X.here hx rfl hd rfl hc hc' k) K
theorem own_dup2 (X : Stand p l e R s m args below meth c T locs cells slots) (hx : p.tables.exec = Jvm.exec) {v w : Value} (hd : decode c.code pc = .ok (.dup2, 1)) (hp : pc + 1 = pc') (hc : v.category = 1) (hc' : w.category = 1) (K : own_Ends p e below s Q kc ks T (mkF m pc' ls (v :: w :: v :: w :: st))) : own_Ends p e below s Q kc ks T (mkF m pc ls (v :: w :: st)) := by
  subst hp
  exact own_go (fun t k => XT.dup2 X.here hx rfl hd rfl hc hc' k) K
theorem own_dup2L (X : Stand p l e R s m args below meth c T locs cells slots) (hx : p.tables.exec = Jvm.exec) {x : Int64} (hd : decode c.code pc = .ok (.dup2, 1)) (hp : pc + 1 = pc')  (K : own_Ends p e below s Q kc ks T (mkF m pc' ls (.long x :: .long x :: st))) : own_Ends p e below s Q kc ks T (mkF m pc ls (.long x :: st)) := by
  subst hp
  exact own_go (fun t k => XT.dup2L X.here hx rfl hd rfl k) K
theorem own_iinc (X : Stand p l e R s m args below meth c T locs cells slots) (hx : p.tables.exec = Jvm.exec) {k : Nat} {i : Int} {x z : Int32} {l' : Array Slot} (hd : decode c.code pc = .ok (.iinc k i, 3)) (hp : pc + 3 = pc') (hl : ls[k]? = some (.val (.int x))) (hz : x + Int32.ofInt i = z) (hl' : storeLocals ls k (.int z) = some l') (K : own_Ends p e below s Q kc ks T (mkF m pc' l' st)) : own_Ends p e below s Q kc ks T (mkF m pc ls st) := by
  subst hp hz
  exact own_go (fun t k => XS.iinc X.here hx rfl hd hl hl' k) K
theorem own_goto (X : Stand p l e R s m args below meth c T locs cells slots) (hx : p.tables.exec = Jvm.exec) {o : Int} (hd : decode c.code pc = .ok (.goto o, 3)) (ho : 0 ≤ (pc : Int) + o) (hp : ((pc : Int) + o).toNat = pc') (K : own_Ends p e below s Q kc ks T (mkF m pc' ls st)) : own_Ends p e below s Q kc ks T (mkF m pc ls st) :=
  own_go (fun t k => XS.goto X.here hx rfl rfl hd ho hp k) K
theorem own_ifYes (X : Stand p l e R s m args below meth c T locs cells slots) (hx : p.tables.exec = Jvm.exec) {o : Int} {cd : ClassFile.Cond} {x : Int32} (hd : decode c.code pc = .ok (.ifCond cd o, 3)) (hc : if_icmp.holds cd x 0 = true) (ho : 0 ≤ (pc : Int) + o) (hp : ((pc : Int) + o).toNat = pc') (K : own_Ends p e below s Q kc ks T (mkF m pc' ls st)) : own_Ends p e below s Q kc ks T (mkF m pc ls (.int x :: st)) :=
  own_go (fun t k => XS.ifYes X.here hx rfl rfl hd rfl ((if0 _ _).trans hc) ho hp k) K
theorem own_ifNo (X : Stand p l e R s m args below meth c T locs cells slots) (hx : p.tables.exec = Jvm.exec) {o : Int} {cd : ClassFile.Cond} {x : Int32} (hd : decode c.code pc = .ok (.ifCond cd o, 3)) (hp : pc + 3 = pc') (hc : if_icmp.holds cd x 0 = false) (K : own_Ends p e below s Q kc ks T (mkF m pc' ls st)) : own_Ends p e below s Q kc ks T (mkF m pc ls (.int x :: st)) := by
  subst hp
  exact own_go (fun t k => XS.ifNo X.here hx rfl hd rfl ((if0 _ _).trans hc) k) K
theorem own_icmpYes (X : Stand p l e R s m args below meth c T locs cells slots) (hx : p.tables.exec = Jvm.exec) {o : Int} {cd : ClassFile.Cond} {x y : Int32} (hd : decode c.code pc = .ok (.if_icmp cd o, 3)) (hc : if_icmp.holds cd x y = true) (ho : 0 ≤ (pc : Int) + o) (hp : ((pc : Int) + o).toNat = pc') (K : own_Ends p e below s Q kc ks T (mkF m pc' ls st)) : own_Ends p e below s Q kc ks T (mkF m pc ls (.int y :: .int x :: st)) :=
  own_go (fun t k => XS.icmpYes X.here hx rfl rfl hd rfl hc ho hp k) K
theorem own_icmpNo (X : Stand p l e R s m args below meth c T locs cells slots) (hx : p.tables.exec = Jvm.exec) {o : Int} {cd : ClassFile.Cond} {x y : Int32} (hd : decode c.code pc = .ok (.if_icmp cd o, 3)) (hp : pc + 3 = pc') (hc : if_icmp.holds cd x y = false) (K : own_Ends p e below s Q kc ks T (mkF m pc' ls st)) : own_Ends p e below s Q kc ks T (mkF m pc ls (.int y :: .int x :: st)) := by
  subst hp
  exact own_go (fun t k => XS.icmpNo X.here hx rfl hd rfl hc k) K
theorem own_ifnullYes (X : Stand p l e R s m args below meth c T locs cells slots) (hx : p.tables.exec = Jvm.exec) {o : Int} (hd : decode c.code pc = .ok (.ifnull o, 3)) (ho : 0 ≤ (pc : Int) + o) (hp : ((pc : Int) + o).toNat = pc') (K : own_Ends p e below s Q kc ks T (mkF m pc' ls st)) : own_Ends p e below s Q kc ks T (mkF m pc ls (.null :: st)) :=
  own_go (fun t k => XS.ifnullYes X.here hx rfl rfl hd rfl ho hp k) K
theorem own_ifnullNo (X : Stand p l e R s m args below meth c T locs cells slots) (hx : p.tables.exec = Jvm.exec) {o : Int} {b : Addr} (hd : decode c.code pc = .ok (.ifnull o, 3)) (hp : pc + 3 = pc')  (K : own_Ends p e below s Q kc ks T (mkF m pc' ls st)) : own_Ends p e below s Q kc ks T (mkF m pc ls (.ref b :: st)) := by
  subst hp
  exact own_go (fun t k => XS.ifnullNo X.here hx rfl hd rfl k) K
theorem own_ifnonnullYes (X : Stand p l e R s m args below meth c T locs cells slots) (hx : p.tables.exec = Jvm.exec) {o : Int} {b : Addr} (hd : decode c.code pc = .ok (.ifnonnull o, 3)) (ho : 0 ≤ (pc : Int) + o) (hp : ((pc : Int) + o).toNat = pc') (K : own_Ends p e below s Q kc ks T (mkF m pc' ls st)) : own_Ends p e below s Q kc ks T (mkF m pc ls (.ref b :: st)) :=
  own_go (fun t k => XS.ifnonnullYes X.here hx rfl rfl hd rfl ho hp k) K
theorem own_ifnonnullNo (X : Stand p l e R s m args below meth c T locs cells slots) (hx : p.tables.exec = Jvm.exec) {o : Int} (hd : decode c.code pc = .ok (.ifnonnull o, 3)) (hp : pc + 3 = pc')  (K : own_Ends p e below s Q kc ks T (mkF m pc' ls st)) : own_Ends p e below s Q kc ks T (mkF m pc ls (.null :: st)) := by
  subst hp
  exact own_go (fun t k => XS.ifnonnullNo X.here hx rfl hd rfl k) K
theorem own_acmpYes (X : Stand p l e R s m args below meth c T locs cells slots) (hx : p.tables.exec = Jvm.exec) {o : Int} {cd : ACond} {v w : Value} (hd : decode c.code pc = .ok (.if_acmp cd o, 3)) (h1 : v.isRef = true) (h2 : w.isRef = true) (hc : XT.acmp cd v w = true) (ho : 0 ≤ (pc : Int) + o) (hp : ((pc : Int) + o).toNat = pc') (K : own_Ends p e below s Q kc ks T (mkF m pc' ls st)) : own_Ends p e below s Q kc ks T (mkF m pc ls (w :: v :: st)) :=
  own_go (fun t k => XT.acmpYes X.here hx rfl rfl hd rfl h1 h2 hc ho hp k) K
theorem own_acmpNo (X : Stand p l e R s m args below meth c T locs cells slots) (hx : p.tables.exec = Jvm.exec) {o : Int} {cd : ACond} {v w : Value} (hd : decode c.code pc = .ok (.if_acmp cd o, 3)) (hp : pc + 3 = pc') (h1 : v.isRef = true) (h2 : w.isRef = true) (hc : XT.acmp cd v w = false) (K : own_Ends p e below s Q kc ks T (mkF m pc' ls st)) : own_Ends p e below s Q kc ks T (mkF m pc ls (w :: v :: st)) := by
  subst hp
  exact own_go (fun t k => XT.acmpNo X.here hx rfl hd rfl h1 h2 hc k) K
theorem own_ldcI (X : Stand p l e R s m args below meth c T locs cells slots) (hx : p.tables.exec = Jvm.exec) {own : String} {ix : Nat} {v : Int32} {Z : State} {a0 : Array Value} (hZ : Z.Warmed39 s.vm) (hown : s.vm.findClass own = some m.cls) (w : (Jvm.Cond.constant own ix v).before a0 Z = true) (hd : decode c.code pc = .ok (.ldc ix, 2)) (hp : pc + 2 = pc')  (K : own_Ends p e below s Q kc ks T (mkF m pc' ls (.int v :: st))) : own_Ends p e below s Q kc ks T (mkF m pc ls st) := by
  subst hp
  exact own_go (fun t k => X.ldcInt hx hown (mvT hZ w) (g := mkF m pc ls st) rfl hd t k) K
theorem own_ldcwI (X : Stand p l e R s m args below meth c T locs cells slots) (hx : p.tables.exec = Jvm.exec) {own : String} {ix : Nat} {v : Int32} {Z : State} {a0 : Array Value} (hZ : Z.Warmed39 s.vm) (hown : s.vm.findClass own = some m.cls) (w : (Jvm.Cond.constant own ix v).before a0 Z = true) (hd : decode c.code pc = .ok (.ldc_w ix, 3)) (hp : pc + 3 = pc')  (K : own_Ends p e below s Q kc ks T (mkF m pc' ls (.int v :: st))) : own_Ends p e below s Q kc ks T (mkF m pc ls st) := by
  subst hp
  exact own_go (fun t k => X.ldcwInt hx hown (mvT hZ w) (g := mkF m pc ls st) rfl hd t k) K
theorem own_ldc2J (X : Stand p l e R s m args below meth c T locs cells slots) (hx : p.tables.exec = Jvm.exec) {own : String} {ix : Nat} {v : Int64} {Z : State} {a0 : Array Value} (hZ : Z.Warmed39 s.vm) (hown : s.vm.findClass own = some m.cls) (w : (Jvm.Cond.constantLong own ix v).before a0 Z = true) (hd : decode c.code pc = .ok (.ldc2_w ix, 3)) (hp : pc + 3 = pc')  (K : own_Ends p e below s Q kc ks T (mkF m pc' ls (.long v :: st))) : own_Ends p e below s Q kc ks T (mkF m pc ls st) := by
  subst hp
  exact own_go (fun t k => X.ldc2Long hx hown (mvT hZ w) (g := mkF m pc ls st) rfl hd t k) K
theorem own_iaload (X : Stand p l e R s m args below meth c T locs cells slots) (hx : p.tables.exec = Jvm.exec) {Z : State} {h : Heap} {a : Addr} {k : ClassId} {n j : Int32} {vs : List Value} {d v : Value} (hZ : Z.Warmed39 s.vm) (eT : T.heap = h) (V : Arv Z h a k .int n vs d) (hd : decode c.code pc = .ok (.iaload, 1)) (hp : pc + 1 = pc') (hj : ¬ j < 0 ∧ j < n) (hv : vs.getD j.toNatClampNeg d = v) (K : own_Ends p e below s Q kc ks T (mkF m pc' ls (v :: st))) : own_Ends p e below s Q kc ks T (mkF m pc ls (.int j :: .ref a :: st)) := by
  subst hp
  obtain ⟨cl, A, q1, S, q2, H, G⟩ := V
  have hin := inb_of S hj
  exact own_go (fun t k => X.iaload hx (by rw [eT]; exact A.1) (State.isArrayOf_alike hZ.alike A.2.1) A.2.2 hin (H.at hin hv) (g := mkF m pc ls (.int j :: .ref a :: st)) rfl rfl hd t k) K
theorem own_laload (X : Stand p l e R s m args below meth c T locs cells slots) (hx : p.tables.exec = Jvm.exec) {Z : State} {h : Heap} {a : Addr} {k : ClassId} {n j : Int32} {vs : List Value} {d v : Value} (hZ : Z.Warmed39 s.vm) (eT : T.heap = h) (V : Arv Z h a k .long n vs d) (hd : decode c.code pc = .ok (.laload, 1)) (hp : pc + 1 = pc') (hj : ¬ j < 0 ∧ j < n) (hv : vs.getD j.toNatClampNeg d = v) (K : own_Ends p e below s Q kc ks T (mkF m pc' ls (v :: st))) : own_Ends p e below s Q kc ks T (mkF m pc ls (.int j :: .ref a :: st)) := by
  subst hp
  obtain ⟨cl, A, q1, S, q2, H, G⟩ := V
  have hin := inb_of S hj
  exact own_go (fun t k => X.laload hx (by rw [eT]; exact A.1) (State.isArrayOf_alike hZ.alike A.2.1) A.2.2 hin (H.at hin hv) (g := mkF m pc ls (.int j :: .ref a :: st)) rfl rfl hd t k) K
theorem own_caload (X : Stand p l e R s m args below meth c T locs cells slots) (hx : p.tables.exec = Jvm.exec) {Z : State} {h : Heap} {a : Addr} {k : ClassId} {n j : Int32} {vs : List Value} {d v : Value} (hZ : Z.Warmed39 s.vm) (eT : T.heap = h) (V : Arv Z h a k .char n vs d) (hd : decode c.code pc = .ok (.caload, 1)) (hp : pc + 1 = pc') (hj : ¬ j < 0 ∧ j < n) (hv : vs.getD j.toNatClampNeg d = v) (K : own_Ends p e below s Q kc ks T (mkF m pc' ls (v :: st))) : own_Ends p e below s Q kc ks T (mkF m pc ls (.int j :: .ref a :: st)) := by
  subst hp
  obtain ⟨cl, A, q1, S, q2, H, G⟩ := V
  have hin := inb_of S hj
  exact own_go (fun t k => X.caload hx (by rw [eT]; exact A.1) (State.isArrayOf_alike hZ.alike A.2.1) A.2.2 hin (H.at hin hv) (g := mkF m pc ls (.int j :: .ref a :: st)) rfl rfl hd t k) K
theorem own_baload (X : Stand p l e R s m args below meth c T locs cells slots) (hx : p.tables.exec = Jvm.exec) {Z : State} {h : Heap} {a : Addr} {k : ClassId} {n j : Int32} {vs : List Value} {d v : Value} (hZ : Z.Warmed39 s.vm) (eT : T.heap = h) (V : Arv Z h a k .byte n vs d) (hd : decode c.code pc = .ok (.baload, 1)) (hp : pc + 1 = pc') (hj : ¬ j < 0 ∧ j < n) (hv : vs.getD j.toNatClampNeg d = v) (K : own_Ends p e below s Q kc ks T (mkF m pc' ls (v :: st))) : own_Ends p e below s Q kc ks T (mkF m pc ls (.int j :: .ref a :: st)) := by
  subst hp
  obtain ⟨cl, A, q1, S, q2, H, G⟩ := V
  have hin := inb_of S hj
  exact own_go (fun t k => X.baloadBytes hx (by rw [eT]; exact A.1) (State.isArrayOf_alike hZ.alike A.2.1) A.2.2 hin (H.at hin hv) (g := mkF m pc ls (.int j :: .ref a :: st)) rfl rfl hd t k) K
theorem own_zaload (X : Stand p l e R s m args below meth c T locs cells slots) (hx : p.tables.exec = Jvm.exec) {Z : State} {h : Heap} {a : Addr} {k : ClassId} {n j : Int32} {vs : List Value} {d v : Value} (hZ : Z.Warmed39 s.vm) (eT : T.heap = h) (V : Arv Z h a k .boolean n vs d) (hd : decode c.code pc = .ok (.baload, 1)) (hp : pc + 1 = pc') (hj : ¬ j < 0 ∧ j < n) (hv : vs.getD j.toNatClampNeg d = v) (K : own_Ends p e below s Q kc ks T (mkF m pc' ls (v :: st))) : own_Ends p e below s Q kc ks T (mkF m pc ls (.int j :: .ref a :: st)) := by
  subst hp
  obtain ⟨cl, A, q1, S, q2, H, G⟩ := V
  have hin := inb_of S hj
  exact own_go (fun t k => X.baloadBooleans hx (by rw [eT]; exact A.1) (State.isArrayOf_alike hZ.alike A.2.1) A.2.2 hin (H.at hin hv) (g := mkF m pc ls (.int j :: .ref a :: st)) rfl rfl hd t k) K
theorem own_daload (X : Stand p l e R s m args below meth c T locs cells slots) (hx : p.tables.exec = Jvm.exec) {Z : State} {h : Heap} {a : Addr} {k : ClassId} {n j : Int32} {vs : List Value} {d v : Value} (hZ : Z.Warmed39 s.vm) (eT : T.heap = h) (V : Arv Z h a k .double n vs d) (hd : decode c.code pc = .ok (.daload, 1)) (hp : pc + 1 = pc') (hj : ¬ j < 0 ∧ j < n) (hv : vs.getD j.toNatClampNeg d = v) (K : own_Ends p e below s Q kc ks T (mkF m pc' ls (v :: st))) : own_Ends p e below s Q kc ks T (mkF m pc ls (.int j :: .ref a :: st)) := by
  subst hp
  obtain ⟨cl, A, q1, S, q2, H, G⟩ := V
  have hin := inb_of S hj
  exact own_go (fun t k => X.daload hx (by rw [eT]; exact A.1) (State.isArrayOf_alike hZ.alike A.2.1) A.2.2 hin (H.at hin hv) (g := mkF m pc ls (.int j :: .ref a :: st)) rfl rfl hd t k) K
theorem own_alen (X : Stand p l e R s m args below meth c T locs cells slots) (hx : p.tables.exec = Jvm.exec) {Z : State} {h : Heap} {a : Addr} {k : ClassId} {ty : FieldType} {n : Int32} {vs : List Value} {d : Value} (hZ : Z.Warmed39 s.vm) (eT : T.heap = h) (V : Arv Z h a k ty n vs d) (hd : decode c.code pc = .ok (.arraylength, 1)) (hp : pc + 1 = pc')  (K : own_Ends p e below s Q kc ks T (mkF m pc' ls (.int n :: st))) : own_Ends p e below s Q kc ks T (mkF m pc ls (.ref a :: st)) := by
  subst hp
  obtain ⟨cl, A, q1, S, q2, H, G⟩ := V
  rw [← len_of S q2] at K
  exact own_go (fun t k => X.arraylength hx (by rw [eT]; exact A.1) (State.isArrayOf_alike hZ.alike A.2.1) (g := mkF m pc ls (.ref a :: st)) rfl rfl hd t k) K
theorem own_iastore (X : Stand p l e R s m args below meth c T locs cells slots) (hx : p.tables.exec = Jvm.exec) {Z : State} {h : Heap} {a : Addr} {k : ClassId} {n j : Int32} {vs : List Value} {d : Value} {x : Int32} (hZ : Z.Warmed39 s.vm) (eT : T.heap = h) (V : Arv Z h a k .int n vs d) (hd : decode c.code pc = .ok (.iastore, 1)) (hp : pc + 1 = pc') (hj : ¬ j < 0 ∧ j < n) (i : Nat) (hi : j.toNatClampNeg = i) (hl : i < vs.length) {n0 : Nat} (N : Fr n0 locs) (ge : n0 ≤ a)
    (K : ∀ T' h' L, Stand p l e R s m args below meth c T' L cells slots → T'.heap = h' → Fr n0 L → Wr h h' a j.toNatClampNeg (.int x) → Arv Z h' a k .int n (vs.set i (.int x)) d → own_Ends p e below s Q kc ks T' (mkF m pc' ls st)) : own_Ends p e below s Q kc ks T (mkF m pc ls (.int x :: .int j :: .ref a :: st)) := by
  subst hp
  obtain ⟨cl, A, q1, S, q2, H, G⟩ := V
  have hin := inb_of S hj
  obtain ⟨T1, h1, X1, e1, W1, st1⟩ := stI X hx hZ eT A (j := j) hin (g := mkF m pc ls (.int x :: .int j :: .ref a :: st)) rfl rfl hd
  exact own_go st1 (K T1 h1 _ X1 e1 (Fr.snoc X1 N ge) W1 (Arv.set A q1 S q2 H G rfl W1 i hi hl))
theorem own_lastore (X : Stand p l e R s m args below meth c T locs cells slots) (hx : p.tables.exec = Jvm.exec) {Z : State} {h : Heap} {a : Addr} {k : ClassId} {n j : Int32} {vs : List Value} {d : Value} {x : Int64} (hZ : Z.Warmed39 s.vm) (eT : T.heap = h) (V : Arv Z h a k .long n vs d) (hd : decode c.code pc = .ok (.lastore, 1)) (hp : pc + 1 = pc') (hj : ¬ j < 0 ∧ j < n) (i : Nat) (hi : j.toNatClampNeg = i) (hl : i < vs.length) {n0 : Nat} (N : Fr n0 locs) (ge : n0 ≤ a)
    (K : ∀ T' h' L, Stand p l e R s m args below meth c T' L cells slots → T'.heap = h' → Fr n0 L → Wr h h' a j.toNatClampNeg (.long x) → Arv Z h' a k .long n (vs.set i (.long x)) d → own_Ends p e below s Q kc ks T' (mkF m pc' ls st)) : own_Ends p e below s Q kc ks T (mkF m pc ls (.long x :: .int j :: .ref a :: st)) := by
  subst hp
  obtain ⟨cl, A, q1, S, q2, H, G⟩ := V
  have hin := inb_of S hj
  obtain ⟨T1, h1, X1, e1, W1, st1⟩ := stJ X hx hZ eT A (j := j) hin (g := mkF m pc ls (.long x :: .int j :: .ref a :: st)) rfl rfl hd
  exact own_go st1 (K T1 h1 _ X1 e1 (Fr.snoc X1 N ge) W1 (Arv.set A q1 S q2 H G rfl W1 i hi hl))
theorem own_dastore (X : Stand p l e R s m args below meth c T locs cells slots) (hx : p.tables.exec = Jvm.exec) {Z : State} {h : Heap} {a : Addr} {k : ClassId} {n j : Int32} {vs : List Value} {d : Value} {x : UInt64} (hZ : Z.Warmed39 s.vm) (eT : T.heap = h) (V : Arv Z h a k .double n vs d) (hd : decode c.code pc = .ok (.dastore, 1)) (hp : pc + 1 = pc') (hj : ¬ j < 0 ∧ j < n) (i : Nat) (hi : j.toNatClampNeg = i) (hl : i < vs.length) {n0 : Nat} (N : Fr n0 locs) (ge : n0 ≤ a)
    (K : ∀ T' h' L, Stand p l e R s m args below meth c T' L cells slots → T'.heap = h' → Fr n0 L → Wr h h' a j.toNatClampNeg (.double x) → Arv Z h' a k .double n (vs.set i (.double x)) d → own_Ends p e below s Q kc ks T' (mkF m pc' ls st)) : own_Ends p e below s Q kc ks T (mkF m pc ls (.double x :: .int j :: .ref a :: st)) := by
  subst hp
  obtain ⟨cl, A, q1, S, q2, H, G⟩ := V
  have hin := inb_of S hj
  obtain ⟨T1, h1, X1, e1, W1, st1⟩ := stD X hx hZ eT A (j := j) hin (g := mkF m pc ls (.double x :: .int j :: .ref a :: st)) rfl rfl hd
  exact own_go st1 (K T1 h1 _ X1 e1 (Fr.snoc X1 N ge) W1 (Arv.set A q1 S q2 H G rfl W1 i hi hl))
theorem own_castore (X : Stand p l e R s m args below meth c T locs cells slots) (hx : p.tables.exec = Jvm.exec) {Z : State} {h : Heap} {a : Addr} {k : ClassId} {n j : Int32} {vs : List Value} {d : Value} {x : Int32} (hZ : Z.Warmed39 s.vm) (eT : T.heap = h) (V : Arv Z h a k .char n vs d) (hd : decode c.code pc = .ok (.castore, 1)) (hp : pc + 1 = pc') (hj : ¬ j < 0 ∧ j < n) (i : Nat) (hi : j.toNatClampNeg = i) (hl : i < vs.length) {n0 : Nat} (N : Fr n0 locs) (ge : n0 ≤ a)
    (K : ∀ T' h' L, Stand p l e R s m args below meth c T' L cells slots → T'.heap = h' → Fr n0 L → Wr h h' a j.toNatClampNeg (.int (nar .char x)) → Arv Z h' a k .char n (vs.set i (.int (nar .char x))) d → own_Ends p e below s Q kc ks T' (mkF m pc' ls st)) : own_Ends p e below s Q kc ks T (mkF m pc ls (.int x :: .int j :: .ref a :: st)) := by
  subst hp
  obtain ⟨cl, A, q1, S, q2, H, G⟩ := V
  have hin := inb_of S hj
  obtain ⟨T1, h1, X1, e1, W1, st1⟩ := stC X hx hZ eT A (j := j) hin (g := mkF m pc ls (.int x :: .int j :: .ref a :: st)) rfl rfl hd
  exact own_go st1 (K T1 h1 _ X1 e1 (Fr.snoc X1 N ge) W1 (Arv.set A q1 S q2 H G (fits_nar_char _) W1 i hi hl))
theorem own_bastore (X : Stand p l e R s m args below meth c T locs cells slots) (hx : p.tables.exec = Jvm.exec) {Z : State} {h : Heap} {a : Addr} {k : ClassId} {n j : Int32} {vs : List Value} {d : Value} {x : Int32} (hZ : Z.Warmed39 s.vm) (eT : T.heap = h) (V : Arv Z h a k .byte n vs d) (hd : decode c.code pc = .ok (.bastore, 1)) (hp : pc + 1 = pc') (hj : ¬ j < 0 ∧ j < n) (i : Nat) (hi : j.toNatClampNeg = i) (hl : i < vs.length) {n0 : Nat} (N : Fr n0 locs) (ge : n0 ≤ a)
    (K : ∀ T' h' L, Stand p l e R s m args below meth c T' L cells slots → T'.heap = h' → Fr n0 L → Wr h h' a j.toNatClampNeg (.int (nar .byte x)) → Arv Z h' a k .byte n (vs.set i (.int (nar .byte x))) d → own_Ends p e below s Q kc ks T' (mkF m pc' ls st)) : own_Ends p e below s Q kc ks T (mkF m pc ls (.int x :: .int j :: .ref a :: st)) := by
  subst hp
  obtain ⟨cl, A, q1, S, q2, H, G⟩ := V
  have hin := inb_of S hj
  obtain ⟨T1, h1, X1, e1, W1, st1⟩ := stB X hx hZ eT A (j := j) hin (g := mkF m pc ls (.int x :: .int j :: .ref a :: st)) rfl rfl hd
  exact own_go st1 (K T1 h1 _ X1 e1 (Fr.snoc X1 N ge) W1 (Arv.set A q1 S q2 H G (fits_nar_byte _) W1 i hi hl))
theorem own_zastore (X : Stand p l e R s m args below meth c T locs cells slots) (hx : p.tables.exec = Jvm.exec) {Z : State} {h : Heap} {a : Addr} {k : ClassId} {n j : Int32} {vs : List Value} {d : Value} {x : Int32} (hZ : Z.Warmed39 s.vm) (eT : T.heap = h) (V : Arv Z h a k .boolean n vs d) (hd : decode c.code pc = .ok (.bastore, 1)) (hp : pc + 1 = pc') (hj : ¬ j < 0 ∧ j < n) (i : Nat) (hi : j.toNatClampNeg = i) (hl : i < vs.length) {n0 : Nat} (N : Fr n0 locs) (ge : n0 ≤ a)
    (K : ∀ T' h' L, Stand p l e R s m args below meth c T' L cells slots → T'.heap = h' → Fr n0 L → Wr h h' a j.toNatClampNeg (.int (nar .boolean x)) → Arv Z h' a k .boolean n (vs.set i (.int (nar .boolean x))) d → own_Ends p e below s Q kc ks T' (mkF m pc' ls st)) : own_Ends p e below s Q kc ks T (mkF m pc ls (.int x :: .int j :: .ref a :: st)) := by
  subst hp
  obtain ⟨cl, A, q1, S, q2, H, G⟩ := V
  have hin := inb_of S hj
  obtain ⟨T1, h1, X1, e1, W1, st1⟩ := stZ X hx hZ eT A (j := j) hin (g := mkF m pc ls (.int x :: .int j :: .ref a :: st)) rfl rfl hd
  exact own_go st1 (K T1 h1 _ X1 e1 (Fr.snoc X1 N ge) W1 (Arv.set A q1 S q2 H G (fits_nar_bool _) W1 i hi hl))
theorem own_newarr (X : Stand p l e R s m args below meth c T locs cells slots) (hx : p.tables.exec = Jvm.exec) {Z : State} {a0 : Array Value} {h : Heap} {aty : ArrayType} (hZ : Z.Warmed39 s.vm) (w : (Jvm.Cond.arrayClass (newarray.typeOf aty)).before a0 Z = true) (eT : T.heap = h) (hd : decode c.code pc = .ok (.newarray aty, 2)) (hp : pc + 2 = pc') {n : Int32} (hn : ¬ n < 0) (cap q : Nat) (hcap : n.toNatClampNeg ≤ cap) (hb : cap * 8 ≤ 536870912) (hc : cells + 1 ≤ R.cells) (hl : slots + cap ≤ R.slots)
    (K : ∀ T' h' a k, Stand p l e R s m args below meth c T' locs (cells + 1) (slots + cap) → T'.heap = h' → Ext h h' → a = h.size → Arv Z h' a k (newarray.typeOf aty) n (List.replicate q (defaultValue (newarray.typeOf aty))) (defaultValue (newarray.typeOf aty)) → own_Ends p e below s Q kc ks T' (mkF m pc' ls (.ref a :: st))) : own_Ends p e below s Q kc ks T (mkF m pc ls (.int n :: st)) := by
  subst hp
  obtain ⟨T1, h1, k1, X1, e1, E1, A1, st1⟩ := newP X hx hZ w eT (g := mkF m pc ls (.int n :: st)) rfl hd rfl hn (cap := cap) hcap hb hc hl
  exact own_go st1 (K T1 h1 _ k1 X1 e1 E1 rfl ((Arv.new A1 hn).pad (pad_rep [] _ q)))
theorem own_newarrE (X : Stand p l e R s m args below meth c T locs cells slots) (hx : p.tables.exec = Jvm.exec) {Z : State} {a0 : Array Value} {h : Heap} {aty : ArrayType} (hZ : Z.Warmed39 s.vm) (w : (Jvm.Cond.arrayClass (newarray.typeOf aty)).before a0 Z = true) (eT : T.heap = h) (hd : decode c.code pc = .ok (.newarray aty, 2)) (hp : pc + 2 = pc') {n : Int32} (hn : ¬ n < 0) (cap q : Nat) (hcap : n.toNatClampNeg ≤ cap) (hb : cap * 8 ≤ 536870912) (hc : cells + 1 ≤ R.cells) (hl : slots + cap ≤ R.slots) {ad : String} (had : "[" ++ (newarray.typeOf aty).toString = ad)
    (K : ∀ T' h' a k, Stand p l e R s m args below meth c T' locs (cells + 1) (slots + cap) → T'.heap = h' → Ext h h' → a = h.size → Arv Z h' a k (newarray.typeOf aty) n (List.replicate q (defaultValue (newarray.typeOf aty))) (defaultValue (newarray.typeOf aty)) → Exa Z h' a ad → own_Ends p e below s Q kc ks T' (mkF m pc' ls (.ref a :: st))) : own_Ends p e below s Q kc ks T (mkF m pc ls (.int n :: st)) := by
  subst hp
  obtain ⟨T1, h1, k1, X1, e1, E1, A1, Z1, st1⟩ := newPE X hx hZ w eT (g := mkF m pc ls (.int n :: st)) rfl hd rfl hn (cap := cap) hcap hb hc hl had
  exact own_go st1 (K T1 h1 _ k1 X1 e1 E1 rfl ((Arv.new A1 hn).pad (pad_rep [] _ q)) Z1)
theorem own_callS (X : Stand p l e R s m args below meth c T locs cells slots) (hx : p.tables.exec = Jvm.exec) {Z : State} {a0 : Array Value} {h : Heap} {own : String} {ix : Nat} {y : MethodName} {bytes : ByteArray} {maxL W : Nat} {ret : Option FieldType} {rm : Room} {Qc : Option Value → Heap → List Loc → Prop} {argsL rest : List Value} (hZ : Z.Warmed39 s.vm) (eT : T.heap = h) (hown : s.vm.findClass own = some m.cls) (hsz : ls.size = c.maxLocals) (wl : (Jvm.Cond.methodLink own ix y).before a0 Z = true) (ws : (Jvm.Cond.static y).before a0 Z = true) (wi : (Jvm.Cond.initialized y.cls).before a0 Z = true) (wc : (Jvm.Cond.code y bytes maxL ret).before a0 Z = true) (hy : y.cls ≠ "java/lang/invoke/MethodHandle" ∧ y.cls ≠ "java/lang/invoke/VarHandle") (hM : MetFree l y (head1 [Jvm.Cond.code y bytes maxL ret] rm) (fun a U => a = argsL.toArray ∧ Z.Warmed39 U.vm ∧ U.heap = h) (fun _ _ _ _ _ => True) (fun _ U o U' => ∃ v L, o = .returned v ∧ Qc v U'.heap L ∧ FrameEnd U o U' L rm.cells rm.slots)) (hf : rm.frames + 1 ≤ R.frames) (hlo : W + (maxL + 11) + rm.locals ≤ R.locals) (hcl : cells + rm.cells ≤ R.cells) (hsl : slots + rm.slots ≤ R.slots)
    (hlen : ∀ sig, parseMethodDescriptor y.desc = some sig → argsL.length = sig.parameters.length) (hst : st = argsL.reverse ++ rest) (hW : 2 * 0 + (rest.map fun v => v.category).sum ≤ W) (hd : decode c.code pc = .ok (.invokestatic ix, 3)) (hp : pc + 3 = pc') (K : ∀ T' L v, Stand p l e R s m args below meth c T' (locs ++ L) (cells + rm.cells) (slots + rm.slots) → Qc v T'.heap L → own_Ends p e below s Q kc ks T' (mkF m pc' ls (v.toList ++ rest))) : own_Ends p e below s Q kc ks T (mkF m pc ls st) := by
  subst hp
  obtain ⟨v, _, ⟨T1, L1, k1, n1⟩, -, X1, ⟨Lc, hQ, r1, r2, r3⟩, st1⟩ := Jvm.LawKit.callS X hx (y := y) hown (mvT hZ wl) (mvT hZ ws) (mvT hZ wi) (mvT hZ wc) hy (backOf (W := W) hM hZ wc wi hf hlo) (g := mkF m pc ls st) rfl hsz (argsL := argsL) (rest := rest) hlen hst hW hd (fun _ _ => ⟨rfl, eT, hcl, hsl⟩)
  dsimp only [Pt.U, Pt.locs, Pt.cells, Pt.slots] at X1 r1 r2 r3 st1 hQ
  subst r1 r2 r3
  exact own_go (st1) (K T1 Lc v X1 hQ)
theorem own_callC (X : Stand p l e R s m args below meth c T locs cells slots) (hx : p.tables.exec = Jvm.exec) {b : Addr} {Z : State} {a0 : Array Value} {h : Heap} {own : String} {ix : Nat} {y : MethodName} {bytes : ByteArray} {maxL W : Nat} {ret : Option FieldType} {rm : Room} {Qc : Option Value → Heap → List Loc → Prop} {argsL rest : List Value} (hZ : Z.Warmed39 s.vm) (eT : T.heap = h) (hown : s.vm.findClass own = some m.cls) (hsz : ls.size = c.maxLocals) (hret : ret = none) (hinit : y.name = "<init>") (wl : (Jvm.Cond.methodLink own ix y).before a0 Z = true) (wm : (Jvm.Cond.instanceMethod y).before a0 Z = true) (wi : (Jvm.Cond.initialized y.cls).before a0 Z = true) (wc : (Jvm.Cond.code y bytes maxL ret).before a0 Z = true) (hy : y.cls ≠ "java/lang/invoke/MethodHandle" ∧ y.cls ≠ "java/lang/invoke/VarHandle") (hM : MetFree l y (head1 [Jvm.Cond.code y bytes maxL ret] rm) (fun a U => a = (Value.ref b :: argsL).toArray ∧ Z.Warmed39 U.vm ∧ U.heap = h) (fun _ _ _ _ _ => True) (fun _ U o U' => ∃ v L, o = .returned v ∧ Qc v U'.heap L ∧ FrameEnd U o U' L rm.cells rm.slots)) (hf : rm.frames + 1 ≤ R.frames) (hlo : W + (maxL + 11) + rm.locals ≤ R.locals) (hcl : cells + rm.cells ≤ R.cells) (hsl : slots + rm.slots ≤ R.slots)
    (hlen : ∀ sig, parseMethodDescriptor y.desc = some sig → argsL.length = sig.parameters.length) (hst : st = argsL.reverse ++ .ref b :: rest) (hW : 2 * 0 + (rest.map fun v => v.category).sum ≤ W) (hd : decode c.code pc = .ok (.invokespecial ix, 3)) (hp : pc + 3 = pc') (K : ∀ T' L v, Stand p l e R s m args below meth c T' (locs ++ L) (cells + rm.cells) (slots + rm.slots) → Qc v T'.heap L → own_Ends p e below s Q kc ks T' (mkF m pc' ls (v.toList ++ rest))) : own_Ends p e below s Q kc ks T (mkF m pc ls st) := by
  subst hp hret
  obtain ⟨v, _, ⟨T1, L1, k1, n1⟩, -, X1, ⟨Lc, hQ, r1, r2, r3⟩, st1⟩ := X.specialBack hx (y := y) hinit hown (mvT hZ wl) (mvT hZ wm) (mvT hZ wc) hy (backOf (W := W) hM hZ wc wi hf hlo) (g := mkF m pc ls st) rfl hsz (Steps.refl _) (a := b) (argsL := argsL) (rest := rest) hlen hst hW hd (fun _ _ => ⟨rfl, eT, hcl, hsl⟩)
  dsimp only [Pt.U, Pt.locs, Pt.cells, Pt.slots] at X1 r1 r2 r3 st1 hQ
  subst r1 r2 r3
  exact own_go (fun t k => st1.trans k) (K T1 Lc v X1 hQ)
theorem own_callV (X : Stand p l e R s m args below meth c T locs cells slots) (hx : p.tables.exec = Jvm.exec) {b : Addr} {C : String} {Z : State} {a0 : Array Value} {h : Heap} {own : String} {ix : Nat} {y : MethodName} {bytes : ByteArray} {maxL W : Nat} {ret : Option FieldType} {rm : Room} {Qc : Option Value → Heap → List Loc → Prop} {argsL rest : List Value} (hZ : Z.Warmed39 s.vm) (eT : T.heap = h) (hown : s.vm.findClass own = some m.cls) (hsz : ls.size = c.maxLocals) (E : Exa Z h b C) (wl : (Jvm.Cond.methodLink own ix y).before a0 Z = true) (wd : (Jvm.Cond.declares y).before a0 Z = true) (wsel : (Jvm.Cond.selects C y y).before a0 Z = true) (wm : (Jvm.Cond.instanceMethod y).before a0 Z = true) (wi : (Jvm.Cond.initialized y.cls).before a0 Z = true) (wc : (Jvm.Cond.code y bytes maxL ret).before a0 Z = true) (hy : y.cls ≠ "java/lang/invoke/MethodHandle" ∧ y.cls ≠ "java/lang/invoke/VarHandle") (hM : MetFree l y (head1 [Jvm.Cond.code y bytes maxL ret] rm) (fun a U => a = (Value.ref b :: argsL).toArray ∧ Z.Warmed39 U.vm ∧ U.heap = h) (fun _ _ _ _ _ => True) (fun _ U o U' => ∃ v L, o = .returned v ∧ Qc v U'.heap L ∧ FrameEnd U o U' L rm.cells rm.slots)) (hf : rm.frames + 1 ≤ R.frames) (hlo : W + (maxL + 11) + rm.locals ≤ R.locals) (hcl : cells + rm.cells ≤ R.cells) (hsl : slots + rm.slots ≤ R.slots)
    (hlen : ∀ sig, parseMethodDescriptor y.desc = some sig → argsL.length = sig.parameters.length) (hst : st = argsL.reverse ++ .ref b :: rest) (hW : 2 * 0 + (rest.map fun v => v.category).sum ≤ W) (hd : decode c.code pc = .ok (.invokevirtual ix, 3)) (hp : pc + 3 = pc') (K : ∀ T' L v, Stand p l e R s m args below meth c T' (locs ++ L) (cells + rm.cells) (slots + rm.slots) → Qc v T'.heap L → own_Ends p e below s Q kc ks T' (mkF m pc' ls (v.toList ++ rest))) : own_Ends p e below s Q kc ks T (mkF m pc ls st) := by
  subst hp
  obtain ⟨cq, kq, qa, qb, qc⟩ := isOf hZ eT E
  obtain ⟨v, _, ⟨T1, L1, k1, n1⟩, -, X1, ⟨Lc, hQ, r1, r2, r3⟩, st1⟩ := X.virtualBack hx (y := y) (z := y) hown (mvT hZ wl) (mvT hZ wd) (notFace_of_selects (args := #[]) (mvT hZ wsel)) (mvT hZ wsel) (mvT hZ wm) hy (backOf (W := W) hM hZ wc wi hf hlo) qa qc (g := mkF m pc ls st) rfl hsz (Steps.refl _) (argsL := argsL) (rest := rest) hlen hst hW hd (fun _ _ => ⟨rfl, eT, hcl, hsl⟩)
  dsimp only [Pt.U, Pt.locs, Pt.cells, Pt.slots] at X1 r1 r2 r3 st1 hQ
  subst r1 r2 r3
  exact own_go (fun t k => st1.trans k) (K T1 Lc v X1 hQ)
theorem own_callP (X : Stand p l e R s m args below meth c T locs cells slots) (hx : p.tables.exec = Jvm.exec) {b : Addr} {C : String} {Z : State} {a0 : Array Value} {h : Heap} {own : String} {ix : Nat} {y : MethodName} {bytes : ByteArray} {maxL W : Nat} {ret : Option FieldType} {rm : Room} {Qc : Option Value → Heap → List Loc → Prop} {argsL rest : List Value} (hZ : Z.Warmed39 s.vm) (eT : T.heap = h) (hown : s.vm.findClass own = some m.cls) (hsz : ls.size = c.maxLocals) (E : Exa Z h b C) (wl : (Jvm.Cond.methodLink own ix y).before a0 Z = true) (wsel : (Jvm.Cond.selects y.cls y y).before a0 Z = true) (wp : (Jvm.Cond.privateMethod y).before a0 Z = true) (wm : (Jvm.Cond.instanceMethod y).before a0 Z = true) (wi : (Jvm.Cond.initialized y.cls).before a0 Z = true) (wc : (Jvm.Cond.code y bytes maxL ret).before a0 Z = true) (hy : y.cls ≠ "java/lang/invoke/MethodHandle" ∧ y.cls ≠ "java/lang/invoke/VarHandle") (hM : MetFree l y (head1 [Jvm.Cond.code y bytes maxL ret] rm) (fun a U => a = (Value.ref b :: argsL).toArray ∧ Z.Warmed39 U.vm ∧ U.heap = h) (fun _ _ _ _ _ => True) (fun _ U o U' => ∃ v L, o = .returned v ∧ Qc v U'.heap L ∧ FrameEnd U o U' L rm.cells rm.slots)) (hf : rm.frames + 1 ≤ R.frames) (hlo : W + (maxL + 11) + rm.locals ≤ R.locals) (hcl : cells + rm.cells ≤ R.cells) (hsl : slots + rm.slots ≤ R.slots)
    (hlen : ∀ sig, parseMethodDescriptor y.desc = some sig → argsL.length = sig.parameters.length) (hst : st = argsL.reverse ++ .ref b :: rest) (hW : 2 * 0 + (rest.map fun v => v.category).sum ≤ W) (hd : decode c.code pc = .ok (.invokevirtual ix, 3)) (hp : pc + 3 = pc') (K : ∀ T' L v, Stand p l e R s m args below meth c T' (locs ++ L) (cells + rm.cells) (slots + rm.slots) → Qc v T'.heap L → own_Ends p e below s Q kc ks T' (mkF m pc' ls (v.toList ++ rest))) : own_Ends p e below s Q kc ks T (mkF m pc ls st) := by
  subst hp
  obtain ⟨cq, qa, qb⟩ := E.cell
  obtain ⟨v, _, ⟨T1, L1, k1, n1⟩, -, X1, ⟨Lc, hQ, r1, r2, r3⟩, st1⟩ := X.privateBack hx (y := y) hown (mvT hZ wl) (mvT hZ wm) (mvT hZ wsel) (Jvm.Cond.privateMethod_at (mvP hZ wp (args := #[]))) (mvT hZ wc) hy (backOf (W := W) hM hZ wc wi hf hlo) (g := mkF m pc ls st) rfl hsz (Steps.refl _) (a := b) (by rw [eT]; exact qa) qb (argsL := argsL) (rest := rest) hlen hst hW hd (fun _ _ => ⟨rfl, eT, hcl, hsl⟩)
  dsimp only [Pt.U, Pt.locs, Pt.cells, Pt.slots] at X1 r1 r2 r3 st1 hQ
  subst r1 r2 r3
  exact own_go (fun t k => st1.trans k) (K T1 Lc v X1 hQ)
theorem own_mvM {Z : State} {a0 args : Array Value} {own host : String} {ix : Nat} {y : MethodName} (hZ : Z.Warmed39 s.vm) (w : (Jvm.Cond.methodLinkNest own ix y host).before a0 Z = true) : (Jvm.Cond.methodLinkNest own ix y host).before args s = true := (Jvm.Cond.methodLinkNest_wide hZ w :)
theorem own_callN (X : Stand p l e R s m args below meth c T locs cells slots) (hx : p.tables.exec = Jvm.exec) {b : Addr} {host : String} {Z : State} {a0 : Array Value} {h : Heap} {own : String} {ix : Nat} {y : MethodName} {bytes : ByteArray} {maxL W : Nat} {ret : Option FieldType} {rm : Room} {Qc : Option Value → Heap → List Loc → Prop} {argsL rest : List Value} (hZ : Z.Warmed39 s.vm) (eT : T.heap = h) (hown : s.vm.findClass own = some m.cls) (hsz : ls.size = c.maxLocals) (hret : ret = none) (hinit : y.name = "<init>") (wl : (Jvm.Cond.methodLinkNest own ix y host).before a0 Z = true) (wm : (Jvm.Cond.instanceMethod y).before a0 Z = true) (wi : (Jvm.Cond.initialized y.cls).before a0 Z = true) (wc : (Jvm.Cond.code y bytes maxL ret).before a0 Z = true) (hy : y.cls ≠ "java/lang/invoke/MethodHandle" ∧ y.cls ≠ "java/lang/invoke/VarHandle") (hM : MetFree l y (head1 [Jvm.Cond.code y bytes maxL ret] rm) (fun a U => a = (Value.ref b :: argsL).toArray ∧ Z.Warmed39 U.vm ∧ U.heap = h) (fun _ _ _ _ _ => True) (fun _ U o U' => ∃ v L, o = .returned v ∧ Qc v U'.heap L ∧ FrameEnd U o U' L rm.cells rm.slots)) (hf : rm.frames + 1 ≤ R.frames) (hlo : W + (maxL + 11) + rm.locals ≤ R.locals) (hcl : cells + rm.cells ≤ R.cells) (hsl : slots + rm.slots ≤ R.slots)
    (hlen : ∀ sig, parseMethodDescriptor y.desc = some sig → argsL.length = sig.parameters.length) (hst : st = argsL.reverse ++ .ref b :: rest) (hW : 2 * 0 + (rest.map fun v => v.category).sum ≤ W) (hd : decode c.code pc = .ok (.invokespecial ix, 3)) (hp : pc + 3 = pc') (K : ∀ T' L v, Stand p l e R s m args below meth c T' (locs ++ L) (cells + rm.cells) (slots + rm.slots) → Qc v T'.heap L → own_Ends p e below s Q kc ks T' (mkF m pc' ls (v.toList ++ rest))) : own_Ends p e below s Q kc ks T (mkF m pc ls st) := by
  subst hp hret
  obtain ⟨v, _, ⟨T1, L1, k1, n1⟩, -, X1, ⟨Lc, hQ, r1, r2, r3⟩, st1⟩ := X.specialBackNest hx (y := y) hinit hown (own_mvM hZ wl) (mvT hZ wm) (mvT hZ wc) hy (backOf (W := W) hM hZ wc wi hf hlo) (g := mkF m pc ls st) rfl hsz (Steps.refl _) (a := b) (argsL := argsL) (rest := rest) hlen hst hW hd (fun _ _ => ⟨rfl, eT, hcl, hsl⟩)
  dsimp only [Pt.U, Pt.locs, Pt.cells, Pt.slots] at X1 r1 r2 r3 st1 hQ
  subst r1 r2 r3
  exact own_go (fun t k => st1.trans k) (K T1 Lc v X1 hQ)
theorem own_anewarr (X : Stand p l e R s m args below meth c T locs cells slots) (hx : p.tables.exec = Jvm.exec) {Z : State} {a0 : Array Value} {h : Heap} {own C : String} {ix : Nat} (hZ : Z.Warmed39 s.vm) (hown : s.vm.findClass own = some m.cls) (w1 : (Jvm.Cond.classLink own ix C).before a0 Z = true) (w2 : (Jvm.Cond.arrayOver (.object C)).before a0 Z = true) (eT : T.heap = h) (hd : decode c.code pc = .ok (.anewarray ix, 3)) (hp : pc + 3 = pc') {n : Int32} (hn : ¬ n < 0) (cap q : Nat) (hcap : n.toNatClampNeg ≤ cap) (hb : cap * 8 ≤ 536870912) (hc : cells + 1 ≤ R.cells) (hl : slots + cap ≤ R.slots) {ad : String} (had : "[" ++ (FieldType.object C).toString = ad)
    (K : ∀ T' h' a k, Stand p l e R s m args below meth c T' locs (cells + 1) (slots + cap) → T'.heap = h' → Ext h h' → a = h.size → Arv Z h' a k (.object C) n (List.replicate q .null) .null → Exa Z h' a ad → Ovr Z k C → own_Ends p e below s Q kc ks T' (mkF m pc' ls (.ref a :: st))) : own_Ends p e below s Q kc ks T (mkF m pc ls (.int n :: st)) := by
  subst hp
  obtain ⟨T1, h1, k1, X1, e1, E1, A1, Z1, O1, st1⟩ := newRE X hx hZ hown w1 w2 eT (g := mkF m pc ls (.int n :: st)) rfl hd rfl hn (cap := cap) hcap hb hc hl had
  exact own_go st1 (K T1 h1 _ k1 X1 e1 E1 rfl ((Arv.new A1 hn).pad (pad_rep [] _ q)) Z1 O1)
theorem own_aastore (X : Stand p l e R s m args below meth c T locs cells slots) (hx : p.tables.exec = Jvm.exec) {Z : State} {h : Heap} {a b : Addr} {k : ClassId} {C D : String} {n j : Int32} {vs : List Value} {d : Value} (hZ : Z.Warmed39 s.vm) (eT : T.heap = h) (V : Arv Z h a k (.object D) n vs d) (O : Ovr Z k C) (I : Ins Z h b C true) (hd : decode c.code pc = .ok (.aastore, 1)) (hp : pc + 1 = pc') (hj : ¬ j < 0 ∧ j < n) (i : Nat) (hi : j.toNatClampNeg = i) (hl : i < vs.length) {n0 : Nat} (N : Fr n0 locs) (ge : n0 ≤ a)
    (K : ∀ T' h' L, Stand p l e R s m args below meth c T' L cells slots → T'.heap = h' → Fr n0 L → Wr h h' a j.toNatClampNeg (.ref b) → Arv Z h' a k (.object D) n (vs.set i (.ref b)) d → own_Ends p e below s Q kc ks T' (mkF m pc' ls st)) : own_Ends p e below s Q kc ks T (mkF m pc ls (.ref b :: .int j :: .ref a :: st)) := by
  subst hp
  obtain ⟨cl, A, q1, S, q2, H, G⟩ := V
  have hin := inb_of S hj
  obtain ⟨T1, h1, X1, e1, W1, st1⟩ := stR X hx hZ eT A (j := j) hin rfl (Sto.ofV A q1 O I) (g := mkF m pc ls (.ref b :: .int j :: .ref a :: st)) rfl rfl hd
  exact own_go st1 (K T1 h1 _ X1 e1 (Fr.snoc X1 N ge) W1 (Arv.set A q1 S q2 H G rfl W1 i hi hl))
theorem own_tswIn (X : Stand p l e R s m args below meth c T locs cells slots) (hx : p.tables.exec = Jvm.exec) {d lo hi o : Int} {offs : Array Int} {len : Nat} {i : Int32} (hd : decode c.code pc = .ok (.tableswitch d lo hi offs, len)) (hin : ¬ (i.toInt < lo ∨ i.toInt > hi)) (hoff : offs[(i.toInt - lo).toNat]? = some o) (ho : 0 ≤ (pc : Int) + o) (hp : ((pc : Int) + o).toNat = pc') (K : own_Ends p e below s Q kc ks T (mkF m pc' ls st)) : own_Ends p e below s Q kc ks T (mkF m pc ls (.int i :: st)) :=
  own_go (fun t k => XS.tswIn X.here hx rfl rfl hd rfl hin hoff ho hp k) K
theorem own_tswOut (X : Stand p l e R s m args below meth c T locs cells slots) (hx : p.tables.exec = Jvm.exec) {d lo hi : Int} {offs : Array Int} {len : Nat} {i : Int32} (hd : decode c.code pc = .ok (.tableswitch d lo hi offs, len)) (hout : i.toInt < lo ∨ i.toInt > hi) (ho : 0 ≤ (pc : Int) + d) (hp : ((pc : Int) + d).toNat = pc') (K : own_Ends p e below s Q kc ks T (mkF m pc' ls st)) : own_Ends p e below s Q kc ks T (mkF m pc ls (.int i :: st)) :=
  own_go (fun t k => XS.tswOut X.here hx rfl rfl hd rfl hout ho hp k) K
theorem own_ext {h h' : Heap} (K : Keep h h' []) : Ext h h' := ⟨K.1, fun a c q => K.2.1 a c q nin0⟩
theorem own_stak {Z : State} {h h' : Heap} {ws : List Addr} {C n d : String} {v : Value} (F : Sta Z h C n d v) (K : Keep h h' ws) (q : ∀ x ∈ ws, ∃ c : Cell, h[x]? = some c ∧ c.vm.isStatics = false) : Sta Z h' C n d v := by
  obtain ⟨cf, i, k, f, st, cell, h1, h2, h3, h4, h5, h6, h7⟩ := F
  refine ⟨cf, i, k, f, st, cell, h1, h2, h3, h4, K.2.1 st cell h5 (fun z => ?_), h6, h7⟩
  obtain ⟨c, q1, q2⟩ := q st z
  cases h5.symm.trans q1
  rw [h6] at q2; cases q2
theorem own_exac {Z : State} {h : Heap} {a : Addr} {C : String} (F : Exa Z h a C) : ∃ c : Cell, h[a]? = some c ∧ c.vm.isStatics = false := by
  obtain ⟨c, _, h1, -, -, h4, -⟩ := F; exact ⟨c, h1, h4⟩
theorem own_arvc {Z : State} {h : Heap} {a : Addr} {k : ClassId} {ty : FieldType} {n : Int32} {vs : List Value} {d : Value} (F : Arv Z h a k ty n vs d) : ∃ c : Cell, h[a]? = some c ∧ c.vm.isStatics = false := by
  obtain ⟨c, A, -⟩ := F; exact ⟨c, A.1, A.plain⟩
end Own
theorem own_w0 {Z : State} {a0 : Array Value} (hw : ∀ d ∈ tables_1, d.before a0 Z = true) : (Jvm.Cond.fieldLink "com/example/closure_crew/closurecrew/program/FunctionKeepsBestPinLaw" (7 : Nat) "com/example/closure_crew/closurecrew/program/Aggregate$Function" "MIN" "Lcom/example/closure_crew/closurecrew/program/Aggregate$Function;").before a0 Z = true := hw _ (List.mem_of_getElem? (i := 0) rfl)
theorem own_w1 {Z : State} {a0 : Array Value} (hw : ∀ d ∈ tables_1, d.before a0 Z = true) : (Jvm.Cond.initialized "com/example/closure_crew/closurecrew/program/Aggregate$Function").before a0 Z = true := hw _ (List.mem_of_getElem? (i := 1) rfl)
theorem own_w3 {Z : State} {a0 : Array Value} (hw : ∀ d ∈ tables_1, d.before a0 Z = true) : (Jvm.Cond.methodLink "com/example/closure_crew/closurecrew/program/FunctionKeepsBestPinLaw" (22 : Nat) ({ cls := "com/example/closure_crew/closurecrew/program/Aggregate$Function", name := "keepsBest", desc := "()Z" } : Jvm.MethodName)).before a0 Z = true := hw _ (List.mem_of_getElem? (i := 3) rfl)
theorem own_w4 {Z : State} {a0 : Array Value} (hw : ∀ d ∈ tables_1, d.before a0 Z = true) : (Jvm.Cond.declares ({ cls := "com/example/closure_crew/closurecrew/program/Aggregate$Function", name := "keepsBest", desc := "()Z" } : Jvm.MethodName)).before a0 Z = true := hw _ (List.mem_of_getElem? (i := 4) rfl)
theorem own_w5 {Z : State} {a0 : Array Value} (hw : ∀ d ∈ tables_1, d.before a0 Z = true) : (Jvm.Cond.instanceMethod ({ cls := "com/example/closure_crew/closurecrew/program/Aggregate$Function", name := "keepsBest", desc := "()Z" } : Jvm.MethodName)).before a0 Z = true := hw _ (List.mem_of_getElem? (i := 5) rfl)
theorem own_w6 {Z : State} {a0 : Array Value} (hw : ∀ d ∈ tables_1, d.before a0 Z = true) : (Jvm.Cond.selects "com/example/closure_crew/closurecrew/program/Aggregate$Function" ({ cls := "com/example/closure_crew/closurecrew/program/Aggregate$Function", name := "keepsBest", desc := "()Z" } : Jvm.MethodName) ({ cls := "com/example/closure_crew/closurecrew/program/Aggregate$Function", name := "keepsBest", desc := "()Z" } : Jvm.MethodName)).before a0 Z = true := hw _ (List.mem_of_getElem? (i := 6) rfl)
theorem own_w7 {Z : State} {a0 : Array Value} (hw : ∀ d ∈ tables_1, d.before a0 Z = true) : (Jvm.Cond.code ({ cls := "com/example/closure_crew/closurecrew/program/Aggregate$Function", name := "keepsBest", desc := "()Z" } : Jvm.MethodName) prog_49_method_4_code (1 : Nat) (Option.some Jvm.ClassFile.FieldType.boolean)).before a0 Z = true := hw _ (List.mem_of_getElem? (i := 7) rfl)
theorem own_w8 {Z : State} {a0 : Array Value} (hw : ∀ d ∈ tables_1, d.before a0 Z = true) : (Jvm.Cond.fieldLink "com/example/closure_crew/closurecrew/program/Aggregate$Function" (3 : Nat) "com/example/closure_crew/closurecrew/program/Aggregate$Function" "MIN" "Lcom/example/closure_crew/closurecrew/program/Aggregate$Function;").before a0 Z = true := hw _ (List.mem_of_getElem? (i := 8) rfl)
theorem own_w9 {Z : State} {a0 : Array Value} (hw : ∀ d ∈ tables_1, d.before a0 Z = true) : (Jvm.Cond.fieldLink "com/example/closure_crew/closurecrew/program/FunctionKeepsBestPinLaw" (19 : Nat) "com/example/closure_crew/closurecrew/program/Aggregate$Function" "COUNT" "Lcom/example/closure_crew/closurecrew/program/Aggregate$Function;").before a0 Z = true := hw _ (List.mem_of_getElem? (i := 9) rfl)
theorem own_w11 {Z : State} {a0 : Array Value} (hw : ∀ d ∈ tables_1, d.before a0 Z = true) : (Jvm.Cond.fieldLink "com/example/closure_crew/closurecrew/program/Aggregate$Function" (7 : Nat) "com/example/closure_crew/closurecrew/program/Aggregate$Function" "MAX" "Lcom/example/closure_crew/closurecrew/program/Aggregate$Function;").before a0 Z = true := hw _ (List.mem_of_getElem? (i := 11) rfl)
theorem own_w13 {Z : State} {a0 : Array Value} (hw : ∀ d ∈ tables_1, d.before a0 Z = true) : (Jvm.Cond.fieldLink "com/example/closure_crew/closurecrew/program/FunctionKeepsBestPinLaw" (16 : Nat) "com/example/closure_crew/closurecrew/program/Aggregate$Function" "SUM" "Lcom/example/closure_crew/closurecrew/program/Aggregate$Function;").before a0 Z = true := hw _ (List.mem_of_getElem? (i := 13) rfl)
theorem own_w15 {Z : State} {a0 : Array Value} (hw : ∀ d ∈ tables_1, d.before a0 Z = true) : (Jvm.Cond.fieldLink "com/example/closure_crew/closurecrew/program/FunctionKeepsBestPinLaw" (13 : Nat) "com/example/closure_crew/closurecrew/program/Aggregate$Function" "MAX" "Lcom/example/closure_crew/closurecrew/program/Aggregate$Function;").before a0 Z = true := hw _ (List.mem_of_getElem? (i := 15) rfl)
theorem own_pd0 : parseMethodDescriptor "()Z" = some ⟨[], some .boolean⟩ := by decide +kernel
theorem own_pn0 : plainName "com/example/closure_crew/closurecrew/program/Aggregate$Function" = true := by first | (simp [plainName, overriddenIn]; done) | decide +kernel
theorem own_pn1 : plainName "com/example/closure_crew/closurecrew/program/FunctionKeepsBestPinLaw" = true := by first | (simp [plainName, overriddenIn]; done) | decide +kernel
theorem own_arrat {s : State} {a : Addr} {c : Cell} (h : s.arrayAt? a = some c) : s.heap[a]? = some c := by
  unfold State.arrayAt? at h
  cases q : s.heap[a]? with
  | none => simp [q] at h
  | some d =>
    simp [q] at h
    obtain ⟨k, -, h2⟩ := Option.bind_eq_some_iff.mp h
    split at h2
    · cases h2
    · split at h2
      · exact h2
      · cases h2
theorem own_b1 {x a b : Int32} (h : x < a) (q : ¬ b < a) : x < b := by rw [Int32.lt_iff_toInt_lt] at *; omega
theorem own_b2 {x a b : Int32} (h : ¬ x < a) (q : ¬ a < b) : ¬ x < b := by rw [Int32.lt_iff_toInt_lt] at *; omega
theorem own_b3 {x a b : Int32} (h : a < x) (q : ¬ a < b) : b < x := by rw [Int32.lt_iff_toInt_lt] at *; omega
theorem own_b4 {x a b : Int32} (h : ¬ a < x) (q : ¬ b < a) : ¬ b < x := by rw [Int32.lt_iff_toInt_lt] at *; omega
theorem own_b5 {x a b : Int32} (h : x < a) (q : ¬ b < a - 1 ∧ a - 1 < a) : ¬ b < x := by
  obtain ⟨q1, q2⟩ := q
  have := c_isub a 1; have := rng32 a; have := rng32 (a - 1); have e1 : (1 : Int32).toInt = 1 := rfl
  rw [Int32.lt_iff_toInt_lt] at *; omega
theorem own_b6 {x a b : Int32} (h : ¬ x < a) (q : b < a) : b < x := by rw [Int32.lt_iff_toInt_lt] at *; omega
theorem own_b7 {x a b : Int32} (h : a < x) (q : ¬ a + 1 < b ∧ a < a + 1) : ¬ x < b := by
  obtain ⟨q1, q2⟩ := q
  have := c_iadd a 1; have := rng32 a; have := rng32 (a + 1); have e1 : (1 : Int32).toInt = 1 := rfl
  rw [Int32.lt_iff_toInt_lt] at *; omega
theorem own_b8 {x a b : Int32} (h : ¬ a < x) (q : a < b) : x < b := by rw [Int32.lt_iff_toInt_lt] at *; omega
theorem own_n1 {x b : Int32} (h : x < b) : ¬ x = b := fun q => by subst q; rw [Int32.lt_iff_toInt_lt] at h; omega
theorem own_n2 {x b : Int32} (h : b < x) : ¬ x = b := fun q => by subst q; rw [Int32.lt_iff_toInt_lt] at h; omega
theorem own_i1 {x y : Int32} (h : x < y) : x.toInt < y.toInt := Int32.lt_iff_toInt_lt.mp h
theorem own_i2 {x y : Int32} (h : ¬ x < y) : y.toInt ≤ x.toInt := Int.not_lt.mp fun q => h (Int32.lt_iff_toInt_lt.mpr q)
theorem own_i3 {x y : Int32} (h : x = y) : x.toInt = y.toInt := congrArg Int32.toInt h
theorem own_i4 {x y : Int32} (h : ¬ x = y) : ¬ x.toInt = y.toInt := fun q => h (Int32.toInt_inj.mp q)
theorem own_some {x y : Int32} (h : x = y) : some (Value.int x) = some (Value.int y) := congrArg (fun z => some (Value.int z)) h
theorem own_ae1 {a b : Addr} (h : a = b) : XT.acmp .eq (.ref a) (.ref b) = true ∧ XT.acmp .ne (.ref a) (.ref b) = false := ⟨decide_eq_true (congrArg Value.ref h), decide_eq_false fun q => q (congrArg Value.ref h)⟩
theorem own_ae0 {a b : Addr} (h : ¬ a = b) : XT.acmp .eq (.ref a) (.ref b) = false ∧ XT.acmp .ne (.ref a) (.ref b) = true := ⟨decide_eq_false fun q => h (Value.ref.inj q), decide_eq_true fun q => h (Value.ref.inj q)⟩
theorem own_ann : XT.acmp .eq .null .null = true ∧ XT.acmp .ne .null .null = false := ⟨rfl, rfl⟩
theorem own_anr (b : Addr) : XT.acmp .eq .null (.ref b) = false ∧ XT.acmp .ne .null (.ref b) = true := by constructor <;> first | rfl | (simp [XT.acmp]; done) | decide
theorem own_arn (b : Addr) : XT.acmp .eq (.ref b) .null = false ∧ XT.acmp .ne (.ref b) .null = true := by constructor <;> first | rfl | (simp [XT.acmp]; done) | decide
theorem own_eqi {args : Array Value} {s : State} {t : Term} {k : Int32} (h : (Jvm.Cond.eq t (Term.int k)).value args s none s [] = some true) : t.eval args s none [] s = some (.int k) := by
  obtain ⟨x, y, e1, e2, k1, k2⟩ := cmp_v (Or.inl h)
  obtain rfl : Value.int k = y := Option.some.inj ((Term.int_eval k).symm.trans e2)
  obtain ⟨z, rfl⟩ : ∃ z, x = .int z := k2
  have q : z = k := gotT (Cond.eq_ints e1 (Term.int_eval k)) h
  rw [e1, q]
theorem own_eql {args : Array Value} {s : State} {t : Term} {k : Int64} (h : (Jvm.Cond.eq t (Term.long k)).value args s none s [] = some true) : t.eval args s none [] s = some (.long k) := by
  obtain ⟨x, y, e1, e2, k1, k2⟩ := cmp_v (Or.inl h)
  obtain rfl : Value.long k = y := Option.some.inj ((show (Term.long k).eval args s none [] s = some (.long k) from rfl).symm.trans e2)
  obtain ⟨z, rfl⟩ : ∃ z, x = .long z := k2
  have q : z = k := gotT (eq_L e1 (show (Term.long k).eval args s none [] s = some (.long k) from rfl)) h
  rw [e1, q]
theorem own_len {args : Array Value} {s : State} {t : Term} {k : Int32} {a : Addr} {c : Cell} (h : (Term.length t).eval args s none [] s = some (.int k)) (ht : t.eval args s none [] s = some (.ref a)) (hc : s.heap[a]? = some c) : c.slots.size.toInt32 = k ∧ c.slots.size < 2 ^ 31 := by
  obtain ⟨a', cell, e1, e2, e3⟩ := Term.length_spec h
  cases ht.symm.trans e1
  have e4 : s.heap[a]? = some cell := own_arrat e2
  cases hc.symm.trans e4
  refine ⟨(Value.int.inj e3).symm, ?_⟩
  by_cases q : c.slots.size < 2 ^ 31
  · exact q
  · simp [Term.eval, ht, e2, q] at h
theorem own_nb0 : nar .boolean 0 = 0 := by decide
theorem own_nb1 : nar .boolean 1 = 1 := by decide
def own_ushr (x y : Int32) : Int32 := (x.toUInt32 >>> (y &&& 31).toUInt32).toInt32
def own_ushrL (x : Int64) (y : Int32) : Int64 := (x.toUInt64 >>> (y &&& 0x3f).toInt64.toUInt64).toInt64
theorem own_d1_0 : decode prog_49_method_4_code 0 = .ok (.aload_n 0, 1) := by decide +kernel
theorem own_d1_1 : decode prog_49_method_4_code 1 = .ok (.getstatic 3, 3) := by decide +kernel
theorem own_d1_4 : decode prog_49_method_4_code 4 = .ok (.if_acmp .eq 10, 3) := by decide +kernel
theorem own_d1_7 : decode prog_49_method_4_code 7 = .ok (.aload_n 0, 1) := by decide +kernel
theorem own_d1_8 : decode prog_49_method_4_code 8 = .ok (.getstatic 7, 3) := by decide +kernel
theorem own_d1_11 : decode prog_49_method_4_code 11 = .ok (.if_acmp .ne 7, 3) := by decide +kernel
theorem own_d1_14 : decode prog_49_method_4_code 14 = .ok (.iconst 1, 1) := by decide +kernel
theorem own_d1_15 : decode prog_49_method_4_code 15 = .ok (.goto 4, 3) := by decide +kernel
theorem own_d1_18 : decode prog_49_method_4_code 18 = .ok (.iconst 0, 1) := by decide +kernel
theorem own_d1_19 : decode prog_49_method_4_code 19 = .ok (.ireturn, 1) := by decide +kernel
def own_kb (a m0 m1 : Addr) : Int32 := if a = m0 then 1 else if a = m1 then 1 else 0
def own_room1 : Room := { frames := 0, cells := 0, slots := 0, locals := 0 }
def own_Q1 (Z : State) (a : Addr) (m0 : Addr) (m1 : Addr) (h0 : Heap) (n0 : Nat) (v : Option Value) (h : Heap) (L : List Loc) : Prop := v = some (.int (own_kb a m0 m1)) ∧ Fr n0 L ∧ h = h0
theorem own_ef_rm1 (m : MethodId) (x0 : Addr) : entryFrame m #[(.ref x0)] 1 = mkF m 0 #[.val (.ref x0)] [] := by first | (simp [entryFrame, mkF, argsToLocals, Value.category]; done) | rfl
set_option maxRecDepth 65536 in
set_option maxHeartbeats 40000000 in
theorem own_rm1 (l : Launch) (Z : State) (a0 : Array Value) (hw : ∀ d ∈ tables_1, d.before a0 Z = true) (ws : List Jvm.Cond) (a : Addr) (m0 : Addr) (m1 : Addr) (h0 : Heap) (n0 : Nat) (S0 : Sta Z h0 "com/example/closure_crew/closurecrew/program/Aggregate$Function" "MIN" "Lcom/example/closure_crew/closurecrew/program/Aggregate$Function;" (.ref m0)) (S1 : Sta Z h0 "com/example/closure_crew/closurecrew/program/Aggregate$Function" "MAX" "Lcom/example/closure_crew/closurecrew/program/Aggregate$Function;" (.ref m1)) :
    MetFree l (⟨"com/example/closure_crew/closurecrew/program/Aggregate$Function", "keepsBest", "()Z"⟩ : MethodName) (head1 (Jvm.Cond.code (⟨"com/example/closure_crew/closurecrew/program/Aggregate$Function", "keepsBest", "()Z"⟩ : MethodName) prog_49_method_4_code 1 (some .boolean) :: ws) own_room1) (fun zz U => zz = #[(.ref a)] ∧ Z.Warmed39 U.vm ∧ U.heap = h0) (fun _ _ _ _ _ => True) (fun _ U o U' => ∃ v L, o = .returned v ∧ own_Q1 Z a m0 m1 h0 n0 v U'.heap L ∧ FrameEnd U o U' L own_room1.cells own_room1.slots) := by
  refine MetFree.of_bodySF (plainFor_of_name own_pn0) hisR ?_
  intro p e s m args below meth c s₁ Bd hml0 hP hK
  obtain ⟨rfl, hZ, hh⟩ := hP
  have hx := Bd.exec
  have hby := Bd.bytes
  have hml : c.maxLocals = 1 := hml0
  have hown : s.vm.findClass "com/example/closure_crew/closurecrew/program/Aggregate$Function" = some m.cls := findClass_of_methodNamed Bd.named
  have hnm := (name_of_methodNamed Bd.named Bd.method).1
  have hlk : meth.locks = false := BodyLoose.notSynchronized Bd
  have hret := Bd.returns
  have X0 : Stand p l e own_room1 s m #[(.ref a)] below meth c s₁ [] 0 0 := Stand.of_body Bd
  have e0 : s₁.heap = h0 := by rw [← hh, Bd.state]; rfl
  have N0 := Fr.nil n0
  show own_Ends p e below s (own_Q1 Z a m0 m1 h0 n0) own_room1.cells own_room1.slots s₁ (entryFrame m #[(.ref a)] 1)
  refine own_cast (own_ef_rm1 m a) ?_
  refine own_aloadN (pc' := 1) X0 hx (hb hby own_d1_0) rfl rfl rfl ?_
  obtain ⟨T1, X1, e1, st1⟩ := getS2 X0 hx hZ hown (host := "") (Or.inl (own_w8 hw)) Via.refl e0 S0 (g := (mkF m 1 #[.val (.ref a)] [(.ref a)])) rfl (hb hby own_d1_1)
  refine own_go st1 ?_
  show own_Ends p e below s _ _ _ T1 (mkF m 4 #[.val (.ref a)] [(.ref m0), (.ref a)])
  by_cases hc4_2 : a = m0
  · refine own_acmpYes (pc' := 14) X1 hx (hb hby own_d1_4) rfl rfl (own_ae1 hc4_2).1 (by decide) (by decide) ?_
    refine own_iconst (pc' := 15) (z := (1 : Int32)) X1 hx (hb hby own_d1_14) rfl rfl ?_
    refine own_goto (pc' := 19) X1 hx (hb hby own_d1_15) (by decide) (by decide) ?_
    refine own_retN X1 hx hlk hret (by simp) (hb hby own_d1_19) (by decide) (by decide) ?_
    exact ⟨own_some (by rw [own_nb1]; simp [own_kb, hc4_2]), N0, e1⟩
  · refine own_acmpNo (pc' := 7) X1 hx (hb hby own_d1_4) rfl rfl rfl (own_ae0 hc4_2).1 ?_
    refine own_aloadN (pc' := 8) X1 hx (hb hby own_d1_7) rfl rfl rfl ?_
    obtain ⟨T3, X3, e3, st3⟩ := getS2 X1 hx hZ hown (host := "") (Or.inl (own_w11 hw)) Via.refl e1 S1 (g := (mkF m 8 #[.val (.ref a)] [(.ref a)])) rfl (hb hby own_d1_8)
    refine own_go st3 ?_
    show own_Ends p e below s _ _ _ T3 (mkF m 11 #[.val (.ref a)] [(.ref m1), (.ref a)])
    by_cases hc11_4 : a = m1
    · refine own_acmpNo (pc' := 14) X3 hx (hb hby own_d1_11) rfl rfl rfl (own_ae1 hc11_4).2 ?_
      refine own_iconst (pc' := 15) (z := (1 : Int32)) X3 hx (hb hby own_d1_14) rfl rfl ?_
      refine own_goto (pc' := 19) X3 hx (hb hby own_d1_15) (by decide) (by decide) ?_
      refine own_retN X3 hx hlk hret (by simp) (hb hby own_d1_19) (by decide) (by decide) ?_
      exact ⟨own_some (by rw [own_nb1]; simp [own_kb, hc4_2, hc11_4]), N0, e3⟩
    · refine own_acmpYes (pc' := 18) X3 hx (hb hby own_d1_11) rfl rfl (own_ae0 hc11_4).2 (by decide) (by decide) ?_
      refine own_iconst (pc' := 19) (z := (0 : Int32)) X3 hx (hb hby own_d1_18) rfl rfl ?_
      refine own_retN X3 hx hlk hret (by simp) (hb hby own_d1_19) (by decide) (by decide) ?_
      exact ⟨own_some (by rw [own_nb0]; simp [own_kb, hc4_2, hc11_4]), N0, e3⟩
def own_Q0 (Z : State) (p0 : Int32) (m0 : Addr) (m1 : Addr) (m2 : Addr) (m3 : Addr) (h0 : Heap) (n0 : Nat) (v : Option Value) (h : Heap) (L : List Loc) : Prop := v = some (.int 1) ∧ Fr n0 L
theorem own_ef_rm0 (m : MethodId) (x0 : Int32) : entryFrame m #[(.int x0)] maxLocals = mkF m 0 #[.val (.int x0), .unset, .unset, .unset] [] := by first | (simp [entryFrame, mkF, argsToLocals, Value.category, maxLocals]; done) | rfl
set_option maxRecDepth 65536 in
set_option maxHeartbeats 40000000 in
theorem own_rm0 (l : Launch) (Z : State) (a0 : Array Value) (hw : ∀ d ∈ tables_1, d.before a0 Z = true) (ws : List Jvm.Cond) (p0 : Int32) (m0 : Addr) (m1 : Addr) (m2 : Addr) (m3 : Addr) (h0 : Heap) (n0 : Nat) (Z0 : n0 ≤ h0.size) (S0 : Sta Z h0 "com/example/closure_crew/closurecrew/program/Aggregate$Function" "MIN" "Lcom/example/closure_crew/closurecrew/program/Aggregate$Function;" (.ref m0)) (S1 : Sta Z h0 "com/example/closure_crew/closurecrew/program/Aggregate$Function" "MAX" "Lcom/example/closure_crew/closurecrew/program/Aggregate$Function;" (.ref m1)) (S2 : Sta Z h0 "com/example/closure_crew/closurecrew/program/Aggregate$Function" "SUM" "Lcom/example/closure_crew/closurecrew/program/Aggregate$Function;" (.ref m2)) (S3 : Sta Z h0 "com/example/closure_crew/closurecrew/program/Aggregate$Function" "COUNT" "Lcom/example/closure_crew/closurecrew/program/Aggregate$Function;" (.ref m3)) (E0 : Exa Z h0 m0 "com/example/closure_crew/closurecrew/program/Aggregate$Function") (E1 : Exa Z h0 m1 "com/example/closure_crew/closurecrew/program/Aggregate$Function") (E2 : Exa Z h0 m2 "com/example/closure_crew/closurecrew/program/Aggregate$Function") (E3 : Exa Z h0 m3 "com/example/closure_crew/closurecrew/program/Aggregate$Function") (h10 : ¬ m1 = m0) (h20 : ¬ m2 = m0) (h21 : ¬ m2 = m1) (h30 : ¬ m3 = m0) (h31 : ¬ m3 = m1) :
    MetFree l x (head1 (Jvm.Cond.code x code maxLocals ret :: ws) room_1) (fun zz U => zz = #[(.int p0)] ∧ Z.Warmed39 U.vm ∧ U.heap = h0) (fun _ _ _ _ _ => True) (fun _ U o U' => ∃ v L, o = .returned v ∧ own_Q0 Z p0 m0 m1 m2 m3 h0 n0 v U'.heap L ∧ FrameEnd U o U' L 0 0) := by
  refine MetFree.of_bodySF (plainFor_of_name own_pn1) hisR ?_
  intro p e s m args below meth c s₁ Bd hml0 hP hK
  obtain ⟨rfl, hZ, hh⟩ := hP
  have hx := Bd.exec
  have hby := Bd.bytes
  have hml : c.maxLocals = 4 := hml0
  have hown : s.vm.findClass "com/example/closure_crew/closurecrew/program/FunctionKeepsBestPinLaw" = some m.cls := findClass_of_methodNamed Bd.named
  have hnm := (name_of_methodNamed Bd.named Bd.method).1
  have hlk : meth.locks = false := BodyLoose.notSynchronized Bd
  have hret := Bd.returns
  have X0 : Stand p l e room_1 s m #[(.int p0)] below meth c s₁ [] 0 0 := Stand.of_body Bd
  have e0 : s₁.heap = h0 := by rw [← hh, Bd.state]; rfl
  have N0 := Fr.nil n0
  show own_Ends p e below s (own_Q0 Z p0 m0 m1 m2 m3 h0 n0) 0 0 s₁ (entryFrame m #[(.int p0)] maxLocals)
  refine own_cast (own_ef_rm0 m p0) ?_
  refine own_iloadN (pc' := 1) X0 hx (hb hby at_0) rfl rfl ?_
  refine own_iconst (pc' := 2) (z := (3 : Int32)) X0 hx (hb hby at_1) rfl rfl ?_
  refine own_iand (pc' := 3) (z := (p0 &&& (3 : Int32))) X0 hx (hb hby at_2) rfl rfl ?_
  refine own_istoreN (pc' := 4) (l' := #[.val (.int p0), .val (.int (p0 &&& (3 : Int32))), .unset, .unset]) X0 hx (hb hby at_3) rfl rfl ?_
  refine own_iloadN (pc' := 5) X0 hx (hb hby at_4) rfl rfl ?_
  by_cases hc5_1 : (p0 &&& (3 : Int32)) = (0 : Int32)
  · refine own_ifNo (pc' := 8) X0 hx (hb hby at_5) rfl (teq hc5_1).2 ?_
    obtain ⟨T2, X2, e2, st2⟩ := getS2 X0 hx hZ hown (host := "") (Or.inl (own_w0 hw)) Via.refl e0 S0 (g := (mkF m 8 #[.val (.int p0), .val (.int (p0 &&& (3 : Int32))), .unset, .unset] [])) rfl (hb hby at_8)
    refine own_go st2 ?_
    show own_Ends p e below s _ _ _ T2 (mkF m 11 #[.val (.int p0), .val (.int (p0 &&& (3 : Int32))), .unset, .unset] [(.ref m0)])
    refine own_astoreN (pc' := 12) (l' := #[.val (.int p0), .val (.int (p0 &&& (3 : Int32))), .val (.ref m0), .unset]) X2 hx (hb hby at_11) rfl rfl rfl ?_
    refine own_iconst (pc' := 13) (z := (1 : Int32)) X2 hx (hb hby at_12) rfl rfl ?_
    refine own_istoreN (pc' := 14) (l' := #[.val (.int p0), .val (.int (p0 &&& (3 : Int32))), .val (.ref m0), .val (.int (1 : Int32))]) X2 hx (hb hby at_13) rfl rfl ?_
    refine own_goto (pc' := 51) X2 hx (hb hby at_14) (by decide) (by decide) ?_
    refine own_aloadN (pc' := 52) X2 hx (hb hby at_51) rfl rfl rfl ?_
    refine own_callV (pc' := 55) (y := (⟨"com/example/closure_crew/closurecrew/program/Aggregate$Function", "keepsBest", "()Z"⟩ : MethodName)) (W := 0) (rm := own_room1) (argsL := []) (rest := []) (b := m0) (C := "com/example/closure_crew/closurecrew/program/Aggregate$Function") X2 hx hZ e2 hown (by rw [hml]; rfl) E0 (own_w3 hw) (own_w4 hw) (own_w6 hw) (own_w5 hw) (own_w1 hw) (own_w7 hw) (by decide) (own_rm1 l Z a0 hw [] m0 m0 m1 h0 n0 S0 S1) (by decide) (by decide) (by decide) (by decide) (lenOf own_pd0 rfl) rfl (by exact Nat.le_of_eq rfl) (hb hby at_52) rfl ?_
    intro T3 Lc3 v3 X3 hQ3
    obtain ⟨rfl, Nq3, Kq3⟩ := hQ3
    have N3 := Fr.app N0 Nq3
    show own_Ends p e below s _ _ _ T3 (mkF m 55 #[.val (.int p0), .val (.int (p0 &&& (3 : Int32))), .val (.ref m0), .val (.int (1 : Int32))] [(.int (own_kb m0 m0 m1))])
    refine own_iloadN (pc' := 56) X3 hx (hb hby at_55) rfl rfl ?_
    refine own_icmpNo (pc' := 59) X3 hx (hb hby at_56) rfl (teq (by simp [own_kb, h10, h20, h21, h30, h31])).2 ?_
    refine own_iconst (pc' := 60) (z := (1 : Int32)) X3 hx (hb hby at_59) rfl rfl ?_
    refine own_goto (pc' := 64) X3 hx (hb hby at_60) (by decide) (by decide) ?_
    refine own_retN X3 hx hlk hret (by simp) (hb hby at_64) (by decide) (by decide) ?_
    exact ⟨rfl, N3⟩
  · refine own_ifYes (pc' := 17) X0 hx (hb hby at_5) (feq hc5_1).2 (by decide) (by decide) ?_
    refine own_iloadN (pc' := 18) X0 hx (hb hby at_17) rfl rfl ?_
    refine own_iconst (pc' := 19) (z := (1 : Int32)) X0 hx (hb hby at_18) rfl rfl ?_
    by_cases hc19_4 : (p0 &&& (3 : Int32)) = (1 : Int32)
    · refine own_icmpNo (pc' := 22) X0 hx (hb hby at_19) rfl (teq hc19_4).2 ?_
      obtain ⟨T5, X5, e5, st5⟩ := getS2 X0 hx hZ hown (host := "") (Or.inl (own_w15 hw)) Via.refl e0 S1 (g := (mkF m 22 #[.val (.int p0), .val (.int (p0 &&& (3 : Int32))), .unset, .unset] [])) rfl (hb hby at_22)
      refine own_go st5 ?_
      show own_Ends p e below s _ _ _ T5 (mkF m 25 #[.val (.int p0), .val (.int (p0 &&& (3 : Int32))), .unset, .unset] [(.ref m1)])
      refine own_astoreN (pc' := 26) (l' := #[.val (.int p0), .val (.int (p0 &&& (3 : Int32))), .val (.ref m1), .unset]) X5 hx (hb hby at_25) rfl rfl rfl ?_
      refine own_iconst (pc' := 27) (z := (1 : Int32)) X5 hx (hb hby at_26) rfl rfl ?_
      refine own_istoreN (pc' := 28) (l' := #[.val (.int p0), .val (.int (p0 &&& (3 : Int32))), .val (.ref m1), .val (.int (1 : Int32))]) X5 hx (hb hby at_27) rfl rfl ?_
      refine own_goto (pc' := 51) X5 hx (hb hby at_28) (by decide) (by decide) ?_
      refine own_aloadN (pc' := 52) X5 hx (hb hby at_51) rfl rfl rfl ?_
      refine own_callV (pc' := 55) (y := (⟨"com/example/closure_crew/closurecrew/program/Aggregate$Function", "keepsBest", "()Z"⟩ : MethodName)) (W := 0) (rm := own_room1) (argsL := []) (rest := []) (b := m1) (C := "com/example/closure_crew/closurecrew/program/Aggregate$Function") X5 hx hZ e5 hown (by rw [hml]; rfl) E1 (own_w3 hw) (own_w4 hw) (own_w6 hw) (own_w5 hw) (own_w1 hw) (own_w7 hw) (by decide) (own_rm1 l Z a0 hw [] m1 m0 m1 h0 n0 S0 S1) (by decide) (by decide) (by decide) (by decide) (lenOf own_pd0 rfl) rfl (by exact Nat.le_of_eq rfl) (hb hby at_52) rfl ?_
      intro T6 Lc6 v6 X6 hQ6
      obtain ⟨rfl, Nq6, Kq6⟩ := hQ6
      have N6 := Fr.app N0 Nq6
      show own_Ends p e below s _ _ _ T6 (mkF m 55 #[.val (.int p0), .val (.int (p0 &&& (3 : Int32))), .val (.ref m1), .val (.int (1 : Int32))] [(.int (own_kb m1 m0 m1))])
      refine own_iloadN (pc' := 56) X6 hx (hb hby at_55) rfl rfl ?_
      refine own_icmpNo (pc' := 59) X6 hx (hb hby at_56) rfl (teq (by simp [own_kb, h10, h20, h21, h30, h31])).2 ?_
      refine own_iconst (pc' := 60) (z := (1 : Int32)) X6 hx (hb hby at_59) rfl rfl ?_
      refine own_goto (pc' := 64) X6 hx (hb hby at_60) (by decide) (by decide) ?_
      refine own_retN X6 hx hlk hret (by simp) (hb hby at_64) (by decide) (by decide) ?_
      exact ⟨rfl, N6⟩
    · refine own_icmpYes (pc' := 31) X0 hx (hb hby at_19) (feq hc19_4).2 (by decide) (by decide) ?_
      refine own_iloadN (pc' := 32) X0 hx (hb hby at_31) rfl rfl ?_
      refine own_iconst (pc' := 33) (z := (2 : Int32)) X0 hx (hb hby at_32) rfl rfl ?_
      by_cases hc33_7 : (p0 &&& (3 : Int32)) = (2 : Int32)
      · refine own_icmpNo (pc' := 36) X0 hx (hb hby at_33) rfl (teq hc33_7).2 ?_
        obtain ⟨T8, X8, e8, st8⟩ := getS2 X0 hx hZ hown (host := "") (Or.inl (own_w13 hw)) Via.refl e0 S2 (g := (mkF m 36 #[.val (.int p0), .val (.int (p0 &&& (3 : Int32))), .unset, .unset] [])) rfl (hb hby at_36)
        refine own_go st8 ?_
        show own_Ends p e below s _ _ _ T8 (mkF m 39 #[.val (.int p0), .val (.int (p0 &&& (3 : Int32))), .unset, .unset] [(.ref m2)])
        refine own_astoreN (pc' := 40) (l' := #[.val (.int p0), .val (.int (p0 &&& (3 : Int32))), .val (.ref m2), .unset]) X8 hx (hb hby at_39) rfl rfl rfl ?_
        refine own_iconst (pc' := 41) (z := (0 : Int32)) X8 hx (hb hby at_40) rfl rfl ?_
        refine own_istoreN (pc' := 42) (l' := #[.val (.int p0), .val (.int (p0 &&& (3 : Int32))), .val (.ref m2), .val (.int (0 : Int32))]) X8 hx (hb hby at_41) rfl rfl ?_
        refine own_goto (pc' := 51) X8 hx (hb hby at_42) (by decide) (by decide) ?_
        refine own_aloadN (pc' := 52) X8 hx (hb hby at_51) rfl rfl rfl ?_
        refine own_callV (pc' := 55) (y := (⟨"com/example/closure_crew/closurecrew/program/Aggregate$Function", "keepsBest", "()Z"⟩ : MethodName)) (W := 0) (rm := own_room1) (argsL := []) (rest := []) (b := m2) (C := "com/example/closure_crew/closurecrew/program/Aggregate$Function") X8 hx hZ e8 hown (by rw [hml]; rfl) E2 (own_w3 hw) (own_w4 hw) (own_w6 hw) (own_w5 hw) (own_w1 hw) (own_w7 hw) (by decide) (own_rm1 l Z a0 hw [] m2 m0 m1 h0 n0 S0 S1) (by decide) (by decide) (by decide) (by decide) (lenOf own_pd0 rfl) rfl (by exact Nat.le_of_eq rfl) (hb hby at_52) rfl ?_
        intro T9 Lc9 v9 X9 hQ9
        obtain ⟨rfl, Nq9, Kq9⟩ := hQ9
        have N9 := Fr.app N0 Nq9
        show own_Ends p e below s _ _ _ T9 (mkF m 55 #[.val (.int p0), .val (.int (p0 &&& (3 : Int32))), .val (.ref m2), .val (.int (0 : Int32))] [(.int (own_kb m2 m0 m1))])
        refine own_iloadN (pc' := 56) X9 hx (hb hby at_55) rfl rfl ?_
        refine own_icmpNo (pc' := 59) X9 hx (hb hby at_56) rfl (teq (by simp [own_kb, h10, h20, h21, h30, h31])).2 ?_
        refine own_iconst (pc' := 60) (z := (1 : Int32)) X9 hx (hb hby at_59) rfl rfl ?_
        refine own_goto (pc' := 64) X9 hx (hb hby at_60) (by decide) (by decide) ?_
        refine own_retN X9 hx hlk hret (by simp) (hb hby at_64) (by decide) (by decide) ?_
        exact ⟨rfl, N9⟩
      · refine own_icmpYes (pc' := 45) X0 hx (hb hby at_33) (feq hc33_7).2 (by decide) (by decide) ?_
        obtain ⟨T10, X10, e10, st10⟩ := getS2 X0 hx hZ hown (host := "") (Or.inl (own_w9 hw)) Via.refl e0 S3 (g := (mkF m 45 #[.val (.int p0), .val (.int (p0 &&& (3 : Int32))), .unset, .unset] [])) rfl (hb hby at_45)
        refine own_go st10 ?_
        show own_Ends p e below s _ _ _ T10 (mkF m 48 #[.val (.int p0), .val (.int (p0 &&& (3 : Int32))), .unset, .unset] [(.ref m3)])
        refine own_astoreN (pc' := 49) (l' := #[.val (.int p0), .val (.int (p0 &&& (3 : Int32))), .val (.ref m3), .unset]) X10 hx (hb hby at_48) rfl rfl rfl ?_
        refine own_iconst (pc' := 50) (z := (0 : Int32)) X10 hx (hb hby at_49) rfl rfl ?_
        refine own_istoreN (pc' := 51) (l' := #[.val (.int p0), .val (.int (p0 &&& (3 : Int32))), .val (.ref m3), .val (.int (0 : Int32))]) X10 hx (hb hby at_50) rfl rfl ?_
        refine own_aloadN (pc' := 52) X10 hx (hb hby at_51) rfl rfl rfl ?_
        refine own_callV (pc' := 55) (y := (⟨"com/example/closure_crew/closurecrew/program/Aggregate$Function", "keepsBest", "()Z"⟩ : MethodName)) (W := 0) (rm := own_room1) (argsL := []) (rest := []) (b := m3) (C := "com/example/closure_crew/closurecrew/program/Aggregate$Function") X10 hx hZ e10 hown (by rw [hml]; rfl) E3 (own_w3 hw) (own_w4 hw) (own_w6 hw) (own_w5 hw) (own_w1 hw) (own_w7 hw) (by decide) (own_rm1 l Z a0 hw [] m3 m0 m1 h0 n0 S0 S1) (by decide) (by decide) (by decide) (by decide) (lenOf own_pd0 rfl) rfl (by exact Nat.le_of_eq rfl) (hb hby at_52) rfl ?_
        intro T11 Lc11 v11 X11 hQ11
        obtain ⟨rfl, Nq11, Kq11⟩ := hQ11
        have N11 := Fr.app N0 Nq11
        show own_Ends p e below s _ _ _ T11 (mkF m 55 #[.val (.int p0), .val (.int (p0 &&& (3 : Int32))), .val (.ref m3), .val (.int (0 : Int32))] [(.int (own_kb m3 m0 m1))])
        refine own_iloadN (pc' := 56) X11 hx (hb hby at_55) rfl rfl ?_
        refine own_icmpNo (pc' := 59) X11 hx (hb hby at_56) rfl (teq (by simp [own_kb, h10, h20, h21, h30, h31])).2 ?_
        refine own_iconst (pc' := 60) (z := (1 : Int32)) X11 hx (hb hby at_59) rfl rfl ?_
        refine own_goto (pc' := 64) X11 hx (hb hby at_60) (by decide) (by decide) ?_
        refine own_retN X11 hx hlk hret (by simp) (hb hby at_64) (by decide) (by decide) ?_
        exact ⟨rfl, N11⟩
set_option maxRecDepth 65536 in
set_option maxHeartbeats 40000000 in
theorem own_comes {Post : Tables → Env → Array Value → State → Outcome → State → Prop} (hpost : ∀ tb e args s v u, (limb_1_1.after args s (.returned v) u = true ∧ limb_1_2.after args s (.returned v) u = true ∧ True) → FrameEnd s (.returned v) u (Jvm.fieldLocs frame_1_writes args s ++ Jvm.arrayLocs frame_1_arrays args s ++ Jvm.staticLocs frame_1_statics s) 0 0 → Post tb e args s (.returned v) u) :
    ArmFor flags0 classFile x code maxLocals ret World_1 tables_1 room_1 Calls_1 rest_1 Pre_1 Post := by
  intro l hfl _ _ p e ha hc hk s m args below hf hA hF happ hP
  obtain ⟨hcalls, hrest, hpre⟩ := hP
  obtain ⟨-, -, -, hnamed, -, -, -, hat⟩ := (Spec.applies_iff hf).mp happ
  obtain ⟨hg, hn⟩ := and_e (Cond.before_iff.mp (show (Jvm.Cond.and given_1 narrow_1).before args s = true from hpre))
  obtain ⟨g1, g2⟩ := and_e hg
  obtain ⟨w0, rfl⟩ : ∃ w0 : Value, args = #[w0] := by
    have hs : args.size = 1 := by simpa [Cond.value, given_1] using g1
    obtain ⟨L⟩ := args
    match L, hs with
    | [w0], _ => exact ⟨w0, rfl⟩
  have hw := fun d (hd : d ∈ tables_1) => atoms_spec (ws := Jvm.Cond.code x code maxLocals ret :: tables_1) hat d (List.mem_cons_of_mem _ hd)
  have hfit : Fit s := fun {y c} hc i hi => by
    obtain ⟨ha, rfl⟩ := Array.getElem?_eq_some_iff.mp hc
    have q := List.all_eq_true.mp ((Array.all_eq_true_iff_forall_mem.mp hF) _ (Array.getElem_mem ha)) i (List.mem_range.mpr hi)
    simpa [Array.getElem?_eq_getElem hi] using q
  obtain ⟨i0, ei0⟩ := is_v g2
  obtain rfl : w0 = (.int i0) := Option.some.inj ei0
  obtain ⟨n1, n2⟩ := and_e hn
  obtain ⟨n3, n4⟩ := and_e n2
  obtain ⟨n5, n6⟩ := and_e n4
  obtain ⟨n7, n8⟩ := and_e n6
  obtain ⟨n9, n10⟩ := and_e n8
  obtain ⟨n11, n12⟩ := and_e n10
  obtain ⟨n13, n14⟩ := and_e n12
  obtain ⟨m0, em0⟩ := exa_v n1
  have E0 := Exa.start em0 n1
  have S0 := Sta.start em0 (Or.inr ⟨(hw _ (List.mem_of_getElem? (i := 1) rfl)), (hw _ (List.mem_of_getElem? (i := 2) rfl))⟩)
  have o0 := own_eqi n7
  rw [fld_at em0] at o0
  have F0 := Fld.start o0
  obtain ⟨m1, em1⟩ := exa_v n9
  have E1 := Exa.start em1 n9
  have S1 := Sta.start em1 (Or.inr ⟨(hw _ (List.mem_of_getElem? (i := 1) rfl)), (hw _ (List.mem_of_getElem? (i := 12) rfl))⟩)
  have o1 := own_eqi n11
  rw [fld_at em1] at o1
  have F1 := Fld.start o1
  obtain ⟨m2, em2⟩ := exa_v n13
  have E2 := Exa.start em2 n13
  have S2 := Sta.start em2 (Or.inr ⟨(hw _ (List.mem_of_getElem? (i := 1) rfl)), (hw _ (List.mem_of_getElem? (i := 14) rfl))⟩)
  have o2 := own_eqi n14
  rw [fld_at em2] at o2
  have F2 := Fld.start o2
  obtain ⟨m3, em3⟩ := exa_v n3
  have E3 := Exa.start em3 n3
  have S3 := Sta.start em3 (Or.inr ⟨(hw _ (List.mem_of_getElem? (i := 1) rfl)), (hw _ (List.mem_of_getElem? (i := 10) rfl))⟩)
  have o3 := own_eqi n5
  rw [fld_at em3] at o3
  have F3 := Fld.start o3
  have h10 := Fld.ne F1 F0 (by decide)
  have h20 := Fld.ne F2 F0 (by decide)
  have h21 := Fld.ne F2 F1 (by decide)
  have h30 := Fld.ne F3 F0 (by decide)
  have h31 := Fld.ne F3 F1 (by decide)
  obtain ⟨n, o, h1, h2, h3, _, L, rfl, ⟨rfl, N⟩, hq⟩ := own_rm0 l s _ hw tables_1 i0 m0 m1 m2 m3 s.heap s.heap.size (Nat.le_refl _) S0 S1 S2 S3 E0 E1 E2 E3 h10 h20 h21 h30 h31 p e ha hc hk s m _ below hf ((Spec.applies_iff_loose hf).mp happ).1 ⟨rfl, State.Warmed39.refl s, rfl⟩ trivial
  refine ⟨n, _, h1, h2, h3, hpost _ _ _ _ _ _ ⟨Cond.after_iff.mpr rfl, Cond.after_iff.mpr (eq_i res_at (Term.int_eval (1)) rfl), trivial⟩ ⟨hq.1, hq.2.1, (hq.2.2.sift fun y hy => Or.inr (N y hy)).mono (by decide) (by decide)⟩⟩
theorem main_1_1 : Claimed_1_1 := own_comes fun _ _ _ _ _ _ h hF => ⟨h.1, hF⟩
theorem main_1_2 : Claimed_1_2 := own_comes fun _ _ _ _ _ _ h hF => ⟨h.2.1, hF⟩
end Jvm.Pilot.@@N@@
namespace Jvm.Pilot.@@N@@
open Jvm Jvm.ClassFile Sem Op Lib Jvm.Free Jvm.Stand Jvm.Pilot.@@N@@.Jvm.D
/-! MADE BY PROGRAM (witnessworld.py) out of the Statement's table words and the real class files: 12 classes; the members and pool entries that the words name. The judged class is class 1, her method 1. -/
namespace start1
open Jvm.ClassFile
def u (s : String) : CpInfo := .utf8 (stringToUtf16 s)
/-- a pool by its gaps: so many unusable entries, then the entry; so many at the end -/
def gap : Nat → List CpInfo → List CpInfo
  | 0, r => r
  | n + 1, r => .unusable :: gap n r
def poolList (es : List (Nat × CpInfo)) (last : Nat) : List CpInfo := es.foldr (fun e r => gap e.1 (e.2 :: r)) (gap last [])
def pool (es : List (Nat × CpInfo)) (last : Nat) : Array CpInfo := ⟨poolList es last⟩
def fileOf (pool : Array CpInfo) (this : Nat) (attrs : Array Attribute := #[]) (ms : Array MethodInfo := #[]) (fl : Nat := 33) (sup : Nat := 0) (ifs : Array Nat := #[]) (fds : Array FieldInfo := #[]) : ClassFile where
  minorVersion := 0
  majorVersion := 65
  constantPool := pool
  accessFlags := fl
  thisClass := this
  superClass := sup
  interfaces := ifs
  fields := fds
  methods := ms
  attributes := attrs
def plain (name : String) (sup : Option ClassId) : Class where
  name := name
  kind := .ordinary
  loader := none
  accessFlags := 33
  super := sup
  interfaces := #[]
  cf := none
  fields := #[]
  methods := #[]
  instanceTypes := #[]
  staticTypes := #[]
  resolved := #[]
  callSites := []
  init := .initialized
  statics := none
  mirror := none

def pool0 : Array CpInfo := pool [(5, u "<init>"), (0, u "()V"), (1, .class_ 10), (1, u "java/lang/Object")] 113

def k0m0 : Method := { name := "<init>", desc := "()V", sig := { parameters := [], returnType := none }, accessFlags := 1, code := none }
/-- java/lang/Object -/
def k0 : Class := { plain "java/lang/Object" none with
  accessFlags := 33
  interfaces := #[]
  cf := some (fileOf pool0 8 #[] #[{ accessFlags := 1, nameIndex := 5, descriptorIndex := 6, attributes := #[] }] 33 0 #[] #[])
  fields := #[]
  methods := #[k0m0]
  instanceTypes := #[]
  staticTypes := #[]
  resolved := Array.replicate 124 none
  statics := none }

def pool1 : Array CpInfo := pool [(2, .class_ 4), (1, u "java/lang/Object"), (0, u "<init>"), (0, u "()V"), (0, .fieldref 8 9), (0, .class_ 10), (0, .nameAndType 11 12), (0, u "com/example/closure_crew/closurecrew/program/Aggregate$Function"), (0, u "MIN"), (0, u "Lcom/example/closure_crew/closurecrew/program/Aggregate$Function;"), (0, .fieldref 8 14), (0, .nameAndType 15 12), (0, u "MAX"), (0, .fieldref 8 17), (0, .nameAndType 18 12), (0, u "SUM"), (0, .fieldref 8 20), (0, .nameAndType 21 12), (0, u "COUNT"), (0, .methodref 8 23), (0, .nameAndType 24 25), (0, u "keepsBest"), (0, u "()Z"), (0, .class_ 27), (0, u "com/example/closure_crew/closurecrew/program/FunctionKeepsBestPinLaw"), (2, u "law"), (0, u "(I)Z")] 7

def k1m0 : Method := { name := "<init>", desc := "()V", sig := { parameters := [], returnType := none }, accessFlags := 1, code := none }
def k1c1 : Code := { maxStack := 2, maxLocals := 4, code := code, exceptionTable := #[], attributes := #[] }
def k1m1 : Method := { name := "law", desc := "(I)Z", sig := { parameters := [.int], returnType := some .boolean }, accessFlags := 9, code := some k1c1 }
/-- com/example/closure_crew/closurecrew/program/FunctionKeepsBestPinLaw -/
def k1 : Class := { plain "com/example/closure_crew/closurecrew/program/FunctionKeepsBestPinLaw" (some 0) with
  accessFlags := 49
  interfaces := #[]
  cf := some (fileOf pool1 26 #[] #[{ accessFlags := 1, nameIndex := 5, descriptorIndex := 6, attributes := #[] }, { accessFlags := 9, nameIndex := 30, descriptorIndex := 31, attributes := #[] }] 49 2 #[] #[])
  fields := #[]
  methods := #[k1m0, k1m1]
  instanceTypes := #[]
  staticTypes := #[]
  resolved := Array.replicate 39 none
  statics := none }

def pool2 : Array CpInfo := pool [(1, .class_ 2), (0, u "java/lang/constant/Constable"), (0, .class_ 4), (0, u "java/lang/Object")] 6

/-- java/lang/constant/Constable -/
def k2 : Class := { plain "java/lang/constant/Constable" (some 0) with
  accessFlags := 1537
  interfaces := #[]
  cf := some (fileOf pool2 1 #[] #[] 1537 3 #[] #[])
  fields := #[]
  methods := #[]
  instanceTypes := #[]
  staticTypes := #[]
  resolved := Array.replicate 11 none
  statics := none }

def pool3 : Array CpInfo := pool [(1, .class_ 2), (0, u "java/lang/Comparable"), (0, .class_ 4), (0, u "java/lang/Object")] 7

/-- java/lang/Comparable -/
def k3 : Class := { plain "java/lang/Comparable" (some 0) with
  accessFlags := 1537
  interfaces := #[]
  cf := some (fileOf pool3 1 #[] #[] 1537 3 #[] #[])
  fields := #[]
  methods := #[]
  instanceTypes := #[]
  staticTypes := #[]
  resolved := Array.replicate 12 none
  statics := none }

def pool4 : Array CpInfo := pool [(1, .class_ 2), (0, u "java/io/Serializable"), (0, .class_ 4), (0, u "java/lang/Object")] 2

/-- java/io/Serializable -/
def k4 : Class := { plain "java/io/Serializable" (some 0) with
  accessFlags := 1537
  interfaces := #[]
  cf := some (fileOf pool4 1 #[] #[] 1537 3 #[] #[])
  fields := #[]
  methods := #[]
  instanceTypes := #[]
  staticTypes := #[]
  resolved := Array.replicate 7 none
  statics := none }

def pool5 : Array CpInfo := pool [(2, .class_ 4), (1, u "java/lang/Enum"), (0, u "name"), (0, u "Ljava/lang/String;"), (2, u "ordinal"), (0, u "I"), (1, .class_ 14), (1, u "java/lang/Object"), (4, u "hash"), (86, .class_ 108), (1, u "java/lang/Enum$EnumDesc"), (2, .class_ 112), (0, u "java/lang/constant/Constable"), (0, .class_ 114), (0, u "java/lang/Comparable"), (0, .class_ 116), (0, u "java/io/Serializable")] 87

/-- java/lang/Enum -/
def k5 : Class := { plain "java/lang/Enum" (some 0) with
  accessFlags := 1057
  interfaces := #[2, 3, 4]
  cf := some (fileOf pool5 2 #[.nestMembers #[106]] #[] 1057 12 #[111, 113, 115] #[{ accessFlags := 18, nameIndex := 5, descriptorIndex := 6, attributes := #[] }, { accessFlags := 18, nameIndex := 9, descriptorIndex := 10, attributes := #[] }, { accessFlags := 2, nameIndex := 19, descriptorIndex := 10, attributes := #[] }])
  fields := #[{ name := "name", type := (.object "java/lang/String"), accessFlags := 18, slot := 0, constantValue := 0 }, { name := "ordinal", type := .int, accessFlags := 18, slot := 1, constantValue := 0 }, { name := "hash", type := .int, accessFlags := 2, slot := 2, constantValue := 0 }]
  methods := #[]
  instanceTypes := #[(.object "java/lang/String"), .int, .int]
  staticTypes := #[]
  resolved := Array.replicate 204 none
  statics := none }

def pool6 : Array CpInfo := pool [(1, .class_ 2), (0, u "com/example/closure_crew/closurecrew/program/Aggregate$Function"), (0, .fieldref 1 4), (0, .nameAndType 5 6), (0, u "MIN"), (0, u "Lcom/example/closure_crew/closurecrew/program/Aggregate$Function;"), (0, .fieldref 1 8), (0, .nameAndType 9 6), (0, u "MAX"), (2, u "SUM"), (2, u "COUNT"), (2, u "$VALUES"), (0, u "[Lcom/example/closure_crew/closurecrew/program/Aggregate$Function;"), (6, .class_ 28), (1, u "java/lang/Enum"), (38, u "keepsBest"), (0, u "()Z"), (7, .class_ 77), (0, u "com/example/closure_crew/closurecrew/program/Aggregate")] 2

def k6c0 : Code := { maxStack := 2, maxLocals := 1, code := prog_49_method_4_code, exceptionTable := #[], attributes := #[] }
def k6m0 : Method := { name := "keepsBest", desc := "()Z", sig := { parameters := [], returnType := some .boolean }, accessFlags := 1, code := some k6c0 }
/-- com/example/closure_crew/closurecrew/program/Aggregate$Function -/
def k6 : Class := { plain "com/example/closure_crew/closurecrew/program/Aggregate$Function" (some 5) with
  accessFlags := 16433
  interfaces := #[]
  cf := some (fileOf pool6 1 #[.nestHost 76] #[{ accessFlags := 1, nameIndex := 67, descriptorIndex := 68, attributes := #[] }] 16433 26 #[] #[{ accessFlags := 16409, nameIndex := 5, descriptorIndex := 6, attributes := #[] }, { accessFlags := 16409, nameIndex := 9, descriptorIndex := 6, attributes := #[] }, { accessFlags := 16409, nameIndex := 12, descriptorIndex := 6, attributes := #[] }, { accessFlags := 16409, nameIndex := 15, descriptorIndex := 6, attributes := #[] }, { accessFlags := 4122, nameIndex := 18, descriptorIndex := 19, attributes := #[] }])
  fields := #[{ name := "MIN", type := (.object "com/example/closure_crew/closurecrew/program/Aggregate$Function"), accessFlags := 16409, slot := 0, constantValue := 0 }, { name := "MAX", type := (.object "com/example/closure_crew/closurecrew/program/Aggregate$Function"), accessFlags := 16409, slot := 1, constantValue := 0 }, { name := "SUM", type := (.object "com/example/closure_crew/closurecrew/program/Aggregate$Function"), accessFlags := 16409, slot := 2, constantValue := 0 }, { name := "COUNT", type := (.object "com/example/closure_crew/closurecrew/program/Aggregate$Function"), accessFlags := 16409, slot := 3, constantValue := 0 }, { name := "$VALUES", type := (.array (.object "com/example/closure_crew/closurecrew/program/Aggregate$Function")), accessFlags := 4122, slot := 4, constantValue := 0 }]
  methods := #[k6m0]
  instanceTypes := #[(.object "java/lang/String"), .int, .int]
  staticTypes := #[(.object "com/example/closure_crew/closurecrew/program/Aggregate$Function"), (.object "com/example/closure_crew/closurecrew/program/Aggregate$Function"), (.object "com/example/closure_crew/closurecrew/program/Aggregate$Function"), (.object "com/example/closure_crew/closurecrew/program/Aggregate$Function"), (.array (.object "com/example/closure_crew/closurecrew/program/Aggregate$Function"))]
  resolved := Array.replicate 80 none
  statics := some 0 }

def pool7 : Array CpInfo := pool [(1, u "java/lang/Cloneable"), (0, .class_ 1), (0, u "java/lang/Object"), (0, .class_ 3)] 3

/-- java/lang/Cloneable -/
def k7 : Class := { plain "java/lang/Cloneable" (some 0) with
  accessFlags := 1537
  interfaces := #[]
  cf := some (fileOf pool7 2 #[] #[] 1537 4 #[] #[])
  fields := #[]
  methods := #[]
  instanceTypes := #[]
  staticTypes := #[]
  resolved := Array.replicate 8 none
  statics := none }

/-- the primitive byte -/
def k8 : Class := { plain "byte" none with kind := .primitive 'B', accessFlags := 0x411 }
/-- [B -/
def k9 : Class := { plain "[B" (some 0) with kind := .array 8 .byte, interfaces := #[7, 4], accessFlags := 1041 }

/-- the primitive int -/
def k10 : Class := { plain "int" none with kind := .primitive 'I', accessFlags := 0x411 }
/-- [I -/
def k11 : Class := { plain "[I" (some 0) with kind := .array 10 .int, interfaces := #[7, 4], accessFlags := 1041 }

def heap : Heap := #[{ cls := 6, slots := #[.ref 1, .ref 2, .ref 3, .ref 4, .null], vm := .statics 6 },
  { cls := 6, slots := #[.null, .int 0, .int 0], vm := .none },
  { cls := 6, slots := #[.null, .int 1, .int 0], vm := .none },
  { cls := 6, slots := #[.null, .int 2, .int 0], vm := .none },
  { cls := 6, slots := #[.null, .int 3, .int 0], vm := .none }]
def classes : Array Class := #[k0, k1, k2, k3, k4, k5, k6, k7, k8, k9, k10, k11]
def interned : List (Array UInt16 × Addr) := []
def slotsUsed : Nat := 17
def theMethod : MethodId := ⟨1, 1⟩
def args0 : Array Value := #[.int 5]
def aboutOver (below : List Frame) : State where
  vm := { classes := classes, interned := interned.toArray }
  heap := heap
  slotsUsed := slotsUsed
  threads := #[{ frames := .invoking theMethod args0 :: below }]
def below0 : List Frame := [.native { method := ⟨0, 0⟩, args := #[] }]
def about1 : State := aboutOver below0
def p0 : Program := .bare "" "" ""
def e0 : Env := launch0.env 0 0 0
theorem w_frames : about1.frames = Frame.invoking theMethod args0 :: below0 := rfl
set_option maxRecDepth 65536 in
theorem w_args : argsFit about1.vm theMethod args0 = true := by decide +kernel
set_option maxRecDepth 65536 in
theorem w_heap : heapFits about1 = true := by decide +kernel
set_option maxRecDepth 65536 in
theorem w_runnable : about1.curStatus? = some .runnable := by decide +kernel
set_option maxRecDepth 65536 in
theorem w_alone : about1.alone = true := by decide +kernel
set_option maxRecDepth 65536 in
theorem w_named : about1.methodNamed? x = some theMethod := by decide +kernel
set_option maxRecDepth 65536 in
theorem w_hears : about1.hears theMethod below0 = true := by decide +kernel
set_option maxRecDepth 65536 in
theorem w_ripe : about1.ripe theMethod args0 below0 = true := by decide +kernel
theorem w_running : about1.status = .running := rfl
set_option maxRecDepth 65536 in
theorem w_room : about1.hasRoom e0.platform room_1 = true :=
  launch0.hasRoom_least _ room_1 (by decide +kernel) (by decide +kernel) (by decide +kernel) (by decide +kernel) (by decide +kernel) (by decide +kernel)
theorem allAtoms_all (ts : List Jvm.Cond) (a : Array Jvm.Value) (st : Jvm.State) : (allAtoms ts).before a st = ts.all (fun c => c.before a st) := by
  induction ts with
  | nil => rfl
  | cons c t ih =>
    show (Jvm.Cond.and c (allAtoms t)).before a st = _
    rw [Jvm.Cond.before_and, ih, List.all_cons]
def words1 : List Jvm.Cond := Jvm.Cond.code x code maxLocals ret :: tables_1
/-- a 'code' word, met by the world's own term for the bytes: nothing is compared byte by byte -/
theorem code_word {y : MethodName} {bytes : ByteArray} {mx : Nat} {rt : Option FieldType} {a : Array Value} {s : State} {m : MethodId} {meth : Method} {c : Code} (h1 : s.methodNamed? y = some m) (h2 : s.vm.method? m = some meth) (h3 : meth.code = some c) (h4 : c.code = bytes)
    (h5 : (c.maxLocals == mx && c.exceptionTable.isEmpty && decide (c.maxStack ≤ mostOperands) && decide (meth.sig.returnType = rt) && !meth.locks && decide (parseMethodDescriptor y.desc = some meth.sig)) = true) : (Jvm.Cond.code y bytes mx rt).before a s = true := by
  simp only [Bool.and_eq_true, beq_iff_eq, Bool.not_eq_true', decide_eq_true_eq] at h5
  obtain ⟨⟨⟨⟨⟨g1, g2⟩, g3⟩, g4⟩, g5⟩, g6⟩ := h5
  simp [Cond.before, Cond.holds, Cond.value, h1, h2, h3, h4, g1, g2, g3, g4, g5, g6]
def isCode : Jvm.Cond → Bool
  | .code _ _ _ _ => true
  | _ => false
theorem all_split {L : List Jvm.Cond} {P : Jvm.Cond → Bool} (h1 : L.all (fun c => isCode c || P c) = true) (h2 : ∀ c ∈ L.filter isCode, P c = true) : L.all P = true := by
  refine List.all_eq_true.mpr fun c hc => ?_
  have h := List.all_eq_true.mp h1 c hc
  rcases Bool.eq_false_or_eq_true (isCode c) with hi | hi
  · exact h2 c (List.mem_filter.mpr ⟨hc, hi⟩)
  · simpa [hi] using h
set_option maxRecDepth 65536 in
theorem w_c0 : (Jvm.Cond.code x code maxLocals ret).before args0 about1 = true := code_word (m := ⟨1, 1⟩) (meth := k1m1) (c := k1c1) (by decide +kernel) rfl rfl rfl (by decide +kernel)
set_option maxRecDepth 65536 in
theorem w_c1 : (Jvm.Cond.code ({ cls := "com/example/closure_crew/closurecrew/program/Aggregate$Function", name := "keepsBest", desc := "()Z" } : Jvm.MethodName) prog_49_method_4_code (1 : Nat) (Option.some Jvm.ClassFile.FieldType.boolean)).before args0 about1 = true := code_word (m := ⟨6, 0⟩) (meth := k6m0) (c := k6c0) (by decide +kernel) rfl rfl rfl (by decide +kernel)
def codes1 : List Jvm.Cond := [Jvm.Cond.code x code maxLocals ret, Jvm.Cond.code ({ cls := "com/example/closure_crew/closurecrew/program/Aggregate$Function", name := "keepsBest", desc := "()Z" } : Jvm.MethodName) prog_49_method_4_code (1 : Nat) (Option.some Jvm.ClassFile.FieldType.boolean)]
set_option maxRecDepth 65536 in
theorem codes_eq : words1.filter isCode = codes1 := rfl
theorem w_codes : ∀ c ∈ words1.filter isCode, c.before args0 about1 = true := by
  rw [codes_eq]
  intro c hc
  simp only [codes1, List.mem_cons, List.not_mem_nil, or_false] at hc
  rcases hc with rfl | rfl
  · exact w_c0
  · exact w_c1
set_option maxRecDepth 65536 in
theorem w_t1 : words1.all (fun c => isCode c || c.before args0 about1) = true := by decide +kernel
theorem w_tables : (allAtoms (Jvm.Cond.code x code maxLocals ret :: tables_1)).before args0 about1 = true := by
  rw [allAtoms_all]
  show words1.all (fun c => c.before args0 about1) = true
  refine all_split ?_ w_codes
  rw [w_t1]
set_option maxRecDepth 65536 in
theorem w_case : (Jvm.Cond.and given_1 narrow_1).before args0 about1 = true := by decide +kernel
theorem w_applies : (headSpec (Jvm.Cond.code x code maxLocals ret :: tables_1) room_1).applies x e0.platform about1 = true :=
  (Spec.applies_iff w_frames).mpr ⟨w_running, w_runnable, w_alone, w_named, w_hears, w_ripe, w_room, w_tables⟩
theorem atStart : AtStart classFile x code maxLocals ret World_1 tables_1 room_1 Calls_1 rest_1 Pre_1 launch0 p0 e0 about1 theMethod args0 below0 :=
  ⟨lists_1, trivial, launch0.admits_env _ _ _, launch0.least_env, fairChoices_fair.cas, fairChoices_fair.clock, w_frames, w_args, w_heap, w_applies, trivial, trivial, w_case⟩
end start1
theorem witness_1 : WitnessClaimed_1 := ⟨start1.p0, start1.e0, start1.about1, start1.theMethod, start1.args0, start1.below0, start1.atStart⟩
end Jvm.Pilot.@@N@@
