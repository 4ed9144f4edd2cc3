import JvmDerived
import JvmDerived.Pilot.@@N@@Statement
import JvmDerived.Pilot.@@N@@Code
set_option linter.unusedVariables false
set_option linter.unusedSimpArgs false
namespace Jvm.RoadKit
open Sem ClassFile Op Lib Jvm.Stand Jvm.Free Jvm.LawKit
section New
variable {p : Program} {l : Launch} {e : Env} {R : Room} {s : State} {m : MethodId} {args : Array Value} {below : List Frame} {meth : Method} {c : Code} {T : State} {locs : List Loc} {cells slots : Nat}
theorem retI (X : Stand p l e R s m args below meth c T locs cells slots) (hx : p.tables.exec = Jvm.exec) {pc : Nat} {Ls : Array Slot} {z : Int32} {rest : List Value} (hret : meth.sig.returnType = some .int) (hd : decode c.code pc = .ok (.ireturn, 1)) {fs : List Frame}
    (hl : ∀ (f : JFrame) (acts : List Action), f.method = m → f.locked = none → f.entered = [] → (doReturn e (T.setTop f) acts (some (.int z))).1 = T.setFrames fs) : Steps p.tables e below (T.setTop (mkF m pc Ls (.int z :: rest))) (T.setFrames fs) := by
  have hm' : T.vm.method? m = some meth := X.method'
  have hn : narrow .int (.int z) = .int z := rfl
  show Steps p.tables e below (T.setTop { method := m, pc := pc, locals := Ls, stack := _ :: rest, locked := none }) _
  jvm_step X.here [X.here.top, hx, hd, hm', hret, hn]
  first | (intro acts; rw [hl _ acts rfl rfl rfl]) | rw [hl _ _ rfl rfl rfl]
  exact Steps.refl _
end New
end Jvm.RoadKit
namespace Jvm.Pilot.@@N@@
open Jvm Jvm.ClassFile Sem Op Lib Jvm.Free Jvm.Stand Jvm.LawKit Jvm.RoadKit Bundle Jvm.Pilot.@@N@@.Jvm.D
/-! OWN KIT: a walk told forwards. `WGo T f`: from the frame f over the state T the body runs to its return, and what it returns meets Q. -/
section OwnKit
variable {p : Program} {l : Launch} {e : Env} {R : Room} {s : State} {m : MethodId} {args : Array Value} {below : List Frame} {meth : Method} {c : Code} {T : State} {locs : List Loc} {cells slots : Nat} {Z : State} {a0 : Array Value} {h : Heap} {kc ks : Nat} {Q : Option Value → Heap → List Loc → Prop} {pc pc' : Nat} {Ls Ls' : Array Slot} {st : List Value} {x y : Int32} {u w : Int64}
def WGo (p : Program) (e : Env) (below : List Frame) (s : State) (kc ks : Nat) (Q : Option Value → Heap → List Loc → Prop) (T : State) (f : JFrame) : Prop :=
  ∃ s₂ o, Steps p.tables e below (T.setTop f) s₂ ∧ s₂.status = .running ∧ Ended s₂ below o ∧ ∃ v L, o = .returned v ∧ Q v s₂.heap L ∧ FrameEnd s o s₂ L kc ks
theorem WGo.go {T' : State} {f f' : JFrame} (k : ∀ t, Steps p.tables e below (T'.setTop f') t → Steps p.tables e below (T.setTop f) t) (r : WGo p e below s kc ks Q T' f') : WGo p e below s kc ks Q T f := by
  obtain ⟨s₂, o, h1, r⟩ := r
  exact ⟨s₂, o, k _ h1, r⟩
theorem WGo.cast {f f' : JFrame} (q : f = f') (r : WGo p e below s kc ks Q T f') : WGo p e below s kc ks Q T f := q ▸ r
theorem WGo.mono {f : JFrame} {Q' : Option Value → Heap → List Loc → Prop} (r : WGo p e below s kc ks Q' T f) (q : ∀ v h L, Q' v h L → Q v h L) : WGo p e below s kc ks Q T f := by
  obtain ⟨s₂, o, h1, h2, h3, v, L, h4, h5, h6⟩ := r
  exact ⟨s₂, o, h1, h2, h3, v, L, h4, q _ _ _ h5, h6⟩
/-- a body's contract -/
def WCt (l : Launch) (Z : State) (y : MethodName) (bytes : ByteArray) (maxL : Nat) (ret : Option FieldType) (rm : Room) (as' : Array Value) (h0 : Heap) (Q : Option Value → Heap → List Loc → Prop) : Prop :=
  ∀ ws : List Jvm.Cond, MetFree l y (head1 (Jvm.Cond.code y bytes maxL ret :: ws) rm) (fun a U => a = as' ∧ Z.Warmed39 U.vm ∧ U.heap = h0) (fun _ _ _ _ _ => True) (fun _ U o U' => ∃ v L, o = .returned v ∧ Q v U'.heap L ∧ FrameEnd U o U' L rm.cells rm.slots)
theorem WCt.of {y : MethodName} {bytes : ByteArray} {maxL : Nat} {ret : Option FieldType} {rm : Room} {as' : Array Value} {h0 : Heap} (hpl : plainFor y = true)
    (body : ∀ (p : Program) (e : Env) (s : State) (m : MethodId) (below : List Frame) (meth : Method) (c : Code) (T : State), p.tables.exec = Jvm.exec → c.code = bytes → c.maxLocals = maxL → s.vm.findClass y.cls = some m.cls → meth.name = y.name → meth.sig.returnType = ret → meth.locks = false → Z.Warmed39 s.vm → s.heap = h0 →
      Stand p l e rm s m as' below meth c T [] 0 0 → T.heap = h0 → WGo p e below s rm.cells rm.slots Q T (entryFrame m as' maxL)) : WCt l Z y bytes maxL ret rm as' h0 Q := by
  intro ws
  refine MetFree.of_bodySF hpl hisR ?_
  intro p e s m args below meth c s₁ Bd hml0 hP hK
  obtain ⟨rfl, hZ, hh⟩ := hP
  have X0 : Stand p l e rm s m _ below meth c s₁ [] 0 0 := Stand.of_body Bd
  exact body p e s m below meth c s₁ Bd.exec Bd.bytes hml0 (findClass_of_methodNamed Bd.named) (name_of_methodNamed Bd.named Bd.method).1 Bd.returns (BodyLoose.notSynchronized Bd) hZ hh X0 (by rw [← hh, Bd.state]; rfl)
/-! returns -/
theorem g_ret0 (X : Stand p l e R s m args below meth c T locs cells slots) (hx : p.tables.exec = Jvm.exec) (hret : meth.sig.returnType = none) (hlk : meth.locks = false) (hd : decode c.code pc = .ok (.return_, 1)) (hc : cells ≤ kc) (hs : slots ≤ ks) (q : Q none T.heap locs) : WGo p e below s kc ks Q T (mkF m pc Ls []) := by
  obtain ⟨fs, hr, hrun, hended, hW, hsame⟩ := X.leave (v := none) (fun _ => rfl) hlk
  exact ⟨_, _, X.returnOut hx hret hd hr, hrun, hended, _, _, rfl, q, ⟨_, rfl⟩, hW, hsame.mono hc hs⟩
theorem g_retI (X : Stand p l e R s m args below meth c T locs cells slots) (hx : p.tables.exec = Jvm.exec) (hret : meth.sig.returnType = some .int) (hlk : meth.locks = false) (hd : decode c.code pc = .ok (.ireturn, 1)) (hc : cells ≤ kc) (hs : slots ≤ ks) (q : Q (some (.int x)) T.heap locs) : WGo p e below s kc ks Q T (mkF m pc Ls (.int x :: st)) := by
  obtain ⟨fs, hr, hrun, hended, hW, hsame⟩ := X.leave (v := some (.int x)) (fun h => by rw [hret] at h; cases h) hlk
  exact ⟨_, _, retI X hx hret hd hr, hrun, hended, _, _, rfl, q, ⟨_, rfl⟩, hW, hsame.mono hc hs⟩
theorem g_retN {t : FieldType} (X : Stand p l e R s m args below meth c T locs cells slots) (hx : p.tables.exec = Jvm.exec) (hret : meth.sig.returnType = some t) (ht : t = .boolean ∨ t = .byte ∨ t = .char ∨ t = .short) (hlk : meth.locks = false) (hd : decode c.code pc = .ok (.ireturn, 1)) (hc : cells ≤ kc) (hs : slots ≤ ks) (q : Q (some (.int (nar t x))) T.heap locs) : WGo p e below s kc ks Q T (mkF m pc Ls (.int x :: st)) := by
  obtain ⟨fs, hr, hrun, hended, hW, hsame⟩ := X.leave (v := some (.int (nar t x))) (fun h => by rw [hret] at h; cases h) hlk
  exact ⟨_, _, retN X hx hret ht hd hr, hrun, hended, _, _, rfl, q, ⟨_, rfl⟩, hW, hsame.mono hc hs⟩
theorem g_retJ (X : Stand p l e R s m args below meth c T locs cells slots) (hx : p.tables.exec = Jvm.exec) (hret : meth.sig.returnType = some .long) (hlk : meth.locks = false) (hd : decode c.code pc = .ok (.lreturn, 1)) (hc : cells ≤ kc) (hs : slots ≤ ks) (q : Q (some (.long u)) T.heap locs) : WGo p e below s kc ks Q T (mkF m pc Ls [.long u]) := by
  obtain ⟨fs, hr, hrun, hended, hW, hsame⟩ := X.leave (v := some (.long u)) (fun h => by rw [hret] at h; cases h) hlk
  exact ⟨_, _, X.lreturnOut hx hret hd hr, hrun, hended, _, _, rfl, q, ⟨_, rfl⟩, hW, hsame.mono hc hs⟩
theorem g_retA {t : FieldType} {v : Value} (X : Stand p l e R s m args below meth c T locs cells slots) (hx : p.tables.exec = Jvm.exec) (hv : v.isRef = true) (hret : meth.sig.returnType = some t) (ht : t.isReference = true) (hlk : meth.locks = false) (hd : decode c.code pc = .ok (.areturn, 1)) (hc : cells ≤ kc) (hs : slots ≤ ks) (q : Q (some v) T.heap locs) : WGo p e below s kc ks Q T (mkF m pc Ls [v]) := by
  obtain ⟨fs, hr, hrun, hended, hW, hsame⟩ := X.leave (v := some v) (fun h => by rw [hret] at h; cases h) hlk
  exact ⟨_, _, X.areturnOut hx hv hret ht hd hr, hrun, hended, _, _, rfl, q, ⟨_, rfl⟩, hW, hsame.mono hc hs⟩
/-! loads and stores of locals -/
theorem g_iloadN (X : Stand p l e R s m args below meth c T locs cells slots) (hx : p.tables.exec = Jvm.exec) {k : Fin 4} (hd : decode c.code pc = .ok (.iload_n k, 1)) (hl : Ls[k.val]? = some (.val (.int x))) (hp : pc + 1 = pc') (r : WGo p e below s kc ks Q T (mkF m pc' Ls (.int x :: st))) : WGo p e below s kc ks Q T (mkF m pc Ls st) := by
  subst hp; exact r.go fun t k => XS.iloadN X.here hx rfl hd hl k
theorem g_iload (X : Stand p l e R s m args below meth c T locs cells slots) (hx : p.tables.exec = Jvm.exec) {k : Nat} (hd : decode c.code pc = .ok (.iload k, 2)) (hl : Ls[k]? = some (.val (.int x))) (hp : pc + 2 = pc') (r : WGo p e below s kc ks Q T (mkF m pc' Ls (.int x :: st))) : WGo p e below s kc ks Q T (mkF m pc Ls st) := by
  subst hp; exact r.go fun t k => XS.iload X.here hx rfl hd hl k
theorem g_lloadN (X : Stand p l e R s m args below meth c T locs cells slots) (hx : p.tables.exec = Jvm.exec) {k : Fin 4} (hd : decode c.code pc = .ok (.lload_n k, 1)) (hl : Ls[k.val]? = some (.val (.long u))) (hp : pc + 1 = pc') (r : WGo p e below s kc ks Q T (mkF m pc' Ls (.long u :: st))) : WGo p e below s kc ks Q T (mkF m pc Ls st) := by
  subst hp; exact r.go fun t k => XT.lloadN X.here hx rfl hd hl k
theorem g_lload (X : Stand p l e R s m args below meth c T locs cells slots) (hx : p.tables.exec = Jvm.exec) {k : Nat} (hd : decode c.code pc = .ok (.lload k, 2)) (hl : Ls[k]? = some (.val (.long u))) (hp : pc + 2 = pc') (r : WGo p e below s kc ks Q T (mkF m pc' Ls (.long u :: st))) : WGo p e below s kc ks Q T (mkF m pc Ls st) := by
  subst hp; exact r.go fun t k => XT.lload X.here hx rfl hd hl k
theorem g_aloadN {v : Value} (X : Stand p l e R s m args below meth c T locs cells slots) (hx : p.tables.exec = Jvm.exec) {k : Fin 4} (hd : decode c.code pc = .ok (.aload_n k, 1)) (hl : Ls[k.val]? = some (.val v)) (hv : v.isRef = true) (hp : pc + 1 = pc') (r : WGo p e below s kc ks Q T (mkF m pc' Ls (v :: st))) : WGo p e below s kc ks Q T (mkF m pc Ls st) := by
  subst hp; exact r.go fun t k => XS.aloadN X.here hx rfl hd hl hv k
theorem g_aload {v : Value} (X : Stand p l e R s m args below meth c T locs cells slots) (hx : p.tables.exec = Jvm.exec) {k : Nat} (hd : decode c.code pc = .ok (.aload k, 2)) (hl : Ls[k]? = some (.val v)) (hv : v.isRef = true) (hp : pc + 2 = pc') (r : WGo p e below s kc ks Q T (mkF m pc' Ls (v :: st))) : WGo p e below s kc ks Q T (mkF m pc Ls st) := by
  subst hp; exact r.go fun t k => XS.aload X.here hx rfl hd hl hv k
theorem g_istoreN (X : Stand p l e R s m args below meth c T locs cells slots) (hx : p.tables.exec = Jvm.exec) {k : Fin 4} (hd : decode c.code pc = .ok (.istore_n k, 1)) (hl : storeLocals Ls k.val (.int x) = some Ls') (hp : pc + 1 = pc') (r : WGo p e below s kc ks Q T (mkF m pc' Ls' st)) : WGo p e below s kc ks Q T (mkF m pc Ls (.int x :: st)) := by
  subst hp; exact r.go fun t k => XS.istoreN X.here hx rfl hd rfl hl k
theorem g_istore (X : Stand p l e R s m args below meth c T locs cells slots) (hx : p.tables.exec = Jvm.exec) {k : Nat} (hd : decode c.code pc = .ok (.istore k, 2)) (hl : storeLocals Ls k (.int x) = some Ls') (hp : pc + 2 = pc') (r : WGo p e below s kc ks Q T (mkF m pc' Ls' st)) : WGo p e below s kc ks Q T (mkF m pc Ls (.int x :: st)) := by
  subst hp; exact r.go fun t k => XS.istore X.here hx rfl hd rfl hl k
theorem g_lstoreN (X : Stand p l e R s m args below meth c T locs cells slots) (hx : p.tables.exec = Jvm.exec) {k : Fin 4} (hd : decode c.code pc = .ok (.lstore_n k, 1)) (hl : storeLocals Ls k.val (.long u) = some Ls') (hp : pc + 1 = pc') (r : WGo p e below s kc ks Q T (mkF m pc' Ls' st)) : WGo p e below s kc ks Q T (mkF m pc Ls (.long u :: st)) := by
  subst hp; exact r.go fun t k => XT.lstoreN X.here hx rfl hd rfl hl k
theorem g_lstore (X : Stand p l e R s m args below meth c T locs cells slots) (hx : p.tables.exec = Jvm.exec) {k : Nat} (hd : decode c.code pc = .ok (.lstore k, 2)) (hl : storeLocals Ls k (.long u) = some Ls') (hp : pc + 2 = pc') (r : WGo p e below s kc ks Q T (mkF m pc' Ls' st)) : WGo p e below s kc ks Q T (mkF m pc Ls (.long u :: st)) := by
  subst hp; exact r.go fun t k => XT.lstore X.here hx rfl hd rfl hl k
theorem g_astoreN {v : Value} (X : Stand p l e R s m args below meth c T locs cells slots) (hx : p.tables.exec = Jvm.exec) {k : Fin 4} (hd : decode c.code pc = .ok (.astore_n k, 1)) (hv : v.isRef = true) (hl : storeLocals Ls k.val v = some Ls') (hp : pc + 1 = pc') (r : WGo p e below s kc ks Q T (mkF m pc' Ls' st)) : WGo p e below s kc ks Q T (mkF m pc Ls (v :: st)) := by
  subst hp; exact r.go fun t k => XS.astoreN X.here hx rfl hd rfl hv hl k
theorem g_astore {v : Value} (X : Stand p l e R s m args below meth c T locs cells slots) (hx : p.tables.exec = Jvm.exec) {k : Nat} (hd : decode c.code pc = .ok (.astore k, 2)) (hv : v.isRef = true) (hl : storeLocals Ls k v = some Ls') (hp : pc + 2 = pc') (r : WGo p e below s kc ks Q T (mkF m pc' Ls' st)) : WGo p e below s kc ks Q T (mkF m pc Ls (v :: st)) := by
  subst hp; exact r.go fun t k => XS.astore X.here hx rfl hd rfl hv hl k
theorem g_iinc (X : Stand p l e R s m args below meth c T locs cells slots) (hx : p.tables.exec = Jvm.exec) {k : Nat} {cst : Int} {z : Int32} (hd : decode c.code pc = .ok (.iinc k cst, 3)) (hl : Ls[k]? = some (.val (.int x))) (hz : x + Int32.ofInt cst = z) (hl' : storeLocals Ls k (.int z) = some Ls') (hp : pc + 3 = pc') (r : WGo p e below s kc ks Q T (mkF m pc' Ls' st)) : WGo p e below s kc ks Q T (mkF m pc Ls st) := by
  subst hp hz; exact r.go fun t k => XS.iinc X.here hx rfl hd hl hl' k
/-! constants -/
theorem g_iconst (X : Stand p l e R s m args below meth c T locs cells slots) (hx : p.tables.exec = Jvm.exec) {i : Int} (hd : decode c.code pc = .ok (.iconst i, 1)) (hv : Int32.ofInt i = x) (hp : pc + 1 = pc') (r : WGo p e below s kc ks Q T (mkF m pc' Ls (.int x :: st))) : WGo p e below s kc ks Q T (mkF m pc Ls st) := by
  subst hp hv; exact r.go fun t k => XS.iconst X.here hx rfl hd k
theorem g_bipush (X : Stand p l e R s m args below meth c T locs cells slots) (hx : p.tables.exec = Jvm.exec) {i : Int} (hd : decode c.code pc = .ok (.bipush i, 2)) (hv : (Int8.ofInt i).toInt32 = x) (hp : pc + 2 = pc') (r : WGo p e below s kc ks Q T (mkF m pc' Ls (.int x :: st))) : WGo p e below s kc ks Q T (mkF m pc Ls st) := by
  subst hp hv; exact r.go fun t k => XS.bipush X.here hx rfl hd k
theorem g_sipush (X : Stand p l e R s m args below meth c T locs cells slots) (hx : p.tables.exec = Jvm.exec) {i : Int} (hd : decode c.code pc = .ok (.sipush i, 3)) (hv : (Int16.ofInt i).toInt32 = x) (hp : pc + 3 = pc') (r : WGo p e below s kc ks Q T (mkF m pc' Ls (.int x :: st))) : WGo p e below s kc ks Q T (mkF m pc Ls st) := by
  subst hp hv; exact r.go fun t k => XS.sipush X.here hx rfl hd k
theorem g_lconst (X : Stand p l e R s m args below meth c T locs cells slots) (hx : p.tables.exec = Jvm.exec) {i : Fin 2} (hd : decode c.code pc = .ok (.lconst i, 1)) (hv : Int64.ofNat i = u) (hp : pc + 1 = pc') (r : WGo p e below s kc ks Q T (mkF m pc' Ls (.long u :: st))) : WGo p e below s kc ks Q T (mkF m pc Ls st) := by
  subst hp hv; exact r.go fun t k => XT.lconst X.here hx rfl hd k
theorem g_null (X : Stand p l e R s m args below meth c T locs cells slots) (hx : p.tables.exec = Jvm.exec) (hd : decode c.code pc = .ok (.aconst_null, 1)) (hp : pc + 1 = pc') (r : WGo p e below s kc ks Q T (mkF m pc' Ls (.null :: st))) : WGo p e below s kc ks Q T (mkF m pc Ls st) := by
  subst hp; exact r.go fun t k => XS.aconstNull X.here hx rfl hd k
theorem g_ldcI {own : String} {index : Nat} (X : Stand p l e R s m args below meth c T locs cells slots) (hx : p.tables.exec = Jvm.exec) (hZ : Z.Warmed39 s.vm) (hown : s.vm.findClass own = some m.cls) (wd : (Jvm.Cond.constant own index x).before a0 Z = true) (hd : decode c.code pc = .ok (.ldc index, 2)) (hp : pc + 2 = pc') (r : WGo p e below s kc ks Q T (mkF m pc' Ls (.int x :: st))) : WGo p e below s kc ks Q T (mkF m pc Ls st) := by
  subst hp; exact r.go fun t k => X.ldcInt hx hown (mvT hZ wd) (g := mkF m pc Ls st) rfl hd t k
theorem g_ldcJ {own : String} {index : Nat} (X : Stand p l e R s m args below meth c T locs cells slots) (hx : p.tables.exec = Jvm.exec) (hZ : Z.Warmed39 s.vm) (hown : s.vm.findClass own = some m.cls) (wd : (Jvm.Cond.constantLong own index u).before a0 Z = true) (hd : decode c.code pc = .ok (.ldc2_w index, 3)) (hp : pc + 3 = pc') (r : WGo p e below s kc ks Q T (mkF m pc' Ls (.long u :: st))) : WGo p e below s kc ks Q T (mkF m pc Ls st) := by
  subst hp; exact r.go fun t k => X.ldc2Long hx hown (mvT hZ wd) (g := mkF m pc Ls st) rfl hd t k
/-! reckoning -/
theorem g_iadd (X : Stand p l e R s m args below meth c T locs cells slots) (hx : p.tables.exec = Jvm.exec) (hd : decode c.code pc = .ok (.iadd, 1)) (hp : pc + 1 = pc') (r : WGo p e below s kc ks Q T (mkF m pc' Ls (.int (x + y) :: st))) : WGo p e below s kc ks Q T (mkF m pc Ls (.int y :: .int x :: st)) := by
  subst hp; exact r.go fun t k => XS.iadd X.here hx rfl hd rfl k
theorem g_isub (X : Stand p l e R s m args below meth c T locs cells slots) (hx : p.tables.exec = Jvm.exec) (hd : decode c.code pc = .ok (.isub, 1)) (hp : pc + 1 = pc') (r : WGo p e below s kc ks Q T (mkF m pc' Ls (.int (x - y) :: st))) : WGo p e below s kc ks Q T (mkF m pc Ls (.int y :: .int x :: st)) := by
  subst hp; exact r.go fun t k => XS.isub X.here hx rfl hd rfl k
theorem g_iand (X : Stand p l e R s m args below meth c T locs cells slots) (hx : p.tables.exec = Jvm.exec) (hd : decode c.code pc = .ok (.iand, 1)) (hp : pc + 1 = pc') (r : WGo p e below s kc ks Q T (mkF m pc' Ls (.int (x &&& y) :: st))) : WGo p e below s kc ks Q T (mkF m pc Ls (.int y :: .int x :: st)) := by
  subst hp; exact r.go fun t k => XS.iand X.here hx rfl hd rfl k
theorem g_imul (X : Stand p l e R s m args below meth c T locs cells slots) (hx : p.tables.exec = Jvm.exec) (hd : decode c.code pc = .ok (.imul, 1)) (hp : pc + 1 = pc') (r : WGo p e below s kc ks Q T (mkF m pc' Ls (.int (x * y) :: st))) : WGo p e below s kc ks Q T (mkF m pc Ls (.int y :: .int x :: st)) := by
  subst hp; exact r.go fun t k => XS.imul X.here hx rfl hd rfl k
theorem g_ixor (X : Stand p l e R s m args below meth c T locs cells slots) (hx : p.tables.exec = Jvm.exec) (hd : decode c.code pc = .ok (.ixor, 1)) (hp : pc + 1 = pc') (r : WGo p e below s kc ks Q T (mkF m pc' Ls (.int (x ^^^ y) :: st))) : WGo p e below s kc ks Q T (mkF m pc Ls (.int y :: .int x :: st)) := by
  subst hp; exact r.go fun t k => XT.ixor X.here hx rfl hd rfl k
theorem g_ior (X : Stand p l e R s m args below meth c T locs cells slots) (hx : p.tables.exec = Jvm.exec) (hd : decode c.code pc = .ok (.ior, 1)) (hp : pc + 1 = pc') (r : WGo p e below s kc ks Q T (mkF m pc' Ls (.int (x ||| y) :: st))) : WGo p e below s kc ks Q T (mkF m pc Ls (.int y :: .int x :: st)) := by
  subst hp; exact r.go fun t k => XT.ior X.here hx rfl hd rfl k
theorem g_ishl (X : Stand p l e R s m args below meth c T locs cells slots) (hx : p.tables.exec = Jvm.exec) (hd : decode c.code pc = .ok (.ishl, 1)) (hp : pc + 1 = pc') (r : WGo p e below s kc ks Q T (mkF m pc' Ls (.int (x <<< (y &&& 31)) :: st))) : WGo p e below s kc ks Q T (mkF m pc Ls (.int y :: .int x :: st)) := by
  subst hp; exact r.go fun t k => XT.ishl X.here hx rfl hd rfl k
theorem g_ishr (X : Stand p l e R s m args below meth c T locs cells slots) (hx : p.tables.exec = Jvm.exec) (hd : decode c.code pc = .ok (.ishr, 1)) (hp : pc + 1 = pc') (r : WGo p e below s kc ks Q T (mkF m pc' Ls (.int (x >>> (y &&& 31)) :: st))) : WGo p e below s kc ks Q T (mkF m pc Ls (.int y :: .int x :: st)) := by
  subst hp; exact r.go fun t k => XT.ishr X.here hx rfl hd rfl k
theorem g_iushr (X : Stand p l e R s m args below meth c T locs cells slots) (hx : p.tables.exec = Jvm.exec) (hd : decode c.code pc = .ok (.iushr, 1)) (hp : pc + 1 = pc') (r : WGo p e below s kc ks Q T (mkF m pc' Ls (.int (XT.ushr x y) :: st))) : WGo p e below s kc ks Q T (mkF m pc Ls (.int y :: .int x :: st)) := by
  subst hp; exact r.go fun t k => XT.iushr X.here hx rfl hd rfl k
theorem g_ladd (X : Stand p l e R s m args below meth c T locs cells slots) (hx : p.tables.exec = Jvm.exec) (hd : decode c.code pc = .ok (.ladd, 1)) (hp : pc + 1 = pc') (r : WGo p e below s kc ks Q T (mkF m pc' Ls (.long (u + w) :: st))) : WGo p e below s kc ks Q T (mkF m pc Ls (.long w :: .long u :: st)) := by
  subst hp; exact r.go fun t k => XT.ladd X.here hx rfl hd rfl k
theorem g_lsub (X : Stand p l e R s m args below meth c T locs cells slots) (hx : p.tables.exec = Jvm.exec) (hd : decode c.code pc = .ok (.lsub, 1)) (hp : pc + 1 = pc') (r : WGo p e below s kc ks Q T (mkF m pc' Ls (.long (u - w) :: st))) : WGo p e below s kc ks Q T (mkF m pc Ls (.long w :: .long u :: st)) := by
  subst hp; exact r.go fun t k => XT.lsub X.here hx rfl hd rfl k
theorem g_lmul (X : Stand p l e R s m args below meth c T locs cells slots) (hx : p.tables.exec = Jvm.exec) (hd : decode c.code pc = .ok (.lmul, 1)) (hp : pc + 1 = pc') (r : WGo p e below s kc ks Q T (mkF m pc' Ls (.long (u * w) :: st))) : WGo p e below s kc ks Q T (mkF m pc Ls (.long w :: .long u :: st)) := by
  subst hp; exact r.go fun t k => XT.lmul X.here hx rfl hd rfl k
theorem g_land (X : Stand p l e R s m args below meth c T locs cells slots) (hx : p.tables.exec = Jvm.exec) (hd : decode c.code pc = .ok (.land, 1)) (hp : pc + 1 = pc') (r : WGo p e below s kc ks Q T (mkF m pc' Ls (.long (u &&& w) :: st))) : WGo p e below s kc ks Q T (mkF m pc Ls (.long w :: .long u :: st)) := by
  subst hp; exact r.go fun t k => XT.land X.here hx rfl hd rfl k
theorem g_lxor (X : Stand p l e R s m args below meth c T locs cells slots) (hx : p.tables.exec = Jvm.exec) (hd : decode c.code pc = .ok (.lxor, 1)) (hp : pc + 1 = pc') (r : WGo p e below s kc ks Q T (mkF m pc' Ls (.long (u ^^^ w) :: st))) : WGo p e below s kc ks Q T (mkF m pc Ls (.long w :: .long u :: st)) := by
  subst hp; exact r.go fun t k => XT.lxor X.here hx rfl hd rfl k
theorem g_lushr (X : Stand p l e R s m args below meth c T locs cells slots) (hx : p.tables.exec = Jvm.exec) (hd : decode c.code pc = .ok (.lushr, 1)) (hp : pc + 1 = pc') (r : WGo p e below s kc ks Q T (mkF m pc' Ls (.long (XT.ushrL u y) :: st))) : WGo p e below s kc ks Q T (mkF m pc Ls (.int y :: .long u :: st)) := by
  subst hp; exact r.go fun t k => XT.lushr X.here hx rfl hd rfl k
theorem g_lcmp (X : Stand p l e R s m args below meth c T locs cells slots) (hx : p.tables.exec = Jvm.exec) (hd : decode c.code pc = .ok (.lcmp, 1)) (hp : pc + 1 = pc') (r : WGo p e below s kc ks Q T (mkF m pc' Ls (.int (XT.cmpL u w) :: st))) : WGo p e below s kc ks Q T (mkF m pc Ls (.long w :: .long u :: st)) := by
  subst hp; exact r.go fun t k => XT.lcmp X.here hx rfl hd rfl k
theorem g_i2l (X : Stand p l e R s m args below meth c T locs cells slots) (hx : p.tables.exec = Jvm.exec) (hd : decode c.code pc = .ok (.i2l, 1)) (hp : pc + 1 = pc') (r : WGo p e below s kc ks Q T (mkF m pc' Ls (.long (x.toInt64) :: st))) : WGo p e below s kc ks Q T (mkF m pc Ls (.int x :: st)) := by
  subst hp; exact r.go fun t k => XT.i2l X.here hx rfl hd rfl k
theorem g_l2i (X : Stand p l e R s m args below meth c T locs cells slots) (hx : p.tables.exec = Jvm.exec) (hd : decode c.code pc = .ok (.l2i, 1)) (hp : pc + 1 = pc') (r : WGo p e below s kc ks Q T (mkF m pc' Ls (.int (u.toInt32) :: st))) : WGo p e below s kc ks Q T (mkF m pc Ls (.long u :: st)) := by
  subst hp; exact r.go fun t k => XT.l2i X.here hx rfl hd rfl k
theorem g_i2b (X : Stand p l e R s m args below meth c T locs cells slots) (hx : p.tables.exec = Jvm.exec) (hd : decode c.code pc = .ok (.i2b, 1)) (hp : pc + 1 = pc') (r : WGo p e below s kc ks Q T (mkF m pc' Ls (.int (x.toInt8.toInt32) :: st))) : WGo p e below s kc ks Q T (mkF m pc Ls (.int x :: st)) := by
  subst hp; exact r.go fun t k => XT.i2b X.here hx rfl hd rfl k
theorem g_i2c (X : Stand p l e R s m args below meth c T locs cells slots) (hx : p.tables.exec = Jvm.exec) (hd : decode c.code pc = .ok (.i2c, 1)) (hp : pc + 1 = pc') (r : WGo p e below s kc ks Q T (mkF m pc' Ls (.int (x.toUInt32.toUInt16.toUInt32.toInt32) :: st))) : WGo p e below s kc ks Q T (mkF m pc Ls (.int x :: st)) := by
  subst hp; exact r.go fun t k => XT.i2c X.here hx rfl hd rfl k
theorem g_i2s (X : Stand p l e R s m args below meth c T locs cells slots) (hx : p.tables.exec = Jvm.exec) (hd : decode c.code pc = .ok (.i2s, 1)) (hp : pc + 1 = pc') (r : WGo p e below s kc ks Q T (mkF m pc' Ls (.int (x.toInt16.toInt32) :: st))) : WGo p e below s kc ks Q T (mkF m pc Ls (.int x :: st)) := by
  subst hp; exact r.go fun t k => XT.i2s X.here hx rfl hd rfl k
theorem g_irem (X : Stand p l e R s m args below meth c T locs cells slots) (hx : p.tables.exec = Jvm.exec) (hd : decode c.code pc = .ok (.irem, 1)) (hy : y ≠ 0) (hp : pc + 1 = pc') (r : WGo p e below s kc ks Q T (mkF m pc' Ls (.int (x % y) :: st))) : WGo p e below s kc ks Q T (mkF m pc Ls (.int y :: .int x :: st)) := by
  subst hp; exact r.go fun t k => iremM X hx rfl hd rfl hy k
theorem g_ldiv (X : Stand p l e R s m args below meth c T locs cells slots) (hx : p.tables.exec = Jvm.exec) (hd : decode c.code pc = .ok (.ldiv, 1)) (hy : w ≠ 0) (hp : pc + 1 = pc') (r : WGo p e below s kc ks Q T (mkF m pc' Ls (.long (u / w) :: st))) : WGo p e below s kc ks Q T (mkF m pc Ls (.long w :: .long u :: st)) := by
  subst hp; exact r.go fun t k => XT.ldiv X.here hx rfl hd rfl hy k
theorem g_lrem (X : Stand p l e R s m args below meth c T locs cells slots) (hx : p.tables.exec = Jvm.exec) (hd : decode c.code pc = .ok (.lrem, 1)) (hy : w ≠ 0) (hp : pc + 1 = pc') (r : WGo p e below s kc ks Q T (mkF m pc' Ls (.long (u % w) :: st))) : WGo p e below s kc ks Q T (mkF m pc Ls (.long w :: .long u :: st)) := by
  subst hp; rw [← lrem_mod] at r; exact r.go fun t k => XT.lrem X.here hx rfl hd rfl hy k
/-! the stack -/
theorem g_dup {v : Value} (X : Stand p l e R s m args below meth c T locs cells slots) (hx : p.tables.exec = Jvm.exec) (hd : decode c.code pc = .ok (.dup, 1)) (hc : v.category = 1) (hp : pc + 1 = pc') (r : WGo p e below s kc ks Q T (mkF m pc' Ls (v :: v :: st))) : WGo p e below s kc ks Q T (mkF m pc Ls (v :: st)) := by
  subst hp; exact r.go fun t k => XS.dup X.here hx rfl hd rfl hc k
theorem g_dup2 {v v' : Value} (X : Stand p l e R s m args below meth c T locs cells slots) (hx : p.tables.exec = Jvm.exec) (hd : decode c.code pc = .ok (.dup2, 1)) (hc : v.category = 1) (hc' : v'.category = 1) (hp : pc + 1 = pc') (r : WGo p e below s kc ks Q T (mkF m pc' Ls (v :: v' :: v :: v' :: st))) : WGo p e below s kc ks Q T (mkF m pc Ls (v :: v' :: st)) := by
  subst hp; exact r.go fun t k => XT.dup2 X.here hx rfl hd rfl hc hc' k
theorem g_pop {v : Value} (X : Stand p l e R s m args below meth c T locs cells slots) (hx : p.tables.exec = Jvm.exec) (hd : decode c.code pc = .ok (.pop, 1)) (hc : v.category = 1) (hp : pc + 1 = pc') (r : WGo p e below s kc ks Q T (mkF m pc' Ls st)) : WGo p e below s kc ks Q T (mkF m pc Ls (v :: st)) := by
  subst hp; exact r.go fun t k => XT.pop X.here hx rfl hd rfl hc k
/-! jumps -/
theorem g_join {α : Type} {P : α → Prop} {F : JFrame} {J : α → JFrame} (k : (∀ z, P z → WGo p e below s kc ks Q T (J z)) → WGo p e below s kc ks Q T F) (r : ∀ z, P z → WGo p e below s kc ks Q T (J z)) : WGo p e below s kc ks Q T F := k r
theorem g_goto (X : Stand p l e R s m args below meth c T locs cells slots) (hx : p.tables.exec = Jvm.exec) {o : Int} (hd : decode c.code pc = .ok (.goto o, 3)) (ho : 0 ≤ (pc : Int) + o) (hp : ((pc : Int) + o).toNat = pc') (r : WGo p e below s kc ks Q T (mkF m pc' Ls st)) : WGo p e below s kc ks Q T (mkF m pc Ls st) :=
  r.go fun t k => XS.goto X.here hx rfl rfl hd ho hp k
theorem g_joinT {α : Type} {P : α → Prop} {F : JFrame} {J : α → JFrame} {n0 : Nat} (k : (∀ T' L z, Stand p l e R s m args below meth c T' L cells slots → T'.heap = h → Fr n0 L → P z → WGo p e below s kc ks Q T' (J z)) → WGo p e below s kc ks Q T F) (r : ∀ T' L z, Stand p l e R s m args below meth c T' L cells slots → T'.heap = h → Fr n0 L → P z → WGo p e below s kc ks Q T' (J z)) : WGo p e below s kc ks Q T F := k r
theorem g_ind {α : Type} {P : Nat → α → Prop} {J : α → JFrame} (step : ∀ k, (∀ k' z, k' < k → P k' z → WGo p e below s kc ks Q T (J z)) → ∀ z, P k z → WGo p e below s kc ks Q T (J z)) (k0 : Nat) (z0 : α) (h0 : P k0 z0) : WGo p e below s kc ks Q T (J z0) := by
  have all : ∀ n k, k < n → ∀ z, P k z → WGo p e below s kc ks Q T (J z) := by
    intro n
    induction n with
    | zero => intro k hk; exact absurd hk (Nat.not_lt_zero _)
    | succ n ih => intro k hk z hz; exact step k (fun k' z' hk' hz' => ih k' (Nat.lt_of_lt_of_le hk' (Nat.le_of_lt_succ hk)) z' hz') z hz
  exact all (k0 + 1) k0 (Nat.lt_succ_self _) z0 h0
theorem g_icmp (X : Stand p l e R s m args below meth c T locs cells slots) (hx : p.tables.exec = Jvm.exec) {cd : ClassFile.Cond} {o : Int} {pc2 : Nat} (hd : decode c.code pc = .ok (.if_icmp cd o, 3)) (ho : 0 ≤ (pc : Int) + o) (hp : ((pc : Int) + o).toNat = pc') (hp2 : pc + 3 = pc2) (r1 : if_icmp.holds cd x y = true → WGo p e below s kc ks Q T (mkF m pc' Ls st)) (r2 : if_icmp.holds cd x y = false → WGo p e below s kc ks Q T (mkF m pc2 Ls st)) : WGo p e below s kc ks Q T (mkF m pc Ls (.int y :: .int x :: st)) := by
  subst hp2
  cases hc : if_icmp.holds cd x y
  · exact (r2 hc).go fun t k => XS.icmpNo X.here hx rfl hd rfl hc k
  · exact (r1 hc).go fun t k => XS.icmpYes X.here hx rfl rfl hd rfl hc ho hp k
theorem g_if (X : Stand p l e R s m args below meth c T locs cells slots) (hx : p.tables.exec = Jvm.exec) {cd : ClassFile.Cond} {o : Int} {pc2 : Nat} (hd : decode c.code pc = .ok (.ifCond cd o, 3)) (ho : 0 ≤ (pc : Int) + o) (hp : ((pc : Int) + o).toNat = pc') (hp2 : pc + 3 = pc2) (r1 : if_icmp.holds cd x 0 = true → WGo p e below s kc ks Q T (mkF m pc' Ls st)) (r2 : if_icmp.holds cd x 0 = false → WGo p e below s kc ks Q T (mkF m pc2 Ls st)) : WGo p e below s kc ks Q T (mkF m pc Ls (.int x :: st)) := by
  subst hp2
  cases hc : if_icmp.holds cd x 0
  · exact (r2 hc).go fun t k => XS.ifNo X.here hx rfl hd rfl ((if0 _ _).trans hc) k
  · exact (r1 hc).go fun t k => XS.ifYes X.here hx rfl rfl hd rfl ((if0 _ _).trans hc) ho hp k
theorem h_eq1 (q : if_icmp.holds .eq x y = true) : x = y := by simpa [if_icmp.holds] using q
theorem h_eq0 (q : if_icmp.holds .eq x y = false) : ¬ x = y := by simpa [if_icmp.holds] using q
theorem h_ne1 (q : if_icmp.holds .ne x y = true) : ¬ x = y := by simpa [if_icmp.holds] using q
theorem h_ne0 (q : if_icmp.holds .ne x y = false) : x = y := by simpa [if_icmp.holds] using q
theorem h_lt1 (q : if_icmp.holds .lt x y = true) : x < y := by simpa [if_icmp.holds] using q
theorem h_lt0 (q : if_icmp.holds .lt x y = false) : ¬ x < y := by simpa [if_icmp.holds] using q
theorem h_ge1 (q : if_icmp.holds .ge x y = true) : ¬ x < y := fun z => by rw [(tlt z).2.1] at q; cases q
theorem h_ge0 (q : if_icmp.holds .ge x y = false) : x < y := Classical.byContradiction fun z => by rw [(flt z).2.1] at q; cases q
theorem h_gt1 (q : if_icmp.holds .gt x y = true) : y < x := Classical.byContradiction fun z => by rw [(flt z).2.2.1] at q; cases q
theorem h_gt0 (q : if_icmp.holds .gt x y = false) : ¬ y < x := fun z => by rw [(tlt z).2.2.1] at q; cases q
theorem h_le1 (q : if_icmp.holds .le x y = true) : ¬ y < x := fun z => by rw [(tlt z).2.2.2] at q; cases q
theorem h_le0 (q : if_icmp.holds .le x y = false) : y < x := Classical.byContradiction fun z => by rw [(flt z).2.2.2] at q; cases q
theorem g_acmp {v v' : Value} (X : Stand p l e R s m args below meth c T locs cells slots) (hx : p.tables.exec = Jvm.exec) (h1 : v.isRef = true) (h2 : v'.isRef = true) {o : Int} {pc2 : Nat} (hd : decode c.code pc = .ok (.if_acmp .ne o, 3)) (ho : 0 ≤ (pc : Int) + o) (hp : ((pc : Int) + o).toNat = pc') (hp2 : pc + 3 = pc2) (r1 : ¬ v = v' → WGo p e below s kc ks Q T (mkF m pc' Ls st)) (r2 : v = v' → WGo p e below s kc ks Q T (mkF m pc2 Ls st)) : WGo p e below s kc ks Q T (mkF m pc Ls (v' :: v :: st)) := by
  by_cases hc : v = v'
  · exact (r2 hc).go fun t k => Jvm.RoadKit.acmp X hx rfl h1 h2 rfl hd rfl (decide_eq_true hc) ho (by simp [acV, hp2]) k
  · exact (r1 hc).go fun t k => Jvm.RoadKit.acmp X hx rfl h1 h2 rfl hd rfl (decide_eq_false hc) ho (by simp [acV, hp]) k
theorem cl_lt (u w : Int64) : XT.cmpL u w < 0 ↔ u < w := lw_lt u w
theorem cl_gt (u w : Int64) : 0 < XT.cmpL u w ↔ w < u := lw_gt u w
theorem cl_eq (u w : Int64) : XT.cmpL u w = 0 ↔ u = w := lw_eq u w
/-! fields -/
theorem g_getF {own O n d : String} {index : Nat} {a : Addr} {v : Value} (X : Stand p l e R s m args below meth c T locs cells slots) (hx : p.tables.exec = Jvm.exec) (hZ : Z.Warmed39 s.vm) (hown : s.vm.findClass own = some m.cls) (wd : (Jvm.Cond.fieldLink own index O n d).before a0 Z = true) (eT : T.heap = h) (F : Fld Z h a O n d v) (hd : decode c.code pc = .ok (.getfield index, 3)) (hp : pc + 3 = pc')
    (r : ∀ T', Stand p l e R s m args below meth c T' locs cells slots → T'.heap = h → WGo p e below s kc ks Q T' (mkF m pc' Ls (v :: st))) : WGo p e below s kc ks Q T (mkF m pc Ls (.ref a :: st)) := by
  subst hp
  obtain ⟨T', X', e', k⟩ := getF X hx hZ hown (host := "") (Or.inl wd) Via.refl eT F (g := mkF m pc Ls (.ref a :: st)) rfl rfl hd
  exact (r T' X' e').go k
theorem g_putF {own O n d C : String} {index kk : Nat} {ty : FieldType} {a : Addr} {v old : Value} (X : Stand p l e R s m args below meth c T locs cells slots) (hx : p.tables.exec = Jvm.exec) (hZ : Z.Warmed39 s.vm) (hown : s.vm.findClass own = some m.cls) (wd : (Jvm.Cond.fieldLink own index O n d).before a0 Z = true) (eT : T.heap = h) (F : Fld Z h a O n d old) (E : Exa Z h a C)
    (L : (Jvm.Cond.lays C O n d).before a0 Z = true ∨ ((Jvm.Cond.laysFinal C O n d).before a0 Z = true ∧ own = O ∧ meth.name = "<init>")) (wi : (Jvm.Cond.instantiable C kk).before a0 Z = true) (hty : parseFieldDescriptor d = some ty) (hn : narrow ty v = v) (hf : fits ty v = true) (hd : decode c.code pc = .ok (.putfield index, 3)) (hp : pc + 3 = pc')
    (r : ∀ T' h', Stand p l e R s m args below meth c T' (locs ++ [⟨a, Jvm.RoadKit.slotOf Z O n d⟩]) cells slots → T'.heap = h' → Wr h h' a (Jvm.RoadKit.slotOf Z O n d) v → WGo p e below s kc ks Q T' (mkF m pc' Ls st)) : WGo p e below s kc ks Q T (mkF m pc Ls (v :: .ref a :: st)) := by
  subst hp
  obtain ⟨T', h', X', e', W, k⟩ := putF X hx hZ hown (host := "") (Or.inl wd) Via.refl eT F E L wi hty hn hf (g := mkF m pc Ls (v :: .ref a :: st)) rfl rfl hd
  exact (r T' h' X' e' W).go k
theorem g_getS {own O n d : String} {index : Nat} {v : Value} (X : Stand p l e R s m args below meth c T locs cells slots) (hx : p.tables.exec = Jvm.exec) (hZ : Z.Warmed39 s.vm) (hown : s.vm.findClass own = some m.cls) (wd : (Jvm.Cond.fieldLink own index O n d).before a0 Z = true) (eT : T.heap = h) (F : Sta Z h O n d v) (hd : decode c.code pc = .ok (.getstatic index, 3)) (hp : pc + 3 = pc')
    (r : ∀ T', Stand p l e R s m args below meth c T' locs cells slots → T'.heap = h → WGo p e below s kc ks Q T' (mkF m pc' Ls (v :: st))) : WGo p e below s kc ks Q T (mkF m pc Ls st) := by
  subst hp
  obtain ⟨T', X', e', k⟩ := getS (host := "") X hx hZ hown wd Via.refl eT F (g := mkF m pc Ls st) rfl hd
  exact (r T' X' e').go k
/-! new -/
theorem g_new {own C : String} {index n : Nat} (X : Stand p l e R s m args below meth c T locs cells slots) (hx : p.tables.exec = Jvm.exec) (hZ : Z.Warmed39 s.vm) (hown : s.vm.findClass own = some m.cls) (w1 : (Jvm.Cond.classLink own index C).before a0 Z = true) (w2 : (Jvm.Cond.instantiable C n).before a0 Z = true) (w3 : (Jvm.Cond.initialized C).before a0 Z = true) (eT : T.heap = h) (hd : decode c.code pc = .ok (.new index, 3)) (hc : cells + 1 ≤ R.cells) (hl : slots + n ≤ R.slots) (hp : pc + 3 = pc')
    (r : ∀ T' h' a, a = h.size → Stand p l e R s m args below meth c T' locs (cells + 1) (slots + n) → T'.heap = h' → Ext h h' → Exa Z h' a C → (∀ {O nm d : String} {ty : FieldType}, Laid Z a0 C O nm d → parseFieldDescriptor d = some ty → Fld Z h' a O nm d (defaultValue ty)) → WGo p e below s kc ks Q T' (mkF m pc' Ls (.ref a :: st))) : WGo p e below s kc ks Q T (mkF m pc Ls st) := by
  subst hp
  obtain ⟨T', h', X', e', E, A, D, -, k⟩ := newO X hx hZ hown w1 w2 w3 eT (g := mkF m pc Ls st) rfl hd hc hl
  exact (r T' h' _ rfl X' e' E A D).go k
/-- a step that a law of the library hands out whole -/
theorem g_move {g g' : JFrame} (k : ∃ T', Stand p l e R s m args below meth c T' locs cells slots ∧ T'.heap = h ∧ ∀ target, Steps p.tables e below (T'.setTop g') target → Steps p.tables e below (T.setTop g) target) (r : ∀ T', Stand p l e R s m args below meth c T' locs cells slots → T'.heap = h → WGo p e below s kc ks Q T' g') : WGo p e below s kc ks Q T g := by
  obtain ⟨T', X', e', k⟩ := k
  exact (r T' X' e').go k
/-! calls by contract -/
theorem g_init {own : String} {index : Nat} {yy : MethodName} {bytes : ByteArray} {maxL : Nat} {rm : Room} {a : Addr} {argsL as' : List Value} {Q' : Option Value → Heap → List Loc → Prop} {W : Nat} (X : Stand p l e R s m args below meth c T locs cells slots) (hx : p.tables.exec = Jvm.exec) (hZ : Z.Warmed39 s.vm) (hown : s.vm.findClass own = some m.cls) (hy1 : yy.name = "<init>") (w1 : (Jvm.Cond.methodLink own index yy).before a0 Z = true) (w2 : (Jvm.Cond.instanceMethod yy).before a0 Z = true) (w3 : (Jvm.Cond.code yy bytes maxL none).before a0 Z = true) (w4 : (Jvm.Cond.initialized yy.cls).before a0 Z = true)
    (hy : yy.cls ≠ "java/lang/invoke/MethodHandle" ∧ yy.cls ≠ "java/lang/invoke/VarHandle") (ct : WCt l Z yy bytes maxL none rm (.ref a :: argsL).toArray h Q') (eT : T.heap = h) (hf : rm.frames + 1 ≤ R.frames) (hl : W + (maxL + 11) + rm.locals ≤ R.locals) (hc : cells + rm.cells ≤ R.cells) (hs : slots + rm.slots ≤ R.slots) (hlen : ∀ sig, parseMethodDescriptor yy.desc = some sig → argsL.length = sig.parameters.length) (hsize : Ls.size = c.maxLocals) (has : as' = argsL.reverse ++ .ref a :: st) (hW : 2 * 0 + (st.map fun v => v.category).sum ≤ W) (hd : decode c.code pc = .ok (.invokespecial index, 3)) (hp : pc + 3 = pc')
    (r : ∀ T' h' v L, Stand p l e R s m args below meth c T' (locs ++ L) (cells + rm.cells) (slots + rm.slots) → T'.heap = h' → Q' v h' L → WGo p e below s kc ks Q T' (mkF m pc' Ls (v.toList ++ st))) : WGo p e below s kc ks Q T (mkF m pc Ls as') := by
  subst hp has
  obtain ⟨v, _, ⟨T', L, k1, k2⟩, -, X', ⟨Lc, hQ, l1, y1, z1⟩, k⟩ := X.specialBack hx (y := yy) hy1 hown (mvT hZ w1) (mvT hZ w2) (mvT hZ w3) hy (backOf (W := W) (ct []) hZ w3 w4 hf hl) (g := mkF m pc Ls (argsL.reverse ++ .ref a :: st)) rfl hsize (Steps.refl _) (a := a) (argsL := argsL) (rest := st) hlen rfl hW hd (fun _ _ => ⟨rfl, eT, hc, hs⟩)
  dsimp only [Pt.U, Pt.locs, Pt.cells, Pt.slots] at X' l1 y1 z1 k hQ
  subst l1 y1 z1
  exact (r T' _ v Lc X' rfl hQ).go fun t q => k.trans q
theorem g_virt {own C : String} {index : Nat} {yy zz : MethodName} {bytes : ByteArray} {maxL : Nat} {ret : Option FieldType} {rm : Room} {a : Addr} {argsL as' : List Value} {Q' : Option Value → Heap → List Loc → Prop} {W : Nat} (X : Stand p l e R s m args below meth c T locs cells slots) (hx : p.tables.exec = Jvm.exec) (hZ : Z.Warmed39 s.vm) (hown : s.vm.findClass own = some m.cls) (w1 : (Jvm.Cond.methodLink own index yy).before a0 Z = true) (w2 : (Jvm.Cond.declares yy).before a0 Z = true) (nf : NotFace s yy) (w3 : (Jvm.Cond.selects C yy zz).before a0 Z = true) (w4 : (Jvm.Cond.instanceMethod zz).before a0 Z = true) (w5 : (Jvm.Cond.code zz bytes maxL ret).before a0 Z = true) (w6 : (Jvm.Cond.initialized zz.cls).before a0 Z = true)
    (hy : yy.cls ≠ "java/lang/invoke/MethodHandle" ∧ yy.cls ≠ "java/lang/invoke/VarHandle") (E : Exa Z h a C) (ct : WCt l Z zz bytes maxL ret rm (.ref a :: argsL).toArray h Q') (eT : T.heap = h) (hf : rm.frames + 1 ≤ R.frames) (hl : W + (maxL + 11) + rm.locals ≤ R.locals) (hc : cells + rm.cells ≤ R.cells) (hs : slots + rm.slots ≤ R.slots) (hlen : ∀ sig, parseMethodDescriptor yy.desc = some sig → argsL.length = sig.parameters.length) (hsize : Ls.size = c.maxLocals) (has : as' = argsL.reverse ++ .ref a :: st) (hW : 2 * 0 + (st.map fun v => v.category).sum ≤ W) (hd : decode c.code pc = .ok (.invokevirtual index, 3)) (hp : pc + 3 = pc')
    (r : ∀ T' h' v L, Stand p l e R s m args below meth c T' (locs ++ L) (cells + rm.cells) (slots + rm.slots) → T'.heap = h' → Q' v h' L → WGo p e below s kc ks Q T' (mkF m pc' Ls (v.toList ++ st))) : WGo p e below s kc ks Q T (mkF m pc Ls as') := by
  subst hp has
  obtain ⟨cq, kq, qa, -, qc⟩ := isOf hZ eT E
  obtain ⟨v, _, ⟨T', L, k1, k2⟩, -, X', ⟨Lc, hQ, l1, y1, z1⟩, k⟩ := X.virtualBack hx (y := yy) (z := zz) hown (mvT hZ w1) (mvT hZ w2) nf (mvT hZ w3) (mvT hZ w4) hy (backOf (W := W) (ct []) hZ w5 w6 hf hl) qa qc (g := mkF m pc Ls (argsL.reverse ++ .ref a :: st)) rfl hsize (Steps.refl _) (argsL := argsL) (rest := st) hlen rfl hW hd (fun _ _ => ⟨rfl, eT, hc, hs⟩)
  dsimp only [Pt.U, Pt.locs, Pt.cells, Pt.slots] at X' l1 y1 z1 k hQ
  subst l1 y1 z1
  exact (r T' _ v Lc X' rfl hQ).go fun t q => k.trans q
theorem g_stat {own : String} {index : Nat} {yy : MethodName} {bytes : ByteArray} {maxL : Nat} {ret : Option FieldType} {rm : Room} {argsL as' : List Value} {Q' : Option Value → Heap → List Loc → Prop} {W : Nat} (X : Stand p l e R s m args below meth c T locs cells slots) (hx : p.tables.exec = Jvm.exec) (hZ : Z.Warmed39 s.vm) (hown : s.vm.findClass own = some m.cls) (w1 : (Jvm.Cond.methodLink own index yy).before a0 Z = true) (w2 : (Jvm.Cond.static yy).before a0 Z = true) (w3 : (Jvm.Cond.initialized yy.cls).before a0 Z = true) (w4 : (Jvm.Cond.code yy bytes maxL ret).before a0 Z = true)
    (hy : yy.cls ≠ "java/lang/invoke/MethodHandle" ∧ yy.cls ≠ "java/lang/invoke/VarHandle") (ct : WCt l Z yy bytes maxL ret rm argsL.toArray h Q') (eT : T.heap = h) (hf : rm.frames + 1 ≤ R.frames) (hl : W + (maxL + 11) + rm.locals ≤ R.locals) (hc : cells + rm.cells ≤ R.cells) (hs : slots + rm.slots ≤ R.slots) (hlen : ∀ sig, parseMethodDescriptor yy.desc = some sig → argsL.length = sig.parameters.length) (hsize : Ls.size = c.maxLocals) (has : as' = argsL.reverse ++ st) (hW : 2 * 0 + (st.map fun v => v.category).sum ≤ W) (hd : decode c.code pc = .ok (.invokestatic index, 3)) (hp : pc + 3 = pc')
    (r : ∀ T' h' v L, Stand p l e R s m args below meth c T' (locs ++ L) (cells + rm.cells) (slots + rm.slots) → T'.heap = h' → Q' v h' L → WGo p e below s kc ks Q T' (mkF m pc' Ls (v.toList ++ st))) : WGo p e below s kc ks Q T (mkF m pc Ls as') := by
  subst hp has
  obtain ⟨v, _, ⟨T', L, k1, k2⟩, -, X', ⟨Lc, hQ, l1, y1, z1⟩, k⟩ := Jvm.LawKit.callS X hx (y := yy) hown (mvT hZ w1) (mvT hZ w2) (mvT hZ w3) (mvT hZ w4) hy (backOf (W := W) (ct []) hZ w4 w3 hf hl) (g := mkF m pc Ls (argsL.reverse ++ st)) rfl hsize (argsL := argsL) (rest := st) hlen rfl hW hd (fun _ _ => ⟨rfl, eT, hc, hs⟩)
  dsimp only [Pt.U, Pt.locs, Pt.cells, Pt.slots] at X' l1 y1 z1 k hQ
  subst l1 y1 z1
  exact (r T' _ v Lc X' rfl hQ).go fun t q => k t q
theorem own_selp {yy : MethodName} {n : Nat} (hins : (Jvm.Cond.instantiable yy.cls n).before args s = true) (hpriv : (Jvm.Cond.privateMethod yy).before args s = true) (hinst : (Jvm.Cond.instanceMethod yy).before args s = true) (hy : yy.cls ≠ "java/lang/invoke/MethodHandle" ∧ yy.cls ≠ "java/lang/invoke/VarHandle") :
    (Jvm.Cond.selects yy.cls yy yy).before args s = true := by
  obtain ⟨c, k, hc, hk, -, hniab, -, -⟩ := Cond.instantiable_spec hins
  have hni : k.isInterface = false := (Bool.or_eq_false_iff.mp hniab).1
  obtain ⟨mk, methM, hnamed, hmethM, -, -⟩ := Cond.instanceMethod_spec hinst
  have hfound : s.methodFound? yy.cls yy.name yy.desc = some mk := State.methodFound?_of_named hnamed hy
  have hcls : mk.cls = c := Option.some.inj ((findClass_of_methodNamed hnamed).symm.trans hc)
  have hsel : selectMethod {} s.vm c mk = .method mk := selectMethod_private hmethM (Cond.privateMethod_at hpriv mk methM hnamed hmethM)
  simp only [Cond.before, Cond.holds, Cond.value, hc, hfound, hnamed, hsel, hcls, hk]
  simp; exact hni
theorem g_priv {own C : String} {index kk : Nat} {yy : MethodName} {bytes : ByteArray} {maxL : Nat} {ret : Option FieldType} {rm : Room} {a : Addr} {argsL as' : List Value} {Q' : Option Value → Heap → List Loc → Prop} {W : Nat} (X : Stand p l e R s m args below meth c T locs cells slots) (hx : p.tables.exec = Jvm.exec) (hZ : Z.Warmed39 s.vm) (hown : s.vm.findClass own = some m.cls) (w1 : (Jvm.Cond.methodLink own index yy).before a0 Z = true) (w2 : (Jvm.Cond.instanceMethod yy).before a0 Z = true) (w3 : (Jvm.Cond.privateMethod yy).before a0 Z = true) (w4 : (Jvm.Cond.code yy bytes maxL ret).before a0 Z = true) (w5 : (Jvm.Cond.initialized yy.cls).before a0 Z = true) (w6 : (Jvm.Cond.instantiable yy.cls kk).before a0 Z = true)
    (hy : yy.cls ≠ "java/lang/invoke/MethodHandle" ∧ yy.cls ≠ "java/lang/invoke/VarHandle") (E : Exa Z h a C) (ct : WCt l Z yy bytes maxL ret rm (.ref a :: argsL).toArray h Q') (eT : T.heap = h) (hf : rm.frames + 1 ≤ R.frames) (hl : W + (maxL + 11) + rm.locals ≤ R.locals) (hc : cells + rm.cells ≤ R.cells) (hs : slots + rm.slots ≤ R.slots) (hlen : ∀ sig, parseMethodDescriptor yy.desc = some sig → argsL.length = sig.parameters.length) (hsize : Ls.size = c.maxLocals) (has : as' = argsL.reverse ++ .ref a :: st) (hW : 2 * 0 + (st.map fun v => v.category).sum ≤ W) (hd : decode c.code pc = .ok (.invokevirtual index, 3)) (hp : pc + 3 = pc')
    (r : ∀ T' h' v L, Stand p l e R s m args below meth c T' (locs ++ L) (cells + rm.cells) (slots + rm.slots) → T'.heap = h' → Q' v h' L → WGo p e below s kc ks Q T' (mkF m pc' Ls (v.toList ++ st))) : WGo p e below s kc ks Q T (mkF m pc Ls as') := by
  subst hp has
  obtain ⟨cq, qa, qb⟩ := E.cell
  obtain ⟨v, _, ⟨T', L, k1, k2⟩, -, X', ⟨Lc, hQ, l1, y1, z1⟩, k⟩ := X.privateBack hx (y := yy) hown (mvT hZ w1) (mvT hZ w2) (own_selp (mvT hZ w6) (mvP hZ w3) (mvT hZ w2) hy) (Cond.privateMethod_at (mvP hZ w3 (args := #[]))) (mvT hZ w4) hy (backOf (W := W) (ct []) hZ w4 w5 hf hl) (g := mkF m pc Ls (argsL.reverse ++ .ref a :: st)) rfl hsize (Steps.refl _) (a := a) (by rw [eT]; exact qa) qb (argsL := argsL) (rest := st) hlen rfl hW hd (fun _ _ => ⟨rfl, eT, hc, hs⟩)
  dsimp only [Pt.U, Pt.locs, Pt.cells, Pt.slots] at X' l1 y1 z1 k hQ
  subst l1 y1 z1
  exact (r T' _ v Lc X' rfl hQ).go fun t q => k.trans q
/-! arrays: the place i holds f i -/
def Ai (Z : State) (h : Heap) (a : Addr) (ty : FieldType) (n : Nat) (f : Nat → Value) : Prop := ∃ cl : Cell, Arr Z h a cl ty ∧ cl.slots.size = n ∧ n < 2 ^ 31 ∧ ∀ i, i < n → cl.slots[i]? = some (f i)
def upd (f : Nat → Value) (i : Nat) (v : Value) : Nat → Value := fun j => if j = i then v else f j
theorem upd_at (f : Nat → Value) (i : Nat) (v : Value) : upd f i v i = v := by simp [upd]
theorem upd_ne (f : Nat → Value) {i j : Nat} (v : Value) (q : j ≠ i) : upd f i v j = f j := by simp [upd, q]
theorem Ai.lt {a : Addr} {ty : FieldType} {n : Nat} {f : Nat → Value} (A : Ai Z h a ty n f) : a < h.size := by obtain ⟨_, A, -⟩ := A; exact A.lt
theorem Ai.ext {h' : Heap} {a : Addr} {ty : FieldType} {n : Nat} {f : Nat → Value} (A : Ai Z h a ty n f) (E : Ext h h') : Ai Z h' a ty n f := by obtain ⟨cl, A, r⟩ := A; exact ⟨cl, A.ext E, r⟩
theorem Ai.other {h' : Heap} {a b : Addr} {ty : FieldType} {n sl : Nat} {v : Value} {f : Nat → Value} (A : Ai Z h b ty n f) (W : Wr h h' a sl v) (q : b ≠ a) : Ai Z h' b ty n f := by obtain ⟨cl, A, r⟩ := A; exact ⟨cl, A.other W q, r⟩
theorem Ai.keep {h' : Heap} {a : Addr} {ty : FieldType} {n : Nat} {f : Nat → Value} {ws : List Addr} (A : Ai Z h a ty n f) (K : Keep h h' ws) (q : a ∉ ws) : Ai Z h' a ty n f := by obtain ⟨cl, A, r⟩ := A; exact ⟨cl, ⟨K.2.1 a cl A.1 q, A.2⟩, r⟩
theorem Ai.set {h' : Heap} {a : Addr} {ty : FieldType} {n : Nat} {f : Nat → Value} {i : Nat} {v : Value} (A : Ai Z h a ty n f) (W : Wr h h' a i v) : Ai Z h' a ty n (upd f i v) := by
  obtain ⟨cl, A, S, B, H⟩ := A
  refine ⟨_, A.same W, by rw [sz_set]; exact S, B, fun j hj => ?_⟩
  by_cases q : j = i
  · subst q
    rw [upd_at]
    simp [Cell.setSlot, S, hj]
  · rw [upd_ne f v q]
    show (cl.slots.setIfInBounds i v)[j]? = _
    rw [Array.getElem?_setIfInBounds_ne (Ne.symm q)]
    exact H j hj
theorem Ai.fn {a : Addr} {ty : FieldType} {n : Nat} {f f' : Nat → Value} (A : Ai Z h a ty n f) (q : ∀ i, i < n → f i = f' i) : Ai Z h a ty n f' := by
  obtain ⟨cl, A, S, B, H⟩ := A
  exact ⟨cl, A, S, B, fun j hj => by rw [← q j hj]; exact H j hj⟩
theorem Ai.inb {cl : Cell} {n : Nat} {j : Int32} (S : cl.slots.size = n) (h0 : ¬ j < 0) (hn : j.toNatClampNeg < n) : ¬ (j < 0 ∨ cl.slots.size ≤ j.toNatClampNeg) := fun q => q.elim h0 fun z => absurd hn (Nat.not_lt.mpr (S ▸ z))
theorem g_newP {aty : ArrayType} {n : Int32} {cap : Nat} (X : Stand p l e R s m args below meth c T locs cells slots) (hx : p.tables.exec = Jvm.exec) (hZ : Z.Warmed39 s.vm) (wd : (Jvm.Cond.arrayClass (newarray.typeOf aty)).before a0 Z = true) (eT : T.heap = h) (hd : decode c.code pc = .ok (.newarray aty, 2)) (hn : ¬ n < 0) (hcap : n.toNatClampNeg ≤ cap) (hb : cap * 8 ≤ 536870912) (hc : cells + 1 ≤ R.cells) (hl : slots + cap ≤ R.slots) (hp : pc + 2 = pc')
    (r : ∀ T' h' a, a = h.size → Stand p l e R s m args below meth c T' locs (cells + 1) (slots + cap) → T'.heap = h' → Ext h h' → Ai Z h' a (newarray.typeOf aty) n.toNatClampNeg (fun _ => defaultValue (newarray.typeOf aty)) → WGo p e below s kc ks Q T' (mkF m pc' Ls (.ref a :: st))) : WGo p e below s kc ks Q T (mkF m pc Ls (.int n :: st)) := by
  subst hp
  obtain ⟨T', h', cA, X', e', E, A, k⟩ := newP X hx hZ wd eT (g := mkF m pc Ls (.int n :: st)) rfl hd rfl hn hcap hb hc hl
  refine (r T' h' _ rfl X' e' E ⟨_, A, sz_new _ _ _, (back32 hn).2, fun i hi => ?_⟩).go k
  simp [newA, hi]
theorem g_len {a : Addr} {ty : FieldType} {n : Nat} {f : Nat → Value} (X : Stand p l e R s m args below meth c T locs cells slots) (hx : p.tables.exec = Jvm.exec) (hZ : Z.Warmed39 s.vm) (eT : T.heap = h) (A : Ai Z h a ty n f) (hd : decode c.code pc = .ok (.arraylength, 1)) (hn : Nat.toInt32 n = x) (hp : pc + 1 = pc') (r : WGo p e below s kc ks Q T (mkF m pc' Ls (.int x :: st))) : WGo p e below s kc ks Q T (mkF m pc Ls (.ref a :: st)) := by
  subst hp
  obtain ⟨cl, A, S, B, H⟩ := A
  rw [← hn, ← S] at r
  exact r.go fun t k => X.arraylength hx (by rw [eT]; exact A.1) (State.isArrayOf_alike hZ.alike A.2.1) (g := mkF m pc Ls (.ref a :: st)) rfl rfl hd t k
theorem g_iaload {a : Addr} {n : Nat} {f : Nat → Value} {j : Int32} {v : Value} (X : Stand p l e R s m args below meth c T locs cells slots) (hx : p.tables.exec = Jvm.exec) (hZ : Z.Warmed39 s.vm) (eT : T.heap = h) (A : Ai Z h a .int n f) (hd : decode c.code pc = .ok (.iaload, 1)) (h0 : ¬ j < 0) (hn : j.toNatClampNeg < n) (hv : f j.toNatClampNeg = v) (hp : pc + 1 = pc') (r : WGo p e below s kc ks Q T (mkF m pc' Ls (v :: st))) : WGo p e below s kc ks Q T (mkF m pc Ls (.int j :: .ref a :: st)) := by
  subst hp hv
  obtain ⟨cl, A, S, B, H⟩ := A
  exact r.go fun t k => X.iaload hx (by rw [eT]; exact A.1) (State.isArrayOf_alike hZ.alike A.2.1) A.2.2 (Ai.inb S h0 hn) (H _ hn) (g := mkF m pc Ls (.int j :: .ref a :: st)) rfl rfl hd t k
theorem g_laload {a : Addr} {n : Nat} {f : Nat → Value} {j : Int32} {v : Value} (X : Stand p l e R s m args below meth c T locs cells slots) (hx : p.tables.exec = Jvm.exec) (hZ : Z.Warmed39 s.vm) (eT : T.heap = h) (A : Ai Z h a .long n f) (hd : decode c.code pc = .ok (.laload, 1)) (h0 : ¬ j < 0) (hn : j.toNatClampNeg < n) (hv : f j.toNatClampNeg = v) (hp : pc + 1 = pc') (r : WGo p e below s kc ks Q T (mkF m pc' Ls (v :: st))) : WGo p e below s kc ks Q T (mkF m pc Ls (.int j :: .ref a :: st)) := by
  subst hp hv
  obtain ⟨cl, A, S, B, H⟩ := A
  exact r.go fun t k => X.laload hx (by rw [eT]; exact A.1) (State.isArrayOf_alike hZ.alike A.2.1) A.2.2 (Ai.inb S h0 hn) (H _ hn) (g := mkF m pc Ls (.int j :: .ref a :: st)) rfl rfl hd t k
theorem g_baloadB {a : Addr} {n : Nat} {f : Nat → Value} {j : Int32} {v : Value} (X : Stand p l e R s m args below meth c T locs cells slots) (hx : p.tables.exec = Jvm.exec) (hZ : Z.Warmed39 s.vm) (eT : T.heap = h) (A : Ai Z h a .byte n f) (hd : decode c.code pc = .ok (.baload, 1)) (h0 : ¬ j < 0) (hn : j.toNatClampNeg < n) (hv : f j.toNatClampNeg = v) (hp : pc + 1 = pc') (r : WGo p e below s kc ks Q T (mkF m pc' Ls (v :: st))) : WGo p e below s kc ks Q T (mkF m pc Ls (.int j :: .ref a :: st)) := by
  subst hp hv
  obtain ⟨cl, A, S, B, H⟩ := A
  exact r.go fun t k => X.baloadBytes hx (by rw [eT]; exact A.1) (State.isArrayOf_alike hZ.alike A.2.1) A.2.2 (Ai.inb S h0 hn) (H _ hn) (g := mkF m pc Ls (.int j :: .ref a :: st)) rfl rfl hd t k
theorem g_baloadZ {a : Addr} {n : Nat} {f : Nat → Value} {j : Int32} {v : Value} (X : Stand p l e R s m args below meth c T locs cells slots) (hx : p.tables.exec = Jvm.exec) (hZ : Z.Warmed39 s.vm) (eT : T.heap = h) (A : Ai Z h a .boolean n f) (hd : decode c.code pc = .ok (.baload, 1)) (h0 : ¬ j < 0) (hn : j.toNatClampNeg < n) (hv : f j.toNatClampNeg = v) (hp : pc + 1 = pc') (r : WGo p e below s kc ks Q T (mkF m pc' Ls (v :: st))) : WGo p e below s kc ks Q T (mkF m pc Ls (.int j :: .ref a :: st)) := by
  subst hp hv
  obtain ⟨cl, A, S, B, H⟩ := A
  exact r.go fun t k => X.baloadBooleans hx (by rw [eT]; exact A.1) (State.isArrayOf_alike hZ.alike A.2.1) A.2.2 (Ai.inb S h0 hn) (H _ hn) (g := mkF m pc Ls (.int j :: .ref a :: st)) rfl rfl hd t k
theorem g_aaload {a : Addr} {ty : FieldType} {n : Nat} {f : Nat → Value} {j : Int32} {v : Value} (X : Stand p l e R s m args below meth c T locs cells slots) (hx : p.tables.exec = Jvm.exec) (hZ : Z.Warmed39 s.vm) (eT : T.heap = h) (hty : ty.isReference = true) (A : Ai Z h a ty n f) (hd : decode c.code pc = .ok (.aaload, 1)) (h0 : ¬ j < 0) (hn : j.toNatClampNeg < n) (hv : f j.toNatClampNeg = v) (hp : pc + 1 = pc') (r : WGo p e below s kc ks Q T (mkF m pc' Ls (v :: st))) : WGo p e below s kc ks Q T (mkF m pc Ls (.int j :: .ref a :: st)) := by
  subst hp hv
  obtain ⟨cl, A, S, B, H⟩ := A
  exact r.go fun t k => X.aaload hx (by rw [eT]; exact A.1) (State.isArrayOf_alike hZ.alike A.2.1) hty A.2.2 (Ai.inb S h0 hn) (H _ hn) (g := mkF m pc Ls (.int j :: .ref a :: st)) rfl rfl hd t k
theorem g_iastore {a : Addr} {n : Nat} {f : Nat → Value} {j : Int32} (X : Stand p l e R s m args below meth c T locs cells slots) (hx : p.tables.exec = Jvm.exec) (hZ : Z.Warmed39 s.vm) (eT : T.heap = h) (A : Ai Z h a .int n f) (hd : decode c.code pc = .ok (.iastore, 1)) (h0 : ¬ j < 0) (hn : j.toNatClampNeg < n) (hp : pc + 1 = pc')
    (r : ∀ T' h', Stand p l e R s m args below meth c T' (locs ++ [⟨a, j.toNatClampNeg⟩]) cells slots → T'.heap = h' → Wr h h' a j.toNatClampNeg (.int x) → Ai Z h' a .int n (upd f j.toNatClampNeg (.int x)) → WGo p e below s kc ks Q T' (mkF m pc' Ls st)) : WGo p e below s kc ks Q T (mkF m pc Ls (.int x :: .int j :: .ref a :: st)) := by
  subst hp
  have A0 := A
  obtain ⟨cl, A, S, B, H⟩ := A
  obtain ⟨T', h', X', e', W, k⟩ := stI X hx hZ eT A (Ai.inb S h0 hn) (g := mkF m pc Ls (.int x :: .int j :: .ref a :: st)) rfl rfl hd
  exact (r T' h' X' e' W (A0.set W)).go k
theorem g_lastore {a : Addr} {n : Nat} {f : Nat → Value} {j : Int32} (X : Stand p l e R s m args below meth c T locs cells slots) (hx : p.tables.exec = Jvm.exec) (hZ : Z.Warmed39 s.vm) (eT : T.heap = h) (A : Ai Z h a .long n f) (hd : decode c.code pc = .ok (.lastore, 1)) (h0 : ¬ j < 0) (hn : j.toNatClampNeg < n) (hp : pc + 1 = pc')
    (r : ∀ T' h', Stand p l e R s m args below meth c T' (locs ++ [⟨a, j.toNatClampNeg⟩]) cells slots → T'.heap = h' → Wr h h' a j.toNatClampNeg (.long u) → Ai Z h' a .long n (upd f j.toNatClampNeg (.long u)) → WGo p e below s kc ks Q T' (mkF m pc' Ls st)) : WGo p e below s kc ks Q T (mkF m pc Ls (.long u :: .int j :: .ref a :: st)) := by
  subst hp
  have A0 := A
  obtain ⟨cl, A, S, B, H⟩ := A
  obtain ⟨T', h', X', e', W, k⟩ := stJ X hx hZ eT A (Ai.inb S h0 hn) (g := mkF m pc Ls (.long u :: .int j :: .ref a :: st)) rfl rfl hd
  exact (r T' h' X' e' W (A0.set W)).go k
theorem g_bastoreB {a : Addr} {n : Nat} {f : Nat → Value} {j : Int32} (X : Stand p l e R s m args below meth c T locs cells slots) (hx : p.tables.exec = Jvm.exec) (hZ : Z.Warmed39 s.vm) (eT : T.heap = h) (A : Ai Z h a .byte n f) (hd : decode c.code pc = .ok (.bastore, 1)) (h0 : ¬ j < 0) (hn : j.toNatClampNeg < n) (hp : pc + 1 = pc')
    (r : ∀ T' h', Stand p l e R s m args below meth c T' (locs ++ [⟨a, j.toNatClampNeg⟩]) cells slots → T'.heap = h' → Wr h h' a j.toNatClampNeg (.int (nar .byte x)) → Ai Z h' a .byte n (upd f j.toNatClampNeg (.int (nar .byte x))) → WGo p e below s kc ks Q T' (mkF m pc' Ls st)) : WGo p e below s kc ks Q T (mkF m pc Ls (.int x :: .int j :: .ref a :: st)) := by
  subst hp
  have A0 := A
  obtain ⟨cl, A, S, B, H⟩ := A
  obtain ⟨T', h', X', e', W, k⟩ := stB X hx hZ eT A (Ai.inb S h0 hn) (g := mkF m pc Ls (.int x :: .int j :: .ref a :: st)) rfl rfl hd
  exact (r T' h' X' e' W (A0.set W)).go k
theorem g_bastoreZ {a : Addr} {n : Nat} {f : Nat → Value} {j : Int32} (X : Stand p l e R s m args below meth c T locs cells slots) (hx : p.tables.exec = Jvm.exec) (hZ : Z.Warmed39 s.vm) (eT : T.heap = h) (A : Ai Z h a .boolean n f) (hd : decode c.code pc = .ok (.bastore, 1)) (h0 : ¬ j < 0) (hn : j.toNatClampNeg < n) (hp : pc + 1 = pc')
    (r : ∀ T' h', Stand p l e R s m args below meth c T' (locs ++ [⟨a, j.toNatClampNeg⟩]) cells slots → T'.heap = h' → Wr h h' a j.toNatClampNeg (.int (nar .boolean x)) → Ai Z h' a .boolean n (upd f j.toNatClampNeg (.int (nar .boolean x))) → WGo p e below s kc ks Q T' (mkF m pc' Ls st)) : WGo p e below s kc ks Q T (mkF m pc Ls (.int x :: .int j :: .ref a :: st)) := by
  subst hp
  have A0 := A
  obtain ⟨cl, A, S, B, H⟩ := A
  obtain ⟨T', h', X', e', W, k⟩ := stZ X hx hZ eT A (Ai.inb S h0 hn) (g := mkF m pc Ls (.int x :: .int j :: .ref a :: st)) rfl rfl hd
  exact (r T' h' X' e' W (A0.set W)).go k
theorem g_aastore {a : Addr} {ty : FieldType} {v : Value} {n : Nat} {f : Nat → Value} {j : Int32} (X : Stand p l e R s m args below meth c T locs cells slots) (hx : p.tables.exec = Jvm.exec) (hZ : Z.Warmed39 s.vm) (eT : T.heap = h) (hty : ty.isReference = true) (F : Sto Z h a v) (A : Ai Z h a ty n f) (hd : decode c.code pc = .ok (.aastore, 1)) (h0 : ¬ j < 0) (hn : j.toNatClampNeg < n) (hp : pc + 1 = pc')
    (r : ∀ T' h', Stand p l e R s m args below meth c T' (locs ++ [⟨a, j.toNatClampNeg⟩]) cells slots → T'.heap = h' → Wr h h' a j.toNatClampNeg (v) → Ai Z h' a ty n (upd f j.toNatClampNeg (v)) → WGo p e below s kc ks Q T' (mkF m pc' Ls st)) : WGo p e below s kc ks Q T (mkF m pc Ls (v :: .int j :: .ref a :: st)) := by
  subst hp
  have A0 := A
  obtain ⟨cl, A, S, B, H⟩ := A
  obtain ⟨T', h', X', e', W, k⟩ := stR X hx hZ eT A (Ai.inb S h0 hn) hty F (g := mkF m pc Ls (v :: .int j :: .ref a :: st)) rfl rfl hd
  exact (r T' h' X' e' W (A0.set W)).go k
/-! arrays of ints, bytes, booleans by the list of what they hold; arrays of longs too -/
def Al (Z : State) (h : Heap) (a : Addr) (ty : FieldType) (n : Nat) (L : List Int32) : Prop := L.length = n ∧ Ai Z h a ty n (fun i => .int (L.getD i 0))
def Aj (Z : State) (h : Heap) (a : Addr) (ty : FieldType) (n : Nat) (L : List Int64) : Prop := L.length = n ∧ Ai Z h a ty n (fun i => .long (L.getD i 0))
section Lists
variable {h' : Heap} {a b : Addr} {ty : FieldType} {n sl k : Nat} {v : Value} {L : List Int32} {M : List Int64} {ws : List Addr}
theorem Al.lt (A : Al Z h a ty n L) : a < h.size := A.2.lt
theorem Aj.lt (A : Aj Z h a ty n M) : a < h.size := A.2.lt
theorem Al.ext (A : Al Z h a ty n L) (E : Ext h h') : Al Z h' a ty n L := ⟨A.1, A.2.ext E⟩
theorem Aj.ext (A : Aj Z h a ty n M) (E : Ext h h') : Aj Z h' a ty n M := ⟨A.1, A.2.ext E⟩
theorem Al.other (A : Al Z h b ty n L) (W : Wr h h' a sl v) (q : b ≠ a) : Al Z h' b ty n L := ⟨A.1, A.2.other W q⟩
theorem Aj.other (A : Aj Z h b ty n M) (W : Wr h h' a sl v) (q : b ≠ a) : Aj Z h' b ty n M := ⟨A.1, A.2.other W q⟩
theorem Al.keep (A : Al Z h a ty n L) (K : Keep h h' ws) (q : a ∉ ws) : Al Z h' a ty n L := ⟨A.1, A.2.keep K q⟩
theorem Aj.keep (A : Aj Z h a ty n M) (K : Keep h h' ws) (q : a ∉ ws) : Aj Z h' a ty n M := ⟨A.1, A.2.keep K q⟩
theorem Al.new (A : Ai Z h a ty n (fun _ => .int 0)) : Al Z h a ty n (List.replicate n 0) := ⟨by simp, A.fn fun i hi => by simp [List.getD, hi]⟩
theorem Aj.new (A : Ai Z h a ty n (fun _ => .long 0)) : Aj Z h a ty n (List.replicate n 0) := ⟨by simp, A.fn fun i hi => by simp [List.getD, hi]⟩
theorem Al.set (A : Al Z h a ty n L) (B : Ai Z h' a ty n (upd (fun i => .int (L.getD i 0)) k (.int x))) : Al Z h' a ty n (L.set k x) := ⟨by simp [A.1], B.fn fun i hi => by
  by_cases q : i = k
  · subst q; rw [upd_at]; simp [List.getD, A.1, hi]
  · rw [upd_ne _ _ q]; simp [List.getD, List.getElem?_set_ne (Ne.symm q)]⟩
theorem Aj.set (A : Aj Z h a ty n M) (B : Ai Z h' a ty n (upd (fun i => .long (M.getD i 0)) k (.long u))) : Aj Z h' a ty n (M.set k u) := ⟨by simp [A.1], B.fn fun i hi => by
  by_cases q : i = k
  · subst q; rw [upd_at]; simp [List.getD, A.1, hi]
  · rw [upd_ne _ _ q]; simp [List.getD, List.getElem?_set_ne (Ne.symm q)]⟩
end Lists
/-! instanceof, checkcast -/
theorem g_instY {own K : String} {index : Nat} {a : Addr} (X : Stand p l e R s m args below meth c T locs cells slots) (hx : p.tables.exec = Jvm.exec) (hZ : Z.Warmed39 s.vm) (hown : s.vm.findClass own = some m.cls) (wd : (Jvm.Cond.classLink own index K).before a0 Z = true) (eT : T.heap = h) (F : Ins Z h a K true) (hd : decode c.code pc = .ok (.instanceof index, 3)) (hp : pc + 3 = pc')
    (r : ∀ T', Stand p l e R s m args below meth c T' locs cells slots → T'.heap = h → WGo p e below s kc ks Q T' (mkF m pc' Ls (.int 1 :: st))) : WGo p e below s kc ks Q T (mkF m pc Ls (.ref a :: st)) := by
  subst hp
  obtain ⟨T', X', e', k⟩ := instY X hx hZ hown wd eT F (g := mkF m pc Ls (.ref a :: st)) rfl rfl hd
  exact (r T' X' e').go k
theorem g_instN {own K C : String} {index : Nat} {a : Addr} (X : Stand p l e R s m args below meth c T locs cells slots) (hx : p.tables.exec = Jvm.exec) (hZ : Z.Warmed39 s.vm) (hown : s.vm.findClass own = some m.cls) (wd : (Jvm.Cond.classLink own index K).before a0 Z = true) (eT : T.heap = h) (E : Exa Z h a C) (F : ∃ c t, Z.vm.findClass C = some c ∧ Z.vm.findClass K = some t ∧ Z.vm.assignable c t = false) (hd : decode c.code pc = .ok (.instanceof index, 3)) (hp : pc + 3 = pc')
    (r : ∀ T', Stand p l e R s m args below meth c T' locs cells slots → T'.heap = h → WGo p e below s kc ks Q T' (mkF m pc' Ls (.int 0 :: st))) : WGo p e below s kc ks Q T (mkF m pc Ls (.ref a :: st)) := by
  subst hp
  obtain ⟨T', X', e', k⟩ := instNo X hx hZ hown wd eT E F (g := mkF m pc Ls (.ref a :: st)) rfl rfl hd
  exact (r T' X' e').go k
theorem g_inst0 {index : Nat} (X : Stand p l e R s m args below meth c T locs cells slots) (hx : p.tables.exec = Jvm.exec) (hd : decode c.code pc = .ok (.instanceof index, 3)) (hp : pc + 3 = pc') (r : WGo p e below s kc ks Q T (mkF m pc' Ls (.int 0 :: st))) : WGo p e below s kc ks Q T (mkF m pc Ls (.null :: st)) := by
  subst hp; exact r.go fun t k => X.instanceofNull hx (g := mkF m pc Ls (.null :: st)) rfl rfl hd t k
theorem g_castY {own K : String} {index : Nat} {a : Addr} (X : Stand p l e R s m args below meth c T locs cells slots) (hx : p.tables.exec = Jvm.exec) (hZ : Z.Warmed39 s.vm) (hown : s.vm.findClass own = some m.cls) (wd : (Jvm.Cond.classLink own index K).before a0 Z = true) (eT : T.heap = h) (F : Ins Z h a K true) (hd : decode c.code pc = .ok (.checkcast index, 3)) (hp : pc + 3 = pc')
    (r : ∀ T', Stand p l e R s m args below meth c T' locs cells slots → T'.heap = h → WGo p e below s kc ks Q T' (mkF m pc' Ls (.ref a :: st))) : WGo p e below s kc ks Q T (mkF m pc Ls (.ref a :: st)) := by
  subst hp
  obtain ⟨T', X', e', k⟩ := castY X hx hZ hown wd eT F (g := mkF m pc Ls (.ref a :: st)) rfl rfl hd
  exact (r T' X' e').go k
end OwnKit

theorem pd_0 : parseMethodDescriptor "(III)B" = some ⟨[.int, .int, .int], some .byte⟩ := by decide +kernel
theorem pd_1 : parseMethodDescriptor "([BI)I" = some ⟨[(.array .byte), .int], some .int⟩ := by decide +kernel

def encV (n i k : Int32) : Int32 := nar .byte (if i < k - (1 : Int32) then ((XT.ushr n ((7 : Int32) * i)) &&& (127 : Int32)) ||| (128 : Int32) else (XT.ushr n ((7 : Int32) * i)) &&& (127 : Int32)).toInt8.toInt32
def encB (n i k : Int32) : Int32 := nar .byte (encV n i k)
theorem byte_of {x : Int32} {v : Int} (h : -128 ≤ v ∧ v < 128) (e : (x.toInt - v) % 256 = 0) : (nar .byte (nar .byte x.toInt8.toInt32)).toInt = v := by
  have a := c_i2b x
  have b := c_i2b x.toInt8.toInt32
  have d := c_i2b x.toInt8.toInt32.toInt8.toInt32
  show (x.toInt8.toInt32.toInt8.toInt32.toInt8.toInt32).toInt = v
  omega
theorem enc_hi (n i k : Int32) (h : i < k - (1 : Int32)) : (encB n i k).toInt = ((XT.ushr n ((7 : Int32) * i)) &&& (127 : Int32)).toInt - 128 := by
  have a := c_and (XT.ushr n ((7 : Int32) * i)) 127 (by decide)
  have b := c_or' ((XT.ushr n ((7 : Int32) * i)) &&& (127 : Int32)) 128 7 (by decide) 128 (by decide) (by decide) a.1 (by have := a.2; simp only [Int32.reduceToInt] at this; omega)
  unfold encB encV
  rw [if_pos h]
  simp only [Int32.reduceToInt] at *
  exact byte_of (by omega) (by omega)
theorem enc_lo (n i k : Int32) (h : ¬ i < k - (1 : Int32)) : (encB n i k).toInt = ((XT.ushr n ((7 : Int32) * i)) &&& (127 : Int32)).toInt := by
  have a := c_and (XT.ushr n ((7 : Int32) * i)) 127 (by decide)
  unfold encB encV
  rw [if_neg h]
  simp only [Int32.reduceToInt] at *
  exact byte_of (by omega) (by omega)
theorem enc_neg (n i k : Int32) (h : i < k - (1 : Int32)) : encB n i k < 0 := by
  have a := c_and (XT.ushr n ((7 : Int32) * i)) 127 (by decide)
  have b := enc_hi n i k h
  rw [Int32.lt_iff_toInt_lt]
  simp only [Int32.reduceToInt] at *
  omega
theorem enc_pos (n i k : Int32) (h : ¬ i < k - (1 : Int32)) : ¬ encB n i k < 0 := by
  have a := c_and (XT.ushr n ((7 : Int32) * i)) 127 (by decide)
  have b := enc_lo n i k h
  rw [Int32.lt_iff_toInt_lt]
  simp only [Int32.reduceToInt] at *
  omega
/-- the seven bits -/
theorem enc_bits (n i k : Int32) : ((encB n i k) &&& (127 : Int32)).toInt = (XT.ushr n ((7 : Int32) * i)).toInt % 128 := by
  have a := c_mask (encB n i k) 127 7 (by decide) (by decide)
  have b := c_mask (XT.ushr n ((7 : Int32) * i)) 127 7 (by decide) (by decide)
  simp only [Nat.reducePow, Int.cast_ofNat_Int] at *
  by_cases h : i < k - (1 : Int32)
  · have c := enc_hi n i k h; omega
  · have c := enc_lo n i k h; omega
theorem ush0 (n : Int32) : (XT.ushr n ((7 : Int32) * (0 : Int32))) = n := by
  show (n.toUInt32 >>> (((7 : Int32) * (0 : Int32)) &&& 31).toUInt32).toInt32 = n
  have e : (((7 : Int32) * (0 : Int32)) &&& 31).toUInt32 = 0 := by decide
  rw [e]
  simp
theorem ush1 (n : Int32) (h : 0 ≤ n.toInt) : (XT.ushr n ((7 : Int32) * (1 : Int32))).toInt = n.toInt / 128 := by
  have h1 := c_iushr n ((7 : Int32) * (1 : Int32)) 7 (by decide) (by decide)
  have h2 : XT.ushr n ((7 : Int32) * (1 : Int32)) = (n.toUInt32 >>> (((7 : Int32) * (1 : Int32)) &&& 31).toUInt32).toInt32 := rfl
  have h3 := rng32 n
  rw [h2, h1]
  simp only [Nat.reducePow, Int.cast_ofNat_Int]
  omega
theorem ush2 (n : Int32) (h : 0 ≤ n.toInt) : (XT.ushr n ((7 : Int32) * (2 : Int32))).toInt = n.toInt / 16384 := by
  have h1 := c_iushr n ((7 : Int32) * (2 : Int32)) 14 (by decide) (by decide)
  have h2 : XT.ushr n ((7 : Int32) * (2 : Int32)) = (n.toUInt32 >>> (((7 : Int32) * (2 : Int32)) &&& 31).toUInt32).toInt32 := rfl
  have h3 := rng32 n
  rw [h2, h1]
  simp only [Nat.reducePow, Int.cast_ofNat_Int]
  omega
theorem ush3 (n : Int32) (h : 0 ≤ n.toInt) : (XT.ushr n ((7 : Int32) * (3 : Int32))).toInt = n.toInt / 2097152 := by
  have h1 := c_iushr n ((7 : Int32) * (3 : Int32)) 21 (by decide) (by decide)
  have h2 : XT.ushr n ((7 : Int32) * (3 : Int32)) = (n.toUInt32 >>> (((7 : Int32) * (3 : Int32)) &&& 31).toUInt32).toInt32 := rfl
  have h3 := rng32 n
  rw [h2, h1]
  simp only [Nat.reducePow, Int.cast_ofNat_Int]
  omega
theorem ush4 (n : Int32) (h : 0 ≤ n.toInt) : (XT.ushr n ((7 : Int32) * (4 : Int32))).toInt = n.toInt / 268435456 := by
  have h1 := c_iushr n ((7 : Int32) * (4 : Int32)) 28 (by decide) (by decide)
  have h2 : XT.ushr n ((7 : Int32) * (4 : Int32)) = (n.toUInt32 >>> (((7 : Int32) * (4 : Int32)) &&& 31).toUInt32).toInt32 := rfl
  have h3 := rng32 n
  rw [h2, h1]
  simp only [Nat.reducePow, Int.cast_ofNat_Int]
  omega
theorem stp0 (acc b n : Int32) (hn : 0 ≤ n.toInt) (ha : acc.toInt = 0) (hb : (b &&& (127 : Int32)).toInt = n.toInt % 128) : (acc ||| ((b &&& (127 : Int32)) <<< ((0 : Int32) &&& 31))).toInt = n.toInt % 128 := by
  have s := c_ishl (b &&& (127 : Int32)) (0 : Int32) 0 (by decide)
  have o := c_or acc ((b &&& (127 : Int32)) <<< ((0 : Int32) &&& 31)) 31 (by decide) 2147483648 (by decide)
  have r1 := rng32 ((b &&& (127 : Int32)) <<< ((0 : Int32) &&& 31))
  have r2 := rng32 (acc ||| ((b &&& (127 : Int32)) <<< ((0 : Int32) &&& 31)))
  simp only [Nat.reducePow, Int.cast_ofNat_Int] at *
  have o' := o (by omega) (by omega) (by omega)
  omega
theorem stp1 (acc b n sh : Int32) (hs : sh.toBitVec.toNat % 32 = 7) (hn : 0 ≤ n.toInt) (ha : acc.toInt = n.toInt % 128) (hb : (b &&& (127 : Int32)).toInt = n.toInt / 128 % 128) : (acc ||| ((b &&& (127 : Int32)) <<< (sh &&& 31))).toInt = n.toInt % 16384 := by
  have s := c_ishl (b &&& (127 : Int32)) sh 7 hs
  have o := c_or' acc ((b &&& (127 : Int32)) <<< (sh &&& 31)) 7 (by decide) 128 (by decide)
  have r0 := rng32 n
  have r1 := rng32 ((b &&& (127 : Int32)) <<< (sh &&& 31))
  have r2 := rng32 (acc ||| ((b &&& (127 : Int32)) <<< (sh &&& 31)))
  simp only [Nat.reducePow, Int.cast_ofNat_Int] at *
  have o' := o (by omega) (by omega) (by omega)
  omega
theorem stp2 (acc b n sh : Int32) (hs : sh.toBitVec.toNat % 32 = 14) (hn : 0 ≤ n.toInt) (ha : acc.toInt = n.toInt % 16384) (hb : (b &&& (127 : Int32)).toInt = n.toInt / 16384 % 128) : (acc ||| ((b &&& (127 : Int32)) <<< (sh &&& 31))).toInt = n.toInt % 2097152 := by
  have s := c_ishl (b &&& (127 : Int32)) sh 14 hs
  have o := c_or' acc ((b &&& (127 : Int32)) <<< (sh &&& 31)) 14 (by decide) 16384 (by decide)
  have r0 := rng32 n
  have r1 := rng32 ((b &&& (127 : Int32)) <<< (sh &&& 31))
  have r2 := rng32 (acc ||| ((b &&& (127 : Int32)) <<< (sh &&& 31)))
  simp only [Nat.reducePow, Int.cast_ofNat_Int] at *
  have o' := o (by omega) (by omega) (by omega)
  omega
theorem stp3 (acc b n sh : Int32) (hs : sh.toBitVec.toNat % 32 = 21) (hn : 0 ≤ n.toInt) (ha : acc.toInt = n.toInt % 2097152) (hb : (b &&& (127 : Int32)).toInt = n.toInt / 2097152 % 128) : (acc ||| ((b &&& (127 : Int32)) <<< (sh &&& 31))).toInt = n.toInt % 268435456 := by
  have s := c_ishl (b &&& (127 : Int32)) sh 21 hs
  have o := c_or' acc ((b &&& (127 : Int32)) <<< (sh &&& 31)) 21 (by decide) 2097152 (by decide)
  have r0 := rng32 n
  have r1 := rng32 ((b &&& (127 : Int32)) <<< (sh &&& 31))
  have r2 := rng32 (acc ||| ((b &&& (127 : Int32)) <<< (sh &&& 31)))
  simp only [Nat.reducePow, Int.cast_ofNat_Int] at *
  have o' := o (by omega) (by omega) (by omega)
  omega
theorem stp4 (acc b n sh : Int32) (hs : sh.toBitVec.toNat % 32 = 28) (hn : 0 ≤ n.toInt) (ha : acc.toInt = n.toInt % 268435456) (hb : (b &&& (127 : Int32)).toInt = n.toInt / 268435456 % 128) : (acc ||| ((b &&& (127 : Int32)) <<< (sh &&& 31))).toInt = n.toInt % 34359738368 := by
  have s := c_ishl (b &&& (127 : Int32)) sh 28 hs
  have o := c_or' acc ((b &&& (127 : Int32)) <<< (sh &&& 31)) 28 (by decide) 268435456 (by decide)
  have r0 := rng32 n
  have r1 := rng32 ((b &&& (127 : Int32)) <<< (sh &&& 31))
  have r2 := rng32 (acc ||| ((b &&& (127 : Int32)) <<< (sh &&& 31)))
  simp only [Nat.reducePow, Int.cast_ofNat_Int] at *
  have o' := o (by omega) (by omega) (by omega)
  omega
theorem nc (x f : Int32) (i : Nat) (h : x.toInt = f.toInt + (i : Int)) (h0 : 0 ≤ f.toInt) : x.toNatClampNeg = f.toNatClampNeg + i := by
  show Int.toNat _ = Int.toNat _ + i
  have e : Int.toNat x.toInt = Int.toNat f.toInt + i := by omega
  exact e
theorem up1 (x : Int32) (h0 : 0 ≤ x.toInt) (h : x.toInt ≤ 100) : (x + (1 : Int32)).toInt = x.toInt + 1 := by
  have e := c_iadd x 1
  have r2 := rng32 (x + 1)
  simp only [Int32.reduceToInt] at *
  omega
theorem upn (x k : Int32) (h0 : 0 ≤ x.toInt) (h : x.toInt ≤ 100) (hk : 0 ≤ k.toInt ∧ k.toInt ≤ 100) : (x + k).toInt = x.toInt + k.toInt := by
  have e := c_iadd x k
  have r2 := rng32 (x + k)
  omega
theorem in10 {x f : Int32} {i : Nat} (h : x.toInt = f.toInt + (i : Int)) (h0 : 0 ≤ f.toInt) (h1 : f.toInt + (i : Int) < 10) : ¬ x < 0 ∧ x.toNatClampNeg < 10 := by
  refine ⟨by rw [Int32.lt_iff_toInt_lt]; simp only [Int32.reduceToInt]; omega, ?_⟩
  show Int.toNat _ < 10
  omega
theorem dec1 (n : Int32) (hn : 0 ≤ n.toInt) (h : n.toInt < 128) : ((0 : Int32) ||| (((encB n (0 : Int32) (1 : Int32)) &&& (127 : Int32)) <<< ((0 : Int32) &&& 31))) = n := by
  have b0 := enc_bits n (0 : Int32) (1 : Int32)
  rw [ush0] at b0
  have s0 := stp0 (0 : Int32) _ n hn (by decide) b0
  have r := rng32 n
  rw [← Int32.toInt_inj, s0]
  omega
theorem dec2 (n : Int32) (hn : 0 ≤ n.toInt) (h : n.toInt < 16384) : (((0 : Int32) ||| (((encB n (0 : Int32) (2 : Int32)) &&& (127 : Int32)) <<< ((0 : Int32) &&& 31))) ||| (((encB n (1 : Int32) (2 : Int32)) &&& (127 : Int32)) <<< (((0 : Int32) + (7 : Int32)) &&& 31))) = n := by
  have b0 := enc_bits n (0 : Int32) (2 : Int32)
  rw [ush0] at b0
  have b1 := enc_bits n (1 : Int32) (2 : Int32)
  rw [ush1 n hn] at b1
  have s0 := stp0 (0 : Int32) _ n hn (by decide) b0
  have s1 := stp1 _ _ n ((0 : Int32) + (7 : Int32)) (by decide) hn s0 b1
  have r := rng32 n
  rw [← Int32.toInt_inj, s1]
  omega
theorem dec3 (n : Int32) (hn : 0 ≤ n.toInt) (h : n.toInt < 2097152) : ((((0 : Int32) ||| (((encB n (0 : Int32) (3 : Int32)) &&& (127 : Int32)) <<< ((0 : Int32) &&& 31))) ||| (((encB n (1 : Int32) (3 : Int32)) &&& (127 : Int32)) <<< (((0 : Int32) + (7 : Int32)) &&& 31))) ||| (((encB n (2 : Int32) (3 : Int32)) &&& (127 : Int32)) <<< ((((0 : Int32) + (7 : Int32)) + (7 : Int32)) &&& 31))) = n := by
  have b0 := enc_bits n (0 : Int32) (3 : Int32)
  rw [ush0] at b0
  have b1 := enc_bits n (1 : Int32) (3 : Int32)
  rw [ush1 n hn] at b1
  have b2 := enc_bits n (2 : Int32) (3 : Int32)
  rw [ush2 n hn] at b2
  have s0 := stp0 (0 : Int32) _ n hn (by decide) b0
  have s1 := stp1 _ _ n ((0 : Int32) + (7 : Int32)) (by decide) hn s0 b1
  have s2 := stp2 _ _ n (((0 : Int32) + (7 : Int32)) + (7 : Int32)) (by decide) hn s1 b2
  have r := rng32 n
  rw [← Int32.toInt_inj, s2]
  omega
theorem dec4 (n : Int32) (hn : 0 ≤ n.toInt) (h : n.toInt < 268435456) : (((((0 : Int32) ||| (((encB n (0 : Int32) (4 : Int32)) &&& (127 : Int32)) <<< ((0 : Int32) &&& 31))) ||| (((encB n (1 : Int32) (4 : Int32)) &&& (127 : Int32)) <<< (((0 : Int32) + (7 : Int32)) &&& 31))) ||| (((encB n (2 : Int32) (4 : Int32)) &&& (127 : Int32)) <<< ((((0 : Int32) + (7 : Int32)) + (7 : Int32)) &&& 31))) ||| (((encB n (3 : Int32) (4 : Int32)) &&& (127 : Int32)) <<< (((((0 : Int32) + (7 : Int32)) + (7 : Int32)) + (7 : Int32)) &&& 31))) = n := by
  have b0 := enc_bits n (0 : Int32) (4 : Int32)
  rw [ush0] at b0
  have b1 := enc_bits n (1 : Int32) (4 : Int32)
  rw [ush1 n hn] at b1
  have b2 := enc_bits n (2 : Int32) (4 : Int32)
  rw [ush2 n hn] at b2
  have b3 := enc_bits n (3 : Int32) (4 : Int32)
  rw [ush3 n hn] at b3
  have s0 := stp0 (0 : Int32) _ n hn (by decide) b0
  have s1 := stp1 _ _ n ((0 : Int32) + (7 : Int32)) (by decide) hn s0 b1
  have s2 := stp2 _ _ n (((0 : Int32) + (7 : Int32)) + (7 : Int32)) (by decide) hn s1 b2
  have s3 := stp3 _ _ n ((((0 : Int32) + (7 : Int32)) + (7 : Int32)) + (7 : Int32)) (by decide) hn s2 b3
  have r := rng32 n
  rw [← Int32.toInt_inj, s3]
  omega
theorem dec5 (n : Int32) (hn : 0 ≤ n.toInt) : ((((((0 : Int32) ||| (((encB n (0 : Int32) (5 : Int32)) &&& (127 : Int32)) <<< ((0 : Int32) &&& 31))) ||| (((encB n (1 : Int32) (5 : Int32)) &&& (127 : Int32)) <<< (((0 : Int32) + (7 : Int32)) &&& 31))) ||| (((encB n (2 : Int32) (5 : Int32)) &&& (127 : Int32)) <<< ((((0 : Int32) + (7 : Int32)) + (7 : Int32)) &&& 31))) ||| (((encB n (3 : Int32) (5 : Int32)) &&& (127 : Int32)) <<< (((((0 : Int32) + (7 : Int32)) + (7 : Int32)) + (7 : Int32)) &&& 31))) ||| (((encB n (4 : Int32) (5 : Int32)) &&& (127 : Int32)) <<< ((((((0 : Int32) + (7 : Int32)) + (7 : Int32)) + (7 : Int32)) + (7 : Int32)) &&& 31))) = n := by
  have b0 := enc_bits n (0 : Int32) (5 : Int32)
  rw [ush0] at b0
  have b1 := enc_bits n (1 : Int32) (5 : Int32)
  rw [ush1 n hn] at b1
  have b2 := enc_bits n (2 : Int32) (5 : Int32)
  rw [ush2 n hn] at b2
  have b3 := enc_bits n (3 : Int32) (5 : Int32)
  rw [ush3 n hn] at b3
  have b4 := enc_bits n (4 : Int32) (5 : Int32)
  rw [ush4 n hn] at b4
  have s0 := stp0 (0 : Int32) _ n hn (by decide) b0
  have s1 := stp1 _ _ n ((0 : Int32) + (7 : Int32)) (by decide) hn s0 b1
  have s2 := stp2 _ _ n (((0 : Int32) + (7 : Int32)) + (7 : Int32)) (by decide) hn s1 b2
  have s3 := stp3 _ _ n ((((0 : Int32) + (7 : Int32)) + (7 : Int32)) + (7 : Int32)) (by decide) hn s2 b3
  have s4 := stp4 _ _ n (((((0 : Int32) + (7 : Int32)) + (7 : Int32)) + (7 : Int32)) + (7 : Int32)) (by decide) hn s3 b4
  have r := rng32 n
  rw [← Int32.toInt_inj, s4]
  omega

theorem d1_0 : decode method_2_code 0 = .ok (.iload_n 0, 1) := by decide +kernel
theorem d1_1 : decode method_2_code 1 = .ok (.bipush 7, 2) := by decide +kernel
theorem d1_3 : decode method_2_code 3 = .ok (.iload_n 1, 1) := by decide +kernel
theorem d1_4 : decode method_2_code 4 = .ok (.imul, 1) := by decide +kernel
theorem d1_5 : decode method_2_code 5 = .ok (.iushr, 1) := by decide +kernel
theorem d1_6 : decode method_2_code 6 = .ok (.bipush 127, 2) := by decide +kernel
theorem d1_8 : decode method_2_code 8 = .ok (.iand, 1) := by decide +kernel
theorem d1_9 : decode method_2_code 9 = .ok (.istore_n 3, 1) := by decide +kernel
theorem d1_10 : decode method_2_code 10 = .ok (.iload_n 1, 1) := by decide +kernel
theorem d1_11 : decode method_2_code 11 = .ok (.iload_n 2, 1) := by decide +kernel
theorem d1_12 : decode method_2_code 12 = .ok (.iconst 1, 1) := by decide +kernel
theorem d1_13 : decode method_2_code 13 = .ok (.isub, 1) := by decide +kernel
theorem d1_14 : decode method_2_code 14 = .ok (.if_icmp .ge 11, 3) := by decide +kernel
theorem d1_17 : decode method_2_code 17 = .ok (.iload_n 3, 1) := by decide +kernel
theorem d1_18 : decode method_2_code 18 = .ok (.sipush 128, 3) := by decide +kernel
theorem d1_21 : decode method_2_code 21 = .ok (.ior, 1) := by decide +kernel
theorem d1_22 : decode method_2_code 22 = .ok (.goto 4, 3) := by decide +kernel
theorem d1_25 : decode method_2_code 25 = .ok (.iload_n 3, 1) := by decide +kernel
theorem d1_26 : decode method_2_code 26 = .ok (.i2b, 1) := by decide +kernel
theorem d1_27 : decode method_2_code 27 = .ok (.ireturn, 1) := by decide +kernel
theorem pl_1 : plainFor (⟨"com/example/dwindl/dwindl/io/Leb128GetPinLaw", "enc", "(III)B"⟩ : MethodName) = true := plainFor_of_name (by first | (simp [plainName, overriddenIn]; done) | decide +kernel)
theorem ef_rmE (m : MethodId) (z0 : Int32) (z1 : Int32) (z2 : Int32) : entryFrame m #[(.int z0), (.int z1), (.int z2)] 4 = mkF m 0 #[.val (.int z0), .val (.int z1), .val (.int z2), .unset] [] := by first | (simp [entryFrame, mkF, argsToLocals, Value.category]; done) | rfl
set_option maxRecDepth 65536 in
set_option maxHeartbeats 40000000 in
theorem rmE (l : Launch) (Z : State) (a0 : Array Value) (hw : ∀ d ∈ tables_1, d.before a0 Z = true) (n : Int32) (i : Int32) (k : Int32) (h0 : Heap) (n0 : Nat) (Zn : n0 ≤ h0.size)   :
    WCt l Z (⟨"com/example/dwindl/dwindl/io/Leb128GetPinLaw", "enc", "(III)B"⟩ : MethodName) method_2_code 4 (some .byte) ({ frames := 0, cells := 0, slots := 0, locals := 0 } : Room) #[(.int n), (.int i), (.int k)] h0 (fun vv hh LL => (vv = some (.int (encV n i k))) ∧ (Fr n0 LL) ∧ (hh = h0)) := by
  refine WCt.of pl_1 ?_
  intro p e s m below meth c T hx hby hml hown hnm hret hlk hZ hh0 X eT
  have hown : s.vm.findClass "com/example/dwindl/dwindl/io/Leb128GetPinLaw" = some m.cls := hown
  have hnm : meth.name = "enc" := hnm
  have N := Fr.nil n0
  obtain ⟨h, eh⟩ : ∃ h, h = h0 := ⟨_, rfl⟩
  have K : Keep h0 h [] := by rw [eh]; exact Keep.refl _ _
  refine WGo.cast (ef_rmE m n i k) ?_
  rw [← eh] at eT Zn 
  refine g_iloadN X hx (hb hby d1_0) rfl (pc' := 1) rfl ?_
  refine g_bipush X hx (hb hby d1_1) (x := (7 : Int32)) (by decide) (pc' := 3) rfl ?_
  refine g_iloadN X hx (hb hby d1_3) rfl (pc' := 4) rfl ?_
  refine g_imul X hx (hb hby d1_4) (pc' := 5) rfl ?_
  refine g_iushr X hx (hb hby d1_5) (pc' := 6) rfl ?_
  refine g_bipush X hx (hb hby d1_6) (x := (127 : Int32)) (by decide) (pc' := 8) rfl ?_
  refine g_iand X hx (hb hby d1_8) (pc' := 9) rfl ?_
  refine g_istoreN X hx (hb hby d1_9) (Ls' := #[.val (.int n), .val (.int i), .val (.int k), .val (.int ((XT.ushr n ((7 : Int32) * i)) &&& (127 : Int32)))]) rfl (pc' := 10) rfl ?_
  refine g_iloadN X hx (hb hby d1_10) rfl (pc' := 11) rfl ?_
  refine g_iloadN X hx (hb hby d1_11) rfl (pc' := 12) rfl ?_
  refine g_iconst X hx (hb hby d1_12) (x := (1 : Int32)) (by decide) (pc' := 13) rfl ?_
  refine g_isub X hx (hb hby d1_13) (pc' := 14) rfl ?_
  refine g_icmp X hx (hb hby d1_14) (by decide) (pc' := 25) (by decide) (pc2 := 17) rfl (fun hc => ?_) (fun hc => ?_)
  · replace hc := h_ge1 hc
    have hc14 := hc
    refine g_iloadN X hx (hb hby d1_25) rfl (pc' := 26) rfl ?_
    refine g_i2b X hx (hb hby d1_26) (pc' := 27) rfl ?_
    refine g_retN (t := .byte) X hx hret (by simp) hlk (hb hby d1_27) (by decide) (by decide) ?_
    rw [eT]
    refine ⟨?_, N, eh⟩
    simp [encV, hc14]
  · replace hc := h_ge0 hc
    have hc14 := hc
    refine g_iloadN X hx (hb hby d1_17) rfl (pc' := 18) rfl ?_
    refine g_sipush X hx (hb hby d1_18) (x := (128 : Int32)) (by decide) (pc' := 21) rfl ?_
    refine g_ior X hx (hb hby d1_21) (pc' := 22) rfl ?_
    refine g_goto X hx (hb hby d1_22) (by decide) (pc' := 26) (by decide) ?_
    refine g_i2b X hx (hb hby d1_26) (pc' := 27) rfl ?_
    refine g_retN (t := .byte) X hx hret (by simp) hlk (hb hby d1_27) (by decide) (by decide) ?_
    rw [eT]
    refine ⟨?_, N, eh⟩
    simp [encV, hc14]
theorem d2_0 : decode prog_19_method_3_code 0 = .ok (.iconst 0, 1) := by decide +kernel
theorem d2_1 : decode prog_19_method_3_code 1 = .ok (.istore_n 2, 1) := by decide +kernel
theorem d2_2 : decode prog_19_method_3_code 2 = .ok (.iconst 0, 1) := by decide +kernel
theorem d2_3 : decode prog_19_method_3_code 3 = .ok (.istore_n 3, 1) := by decide +kernel
theorem d2_4 : decode prog_19_method_3_code 4 = .ok (.iload_n 1, 1) := by decide +kernel
theorem d2_5 : decode prog_19_method_3_code 5 = .ok (.istore 4, 2) := by decide +kernel
theorem d2_7 : decode prog_19_method_3_code 7 = .ok (.aload_n 0, 1) := by decide +kernel
theorem d2_8 : decode prog_19_method_3_code 8 = .ok (.iload 4, 2) := by decide +kernel
theorem d2_10 : decode prog_19_method_3_code 10 = .ok (.baload, 1) := by decide +kernel
theorem d2_11 : decode prog_19_method_3_code 11 = .ok (.istore 5, 2) := by decide +kernel
theorem d2_13 : decode prog_19_method_3_code 13 = .ok (.iload_n 2, 1) := by decide +kernel
theorem d2_14 : decode prog_19_method_3_code 14 = .ok (.iload 5, 2) := by decide +kernel
theorem d2_16 : decode prog_19_method_3_code 16 = .ok (.bipush 127, 2) := by decide +kernel
theorem d2_18 : decode prog_19_method_3_code 18 = .ok (.iand, 1) := by decide +kernel
theorem d2_19 : decode prog_19_method_3_code 19 = .ok (.iload_n 3, 1) := by decide +kernel
theorem d2_20 : decode prog_19_method_3_code 20 = .ok (.ishl, 1) := by decide +kernel
theorem d2_21 : decode prog_19_method_3_code 21 = .ok (.ior, 1) := by decide +kernel
theorem d2_22 : decode prog_19_method_3_code 22 = .ok (.istore_n 2, 1) := by decide +kernel
theorem d2_23 : decode prog_19_method_3_code 23 = .ok (.iload 5, 2) := by decide +kernel
theorem d2_25 : decode prog_19_method_3_code 25 = .ok (.ifCond .lt 5, 3) := by decide +kernel
theorem d2_28 : decode prog_19_method_3_code 28 = .ok (.iload_n 2, 1) := by decide +kernel
theorem d2_29 : decode prog_19_method_3_code 29 = .ok (.ireturn, 1) := by decide +kernel
theorem d2_30 : decode prog_19_method_3_code 30 = .ok (.iinc 3 7, 3) := by decide +kernel
theorem d2_33 : decode prog_19_method_3_code 33 = .ok (.iinc 4 1, 3) := by decide +kernel
theorem d2_36 : decode prog_19_method_3_code 36 = .ok (.goto (-29), 3) := by decide +kernel
theorem pl_2 : plainFor (⟨"com/example/dwindl/dwindl/io/Leb128", "get", "([BI)I"⟩ : MethodName) = true := plainFor_of_name (by first | (simp [plainName, overriddenIn]; done) | decide +kernel)
theorem ef_rmG1 (m : MethodId) (z0 : Addr) (z1 : Int32) : entryFrame m #[(.ref z0), (.int z1)] 6 = mkF m 0 #[.val (.ref z0), .val (.int z1), .unset, .unset, .unset, .unset] [] := by first | (simp [entryFrame, mkF, argsToLocals, Value.category]; done) | rfl
set_option maxRecDepth 65536 in
set_option maxHeartbeats 40000000 in
theorem rmG1 (l : Launch) (Z : State) (a0 : Array Value) (hw : ∀ d ∈ tables_1, d.before a0 Z = true) (r : Addr) (f : Int32) (L : List Int32) (b0 : Int32) (h0 : Heap) (n0 : Nat) (Zn : n0 ≤ h0.size) (A_r : Al Z h0 r .byte 10 L) (hf : 0 ≤ f.toInt ∧ f.toInt + 1 ≤ 10) (hb0 : L.getD (f.toNatClampNeg + 0) 0 = b0) (hp : ¬ b0 < 0) :
    WCt l Z (⟨"com/example/dwindl/dwindl/io/Leb128", "get", "([BI)I"⟩ : MethodName) prog_19_method_3_code 6 (some .int) ({ frames := 0, cells := 0, slots := 0, locals := 0 } : Room) #[(.ref r), (.int f)] h0 (fun vv hh LL => (vv = some (.int ((0 : Int32) ||| ((b0 &&& (127 : Int32)) <<< ((0 : Int32) &&& 31))))) ∧ (Fr n0 LL) ∧ (hh = h0)) := by
  refine WCt.of pl_2 ?_
  intro p e s m below meth c T hx hby hml hown hnm hret hlk hZ hh0 X eT
  have hown : s.vm.findClass "com/example/dwindl/dwindl/io/Leb128" = some m.cls := hown
  have hnm : meth.name = "get" := hnm
  have N := Fr.nil n0
  obtain ⟨h, eh⟩ : ∃ h, h = h0 := ⟨_, rfl⟩
  have K : Keep h0 h [] := by rw [eh]; exact Keep.refl _ _
  refine WGo.cast (ef_rmG1 m r f) ?_
  rw [← eh] at eT Zn A_r
  have y0 : f.toInt = f.toInt + ((0 : Nat) : Int) := by omega
  refine g_iconst X hx (hb hby d2_0) (x := (0 : Int32)) (by decide) (pc' := 1) rfl ?_
  refine g_istoreN X hx (hb hby d2_1) (Ls' := #[.val (.ref r), .val (.int f), .val (.int (0 : Int32)), .unset, .unset, .unset]) rfl (pc' := 2) rfl ?_
  refine g_iconst X hx (hb hby d2_2) (x := (0 : Int32)) (by decide) (pc' := 3) rfl ?_
  refine g_istoreN X hx (hb hby d2_3) (Ls' := #[.val (.ref r), .val (.int f), .val (.int (0 : Int32)), .val (.int (0 : Int32)), .unset, .unset]) rfl (pc' := 4) rfl ?_
  refine g_iloadN X hx (hb hby d2_4) rfl (pc' := 5) rfl ?_
  refine g_istore X hx (hb hby d2_5) (Ls' := #[.val (.ref r), .val (.int f), .val (.int (0 : Int32)), .val (.int (0 : Int32)), .val (.int f), .unset]) rfl (pc' := 7) rfl ?_
  refine g_aloadN X hx (hb hby d2_7) rfl rfl (pc' := 8) rfl ?_
  refine g_iload X hx (hb hby d2_8) rfl (pc' := 10) rfl ?_
  refine g_baloadB X hx hZ eT A_r.2 (hb hby d2_10) (in10 y0 hf.1 (by omega)).1 (in10 y0 hf.1 (by omega)).2 (v := (.int b0)) (congrArg Value.int ((congrArg (fun z => L.getD z 0) (nc _ f 0 y0 hf.1)).trans hb0)) (pc' := 11) rfl ?_
  refine g_istore X hx (hb hby d2_11) (Ls' := #[.val (.ref r), .val (.int f), .val (.int (0 : Int32)), .val (.int (0 : Int32)), .val (.int f), .val (.int b0)]) rfl (pc' := 13) rfl ?_
  refine g_iloadN X hx (hb hby d2_13) rfl (pc' := 14) rfl ?_
  refine g_iload X hx (hb hby d2_14) rfl (pc' := 16) rfl ?_
  refine g_bipush X hx (hb hby d2_16) (x := (127 : Int32)) (by decide) (pc' := 18) rfl ?_
  refine g_iand X hx (hb hby d2_18) (pc' := 19) rfl ?_
  refine g_iloadN X hx (hb hby d2_19) rfl (pc' := 20) rfl ?_
  refine g_ishl X hx (hb hby d2_20) (pc' := 21) rfl ?_
  refine g_ior X hx (hb hby d2_21) (pc' := 22) rfl ?_
  refine g_istoreN X hx (hb hby d2_22) (Ls' := #[.val (.ref r), .val (.int f), .val (.int ((0 : Int32) ||| ((b0 &&& (127 : Int32)) <<< ((0 : Int32) &&& 31)))), .val (.int (0 : Int32)), .val (.int f), .val (.int b0)]) rfl (pc' := 23) rfl ?_
  refine g_iload X hx (hb hby d2_23) rfl (pc' := 25) rfl ?_
  refine g_if X hx (hb hby d2_25) (by decide) (pc' := 30) (by decide) (pc2 := 28) rfl (fun hc => ?_) (fun hc => ?_)
  · replace hc := h_lt1 hc
    have hc25 := hc
    exfalso
    exact hp hc
  · replace hc := h_lt0 hc
    have hc25 := hc
    refine g_iloadN X hx (hb hby d2_28) rfl (pc' := 29) rfl ?_
    refine g_retI X hx hret hlk (hb hby d2_29) (by decide) (by decide) ?_
    rw [eT]
    exact ⟨rfl, N, eh⟩
theorem ef_rmG2 (m : MethodId) (z0 : Addr) (z1 : Int32) : entryFrame m #[(.ref z0), (.int z1)] 6 = mkF m 0 #[.val (.ref z0), .val (.int z1), .unset, .unset, .unset, .unset] [] := by first | (simp [entryFrame, mkF, argsToLocals, Value.category]; done) | rfl
set_option maxRecDepth 65536 in
set_option maxHeartbeats 40000000 in
theorem rmG2 (l : Launch) (Z : State) (a0 : Array Value) (hw : ∀ d ∈ tables_1, d.before a0 Z = true) (r : Addr) (f : Int32) (L : List Int32) (b0 : Int32) (b1 : Int32) (h0 : Heap) (n0 : Nat) (Zn : n0 ≤ h0.size) (A_r : Al Z h0 r .byte 10 L) (hf : 0 ≤ f.toInt ∧ f.toInt + 2 ≤ 10) (hb0 : L.getD (f.toNatClampNeg + 0) 0 = b0) (hb1 : L.getD (f.toNatClampNeg + 1) 0 = b1) (hs0 : b0 < 0) (hp : ¬ b1 < 0) :
    WCt l Z (⟨"com/example/dwindl/dwindl/io/Leb128", "get", "([BI)I"⟩ : MethodName) prog_19_method_3_code 6 (some .int) ({ frames := 0, cells := 0, slots := 0, locals := 0 } : Room) #[(.ref r), (.int f)] h0 (fun vv hh LL => (vv = some (.int (((0 : Int32) ||| ((b0 &&& (127 : Int32)) <<< ((0 : Int32) &&& 31))) ||| ((b1 &&& (127 : Int32)) <<< (((0 : Int32) + (7 : Int32)) &&& 31))))) ∧ (Fr n0 LL) ∧ (hh = h0)) := by
  refine WCt.of pl_2 ?_
  intro p e s m below meth c T hx hby hml hown hnm hret hlk hZ hh0 X eT
  have hown : s.vm.findClass "com/example/dwindl/dwindl/io/Leb128" = some m.cls := hown
  have hnm : meth.name = "get" := hnm
  have N := Fr.nil n0
  obtain ⟨h, eh⟩ : ∃ h, h = h0 := ⟨_, rfl⟩
  have K : Keep h0 h [] := by rw [eh]; exact Keep.refl _ _
  refine WGo.cast (ef_rmG2 m r f) ?_
  rw [← eh] at eT Zn A_r
  have y0 : f.toInt = f.toInt + ((0 : Nat) : Int) := by omega
  have y1 : (f + (1 : Int32)).toInt = f.toInt + ((1 : Nat) : Int) := by have := up1 f (by omega) (by omega); omega
  refine g_iconst X hx (hb hby d2_0) (x := (0 : Int32)) (by decide) (pc' := 1) rfl ?_
  refine g_istoreN X hx (hb hby d2_1) (Ls' := #[.val (.ref r), .val (.int f), .val (.int (0 : Int32)), .unset, .unset, .unset]) rfl (pc' := 2) rfl ?_
  refine g_iconst X hx (hb hby d2_2) (x := (0 : Int32)) (by decide) (pc' := 3) rfl ?_
  refine g_istoreN X hx (hb hby d2_3) (Ls' := #[.val (.ref r), .val (.int f), .val (.int (0 : Int32)), .val (.int (0 : Int32)), .unset, .unset]) rfl (pc' := 4) rfl ?_
  refine g_iloadN X hx (hb hby d2_4) rfl (pc' := 5) rfl ?_
  refine g_istore X hx (hb hby d2_5) (Ls' := #[.val (.ref r), .val (.int f), .val (.int (0 : Int32)), .val (.int (0 : Int32)), .val (.int f), .unset]) rfl (pc' := 7) rfl ?_
  refine g_aloadN X hx (hb hby d2_7) rfl rfl (pc' := 8) rfl ?_
  refine g_iload X hx (hb hby d2_8) rfl (pc' := 10) rfl ?_
  refine g_baloadB X hx hZ eT A_r.2 (hb hby d2_10) (in10 y0 hf.1 (by omega)).1 (in10 y0 hf.1 (by omega)).2 (v := (.int b0)) (congrArg Value.int ((congrArg (fun z => L.getD z 0) (nc _ f 0 y0 hf.1)).trans hb0)) (pc' := 11) rfl ?_
  refine g_istore X hx (hb hby d2_11) (Ls' := #[.val (.ref r), .val (.int f), .val (.int (0 : Int32)), .val (.int (0 : Int32)), .val (.int f), .val (.int b0)]) rfl (pc' := 13) rfl ?_
  refine g_iloadN X hx (hb hby d2_13) rfl (pc' := 14) rfl ?_
  refine g_iload X hx (hb hby d2_14) rfl (pc' := 16) rfl ?_
  refine g_bipush X hx (hb hby d2_16) (x := (127 : Int32)) (by decide) (pc' := 18) rfl ?_
  refine g_iand X hx (hb hby d2_18) (pc' := 19) rfl ?_
  refine g_iloadN X hx (hb hby d2_19) rfl (pc' := 20) rfl ?_
  refine g_ishl X hx (hb hby d2_20) (pc' := 21) rfl ?_
  refine g_ior X hx (hb hby d2_21) (pc' := 22) rfl ?_
  refine g_istoreN X hx (hb hby d2_22) (Ls' := #[.val (.ref r), .val (.int f), .val (.int ((0 : Int32) ||| ((b0 &&& (127 : Int32)) <<< ((0 : Int32) &&& 31)))), .val (.int (0 : Int32)), .val (.int f), .val (.int b0)]) rfl (pc' := 23) rfl ?_
  refine g_iload X hx (hb hby d2_23) rfl (pc' := 25) rfl ?_
  refine g_if X hx (hb hby d2_25) (by decide) (pc' := 30) (by decide) (pc2 := 28) rfl (fun hc => ?_) (fun hc => ?_)
  · replace hc := h_lt1 hc
    have hc25 := hc
    refine g_iinc X hx (hb hby d2_30) rfl (z := (7 : Int32)) (by decide) (Ls' := #[.val (.ref r), .val (.int f), .val (.int ((0 : Int32) ||| ((b0 &&& (127 : Int32)) <<< ((0 : Int32) &&& 31)))), .val (.int (7 : Int32)), .val (.int f), .val (.int b0)]) rfl (pc' := 33) rfl ?_
    refine g_iinc X hx (hb hby d2_33) rfl (z := (f + (1 : Int32))) rfl (Ls' := #[.val (.ref r), .val (.int f), .val (.int ((0 : Int32) ||| ((b0 &&& (127 : Int32)) <<< ((0 : Int32) &&& 31)))), .val (.int (7 : Int32)), .val (.int (f + (1 : Int32))), .val (.int b0)]) rfl (pc' := 36) rfl ?_
    refine g_goto X hx (hb hby d2_36) (by decide) (pc' := 7) (by decide) ?_
    refine g_aloadN X hx (hb hby d2_7) rfl rfl (pc' := 8) rfl ?_
    refine g_iload X hx (hb hby d2_8) rfl (pc' := 10) rfl ?_
    refine g_baloadB X hx hZ eT A_r.2 (hb hby d2_10) (in10 y1 hf.1 (by omega)).1 (in10 y1 hf.1 (by omega)).2 (v := (.int b1)) (congrArg Value.int ((congrArg (fun z => L.getD z 0) (nc _ f 1 y1 hf.1)).trans hb1)) (pc' := 11) rfl ?_
    refine g_istore X hx (hb hby d2_11) (Ls' := #[.val (.ref r), .val (.int f), .val (.int ((0 : Int32) ||| ((b0 &&& (127 : Int32)) <<< ((0 : Int32) &&& 31)))), .val (.int (7 : Int32)), .val (.int (f + (1 : Int32))), .val (.int b1)]) rfl (pc' := 13) rfl ?_
    refine g_iloadN X hx (hb hby d2_13) rfl (pc' := 14) rfl ?_
    refine g_iload X hx (hb hby d2_14) rfl (pc' := 16) rfl ?_
    refine g_bipush X hx (hb hby d2_16) (x := (127 : Int32)) (by decide) (pc' := 18) rfl ?_
    refine g_iand X hx (hb hby d2_18) (pc' := 19) rfl ?_
    refine g_iloadN X hx (hb hby d2_19) rfl (pc' := 20) rfl ?_
    refine g_ishl X hx (hb hby d2_20) (pc' := 21) rfl ?_
    refine g_ior X hx (hb hby d2_21) (pc' := 22) rfl ?_
    refine g_istoreN X hx (hb hby d2_22) (Ls' := #[.val (.ref r), .val (.int f), .val (.int (((0 : Int32) ||| ((b0 &&& (127 : Int32)) <<< ((0 : Int32) &&& 31))) ||| ((b1 &&& (127 : Int32)) <<< ((7 : Int32) &&& 31)))), .val (.int (7 : Int32)), .val (.int (f + (1 : Int32))), .val (.int b1)]) rfl (pc' := 23) rfl ?_
    refine g_iload X hx (hb hby d2_23) rfl (pc' := 25) rfl ?_
    refine g_if X hx (hb hby d2_25) (by decide) (pc' := 30) (by decide) (pc2 := 28) rfl (fun hc => ?_) (fun hc => ?_)
    · replace hc := h_lt1 hc
      have hc25_1 := hc
      exfalso
      exact hp hc
    · replace hc := h_lt0 hc
      have hc25_1 := hc
      refine g_iloadN X hx (hb hby d2_28) rfl (pc' := 29) rfl ?_
      refine g_retI X hx hret hlk (hb hby d2_29) (by decide) (by decide) ?_
      rw [eT]
      exact ⟨rfl, N, eh⟩
  · replace hc := h_lt0 hc
    have hc25 := hc
    exfalso
    exact hc hs0
theorem ef_rmG3 (m : MethodId) (z0 : Addr) (z1 : Int32) : entryFrame m #[(.ref z0), (.int z1)] 6 = mkF m 0 #[.val (.ref z0), .val (.int z1), .unset, .unset, .unset, .unset] [] := by first | (simp [entryFrame, mkF, argsToLocals, Value.category]; done) | rfl
set_option maxRecDepth 65536 in
set_option maxHeartbeats 40000000 in
theorem rmG3 (l : Launch) (Z : State) (a0 : Array Value) (hw : ∀ d ∈ tables_1, d.before a0 Z = true) (r : Addr) (f : Int32) (L : List Int32) (b0 : Int32) (b1 : Int32) (b2 : Int32) (h0 : Heap) (n0 : Nat) (Zn : n0 ≤ h0.size) (A_r : Al Z h0 r .byte 10 L) (hf : 0 ≤ f.toInt ∧ f.toInt + 3 ≤ 10) (hb0 : L.getD (f.toNatClampNeg + 0) 0 = b0) (hb1 : L.getD (f.toNatClampNeg + 1) 0 = b1) (hb2 : L.getD (f.toNatClampNeg + 2) 0 = b2) (hs0 : b0 < 0) (hs1 : b1 < 0) (hp : ¬ b2 < 0) :
    WCt l Z (⟨"com/example/dwindl/dwindl/io/Leb128", "get", "([BI)I"⟩ : MethodName) prog_19_method_3_code 6 (some .int) ({ frames := 0, cells := 0, slots := 0, locals := 0 } : Room) #[(.ref r), (.int f)] h0 (fun vv hh LL => (vv = some (.int ((((0 : Int32) ||| ((b0 &&& (127 : Int32)) <<< ((0 : Int32) &&& 31))) ||| ((b1 &&& (127 : Int32)) <<< (((0 : Int32) + (7 : Int32)) &&& 31))) ||| ((b2 &&& (127 : Int32)) <<< ((((0 : Int32) + (7 : Int32)) + (7 : Int32)) &&& 31))))) ∧ (Fr n0 LL) ∧ (hh = h0)) := by
  refine WCt.of pl_2 ?_
  intro p e s m below meth c T hx hby hml hown hnm hret hlk hZ hh0 X eT
  have hown : s.vm.findClass "com/example/dwindl/dwindl/io/Leb128" = some m.cls := hown
  have hnm : meth.name = "get" := hnm
  have N := Fr.nil n0
  obtain ⟨h, eh⟩ : ∃ h, h = h0 := ⟨_, rfl⟩
  have K : Keep h0 h [] := by rw [eh]; exact Keep.refl _ _
  refine WGo.cast (ef_rmG3 m r f) ?_
  rw [← eh] at eT Zn A_r
  have y0 : f.toInt = f.toInt + ((0 : Nat) : Int) := by omega
  have y1 : (f + (1 : Int32)).toInt = f.toInt + ((1 : Nat) : Int) := by have := up1 f (by omega) (by omega); omega
  have y2 : ((f + (1 : Int32)) + (1 : Int32)).toInt = f.toInt + ((2 : Nat) : Int) := by have := up1 (f + (1 : Int32)) (by omega) (by omega); omega
  refine g_iconst X hx (hb hby d2_0) (x := (0 : Int32)) (by decide) (pc' := 1) rfl ?_
  refine g_istoreN X hx (hb hby d2_1) (Ls' := #[.val (.ref r), .val (.int f), .val (.int (0 : Int32)), .unset, .unset, .unset]) rfl (pc' := 2) rfl ?_
  refine g_iconst X hx (hb hby d2_2) (x := (0 : Int32)) (by decide) (pc' := 3) rfl ?_
  refine g_istoreN X hx (hb hby d2_3) (Ls' := #[.val (.ref r), .val (.int f), .val (.int (0 : Int32)), .val (.int (0 : Int32)), .unset, .unset]) rfl (pc' := 4) rfl ?_
  refine g_iloadN X hx (hb hby d2_4) rfl (pc' := 5) rfl ?_
  refine g_istore X hx (hb hby d2_5) (Ls' := #[.val (.ref r), .val (.int f), .val (.int (0 : Int32)), .val (.int (0 : Int32)), .val (.int f), .unset]) rfl (pc' := 7) rfl ?_
  refine g_aloadN X hx (hb hby d2_7) rfl rfl (pc' := 8) rfl ?_
  refine g_iload X hx (hb hby d2_8) rfl (pc' := 10) rfl ?_
  refine g_baloadB X hx hZ eT A_r.2 (hb hby d2_10) (in10 y0 hf.1 (by omega)).1 (in10 y0 hf.1 (by omega)).2 (v := (.int b0)) (congrArg Value.int ((congrArg (fun z => L.getD z 0) (nc _ f 0 y0 hf.1)).trans hb0)) (pc' := 11) rfl ?_
  refine g_istore X hx (hb hby d2_11) (Ls' := #[.val (.ref r), .val (.int f), .val (.int (0 : Int32)), .val (.int (0 : Int32)), .val (.int f), .val (.int b0)]) rfl (pc' := 13) rfl ?_
  refine g_iloadN X hx (hb hby d2_13) rfl (pc' := 14) rfl ?_
  refine g_iload X hx (hb hby d2_14) rfl (pc' := 16) rfl ?_
  refine g_bipush X hx (hb hby d2_16) (x := (127 : Int32)) (by decide) (pc' := 18) rfl ?_
  refine g_iand X hx (hb hby d2_18) (pc' := 19) rfl ?_
  refine g_iloadN X hx (hb hby d2_19) rfl (pc' := 20) rfl ?_
  refine g_ishl X hx (hb hby d2_20) (pc' := 21) rfl ?_
  refine g_ior X hx (hb hby d2_21) (pc' := 22) rfl ?_
  refine g_istoreN X hx (hb hby d2_22) (Ls' := #[.val (.ref r), .val (.int f), .val (.int ((0 : Int32) ||| ((b0 &&& (127 : Int32)) <<< ((0 : Int32) &&& 31)))), .val (.int (0 : Int32)), .val (.int f), .val (.int b0)]) rfl (pc' := 23) rfl ?_
  refine g_iload X hx (hb hby d2_23) rfl (pc' := 25) rfl ?_
  refine g_if X hx (hb hby d2_25) (by decide) (pc' := 30) (by decide) (pc2 := 28) rfl (fun hc => ?_) (fun hc => ?_)
  · replace hc := h_lt1 hc
    have hc25 := hc
    refine g_iinc X hx (hb hby d2_30) rfl (z := (7 : Int32)) (by decide) (Ls' := #[.val (.ref r), .val (.int f), .val (.int ((0 : Int32) ||| ((b0 &&& (127 : Int32)) <<< ((0 : Int32) &&& 31)))), .val (.int (7 : Int32)), .val (.int f), .val (.int b0)]) rfl (pc' := 33) rfl ?_
    refine g_iinc X hx (hb hby d2_33) rfl (z := (f + (1 : Int32))) rfl (Ls' := #[.val (.ref r), .val (.int f), .val (.int ((0 : Int32) ||| ((b0 &&& (127 : Int32)) <<< ((0 : Int32) &&& 31)))), .val (.int (7 : Int32)), .val (.int (f + (1 : Int32))), .val (.int b0)]) rfl (pc' := 36) rfl ?_
    refine g_goto X hx (hb hby d2_36) (by decide) (pc' := 7) (by decide) ?_
    refine g_aloadN X hx (hb hby d2_7) rfl rfl (pc' := 8) rfl ?_
    refine g_iload X hx (hb hby d2_8) rfl (pc' := 10) rfl ?_
    refine g_baloadB X hx hZ eT A_r.2 (hb hby d2_10) (in10 y1 hf.1 (by omega)).1 (in10 y1 hf.1 (by omega)).2 (v := (.int b1)) (congrArg Value.int ((congrArg (fun z => L.getD z 0) (nc _ f 1 y1 hf.1)).trans hb1)) (pc' := 11) rfl ?_
    refine g_istore X hx (hb hby d2_11) (Ls' := #[.val (.ref r), .val (.int f), .val (.int ((0 : Int32) ||| ((b0 &&& (127 : Int32)) <<< ((0 : Int32) &&& 31)))), .val (.int (7 : Int32)), .val (.int (f + (1 : Int32))), .val (.int b1)]) rfl (pc' := 13) rfl ?_
    refine g_iloadN X hx (hb hby d2_13) rfl (pc' := 14) rfl ?_
    refine g_iload X hx (hb hby d2_14) rfl (pc' := 16) rfl ?_
    refine g_bipush X hx (hb hby d2_16) (x := (127 : Int32)) (by decide) (pc' := 18) rfl ?_
    refine g_iand X hx (hb hby d2_18) (pc' := 19) rfl ?_
    refine g_iloadN X hx (hb hby d2_19) rfl (pc' := 20) rfl ?_
    refine g_ishl X hx (hb hby d2_20) (pc' := 21) rfl ?_
    refine g_ior X hx (hb hby d2_21) (pc' := 22) rfl ?_
    refine g_istoreN X hx (hb hby d2_22) (Ls' := #[.val (.ref r), .val (.int f), .val (.int (((0 : Int32) ||| ((b0 &&& (127 : Int32)) <<< ((0 : Int32) &&& 31))) ||| ((b1 &&& (127 : Int32)) <<< ((7 : Int32) &&& 31)))), .val (.int (7 : Int32)), .val (.int (f + (1 : Int32))), .val (.int b1)]) rfl (pc' := 23) rfl ?_
    refine g_iload X hx (hb hby d2_23) rfl (pc' := 25) rfl ?_
    refine g_if X hx (hb hby d2_25) (by decide) (pc' := 30) (by decide) (pc2 := 28) rfl (fun hc => ?_) (fun hc => ?_)
    · replace hc := h_lt1 hc
      have hc25_1 := hc
      refine g_iinc X hx (hb hby d2_30) rfl (z := (14 : Int32)) (by decide) (Ls' := #[.val (.ref r), .val (.int f), .val (.int (((0 : Int32) ||| ((b0 &&& (127 : Int32)) <<< ((0 : Int32) &&& 31))) ||| ((b1 &&& (127 : Int32)) <<< ((7 : Int32) &&& 31)))), .val (.int (14 : Int32)), .val (.int (f + (1 : Int32))), .val (.int b1)]) rfl (pc' := 33) rfl ?_
      refine g_iinc X hx (hb hby d2_33) rfl (z := ((f + (1 : Int32)) + (1 : Int32))) rfl (Ls' := #[.val (.ref r), .val (.int f), .val (.int (((0 : Int32) ||| ((b0 &&& (127 : Int32)) <<< ((0 : Int32) &&& 31))) ||| ((b1 &&& (127 : Int32)) <<< ((7 : Int32) &&& 31)))), .val (.int (14 : Int32)), .val (.int ((f + (1 : Int32)) + (1 : Int32))), .val (.int b1)]) rfl (pc' := 36) rfl ?_
      refine g_goto X hx (hb hby d2_36) (by decide) (pc' := 7) (by decide) ?_
      refine g_aloadN X hx (hb hby d2_7) rfl rfl (pc' := 8) rfl ?_
      refine g_iload X hx (hb hby d2_8) rfl (pc' := 10) rfl ?_
      refine g_baloadB X hx hZ eT A_r.2 (hb hby d2_10) (in10 y2 hf.1 (by omega)).1 (in10 y2 hf.1 (by omega)).2 (v := (.int b2)) (congrArg Value.int ((congrArg (fun z => L.getD z 0) (nc _ f 2 y2 hf.1)).trans hb2)) (pc' := 11) rfl ?_
      refine g_istore X hx (hb hby d2_11) (Ls' := #[.val (.ref r), .val (.int f), .val (.int (((0 : Int32) ||| ((b0 &&& (127 : Int32)) <<< ((0 : Int32) &&& 31))) ||| ((b1 &&& (127 : Int32)) <<< ((7 : Int32) &&& 31)))), .val (.int (14 : Int32)), .val (.int ((f + (1 : Int32)) + (1 : Int32))), .val (.int b2)]) rfl (pc' := 13) rfl ?_
      refine g_iloadN X hx (hb hby d2_13) rfl (pc' := 14) rfl ?_
      refine g_iload X hx (hb hby d2_14) rfl (pc' := 16) rfl ?_
      refine g_bipush X hx (hb hby d2_16) (x := (127 : Int32)) (by decide) (pc' := 18) rfl ?_
      refine g_iand X hx (hb hby d2_18) (pc' := 19) rfl ?_
      refine g_iloadN X hx (hb hby d2_19) rfl (pc' := 20) rfl ?_
      refine g_ishl X hx (hb hby d2_20) (pc' := 21) rfl ?_
      refine g_ior X hx (hb hby d2_21) (pc' := 22) rfl ?_
      refine g_istoreN X hx (hb hby d2_22) (Ls' := #[.val (.ref r), .val (.int f), .val (.int ((((0 : Int32) ||| ((b0 &&& (127 : Int32)) <<< ((0 : Int32) &&& 31))) ||| ((b1 &&& (127 : Int32)) <<< ((7 : Int32) &&& 31))) ||| ((b2 &&& (127 : Int32)) <<< ((14 : Int32) &&& 31)))), .val (.int (14 : Int32)), .val (.int ((f + (1 : Int32)) + (1 : Int32))), .val (.int b2)]) rfl (pc' := 23) rfl ?_
      refine g_iload X hx (hb hby d2_23) rfl (pc' := 25) rfl ?_
      refine g_if X hx (hb hby d2_25) (by decide) (pc' := 30) (by decide) (pc2 := 28) rfl (fun hc => ?_) (fun hc => ?_)
      · replace hc := h_lt1 hc
        have hc25_2 := hc
        exfalso
        exact hp hc
      · replace hc := h_lt0 hc
        have hc25_2 := hc
        refine g_iloadN X hx (hb hby d2_28) rfl (pc' := 29) rfl ?_
        refine g_retI X hx hret hlk (hb hby d2_29) (by decide) (by decide) ?_
        rw [eT]
        exact ⟨rfl, N, eh⟩
    · replace hc := h_lt0 hc
      have hc25_1 := hc
      exfalso
      exact hc hs1
  · replace hc := h_lt0 hc
    have hc25 := hc
    exfalso
    exact hc hs0
theorem ef_rmG4 (m : MethodId) (z0 : Addr) (z1 : Int32) : entryFrame m #[(.ref z0), (.int z1)] 6 = mkF m 0 #[.val (.ref z0), .val (.int z1), .unset, .unset, .unset, .unset] [] := by first | (simp [entryFrame, mkF, argsToLocals, Value.category]; done) | rfl
set_option maxRecDepth 65536 in
set_option maxHeartbeats 40000000 in
theorem rmG4 (l : Launch) (Z : State) (a0 : Array Value) (hw : ∀ d ∈ tables_1, d.before a0 Z = true) (r : Addr) (f : Int32) (L : List Int32) (b0 : Int32) (b1 : Int32) (b2 : Int32) (b3 : Int32) (h0 : Heap) (n0 : Nat) (Zn : n0 ≤ h0.size) (A_r : Al Z h0 r .byte 10 L) (hf : 0 ≤ f.toInt ∧ f.toInt + 4 ≤ 10) (hb0 : L.getD (f.toNatClampNeg + 0) 0 = b0) (hb1 : L.getD (f.toNatClampNeg + 1) 0 = b1) (hb2 : L.getD (f.toNatClampNeg + 2) 0 = b2) (hb3 : L.getD (f.toNatClampNeg + 3) 0 = b3) (hs0 : b0 < 0) (hs1 : b1 < 0) (hs2 : b2 < 0) (hp : ¬ b3 < 0) :
    WCt l Z (⟨"com/example/dwindl/dwindl/io/Leb128", "get", "([BI)I"⟩ : MethodName) prog_19_method_3_code 6 (some .int) ({ frames := 0, cells := 0, slots := 0, locals := 0 } : Room) #[(.ref r), (.int f)] h0 (fun vv hh LL => (vv = some (.int (((((0 : Int32) ||| ((b0 &&& (127 : Int32)) <<< ((0 : Int32) &&& 31))) ||| ((b1 &&& (127 : Int32)) <<< (((0 : Int32) + (7 : Int32)) &&& 31))) ||| ((b2 &&& (127 : Int32)) <<< ((((0 : Int32) + (7 : Int32)) + (7 : Int32)) &&& 31))) ||| ((b3 &&& (127 : Int32)) <<< (((((0 : Int32) + (7 : Int32)) + (7 : Int32)) + (7 : Int32)) &&& 31))))) ∧ (Fr n0 LL) ∧ (hh = h0)) := by
  refine WCt.of pl_2 ?_
  intro p e s m below meth c T hx hby hml hown hnm hret hlk hZ hh0 X eT
  have hown : s.vm.findClass "com/example/dwindl/dwindl/io/Leb128" = some m.cls := hown
  have hnm : meth.name = "get" := hnm
  have N := Fr.nil n0
  obtain ⟨h, eh⟩ : ∃ h, h = h0 := ⟨_, rfl⟩
  have K : Keep h0 h [] := by rw [eh]; exact Keep.refl _ _
  refine WGo.cast (ef_rmG4 m r f) ?_
  rw [← eh] at eT Zn A_r
  have y0 : f.toInt = f.toInt + ((0 : Nat) : Int) := by omega
  have y1 : (f + (1 : Int32)).toInt = f.toInt + ((1 : Nat) : Int) := by have := up1 f (by omega) (by omega); omega
  have y2 : ((f + (1 : Int32)) + (1 : Int32)).toInt = f.toInt + ((2 : Nat) : Int) := by have := up1 (f + (1 : Int32)) (by omega) (by omega); omega
  have y3 : (((f + (1 : Int32)) + (1 : Int32)) + (1 : Int32)).toInt = f.toInt + ((3 : Nat) : Int) := by have := up1 ((f + (1 : Int32)) + (1 : Int32)) (by omega) (by omega); omega
  refine g_iconst X hx (hb hby d2_0) (x := (0 : Int32)) (by decide) (pc' := 1) rfl ?_
  refine g_istoreN X hx (hb hby d2_1) (Ls' := #[.val (.ref r), .val (.int f), .val (.int (0 : Int32)), .unset, .unset, .unset]) rfl (pc' := 2) rfl ?_
  refine g_iconst X hx (hb hby d2_2) (x := (0 : Int32)) (by decide) (pc' := 3) rfl ?_
  refine g_istoreN X hx (hb hby d2_3) (Ls' := #[.val (.ref r), .val (.int f), .val (.int (0 : Int32)), .val (.int (0 : Int32)), .unset, .unset]) rfl (pc' := 4) rfl ?_
  refine g_iloadN X hx (hb hby d2_4) rfl (pc' := 5) rfl ?_
  refine g_istore X hx (hb hby d2_5) (Ls' := #[.val (.ref r), .val (.int f), .val (.int (0 : Int32)), .val (.int (0 : Int32)), .val (.int f), .unset]) rfl (pc' := 7) rfl ?_
  refine g_aloadN X hx (hb hby d2_7) rfl rfl (pc' := 8) rfl ?_
  refine g_iload X hx (hb hby d2_8) rfl (pc' := 10) rfl ?_
  refine g_baloadB X hx hZ eT A_r.2 (hb hby d2_10) (in10 y0 hf.1 (by omega)).1 (in10 y0 hf.1 (by omega)).2 (v := (.int b0)) (congrArg Value.int ((congrArg (fun z => L.getD z 0) (nc _ f 0 y0 hf.1)).trans hb0)) (pc' := 11) rfl ?_
  refine g_istore X hx (hb hby d2_11) (Ls' := #[.val (.ref r), .val (.int f), .val (.int (0 : Int32)), .val (.int (0 : Int32)), .val (.int f), .val (.int b0)]) rfl (pc' := 13) rfl ?_
  refine g_iloadN X hx (hb hby d2_13) rfl (pc' := 14) rfl ?_
  refine g_iload X hx (hb hby d2_14) rfl (pc' := 16) rfl ?_
  refine g_bipush X hx (hb hby d2_16) (x := (127 : Int32)) (by decide) (pc' := 18) rfl ?_
  refine g_iand X hx (hb hby d2_18) (pc' := 19) rfl ?_
  refine g_iloadN X hx (hb hby d2_19) rfl (pc' := 20) rfl ?_
  refine g_ishl X hx (hb hby d2_20) (pc' := 21) rfl ?_
  refine g_ior X hx (hb hby d2_21) (pc' := 22) rfl ?_
  refine g_istoreN X hx (hb hby d2_22) (Ls' := #[.val (.ref r), .val (.int f), .val (.int ((0 : Int32) ||| ((b0 &&& (127 : Int32)) <<< ((0 : Int32) &&& 31)))), .val (.int (0 : Int32)), .val (.int f), .val (.int b0)]) rfl (pc' := 23) rfl ?_
  refine g_iload X hx (hb hby d2_23) rfl (pc' := 25) rfl ?_
  refine g_if X hx (hb hby d2_25) (by decide) (pc' := 30) (by decide) (pc2 := 28) rfl (fun hc => ?_) (fun hc => ?_)
  · replace hc := h_lt1 hc
    have hc25 := hc
    refine g_iinc X hx (hb hby d2_30) rfl (z := (7 : Int32)) (by decide) (Ls' := #[.val (.ref r), .val (.int f), .val (.int ((0 : Int32) ||| ((b0 &&& (127 : Int32)) <<< ((0 : Int32) &&& 31)))), .val (.int (7 : Int32)), .val (.int f), .val (.int b0)]) rfl (pc' := 33) rfl ?_
    refine g_iinc X hx (hb hby d2_33) rfl (z := (f + (1 : Int32))) rfl (Ls' := #[.val (.ref r), .val (.int f), .val (.int ((0 : Int32) ||| ((b0 &&& (127 : Int32)) <<< ((0 : Int32) &&& 31)))), .val (.int (7 : Int32)), .val (.int (f + (1 : Int32))), .val (.int b0)]) rfl (pc' := 36) rfl ?_
    refine g_goto X hx (hb hby d2_36) (by decide) (pc' := 7) (by decide) ?_
    refine g_aloadN X hx (hb hby d2_7) rfl rfl (pc' := 8) rfl ?_
    refine g_iload X hx (hb hby d2_8) rfl (pc' := 10) rfl ?_
    refine g_baloadB X hx hZ eT A_r.2 (hb hby d2_10) (in10 y1 hf.1 (by omega)).1 (in10 y1 hf.1 (by omega)).2 (v := (.int b1)) (congrArg Value.int ((congrArg (fun z => L.getD z 0) (nc _ f 1 y1 hf.1)).trans hb1)) (pc' := 11) rfl ?_
    refine g_istore X hx (hb hby d2_11) (Ls' := #[.val (.ref r), .val (.int f), .val (.int ((0 : Int32) ||| ((b0 &&& (127 : Int32)) <<< ((0 : Int32) &&& 31)))), .val (.int (7 : Int32)), .val (.int (f + (1 : Int32))), .val (.int b1)]) rfl (pc' := 13) rfl ?_
    refine g_iloadN X hx (hb hby d2_13) rfl (pc' := 14) rfl ?_
    refine g_iload X hx (hb hby d2_14) rfl (pc' := 16) rfl ?_
    refine g_bipush X hx (hb hby d2_16) (x := (127 : Int32)) (by decide) (pc' := 18) rfl ?_
    refine g_iand X hx (hb hby d2_18) (pc' := 19) rfl ?_
    refine g_iloadN X hx (hb hby d2_19) rfl (pc' := 20) rfl ?_
    refine g_ishl X hx (hb hby d2_20) (pc' := 21) rfl ?_
    refine g_ior X hx (hb hby d2_21) (pc' := 22) rfl ?_
    refine g_istoreN X hx (hb hby d2_22) (Ls' := #[.val (.ref r), .val (.int f), .val (.int (((0 : Int32) ||| ((b0 &&& (127 : Int32)) <<< ((0 : Int32) &&& 31))) ||| ((b1 &&& (127 : Int32)) <<< ((7 : Int32) &&& 31)))), .val (.int (7 : Int32)), .val (.int (f + (1 : Int32))), .val (.int b1)]) rfl (pc' := 23) rfl ?_
    refine g_iload X hx (hb hby d2_23) rfl (pc' := 25) rfl ?_
    refine g_if X hx (hb hby d2_25) (by decide) (pc' := 30) (by decide) (pc2 := 28) rfl (fun hc => ?_) (fun hc => ?_)
    · replace hc := h_lt1 hc
      have hc25_1 := hc
      refine g_iinc X hx (hb hby d2_30) rfl (z := (14 : Int32)) (by decide) (Ls' := #[.val (.ref r), .val (.int f), .val (.int (((0 : Int32) ||| ((b0 &&& (127 : Int32)) <<< ((0 : Int32) &&& 31))) ||| ((b1 &&& (127 : Int32)) <<< ((7 : Int32) &&& 31)))), .val (.int (14 : Int32)), .val (.int (f + (1 : Int32))), .val (.int b1)]) rfl (pc' := 33) rfl ?_
      refine g_iinc X hx (hb hby d2_33) rfl (z := ((f + (1 : Int32)) + (1 : Int32))) rfl (Ls' := #[.val (.ref r), .val (.int f), .val (.int (((0 : Int32) ||| ((b0 &&& (127 : Int32)) <<< ((0 : Int32) &&& 31))) ||| ((b1 &&& (127 : Int32)) <<< ((7 : Int32) &&& 31)))), .val (.int (14 : Int32)), .val (.int ((f + (1 : Int32)) + (1 : Int32))), .val (.int b1)]) rfl (pc' := 36) rfl ?_
      refine g_goto X hx (hb hby d2_36) (by decide) (pc' := 7) (by decide) ?_
      refine g_aloadN X hx (hb hby d2_7) rfl rfl (pc' := 8) rfl ?_
      refine g_iload X hx (hb hby d2_8) rfl (pc' := 10) rfl ?_
      refine g_baloadB X hx hZ eT A_r.2 (hb hby d2_10) (in10 y2 hf.1 (by omega)).1 (in10 y2 hf.1 (by omega)).2 (v := (.int b2)) (congrArg Value.int ((congrArg (fun z => L.getD z 0) (nc _ f 2 y2 hf.1)).trans hb2)) (pc' := 11) rfl ?_
      refine g_istore X hx (hb hby d2_11) (Ls' := #[.val (.ref r), .val (.int f), .val (.int (((0 : Int32) ||| ((b0 &&& (127 : Int32)) <<< ((0 : Int32) &&& 31))) ||| ((b1 &&& (127 : Int32)) <<< ((7 : Int32) &&& 31)))), .val (.int (14 : Int32)), .val (.int ((f + (1 : Int32)) + (1 : Int32))), .val (.int b2)]) rfl (pc' := 13) rfl ?_
      refine g_iloadN X hx (hb hby d2_13) rfl (pc' := 14) rfl ?_
      refine g_iload X hx (hb hby d2_14) rfl (pc' := 16) rfl ?_
      refine g_bipush X hx (hb hby d2_16) (x := (127 : Int32)) (by decide) (pc' := 18) rfl ?_
      refine g_iand X hx (hb hby d2_18) (pc' := 19) rfl ?_
      refine g_iloadN X hx (hb hby d2_19) rfl (pc' := 20) rfl ?_
      refine g_ishl X hx (hb hby d2_20) (pc' := 21) rfl ?_
      refine g_ior X hx (hb hby d2_21) (pc' := 22) rfl ?_
      refine g_istoreN X hx (hb hby d2_22) (Ls' := #[.val (.ref r), .val (.int f), .val (.int ((((0 : Int32) ||| ((b0 &&& (127 : Int32)) <<< ((0 : Int32) &&& 31))) ||| ((b1 &&& (127 : Int32)) <<< ((7 : Int32) &&& 31))) ||| ((b2 &&& (127 : Int32)) <<< ((14 : Int32) &&& 31)))), .val (.int (14 : Int32)), .val (.int ((f + (1 : Int32)) + (1 : Int32))), .val (.int b2)]) rfl (pc' := 23) rfl ?_
      refine g_iload X hx (hb hby d2_23) rfl (pc' := 25) rfl ?_
      refine g_if X hx (hb hby d2_25) (by decide) (pc' := 30) (by decide) (pc2 := 28) rfl (fun hc => ?_) (fun hc => ?_)
      · replace hc := h_lt1 hc
        have hc25_2 := hc
        refine g_iinc X hx (hb hby d2_30) rfl (z := (21 : Int32)) (by decide) (Ls' := #[.val (.ref r), .val (.int f), .val (.int ((((0 : Int32) ||| ((b0 &&& (127 : Int32)) <<< ((0 : Int32) &&& 31))) ||| ((b1 &&& (127 : Int32)) <<< ((7 : Int32) &&& 31))) ||| ((b2 &&& (127 : Int32)) <<< ((14 : Int32) &&& 31)))), .val (.int (21 : Int32)), .val (.int ((f + (1 : Int32)) + (1 : Int32))), .val (.int b2)]) rfl (pc' := 33) rfl ?_
        refine g_iinc X hx (hb hby d2_33) rfl (z := (((f + (1 : Int32)) + (1 : Int32)) + (1 : Int32))) rfl (Ls' := #[.val (.ref r), .val (.int f), .val (.int ((((0 : Int32) ||| ((b0 &&& (127 : Int32)) <<< ((0 : Int32) &&& 31))) ||| ((b1 &&& (127 : Int32)) <<< ((7 : Int32) &&& 31))) ||| ((b2 &&& (127 : Int32)) <<< ((14 : Int32) &&& 31)))), .val (.int (21 : Int32)), .val (.int (((f + (1 : Int32)) + (1 : Int32)) + (1 : Int32))), .val (.int b2)]) rfl (pc' := 36) rfl ?_
        refine g_goto X hx (hb hby d2_36) (by decide) (pc' := 7) (by decide) ?_
        refine g_aloadN X hx (hb hby d2_7) rfl rfl (pc' := 8) rfl ?_
        refine g_iload X hx (hb hby d2_8) rfl (pc' := 10) rfl ?_
        refine g_baloadB X hx hZ eT A_r.2 (hb hby d2_10) (in10 y3 hf.1 (by omega)).1 (in10 y3 hf.1 (by omega)).2 (v := (.int b3)) (congrArg Value.int ((congrArg (fun z => L.getD z 0) (nc _ f 3 y3 hf.1)).trans hb3)) (pc' := 11) rfl ?_
        refine g_istore X hx (hb hby d2_11) (Ls' := #[.val (.ref r), .val (.int f), .val (.int ((((0 : Int32) ||| ((b0 &&& (127 : Int32)) <<< ((0 : Int32) &&& 31))) ||| ((b1 &&& (127 : Int32)) <<< ((7 : Int32) &&& 31))) ||| ((b2 &&& (127 : Int32)) <<< ((14 : Int32) &&& 31)))), .val (.int (21 : Int32)), .val (.int (((f + (1 : Int32)) + (1 : Int32)) + (1 : Int32))), .val (.int b3)]) rfl (pc' := 13) rfl ?_
        refine g_iloadN X hx (hb hby d2_13) rfl (pc' := 14) rfl ?_
        refine g_iload X hx (hb hby d2_14) rfl (pc' := 16) rfl ?_
        refine g_bipush X hx (hb hby d2_16) (x := (127 : Int32)) (by decide) (pc' := 18) rfl ?_
        refine g_iand X hx (hb hby d2_18) (pc' := 19) rfl ?_
        refine g_iloadN X hx (hb hby d2_19) rfl (pc' := 20) rfl ?_
        refine g_ishl X hx (hb hby d2_20) (pc' := 21) rfl ?_
        refine g_ior X hx (hb hby d2_21) (pc' := 22) rfl ?_
        refine g_istoreN X hx (hb hby d2_22) (Ls' := #[.val (.ref r), .val (.int f), .val (.int (((((0 : Int32) ||| ((b0 &&& (127 : Int32)) <<< ((0 : Int32) &&& 31))) ||| ((b1 &&& (127 : Int32)) <<< ((7 : Int32) &&& 31))) ||| ((b2 &&& (127 : Int32)) <<< ((14 : Int32) &&& 31))) ||| ((b3 &&& (127 : Int32)) <<< ((21 : Int32) &&& 31)))), .val (.int (21 : Int32)), .val (.int (((f + (1 : Int32)) + (1 : Int32)) + (1 : Int32))), .val (.int b3)]) rfl (pc' := 23) rfl ?_
        refine g_iload X hx (hb hby d2_23) rfl (pc' := 25) rfl ?_
        refine g_if X hx (hb hby d2_25) (by decide) (pc' := 30) (by decide) (pc2 := 28) rfl (fun hc => ?_) (fun hc => ?_)
        · replace hc := h_lt1 hc
          have hc25_3 := hc
          exfalso
          exact hp hc
        · replace hc := h_lt0 hc
          have hc25_3 := hc
          refine g_iloadN X hx (hb hby d2_28) rfl (pc' := 29) rfl ?_
          refine g_retI X hx hret hlk (hb hby d2_29) (by decide) (by decide) ?_
          rw [eT]
          exact ⟨rfl, N, eh⟩
      · replace hc := h_lt0 hc
        have hc25_2 := hc
        exfalso
        exact hc hs2
    · replace hc := h_lt0 hc
      have hc25_1 := hc
      exfalso
      exact hc hs1
  · replace hc := h_lt0 hc
    have hc25 := hc
    exfalso
    exact hc hs0
theorem ef_rmG5 (m : MethodId) (z0 : Addr) (z1 : Int32) : entryFrame m #[(.ref z0), (.int z1)] 6 = mkF m 0 #[.val (.ref z0), .val (.int z1), .unset, .unset, .unset, .unset] [] := by first | (simp [entryFrame, mkF, argsToLocals, Value.category]; done) | rfl
set_option maxRecDepth 65536 in
set_option maxHeartbeats 40000000 in
theorem rmG5 (l : Launch) (Z : State) (a0 : Array Value) (hw : ∀ d ∈ tables_1, d.before a0 Z = true) (r : Addr) (f : Int32) (L : List Int32) (b0 : Int32) (b1 : Int32) (b2 : Int32) (b3 : Int32) (b4 : Int32) (h0 : Heap) (n0 : Nat) (Zn : n0 ≤ h0.size) (A_r : Al Z h0 r .byte 10 L) (hf : 0 ≤ f.toInt ∧ f.toInt + 5 ≤ 10) (hb0 : L.getD (f.toNatClampNeg + 0) 0 = b0) (hb1 : L.getD (f.toNatClampNeg + 1) 0 = b1) (hb2 : L.getD (f.toNatClampNeg + 2) 0 = b2) (hb3 : L.getD (f.toNatClampNeg + 3) 0 = b3) (hb4 : L.getD (f.toNatClampNeg + 4) 0 = b4) (hs0 : b0 < 0) (hs1 : b1 < 0) (hs2 : b2 < 0) (hs3 : b3 < 0) (hp : ¬ b4 < 0) :
    WCt l Z (⟨"com/example/dwindl/dwindl/io/Leb128", "get", "([BI)I"⟩ : MethodName) prog_19_method_3_code 6 (some .int) ({ frames := 0, cells := 0, slots := 0, locals := 0 } : Room) #[(.ref r), (.int f)] h0 (fun vv hh LL => (vv = some (.int ((((((0 : Int32) ||| ((b0 &&& (127 : Int32)) <<< ((0 : Int32) &&& 31))) ||| ((b1 &&& (127 : Int32)) <<< (((0 : Int32) + (7 : Int32)) &&& 31))) ||| ((b2 &&& (127 : Int32)) <<< ((((0 : Int32) + (7 : Int32)) + (7 : Int32)) &&& 31))) ||| ((b3 &&& (127 : Int32)) <<< (((((0 : Int32) + (7 : Int32)) + (7 : Int32)) + (7 : Int32)) &&& 31))) ||| ((b4 &&& (127 : Int32)) <<< ((((((0 : Int32) + (7 : Int32)) + (7 : Int32)) + (7 : Int32)) + (7 : Int32)) &&& 31))))) ∧ (Fr n0 LL) ∧ (hh = h0)) := by
  refine WCt.of pl_2 ?_
  intro p e s m below meth c T hx hby hml hown hnm hret hlk hZ hh0 X eT
  have hown : s.vm.findClass "com/example/dwindl/dwindl/io/Leb128" = some m.cls := hown
  have hnm : meth.name = "get" := hnm
  have N := Fr.nil n0
  obtain ⟨h, eh⟩ : ∃ h, h = h0 := ⟨_, rfl⟩
  have K : Keep h0 h [] := by rw [eh]; exact Keep.refl _ _
  refine WGo.cast (ef_rmG5 m r f) ?_
  rw [← eh] at eT Zn A_r
  have y0 : f.toInt = f.toInt + ((0 : Nat) : Int) := by omega
  have y1 : (f + (1 : Int32)).toInt = f.toInt + ((1 : Nat) : Int) := by have := up1 f (by omega) (by omega); omega
  have y2 : ((f + (1 : Int32)) + (1 : Int32)).toInt = f.toInt + ((2 : Nat) : Int) := by have := up1 (f + (1 : Int32)) (by omega) (by omega); omega
  have y3 : (((f + (1 : Int32)) + (1 : Int32)) + (1 : Int32)).toInt = f.toInt + ((3 : Nat) : Int) := by have := up1 ((f + (1 : Int32)) + (1 : Int32)) (by omega) (by omega); omega
  have y4 : ((((f + (1 : Int32)) + (1 : Int32)) + (1 : Int32)) + (1 : Int32)).toInt = f.toInt + ((4 : Nat) : Int) := by have := up1 (((f + (1 : Int32)) + (1 : Int32)) + (1 : Int32)) (by omega) (by omega); omega
  refine g_iconst X hx (hb hby d2_0) (x := (0 : Int32)) (by decide) (pc' := 1) rfl ?_
  refine g_istoreN X hx (hb hby d2_1) (Ls' := #[.val (.ref r), .val (.int f), .val (.int (0 : Int32)), .unset, .unset, .unset]) rfl (pc' := 2) rfl ?_
  refine g_iconst X hx (hb hby d2_2) (x := (0 : Int32)) (by decide) (pc' := 3) rfl ?_
  refine g_istoreN X hx (hb hby d2_3) (Ls' := #[.val (.ref r), .val (.int f), .val (.int (0 : Int32)), .val (.int (0 : Int32)), .unset, .unset]) rfl (pc' := 4) rfl ?_
  refine g_iloadN X hx (hb hby d2_4) rfl (pc' := 5) rfl ?_
  refine g_istore X hx (hb hby d2_5) (Ls' := #[.val (.ref r), .val (.int f), .val (.int (0 : Int32)), .val (.int (0 : Int32)), .val (.int f), .unset]) rfl (pc' := 7) rfl ?_
  refine g_aloadN X hx (hb hby d2_7) rfl rfl (pc' := 8) rfl ?_
  refine g_iload X hx (hb hby d2_8) rfl (pc' := 10) rfl ?_
  refine g_baloadB X hx hZ eT A_r.2 (hb hby d2_10) (in10 y0 hf.1 (by omega)).1 (in10 y0 hf.1 (by omega)).2 (v := (.int b0)) (congrArg Value.int ((congrArg (fun z => L.getD z 0) (nc _ f 0 y0 hf.1)).trans hb0)) (pc' := 11) rfl ?_
  refine g_istore X hx (hb hby d2_11) (Ls' := #[.val (.ref r), .val (.int f), .val (.int (0 : Int32)), .val (.int (0 : Int32)), .val (.int f), .val (.int b0)]) rfl (pc' := 13) rfl ?_
  refine g_iloadN X hx (hb hby d2_13) rfl (pc' := 14) rfl ?_
  refine g_iload X hx (hb hby d2_14) rfl (pc' := 16) rfl ?_
  refine g_bipush X hx (hb hby d2_16) (x := (127 : Int32)) (by decide) (pc' := 18) rfl ?_
  refine g_iand X hx (hb hby d2_18) (pc' := 19) rfl ?_
  refine g_iloadN X hx (hb hby d2_19) rfl (pc' := 20) rfl ?_
  refine g_ishl X hx (hb hby d2_20) (pc' := 21) rfl ?_
  refine g_ior X hx (hb hby d2_21) (pc' := 22) rfl ?_
  refine g_istoreN X hx (hb hby d2_22) (Ls' := #[.val (.ref r), .val (.int f), .val (.int ((0 : Int32) ||| ((b0 &&& (127 : Int32)) <<< ((0 : Int32) &&& 31)))), .val (.int (0 : Int32)), .val (.int f), .val (.int b0)]) rfl (pc' := 23) rfl ?_
  refine g_iload X hx (hb hby d2_23) rfl (pc' := 25) rfl ?_
  refine g_if X hx (hb hby d2_25) (by decide) (pc' := 30) (by decide) (pc2 := 28) rfl (fun hc => ?_) (fun hc => ?_)
  · replace hc := h_lt1 hc
    have hc25 := hc
    refine g_iinc X hx (hb hby d2_30) rfl (z := (7 : Int32)) (by decide) (Ls' := #[.val (.ref r), .val (.int f), .val (.int ((0 : Int32) ||| ((b0 &&& (127 : Int32)) <<< ((0 : Int32) &&& 31)))), .val (.int (7 : Int32)), .val (.int f), .val (.int b0)]) rfl (pc' := 33) rfl ?_
    refine g_iinc X hx (hb hby d2_33) rfl (z := (f + (1 : Int32))) rfl (Ls' := #[.val (.ref r), .val (.int f), .val (.int ((0 : Int32) ||| ((b0 &&& (127 : Int32)) <<< ((0 : Int32) &&& 31)))), .val (.int (7 : Int32)), .val (.int (f + (1 : Int32))), .val (.int b0)]) rfl (pc' := 36) rfl ?_
    refine g_goto X hx (hb hby d2_36) (by decide) (pc' := 7) (by decide) ?_
    refine g_aloadN X hx (hb hby d2_7) rfl rfl (pc' := 8) rfl ?_
    refine g_iload X hx (hb hby d2_8) rfl (pc' := 10) rfl ?_
    refine g_baloadB X hx hZ eT A_r.2 (hb hby d2_10) (in10 y1 hf.1 (by omega)).1 (in10 y1 hf.1 (by omega)).2 (v := (.int b1)) (congrArg Value.int ((congrArg (fun z => L.getD z 0) (nc _ f 1 y1 hf.1)).trans hb1)) (pc' := 11) rfl ?_
    refine g_istore X hx (hb hby d2_11) (Ls' := #[.val (.ref r), .val (.int f), .val (.int ((0 : Int32) ||| ((b0 &&& (127 : Int32)) <<< ((0 : Int32) &&& 31)))), .val (.int (7 : Int32)), .val (.int (f + (1 : Int32))), .val (.int b1)]) rfl (pc' := 13) rfl ?_
    refine g_iloadN X hx (hb hby d2_13) rfl (pc' := 14) rfl ?_
    refine g_iload X hx (hb hby d2_14) rfl (pc' := 16) rfl ?_
    refine g_bipush X hx (hb hby d2_16) (x := (127 : Int32)) (by decide) (pc' := 18) rfl ?_
    refine g_iand X hx (hb hby d2_18) (pc' := 19) rfl ?_
    refine g_iloadN X hx (hb hby d2_19) rfl (pc' := 20) rfl ?_
    refine g_ishl X hx (hb hby d2_20) (pc' := 21) rfl ?_
    refine g_ior X hx (hb hby d2_21) (pc' := 22) rfl ?_
    refine g_istoreN X hx (hb hby d2_22) (Ls' := #[.val (.ref r), .val (.int f), .val (.int (((0 : Int32) ||| ((b0 &&& (127 : Int32)) <<< ((0 : Int32) &&& 31))) ||| ((b1 &&& (127 : Int32)) <<< ((7 : Int32) &&& 31)))), .val (.int (7 : Int32)), .val (.int (f + (1 : Int32))), .val (.int b1)]) rfl (pc' := 23) rfl ?_
    refine g_iload X hx (hb hby d2_23) rfl (pc' := 25) rfl ?_
    refine g_if X hx (hb hby d2_25) (by decide) (pc' := 30) (by decide) (pc2 := 28) rfl (fun hc => ?_) (fun hc => ?_)
    · replace hc := h_lt1 hc
      have hc25_1 := hc
      refine g_iinc X hx (hb hby d2_30) rfl (z := (14 : Int32)) (by decide) (Ls' := #[.val (.ref r), .val (.int f), .val (.int (((0 : Int32) ||| ((b0 &&& (127 : Int32)) <<< ((0 : Int32) &&& 31))) ||| ((b1 &&& (127 : Int32)) <<< ((7 : Int32) &&& 31)))), .val (.int (14 : Int32)), .val (.int (f + (1 : Int32))), .val (.int b1)]) rfl (pc' := 33) rfl ?_
      refine g_iinc X hx (hb hby d2_33) rfl (z := ((f + (1 : Int32)) + (1 : Int32))) rfl (Ls' := #[.val (.ref r), .val (.int f), .val (.int (((0 : Int32) ||| ((b0 &&& (127 : Int32)) <<< ((0 : Int32) &&& 31))) ||| ((b1 &&& (127 : Int32)) <<< ((7 : Int32) &&& 31)))), .val (.int (14 : Int32)), .val (.int ((f + (1 : Int32)) + (1 : Int32))), .val (.int b1)]) rfl (pc' := 36) rfl ?_
      refine g_goto X hx (hb hby d2_36) (by decide) (pc' := 7) (by decide) ?_
      refine g_aloadN X hx (hb hby d2_7) rfl rfl (pc' := 8) rfl ?_
      refine g_iload X hx (hb hby d2_8) rfl (pc' := 10) rfl ?_
      refine g_baloadB X hx hZ eT A_r.2 (hb hby d2_10) (in10 y2 hf.1 (by omega)).1 (in10 y2 hf.1 (by omega)).2 (v := (.int b2)) (congrArg Value.int ((congrArg (fun z => L.getD z 0) (nc _ f 2 y2 hf.1)).trans hb2)) (pc' := 11) rfl ?_
      refine g_istore X hx (hb hby d2_11) (Ls' := #[.val (.ref r), .val (.int f), .val (.int (((0 : Int32) ||| ((b0 &&& (127 : Int32)) <<< ((0 : Int32) &&& 31))) ||| ((b1 &&& (127 : Int32)) <<< ((7 : Int32) &&& 31)))), .val (.int (14 : Int32)), .val (.int ((f + (1 : Int32)) + (1 : Int32))), .val (.int b2)]) rfl (pc' := 13) rfl ?_
      refine g_iloadN X hx (hb hby d2_13) rfl (pc' := 14) rfl ?_
      refine g_iload X hx (hb hby d2_14) rfl (pc' := 16) rfl ?_
      refine g_bipush X hx (hb hby d2_16) (x := (127 : Int32)) (by decide) (pc' := 18) rfl ?_
      refine g_iand X hx (hb hby d2_18) (pc' := 19) rfl ?_
      refine g_iloadN X hx (hb hby d2_19) rfl (pc' := 20) rfl ?_
      refine g_ishl X hx (hb hby d2_20) (pc' := 21) rfl ?_
      refine g_ior X hx (hb hby d2_21) (pc' := 22) rfl ?_
      refine g_istoreN X hx (hb hby d2_22) (Ls' := #[.val (.ref r), .val (.int f), .val (.int ((((0 : Int32) ||| ((b0 &&& (127 : Int32)) <<< ((0 : Int32) &&& 31))) ||| ((b1 &&& (127 : Int32)) <<< ((7 : Int32) &&& 31))) ||| ((b2 &&& (127 : Int32)) <<< ((14 : Int32) &&& 31)))), .val (.int (14 : Int32)), .val (.int ((f + (1 : Int32)) + (1 : Int32))), .val (.int b2)]) rfl (pc' := 23) rfl ?_
      refine g_iload X hx (hb hby d2_23) rfl (pc' := 25) rfl ?_
      refine g_if X hx (hb hby d2_25) (by decide) (pc' := 30) (by decide) (pc2 := 28) rfl (fun hc => ?_) (fun hc => ?_)
      · replace hc := h_lt1 hc
        have hc25_2 := hc
        refine g_iinc X hx (hb hby d2_30) rfl (z := (21 : Int32)) (by decide) (Ls' := #[.val (.ref r), .val (.int f), .val (.int ((((0 : Int32) ||| ((b0 &&& (127 : Int32)) <<< ((0 : Int32) &&& 31))) ||| ((b1 &&& (127 : Int32)) <<< ((7 : Int32) &&& 31))) ||| ((b2 &&& (127 : Int32)) <<< ((14 : Int32) &&& 31)))), .val (.int (21 : Int32)), .val (.int ((f + (1 : Int32)) + (1 : Int32))), .val (.int b2)]) rfl (pc' := 33) rfl ?_
        refine g_iinc X hx (hb hby d2_33) rfl (z := (((f + (1 : Int32)) + (1 : Int32)) + (1 : Int32))) rfl (Ls' := #[.val (.ref r), .val (.int f), .val (.int ((((0 : Int32) ||| ((b0 &&& (127 : Int32)) <<< ((0 : Int32) &&& 31))) ||| ((b1 &&& (127 : Int32)) <<< ((7 : Int32) &&& 31))) ||| ((b2 &&& (127 : Int32)) <<< ((14 : Int32) &&& 31)))), .val (.int (21 : Int32)), .val (.int (((f + (1 : Int32)) + (1 : Int32)) + (1 : Int32))), .val (.int b2)]) rfl (pc' := 36) rfl ?_
        refine g_goto X hx (hb hby d2_36) (by decide) (pc' := 7) (by decide) ?_
        refine g_aloadN X hx (hb hby d2_7) rfl rfl (pc' := 8) rfl ?_
        refine g_iload X hx (hb hby d2_8) rfl (pc' := 10) rfl ?_
        refine g_baloadB X hx hZ eT A_r.2 (hb hby d2_10) (in10 y3 hf.1 (by omega)).1 (in10 y3 hf.1 (by omega)).2 (v := (.int b3)) (congrArg Value.int ((congrArg (fun z => L.getD z 0) (nc _ f 3 y3 hf.1)).trans hb3)) (pc' := 11) rfl ?_
        refine g_istore X hx (hb hby d2_11) (Ls' := #[.val (.ref r), .val (.int f), .val (.int ((((0 : Int32) ||| ((b0 &&& (127 : Int32)) <<< ((0 : Int32) &&& 31))) ||| ((b1 &&& (127 : Int32)) <<< ((7 : Int32) &&& 31))) ||| ((b2 &&& (127 : Int32)) <<< ((14 : Int32) &&& 31)))), .val (.int (21 : Int32)), .val (.int (((f + (1 : Int32)) + (1 : Int32)) + (1 : Int32))), .val (.int b3)]) rfl (pc' := 13) rfl ?_
        refine g_iloadN X hx (hb hby d2_13) rfl (pc' := 14) rfl ?_
        refine g_iload X hx (hb hby d2_14) rfl (pc' := 16) rfl ?_
        refine g_bipush X hx (hb hby d2_16) (x := (127 : Int32)) (by decide) (pc' := 18) rfl ?_
        refine g_iand X hx (hb hby d2_18) (pc' := 19) rfl ?_
        refine g_iloadN X hx (hb hby d2_19) rfl (pc' := 20) rfl ?_
        refine g_ishl X hx (hb hby d2_20) (pc' := 21) rfl ?_
        refine g_ior X hx (hb hby d2_21) (pc' := 22) rfl ?_
        refine g_istoreN X hx (hb hby d2_22) (Ls' := #[.val (.ref r), .val (.int f), .val (.int (((((0 : Int32) ||| ((b0 &&& (127 : Int32)) <<< ((0 : Int32) &&& 31))) ||| ((b1 &&& (127 : Int32)) <<< ((7 : Int32) &&& 31))) ||| ((b2 &&& (127 : Int32)) <<< ((14 : Int32) &&& 31))) ||| ((b3 &&& (127 : Int32)) <<< ((21 : Int32) &&& 31)))), .val (.int (21 : Int32)), .val (.int (((f + (1 : Int32)) + (1 : Int32)) + (1 : Int32))), .val (.int b3)]) rfl (pc' := 23) rfl ?_
        refine g_iload X hx (hb hby d2_23) rfl (pc' := 25) rfl ?_
        refine g_if X hx (hb hby d2_25) (by decide) (pc' := 30) (by decide) (pc2 := 28) rfl (fun hc => ?_) (fun hc => ?_)
        · replace hc := h_lt1 hc
          have hc25_3 := hc
          refine g_iinc X hx (hb hby d2_30) rfl (z := (28 : Int32)) (by decide) (Ls' := #[.val (.ref r), .val (.int f), .val (.int (((((0 : Int32) ||| ((b0 &&& (127 : Int32)) <<< ((0 : Int32) &&& 31))) ||| ((b1 &&& (127 : Int32)) <<< ((7 : Int32) &&& 31))) ||| ((b2 &&& (127 : Int32)) <<< ((14 : Int32) &&& 31))) ||| ((b3 &&& (127 : Int32)) <<< ((21 : Int32) &&& 31)))), .val (.int (28 : Int32)), .val (.int (((f + (1 : Int32)) + (1 : Int32)) + (1 : Int32))), .val (.int b3)]) rfl (pc' := 33) rfl ?_
          refine g_iinc X hx (hb hby d2_33) rfl (z := ((((f + (1 : Int32)) + (1 : Int32)) + (1 : Int32)) + (1 : Int32))) rfl (Ls' := #[.val (.ref r), .val (.int f), .val (.int (((((0 : Int32) ||| ((b0 &&& (127 : Int32)) <<< ((0 : Int32) &&& 31))) ||| ((b1 &&& (127 : Int32)) <<< ((7 : Int32) &&& 31))) ||| ((b2 &&& (127 : Int32)) <<< ((14 : Int32) &&& 31))) ||| ((b3 &&& (127 : Int32)) <<< ((21 : Int32) &&& 31)))), .val (.int (28 : Int32)), .val (.int ((((f + (1 : Int32)) + (1 : Int32)) + (1 : Int32)) + (1 : Int32))), .val (.int b3)]) rfl (pc' := 36) rfl ?_
          refine g_goto X hx (hb hby d2_36) (by decide) (pc' := 7) (by decide) ?_
          refine g_aloadN X hx (hb hby d2_7) rfl rfl (pc' := 8) rfl ?_
          refine g_iload X hx (hb hby d2_8) rfl (pc' := 10) rfl ?_
          refine g_baloadB X hx hZ eT A_r.2 (hb hby d2_10) (in10 y4 hf.1 (by omega)).1 (in10 y4 hf.1 (by omega)).2 (v := (.int b4)) (congrArg Value.int ((congrArg (fun z => L.getD z 0) (nc _ f 4 y4 hf.1)).trans hb4)) (pc' := 11) rfl ?_
          refine g_istore X hx (hb hby d2_11) (Ls' := #[.val (.ref r), .val (.int f), .val (.int (((((0 : Int32) ||| ((b0 &&& (127 : Int32)) <<< ((0 : Int32) &&& 31))) ||| ((b1 &&& (127 : Int32)) <<< ((7 : Int32) &&& 31))) ||| ((b2 &&& (127 : Int32)) <<< ((14 : Int32) &&& 31))) ||| ((b3 &&& (127 : Int32)) <<< ((21 : Int32) &&& 31)))), .val (.int (28 : Int32)), .val (.int ((((f + (1 : Int32)) + (1 : Int32)) + (1 : Int32)) + (1 : Int32))), .val (.int b4)]) rfl (pc' := 13) rfl ?_
          refine g_iloadN X hx (hb hby d2_13) rfl (pc' := 14) rfl ?_
          refine g_iload X hx (hb hby d2_14) rfl (pc' := 16) rfl ?_
          refine g_bipush X hx (hb hby d2_16) (x := (127 : Int32)) (by decide) (pc' := 18) rfl ?_
          refine g_iand X hx (hb hby d2_18) (pc' := 19) rfl ?_
          refine g_iloadN X hx (hb hby d2_19) rfl (pc' := 20) rfl ?_
          refine g_ishl X hx (hb hby d2_20) (pc' := 21) rfl ?_
          refine g_ior X hx (hb hby d2_21) (pc' := 22) rfl ?_
          refine g_istoreN X hx (hb hby d2_22) (Ls' := #[.val (.ref r), .val (.int f), .val (.int ((((((0 : Int32) ||| ((b0 &&& (127 : Int32)) <<< ((0 : Int32) &&& 31))) ||| ((b1 &&& (127 : Int32)) <<< ((7 : Int32) &&& 31))) ||| ((b2 &&& (127 : Int32)) <<< ((14 : Int32) &&& 31))) ||| ((b3 &&& (127 : Int32)) <<< ((21 : Int32) &&& 31))) ||| ((b4 &&& (127 : Int32)) <<< ((28 : Int32) &&& 31)))), .val (.int (28 : Int32)), .val (.int ((((f + (1 : Int32)) + (1 : Int32)) + (1 : Int32)) + (1 : Int32))), .val (.int b4)]) rfl (pc' := 23) rfl ?_
          refine g_iload X hx (hb hby d2_23) rfl (pc' := 25) rfl ?_
          refine g_if X hx (hb hby d2_25) (by decide) (pc' := 30) (by decide) (pc2 := 28) rfl (fun hc => ?_) (fun hc => ?_)
          · replace hc := h_lt1 hc
            have hc25_4 := hc
            exfalso
            exact hp hc
          · replace hc := h_lt0 hc
            have hc25_4 := hc
            refine g_iloadN X hx (hb hby d2_28) rfl (pc' := 29) rfl ?_
            refine g_retI X hx hret hlk (hb hby d2_29) (by decide) (by decide) ?_
            rw [eT]
            exact ⟨rfl, N, eh⟩
        · replace hc := h_lt0 hc
          have hc25_3 := hc
          exfalso
          exact hc hs3
      · replace hc := h_lt0 hc
        have hc25_2 := hc
        exfalso
        exact hc hs2
    · replace hc := h_lt0 hc
      have hc25_1 := hc
      exfalso
      exact hc hs1
  · replace hc := h_lt0 hc
    have hc25 := hc
    exfalso
    exact hc hs0
theorem pl_0 : plainFor x = true := plainFor_of_name (by first | (simp [plainName, overriddenIn, x]; done) | decide +kernel)
theorem ef_rm0 (m : MethodId) (z0 : Int32) (z1 : Int32) (z2 : Int32) (z3 : Int32) (z4 : Int32) : entryFrame m #[(.int z0), (.int z1), (.int z2), (.int z3), (.int z4)] maxLocals = mkF m 0 #[.val (.int z0), .val (.int z1), .val (.int z2), .val (.int z3), .val (.int z4), .unset, .unset, .unset, .unset, .unset] [] := by first | (simp [entryFrame, mkF, argsToLocals, Value.category, maxLocals]; done) | rfl
set_option maxRecDepth 65536 in
set_option maxHeartbeats 40000000 in
theorem rm0 (l : Launch) (Z : State) (a0 : Array Value) (hw : ∀ d ∈ tables_1, d.before a0 Z = true) (p0 : Int32) (p1 : Int32) (p2 : Int32) (p3 : Int32) (p4 : Int32) (h0 : Heap) (n0 : Nat) (Zn : n0 ≤ h0.size)   :
    WCt l Z x code maxLocals ret room_1 #[(.int p0), (.int p1), (.int p2), (.int p3), (.int p4)] h0 (fun vv hh LL => (vv = some (.int (1 : Int32))) ∧ (Fr n0 LL)) := by
  refine WCt.of pl_0 ?_
  intro p e s m below meth c T hx hby hml hown hnm hret hlk hZ hh0 X eT
  have hown : s.vm.findClass "com/example/dwindl/dwindl/io/Leb128GetPinLaw" = some m.cls := hown
  have hnm : meth.name = "law" := hnm
  have N := Fr.nil n0
  obtain ⟨h, eh⟩ : ∃ h, h = h0 := ⟨_, rfl⟩
  refine WGo.cast (ef_rm0 m p0 p1 p2 p3 p4) ?_
  rw [← eh] at eT Zn 
  refine g_iloadN X hx (hb hby at_0) rfl (pc' := 1) rfl ?_
  refine g_ldcI X hx hZ hown (hw _ (List.mem_of_getElem? (i := 0) rfl)) (hb hby at_1) (pc' := 3) rfl ?_
  refine g_iand X hx (hb hby at_3) (pc' := 4) rfl ?_
  refine g_iconst X hx (hb hby at_4) (x := (5 : Int32)) (by decide) (pc' := 5) rfl ?_
  refine g_irem X hx (hb hby at_5) (by decide) (pc' := 6) rfl ?_
  refine g_istore X hx (hb hby at_6) (Ls' := #[.val (.int p0), .val (.int p1), .val (.int p2), .val (.int p3), .val (.int p4), .val (.int ((p1 &&& (2147483647 : Int32)) % (5 : Int32))), .unset, .unset, .unset, .unset]) rfl (pc' := 8) rfl ?_
  refine g_iloadN X hx (hb hby at_8) rfl (pc' := 9) rfl ?_
  refine g_ldcI X hx hZ hown (hw _ (List.mem_of_getElem? (i := 0) rfl)) (hb hby at_9) (pc' := 11) rfl ?_
  refine g_iand X hx (hb hby at_11) (pc' := 12) rfl ?_
  refine g_istore X hx (hb hby at_12) (Ls' := #[.val (.int p0), .val (.int p1), .val (.int p2), .val (.int p3), .val (.int p4), .val (.int ((p1 &&& (2147483647 : Int32)) % (5 : Int32))), .val (.int (p0 &&& (2147483647 : Int32))), .unset, .unset, .unset]) rfl (pc' := 14) rfl ?_
  refine g_iload X hx (hb hby at_14) rfl (pc' := 16) rfl ?_
  refine g_join (J := fun nn : Int32 => (mkF m 75 #[.val (.int p0), .val (.int p1), .val (.int p2), .val (.int p3), .val (.int p4), .val (.int ((p1 &&& (2147483647 : Int32)) % (5 : Int32))), .val (.int nn), .unset, .unset, .unset] [])) (P := fun nn => 0 ≤ nn.toInt) (fun KK => ?_) (fun nn hj16 => ?_)
  · skip
    refine g_if X hx (hb hby at_16) (by decide) (pc' := 29) (by decide) (pc2 := 19) rfl (fun hc => ?_) (fun hc => ?_)
    · replace hc := h_ne1 hc
      have hc16 := hc
      refine g_iload X hx (hb hby at_29) rfl (pc' := 31) rfl ?_
      refine g_iconst X hx (hb hby at_31) (x := (1 : Int32)) (by decide) (pc' := 32) rfl ?_
      refine g_icmp X hx (hb hby at_32) (by decide) (pc' := 46) (by decide) (pc2 := 35) rfl (fun hc => ?_) (fun hc => ?_)
      · replace hc := h_ne1 hc
        have hc32 := hc
        refine g_iload X hx (hb hby at_46) rfl (pc' := 48) rfl ?_
        refine g_iconst X hx (hb hby at_48) (x := (2 : Int32)) (by decide) (pc' := 49) rfl ?_
        refine g_icmp X hx (hb hby at_49) (by decide) (pc' := 62) (by decide) (pc2 := 52) rfl (fun hc => ?_) (fun hc => ?_)
        · replace hc := h_ne1 hc
          have hc49 := hc
          refine g_iload X hx (hb hby at_62) rfl (pc' := 64) rfl ?_
          refine g_iconst X hx (hb hby at_64) (x := (3 : Int32)) (by decide) (pc' := 65) rfl ?_
          refine g_icmp X hx (hb hby at_65) (by decide) (pc' := 75) (by decide) (pc2 := 68) rfl (fun hc => ?_) (fun hc => ?_)
          · replace hc := h_ne1 hc
            have hc65 := hc
            exact KK _ (c_and _ _ (by decide)).1
          · replace hc := h_ne0 hc
            have hc65 := hc
            refine g_iload X hx (hb hby at_68) rfl (pc' := 70) rfl ?_
            refine g_ldcI X hx hZ hown (hw _ (List.mem_of_getElem? (i := 1) rfl)) (hb hby at_70) (pc' := 72) rfl ?_
            refine g_iand X hx (hb hby at_72) (pc' := 73) rfl ?_
            refine g_istore X hx (hb hby at_73) (Ls' := #[.val (.int p0), .val (.int p1), .val (.int p2), .val (.int p3), .val (.int p4), .val (.int ((p1 &&& (2147483647 : Int32)) % (5 : Int32))), .val (.int ((p0 &&& (2147483647 : Int32)) &&& (268435455 : Int32))), .unset, .unset, .unset]) rfl (pc' := 75) rfl ?_
            exact KK _ (c_and _ _ (by decide)).1
        · replace hc := h_ne0 hc
          have hc49 := hc
          refine g_iload X hx (hb hby at_52) rfl (pc' := 54) rfl ?_
          refine g_ldcI X hx hZ hown (hw _ (List.mem_of_getElem? (i := 13) rfl)) (hb hby at_54) (pc' := 56) rfl ?_
          refine g_iand X hx (hb hby at_56) (pc' := 57) rfl ?_
          refine g_istore X hx (hb hby at_57) (Ls' := #[.val (.int p0), .val (.int p1), .val (.int p2), .val (.int p3), .val (.int p4), .val (.int ((p1 &&& (2147483647 : Int32)) % (5 : Int32))), .val (.int ((p0 &&& (2147483647 : Int32)) &&& (2097151 : Int32))), .unset, .unset, .unset]) rfl (pc' := 59) rfl ?_
          refine g_goto X hx (hb hby at_59) (by decide) (pc' := 75) (by decide) ?_
          exact KK _ (c_and _ _ (by decide)).1
      · replace hc := h_ne0 hc
        have hc32 := hc
        refine g_iload X hx (hb hby at_35) rfl (pc' := 37) rfl ?_
        refine g_sipush X hx (hb hby at_37) (x := (16383 : Int32)) (by decide) (pc' := 40) rfl ?_
        refine g_iand X hx (hb hby at_40) (pc' := 41) rfl ?_
        refine g_istore X hx (hb hby at_41) (Ls' := #[.val (.int p0), .val (.int p1), .val (.int p2), .val (.int p3), .val (.int p4), .val (.int ((p1 &&& (2147483647 : Int32)) % (5 : Int32))), .val (.int ((p0 &&& (2147483647 : Int32)) &&& (16383 : Int32))), .unset, .unset, .unset]) rfl (pc' := 43) rfl ?_
        refine g_goto X hx (hb hby at_43) (by decide) (pc' := 75) (by decide) ?_
        exact KK _ (c_and _ _ (by decide)).1
    · replace hc := h_ne0 hc
      have hc16 := hc
      refine g_iload X hx (hb hby at_19) rfl (pc' := 21) rfl ?_
      refine g_bipush X hx (hb hby at_21) (x := (127 : Int32)) (by decide) (pc' := 23) rfl ?_
      refine g_iand X hx (hb hby at_23) (pc' := 24) rfl ?_
      refine g_istore X hx (hb hby at_24) (Ls' := #[.val (.int p0), .val (.int p1), .val (.int p2), .val (.int p3), .val (.int p4), .val (.int ((p1 &&& (2147483647 : Int32)) % (5 : Int32))), .val (.int ((p0 &&& (2147483647 : Int32)) &&& (127 : Int32))), .unset, .unset, .unset]) rfl (pc' := 26) rfl ?_
      refine g_goto X hx (hb hby at_26) (by decide) (pc' := 75) (by decide) ?_
      exact KK _ (c_and _ _ (by decide)).1
  · skip
    refine g_iload X hx (hb hby at_75) rfl (pc' := 77) rfl ?_
    refine g_sipush X hx (hb hby at_77) (x := (128 : Int32)) (by decide) (pc' := 80) rfl ?_
    refine g_icmp X hx (hb hby at_80) (by decide) (pc' := 87) (by decide) (pc2 := 83) rfl (fun hc => ?_) (fun hc => ?_)
    · replace hc := h_ge1 hc
      have hc80 := hc
      refine g_iload X hx (hb hby at_87) rfl (pc' := 89) rfl ?_
      refine g_sipush X hx (hb hby at_89) (x := (16384 : Int32)) (by decide) (pc' := 92) rfl ?_
      refine g_icmp X hx (hb hby at_92) (by decide) (pc' := 99) (by decide) (pc2 := 95) rfl (fun hc => ?_) (fun hc => ?_)
      · replace hc := h_ge1 hc
        have hc92 := hc
        refine g_iload X hx (hb hby at_99) rfl (pc' := 101) rfl ?_
        refine g_ldcI X hx hZ hown (hw _ (List.mem_of_getElem? (i := 11) rfl)) (hb hby at_101) (pc' := 103) rfl ?_
        refine g_icmp X hx (hb hby at_103) (by decide) (pc' := 110) (by decide) (pc2 := 106) rfl (fun hc => ?_) (fun hc => ?_)
        · replace hc := h_ge1 hc
          have hc103 := hc
          refine g_iload X hx (hb hby at_110) rfl (pc' := 112) rfl ?_
          refine g_ldcI X hx hZ hown (hw _ (List.mem_of_getElem? (i := 12) rfl)) (hb hby at_112) (pc' := 114) rfl ?_
          refine g_icmp X hx (hb hby at_114) (by decide) (pc' := 121) (by decide) (pc2 := 117) rfl (fun hc => ?_) (fun hc => ?_)
          · replace hc := h_ge1 hc
            have hc114 := hc
            refine g_iconst X hx (hb hby at_121) (x := (5 : Int32)) (by decide) (pc' := 122) rfl ?_
            refine g_istore X hx (hb hby at_122) (Ls' := #[.val (.int p0), .val (.int p1), .val (.int p2), .val (.int p3), .val (.int p4), .val (.int ((p1 &&& (2147483647 : Int32)) % (5 : Int32))), .val (.int nn), .val (.int (5 : Int32)), .unset, .unset]) rfl (pc' := 124) rfl ?_
            refine g_iloadN X hx (hb hby at_124) rfl (pc' := 125) rfl ?_
            refine g_iconst X hx (hb hby at_125) (x := (3 : Int32)) (by decide) (pc' := 126) rfl ?_
            refine g_iand X hx (hb hby at_126) (pc' := 127) rfl ?_
            obtain ⟨f, hf, pf⟩ : ∃ z : Int32, z = (p2 &&& (3 : Int32)) ∧ (0 ≤ z.toInt ∧ z.toInt ≤ 3) := ⟨_, rfl, (by have q := c_and p2 3 (by decide); simp only [Int32.reduceToInt] at q; exact q)⟩
            rw [← hf]
            refine g_istore X hx (hb hby at_127) (Ls' := #[.val (.int p0), .val (.int p1), .val (.int p2), .val (.int p3), .val (.int p4), .val (.int ((p1 &&& (2147483647 : Int32)) % (5 : Int32))), .val (.int nn), .val (.int (5 : Int32)), .val (.int f), .unset]) rfl (pc' := 129) rfl ?_
            refine g_bipush X hx (hb hby at_129) (x := (10 : Int32)) (by decide) (pc' := 131) rfl ?_
            refine g_newP (cap := 10) X hx hZ (hw _ (List.mem_of_getElem? (i := 2) rfl)) eT (hb hby at_131) (by decide) (by decide) (by decide) (by decide) (by decide) (pc' := 133) rfl (fun T h r ha X eT Ex A_r => ?_)
            have g_r : n0 ≤ r := by rw [ha]; exact Zn
            replace Zn := Nat.le_trans Zn Ex.1
            replace A_r : Al Z h r .byte 10 [0, 0, 0, 0, 0, 0, 0, 0, 0, 0] := Al.new A_r
            refine g_astore X hx (hb hby at_133) rfl (Ls' := #[.val (.int p0), .val (.int p1), .val (.int p2), .val (.int p3), .val (.int p4), .val (.int ((p1 &&& (2147483647 : Int32)) % (5 : Int32))), .val (.int nn), .val (.int (5 : Int32)), .val (.int f), .val (.ref r)]) rfl (pc' := 135) rfl ?_
            refine g_aload X hx (hb hby at_135) rfl rfl (pc' := 137) rfl ?_
            refine g_iconst X hx (hb hby at_137) (x := (0 : Int32)) (by decide) (pc' := 138) rfl ?_
            refine g_iloadN X hx (hb hby at_138) rfl (pc' := 139) rfl ?_
            refine g_i2b X hx (hb hby at_139) (pc' := 140) rfl ?_
            refine g_bastoreB X hx hZ eT A_r.2 (hb hby at_140) (by decide) (by decide) (pc' := 141) rfl (fun T h X eT W A' => ?_)
            replace N := Fr.snoc X N g_r
            replace Zn := Nat.le_trans Zn (Nat.le_of_eq W.size.symm)
            replace A_r : Al Z h r .byte 10 [(nar .byte (p3.toInt8.toInt32)), (0 : Int32), (0 : Int32), (0 : Int32), (0 : Int32), (0 : Int32), (0 : Int32), (0 : Int32), (0 : Int32), (0 : Int32)] := A_r.set A'
            refine g_aload X hx (hb hby at_141) rfl rfl (pc' := 143) rfl ?_
            refine g_iconst X hx (hb hby at_143) (x := (1 : Int32)) (by decide) (pc' := 144) rfl ?_
            refine g_iloadN X hx (hb hby at_144) rfl (pc' := 145) rfl ?_
            refine g_bipush X hx (hb hby at_145) (x := (8 : Int32)) (by decide) (pc' := 147) rfl ?_
            refine g_iushr X hx (hb hby at_147) (pc' := 148) rfl ?_
            refine g_i2b X hx (hb hby at_148) (pc' := 149) rfl ?_
            refine g_bastoreB X hx hZ eT A_r.2 (hb hby at_149) (by decide) (by decide) (pc' := 150) rfl (fun T h X eT W A' => ?_)
            replace N := Fr.snoc X N g_r
            replace Zn := Nat.le_trans Zn (Nat.le_of_eq W.size.symm)
            replace A_r : Al Z h r .byte 10 [(nar .byte (p3.toInt8.toInt32)), (nar .byte ((XT.ushr p3 (8 : Int32)).toInt8.toInt32)), (0 : Int32), (0 : Int32), (0 : Int32), (0 : Int32), (0 : Int32), (0 : Int32), (0 : Int32), (0 : Int32)] := A_r.set A'
            refine g_aload X hx (hb hby at_150) rfl rfl (pc' := 152) rfl ?_
            refine g_iconst X hx (hb hby at_152) (x := (2 : Int32)) (by decide) (pc' := 153) rfl ?_
            refine g_iloadN X hx (hb hby at_153) rfl (pc' := 154) rfl ?_
            refine g_bipush X hx (hb hby at_154) (x := (16 : Int32)) (by decide) (pc' := 156) rfl ?_
            refine g_iushr X hx (hb hby at_156) (pc' := 157) rfl ?_
            refine g_i2b X hx (hb hby at_157) (pc' := 158) rfl ?_
            refine g_bastoreB X hx hZ eT A_r.2 (hb hby at_158) (by decide) (by decide) (pc' := 159) rfl (fun T h X eT W A' => ?_)
            replace N := Fr.snoc X N g_r
            replace Zn := Nat.le_trans Zn (Nat.le_of_eq W.size.symm)
            replace A_r : Al Z h r .byte 10 [(nar .byte (p3.toInt8.toInt32)), (nar .byte ((XT.ushr p3 (8 : Int32)).toInt8.toInt32)), (nar .byte ((XT.ushr p3 (16 : Int32)).toInt8.toInt32)), (0 : Int32), (0 : Int32), (0 : Int32), (0 : Int32), (0 : Int32), (0 : Int32), (0 : Int32)] := A_r.set A'
            refine g_aload X hx (hb hby at_159) rfl rfl (pc' := 161) rfl ?_
            refine g_iconst X hx (hb hby at_161) (x := (3 : Int32)) (by decide) (pc' := 162) rfl ?_
            refine g_iloadN X hx (hb hby at_162) rfl (pc' := 163) rfl ?_
            refine g_bipush X hx (hb hby at_163) (x := (24 : Int32)) (by decide) (pc' := 165) rfl ?_
            refine g_iushr X hx (hb hby at_165) (pc' := 166) rfl ?_
            refine g_i2b X hx (hb hby at_166) (pc' := 167) rfl ?_
            refine g_bastoreB X hx hZ eT A_r.2 (hb hby at_167) (by decide) (by decide) (pc' := 168) rfl (fun T h X eT W A' => ?_)
            replace N := Fr.snoc X N g_r
            replace Zn := Nat.le_trans Zn (Nat.le_of_eq W.size.symm)
            replace A_r : Al Z h r .byte 10 [(nar .byte (p3.toInt8.toInt32)), (nar .byte ((XT.ushr p3 (8 : Int32)).toInt8.toInt32)), (nar .byte ((XT.ushr p3 (16 : Int32)).toInt8.toInt32)), (nar .byte ((XT.ushr p3 (24 : Int32)).toInt8.toInt32)), (0 : Int32), (0 : Int32), (0 : Int32), (0 : Int32), (0 : Int32), (0 : Int32)] := A_r.set A'
            refine g_aload X hx (hb hby at_168) rfl rfl (pc' := 170) rfl ?_
            refine g_iconst X hx (hb hby at_170) (x := (4 : Int32)) (by decide) (pc' := 171) rfl ?_
            refine g_iload X hx (hb hby at_171) rfl (pc' := 173) rfl ?_
            refine g_i2b X hx (hb hby at_173) (pc' := 174) rfl ?_
            refine g_bastoreB X hx hZ eT A_r.2 (hb hby at_174) (by decide) (by decide) (pc' := 175) rfl (fun T h X eT W A' => ?_)
            replace N := Fr.snoc X N g_r
            replace Zn := Nat.le_trans Zn (Nat.le_of_eq W.size.symm)
            replace A_r : Al Z h r .byte 10 [(nar .byte (p3.toInt8.toInt32)), (nar .byte ((XT.ushr p3 (8 : Int32)).toInt8.toInt32)), (nar .byte ((XT.ushr p3 (16 : Int32)).toInt8.toInt32)), (nar .byte ((XT.ushr p3 (24 : Int32)).toInt8.toInt32)), (nar .byte (p4.toInt8.toInt32)), (0 : Int32), (0 : Int32), (0 : Int32), (0 : Int32), (0 : Int32)] := A_r.set A'
            refine g_aload X hx (hb hby at_175) rfl rfl (pc' := 177) rfl ?_
            refine g_iconst X hx (hb hby at_177) (x := (5 : Int32)) (by decide) (pc' := 178) rfl ?_
            refine g_iload X hx (hb hby at_178) rfl (pc' := 180) rfl ?_
            refine g_bipush X hx (hb hby at_180) (x := (8 : Int32)) (by decide) (pc' := 182) rfl ?_
            refine g_iushr X hx (hb hby at_182) (pc' := 183) rfl ?_
            refine g_i2b X hx (hb hby at_183) (pc' := 184) rfl ?_
            refine g_bastoreB X hx hZ eT A_r.2 (hb hby at_184) (by decide) (by decide) (pc' := 185) rfl (fun T h X eT W A' => ?_)
            replace N := Fr.snoc X N g_r
            replace Zn := Nat.le_trans Zn (Nat.le_of_eq W.size.symm)
            replace A_r : Al Z h r .byte 10 [(nar .byte (p3.toInt8.toInt32)), (nar .byte ((XT.ushr p3 (8 : Int32)).toInt8.toInt32)), (nar .byte ((XT.ushr p3 (16 : Int32)).toInt8.toInt32)), (nar .byte ((XT.ushr p3 (24 : Int32)).toInt8.toInt32)), (nar .byte (p4.toInt8.toInt32)), (nar .byte ((XT.ushr p4 (8 : Int32)).toInt8.toInt32)), (0 : Int32), (0 : Int32), (0 : Int32), (0 : Int32)] := A_r.set A'
            refine g_aload X hx (hb hby at_185) rfl rfl (pc' := 187) rfl ?_
            refine g_bipush X hx (hb hby at_187) (x := (6 : Int32)) (by decide) (pc' := 189) rfl ?_
            refine g_iload X hx (hb hby at_189) rfl (pc' := 191) rfl ?_
            refine g_bipush X hx (hb hby at_191) (x := (16 : Int32)) (by decide) (pc' := 193) rfl ?_
            refine g_iushr X hx (hb hby at_193) (pc' := 194) rfl ?_
            refine g_i2b X hx (hb hby at_194) (pc' := 195) rfl ?_
            refine g_bastoreB X hx hZ eT A_r.2 (hb hby at_195) (by decide) (by decide) (pc' := 196) rfl (fun T h X eT W A' => ?_)
            replace N := Fr.snoc X N g_r
            replace Zn := Nat.le_trans Zn (Nat.le_of_eq W.size.symm)
            replace A_r : Al Z h r .byte 10 [(nar .byte (p3.toInt8.toInt32)), (nar .byte ((XT.ushr p3 (8 : Int32)).toInt8.toInt32)), (nar .byte ((XT.ushr p3 (16 : Int32)).toInt8.toInt32)), (nar .byte ((XT.ushr p3 (24 : Int32)).toInt8.toInt32)), (nar .byte (p4.toInt8.toInt32)), (nar .byte ((XT.ushr p4 (8 : Int32)).toInt8.toInt32)), (nar .byte ((XT.ushr p4 (16 : Int32)).toInt8.toInt32)), (0 : Int32), (0 : Int32), (0 : Int32)] := A_r.set A'
            refine g_aload X hx (hb hby at_196) rfl rfl (pc' := 198) rfl ?_
            refine g_bipush X hx (hb hby at_198) (x := (7 : Int32)) (by decide) (pc' := 200) rfl ?_
            refine g_iload X hx (hb hby at_200) rfl (pc' := 202) rfl ?_
            refine g_bipush X hx (hb hby at_202) (x := (24 : Int32)) (by decide) (pc' := 204) rfl ?_
            refine g_iushr X hx (hb hby at_204) (pc' := 205) rfl ?_
            refine g_i2b X hx (hb hby at_205) (pc' := 206) rfl ?_
            refine g_bastoreB X hx hZ eT A_r.2 (hb hby at_206) (by decide) (by decide) (pc' := 207) rfl (fun T h X eT W A' => ?_)
            replace N := Fr.snoc X N g_r
            replace Zn := Nat.le_trans Zn (Nat.le_of_eq W.size.symm)
            replace A_r : Al Z h r .byte 10 [(nar .byte (p3.toInt8.toInt32)), (nar .byte ((XT.ushr p3 (8 : Int32)).toInt8.toInt32)), (nar .byte ((XT.ushr p3 (16 : Int32)).toInt8.toInt32)), (nar .byte ((XT.ushr p3 (24 : Int32)).toInt8.toInt32)), (nar .byte (p4.toInt8.toInt32)), (nar .byte ((XT.ushr p4 (8 : Int32)).toInt8.toInt32)), (nar .byte ((XT.ushr p4 (16 : Int32)).toInt8.toInt32)), (nar .byte ((XT.ushr p4 (24 : Int32)).toInt8.toInt32)), (0 : Int32), (0 : Int32)] := A_r.set A'
            refine g_aload X hx (hb hby at_207) rfl rfl (pc' := 209) rfl ?_
            refine g_bipush X hx (hb hby at_209) (x := (8 : Int32)) (by decide) (pc' := 211) rfl ?_
            refine g_iloadN X hx (hb hby at_211) rfl (pc' := 212) rfl ?_
            refine g_iload X hx (hb hby at_212) rfl (pc' := 214) rfl ?_
            refine g_ixor X hx (hb hby at_214) (pc' := 215) rfl ?_
            refine g_i2b X hx (hb hby at_215) (pc' := 216) rfl ?_
            refine g_bastoreB X hx hZ eT A_r.2 (hb hby at_216) (by decide) (by decide) (pc' := 217) rfl (fun T h X eT W A' => ?_)
            replace N := Fr.snoc X N g_r
            replace Zn := Nat.le_trans Zn (Nat.le_of_eq W.size.symm)
            replace A_r : Al Z h r .byte 10 [(nar .byte (p3.toInt8.toInt32)), (nar .byte ((XT.ushr p3 (8 : Int32)).toInt8.toInt32)), (nar .byte ((XT.ushr p3 (16 : Int32)).toInt8.toInt32)), (nar .byte ((XT.ushr p3 (24 : Int32)).toInt8.toInt32)), (nar .byte (p4.toInt8.toInt32)), (nar .byte ((XT.ushr p4 (8 : Int32)).toInt8.toInt32)), (nar .byte ((XT.ushr p4 (16 : Int32)).toInt8.toInt32)), (nar .byte ((XT.ushr p4 (24 : Int32)).toInt8.toInt32)), (nar .byte ((p3 ^^^ p4).toInt8.toInt32)), (0 : Int32)] := A_r.set A'
            refine g_aload X hx (hb hby at_217) rfl rfl (pc' := 219) rfl ?_
            refine g_bipush X hx (hb hby at_219) (x := (9 : Int32)) (by decide) (pc' := 221) rfl ?_
            refine g_iloadN X hx (hb hby at_221) rfl (pc' := 222) rfl ?_
            refine g_iload X hx (hb hby at_222) rfl (pc' := 224) rfl ?_
            refine g_iadd X hx (hb hby at_224) (pc' := 225) rfl ?_
            refine g_i2b X hx (hb hby at_225) (pc' := 226) rfl ?_
            refine g_bastoreB X hx hZ eT A_r.2 (hb hby at_226) (by decide) (by decide) (pc' := 227) rfl (fun T h X eT W A' => ?_)
            replace N := Fr.snoc X N g_r
            replace Zn := Nat.le_trans Zn (Nat.le_of_eq W.size.symm)
            replace A_r : Al Z h r .byte 10 [(nar .byte (p3.toInt8.toInt32)), (nar .byte ((XT.ushr p3 (8 : Int32)).toInt8.toInt32)), (nar .byte ((XT.ushr p3 (16 : Int32)).toInt8.toInt32)), (nar .byte ((XT.ushr p3 (24 : Int32)).toInt8.toInt32)), (nar .byte (p4.toInt8.toInt32)), (nar .byte ((XT.ushr p4 (8 : Int32)).toInt8.toInt32)), (nar .byte ((XT.ushr p4 (16 : Int32)).toInt8.toInt32)), (nar .byte ((XT.ushr p4 (24 : Int32)).toInt8.toInt32)), (nar .byte ((p3 ^^^ p4).toInt8.toInt32)), (nar .byte ((p3 + p4).toInt8.toInt32))] := A_r.set A'
            obtain ⟨L0, hL0⟩ : ∃ z : List Int32, z = [(nar .byte (p3.toInt8.toInt32)), (nar .byte ((XT.ushr p3 (8 : Int32)).toInt8.toInt32)), (nar .byte ((XT.ushr p3 (16 : Int32)).toInt8.toInt32)), (nar .byte ((XT.ushr p3 (24 : Int32)).toInt8.toInt32)), (nar .byte (p4.toInt8.toInt32)), (nar .byte ((XT.ushr p4 (8 : Int32)).toInt8.toInt32)), (nar .byte ((XT.ushr p4 (16 : Int32)).toInt8.toInt32)), (nar .byte ((XT.ushr p4 (24 : Int32)).toInt8.toInt32)), (nar .byte ((p3 ^^^ p4).toInt8.toInt32)), (nar .byte ((p3 + p4).toInt8.toInt32))] := ⟨_, rfl⟩
            rw [← hL0] at A_r
            have hl0 : L0.length = 10 := A_r.1
            have y0 : f.toInt = f.toInt + ((0 : Nat) : Int) := by omega
            have y1 : (f + (1 : Int32)).toInt = f.toInt + ((1 : Nat) : Int) := by have q := upn f (1 : Int32) (by omega) (by omega) (by decide); simp only [Int32.reduceToInt] at q; omega
            have y2 : (f + (2 : Int32)).toInt = f.toInt + ((2 : Nat) : Int) := by have q := upn f (2 : Int32) (by omega) (by omega) (by decide); simp only [Int32.reduceToInt] at q; omega
            have y3 : (f + (3 : Int32)).toInt = f.toInt + ((3 : Nat) : Int) := by have q := upn f (3 : Int32) (by omega) (by omega) (by decide); simp only [Int32.reduceToInt] at q; omega
            have y4 : (f + (4 : Int32)).toInt = f.toInt + ((4 : Nat) : Int) := by have q := upn f (4 : Int32) (by omega) (by omega) (by decide); simp only [Int32.reduceToInt] at q; omega
            have x0 := nc _ f 0 y0 pf.1
            have x1 := nc _ f 1 y1 pf.1
            have x2 := nc _ f 2 y2 pf.1
            have x3 := nc _ f 3 y3 pf.1
            have x4 := nc _ f 4 y4 pf.1
            have hF : f.toNatClampNeg ≤ 3 := by have e : f.toNatClampNeg = Int.toNat f.toInt := rfl; omega
            have l0 : f.toNatClampNeg < 10 := by omega
            have l1 : f.toNatClampNeg + 1 < 10 := by omega
            have l2 : f.toNatClampNeg + 2 < 10 := by omega
            have l3 : f.toNatClampNeg + 3 < 10 := by omega
            have l4 : f.toNatClampNeg + 4 < 10 := by omega
            refine g_aload X hx (hb hby at_227) rfl rfl (pc' := 229) rfl ?_
            refine g_iload X hx (hb hby at_229) rfl (pc' := 231) rfl ?_
            refine g_iload X hx (hb hby at_231) rfl (pc' := 233) rfl ?_
            refine g_iconst X hx (hb hby at_233) (x := (0 : Int32)) (by decide) (pc' := 234) rfl ?_
            refine g_iload X hx (hb hby at_234) rfl (pc' := 236) rfl ?_
            refine g_stat (W := 2) (argsL := [(.int nn), (.int (0 : Int32)), (.int (5 : Int32))]) (st := [(.int f), (.ref r)]) X hx hZ hown (hw _ (List.mem_of_getElem? (i := 3) rfl)) (hw _ (List.mem_of_getElem? (i := 4) rfl)) (hw _ (List.mem_of_getElem? (i := 5) rfl)) (hw _ (List.mem_of_getElem? (i := 6) rfl)) (by decide) (rmE l Z a0 hw nn (0 : Int32) (5 : Int32) h n0 Zn  ) eT (by decide) (by decide) (by decide) (by decide) (lenOf pd_0 rfl) (by rw [hml]; rfl) rfl (Nat.le_of_eq rfl) (hb hby at_236) (pc' := 239) rfl (fun T hn vq Lq X eT hQ => ?_)
            obtain ⟨rfl, Nq, hE⟩ := hQ
            replace N := Fr.app N Nq
            rw [hE] at eT; clear hE
            show WGo _ _ _ _ _ _ _ _ (mkF m 239 #[.val (.int p0), .val (.int p1), .val (.int p2), .val (.int p3), .val (.int p4), .val (.int ((p1 &&& (2147483647 : Int32)) % (5 : Int32))), .val (.int nn), .val (.int (5 : Int32)), .val (.int f), .val (.ref r)] [(.int (encV nn (0 : Int32) (5 : Int32))), (.int f), (.ref r)])
            refine g_bastoreB X hx hZ eT A_r.2 (hb hby at_239) (in10 y0 pf.1 (by omega)).1 (in10 y0 pf.1 (by omega)).2 (pc' := 240) rfl (fun T h X eT W A' => ?_)
            replace N := Fr.snoc X N g_r
            replace Zn := Nat.le_trans Zn (Nat.le_of_eq W.size.symm)
            replace A_r : Al Z h r .byte 10 (L0.set f.toNatClampNeg (nar .byte (encV nn (0 : Int32) (5 : Int32)))) := A_r.set A'
            refine g_iload X hx (hb hby at_240) rfl (pc' := 242) rfl ?_
            refine g_iconst X hx (hb hby at_242) (x := (1 : Int32)) (by decide) (pc' := 243) rfl ?_
            refine g_icmp X hx (hb hby at_243) (by decide) (pc' := 261) (by decide) (pc2 := 246) rfl (fun hc => ?_) (fun hc => ?_)
            · replace hc := h_le1 hc
              have hc243 := hc
              exfalso
              clear hc243; revert hc; decide
            · replace hc := h_le0 hc
              have hc243 := hc
              refine g_aload X hx (hb hby at_246) rfl rfl (pc' := 248) rfl ?_
              refine g_iload X hx (hb hby at_248) rfl (pc' := 250) rfl ?_
              refine g_iconst X hx (hb hby at_250) (x := (1 : Int32)) (by decide) (pc' := 251) rfl ?_
              refine g_iadd X hx (hb hby at_251) (pc' := 252) rfl ?_
              refine g_iload X hx (hb hby at_252) rfl (pc' := 254) rfl ?_
              refine g_iconst X hx (hb hby at_254) (x := (1 : Int32)) (by decide) (pc' := 255) rfl ?_
              refine g_iload X hx (hb hby at_255) rfl (pc' := 257) rfl ?_
              refine g_stat (W := 2) (argsL := [(.int nn), (.int (1 : Int32)), (.int (5 : Int32))]) (st := [(.int (f + (1 : Int32))), (.ref r)]) X hx hZ hown (hw _ (List.mem_of_getElem? (i := 3) rfl)) (hw _ (List.mem_of_getElem? (i := 4) rfl)) (hw _ (List.mem_of_getElem? (i := 5) rfl)) (hw _ (List.mem_of_getElem? (i := 6) rfl)) (by decide) (rmE l Z a0 hw nn (1 : Int32) (5 : Int32) h n0 Zn  ) eT (by decide) (by decide) (by decide) (by decide) (lenOf pd_0 rfl) (by rw [hml]; rfl) rfl (Nat.le_of_eq rfl) (hb hby at_257) (pc' := 260) rfl (fun T hn vq Lq X eT hQ => ?_)
              obtain ⟨rfl, Nq, hE⟩ := hQ
              replace N := Fr.app N Nq
              rw [hE] at eT; clear hE
              show WGo _ _ _ _ _ _ _ _ (mkF m 260 #[.val (.int p0), .val (.int p1), .val (.int p2), .val (.int p3), .val (.int p4), .val (.int ((p1 &&& (2147483647 : Int32)) % (5 : Int32))), .val (.int nn), .val (.int (5 : Int32)), .val (.int f), .val (.ref r)] [(.int (encV nn (1 : Int32) (5 : Int32))), (.int (f + (1 : Int32))), (.ref r)])
              refine g_bastoreB X hx hZ eT A_r.2 (hb hby at_260) (in10 y1 pf.1 (by omega)).1 (in10 y1 pf.1 (by omega)).2 (pc' := 261) rfl (fun T h X eT W A' => ?_)
              replace N := Fr.snoc X N g_r
              replace Zn := Nat.le_trans Zn (Nat.le_of_eq W.size.symm)
              replace A_r : Al Z h r .byte 10 ((L0.set f.toNatClampNeg (nar .byte (encV nn (0 : Int32) (5 : Int32)))).set (f + (1 : Int32)).toNatClampNeg (nar .byte (encV nn (1 : Int32) (5 : Int32)))) := A_r.set A'
              refine g_iload X hx (hb hby at_261) rfl (pc' := 263) rfl ?_
              refine g_iconst X hx (hb hby at_263) (x := (2 : Int32)) (by decide) (pc' := 264) rfl ?_
              refine g_icmp X hx (hb hby at_264) (by decide) (pc' := 282) (by decide) (pc2 := 267) rfl (fun hc => ?_) (fun hc => ?_)
              · replace hc := h_le1 hc
                have hc264 := hc
                exfalso
                clear hc264; revert hc; decide
              · replace hc := h_le0 hc
                have hc264 := hc
                refine g_aload X hx (hb hby at_267) rfl rfl (pc' := 269) rfl ?_
                refine g_iload X hx (hb hby at_269) rfl (pc' := 271) rfl ?_
                refine g_iconst X hx (hb hby at_271) (x := (2 : Int32)) (by decide) (pc' := 272) rfl ?_
                refine g_iadd X hx (hb hby at_272) (pc' := 273) rfl ?_
                refine g_iload X hx (hb hby at_273) rfl (pc' := 275) rfl ?_
                refine g_iconst X hx (hb hby at_275) (x := (2 : Int32)) (by decide) (pc' := 276) rfl ?_
                refine g_iload X hx (hb hby at_276) rfl (pc' := 278) rfl ?_
                refine g_stat (W := 2) (argsL := [(.int nn), (.int (2 : Int32)), (.int (5 : Int32))]) (st := [(.int (f + (2 : Int32))), (.ref r)]) X hx hZ hown (hw _ (List.mem_of_getElem? (i := 3) rfl)) (hw _ (List.mem_of_getElem? (i := 4) rfl)) (hw _ (List.mem_of_getElem? (i := 5) rfl)) (hw _ (List.mem_of_getElem? (i := 6) rfl)) (by decide) (rmE l Z a0 hw nn (2 : Int32) (5 : Int32) h n0 Zn  ) eT (by decide) (by decide) (by decide) (by decide) (lenOf pd_0 rfl) (by rw [hml]; rfl) rfl (Nat.le_of_eq rfl) (hb hby at_278) (pc' := 281) rfl (fun T hn vq Lq X eT hQ => ?_)
                obtain ⟨rfl, Nq, hE⟩ := hQ
                replace N := Fr.app N Nq
                rw [hE] at eT; clear hE
                show WGo _ _ _ _ _ _ _ _ (mkF m 281 #[.val (.int p0), .val (.int p1), .val (.int p2), .val (.int p3), .val (.int p4), .val (.int ((p1 &&& (2147483647 : Int32)) % (5 : Int32))), .val (.int nn), .val (.int (5 : Int32)), .val (.int f), .val (.ref r)] [(.int (encV nn (2 : Int32) (5 : Int32))), (.int (f + (2 : Int32))), (.ref r)])
                refine g_bastoreB X hx hZ eT A_r.2 (hb hby at_281) (in10 y2 pf.1 (by omega)).1 (in10 y2 pf.1 (by omega)).2 (pc' := 282) rfl (fun T h X eT W A' => ?_)
                replace N := Fr.snoc X N g_r
                replace Zn := Nat.le_trans Zn (Nat.le_of_eq W.size.symm)
                replace A_r : Al Z h r .byte 10 (((L0.set f.toNatClampNeg (nar .byte (encV nn (0 : Int32) (5 : Int32)))).set (f + (1 : Int32)).toNatClampNeg (nar .byte (encV nn (1 : Int32) (5 : Int32)))).set (f + (2 : Int32)).toNatClampNeg (nar .byte (encV nn (2 : Int32) (5 : Int32)))) := A_r.set A'
                refine g_iload X hx (hb hby at_282) rfl (pc' := 284) rfl ?_
                refine g_iconst X hx (hb hby at_284) (x := (3 : Int32)) (by decide) (pc' := 285) rfl ?_
                refine g_icmp X hx (hb hby at_285) (by decide) (pc' := 303) (by decide) (pc2 := 288) rfl (fun hc => ?_) (fun hc => ?_)
                · replace hc := h_le1 hc
                  have hc285 := hc
                  exfalso
                  clear hc285; revert hc; decide
                · replace hc := h_le0 hc
                  have hc285 := hc
                  refine g_aload X hx (hb hby at_288) rfl rfl (pc' := 290) rfl ?_
                  refine g_iload X hx (hb hby at_290) rfl (pc' := 292) rfl ?_
                  refine g_iconst X hx (hb hby at_292) (x := (3 : Int32)) (by decide) (pc' := 293) rfl ?_
                  refine g_iadd X hx (hb hby at_293) (pc' := 294) rfl ?_
                  refine g_iload X hx (hb hby at_294) rfl (pc' := 296) rfl ?_
                  refine g_iconst X hx (hb hby at_296) (x := (3 : Int32)) (by decide) (pc' := 297) rfl ?_
                  refine g_iload X hx (hb hby at_297) rfl (pc' := 299) rfl ?_
                  refine g_stat (W := 2) (argsL := [(.int nn), (.int (3 : Int32)), (.int (5 : Int32))]) (st := [(.int (f + (3 : Int32))), (.ref r)]) X hx hZ hown (hw _ (List.mem_of_getElem? (i := 3) rfl)) (hw _ (List.mem_of_getElem? (i := 4) rfl)) (hw _ (List.mem_of_getElem? (i := 5) rfl)) (hw _ (List.mem_of_getElem? (i := 6) rfl)) (by decide) (rmE l Z a0 hw nn (3 : Int32) (5 : Int32) h n0 Zn  ) eT (by decide) (by decide) (by decide) (by decide) (lenOf pd_0 rfl) (by rw [hml]; rfl) rfl (Nat.le_of_eq rfl) (hb hby at_299) (pc' := 302) rfl (fun T hn vq Lq X eT hQ => ?_)
                  obtain ⟨rfl, Nq, hE⟩ := hQ
                  replace N := Fr.app N Nq
                  rw [hE] at eT; clear hE
                  show WGo _ _ _ _ _ _ _ _ (mkF m 302 #[.val (.int p0), .val (.int p1), .val (.int p2), .val (.int p3), .val (.int p4), .val (.int ((p1 &&& (2147483647 : Int32)) % (5 : Int32))), .val (.int nn), .val (.int (5 : Int32)), .val (.int f), .val (.ref r)] [(.int (encV nn (3 : Int32) (5 : Int32))), (.int (f + (3 : Int32))), (.ref r)])
                  refine g_bastoreB X hx hZ eT A_r.2 (hb hby at_302) (in10 y3 pf.1 (by omega)).1 (in10 y3 pf.1 (by omega)).2 (pc' := 303) rfl (fun T h X eT W A' => ?_)
                  replace N := Fr.snoc X N g_r
                  replace Zn := Nat.le_trans Zn (Nat.le_of_eq W.size.symm)
                  replace A_r : Al Z h r .byte 10 ((((L0.set f.toNatClampNeg (nar .byte (encV nn (0 : Int32) (5 : Int32)))).set (f + (1 : Int32)).toNatClampNeg (nar .byte (encV nn (1 : Int32) (5 : Int32)))).set (f + (2 : Int32)).toNatClampNeg (nar .byte (encV nn (2 : Int32) (5 : Int32)))).set (f + (3 : Int32)).toNatClampNeg (nar .byte (encV nn (3 : Int32) (5 : Int32)))) := A_r.set A'
                  refine g_iload X hx (hb hby at_303) rfl (pc' := 305) rfl ?_
                  refine g_iconst X hx (hb hby at_305) (x := (4 : Int32)) (by decide) (pc' := 306) rfl ?_
                  refine g_icmp X hx (hb hby at_306) (by decide) (pc' := 324) (by decide) (pc2 := 309) rfl (fun hc => ?_) (fun hc => ?_)
                  · replace hc := h_le1 hc
                    have hc306 := hc
                    exfalso
                    clear hc306; revert hc; decide
                  · replace hc := h_le0 hc
                    have hc306 := hc
                    refine g_aload X hx (hb hby at_309) rfl rfl (pc' := 311) rfl ?_
                    refine g_iload X hx (hb hby at_311) rfl (pc' := 313) rfl ?_
                    refine g_iconst X hx (hb hby at_313) (x := (4 : Int32)) (by decide) (pc' := 314) rfl ?_
                    refine g_iadd X hx (hb hby at_314) (pc' := 315) rfl ?_
                    refine g_iload X hx (hb hby at_315) rfl (pc' := 317) rfl ?_
                    refine g_iconst X hx (hb hby at_317) (x := (4 : Int32)) (by decide) (pc' := 318) rfl ?_
                    refine g_iload X hx (hb hby at_318) rfl (pc' := 320) rfl ?_
                    refine g_stat (W := 2) (argsL := [(.int nn), (.int (4 : Int32)), (.int (5 : Int32))]) (st := [(.int (f + (4 : Int32))), (.ref r)]) X hx hZ hown (hw _ (List.mem_of_getElem? (i := 3) rfl)) (hw _ (List.mem_of_getElem? (i := 4) rfl)) (hw _ (List.mem_of_getElem? (i := 5) rfl)) (hw _ (List.mem_of_getElem? (i := 6) rfl)) (by decide) (rmE l Z a0 hw nn (4 : Int32) (5 : Int32) h n0 Zn  ) eT (by decide) (by decide) (by decide) (by decide) (lenOf pd_0 rfl) (by rw [hml]; rfl) rfl (Nat.le_of_eq rfl) (hb hby at_320) (pc' := 323) rfl (fun T hn vq Lq X eT hQ => ?_)
                    obtain ⟨rfl, Nq, hE⟩ := hQ
                    replace N := Fr.app N Nq
                    rw [hE] at eT; clear hE
                    show WGo _ _ _ _ _ _ _ _ (mkF m 323 #[.val (.int p0), .val (.int p1), .val (.int p2), .val (.int p3), .val (.int p4), .val (.int ((p1 &&& (2147483647 : Int32)) % (5 : Int32))), .val (.int nn), .val (.int (5 : Int32)), .val (.int f), .val (.ref r)] [(.int (encV nn (4 : Int32) (5 : Int32))), (.int (f + (4 : Int32))), (.ref r)])
                    refine g_bastoreB X hx hZ eT A_r.2 (hb hby at_323) (in10 y4 pf.1 (by omega)).1 (in10 y4 pf.1 (by omega)).2 (pc' := 324) rfl (fun T h X eT W A' => ?_)
                    replace N := Fr.snoc X N g_r
                    replace Zn := Nat.le_trans Zn (Nat.le_of_eq W.size.symm)
                    replace A_r : Al Z h r .byte 10 (((((L0.set f.toNatClampNeg (nar .byte (encV nn (0 : Int32) (5 : Int32)))).set (f + (1 : Int32)).toNatClampNeg (nar .byte (encV nn (1 : Int32) (5 : Int32)))).set (f + (2 : Int32)).toNatClampNeg (nar .byte (encV nn (2 : Int32) (5 : Int32)))).set (f + (3 : Int32)).toNatClampNeg (nar .byte (encV nn (3 : Int32) (5 : Int32)))).set (f + (4 : Int32)).toNatClampNeg (nar .byte (encV nn (4 : Int32) (5 : Int32)))) := A_r.set A'
                    refine g_aload X hx (hb hby at_324) rfl rfl (pc' := 326) rfl ?_
                    refine g_iload X hx (hb hby at_326) rfl (pc' := 328) rfl ?_
                    refine g_stat (W := 0) (argsL := [(.ref r), (.int f)]) (st := []) X hx hZ hown (hw _ (List.mem_of_getElem? (i := 7) rfl)) (hw _ (List.mem_of_getElem? (i := 8) rfl)) (hw _ (List.mem_of_getElem? (i := 9) rfl)) (hw _ (List.mem_of_getElem? (i := 10) rfl)) (by decide) (rmG5 l Z a0 hw r f (((((L0.set f.toNatClampNeg (nar .byte (encV nn (0 : Int32) (5 : Int32)))).set (f + (1 : Int32)).toNatClampNeg (nar .byte (encV nn (1 : Int32) (5 : Int32)))).set (f + (2 : Int32)).toNatClampNeg (nar .byte (encV nn (2 : Int32) (5 : Int32)))).set (f + (3 : Int32)).toNatClampNeg (nar .byte (encV nn (3 : Int32) (5 : Int32)))).set (f + (4 : Int32)).toNatClampNeg (nar .byte (encV nn (4 : Int32) (5 : Int32)))) (encB nn (0 : Int32) (5 : Int32)) (encB nn (1 : Int32) (5 : Int32)) (encB nn (2 : Int32) (5 : Int32)) (encB nn (3 : Int32) (5 : Int32)) (encB nn (4 : Int32) (5 : Int32)) h n0 Zn A_r (by omega) (by show List.getD _ (f.toNatClampNeg + 0) 0 = encB nn (0 : Int32) (5 : Int32); simp [List.getD, List.getElem?_set, x1, x2, x3, x4, hl0, encB, l0, l1, l2, l3, l4]; try omega) (by show List.getD _ (f.toNatClampNeg + 1) 0 = encB nn (1 : Int32) (5 : Int32); simp [List.getD, List.getElem?_set, x1, x2, x3, x4, hl0, encB, l0, l1, l2, l3, l4]; try omega) (by show List.getD _ (f.toNatClampNeg + 2) 0 = encB nn (2 : Int32) (5 : Int32); simp [List.getD, List.getElem?_set, x1, x2, x3, x4, hl0, encB, l0, l1, l2, l3, l4]; try omega) (by show List.getD _ (f.toNatClampNeg + 3) 0 = encB nn (3 : Int32) (5 : Int32); simp [List.getD, List.getElem?_set, x1, x2, x3, x4, hl0, encB, l0, l1, l2, l3, l4]; try omega) (by show List.getD _ (f.toNatClampNeg + 4) 0 = encB nn (4 : Int32) (5 : Int32); simp [List.getD, List.getElem?_set, x1, x2, x3, x4, hl0, encB, l0, l1, l2, l3, l4]; try omega) (enc_neg nn _ _ (by decide)) (enc_neg nn _ _ (by decide)) (enc_neg nn _ _ (by decide)) (enc_neg nn _ _ (by decide)) (enc_pos nn _ _ (by decide))) eT (by decide) (by decide) (by decide) (by decide) (lenOf pd_1 rfl) (by rw [hml]; rfl) rfl (Nat.le_of_eq rfl) (hb hby at_328) (pc' := 331) rfl (fun T hn vq Lq X eT hQ => ?_)
                    obtain ⟨rfl, Nq, hE⟩ := hQ
                    replace N := Fr.app N Nq
                    rw [hE] at eT; clear hE
                    show WGo _ _ _ _ _ _ _ _ (mkF m 331 #[.val (.int p0), .val (.int p1), .val (.int p2), .val (.int p3), .val (.int p4), .val (.int ((p1 &&& (2147483647 : Int32)) % (5 : Int32))), .val (.int nn), .val (.int (5 : Int32)), .val (.int f), .val (.ref r)] [(.int ((((((0 : Int32) ||| (((encB nn (0 : Int32) (5 : Int32)) &&& (127 : Int32)) <<< ((0 : Int32) &&& 31))) ||| (((encB nn (1 : Int32) (5 : Int32)) &&& (127 : Int32)) <<< (((0 : Int32) + (7 : Int32)) &&& 31))) ||| (((encB nn (2 : Int32) (5 : Int32)) &&& (127 : Int32)) <<< ((((0 : Int32) + (7 : Int32)) + (7 : Int32)) &&& 31))) ||| (((encB nn (3 : Int32) (5 : Int32)) &&& (127 : Int32)) <<< (((((0 : Int32) + (7 : Int32)) + (7 : Int32)) + (7 : Int32)) &&& 31))) ||| (((encB nn (4 : Int32) (5 : Int32)) &&& (127 : Int32)) <<< ((((((0 : Int32) + (7 : Int32)) + (7 : Int32)) + (7 : Int32)) + (7 : Int32)) &&& 31))))])
                    refine g_iload X hx (hb hby at_331) rfl (pc' := 333) rfl ?_
                    refine g_icmp X hx (hb hby at_333) (by decide) (pc' := 340) (by decide) (pc2 := 336) rfl (fun hc => ?_) (fun hc => ?_)
                    · replace hc := h_ne1 hc
                      have hc333 := hc
                      exfalso
                      simp only [Int32.lt_iff_toInt_lt, Int32.reduceToInt] at hc80 hc92 hc103 hc114
                      exact hc (dec5 nn hj16)
                    · replace hc := h_ne0 hc
                      have hc333 := hc
                      refine g_iconst X hx (hb hby at_336) (x := (1 : Int32)) (by decide) (pc' := 337) rfl ?_
                      refine g_goto X hx (hb hby at_337) (by decide) (pc' := 341) (by decide) ?_
                      refine g_retN (t := .boolean) X hx hret (by simp) hlk (hb hby at_341) (by decide) (by decide) ?_
                      exact ⟨rfl, N⟩
          · replace hc := h_ge0 hc
            have hc114 := hc
            refine g_iconst X hx (hb hby at_117) (x := (4 : Int32)) (by decide) (pc' := 118) rfl ?_
            refine g_goto X hx (hb hby at_118) (by decide) (pc' := 122) (by decide) ?_
            refine g_istore X hx (hb hby at_122) (Ls' := #[.val (.int p0), .val (.int p1), .val (.int p2), .val (.int p3), .val (.int p4), .val (.int ((p1 &&& (2147483647 : Int32)) % (5 : Int32))), .val (.int nn), .val (.int (4 : Int32)), .unset, .unset]) rfl (pc' := 124) rfl ?_
            refine g_iloadN X hx (hb hby at_124) rfl (pc' := 125) rfl ?_
            refine g_iconst X hx (hb hby at_125) (x := (3 : Int32)) (by decide) (pc' := 126) rfl ?_
            refine g_iand X hx (hb hby at_126) (pc' := 127) rfl ?_
            obtain ⟨f, hf, pf⟩ : ∃ z : Int32, z = (p2 &&& (3 : Int32)) ∧ (0 ≤ z.toInt ∧ z.toInt ≤ 3) := ⟨_, rfl, (by have q := c_and p2 3 (by decide); simp only [Int32.reduceToInt] at q; exact q)⟩
            rw [← hf]
            refine g_istore X hx (hb hby at_127) (Ls' := #[.val (.int p0), .val (.int p1), .val (.int p2), .val (.int p3), .val (.int p4), .val (.int ((p1 &&& (2147483647 : Int32)) % (5 : Int32))), .val (.int nn), .val (.int (4 : Int32)), .val (.int f), .unset]) rfl (pc' := 129) rfl ?_
            refine g_bipush X hx (hb hby at_129) (x := (10 : Int32)) (by decide) (pc' := 131) rfl ?_
            refine g_newP (cap := 10) X hx hZ (hw _ (List.mem_of_getElem? (i := 2) rfl)) eT (hb hby at_131) (by decide) (by decide) (by decide) (by decide) (by decide) (pc' := 133) rfl (fun T h r ha X eT Ex A_r => ?_)
            have g_r : n0 ≤ r := by rw [ha]; exact Zn
            replace Zn := Nat.le_trans Zn Ex.1
            replace A_r : Al Z h r .byte 10 [0, 0, 0, 0, 0, 0, 0, 0, 0, 0] := Al.new A_r
            refine g_astore X hx (hb hby at_133) rfl (Ls' := #[.val (.int p0), .val (.int p1), .val (.int p2), .val (.int p3), .val (.int p4), .val (.int ((p1 &&& (2147483647 : Int32)) % (5 : Int32))), .val (.int nn), .val (.int (4 : Int32)), .val (.int f), .val (.ref r)]) rfl (pc' := 135) rfl ?_
            refine g_aload X hx (hb hby at_135) rfl rfl (pc' := 137) rfl ?_
            refine g_iconst X hx (hb hby at_137) (x := (0 : Int32)) (by decide) (pc' := 138) rfl ?_
            refine g_iloadN X hx (hb hby at_138) rfl (pc' := 139) rfl ?_
            refine g_i2b X hx (hb hby at_139) (pc' := 140) rfl ?_
            refine g_bastoreB X hx hZ eT A_r.2 (hb hby at_140) (by decide) (by decide) (pc' := 141) rfl (fun T h X eT W A' => ?_)
            replace N := Fr.snoc X N g_r
            replace Zn := Nat.le_trans Zn (Nat.le_of_eq W.size.symm)
            replace A_r : Al Z h r .byte 10 [(nar .byte (p3.toInt8.toInt32)), (0 : Int32), (0 : Int32), (0 : Int32), (0 : Int32), (0 : Int32), (0 : Int32), (0 : Int32), (0 : Int32), (0 : Int32)] := A_r.set A'
            refine g_aload X hx (hb hby at_141) rfl rfl (pc' := 143) rfl ?_
            refine g_iconst X hx (hb hby at_143) (x := (1 : Int32)) (by decide) (pc' := 144) rfl ?_
            refine g_iloadN X hx (hb hby at_144) rfl (pc' := 145) rfl ?_
            refine g_bipush X hx (hb hby at_145) (x := (8 : Int32)) (by decide) (pc' := 147) rfl ?_
            refine g_iushr X hx (hb hby at_147) (pc' := 148) rfl ?_
            refine g_i2b X hx (hb hby at_148) (pc' := 149) rfl ?_
            refine g_bastoreB X hx hZ eT A_r.2 (hb hby at_149) (by decide) (by decide) (pc' := 150) rfl (fun T h X eT W A' => ?_)
            replace N := Fr.snoc X N g_r
            replace Zn := Nat.le_trans Zn (Nat.le_of_eq W.size.symm)
            replace A_r : Al Z h r .byte 10 [(nar .byte (p3.toInt8.toInt32)), (nar .byte ((XT.ushr p3 (8 : Int32)).toInt8.toInt32)), (0 : Int32), (0 : Int32), (0 : Int32), (0 : Int32), (0 : Int32), (0 : Int32), (0 : Int32), (0 : Int32)] := A_r.set A'
            refine g_aload X hx (hb hby at_150) rfl rfl (pc' := 152) rfl ?_
            refine g_iconst X hx (hb hby at_152) (x := (2 : Int32)) (by decide) (pc' := 153) rfl ?_
            refine g_iloadN X hx (hb hby at_153) rfl (pc' := 154) rfl ?_
            refine g_bipush X hx (hb hby at_154) (x := (16 : Int32)) (by decide) (pc' := 156) rfl ?_
            refine g_iushr X hx (hb hby at_156) (pc' := 157) rfl ?_
            refine g_i2b X hx (hb hby at_157) (pc' := 158) rfl ?_
            refine g_bastoreB X hx hZ eT A_r.2 (hb hby at_158) (by decide) (by decide) (pc' := 159) rfl (fun T h X eT W A' => ?_)
            replace N := Fr.snoc X N g_r
            replace Zn := Nat.le_trans Zn (Nat.le_of_eq W.size.symm)
            replace A_r : Al Z h r .byte 10 [(nar .byte (p3.toInt8.toInt32)), (nar .byte ((XT.ushr p3 (8 : Int32)).toInt8.toInt32)), (nar .byte ((XT.ushr p3 (16 : Int32)).toInt8.toInt32)), (0 : Int32), (0 : Int32), (0 : Int32), (0 : Int32), (0 : Int32), (0 : Int32), (0 : Int32)] := A_r.set A'
            refine g_aload X hx (hb hby at_159) rfl rfl (pc' := 161) rfl ?_
            refine g_iconst X hx (hb hby at_161) (x := (3 : Int32)) (by decide) (pc' := 162) rfl ?_
            refine g_iloadN X hx (hb hby at_162) rfl (pc' := 163) rfl ?_
            refine g_bipush X hx (hb hby at_163) (x := (24 : Int32)) (by decide) (pc' := 165) rfl ?_
            refine g_iushr X hx (hb hby at_165) (pc' := 166) rfl ?_
            refine g_i2b X hx (hb hby at_166) (pc' := 167) rfl ?_
            refine g_bastoreB X hx hZ eT A_r.2 (hb hby at_167) (by decide) (by decide) (pc' := 168) rfl (fun T h X eT W A' => ?_)
            replace N := Fr.snoc X N g_r
            replace Zn := Nat.le_trans Zn (Nat.le_of_eq W.size.symm)
            replace A_r : Al Z h r .byte 10 [(nar .byte (p3.toInt8.toInt32)), (nar .byte ((XT.ushr p3 (8 : Int32)).toInt8.toInt32)), (nar .byte ((XT.ushr p3 (16 : Int32)).toInt8.toInt32)), (nar .byte ((XT.ushr p3 (24 : Int32)).toInt8.toInt32)), (0 : Int32), (0 : Int32), (0 : Int32), (0 : Int32), (0 : Int32), (0 : Int32)] := A_r.set A'
            refine g_aload X hx (hb hby at_168) rfl rfl (pc' := 170) rfl ?_
            refine g_iconst X hx (hb hby at_170) (x := (4 : Int32)) (by decide) (pc' := 171) rfl ?_
            refine g_iload X hx (hb hby at_171) rfl (pc' := 173) rfl ?_
            refine g_i2b X hx (hb hby at_173) (pc' := 174) rfl ?_
            refine g_bastoreB X hx hZ eT A_r.2 (hb hby at_174) (by decide) (by decide) (pc' := 175) rfl (fun T h X eT W A' => ?_)
            replace N := Fr.snoc X N g_r
            replace Zn := Nat.le_trans Zn (Nat.le_of_eq W.size.symm)
            replace A_r : Al Z h r .byte 10 [(nar .byte (p3.toInt8.toInt32)), (nar .byte ((XT.ushr p3 (8 : Int32)).toInt8.toInt32)), (nar .byte ((XT.ushr p3 (16 : Int32)).toInt8.toInt32)), (nar .byte ((XT.ushr p3 (24 : Int32)).toInt8.toInt32)), (nar .byte (p4.toInt8.toInt32)), (0 : Int32), (0 : Int32), (0 : Int32), (0 : Int32), (0 : Int32)] := A_r.set A'
            refine g_aload X hx (hb hby at_175) rfl rfl (pc' := 177) rfl ?_
            refine g_iconst X hx (hb hby at_177) (x := (5 : Int32)) (by decide) (pc' := 178) rfl ?_
            refine g_iload X hx (hb hby at_178) rfl (pc' := 180) rfl ?_
            refine g_bipush X hx (hb hby at_180) (x := (8 : Int32)) (by decide) (pc' := 182) rfl ?_
            refine g_iushr X hx (hb hby at_182) (pc' := 183) rfl ?_
            refine g_i2b X hx (hb hby at_183) (pc' := 184) rfl ?_
            refine g_bastoreB X hx hZ eT A_r.2 (hb hby at_184) (by decide) (by decide) (pc' := 185) rfl (fun T h X eT W A' => ?_)
            replace N := Fr.snoc X N g_r
            replace Zn := Nat.le_trans Zn (Nat.le_of_eq W.size.symm)
            replace A_r : Al Z h r .byte 10 [(nar .byte (p3.toInt8.toInt32)), (nar .byte ((XT.ushr p3 (8 : Int32)).toInt8.toInt32)), (nar .byte ((XT.ushr p3 (16 : Int32)).toInt8.toInt32)), (nar .byte ((XT.ushr p3 (24 : Int32)).toInt8.toInt32)), (nar .byte (p4.toInt8.toInt32)), (nar .byte ((XT.ushr p4 (8 : Int32)).toInt8.toInt32)), (0 : Int32), (0 : Int32), (0 : Int32), (0 : Int32)] := A_r.set A'
            refine g_aload X hx (hb hby at_185) rfl rfl (pc' := 187) rfl ?_
            refine g_bipush X hx (hb hby at_187) (x := (6 : Int32)) (by decide) (pc' := 189) rfl ?_
            refine g_iload X hx (hb hby at_189) rfl (pc' := 191) rfl ?_
            refine g_bipush X hx (hb hby at_191) (x := (16 : Int32)) (by decide) (pc' := 193) rfl ?_
            refine g_iushr X hx (hb hby at_193) (pc' := 194) rfl ?_
            refine g_i2b X hx (hb hby at_194) (pc' := 195) rfl ?_
            refine g_bastoreB X hx hZ eT A_r.2 (hb hby at_195) (by decide) (by decide) (pc' := 196) rfl (fun T h X eT W A' => ?_)
            replace N := Fr.snoc X N g_r
            replace Zn := Nat.le_trans Zn (Nat.le_of_eq W.size.symm)
            replace A_r : Al Z h r .byte 10 [(nar .byte (p3.toInt8.toInt32)), (nar .byte ((XT.ushr p3 (8 : Int32)).toInt8.toInt32)), (nar .byte ((XT.ushr p3 (16 : Int32)).toInt8.toInt32)), (nar .byte ((XT.ushr p3 (24 : Int32)).toInt8.toInt32)), (nar .byte (p4.toInt8.toInt32)), (nar .byte ((XT.ushr p4 (8 : Int32)).toInt8.toInt32)), (nar .byte ((XT.ushr p4 (16 : Int32)).toInt8.toInt32)), (0 : Int32), (0 : Int32), (0 : Int32)] := A_r.set A'
            refine g_aload X hx (hb hby at_196) rfl rfl (pc' := 198) rfl ?_
            refine g_bipush X hx (hb hby at_198) (x := (7 : Int32)) (by decide) (pc' := 200) rfl ?_
            refine g_iload X hx (hb hby at_200) rfl (pc' := 202) rfl ?_
            refine g_bipush X hx (hb hby at_202) (x := (24 : Int32)) (by decide) (pc' := 204) rfl ?_
            refine g_iushr X hx (hb hby at_204) (pc' := 205) rfl ?_
            refine g_i2b X hx (hb hby at_205) (pc' := 206) rfl ?_
            refine g_bastoreB X hx hZ eT A_r.2 (hb hby at_206) (by decide) (by decide) (pc' := 207) rfl (fun T h X eT W A' => ?_)
            replace N := Fr.snoc X N g_r
            replace Zn := Nat.le_trans Zn (Nat.le_of_eq W.size.symm)
            replace A_r : Al Z h r .byte 10 [(nar .byte (p3.toInt8.toInt32)), (nar .byte ((XT.ushr p3 (8 : Int32)).toInt8.toInt32)), (nar .byte ((XT.ushr p3 (16 : Int32)).toInt8.toInt32)), (nar .byte ((XT.ushr p3 (24 : Int32)).toInt8.toInt32)), (nar .byte (p4.toInt8.toInt32)), (nar .byte ((XT.ushr p4 (8 : Int32)).toInt8.toInt32)), (nar .byte ((XT.ushr p4 (16 : Int32)).toInt8.toInt32)), (nar .byte ((XT.ushr p4 (24 : Int32)).toInt8.toInt32)), (0 : Int32), (0 : Int32)] := A_r.set A'
            refine g_aload X hx (hb hby at_207) rfl rfl (pc' := 209) rfl ?_
            refine g_bipush X hx (hb hby at_209) (x := (8 : Int32)) (by decide) (pc' := 211) rfl ?_
            refine g_iloadN X hx (hb hby at_211) rfl (pc' := 212) rfl ?_
            refine g_iload X hx (hb hby at_212) rfl (pc' := 214) rfl ?_
            refine g_ixor X hx (hb hby at_214) (pc' := 215) rfl ?_
            refine g_i2b X hx (hb hby at_215) (pc' := 216) rfl ?_
            refine g_bastoreB X hx hZ eT A_r.2 (hb hby at_216) (by decide) (by decide) (pc' := 217) rfl (fun T h X eT W A' => ?_)
            replace N := Fr.snoc X N g_r
            replace Zn := Nat.le_trans Zn (Nat.le_of_eq W.size.symm)
            replace A_r : Al Z h r .byte 10 [(nar .byte (p3.toInt8.toInt32)), (nar .byte ((XT.ushr p3 (8 : Int32)).toInt8.toInt32)), (nar .byte ((XT.ushr p3 (16 : Int32)).toInt8.toInt32)), (nar .byte ((XT.ushr p3 (24 : Int32)).toInt8.toInt32)), (nar .byte (p4.toInt8.toInt32)), (nar .byte ((XT.ushr p4 (8 : Int32)).toInt8.toInt32)), (nar .byte ((XT.ushr p4 (16 : Int32)).toInt8.toInt32)), (nar .byte ((XT.ushr p4 (24 : Int32)).toInt8.toInt32)), (nar .byte ((p3 ^^^ p4).toInt8.toInt32)), (0 : Int32)] := A_r.set A'
            refine g_aload X hx (hb hby at_217) rfl rfl (pc' := 219) rfl ?_
            refine g_bipush X hx (hb hby at_219) (x := (9 : Int32)) (by decide) (pc' := 221) rfl ?_
            refine g_iloadN X hx (hb hby at_221) rfl (pc' := 222) rfl ?_
            refine g_iload X hx (hb hby at_222) rfl (pc' := 224) rfl ?_
            refine g_iadd X hx (hb hby at_224) (pc' := 225) rfl ?_
            refine g_i2b X hx (hb hby at_225) (pc' := 226) rfl ?_
            refine g_bastoreB X hx hZ eT A_r.2 (hb hby at_226) (by decide) (by decide) (pc' := 227) rfl (fun T h X eT W A' => ?_)
            replace N := Fr.snoc X N g_r
            replace Zn := Nat.le_trans Zn (Nat.le_of_eq W.size.symm)
            replace A_r : Al Z h r .byte 10 [(nar .byte (p3.toInt8.toInt32)), (nar .byte ((XT.ushr p3 (8 : Int32)).toInt8.toInt32)), (nar .byte ((XT.ushr p3 (16 : Int32)).toInt8.toInt32)), (nar .byte ((XT.ushr p3 (24 : Int32)).toInt8.toInt32)), (nar .byte (p4.toInt8.toInt32)), (nar .byte ((XT.ushr p4 (8 : Int32)).toInt8.toInt32)), (nar .byte ((XT.ushr p4 (16 : Int32)).toInt8.toInt32)), (nar .byte ((XT.ushr p4 (24 : Int32)).toInt8.toInt32)), (nar .byte ((p3 ^^^ p4).toInt8.toInt32)), (nar .byte ((p3 + p4).toInt8.toInt32))] := A_r.set A'
            obtain ⟨L0, hL0⟩ : ∃ z : List Int32, z = [(nar .byte (p3.toInt8.toInt32)), (nar .byte ((XT.ushr p3 (8 : Int32)).toInt8.toInt32)), (nar .byte ((XT.ushr p3 (16 : Int32)).toInt8.toInt32)), (nar .byte ((XT.ushr p3 (24 : Int32)).toInt8.toInt32)), (nar .byte (p4.toInt8.toInt32)), (nar .byte ((XT.ushr p4 (8 : Int32)).toInt8.toInt32)), (nar .byte ((XT.ushr p4 (16 : Int32)).toInt8.toInt32)), (nar .byte ((XT.ushr p4 (24 : Int32)).toInt8.toInt32)), (nar .byte ((p3 ^^^ p4).toInt8.toInt32)), (nar .byte ((p3 + p4).toInt8.toInt32))] := ⟨_, rfl⟩
            rw [← hL0] at A_r
            have hl0 : L0.length = 10 := A_r.1
            have y0 : f.toInt = f.toInt + ((0 : Nat) : Int) := by omega
            have y1 : (f + (1 : Int32)).toInt = f.toInt + ((1 : Nat) : Int) := by have q := upn f (1 : Int32) (by omega) (by omega) (by decide); simp only [Int32.reduceToInt] at q; omega
            have y2 : (f + (2 : Int32)).toInt = f.toInt + ((2 : Nat) : Int) := by have q := upn f (2 : Int32) (by omega) (by omega) (by decide); simp only [Int32.reduceToInt] at q; omega
            have y3 : (f + (3 : Int32)).toInt = f.toInt + ((3 : Nat) : Int) := by have q := upn f (3 : Int32) (by omega) (by omega) (by decide); simp only [Int32.reduceToInt] at q; omega
            have y4 : (f + (4 : Int32)).toInt = f.toInt + ((4 : Nat) : Int) := by have q := upn f (4 : Int32) (by omega) (by omega) (by decide); simp only [Int32.reduceToInt] at q; omega
            have x0 := nc _ f 0 y0 pf.1
            have x1 := nc _ f 1 y1 pf.1
            have x2 := nc _ f 2 y2 pf.1
            have x3 := nc _ f 3 y3 pf.1
            have x4 := nc _ f 4 y4 pf.1
            have hF : f.toNatClampNeg ≤ 3 := by have e : f.toNatClampNeg = Int.toNat f.toInt := rfl; omega
            have l0 : f.toNatClampNeg < 10 := by omega
            have l1 : f.toNatClampNeg + 1 < 10 := by omega
            have l2 : f.toNatClampNeg + 2 < 10 := by omega
            have l3 : f.toNatClampNeg + 3 < 10 := by omega
            have l4 : f.toNatClampNeg + 4 < 10 := by omega
            refine g_aload X hx (hb hby at_227) rfl rfl (pc' := 229) rfl ?_
            refine g_iload X hx (hb hby at_229) rfl (pc' := 231) rfl ?_
            refine g_iload X hx (hb hby at_231) rfl (pc' := 233) rfl ?_
            refine g_iconst X hx (hb hby at_233) (x := (0 : Int32)) (by decide) (pc' := 234) rfl ?_
            refine g_iload X hx (hb hby at_234) rfl (pc' := 236) rfl ?_
            refine g_stat (W := 2) (argsL := [(.int nn), (.int (0 : Int32)), (.int (4 : Int32))]) (st := [(.int f), (.ref r)]) X hx hZ hown (hw _ (List.mem_of_getElem? (i := 3) rfl)) (hw _ (List.mem_of_getElem? (i := 4) rfl)) (hw _ (List.mem_of_getElem? (i := 5) rfl)) (hw _ (List.mem_of_getElem? (i := 6) rfl)) (by decide) (rmE l Z a0 hw nn (0 : Int32) (4 : Int32) h n0 Zn  ) eT (by decide) (by decide) (by decide) (by decide) (lenOf pd_0 rfl) (by rw [hml]; rfl) rfl (Nat.le_of_eq rfl) (hb hby at_236) (pc' := 239) rfl (fun T hn vq Lq X eT hQ => ?_)
            obtain ⟨rfl, Nq, hE⟩ := hQ
            replace N := Fr.app N Nq
            rw [hE] at eT; clear hE
            show WGo _ _ _ _ _ _ _ _ (mkF m 239 #[.val (.int p0), .val (.int p1), .val (.int p2), .val (.int p3), .val (.int p4), .val (.int ((p1 &&& (2147483647 : Int32)) % (5 : Int32))), .val (.int nn), .val (.int (4 : Int32)), .val (.int f), .val (.ref r)] [(.int (encV nn (0 : Int32) (4 : Int32))), (.int f), (.ref r)])
            refine g_bastoreB X hx hZ eT A_r.2 (hb hby at_239) (in10 y0 pf.1 (by omega)).1 (in10 y0 pf.1 (by omega)).2 (pc' := 240) rfl (fun T h X eT W A' => ?_)
            replace N := Fr.snoc X N g_r
            replace Zn := Nat.le_trans Zn (Nat.le_of_eq W.size.symm)
            replace A_r : Al Z h r .byte 10 (L0.set f.toNatClampNeg (nar .byte (encV nn (0 : Int32) (4 : Int32)))) := A_r.set A'
            refine g_iload X hx (hb hby at_240) rfl (pc' := 242) rfl ?_
            refine g_iconst X hx (hb hby at_242) (x := (1 : Int32)) (by decide) (pc' := 243) rfl ?_
            refine g_icmp X hx (hb hby at_243) (by decide) (pc' := 261) (by decide) (pc2 := 246) rfl (fun hc => ?_) (fun hc => ?_)
            · replace hc := h_le1 hc
              have hc243 := hc
              exfalso
              clear hc243; revert hc; decide
            · replace hc := h_le0 hc
              have hc243 := hc
              refine g_aload X hx (hb hby at_246) rfl rfl (pc' := 248) rfl ?_
              refine g_iload X hx (hb hby at_248) rfl (pc' := 250) rfl ?_
              refine g_iconst X hx (hb hby at_250) (x := (1 : Int32)) (by decide) (pc' := 251) rfl ?_
              refine g_iadd X hx (hb hby at_251) (pc' := 252) rfl ?_
              refine g_iload X hx (hb hby at_252) rfl (pc' := 254) rfl ?_
              refine g_iconst X hx (hb hby at_254) (x := (1 : Int32)) (by decide) (pc' := 255) rfl ?_
              refine g_iload X hx (hb hby at_255) rfl (pc' := 257) rfl ?_
              refine g_stat (W := 2) (argsL := [(.int nn), (.int (1 : Int32)), (.int (4 : Int32))]) (st := [(.int (f + (1 : Int32))), (.ref r)]) X hx hZ hown (hw _ (List.mem_of_getElem? (i := 3) rfl)) (hw _ (List.mem_of_getElem? (i := 4) rfl)) (hw _ (List.mem_of_getElem? (i := 5) rfl)) (hw _ (List.mem_of_getElem? (i := 6) rfl)) (by decide) (rmE l Z a0 hw nn (1 : Int32) (4 : Int32) h n0 Zn  ) eT (by decide) (by decide) (by decide) (by decide) (lenOf pd_0 rfl) (by rw [hml]; rfl) rfl (Nat.le_of_eq rfl) (hb hby at_257) (pc' := 260) rfl (fun T hn vq Lq X eT hQ => ?_)
              obtain ⟨rfl, Nq, hE⟩ := hQ
              replace N := Fr.app N Nq
              rw [hE] at eT; clear hE
              show WGo _ _ _ _ _ _ _ _ (mkF m 260 #[.val (.int p0), .val (.int p1), .val (.int p2), .val (.int p3), .val (.int p4), .val (.int ((p1 &&& (2147483647 : Int32)) % (5 : Int32))), .val (.int nn), .val (.int (4 : Int32)), .val (.int f), .val (.ref r)] [(.int (encV nn (1 : Int32) (4 : Int32))), (.int (f + (1 : Int32))), (.ref r)])
              refine g_bastoreB X hx hZ eT A_r.2 (hb hby at_260) (in10 y1 pf.1 (by omega)).1 (in10 y1 pf.1 (by omega)).2 (pc' := 261) rfl (fun T h X eT W A' => ?_)
              replace N := Fr.snoc X N g_r
              replace Zn := Nat.le_trans Zn (Nat.le_of_eq W.size.symm)
              replace A_r : Al Z h r .byte 10 ((L0.set f.toNatClampNeg (nar .byte (encV nn (0 : Int32) (4 : Int32)))).set (f + (1 : Int32)).toNatClampNeg (nar .byte (encV nn (1 : Int32) (4 : Int32)))) := A_r.set A'
              refine g_iload X hx (hb hby at_261) rfl (pc' := 263) rfl ?_
              refine g_iconst X hx (hb hby at_263) (x := (2 : Int32)) (by decide) (pc' := 264) rfl ?_
              refine g_icmp X hx (hb hby at_264) (by decide) (pc' := 282) (by decide) (pc2 := 267) rfl (fun hc => ?_) (fun hc => ?_)
              · replace hc := h_le1 hc
                have hc264 := hc
                exfalso
                clear hc264; revert hc; decide
              · replace hc := h_le0 hc
                have hc264 := hc
                refine g_aload X hx (hb hby at_267) rfl rfl (pc' := 269) rfl ?_
                refine g_iload X hx (hb hby at_269) rfl (pc' := 271) rfl ?_
                refine g_iconst X hx (hb hby at_271) (x := (2 : Int32)) (by decide) (pc' := 272) rfl ?_
                refine g_iadd X hx (hb hby at_272) (pc' := 273) rfl ?_
                refine g_iload X hx (hb hby at_273) rfl (pc' := 275) rfl ?_
                refine g_iconst X hx (hb hby at_275) (x := (2 : Int32)) (by decide) (pc' := 276) rfl ?_
                refine g_iload X hx (hb hby at_276) rfl (pc' := 278) rfl ?_
                refine g_stat (W := 2) (argsL := [(.int nn), (.int (2 : Int32)), (.int (4 : Int32))]) (st := [(.int (f + (2 : Int32))), (.ref r)]) X hx hZ hown (hw _ (List.mem_of_getElem? (i := 3) rfl)) (hw _ (List.mem_of_getElem? (i := 4) rfl)) (hw _ (List.mem_of_getElem? (i := 5) rfl)) (hw _ (List.mem_of_getElem? (i := 6) rfl)) (by decide) (rmE l Z a0 hw nn (2 : Int32) (4 : Int32) h n0 Zn  ) eT (by decide) (by decide) (by decide) (by decide) (lenOf pd_0 rfl) (by rw [hml]; rfl) rfl (Nat.le_of_eq rfl) (hb hby at_278) (pc' := 281) rfl (fun T hn vq Lq X eT hQ => ?_)
                obtain ⟨rfl, Nq, hE⟩ := hQ
                replace N := Fr.app N Nq
                rw [hE] at eT; clear hE
                show WGo _ _ _ _ _ _ _ _ (mkF m 281 #[.val (.int p0), .val (.int p1), .val (.int p2), .val (.int p3), .val (.int p4), .val (.int ((p1 &&& (2147483647 : Int32)) % (5 : Int32))), .val (.int nn), .val (.int (4 : Int32)), .val (.int f), .val (.ref r)] [(.int (encV nn (2 : Int32) (4 : Int32))), (.int (f + (2 : Int32))), (.ref r)])
                refine g_bastoreB X hx hZ eT A_r.2 (hb hby at_281) (in10 y2 pf.1 (by omega)).1 (in10 y2 pf.1 (by omega)).2 (pc' := 282) rfl (fun T h X eT W A' => ?_)
                replace N := Fr.snoc X N g_r
                replace Zn := Nat.le_trans Zn (Nat.le_of_eq W.size.symm)
                replace A_r : Al Z h r .byte 10 (((L0.set f.toNatClampNeg (nar .byte (encV nn (0 : Int32) (4 : Int32)))).set (f + (1 : Int32)).toNatClampNeg (nar .byte (encV nn (1 : Int32) (4 : Int32)))).set (f + (2 : Int32)).toNatClampNeg (nar .byte (encV nn (2 : Int32) (4 : Int32)))) := A_r.set A'
                refine g_iload X hx (hb hby at_282) rfl (pc' := 284) rfl ?_
                refine g_iconst X hx (hb hby at_284) (x := (3 : Int32)) (by decide) (pc' := 285) rfl ?_
                refine g_icmp X hx (hb hby at_285) (by decide) (pc' := 303) (by decide) (pc2 := 288) rfl (fun hc => ?_) (fun hc => ?_)
                · replace hc := h_le1 hc
                  have hc285 := hc
                  exfalso
                  clear hc285; revert hc; decide
                · replace hc := h_le0 hc
                  have hc285 := hc
                  refine g_aload X hx (hb hby at_288) rfl rfl (pc' := 290) rfl ?_
                  refine g_iload X hx (hb hby at_290) rfl (pc' := 292) rfl ?_
                  refine g_iconst X hx (hb hby at_292) (x := (3 : Int32)) (by decide) (pc' := 293) rfl ?_
                  refine g_iadd X hx (hb hby at_293) (pc' := 294) rfl ?_
                  refine g_iload X hx (hb hby at_294) rfl (pc' := 296) rfl ?_
                  refine g_iconst X hx (hb hby at_296) (x := (3 : Int32)) (by decide) (pc' := 297) rfl ?_
                  refine g_iload X hx (hb hby at_297) rfl (pc' := 299) rfl ?_
                  refine g_stat (W := 2) (argsL := [(.int nn), (.int (3 : Int32)), (.int (4 : Int32))]) (st := [(.int (f + (3 : Int32))), (.ref r)]) X hx hZ hown (hw _ (List.mem_of_getElem? (i := 3) rfl)) (hw _ (List.mem_of_getElem? (i := 4) rfl)) (hw _ (List.mem_of_getElem? (i := 5) rfl)) (hw _ (List.mem_of_getElem? (i := 6) rfl)) (by decide) (rmE l Z a0 hw nn (3 : Int32) (4 : Int32) h n0 Zn  ) eT (by decide) (by decide) (by decide) (by decide) (lenOf pd_0 rfl) (by rw [hml]; rfl) rfl (Nat.le_of_eq rfl) (hb hby at_299) (pc' := 302) rfl (fun T hn vq Lq X eT hQ => ?_)
                  obtain ⟨rfl, Nq, hE⟩ := hQ
                  replace N := Fr.app N Nq
                  rw [hE] at eT; clear hE
                  show WGo _ _ _ _ _ _ _ _ (mkF m 302 #[.val (.int p0), .val (.int p1), .val (.int p2), .val (.int p3), .val (.int p4), .val (.int ((p1 &&& (2147483647 : Int32)) % (5 : Int32))), .val (.int nn), .val (.int (4 : Int32)), .val (.int f), .val (.ref r)] [(.int (encV nn (3 : Int32) (4 : Int32))), (.int (f + (3 : Int32))), (.ref r)])
                  refine g_bastoreB X hx hZ eT A_r.2 (hb hby at_302) (in10 y3 pf.1 (by omega)).1 (in10 y3 pf.1 (by omega)).2 (pc' := 303) rfl (fun T h X eT W A' => ?_)
                  replace N := Fr.snoc X N g_r
                  replace Zn := Nat.le_trans Zn (Nat.le_of_eq W.size.symm)
                  replace A_r : Al Z h r .byte 10 ((((L0.set f.toNatClampNeg (nar .byte (encV nn (0 : Int32) (4 : Int32)))).set (f + (1 : Int32)).toNatClampNeg (nar .byte (encV nn (1 : Int32) (4 : Int32)))).set (f + (2 : Int32)).toNatClampNeg (nar .byte (encV nn (2 : Int32) (4 : Int32)))).set (f + (3 : Int32)).toNatClampNeg (nar .byte (encV nn (3 : Int32) (4 : Int32)))) := A_r.set A'
                  refine g_iload X hx (hb hby at_303) rfl (pc' := 305) rfl ?_
                  refine g_iconst X hx (hb hby at_305) (x := (4 : Int32)) (by decide) (pc' := 306) rfl ?_
                  refine g_icmp X hx (hb hby at_306) (by decide) (pc' := 324) (by decide) (pc2 := 309) rfl (fun hc => ?_) (fun hc => ?_)
                  · replace hc := h_le1 hc
                    have hc306 := hc
                    refine g_aload X hx (hb hby at_324) rfl rfl (pc' := 326) rfl ?_
                    refine g_iload X hx (hb hby at_326) rfl (pc' := 328) rfl ?_
                    refine g_stat (W := 0) (argsL := [(.ref r), (.int f)]) (st := []) X hx hZ hown (hw _ (List.mem_of_getElem? (i := 7) rfl)) (hw _ (List.mem_of_getElem? (i := 8) rfl)) (hw _ (List.mem_of_getElem? (i := 9) rfl)) (hw _ (List.mem_of_getElem? (i := 10) rfl)) (by decide) (rmG4 l Z a0 hw r f ((((L0.set f.toNatClampNeg (nar .byte (encV nn (0 : Int32) (4 : Int32)))).set (f + (1 : Int32)).toNatClampNeg (nar .byte (encV nn (1 : Int32) (4 : Int32)))).set (f + (2 : Int32)).toNatClampNeg (nar .byte (encV nn (2 : Int32) (4 : Int32)))).set (f + (3 : Int32)).toNatClampNeg (nar .byte (encV nn (3 : Int32) (4 : Int32)))) (encB nn (0 : Int32) (4 : Int32)) (encB nn (1 : Int32) (4 : Int32)) (encB nn (2 : Int32) (4 : Int32)) (encB nn (3 : Int32) (4 : Int32)) h n0 Zn A_r (by omega) (by show List.getD _ (f.toNatClampNeg + 0) 0 = encB nn (0 : Int32) (4 : Int32); simp [List.getD, List.getElem?_set, x1, x2, x3, hl0, encB, l0, l1, l2, l3, l4]; try omega) (by show List.getD _ (f.toNatClampNeg + 1) 0 = encB nn (1 : Int32) (4 : Int32); simp [List.getD, List.getElem?_set, x1, x2, x3, hl0, encB, l0, l1, l2, l3, l4]; try omega) (by show List.getD _ (f.toNatClampNeg + 2) 0 = encB nn (2 : Int32) (4 : Int32); simp [List.getD, List.getElem?_set, x1, x2, x3, hl0, encB, l0, l1, l2, l3, l4]; try omega) (by show List.getD _ (f.toNatClampNeg + 3) 0 = encB nn (3 : Int32) (4 : Int32); simp [List.getD, List.getElem?_set, x1, x2, x3, hl0, encB, l0, l1, l2, l3, l4]; try omega) (enc_neg nn _ _ (by decide)) (enc_neg nn _ _ (by decide)) (enc_neg nn _ _ (by decide)) (enc_pos nn _ _ (by decide))) eT (by decide) (by decide) (by decide) (by decide) (lenOf pd_1 rfl) (by rw [hml]; rfl) rfl (Nat.le_of_eq rfl) (hb hby at_328) (pc' := 331) rfl (fun T hn vq Lq X eT hQ => ?_)
                    obtain ⟨rfl, Nq, hE⟩ := hQ
                    replace N := Fr.app N Nq
                    rw [hE] at eT; clear hE
                    show WGo _ _ _ _ _ _ _ _ (mkF m 331 #[.val (.int p0), .val (.int p1), .val (.int p2), .val (.int p3), .val (.int p4), .val (.int ((p1 &&& (2147483647 : Int32)) % (5 : Int32))), .val (.int nn), .val (.int (4 : Int32)), .val (.int f), .val (.ref r)] [(.int (((((0 : Int32) ||| (((encB nn (0 : Int32) (4 : Int32)) &&& (127 : Int32)) <<< ((0 : Int32) &&& 31))) ||| (((encB nn (1 : Int32) (4 : Int32)) &&& (127 : Int32)) <<< (((0 : Int32) + (7 : Int32)) &&& 31))) ||| (((encB nn (2 : Int32) (4 : Int32)) &&& (127 : Int32)) <<< ((((0 : Int32) + (7 : Int32)) + (7 : Int32)) &&& 31))) ||| (((encB nn (3 : Int32) (4 : Int32)) &&& (127 : Int32)) <<< (((((0 : Int32) + (7 : Int32)) + (7 : Int32)) + (7 : Int32)) &&& 31))))])
                    refine g_iload X hx (hb hby at_331) rfl (pc' := 333) rfl ?_
                    refine g_icmp X hx (hb hby at_333) (by decide) (pc' := 340) (by decide) (pc2 := 336) rfl (fun hc => ?_) (fun hc => ?_)
                    · replace hc := h_ne1 hc
                      have hc333 := hc
                      exfalso
                      simp only [Int32.lt_iff_toInt_lt, Int32.reduceToInt] at hc80 hc92 hc103 hc114
                      exact hc (dec4 nn hj16 (by omega))
                    · replace hc := h_ne0 hc
                      have hc333 := hc
                      refine g_iconst X hx (hb hby at_336) (x := (1 : Int32)) (by decide) (pc' := 337) rfl ?_
                      refine g_goto X hx (hb hby at_337) (by decide) (pc' := 341) (by decide) ?_
                      refine g_retN (t := .boolean) X hx hret (by simp) hlk (hb hby at_341) (by decide) (by decide) ?_
                      exact ⟨rfl, N⟩
                  · replace hc := h_le0 hc
                    have hc306 := hc
                    exfalso
                    clear hc306; revert hc; decide
        · replace hc := h_ge0 hc
          have hc103 := hc
          refine g_iconst X hx (hb hby at_106) (x := (3 : Int32)) (by decide) (pc' := 107) rfl ?_
          refine g_goto X hx (hb hby at_107) (by decide) (pc' := 122) (by decide) ?_
          refine g_istore X hx (hb hby at_122) (Ls' := #[.val (.int p0), .val (.int p1), .val (.int p2), .val (.int p3), .val (.int p4), .val (.int ((p1 &&& (2147483647 : Int32)) % (5 : Int32))), .val (.int nn), .val (.int (3 : Int32)), .unset, .unset]) rfl (pc' := 124) rfl ?_
          refine g_iloadN X hx (hb hby at_124) rfl (pc' := 125) rfl ?_
          refine g_iconst X hx (hb hby at_125) (x := (3 : Int32)) (by decide) (pc' := 126) rfl ?_
          refine g_iand X hx (hb hby at_126) (pc' := 127) rfl ?_
          obtain ⟨f, hf, pf⟩ : ∃ z : Int32, z = (p2 &&& (3 : Int32)) ∧ (0 ≤ z.toInt ∧ z.toInt ≤ 3) := ⟨_, rfl, (by have q := c_and p2 3 (by decide); simp only [Int32.reduceToInt] at q; exact q)⟩
          rw [← hf]
          refine g_istore X hx (hb hby at_127) (Ls' := #[.val (.int p0), .val (.int p1), .val (.int p2), .val (.int p3), .val (.int p4), .val (.int ((p1 &&& (2147483647 : Int32)) % (5 : Int32))), .val (.int nn), .val (.int (3 : Int32)), .val (.int f), .unset]) rfl (pc' := 129) rfl ?_
          refine g_bipush X hx (hb hby at_129) (x := (10 : Int32)) (by decide) (pc' := 131) rfl ?_
          refine g_newP (cap := 10) X hx hZ (hw _ (List.mem_of_getElem? (i := 2) rfl)) eT (hb hby at_131) (by decide) (by decide) (by decide) (by decide) (by decide) (pc' := 133) rfl (fun T h r ha X eT Ex A_r => ?_)
          have g_r : n0 ≤ r := by rw [ha]; exact Zn
          replace Zn := Nat.le_trans Zn Ex.1
          replace A_r : Al Z h r .byte 10 [0, 0, 0, 0, 0, 0, 0, 0, 0, 0] := Al.new A_r
          refine g_astore X hx (hb hby at_133) rfl (Ls' := #[.val (.int p0), .val (.int p1), .val (.int p2), .val (.int p3), .val (.int p4), .val (.int ((p1 &&& (2147483647 : Int32)) % (5 : Int32))), .val (.int nn), .val (.int (3 : Int32)), .val (.int f), .val (.ref r)]) rfl (pc' := 135) rfl ?_
          refine g_aload X hx (hb hby at_135) rfl rfl (pc' := 137) rfl ?_
          refine g_iconst X hx (hb hby at_137) (x := (0 : Int32)) (by decide) (pc' := 138) rfl ?_
          refine g_iloadN X hx (hb hby at_138) rfl (pc' := 139) rfl ?_
          refine g_i2b X hx (hb hby at_139) (pc' := 140) rfl ?_
          refine g_bastoreB X hx hZ eT A_r.2 (hb hby at_140) (by decide) (by decide) (pc' := 141) rfl (fun T h X eT W A' => ?_)
          replace N := Fr.snoc X N g_r
          replace Zn := Nat.le_trans Zn (Nat.le_of_eq W.size.symm)
          replace A_r : Al Z h r .byte 10 [(nar .byte (p3.toInt8.toInt32)), (0 : Int32), (0 : Int32), (0 : Int32), (0 : Int32), (0 : Int32), (0 : Int32), (0 : Int32), (0 : Int32), (0 : Int32)] := A_r.set A'
          refine g_aload X hx (hb hby at_141) rfl rfl (pc' := 143) rfl ?_
          refine g_iconst X hx (hb hby at_143) (x := (1 : Int32)) (by decide) (pc' := 144) rfl ?_
          refine g_iloadN X hx (hb hby at_144) rfl (pc' := 145) rfl ?_
          refine g_bipush X hx (hb hby at_145) (x := (8 : Int32)) (by decide) (pc' := 147) rfl ?_
          refine g_iushr X hx (hb hby at_147) (pc' := 148) rfl ?_
          refine g_i2b X hx (hb hby at_148) (pc' := 149) rfl ?_
          refine g_bastoreB X hx hZ eT A_r.2 (hb hby at_149) (by decide) (by decide) (pc' := 150) rfl (fun T h X eT W A' => ?_)
          replace N := Fr.snoc X N g_r
          replace Zn := Nat.le_trans Zn (Nat.le_of_eq W.size.symm)
          replace A_r : Al Z h r .byte 10 [(nar .byte (p3.toInt8.toInt32)), (nar .byte ((XT.ushr p3 (8 : Int32)).toInt8.toInt32)), (0 : Int32), (0 : Int32), (0 : Int32), (0 : Int32), (0 : Int32), (0 : Int32), (0 : Int32), (0 : Int32)] := A_r.set A'
          refine g_aload X hx (hb hby at_150) rfl rfl (pc' := 152) rfl ?_
          refine g_iconst X hx (hb hby at_152) (x := (2 : Int32)) (by decide) (pc' := 153) rfl ?_
          refine g_iloadN X hx (hb hby at_153) rfl (pc' := 154) rfl ?_
          refine g_bipush X hx (hb hby at_154) (x := (16 : Int32)) (by decide) (pc' := 156) rfl ?_
          refine g_iushr X hx (hb hby at_156) (pc' := 157) rfl ?_
          refine g_i2b X hx (hb hby at_157) (pc' := 158) rfl ?_
          refine g_bastoreB X hx hZ eT A_r.2 (hb hby at_158) (by decide) (by decide) (pc' := 159) rfl (fun T h X eT W A' => ?_)
          replace N := Fr.snoc X N g_r
          replace Zn := Nat.le_trans Zn (Nat.le_of_eq W.size.symm)
          replace A_r : Al Z h r .byte 10 [(nar .byte (p3.toInt8.toInt32)), (nar .byte ((XT.ushr p3 (8 : Int32)).toInt8.toInt32)), (nar .byte ((XT.ushr p3 (16 : Int32)).toInt8.toInt32)), (0 : Int32), (0 : Int32), (0 : Int32), (0 : Int32), (0 : Int32), (0 : Int32), (0 : Int32)] := A_r.set A'
          refine g_aload X hx (hb hby at_159) rfl rfl (pc' := 161) rfl ?_
          refine g_iconst X hx (hb hby at_161) (x := (3 : Int32)) (by decide) (pc' := 162) rfl ?_
          refine g_iloadN X hx (hb hby at_162) rfl (pc' := 163) rfl ?_
          refine g_bipush X hx (hb hby at_163) (x := (24 : Int32)) (by decide) (pc' := 165) rfl ?_
          refine g_iushr X hx (hb hby at_165) (pc' := 166) rfl ?_
          refine g_i2b X hx (hb hby at_166) (pc' := 167) rfl ?_
          refine g_bastoreB X hx hZ eT A_r.2 (hb hby at_167) (by decide) (by decide) (pc' := 168) rfl (fun T h X eT W A' => ?_)
          replace N := Fr.snoc X N g_r
          replace Zn := Nat.le_trans Zn (Nat.le_of_eq W.size.symm)
          replace A_r : Al Z h r .byte 10 [(nar .byte (p3.toInt8.toInt32)), (nar .byte ((XT.ushr p3 (8 : Int32)).toInt8.toInt32)), (nar .byte ((XT.ushr p3 (16 : Int32)).toInt8.toInt32)), (nar .byte ((XT.ushr p3 (24 : Int32)).toInt8.toInt32)), (0 : Int32), (0 : Int32), (0 : Int32), (0 : Int32), (0 : Int32), (0 : Int32)] := A_r.set A'
          refine g_aload X hx (hb hby at_168) rfl rfl (pc' := 170) rfl ?_
          refine g_iconst X hx (hb hby at_170) (x := (4 : Int32)) (by decide) (pc' := 171) rfl ?_
          refine g_iload X hx (hb hby at_171) rfl (pc' := 173) rfl ?_
          refine g_i2b X hx (hb hby at_173) (pc' := 174) rfl ?_
          refine g_bastoreB X hx hZ eT A_r.2 (hb hby at_174) (by decide) (by decide) (pc' := 175) rfl (fun T h X eT W A' => ?_)
          replace N := Fr.snoc X N g_r
          replace Zn := Nat.le_trans Zn (Nat.le_of_eq W.size.symm)
          replace A_r : Al Z h r .byte 10 [(nar .byte (p3.toInt8.toInt32)), (nar .byte ((XT.ushr p3 (8 : Int32)).toInt8.toInt32)), (nar .byte ((XT.ushr p3 (16 : Int32)).toInt8.toInt32)), (nar .byte ((XT.ushr p3 (24 : Int32)).toInt8.toInt32)), (nar .byte (p4.toInt8.toInt32)), (0 : Int32), (0 : Int32), (0 : Int32), (0 : Int32), (0 : Int32)] := A_r.set A'
          refine g_aload X hx (hb hby at_175) rfl rfl (pc' := 177) rfl ?_
          refine g_iconst X hx (hb hby at_177) (x := (5 : Int32)) (by decide) (pc' := 178) rfl ?_
          refine g_iload X hx (hb hby at_178) rfl (pc' := 180) rfl ?_
          refine g_bipush X hx (hb hby at_180) (x := (8 : Int32)) (by decide) (pc' := 182) rfl ?_
          refine g_iushr X hx (hb hby at_182) (pc' := 183) rfl ?_
          refine g_i2b X hx (hb hby at_183) (pc' := 184) rfl ?_
          refine g_bastoreB X hx hZ eT A_r.2 (hb hby at_184) (by decide) (by decide) (pc' := 185) rfl (fun T h X eT W A' => ?_)
          replace N := Fr.snoc X N g_r
          replace Zn := Nat.le_trans Zn (Nat.le_of_eq W.size.symm)
          replace A_r : Al Z h r .byte 10 [(nar .byte (p3.toInt8.toInt32)), (nar .byte ((XT.ushr p3 (8 : Int32)).toInt8.toInt32)), (nar .byte ((XT.ushr p3 (16 : Int32)).toInt8.toInt32)), (nar .byte ((XT.ushr p3 (24 : Int32)).toInt8.toInt32)), (nar .byte (p4.toInt8.toInt32)), (nar .byte ((XT.ushr p4 (8 : Int32)).toInt8.toInt32)), (0 : Int32), (0 : Int32), (0 : Int32), (0 : Int32)] := A_r.set A'
          refine g_aload X hx (hb hby at_185) rfl rfl (pc' := 187) rfl ?_
          refine g_bipush X hx (hb hby at_187) (x := (6 : Int32)) (by decide) (pc' := 189) rfl ?_
          refine g_iload X hx (hb hby at_189) rfl (pc' := 191) rfl ?_
          refine g_bipush X hx (hb hby at_191) (x := (16 : Int32)) (by decide) (pc' := 193) rfl ?_
          refine g_iushr X hx (hb hby at_193) (pc' := 194) rfl ?_
          refine g_i2b X hx (hb hby at_194) (pc' := 195) rfl ?_
          refine g_bastoreB X hx hZ eT A_r.2 (hb hby at_195) (by decide) (by decide) (pc' := 196) rfl (fun T h X eT W A' => ?_)
          replace N := Fr.snoc X N g_r
          replace Zn := Nat.le_trans Zn (Nat.le_of_eq W.size.symm)
          replace A_r : Al Z h r .byte 10 [(nar .byte (p3.toInt8.toInt32)), (nar .byte ((XT.ushr p3 (8 : Int32)).toInt8.toInt32)), (nar .byte ((XT.ushr p3 (16 : Int32)).toInt8.toInt32)), (nar .byte ((XT.ushr p3 (24 : Int32)).toInt8.toInt32)), (nar .byte (p4.toInt8.toInt32)), (nar .byte ((XT.ushr p4 (8 : Int32)).toInt8.toInt32)), (nar .byte ((XT.ushr p4 (16 : Int32)).toInt8.toInt32)), (0 : Int32), (0 : Int32), (0 : Int32)] := A_r.set A'
          refine g_aload X hx (hb hby at_196) rfl rfl (pc' := 198) rfl ?_
          refine g_bipush X hx (hb hby at_198) (x := (7 : Int32)) (by decide) (pc' := 200) rfl ?_
          refine g_iload X hx (hb hby at_200) rfl (pc' := 202) rfl ?_
          refine g_bipush X hx (hb hby at_202) (x := (24 : Int32)) (by decide) (pc' := 204) rfl ?_
          refine g_iushr X hx (hb hby at_204) (pc' := 205) rfl ?_
          refine g_i2b X hx (hb hby at_205) (pc' := 206) rfl ?_
          refine g_bastoreB X hx hZ eT A_r.2 (hb hby at_206) (by decide) (by decide) (pc' := 207) rfl (fun T h X eT W A' => ?_)
          replace N := Fr.snoc X N g_r
          replace Zn := Nat.le_trans Zn (Nat.le_of_eq W.size.symm)
          replace A_r : Al Z h r .byte 10 [(nar .byte (p3.toInt8.toInt32)), (nar .byte ((XT.ushr p3 (8 : Int32)).toInt8.toInt32)), (nar .byte ((XT.ushr p3 (16 : Int32)).toInt8.toInt32)), (nar .byte ((XT.ushr p3 (24 : Int32)).toInt8.toInt32)), (nar .byte (p4.toInt8.toInt32)), (nar .byte ((XT.ushr p4 (8 : Int32)).toInt8.toInt32)), (nar .byte ((XT.ushr p4 (16 : Int32)).toInt8.toInt32)), (nar .byte ((XT.ushr p4 (24 : Int32)).toInt8.toInt32)), (0 : Int32), (0 : Int32)] := A_r.set A'
          refine g_aload X hx (hb hby at_207) rfl rfl (pc' := 209) rfl ?_
          refine g_bipush X hx (hb hby at_209) (x := (8 : Int32)) (by decide) (pc' := 211) rfl ?_
          refine g_iloadN X hx (hb hby at_211) rfl (pc' := 212) rfl ?_
          refine g_iload X hx (hb hby at_212) rfl (pc' := 214) rfl ?_
          refine g_ixor X hx (hb hby at_214) (pc' := 215) rfl ?_
          refine g_i2b X hx (hb hby at_215) (pc' := 216) rfl ?_
          refine g_bastoreB X hx hZ eT A_r.2 (hb hby at_216) (by decide) (by decide) (pc' := 217) rfl (fun T h X eT W A' => ?_)
          replace N := Fr.snoc X N g_r
          replace Zn := Nat.le_trans Zn (Nat.le_of_eq W.size.symm)
          replace A_r : Al Z h r .byte 10 [(nar .byte (p3.toInt8.toInt32)), (nar .byte ((XT.ushr p3 (8 : Int32)).toInt8.toInt32)), (nar .byte ((XT.ushr p3 (16 : Int32)).toInt8.toInt32)), (nar .byte ((XT.ushr p3 (24 : Int32)).toInt8.toInt32)), (nar .byte (p4.toInt8.toInt32)), (nar .byte ((XT.ushr p4 (8 : Int32)).toInt8.toInt32)), (nar .byte ((XT.ushr p4 (16 : Int32)).toInt8.toInt32)), (nar .byte ((XT.ushr p4 (24 : Int32)).toInt8.toInt32)), (nar .byte ((p3 ^^^ p4).toInt8.toInt32)), (0 : Int32)] := A_r.set A'
          refine g_aload X hx (hb hby at_217) rfl rfl (pc' := 219) rfl ?_
          refine g_bipush X hx (hb hby at_219) (x := (9 : Int32)) (by decide) (pc' := 221) rfl ?_
          refine g_iloadN X hx (hb hby at_221) rfl (pc' := 222) rfl ?_
          refine g_iload X hx (hb hby at_222) rfl (pc' := 224) rfl ?_
          refine g_iadd X hx (hb hby at_224) (pc' := 225) rfl ?_
          refine g_i2b X hx (hb hby at_225) (pc' := 226) rfl ?_
          refine g_bastoreB X hx hZ eT A_r.2 (hb hby at_226) (by decide) (by decide) (pc' := 227) rfl (fun T h X eT W A' => ?_)
          replace N := Fr.snoc X N g_r
          replace Zn := Nat.le_trans Zn (Nat.le_of_eq W.size.symm)
          replace A_r : Al Z h r .byte 10 [(nar .byte (p3.toInt8.toInt32)), (nar .byte ((XT.ushr p3 (8 : Int32)).toInt8.toInt32)), (nar .byte ((XT.ushr p3 (16 : Int32)).toInt8.toInt32)), (nar .byte ((XT.ushr p3 (24 : Int32)).toInt8.toInt32)), (nar .byte (p4.toInt8.toInt32)), (nar .byte ((XT.ushr p4 (8 : Int32)).toInt8.toInt32)), (nar .byte ((XT.ushr p4 (16 : Int32)).toInt8.toInt32)), (nar .byte ((XT.ushr p4 (24 : Int32)).toInt8.toInt32)), (nar .byte ((p3 ^^^ p4).toInt8.toInt32)), (nar .byte ((p3 + p4).toInt8.toInt32))] := A_r.set A'
          obtain ⟨L0, hL0⟩ : ∃ z : List Int32, z = [(nar .byte (p3.toInt8.toInt32)), (nar .byte ((XT.ushr p3 (8 : Int32)).toInt8.toInt32)), (nar .byte ((XT.ushr p3 (16 : Int32)).toInt8.toInt32)), (nar .byte ((XT.ushr p3 (24 : Int32)).toInt8.toInt32)), (nar .byte (p4.toInt8.toInt32)), (nar .byte ((XT.ushr p4 (8 : Int32)).toInt8.toInt32)), (nar .byte ((XT.ushr p4 (16 : Int32)).toInt8.toInt32)), (nar .byte ((XT.ushr p4 (24 : Int32)).toInt8.toInt32)), (nar .byte ((p3 ^^^ p4).toInt8.toInt32)), (nar .byte ((p3 + p4).toInt8.toInt32))] := ⟨_, rfl⟩
          rw [← hL0] at A_r
          have hl0 : L0.length = 10 := A_r.1
          have y0 : f.toInt = f.toInt + ((0 : Nat) : Int) := by omega
          have y1 : (f + (1 : Int32)).toInt = f.toInt + ((1 : Nat) : Int) := by have q := upn f (1 : Int32) (by omega) (by omega) (by decide); simp only [Int32.reduceToInt] at q; omega
          have y2 : (f + (2 : Int32)).toInt = f.toInt + ((2 : Nat) : Int) := by have q := upn f (2 : Int32) (by omega) (by omega) (by decide); simp only [Int32.reduceToInt] at q; omega
          have y3 : (f + (3 : Int32)).toInt = f.toInt + ((3 : Nat) : Int) := by have q := upn f (3 : Int32) (by omega) (by omega) (by decide); simp only [Int32.reduceToInt] at q; omega
          have y4 : (f + (4 : Int32)).toInt = f.toInt + ((4 : Nat) : Int) := by have q := upn f (4 : Int32) (by omega) (by omega) (by decide); simp only [Int32.reduceToInt] at q; omega
          have x0 := nc _ f 0 y0 pf.1
          have x1 := nc _ f 1 y1 pf.1
          have x2 := nc _ f 2 y2 pf.1
          have x3 := nc _ f 3 y3 pf.1
          have x4 := nc _ f 4 y4 pf.1
          have hF : f.toNatClampNeg ≤ 3 := by have e : f.toNatClampNeg = Int.toNat f.toInt := rfl; omega
          have l0 : f.toNatClampNeg < 10 := by omega
          have l1 : f.toNatClampNeg + 1 < 10 := by omega
          have l2 : f.toNatClampNeg + 2 < 10 := by omega
          have l3 : f.toNatClampNeg + 3 < 10 := by omega
          have l4 : f.toNatClampNeg + 4 < 10 := by omega
          refine g_aload X hx (hb hby at_227) rfl rfl (pc' := 229) rfl ?_
          refine g_iload X hx (hb hby at_229) rfl (pc' := 231) rfl ?_
          refine g_iload X hx (hb hby at_231) rfl (pc' := 233) rfl ?_
          refine g_iconst X hx (hb hby at_233) (x := (0 : Int32)) (by decide) (pc' := 234) rfl ?_
          refine g_iload X hx (hb hby at_234) rfl (pc' := 236) rfl ?_
          refine g_stat (W := 2) (argsL := [(.int nn), (.int (0 : Int32)), (.int (3 : Int32))]) (st := [(.int f), (.ref r)]) X hx hZ hown (hw _ (List.mem_of_getElem? (i := 3) rfl)) (hw _ (List.mem_of_getElem? (i := 4) rfl)) (hw _ (List.mem_of_getElem? (i := 5) rfl)) (hw _ (List.mem_of_getElem? (i := 6) rfl)) (by decide) (rmE l Z a0 hw nn (0 : Int32) (3 : Int32) h n0 Zn  ) eT (by decide) (by decide) (by decide) (by decide) (lenOf pd_0 rfl) (by rw [hml]; rfl) rfl (Nat.le_of_eq rfl) (hb hby at_236) (pc' := 239) rfl (fun T hn vq Lq X eT hQ => ?_)
          obtain ⟨rfl, Nq, hE⟩ := hQ
          replace N := Fr.app N Nq
          rw [hE] at eT; clear hE
          show WGo _ _ _ _ _ _ _ _ (mkF m 239 #[.val (.int p0), .val (.int p1), .val (.int p2), .val (.int p3), .val (.int p4), .val (.int ((p1 &&& (2147483647 : Int32)) % (5 : Int32))), .val (.int nn), .val (.int (3 : Int32)), .val (.int f), .val (.ref r)] [(.int (encV nn (0 : Int32) (3 : Int32))), (.int f), (.ref r)])
          refine g_bastoreB X hx hZ eT A_r.2 (hb hby at_239) (in10 y0 pf.1 (by omega)).1 (in10 y0 pf.1 (by omega)).2 (pc' := 240) rfl (fun T h X eT W A' => ?_)
          replace N := Fr.snoc X N g_r
          replace Zn := Nat.le_trans Zn (Nat.le_of_eq W.size.symm)
          replace A_r : Al Z h r .byte 10 (L0.set f.toNatClampNeg (nar .byte (encV nn (0 : Int32) (3 : Int32)))) := A_r.set A'
          refine g_iload X hx (hb hby at_240) rfl (pc' := 242) rfl ?_
          refine g_iconst X hx (hb hby at_242) (x := (1 : Int32)) (by decide) (pc' := 243) rfl ?_
          refine g_icmp X hx (hb hby at_243) (by decide) (pc' := 261) (by decide) (pc2 := 246) rfl (fun hc => ?_) (fun hc => ?_)
          · replace hc := h_le1 hc
            have hc243 := hc
            exfalso
            clear hc243; revert hc; decide
          · replace hc := h_le0 hc
            have hc243 := hc
            refine g_aload X hx (hb hby at_246) rfl rfl (pc' := 248) rfl ?_
            refine g_iload X hx (hb hby at_248) rfl (pc' := 250) rfl ?_
            refine g_iconst X hx (hb hby at_250) (x := (1 : Int32)) (by decide) (pc' := 251) rfl ?_
            refine g_iadd X hx (hb hby at_251) (pc' := 252) rfl ?_
            refine g_iload X hx (hb hby at_252) rfl (pc' := 254) rfl ?_
            refine g_iconst X hx (hb hby at_254) (x := (1 : Int32)) (by decide) (pc' := 255) rfl ?_
            refine g_iload X hx (hb hby at_255) rfl (pc' := 257) rfl ?_
            refine g_stat (W := 2) (argsL := [(.int nn), (.int (1 : Int32)), (.int (3 : Int32))]) (st := [(.int (f + (1 : Int32))), (.ref r)]) X hx hZ hown (hw _ (List.mem_of_getElem? (i := 3) rfl)) (hw _ (List.mem_of_getElem? (i := 4) rfl)) (hw _ (List.mem_of_getElem? (i := 5) rfl)) (hw _ (List.mem_of_getElem? (i := 6) rfl)) (by decide) (rmE l Z a0 hw nn (1 : Int32) (3 : Int32) h n0 Zn  ) eT (by decide) (by decide) (by decide) (by decide) (lenOf pd_0 rfl) (by rw [hml]; rfl) rfl (Nat.le_of_eq rfl) (hb hby at_257) (pc' := 260) rfl (fun T hn vq Lq X eT hQ => ?_)
            obtain ⟨rfl, Nq, hE⟩ := hQ
            replace N := Fr.app N Nq
            rw [hE] at eT; clear hE
            show WGo _ _ _ _ _ _ _ _ (mkF m 260 #[.val (.int p0), .val (.int p1), .val (.int p2), .val (.int p3), .val (.int p4), .val (.int ((p1 &&& (2147483647 : Int32)) % (5 : Int32))), .val (.int nn), .val (.int (3 : Int32)), .val (.int f), .val (.ref r)] [(.int (encV nn (1 : Int32) (3 : Int32))), (.int (f + (1 : Int32))), (.ref r)])
            refine g_bastoreB X hx hZ eT A_r.2 (hb hby at_260) (in10 y1 pf.1 (by omega)).1 (in10 y1 pf.1 (by omega)).2 (pc' := 261) rfl (fun T h X eT W A' => ?_)
            replace N := Fr.snoc X N g_r
            replace Zn := Nat.le_trans Zn (Nat.le_of_eq W.size.symm)
            replace A_r : Al Z h r .byte 10 ((L0.set f.toNatClampNeg (nar .byte (encV nn (0 : Int32) (3 : Int32)))).set (f + (1 : Int32)).toNatClampNeg (nar .byte (encV nn (1 : Int32) (3 : Int32)))) := A_r.set A'
            refine g_iload X hx (hb hby at_261) rfl (pc' := 263) rfl ?_
            refine g_iconst X hx (hb hby at_263) (x := (2 : Int32)) (by decide) (pc' := 264) rfl ?_
            refine g_icmp X hx (hb hby at_264) (by decide) (pc' := 282) (by decide) (pc2 := 267) rfl (fun hc => ?_) (fun hc => ?_)
            · replace hc := h_le1 hc
              have hc264 := hc
              exfalso
              clear hc264; revert hc; decide
            · replace hc := h_le0 hc
              have hc264 := hc
              refine g_aload X hx (hb hby at_267) rfl rfl (pc' := 269) rfl ?_
              refine g_iload X hx (hb hby at_269) rfl (pc' := 271) rfl ?_
              refine g_iconst X hx (hb hby at_271) (x := (2 : Int32)) (by decide) (pc' := 272) rfl ?_
              refine g_iadd X hx (hb hby at_272) (pc' := 273) rfl ?_
              refine g_iload X hx (hb hby at_273) rfl (pc' := 275) rfl ?_
              refine g_iconst X hx (hb hby at_275) (x := (2 : Int32)) (by decide) (pc' := 276) rfl ?_
              refine g_iload X hx (hb hby at_276) rfl (pc' := 278) rfl ?_
              refine g_stat (W := 2) (argsL := [(.int nn), (.int (2 : Int32)), (.int (3 : Int32))]) (st := [(.int (f + (2 : Int32))), (.ref r)]) X hx hZ hown (hw _ (List.mem_of_getElem? (i := 3) rfl)) (hw _ (List.mem_of_getElem? (i := 4) rfl)) (hw _ (List.mem_of_getElem? (i := 5) rfl)) (hw _ (List.mem_of_getElem? (i := 6) rfl)) (by decide) (rmE l Z a0 hw nn (2 : Int32) (3 : Int32) h n0 Zn  ) eT (by decide) (by decide) (by decide) (by decide) (lenOf pd_0 rfl) (by rw [hml]; rfl) rfl (Nat.le_of_eq rfl) (hb hby at_278) (pc' := 281) rfl (fun T hn vq Lq X eT hQ => ?_)
              obtain ⟨rfl, Nq, hE⟩ := hQ
              replace N := Fr.app N Nq
              rw [hE] at eT; clear hE
              show WGo _ _ _ _ _ _ _ _ (mkF m 281 #[.val (.int p0), .val (.int p1), .val (.int p2), .val (.int p3), .val (.int p4), .val (.int ((p1 &&& (2147483647 : Int32)) % (5 : Int32))), .val (.int nn), .val (.int (3 : Int32)), .val (.int f), .val (.ref r)] [(.int (encV nn (2 : Int32) (3 : Int32))), (.int (f + (2 : Int32))), (.ref r)])
              refine g_bastoreB X hx hZ eT A_r.2 (hb hby at_281) (in10 y2 pf.1 (by omega)).1 (in10 y2 pf.1 (by omega)).2 (pc' := 282) rfl (fun T h X eT W A' => ?_)
              replace N := Fr.snoc X N g_r
              replace Zn := Nat.le_trans Zn (Nat.le_of_eq W.size.symm)
              replace A_r : Al Z h r .byte 10 (((L0.set f.toNatClampNeg (nar .byte (encV nn (0 : Int32) (3 : Int32)))).set (f + (1 : Int32)).toNatClampNeg (nar .byte (encV nn (1 : Int32) (3 : Int32)))).set (f + (2 : Int32)).toNatClampNeg (nar .byte (encV nn (2 : Int32) (3 : Int32)))) := A_r.set A'
              refine g_iload X hx (hb hby at_282) rfl (pc' := 284) rfl ?_
              refine g_iconst X hx (hb hby at_284) (x := (3 : Int32)) (by decide) (pc' := 285) rfl ?_
              refine g_icmp X hx (hb hby at_285) (by decide) (pc' := 303) (by decide) (pc2 := 288) rfl (fun hc => ?_) (fun hc => ?_)
              · replace hc := h_le1 hc
                have hc285 := hc
                refine g_iload X hx (hb hby at_303) rfl (pc' := 305) rfl ?_
                refine g_iconst X hx (hb hby at_305) (x := (4 : Int32)) (by decide) (pc' := 306) rfl ?_
                refine g_icmp X hx (hb hby at_306) (by decide) (pc' := 324) (by decide) (pc2 := 309) rfl (fun hc => ?_) (fun hc => ?_)
                · replace hc := h_le1 hc
                  have hc306 := hc
                  refine g_aload X hx (hb hby at_324) rfl rfl (pc' := 326) rfl ?_
                  refine g_iload X hx (hb hby at_326) rfl (pc' := 328) rfl ?_
                  refine g_stat (W := 0) (argsL := [(.ref r), (.int f)]) (st := []) X hx hZ hown (hw _ (List.mem_of_getElem? (i := 7) rfl)) (hw _ (List.mem_of_getElem? (i := 8) rfl)) (hw _ (List.mem_of_getElem? (i := 9) rfl)) (hw _ (List.mem_of_getElem? (i := 10) rfl)) (by decide) (rmG3 l Z a0 hw r f (((L0.set f.toNatClampNeg (nar .byte (encV nn (0 : Int32) (3 : Int32)))).set (f + (1 : Int32)).toNatClampNeg (nar .byte (encV nn (1 : Int32) (3 : Int32)))).set (f + (2 : Int32)).toNatClampNeg (nar .byte (encV nn (2 : Int32) (3 : Int32)))) (encB nn (0 : Int32) (3 : Int32)) (encB nn (1 : Int32) (3 : Int32)) (encB nn (2 : Int32) (3 : Int32)) h n0 Zn A_r (by omega) (by show List.getD _ (f.toNatClampNeg + 0) 0 = encB nn (0 : Int32) (3 : Int32); simp [List.getD, List.getElem?_set, x1, x2, hl0, encB, l0, l1, l2, l3, l4]; try omega) (by show List.getD _ (f.toNatClampNeg + 1) 0 = encB nn (1 : Int32) (3 : Int32); simp [List.getD, List.getElem?_set, x1, x2, hl0, encB, l0, l1, l2, l3, l4]; try omega) (by show List.getD _ (f.toNatClampNeg + 2) 0 = encB nn (2 : Int32) (3 : Int32); simp [List.getD, List.getElem?_set, x1, x2, hl0, encB, l0, l1, l2, l3, l4]; try omega) (enc_neg nn _ _ (by decide)) (enc_neg nn _ _ (by decide)) (enc_pos nn _ _ (by decide))) eT (by decide) (by decide) (by decide) (by decide) (lenOf pd_1 rfl) (by rw [hml]; rfl) rfl (Nat.le_of_eq rfl) (hb hby at_328) (pc' := 331) rfl (fun T hn vq Lq X eT hQ => ?_)
                  obtain ⟨rfl, Nq, hE⟩ := hQ
                  replace N := Fr.app N Nq
                  rw [hE] at eT; clear hE
                  show WGo _ _ _ _ _ _ _ _ (mkF m 331 #[.val (.int p0), .val (.int p1), .val (.int p2), .val (.int p3), .val (.int p4), .val (.int ((p1 &&& (2147483647 : Int32)) % (5 : Int32))), .val (.int nn), .val (.int (3 : Int32)), .val (.int f), .val (.ref r)] [(.int ((((0 : Int32) ||| (((encB nn (0 : Int32) (3 : Int32)) &&& (127 : Int32)) <<< ((0 : Int32) &&& 31))) ||| (((encB nn (1 : Int32) (3 : Int32)) &&& (127 : Int32)) <<< (((0 : Int32) + (7 : Int32)) &&& 31))) ||| (((encB nn (2 : Int32) (3 : Int32)) &&& (127 : Int32)) <<< ((((0 : Int32) + (7 : Int32)) + (7 : Int32)) &&& 31))))])
                  refine g_iload X hx (hb hby at_331) rfl (pc' := 333) rfl ?_
                  refine g_icmp X hx (hb hby at_333) (by decide) (pc' := 340) (by decide) (pc2 := 336) rfl (fun hc => ?_) (fun hc => ?_)
                  · replace hc := h_ne1 hc
                    have hc333 := hc
                    exfalso
                    simp only [Int32.lt_iff_toInt_lt, Int32.reduceToInt] at hc80 hc92 hc103
                    exact hc (dec3 nn hj16 (by omega))
                  · replace hc := h_ne0 hc
                    have hc333 := hc
                    refine g_iconst X hx (hb hby at_336) (x := (1 : Int32)) (by decide) (pc' := 337) rfl ?_
                    refine g_goto X hx (hb hby at_337) (by decide) (pc' := 341) (by decide) ?_
                    refine g_retN (t := .boolean) X hx hret (by simp) hlk (hb hby at_341) (by decide) (by decide) ?_
                    exact ⟨rfl, N⟩
                · replace hc := h_le0 hc
                  have hc306 := hc
                  exfalso
                  clear hc306; revert hc; decide
              · replace hc := h_le0 hc
                have hc285 := hc
                exfalso
                clear hc285; revert hc; decide
      · replace hc := h_ge0 hc
        have hc92 := hc
        refine g_iconst X hx (hb hby at_95) (x := (2 : Int32)) (by decide) (pc' := 96) rfl ?_
        refine g_goto X hx (hb hby at_96) (by decide) (pc' := 122) (by decide) ?_
        refine g_istore X hx (hb hby at_122) (Ls' := #[.val (.int p0), .val (.int p1), .val (.int p2), .val (.int p3), .val (.int p4), .val (.int ((p1 &&& (2147483647 : Int32)) % (5 : Int32))), .val (.int nn), .val (.int (2 : Int32)), .unset, .unset]) rfl (pc' := 124) rfl ?_
        refine g_iloadN X hx (hb hby at_124) rfl (pc' := 125) rfl ?_
        refine g_iconst X hx (hb hby at_125) (x := (3 : Int32)) (by decide) (pc' := 126) rfl ?_
        refine g_iand X hx (hb hby at_126) (pc' := 127) rfl ?_
        obtain ⟨f, hf, pf⟩ : ∃ z : Int32, z = (p2 &&& (3 : Int32)) ∧ (0 ≤ z.toInt ∧ z.toInt ≤ 3) := ⟨_, rfl, (by have q := c_and p2 3 (by decide); simp only [Int32.reduceToInt] at q; exact q)⟩
        rw [← hf]
        refine g_istore X hx (hb hby at_127) (Ls' := #[.val (.int p0), .val (.int p1), .val (.int p2), .val (.int p3), .val (.int p4), .val (.int ((p1 &&& (2147483647 : Int32)) % (5 : Int32))), .val (.int nn), .val (.int (2 : Int32)), .val (.int f), .unset]) rfl (pc' := 129) rfl ?_
        refine g_bipush X hx (hb hby at_129) (x := (10 : Int32)) (by decide) (pc' := 131) rfl ?_
        refine g_newP (cap := 10) X hx hZ (hw _ (List.mem_of_getElem? (i := 2) rfl)) eT (hb hby at_131) (by decide) (by decide) (by decide) (by decide) (by decide) (pc' := 133) rfl (fun T h r ha X eT Ex A_r => ?_)
        have g_r : n0 ≤ r := by rw [ha]; exact Zn
        replace Zn := Nat.le_trans Zn Ex.1
        replace A_r : Al Z h r .byte 10 [0, 0, 0, 0, 0, 0, 0, 0, 0, 0] := Al.new A_r
        refine g_astore X hx (hb hby at_133) rfl (Ls' := #[.val (.int p0), .val (.int p1), .val (.int p2), .val (.int p3), .val (.int p4), .val (.int ((p1 &&& (2147483647 : Int32)) % (5 : Int32))), .val (.int nn), .val (.int (2 : Int32)), .val (.int f), .val (.ref r)]) rfl (pc' := 135) rfl ?_
        refine g_aload X hx (hb hby at_135) rfl rfl (pc' := 137) rfl ?_
        refine g_iconst X hx (hb hby at_137) (x := (0 : Int32)) (by decide) (pc' := 138) rfl ?_
        refine g_iloadN X hx (hb hby at_138) rfl (pc' := 139) rfl ?_
        refine g_i2b X hx (hb hby at_139) (pc' := 140) rfl ?_
        refine g_bastoreB X hx hZ eT A_r.2 (hb hby at_140) (by decide) (by decide) (pc' := 141) rfl (fun T h X eT W A' => ?_)
        replace N := Fr.snoc X N g_r
        replace Zn := Nat.le_trans Zn (Nat.le_of_eq W.size.symm)
        replace A_r : Al Z h r .byte 10 [(nar .byte (p3.toInt8.toInt32)), (0 : Int32), (0 : Int32), (0 : Int32), (0 : Int32), (0 : Int32), (0 : Int32), (0 : Int32), (0 : Int32), (0 : Int32)] := A_r.set A'
        refine g_aload X hx (hb hby at_141) rfl rfl (pc' := 143) rfl ?_
        refine g_iconst X hx (hb hby at_143) (x := (1 : Int32)) (by decide) (pc' := 144) rfl ?_
        refine g_iloadN X hx (hb hby at_144) rfl (pc' := 145) rfl ?_
        refine g_bipush X hx (hb hby at_145) (x := (8 : Int32)) (by decide) (pc' := 147) rfl ?_
        refine g_iushr X hx (hb hby at_147) (pc' := 148) rfl ?_
        refine g_i2b X hx (hb hby at_148) (pc' := 149) rfl ?_
        refine g_bastoreB X hx hZ eT A_r.2 (hb hby at_149) (by decide) (by decide) (pc' := 150) rfl (fun T h X eT W A' => ?_)
        replace N := Fr.snoc X N g_r
        replace Zn := Nat.le_trans Zn (Nat.le_of_eq W.size.symm)
        replace A_r : Al Z h r .byte 10 [(nar .byte (p3.toInt8.toInt32)), (nar .byte ((XT.ushr p3 (8 : Int32)).toInt8.toInt32)), (0 : Int32), (0 : Int32), (0 : Int32), (0 : Int32), (0 : Int32), (0 : Int32), (0 : Int32), (0 : Int32)] := A_r.set A'
        refine g_aload X hx (hb hby at_150) rfl rfl (pc' := 152) rfl ?_
        refine g_iconst X hx (hb hby at_152) (x := (2 : Int32)) (by decide) (pc' := 153) rfl ?_
        refine g_iloadN X hx (hb hby at_153) rfl (pc' := 154) rfl ?_
        refine g_bipush X hx (hb hby at_154) (x := (16 : Int32)) (by decide) (pc' := 156) rfl ?_
        refine g_iushr X hx (hb hby at_156) (pc' := 157) rfl ?_
        refine g_i2b X hx (hb hby at_157) (pc' := 158) rfl ?_
        refine g_bastoreB X hx hZ eT A_r.2 (hb hby at_158) (by decide) (by decide) (pc' := 159) rfl (fun T h X eT W A' => ?_)
        replace N := Fr.snoc X N g_r
        replace Zn := Nat.le_trans Zn (Nat.le_of_eq W.size.symm)
        replace A_r : Al Z h r .byte 10 [(nar .byte (p3.toInt8.toInt32)), (nar .byte ((XT.ushr p3 (8 : Int32)).toInt8.toInt32)), (nar .byte ((XT.ushr p3 (16 : Int32)).toInt8.toInt32)), (0 : Int32), (0 : Int32), (0 : Int32), (0 : Int32), (0 : Int32), (0 : Int32), (0 : Int32)] := A_r.set A'
        refine g_aload X hx (hb hby at_159) rfl rfl (pc' := 161) rfl ?_
        refine g_iconst X hx (hb hby at_161) (x := (3 : Int32)) (by decide) (pc' := 162) rfl ?_
        refine g_iloadN X hx (hb hby at_162) rfl (pc' := 163) rfl ?_
        refine g_bipush X hx (hb hby at_163) (x := (24 : Int32)) (by decide) (pc' := 165) rfl ?_
        refine g_iushr X hx (hb hby at_165) (pc' := 166) rfl ?_
        refine g_i2b X hx (hb hby at_166) (pc' := 167) rfl ?_
        refine g_bastoreB X hx hZ eT A_r.2 (hb hby at_167) (by decide) (by decide) (pc' := 168) rfl (fun T h X eT W A' => ?_)
        replace N := Fr.snoc X N g_r
        replace Zn := Nat.le_trans Zn (Nat.le_of_eq W.size.symm)
        replace A_r : Al Z h r .byte 10 [(nar .byte (p3.toInt8.toInt32)), (nar .byte ((XT.ushr p3 (8 : Int32)).toInt8.toInt32)), (nar .byte ((XT.ushr p3 (16 : Int32)).toInt8.toInt32)), (nar .byte ((XT.ushr p3 (24 : Int32)).toInt8.toInt32)), (0 : Int32), (0 : Int32), (0 : Int32), (0 : Int32), (0 : Int32), (0 : Int32)] := A_r.set A'
        refine g_aload X hx (hb hby at_168) rfl rfl (pc' := 170) rfl ?_
        refine g_iconst X hx (hb hby at_170) (x := (4 : Int32)) (by decide) (pc' := 171) rfl ?_
        refine g_iload X hx (hb hby at_171) rfl (pc' := 173) rfl ?_
        refine g_i2b X hx (hb hby at_173) (pc' := 174) rfl ?_
        refine g_bastoreB X hx hZ eT A_r.2 (hb hby at_174) (by decide) (by decide) (pc' := 175) rfl (fun T h X eT W A' => ?_)
        replace N := Fr.snoc X N g_r
        replace Zn := Nat.le_trans Zn (Nat.le_of_eq W.size.symm)
        replace A_r : Al Z h r .byte 10 [(nar .byte (p3.toInt8.toInt32)), (nar .byte ((XT.ushr p3 (8 : Int32)).toInt8.toInt32)), (nar .byte ((XT.ushr p3 (16 : Int32)).toInt8.toInt32)), (nar .byte ((XT.ushr p3 (24 : Int32)).toInt8.toInt32)), (nar .byte (p4.toInt8.toInt32)), (0 : Int32), (0 : Int32), (0 : Int32), (0 : Int32), (0 : Int32)] := A_r.set A'
        refine g_aload X hx (hb hby at_175) rfl rfl (pc' := 177) rfl ?_
        refine g_iconst X hx (hb hby at_177) (x := (5 : Int32)) (by decide) (pc' := 178) rfl ?_
        refine g_iload X hx (hb hby at_178) rfl (pc' := 180) rfl ?_
        refine g_bipush X hx (hb hby at_180) (x := (8 : Int32)) (by decide) (pc' := 182) rfl ?_
        refine g_iushr X hx (hb hby at_182) (pc' := 183) rfl ?_
        refine g_i2b X hx (hb hby at_183) (pc' := 184) rfl ?_
        refine g_bastoreB X hx hZ eT A_r.2 (hb hby at_184) (by decide) (by decide) (pc' := 185) rfl (fun T h X eT W A' => ?_)
        replace N := Fr.snoc X N g_r
        replace Zn := Nat.le_trans Zn (Nat.le_of_eq W.size.symm)
        replace A_r : Al Z h r .byte 10 [(nar .byte (p3.toInt8.toInt32)), (nar .byte ((XT.ushr p3 (8 : Int32)).toInt8.toInt32)), (nar .byte ((XT.ushr p3 (16 : Int32)).toInt8.toInt32)), (nar .byte ((XT.ushr p3 (24 : Int32)).toInt8.toInt32)), (nar .byte (p4.toInt8.toInt32)), (nar .byte ((XT.ushr p4 (8 : Int32)).toInt8.toInt32)), (0 : Int32), (0 : Int32), (0 : Int32), (0 : Int32)] := A_r.set A'
        refine g_aload X hx (hb hby at_185) rfl rfl (pc' := 187) rfl ?_
        refine g_bipush X hx (hb hby at_187) (x := (6 : Int32)) (by decide) (pc' := 189) rfl ?_
        refine g_iload X hx (hb hby at_189) rfl (pc' := 191) rfl ?_
        refine g_bipush X hx (hb hby at_191) (x := (16 : Int32)) (by decide) (pc' := 193) rfl ?_
        refine g_iushr X hx (hb hby at_193) (pc' := 194) rfl ?_
        refine g_i2b X hx (hb hby at_194) (pc' := 195) rfl ?_
        refine g_bastoreB X hx hZ eT A_r.2 (hb hby at_195) (by decide) (by decide) (pc' := 196) rfl (fun T h X eT W A' => ?_)
        replace N := Fr.snoc X N g_r
        replace Zn := Nat.le_trans Zn (Nat.le_of_eq W.size.symm)
        replace A_r : Al Z h r .byte 10 [(nar .byte (p3.toInt8.toInt32)), (nar .byte ((XT.ushr p3 (8 : Int32)).toInt8.toInt32)), (nar .byte ((XT.ushr p3 (16 : Int32)).toInt8.toInt32)), (nar .byte ((XT.ushr p3 (24 : Int32)).toInt8.toInt32)), (nar .byte (p4.toInt8.toInt32)), (nar .byte ((XT.ushr p4 (8 : Int32)).toInt8.toInt32)), (nar .byte ((XT.ushr p4 (16 : Int32)).toInt8.toInt32)), (0 : Int32), (0 : Int32), (0 : Int32)] := A_r.set A'
        refine g_aload X hx (hb hby at_196) rfl rfl (pc' := 198) rfl ?_
        refine g_bipush X hx (hb hby at_198) (x := (7 : Int32)) (by decide) (pc' := 200) rfl ?_
        refine g_iload X hx (hb hby at_200) rfl (pc' := 202) rfl ?_
        refine g_bipush X hx (hb hby at_202) (x := (24 : Int32)) (by decide) (pc' := 204) rfl ?_
        refine g_iushr X hx (hb hby at_204) (pc' := 205) rfl ?_
        refine g_i2b X hx (hb hby at_205) (pc' := 206) rfl ?_
        refine g_bastoreB X hx hZ eT A_r.2 (hb hby at_206) (by decide) (by decide) (pc' := 207) rfl (fun T h X eT W A' => ?_)
        replace N := Fr.snoc X N g_r
        replace Zn := Nat.le_trans Zn (Nat.le_of_eq W.size.symm)
        replace A_r : Al Z h r .byte 10 [(nar .byte (p3.toInt8.toInt32)), (nar .byte ((XT.ushr p3 (8 : Int32)).toInt8.toInt32)), (nar .byte ((XT.ushr p3 (16 : Int32)).toInt8.toInt32)), (nar .byte ((XT.ushr p3 (24 : Int32)).toInt8.toInt32)), (nar .byte (p4.toInt8.toInt32)), (nar .byte ((XT.ushr p4 (8 : Int32)).toInt8.toInt32)), (nar .byte ((XT.ushr p4 (16 : Int32)).toInt8.toInt32)), (nar .byte ((XT.ushr p4 (24 : Int32)).toInt8.toInt32)), (0 : Int32), (0 : Int32)] := A_r.set A'
        refine g_aload X hx (hb hby at_207) rfl rfl (pc' := 209) rfl ?_
        refine g_bipush X hx (hb hby at_209) (x := (8 : Int32)) (by decide) (pc' := 211) rfl ?_
        refine g_iloadN X hx (hb hby at_211) rfl (pc' := 212) rfl ?_
        refine g_iload X hx (hb hby at_212) rfl (pc' := 214) rfl ?_
        refine g_ixor X hx (hb hby at_214) (pc' := 215) rfl ?_
        refine g_i2b X hx (hb hby at_215) (pc' := 216) rfl ?_
        refine g_bastoreB X hx hZ eT A_r.2 (hb hby at_216) (by decide) (by decide) (pc' := 217) rfl (fun T h X eT W A' => ?_)
        replace N := Fr.snoc X N g_r
        replace Zn := Nat.le_trans Zn (Nat.le_of_eq W.size.symm)
        replace A_r : Al Z h r .byte 10 [(nar .byte (p3.toInt8.toInt32)), (nar .byte ((XT.ushr p3 (8 : Int32)).toInt8.toInt32)), (nar .byte ((XT.ushr p3 (16 : Int32)).toInt8.toInt32)), (nar .byte ((XT.ushr p3 (24 : Int32)).toInt8.toInt32)), (nar .byte (p4.toInt8.toInt32)), (nar .byte ((XT.ushr p4 (8 : Int32)).toInt8.toInt32)), (nar .byte ((XT.ushr p4 (16 : Int32)).toInt8.toInt32)), (nar .byte ((XT.ushr p4 (24 : Int32)).toInt8.toInt32)), (nar .byte ((p3 ^^^ p4).toInt8.toInt32)), (0 : Int32)] := A_r.set A'
        refine g_aload X hx (hb hby at_217) rfl rfl (pc' := 219) rfl ?_
        refine g_bipush X hx (hb hby at_219) (x := (9 : Int32)) (by decide) (pc' := 221) rfl ?_
        refine g_iloadN X hx (hb hby at_221) rfl (pc' := 222) rfl ?_
        refine g_iload X hx (hb hby at_222) rfl (pc' := 224) rfl ?_
        refine g_iadd X hx (hb hby at_224) (pc' := 225) rfl ?_
        refine g_i2b X hx (hb hby at_225) (pc' := 226) rfl ?_
        refine g_bastoreB X hx hZ eT A_r.2 (hb hby at_226) (by decide) (by decide) (pc' := 227) rfl (fun T h X eT W A' => ?_)
        replace N := Fr.snoc X N g_r
        replace Zn := Nat.le_trans Zn (Nat.le_of_eq W.size.symm)
        replace A_r : Al Z h r .byte 10 [(nar .byte (p3.toInt8.toInt32)), (nar .byte ((XT.ushr p3 (8 : Int32)).toInt8.toInt32)), (nar .byte ((XT.ushr p3 (16 : Int32)).toInt8.toInt32)), (nar .byte ((XT.ushr p3 (24 : Int32)).toInt8.toInt32)), (nar .byte (p4.toInt8.toInt32)), (nar .byte ((XT.ushr p4 (8 : Int32)).toInt8.toInt32)), (nar .byte ((XT.ushr p4 (16 : Int32)).toInt8.toInt32)), (nar .byte ((XT.ushr p4 (24 : Int32)).toInt8.toInt32)), (nar .byte ((p3 ^^^ p4).toInt8.toInt32)), (nar .byte ((p3 + p4).toInt8.toInt32))] := A_r.set A'
        obtain ⟨L0, hL0⟩ : ∃ z : List Int32, z = [(nar .byte (p3.toInt8.toInt32)), (nar .byte ((XT.ushr p3 (8 : Int32)).toInt8.toInt32)), (nar .byte ((XT.ushr p3 (16 : Int32)).toInt8.toInt32)), (nar .byte ((XT.ushr p3 (24 : Int32)).toInt8.toInt32)), (nar .byte (p4.toInt8.toInt32)), (nar .byte ((XT.ushr p4 (8 : Int32)).toInt8.toInt32)), (nar .byte ((XT.ushr p4 (16 : Int32)).toInt8.toInt32)), (nar .byte ((XT.ushr p4 (24 : Int32)).toInt8.toInt32)), (nar .byte ((p3 ^^^ p4).toInt8.toInt32)), (nar .byte ((p3 + p4).toInt8.toInt32))] := ⟨_, rfl⟩
        rw [← hL0] at A_r
        have hl0 : L0.length = 10 := A_r.1
        have y0 : f.toInt = f.toInt + ((0 : Nat) : Int) := by omega
        have y1 : (f + (1 : Int32)).toInt = f.toInt + ((1 : Nat) : Int) := by have q := upn f (1 : Int32) (by omega) (by omega) (by decide); simp only [Int32.reduceToInt] at q; omega
        have y2 : (f + (2 : Int32)).toInt = f.toInt + ((2 : Nat) : Int) := by have q := upn f (2 : Int32) (by omega) (by omega) (by decide); simp only [Int32.reduceToInt] at q; omega
        have y3 : (f + (3 : Int32)).toInt = f.toInt + ((3 : Nat) : Int) := by have q := upn f (3 : Int32) (by omega) (by omega) (by decide); simp only [Int32.reduceToInt] at q; omega
        have y4 : (f + (4 : Int32)).toInt = f.toInt + ((4 : Nat) : Int) := by have q := upn f (4 : Int32) (by omega) (by omega) (by decide); simp only [Int32.reduceToInt] at q; omega
        have x0 := nc _ f 0 y0 pf.1
        have x1 := nc _ f 1 y1 pf.1
        have x2 := nc _ f 2 y2 pf.1
        have x3 := nc _ f 3 y3 pf.1
        have x4 := nc _ f 4 y4 pf.1
        have hF : f.toNatClampNeg ≤ 3 := by have e : f.toNatClampNeg = Int.toNat f.toInt := rfl; omega
        have l0 : f.toNatClampNeg < 10 := by omega
        have l1 : f.toNatClampNeg + 1 < 10 := by omega
        have l2 : f.toNatClampNeg + 2 < 10 := by omega
        have l3 : f.toNatClampNeg + 3 < 10 := by omega
        have l4 : f.toNatClampNeg + 4 < 10 := by omega
        refine g_aload X hx (hb hby at_227) rfl rfl (pc' := 229) rfl ?_
        refine g_iload X hx (hb hby at_229) rfl (pc' := 231) rfl ?_
        refine g_iload X hx (hb hby at_231) rfl (pc' := 233) rfl ?_
        refine g_iconst X hx (hb hby at_233) (x := (0 : Int32)) (by decide) (pc' := 234) rfl ?_
        refine g_iload X hx (hb hby at_234) rfl (pc' := 236) rfl ?_
        refine g_stat (W := 2) (argsL := [(.int nn), (.int (0 : Int32)), (.int (2 : Int32))]) (st := [(.int f), (.ref r)]) X hx hZ hown (hw _ (List.mem_of_getElem? (i := 3) rfl)) (hw _ (List.mem_of_getElem? (i := 4) rfl)) (hw _ (List.mem_of_getElem? (i := 5) rfl)) (hw _ (List.mem_of_getElem? (i := 6) rfl)) (by decide) (rmE l Z a0 hw nn (0 : Int32) (2 : Int32) h n0 Zn  ) eT (by decide) (by decide) (by decide) (by decide) (lenOf pd_0 rfl) (by rw [hml]; rfl) rfl (Nat.le_of_eq rfl) (hb hby at_236) (pc' := 239) rfl (fun T hn vq Lq X eT hQ => ?_)
        obtain ⟨rfl, Nq, hE⟩ := hQ
        replace N := Fr.app N Nq
        rw [hE] at eT; clear hE
        show WGo _ _ _ _ _ _ _ _ (mkF m 239 #[.val (.int p0), .val (.int p1), .val (.int p2), .val (.int p3), .val (.int p4), .val (.int ((p1 &&& (2147483647 : Int32)) % (5 : Int32))), .val (.int nn), .val (.int (2 : Int32)), .val (.int f), .val (.ref r)] [(.int (encV nn (0 : Int32) (2 : Int32))), (.int f), (.ref r)])
        refine g_bastoreB X hx hZ eT A_r.2 (hb hby at_239) (in10 y0 pf.1 (by omega)).1 (in10 y0 pf.1 (by omega)).2 (pc' := 240) rfl (fun T h X eT W A' => ?_)
        replace N := Fr.snoc X N g_r
        replace Zn := Nat.le_trans Zn (Nat.le_of_eq W.size.symm)
        replace A_r : Al Z h r .byte 10 (L0.set f.toNatClampNeg (nar .byte (encV nn (0 : Int32) (2 : Int32)))) := A_r.set A'
        refine g_iload X hx (hb hby at_240) rfl (pc' := 242) rfl ?_
        refine g_iconst X hx (hb hby at_242) (x := (1 : Int32)) (by decide) (pc' := 243) rfl ?_
        refine g_icmp X hx (hb hby at_243) (by decide) (pc' := 261) (by decide) (pc2 := 246) rfl (fun hc => ?_) (fun hc => ?_)
        · replace hc := h_le1 hc
          have hc243 := hc
          exfalso
          clear hc243; revert hc; decide
        · replace hc := h_le0 hc
          have hc243 := hc
          refine g_aload X hx (hb hby at_246) rfl rfl (pc' := 248) rfl ?_
          refine g_iload X hx (hb hby at_248) rfl (pc' := 250) rfl ?_
          refine g_iconst X hx (hb hby at_250) (x := (1 : Int32)) (by decide) (pc' := 251) rfl ?_
          refine g_iadd X hx (hb hby at_251) (pc' := 252) rfl ?_
          refine g_iload X hx (hb hby at_252) rfl (pc' := 254) rfl ?_
          refine g_iconst X hx (hb hby at_254) (x := (1 : Int32)) (by decide) (pc' := 255) rfl ?_
          refine g_iload X hx (hb hby at_255) rfl (pc' := 257) rfl ?_
          refine g_stat (W := 2) (argsL := [(.int nn), (.int (1 : Int32)), (.int (2 : Int32))]) (st := [(.int (f + (1 : Int32))), (.ref r)]) X hx hZ hown (hw _ (List.mem_of_getElem? (i := 3) rfl)) (hw _ (List.mem_of_getElem? (i := 4) rfl)) (hw _ (List.mem_of_getElem? (i := 5) rfl)) (hw _ (List.mem_of_getElem? (i := 6) rfl)) (by decide) (rmE l Z a0 hw nn (1 : Int32) (2 : Int32) h n0 Zn  ) eT (by decide) (by decide) (by decide) (by decide) (lenOf pd_0 rfl) (by rw [hml]; rfl) rfl (Nat.le_of_eq rfl) (hb hby at_257) (pc' := 260) rfl (fun T hn vq Lq X eT hQ => ?_)
          obtain ⟨rfl, Nq, hE⟩ := hQ
          replace N := Fr.app N Nq
          rw [hE] at eT; clear hE
          show WGo _ _ _ _ _ _ _ _ (mkF m 260 #[.val (.int p0), .val (.int p1), .val (.int p2), .val (.int p3), .val (.int p4), .val (.int ((p1 &&& (2147483647 : Int32)) % (5 : Int32))), .val (.int nn), .val (.int (2 : Int32)), .val (.int f), .val (.ref r)] [(.int (encV nn (1 : Int32) (2 : Int32))), (.int (f + (1 : Int32))), (.ref r)])
          refine g_bastoreB X hx hZ eT A_r.2 (hb hby at_260) (in10 y1 pf.1 (by omega)).1 (in10 y1 pf.1 (by omega)).2 (pc' := 261) rfl (fun T h X eT W A' => ?_)
          replace N := Fr.snoc X N g_r
          replace Zn := Nat.le_trans Zn (Nat.le_of_eq W.size.symm)
          replace A_r : Al Z h r .byte 10 ((L0.set f.toNatClampNeg (nar .byte (encV nn (0 : Int32) (2 : Int32)))).set (f + (1 : Int32)).toNatClampNeg (nar .byte (encV nn (1 : Int32) (2 : Int32)))) := A_r.set A'
          refine g_iload X hx (hb hby at_261) rfl (pc' := 263) rfl ?_
          refine g_iconst X hx (hb hby at_263) (x := (2 : Int32)) (by decide) (pc' := 264) rfl ?_
          refine g_icmp X hx (hb hby at_264) (by decide) (pc' := 282) (by decide) (pc2 := 267) rfl (fun hc => ?_) (fun hc => ?_)
          · replace hc := h_le1 hc
            have hc264 := hc
            refine g_iload X hx (hb hby at_282) rfl (pc' := 284) rfl ?_
            refine g_iconst X hx (hb hby at_284) (x := (3 : Int32)) (by decide) (pc' := 285) rfl ?_
            refine g_icmp X hx (hb hby at_285) (by decide) (pc' := 303) (by decide) (pc2 := 288) rfl (fun hc => ?_) (fun hc => ?_)
            · replace hc := h_le1 hc
              have hc285 := hc
              refine g_iload X hx (hb hby at_303) rfl (pc' := 305) rfl ?_
              refine g_iconst X hx (hb hby at_305) (x := (4 : Int32)) (by decide) (pc' := 306) rfl ?_
              refine g_icmp X hx (hb hby at_306) (by decide) (pc' := 324) (by decide) (pc2 := 309) rfl (fun hc => ?_) (fun hc => ?_)
              · replace hc := h_le1 hc
                have hc306 := hc
                refine g_aload X hx (hb hby at_324) rfl rfl (pc' := 326) rfl ?_
                refine g_iload X hx (hb hby at_326) rfl (pc' := 328) rfl ?_
                refine g_stat (W := 0) (argsL := [(.ref r), (.int f)]) (st := []) X hx hZ hown (hw _ (List.mem_of_getElem? (i := 7) rfl)) (hw _ (List.mem_of_getElem? (i := 8) rfl)) (hw _ (List.mem_of_getElem? (i := 9) rfl)) (hw _ (List.mem_of_getElem? (i := 10) rfl)) (by decide) (rmG2 l Z a0 hw r f ((L0.set f.toNatClampNeg (nar .byte (encV nn (0 : Int32) (2 : Int32)))).set (f + (1 : Int32)).toNatClampNeg (nar .byte (encV nn (1 : Int32) (2 : Int32)))) (encB nn (0 : Int32) (2 : Int32)) (encB nn (1 : Int32) (2 : Int32)) h n0 Zn A_r (by omega) (by show List.getD _ (f.toNatClampNeg + 0) 0 = encB nn (0 : Int32) (2 : Int32); simp [List.getD, List.getElem?_set, x1, hl0, encB, l0, l1, l2, l3, l4]; try omega) (by show List.getD _ (f.toNatClampNeg + 1) 0 = encB nn (1 : Int32) (2 : Int32); simp [List.getD, List.getElem?_set, x1, hl0, encB, l0, l1, l2, l3, l4]; try omega) (enc_neg nn _ _ (by decide)) (enc_pos nn _ _ (by decide))) eT (by decide) (by decide) (by decide) (by decide) (lenOf pd_1 rfl) (by rw [hml]; rfl) rfl (Nat.le_of_eq rfl) (hb hby at_328) (pc' := 331) rfl (fun T hn vq Lq X eT hQ => ?_)
                obtain ⟨rfl, Nq, hE⟩ := hQ
                replace N := Fr.app N Nq
                rw [hE] at eT; clear hE
                show WGo _ _ _ _ _ _ _ _ (mkF m 331 #[.val (.int p0), .val (.int p1), .val (.int p2), .val (.int p3), .val (.int p4), .val (.int ((p1 &&& (2147483647 : Int32)) % (5 : Int32))), .val (.int nn), .val (.int (2 : Int32)), .val (.int f), .val (.ref r)] [(.int (((0 : Int32) ||| (((encB nn (0 : Int32) (2 : Int32)) &&& (127 : Int32)) <<< ((0 : Int32) &&& 31))) ||| (((encB nn (1 : Int32) (2 : Int32)) &&& (127 : Int32)) <<< (((0 : Int32) + (7 : Int32)) &&& 31))))])
                refine g_iload X hx (hb hby at_331) rfl (pc' := 333) rfl ?_
                refine g_icmp X hx (hb hby at_333) (by decide) (pc' := 340) (by decide) (pc2 := 336) rfl (fun hc => ?_) (fun hc => ?_)
                · replace hc := h_ne1 hc
                  have hc333 := hc
                  exfalso
                  simp only [Int32.lt_iff_toInt_lt, Int32.reduceToInt] at hc80 hc92
                  exact hc (dec2 nn hj16 (by omega))
                · replace hc := h_ne0 hc
                  have hc333 := hc
                  refine g_iconst X hx (hb hby at_336) (x := (1 : Int32)) (by decide) (pc' := 337) rfl ?_
                  refine g_goto X hx (hb hby at_337) (by decide) (pc' := 341) (by decide) ?_
                  refine g_retN (t := .boolean) X hx hret (by simp) hlk (hb hby at_341) (by decide) (by decide) ?_
                  exact ⟨rfl, N⟩
              · replace hc := h_le0 hc
                have hc306 := hc
                exfalso
                clear hc306; revert hc; decide
            · replace hc := h_le0 hc
              have hc285 := hc
              exfalso
              clear hc285; revert hc; decide
          · replace hc := h_le0 hc
            have hc264 := hc
            exfalso
            clear hc264; revert hc; decide
    · replace hc := h_ge0 hc
      have hc80 := hc
      refine g_iconst X hx (hb hby at_83) (x := (1 : Int32)) (by decide) (pc' := 84) rfl ?_
      refine g_goto X hx (hb hby at_84) (by decide) (pc' := 122) (by decide) ?_
      refine g_istore X hx (hb hby at_122) (Ls' := #[.val (.int p0), .val (.int p1), .val (.int p2), .val (.int p3), .val (.int p4), .val (.int ((p1 &&& (2147483647 : Int32)) % (5 : Int32))), .val (.int nn), .val (.int (1 : Int32)), .unset, .unset]) rfl (pc' := 124) rfl ?_
      refine g_iloadN X hx (hb hby at_124) rfl (pc' := 125) rfl ?_
      refine g_iconst X hx (hb hby at_125) (x := (3 : Int32)) (by decide) (pc' := 126) rfl ?_
      refine g_iand X hx (hb hby at_126) (pc' := 127) rfl ?_
      obtain ⟨f, hf, pf⟩ : ∃ z : Int32, z = (p2 &&& (3 : Int32)) ∧ (0 ≤ z.toInt ∧ z.toInt ≤ 3) := ⟨_, rfl, (by have q := c_and p2 3 (by decide); simp only [Int32.reduceToInt] at q; exact q)⟩
      rw [← hf]
      refine g_istore X hx (hb hby at_127) (Ls' := #[.val (.int p0), .val (.int p1), .val (.int p2), .val (.int p3), .val (.int p4), .val (.int ((p1 &&& (2147483647 : Int32)) % (5 : Int32))), .val (.int nn), .val (.int (1 : Int32)), .val (.int f), .unset]) rfl (pc' := 129) rfl ?_
      refine g_bipush X hx (hb hby at_129) (x := (10 : Int32)) (by decide) (pc' := 131) rfl ?_
      refine g_newP (cap := 10) X hx hZ (hw _ (List.mem_of_getElem? (i := 2) rfl)) eT (hb hby at_131) (by decide) (by decide) (by decide) (by decide) (by decide) (pc' := 133) rfl (fun T h r ha X eT Ex A_r => ?_)
      have g_r : n0 ≤ r := by rw [ha]; exact Zn
      replace Zn := Nat.le_trans Zn Ex.1
      replace A_r : Al Z h r .byte 10 [0, 0, 0, 0, 0, 0, 0, 0, 0, 0] := Al.new A_r
      refine g_astore X hx (hb hby at_133) rfl (Ls' := #[.val (.int p0), .val (.int p1), .val (.int p2), .val (.int p3), .val (.int p4), .val (.int ((p1 &&& (2147483647 : Int32)) % (5 : Int32))), .val (.int nn), .val (.int (1 : Int32)), .val (.int f), .val (.ref r)]) rfl (pc' := 135) rfl ?_
      refine g_aload X hx (hb hby at_135) rfl rfl (pc' := 137) rfl ?_
      refine g_iconst X hx (hb hby at_137) (x := (0 : Int32)) (by decide) (pc' := 138) rfl ?_
      refine g_iloadN X hx (hb hby at_138) rfl (pc' := 139) rfl ?_
      refine g_i2b X hx (hb hby at_139) (pc' := 140) rfl ?_
      refine g_bastoreB X hx hZ eT A_r.2 (hb hby at_140) (by decide) (by decide) (pc' := 141) rfl (fun T h X eT W A' => ?_)
      replace N := Fr.snoc X N g_r
      replace Zn := Nat.le_trans Zn (Nat.le_of_eq W.size.symm)
      replace A_r : Al Z h r .byte 10 [(nar .byte (p3.toInt8.toInt32)), (0 : Int32), (0 : Int32), (0 : Int32), (0 : Int32), (0 : Int32), (0 : Int32), (0 : Int32), (0 : Int32), (0 : Int32)] := A_r.set A'
      refine g_aload X hx (hb hby at_141) rfl rfl (pc' := 143) rfl ?_
      refine g_iconst X hx (hb hby at_143) (x := (1 : Int32)) (by decide) (pc' := 144) rfl ?_
      refine g_iloadN X hx (hb hby at_144) rfl (pc' := 145) rfl ?_
      refine g_bipush X hx (hb hby at_145) (x := (8 : Int32)) (by decide) (pc' := 147) rfl ?_
      refine g_iushr X hx (hb hby at_147) (pc' := 148) rfl ?_
      refine g_i2b X hx (hb hby at_148) (pc' := 149) rfl ?_
      refine g_bastoreB X hx hZ eT A_r.2 (hb hby at_149) (by decide) (by decide) (pc' := 150) rfl (fun T h X eT W A' => ?_)
      replace N := Fr.snoc X N g_r
      replace Zn := Nat.le_trans Zn (Nat.le_of_eq W.size.symm)
      replace A_r : Al Z h r .byte 10 [(nar .byte (p3.toInt8.toInt32)), (nar .byte ((XT.ushr p3 (8 : Int32)).toInt8.toInt32)), (0 : Int32), (0 : Int32), (0 : Int32), (0 : Int32), (0 : Int32), (0 : Int32), (0 : Int32), (0 : Int32)] := A_r.set A'
      refine g_aload X hx (hb hby at_150) rfl rfl (pc' := 152) rfl ?_
      refine g_iconst X hx (hb hby at_152) (x := (2 : Int32)) (by decide) (pc' := 153) rfl ?_
      refine g_iloadN X hx (hb hby at_153) rfl (pc' := 154) rfl ?_
      refine g_bipush X hx (hb hby at_154) (x := (16 : Int32)) (by decide) (pc' := 156) rfl ?_
      refine g_iushr X hx (hb hby at_156) (pc' := 157) rfl ?_
      refine g_i2b X hx (hb hby at_157) (pc' := 158) rfl ?_
      refine g_bastoreB X hx hZ eT A_r.2 (hb hby at_158) (by decide) (by decide) (pc' := 159) rfl (fun T h X eT W A' => ?_)
      replace N := Fr.snoc X N g_r
      replace Zn := Nat.le_trans Zn (Nat.le_of_eq W.size.symm)
      replace A_r : Al Z h r .byte 10 [(nar .byte (p3.toInt8.toInt32)), (nar .byte ((XT.ushr p3 (8 : Int32)).toInt8.toInt32)), (nar .byte ((XT.ushr p3 (16 : Int32)).toInt8.toInt32)), (0 : Int32), (0 : Int32), (0 : Int32), (0 : Int32), (0 : Int32), (0 : Int32), (0 : Int32)] := A_r.set A'
      refine g_aload X hx (hb hby at_159) rfl rfl (pc' := 161) rfl ?_
      refine g_iconst X hx (hb hby at_161) (x := (3 : Int32)) (by decide) (pc' := 162) rfl ?_
      refine g_iloadN X hx (hb hby at_162) rfl (pc' := 163) rfl ?_
      refine g_bipush X hx (hb hby at_163) (x := (24 : Int32)) (by decide) (pc' := 165) rfl ?_
      refine g_iushr X hx (hb hby at_165) (pc' := 166) rfl ?_
      refine g_i2b X hx (hb hby at_166) (pc' := 167) rfl ?_
      refine g_bastoreB X hx hZ eT A_r.2 (hb hby at_167) (by decide) (by decide) (pc' := 168) rfl (fun T h X eT W A' => ?_)
      replace N := Fr.snoc X N g_r
      replace Zn := Nat.le_trans Zn (Nat.le_of_eq W.size.symm)
      replace A_r : Al Z h r .byte 10 [(nar .byte (p3.toInt8.toInt32)), (nar .byte ((XT.ushr p3 (8 : Int32)).toInt8.toInt32)), (nar .byte ((XT.ushr p3 (16 : Int32)).toInt8.toInt32)), (nar .byte ((XT.ushr p3 (24 : Int32)).toInt8.toInt32)), (0 : Int32), (0 : Int32), (0 : Int32), (0 : Int32), (0 : Int32), (0 : Int32)] := A_r.set A'
      refine g_aload X hx (hb hby at_168) rfl rfl (pc' := 170) rfl ?_
      refine g_iconst X hx (hb hby at_170) (x := (4 : Int32)) (by decide) (pc' := 171) rfl ?_
      refine g_iload X hx (hb hby at_171) rfl (pc' := 173) rfl ?_
      refine g_i2b X hx (hb hby at_173) (pc' := 174) rfl ?_
      refine g_bastoreB X hx hZ eT A_r.2 (hb hby at_174) (by decide) (by decide) (pc' := 175) rfl (fun T h X eT W A' => ?_)
      replace N := Fr.snoc X N g_r
      replace Zn := Nat.le_trans Zn (Nat.le_of_eq W.size.symm)
      replace A_r : Al Z h r .byte 10 [(nar .byte (p3.toInt8.toInt32)), (nar .byte ((XT.ushr p3 (8 : Int32)).toInt8.toInt32)), (nar .byte ((XT.ushr p3 (16 : Int32)).toInt8.toInt32)), (nar .byte ((XT.ushr p3 (24 : Int32)).toInt8.toInt32)), (nar .byte (p4.toInt8.toInt32)), (0 : Int32), (0 : Int32), (0 : Int32), (0 : Int32), (0 : Int32)] := A_r.set A'
      refine g_aload X hx (hb hby at_175) rfl rfl (pc' := 177) rfl ?_
      refine g_iconst X hx (hb hby at_177) (x := (5 : Int32)) (by decide) (pc' := 178) rfl ?_
      refine g_iload X hx (hb hby at_178) rfl (pc' := 180) rfl ?_
      refine g_bipush X hx (hb hby at_180) (x := (8 : Int32)) (by decide) (pc' := 182) rfl ?_
      refine g_iushr X hx (hb hby at_182) (pc' := 183) rfl ?_
      refine g_i2b X hx (hb hby at_183) (pc' := 184) rfl ?_
      refine g_bastoreB X hx hZ eT A_r.2 (hb hby at_184) (by decide) (by decide) (pc' := 185) rfl (fun T h X eT W A' => ?_)
      replace N := Fr.snoc X N g_r
      replace Zn := Nat.le_trans Zn (Nat.le_of_eq W.size.symm)
      replace A_r : Al Z h r .byte 10 [(nar .byte (p3.toInt8.toInt32)), (nar .byte ((XT.ushr p3 (8 : Int32)).toInt8.toInt32)), (nar .byte ((XT.ushr p3 (16 : Int32)).toInt8.toInt32)), (nar .byte ((XT.ushr p3 (24 : Int32)).toInt8.toInt32)), (nar .byte (p4.toInt8.toInt32)), (nar .byte ((XT.ushr p4 (8 : Int32)).toInt8.toInt32)), (0 : Int32), (0 : Int32), (0 : Int32), (0 : Int32)] := A_r.set A'
      refine g_aload X hx (hb hby at_185) rfl rfl (pc' := 187) rfl ?_
      refine g_bipush X hx (hb hby at_187) (x := (6 : Int32)) (by decide) (pc' := 189) rfl ?_
      refine g_iload X hx (hb hby at_189) rfl (pc' := 191) rfl ?_
      refine g_bipush X hx (hb hby at_191) (x := (16 : Int32)) (by decide) (pc' := 193) rfl ?_
      refine g_iushr X hx (hb hby at_193) (pc' := 194) rfl ?_
      refine g_i2b X hx (hb hby at_194) (pc' := 195) rfl ?_
      refine g_bastoreB X hx hZ eT A_r.2 (hb hby at_195) (by decide) (by decide) (pc' := 196) rfl (fun T h X eT W A' => ?_)
      replace N := Fr.snoc X N g_r
      replace Zn := Nat.le_trans Zn (Nat.le_of_eq W.size.symm)
      replace A_r : Al Z h r .byte 10 [(nar .byte (p3.toInt8.toInt32)), (nar .byte ((XT.ushr p3 (8 : Int32)).toInt8.toInt32)), (nar .byte ((XT.ushr p3 (16 : Int32)).toInt8.toInt32)), (nar .byte ((XT.ushr p3 (24 : Int32)).toInt8.toInt32)), (nar .byte (p4.toInt8.toInt32)), (nar .byte ((XT.ushr p4 (8 : Int32)).toInt8.toInt32)), (nar .byte ((XT.ushr p4 (16 : Int32)).toInt8.toInt32)), (0 : Int32), (0 : Int32), (0 : Int32)] := A_r.set A'
      refine g_aload X hx (hb hby at_196) rfl rfl (pc' := 198) rfl ?_
      refine g_bipush X hx (hb hby at_198) (x := (7 : Int32)) (by decide) (pc' := 200) rfl ?_
      refine g_iload X hx (hb hby at_200) rfl (pc' := 202) rfl ?_
      refine g_bipush X hx (hb hby at_202) (x := (24 : Int32)) (by decide) (pc' := 204) rfl ?_
      refine g_iushr X hx (hb hby at_204) (pc' := 205) rfl ?_
      refine g_i2b X hx (hb hby at_205) (pc' := 206) rfl ?_
      refine g_bastoreB X hx hZ eT A_r.2 (hb hby at_206) (by decide) (by decide) (pc' := 207) rfl (fun T h X eT W A' => ?_)
      replace N := Fr.snoc X N g_r
      replace Zn := Nat.le_trans Zn (Nat.le_of_eq W.size.symm)
      replace A_r : Al Z h r .byte 10 [(nar .byte (p3.toInt8.toInt32)), (nar .byte ((XT.ushr p3 (8 : Int32)).toInt8.toInt32)), (nar .byte ((XT.ushr p3 (16 : Int32)).toInt8.toInt32)), (nar .byte ((XT.ushr p3 (24 : Int32)).toInt8.toInt32)), (nar .byte (p4.toInt8.toInt32)), (nar .byte ((XT.ushr p4 (8 : Int32)).toInt8.toInt32)), (nar .byte ((XT.ushr p4 (16 : Int32)).toInt8.toInt32)), (nar .byte ((XT.ushr p4 (24 : Int32)).toInt8.toInt32)), (0 : Int32), (0 : Int32)] := A_r.set A'
      refine g_aload X hx (hb hby at_207) rfl rfl (pc' := 209) rfl ?_
      refine g_bipush X hx (hb hby at_209) (x := (8 : Int32)) (by decide) (pc' := 211) rfl ?_
      refine g_iloadN X hx (hb hby at_211) rfl (pc' := 212) rfl ?_
      refine g_iload X hx (hb hby at_212) rfl (pc' := 214) rfl ?_
      refine g_ixor X hx (hb hby at_214) (pc' := 215) rfl ?_
      refine g_i2b X hx (hb hby at_215) (pc' := 216) rfl ?_
      refine g_bastoreB X hx hZ eT A_r.2 (hb hby at_216) (by decide) (by decide) (pc' := 217) rfl (fun T h X eT W A' => ?_)
      replace N := Fr.snoc X N g_r
      replace Zn := Nat.le_trans Zn (Nat.le_of_eq W.size.symm)
      replace A_r : Al Z h r .byte 10 [(nar .byte (p3.toInt8.toInt32)), (nar .byte ((XT.ushr p3 (8 : Int32)).toInt8.toInt32)), (nar .byte ((XT.ushr p3 (16 : Int32)).toInt8.toInt32)), (nar .byte ((XT.ushr p3 (24 : Int32)).toInt8.toInt32)), (nar .byte (p4.toInt8.toInt32)), (nar .byte ((XT.ushr p4 (8 : Int32)).toInt8.toInt32)), (nar .byte ((XT.ushr p4 (16 : Int32)).toInt8.toInt32)), (nar .byte ((XT.ushr p4 (24 : Int32)).toInt8.toInt32)), (nar .byte ((p3 ^^^ p4).toInt8.toInt32)), (0 : Int32)] := A_r.set A'
      refine g_aload X hx (hb hby at_217) rfl rfl (pc' := 219) rfl ?_
      refine g_bipush X hx (hb hby at_219) (x := (9 : Int32)) (by decide) (pc' := 221) rfl ?_
      refine g_iloadN X hx (hb hby at_221) rfl (pc' := 222) rfl ?_
      refine g_iload X hx (hb hby at_222) rfl (pc' := 224) rfl ?_
      refine g_iadd X hx (hb hby at_224) (pc' := 225) rfl ?_
      refine g_i2b X hx (hb hby at_225) (pc' := 226) rfl ?_
      refine g_bastoreB X hx hZ eT A_r.2 (hb hby at_226) (by decide) (by decide) (pc' := 227) rfl (fun T h X eT W A' => ?_)
      replace N := Fr.snoc X N g_r
      replace Zn := Nat.le_trans Zn (Nat.le_of_eq W.size.symm)
      replace A_r : Al Z h r .byte 10 [(nar .byte (p3.toInt8.toInt32)), (nar .byte ((XT.ushr p3 (8 : Int32)).toInt8.toInt32)), (nar .byte ((XT.ushr p3 (16 : Int32)).toInt8.toInt32)), (nar .byte ((XT.ushr p3 (24 : Int32)).toInt8.toInt32)), (nar .byte (p4.toInt8.toInt32)), (nar .byte ((XT.ushr p4 (8 : Int32)).toInt8.toInt32)), (nar .byte ((XT.ushr p4 (16 : Int32)).toInt8.toInt32)), (nar .byte ((XT.ushr p4 (24 : Int32)).toInt8.toInt32)), (nar .byte ((p3 ^^^ p4).toInt8.toInt32)), (nar .byte ((p3 + p4).toInt8.toInt32))] := A_r.set A'
      obtain ⟨L0, hL0⟩ : ∃ z : List Int32, z = [(nar .byte (p3.toInt8.toInt32)), (nar .byte ((XT.ushr p3 (8 : Int32)).toInt8.toInt32)), (nar .byte ((XT.ushr p3 (16 : Int32)).toInt8.toInt32)), (nar .byte ((XT.ushr p3 (24 : Int32)).toInt8.toInt32)), (nar .byte (p4.toInt8.toInt32)), (nar .byte ((XT.ushr p4 (8 : Int32)).toInt8.toInt32)), (nar .byte ((XT.ushr p4 (16 : Int32)).toInt8.toInt32)), (nar .byte ((XT.ushr p4 (24 : Int32)).toInt8.toInt32)), (nar .byte ((p3 ^^^ p4).toInt8.toInt32)), (nar .byte ((p3 + p4).toInt8.toInt32))] := ⟨_, rfl⟩
      rw [← hL0] at A_r
      have hl0 : L0.length = 10 := A_r.1
      have y0 : f.toInt = f.toInt + ((0 : Nat) : Int) := by omega
      have y1 : (f + (1 : Int32)).toInt = f.toInt + ((1 : Nat) : Int) := by have q := upn f (1 : Int32) (by omega) (by omega) (by decide); simp only [Int32.reduceToInt] at q; omega
      have y2 : (f + (2 : Int32)).toInt = f.toInt + ((2 : Nat) : Int) := by have q := upn f (2 : Int32) (by omega) (by omega) (by decide); simp only [Int32.reduceToInt] at q; omega
      have y3 : (f + (3 : Int32)).toInt = f.toInt + ((3 : Nat) : Int) := by have q := upn f (3 : Int32) (by omega) (by omega) (by decide); simp only [Int32.reduceToInt] at q; omega
      have y4 : (f + (4 : Int32)).toInt = f.toInt + ((4 : Nat) : Int) := by have q := upn f (4 : Int32) (by omega) (by omega) (by decide); simp only [Int32.reduceToInt] at q; omega
      have x0 := nc _ f 0 y0 pf.1
      have x1 := nc _ f 1 y1 pf.1
      have x2 := nc _ f 2 y2 pf.1
      have x3 := nc _ f 3 y3 pf.1
      have x4 := nc _ f 4 y4 pf.1
      have hF : f.toNatClampNeg ≤ 3 := by have e : f.toNatClampNeg = Int.toNat f.toInt := rfl; omega
      have l0 : f.toNatClampNeg < 10 := by omega
      have l1 : f.toNatClampNeg + 1 < 10 := by omega
      have l2 : f.toNatClampNeg + 2 < 10 := by omega
      have l3 : f.toNatClampNeg + 3 < 10 := by omega
      have l4 : f.toNatClampNeg + 4 < 10 := by omega
      refine g_aload X hx (hb hby at_227) rfl rfl (pc' := 229) rfl ?_
      refine g_iload X hx (hb hby at_229) rfl (pc' := 231) rfl ?_
      refine g_iload X hx (hb hby at_231) rfl (pc' := 233) rfl ?_
      refine g_iconst X hx (hb hby at_233) (x := (0 : Int32)) (by decide) (pc' := 234) rfl ?_
      refine g_iload X hx (hb hby at_234) rfl (pc' := 236) rfl ?_
      refine g_stat (W := 2) (argsL := [(.int nn), (.int (0 : Int32)), (.int (1 : Int32))]) (st := [(.int f), (.ref r)]) X hx hZ hown (hw _ (List.mem_of_getElem? (i := 3) rfl)) (hw _ (List.mem_of_getElem? (i := 4) rfl)) (hw _ (List.mem_of_getElem? (i := 5) rfl)) (hw _ (List.mem_of_getElem? (i := 6) rfl)) (by decide) (rmE l Z a0 hw nn (0 : Int32) (1 : Int32) h n0 Zn  ) eT (by decide) (by decide) (by decide) (by decide) (lenOf pd_0 rfl) (by rw [hml]; rfl) rfl (Nat.le_of_eq rfl) (hb hby at_236) (pc' := 239) rfl (fun T hn vq Lq X eT hQ => ?_)
      obtain ⟨rfl, Nq, hE⟩ := hQ
      replace N := Fr.app N Nq
      rw [hE] at eT; clear hE
      show WGo _ _ _ _ _ _ _ _ (mkF m 239 #[.val (.int p0), .val (.int p1), .val (.int p2), .val (.int p3), .val (.int p4), .val (.int ((p1 &&& (2147483647 : Int32)) % (5 : Int32))), .val (.int nn), .val (.int (1 : Int32)), .val (.int f), .val (.ref r)] [(.int (encV nn (0 : Int32) (1 : Int32))), (.int f), (.ref r)])
      refine g_bastoreB X hx hZ eT A_r.2 (hb hby at_239) (in10 y0 pf.1 (by omega)).1 (in10 y0 pf.1 (by omega)).2 (pc' := 240) rfl (fun T h X eT W A' => ?_)
      replace N := Fr.snoc X N g_r
      replace Zn := Nat.le_trans Zn (Nat.le_of_eq W.size.symm)
      replace A_r : Al Z h r .byte 10 (L0.set f.toNatClampNeg (nar .byte (encV nn (0 : Int32) (1 : Int32)))) := A_r.set A'
      refine g_iload X hx (hb hby at_240) rfl (pc' := 242) rfl ?_
      refine g_iconst X hx (hb hby at_242) (x := (1 : Int32)) (by decide) (pc' := 243) rfl ?_
      refine g_icmp X hx (hb hby at_243) (by decide) (pc' := 261) (by decide) (pc2 := 246) rfl (fun hc => ?_) (fun hc => ?_)
      · replace hc := h_le1 hc
        have hc243 := hc
        refine g_iload X hx (hb hby at_261) rfl (pc' := 263) rfl ?_
        refine g_iconst X hx (hb hby at_263) (x := (2 : Int32)) (by decide) (pc' := 264) rfl ?_
        refine g_icmp X hx (hb hby at_264) (by decide) (pc' := 282) (by decide) (pc2 := 267) rfl (fun hc => ?_) (fun hc => ?_)
        · replace hc := h_le1 hc
          have hc264 := hc
          refine g_iload X hx (hb hby at_282) rfl (pc' := 284) rfl ?_
          refine g_iconst X hx (hb hby at_284) (x := (3 : Int32)) (by decide) (pc' := 285) rfl ?_
          refine g_icmp X hx (hb hby at_285) (by decide) (pc' := 303) (by decide) (pc2 := 288) rfl (fun hc => ?_) (fun hc => ?_)
          · replace hc := h_le1 hc
            have hc285 := hc
            refine g_iload X hx (hb hby at_303) rfl (pc' := 305) rfl ?_
            refine g_iconst X hx (hb hby at_305) (x := (4 : Int32)) (by decide) (pc' := 306) rfl ?_
            refine g_icmp X hx (hb hby at_306) (by decide) (pc' := 324) (by decide) (pc2 := 309) rfl (fun hc => ?_) (fun hc => ?_)
            · replace hc := h_le1 hc
              have hc306 := hc
              refine g_aload X hx (hb hby at_324) rfl rfl (pc' := 326) rfl ?_
              refine g_iload X hx (hb hby at_326) rfl (pc' := 328) rfl ?_
              refine g_stat (W := 0) (argsL := [(.ref r), (.int f)]) (st := []) X hx hZ hown (hw _ (List.mem_of_getElem? (i := 7) rfl)) (hw _ (List.mem_of_getElem? (i := 8) rfl)) (hw _ (List.mem_of_getElem? (i := 9) rfl)) (hw _ (List.mem_of_getElem? (i := 10) rfl)) (by decide) (rmG1 l Z a0 hw r f (L0.set f.toNatClampNeg (nar .byte (encV nn (0 : Int32) (1 : Int32)))) (encB nn (0 : Int32) (1 : Int32)) h n0 Zn A_r (by omega) (by show List.getD _ (f.toNatClampNeg + 0) 0 = encB nn (0 : Int32) (1 : Int32); simp [List.getD, List.getElem?_set, hF, hl0, encB, l0, l1, l2, l3, l4]; try omega) (enc_pos nn _ _ (by decide))) eT (by decide) (by decide) (by decide) (by decide) (lenOf pd_1 rfl) (by rw [hml]; rfl) rfl (Nat.le_of_eq rfl) (hb hby at_328) (pc' := 331) rfl (fun T hn vq Lq X eT hQ => ?_)
              obtain ⟨rfl, Nq, hE⟩ := hQ
              replace N := Fr.app N Nq
              rw [hE] at eT; clear hE
              show WGo _ _ _ _ _ _ _ _ (mkF m 331 #[.val (.int p0), .val (.int p1), .val (.int p2), .val (.int p3), .val (.int p4), .val (.int ((p1 &&& (2147483647 : Int32)) % (5 : Int32))), .val (.int nn), .val (.int (1 : Int32)), .val (.int f), .val (.ref r)] [(.int ((0 : Int32) ||| (((encB nn (0 : Int32) (1 : Int32)) &&& (127 : Int32)) <<< ((0 : Int32) &&& 31))))])
              refine g_iload X hx (hb hby at_331) rfl (pc' := 333) rfl ?_
              refine g_icmp X hx (hb hby at_333) (by decide) (pc' := 340) (by decide) (pc2 := 336) rfl (fun hc => ?_) (fun hc => ?_)
              · replace hc := h_ne1 hc
                have hc333 := hc
                exfalso
                simp only [Int32.lt_iff_toInt_lt, Int32.reduceToInt] at hc80
                exact hc (dec1 nn hj16 (by omega))
              · replace hc := h_ne0 hc
                have hc333 := hc
                refine g_iconst X hx (hb hby at_336) (x := (1 : Int32)) (by decide) (pc' := 337) rfl ?_
                refine g_goto X hx (hb hby at_337) (by decide) (pc' := 341) (by decide) ?_
                refine g_retN (t := .boolean) X hx hret (by simp) hlk (hb hby at_341) (by decide) (by decide) ?_
                exact ⟨rfl, N⟩
            · replace hc := h_le0 hc
              have hc306 := hc
              exfalso
              clear hc306; revert hc; decide
          · replace hc := h_le0 hc
            have hc285 := hc
            exfalso
            clear hc285; revert hc; decide
        · replace hc := h_le0 hc
          have hc264 := hc
          exfalso
          clear hc264; revert hc; decide
      · replace hc := h_le0 hc
        have hc243 := hc
        exfalso
        clear hc243; revert hc; decide
set_option maxRecDepth 65536 in
set_option maxHeartbeats 40000000 in
theorem comes_1 {Post : Tables → Env → Array Value → State → Outcome → State → Prop} (hpost : ∀ tb e args s v u, (limb_1_1.after args s (.returned v) u = true ∧ limb_1_2.after args s (.returned v) u = true ∧ True) → FrameEnd s (.returned v) u (Jvm.fieldLocs frame_1_writes args s ++ Jvm.arrayLocs frame_1_arrays args s ++ Jvm.staticLocs frame_1_statics s) 16 128 → Post tb e args s (.returned v) u) :
    ArmFor flags0 classFile x code maxLocals ret World_1 tables_1 room_1 Calls_1 rest_1 Pre_1 Post := by
  intro l hfl _ _ p e ha hc hk s m args below hf hA hF happ hP
  obtain ⟨hcalls, hrest, hpre⟩ := hP
  obtain ⟨-, -, -, hnamed, -, -, -, hat⟩ := (Spec.applies_iff hf).mp happ
  obtain ⟨hg, hn⟩ := and_e (Cond.before_iff.mp (show (Jvm.Cond.and given_1 narrow_1).before args s = true from hpre))
  obtain ⟨gc, gr0⟩ := and_e hg
  obtain ⟨ga0, gr1⟩ := and_e gr0
  obtain ⟨ga1, gr2⟩ := and_e gr1
  obtain ⟨ga2, gr3⟩ := and_e gr2
  obtain ⟨ga3, gr4⟩ := and_e gr3
  obtain ⟨w0, w1, w2, w3, w4, rfl⟩ : ∃ w0 w1 w2 w3 w4 : Value, args = #[w0, w1, w2, w3, w4] := by
    have hs : args.size = 5 := by simpa [Cond.value, given_1] using gc
    obtain ⟨L⟩ := args
    match L, hs with
    | [w0, w1, w2, w3, w4], _ => exact ⟨w0, w1, w2, w3, w4, rfl⟩
  have hw := fun d (hd : d ∈ tables_1) => atoms_spec (ws := Jvm.Cond.code x code maxLocals ret :: tables_1) hat d (List.mem_cons_of_mem _ hd)
  obtain ⟨i0, ei0⟩ := is_v ga0
  obtain rfl : w0 = (.int i0) := Option.some.inj ei0
  obtain ⟨i1, ei1⟩ := is_v ga1
  obtain rfl : w1 = (.int i1) := Option.some.inj ei1
  obtain ⟨i2, ei2⟩ := is_v ga2
  obtain rfl : w2 = (.int i2) := Option.some.inj ei2
  obtain ⟨i3, ei3⟩ := is_v ga3
  obtain rfl : w3 = (.int i3) := Option.some.inj ei3
  obtain ⟨i4, ei4⟩ := is_v gr4
  obtain rfl : w4 = (.int i4) := Option.some.inj ei4
  obtain ⟨n, o, h1, h2, h3, _, L, rfl, ⟨rfl, N⟩, hq⟩ := rm0 l s _ hw i0 i1 i2 i3 i4 s.heap s.heap.size (Nat.le_refl _)  tables_1 p e ha hc hk s m _ below hf ((Spec.applies_iff_loose hf).mp happ).1 ⟨rfl, State.Warmed39.refl s, rfl⟩ trivial
  refine ⟨n, _, h1, h2, h3, hpost _ _ _ _ _ _ ⟨Cond.after_iff.mpr rfl, Cond.after_iff.mpr (eq_i res_at (Term.int_eval (1)) rfl), trivial⟩ ⟨hq.1, hq.2.1, (hq.2.2.sift fun y hy => Or.inr (N y hy)).mono (by decide) (by decide)⟩⟩
theorem main_1_1 : Claimed_1_1 := comes_1 fun _ _ _ _ _ _ h hF => ⟨h.1, hF⟩
theorem main_1_2 : Claimed_1_2 := comes_1 fun _ _ _ _ _ _ h hF => ⟨h.2.1, hF⟩
end Jvm.Pilot.@@N@@
namespace Jvm.Pilot.@@N@@
open Jvm Jvm.ClassFile Sem Op Lib Jvm.Free Jvm.Stand Jvm.Pilot.@@N@@.Jvm.D
/-! MADE BY PROGRAM (witnessworld.py) out of the Statement's table words and the real class files: 9 classes; the members and pool entries that the words name. The judged class is class 1, her method 2. -/
namespace start1
open Jvm.ClassFile
def u (s : String) : CpInfo := .utf8 (stringToUtf16 s)
/-- a pool by its gaps: so many unusable entries, then the entry; so many at the end -/
def gap : Nat → List CpInfo → List CpInfo
  | 0, r => r
  | n + 1, r => .unusable :: gap n r
def poolList (es : List (Nat × CpInfo)) (last : Nat) : List CpInfo := es.foldr (fun e r => gap e.1 (e.2 :: r)) (gap last [])
def pool (es : List (Nat × CpInfo)) (last : Nat) : Array CpInfo := ⟨poolList es last⟩
def fileOf (pool : Array CpInfo) (this : Nat) (attrs : Array Attribute := #[]) (ms : Array MethodInfo := #[]) (fl : Nat := 33) (sup : Nat := 0) (ifs : Array Nat := #[]) (fds : Array FieldInfo := #[]) : ClassFile where
  minorVersion := 0
  majorVersion := 65
  constantPool := pool
  accessFlags := fl
  thisClass := this
  superClass := sup
  interfaces := ifs
  fields := fds
  methods := ms
  attributes := attrs
def plain (name : String) (sup : Option ClassId) : Class where
  name := name
  kind := .ordinary
  loader := none
  accessFlags := 33
  super := sup
  interfaces := #[]
  cf := none
  fields := #[]
  methods := #[]
  instanceTypes := #[]
  staticTypes := #[]
  resolved := #[]
  callSites := []
  init := .initialized
  statics := none
  mirror := none

def pool0 : Array CpInfo := pool [(5, u "<init>"), (0, u "()V"), (1, .class_ 10), (1, u "java/lang/Object")] 113

def k0m0 : Method := { name := "<init>", desc := "()V", sig := { parameters := [], returnType := none }, accessFlags := 1, code := none }
/-- java/lang/Object -/
def k0 : Class := { plain "java/lang/Object" none with
  accessFlags := 33
  interfaces := #[]
  cf := some (fileOf pool0 8 #[] #[{ accessFlags := 1, nameIndex := 5, descriptorIndex := 6, attributes := #[] }] 33 0 #[] #[])
  fields := #[]
  methods := #[k0m0]
  instanceTypes := #[]
  staticTypes := #[]
  resolved := Array.replicate 124 none
  statics := none }

def pool1 : Array CpInfo := pool [(2, .class_ 4), (1, u "java/lang/Object"), (0, u "<init>"), (0, u "()V"), (0, .integer 2147483647), (0, .integer 2097151), (0, .integer 268435455), (0, .integer 2097152), (0, .integer 268435456), (0, .methodref 13 14), (0, .class_ 15), (0, .nameAndType 16 17), (0, u "com/example/dwindl/dwindl/io/Leb128GetPinLaw"), (0, u "enc"), (0, u "(III)B"), (0, .methodref 19 20), (0, .class_ 21), (0, .nameAndType 22 23), (0, u "com/example/dwindl/dwindl/io/Leb128"), (0, u "get"), (0, u "([BI)I"), (3, u "law"), (0, u "(IIIII)Z")] 4

def k1m0 : Method := { name := "<init>", desc := "()V", sig := { parameters := [], returnType := none }, accessFlags := 1, code := none }
def k1c1 : Code := { maxStack := 3, maxLocals := 4, code := method_2_code, exceptionTable := #[], attributes := #[] }
def k1m1 : Method := { name := "enc", desc := "(III)B", sig := { parameters := [.int, .int, .int], returnType := some .byte }, accessFlags := 10, code := some k1c1 }
def k1c2 : Code := { maxStack := 5, maxLocals := 10, code := code, exceptionTable := #[], attributes := #[] }
def k1m2 : Method := { name := "law", desc := "(IIIII)Z", sig := { parameters := [.int, .int, .int, .int, .int], returnType := some .boolean }, accessFlags := 9, code := some k1c2 }
/-- com/example/dwindl/dwindl/io/Leb128GetPinLaw -/
def k1 : Class := { plain "com/example/dwindl/dwindl/io/Leb128GetPinLaw" (some 0) with
  accessFlags := 49
  interfaces := #[]
  cf := some (fileOf pool1 13 #[] #[{ accessFlags := 1, nameIndex := 5, descriptorIndex := 6, attributes := #[] }, { accessFlags := 10, nameIndex := 16, descriptorIndex := 17, attributes := #[] }, { accessFlags := 9, nameIndex := 27, descriptorIndex := 28, attributes := #[] }] 49 2 #[] #[])
  fields := #[]
  methods := #[k1m0, k1m1, k1m2]
  instanceTypes := #[]
  staticTypes := #[]
  resolved := Array.replicate 33 none
  statics := none }

def pool2 : Array CpInfo := pool [(2, .class_ 4), (1, u "java/lang/Object"), (0, u "<init>"), (0, u "()V"), (8, u "get"), (1, .class_ 18), (0, u "com/example/dwindl/dwindl/io/Leb128"), (10, u "BITS"), (0, u "I"), (2, u "MORE"), (6, u "([BI)I")] 8

def k2m0 : Method := { name := "<init>", desc := "()V", sig := { parameters := [], returnType := none }, accessFlags := 2, code := none }
def k2c1 : Code := { maxStack := 3, maxLocals := 6, code := prog_19_method_3_code, exceptionTable := #[], attributes := #[] }
def k2m1 : Method := { name := "get", desc := "([BI)I", sig := { parameters := [(.array .byte), .int], returnType := some .int }, accessFlags := 8, code := some k2c1 }
/-- com/example/dwindl/dwindl/io/Leb128 -/
def k2 : Class := { plain "com/example/dwindl/dwindl/io/Leb128" (some 0) with
  accessFlags := 48
  interfaces := #[]
  cf := some (fileOf pool2 17 #[] #[{ accessFlags := 2, nameIndex := 5, descriptorIndex := 6, attributes := #[] }, { accessFlags := 8, nameIndex := 15, descriptorIndex := 40, attributes := #[] }] 48 2 #[] #[{ accessFlags := 26, nameIndex := 29, descriptorIndex := 30, attributes := #[] }, { accessFlags := 26, nameIndex := 33, descriptorIndex := 30, attributes := #[] }])
  fields := #[{ name := "BITS", type := .int, accessFlags := 26, slot := 0, constantValue := 0 }, { name := "MORE", type := .int, accessFlags := 26, slot := 1, constantValue := 0 }]
  methods := #[k2m0, k2m1]
  instanceTypes := #[]
  staticTypes := #[.int, .int]
  resolved := Array.replicate 49 none
  statics := none }

def pool3 : Array CpInfo := pool [(1, u "java/lang/Cloneable"), (0, .class_ 1), (0, u "java/lang/Object"), (0, .class_ 3)] 3

/-- java/lang/Cloneable -/
def k3 : Class := { plain "java/lang/Cloneable" (some 0) with
  accessFlags := 1537
  interfaces := #[]
  cf := some (fileOf pool3 2 #[] #[] 1537 4 #[] #[])
  fields := #[]
  methods := #[]
  instanceTypes := #[]
  staticTypes := #[]
  resolved := Array.replicate 8 none
  statics := none }

def pool4 : Array CpInfo := pool [(1, u "java/io/Serializable"), (0, .class_ 1), (0, u "java/lang/Object"), (0, .class_ 3)] 3

/-- java/io/Serializable -/
def k4 : Class := { plain "java/io/Serializable" (some 0) with
  accessFlags := 1537
  interfaces := #[]
  cf := some (fileOf pool4 2 #[] #[] 1537 4 #[] #[])
  fields := #[]
  methods := #[]
  instanceTypes := #[]
  staticTypes := #[]
  resolved := Array.replicate 8 none
  statics := none }

/-- the primitive byte -/
def k5 : Class := { plain "byte" none with kind := .primitive 'B', accessFlags := 0x411 }
/-- [B -/
def k6 : Class := { plain "[B" (some 0) with kind := .array 5 .byte, interfaces := #[3, 4], accessFlags := 1041 }

/-- the primitive int -/
def k7 : Class := { plain "int" none with kind := .primitive 'I', accessFlags := 0x411 }
/-- [I -/
def k8 : Class := { plain "[I" (some 0) with kind := .array 7 .int, interfaces := #[3, 4], accessFlags := 1041 }

def heap : Heap := #[]
def classes : Array Class := #[k0, k1, k2, k3, k4, k5, k6, k7, k8]
def interned : List (Array UInt16 × Addr) := []
def slotsUsed : Nat := 0
def theMethod : MethodId := ⟨1, 2⟩
def args0 : Array Value := #[.int 5, .int 3, .int 2, .int 7, .int 9]
def aboutOver (below : List Frame) : State where
  vm := { classes := classes, interned := interned.toArray }
  heap := heap
  slotsUsed := slotsUsed
  threads := #[{ frames := .invoking theMethod args0 :: below }]
def below0 : List Frame := [.native { method := ⟨0, 0⟩, args := #[] }]
def about1 : State := aboutOver below0
def p0 : Program := .bare "" "" ""
def e0 : Env := launch0.env 0 0 0
theorem w_frames : about1.frames = Frame.invoking theMethod args0 :: below0 := rfl
set_option maxRecDepth 65536 in
theorem w_args : argsFit about1.vm theMethod args0 = true := by decide +kernel
set_option maxRecDepth 65536 in
theorem w_heap : heapFits about1 = true := by decide +kernel
set_option maxRecDepth 65536 in
theorem w_runnable : about1.curStatus? = some .runnable := by decide +kernel
set_option maxRecDepth 65536 in
theorem w_alone : about1.alone = true := by decide +kernel
set_option maxRecDepth 65536 in
theorem w_named : about1.methodNamed? x = some theMethod := by decide +kernel
set_option maxRecDepth 65536 in
theorem w_hears : about1.hears theMethod below0 = true := by decide +kernel
set_option maxRecDepth 65536 in
theorem w_ripe : about1.ripe theMethod args0 below0 = true := by decide +kernel
theorem w_running : about1.status = .running := rfl
set_option maxRecDepth 65536 in
theorem w_room : about1.hasRoom e0.platform room_1 = true :=
  launch0.hasRoom_least _ room_1 (by decide +kernel) (by decide +kernel) (by decide +kernel) (by decide +kernel) (by decide +kernel) (by decide +kernel)
theorem allAtoms_all (ts : List Jvm.Cond) (a : Array Jvm.Value) (st : Jvm.State) : (allAtoms ts).before a st = ts.all (fun c => c.before a st) := by
  induction ts with
  | nil => rfl
  | cons c t ih =>
    show (Jvm.Cond.and c (allAtoms t)).before a st = _
    rw [Jvm.Cond.before_and, ih, List.all_cons]
def words1 : List Jvm.Cond := Jvm.Cond.code x code maxLocals ret :: tables_1
/-- a 'code' word, met by the world's own term for the bytes: nothing is compared byte by byte -/
theorem code_word {y : MethodName} {bytes : ByteArray} {mx : Nat} {rt : Option FieldType} {a : Array Value} {s : State} {m : MethodId} {meth : Method} {c : Code} (h1 : s.methodNamed? y = some m) (h2 : s.vm.method? m = some meth) (h3 : meth.code = some c) (h4 : c.code = bytes)
    (h5 : (c.maxLocals == mx && c.exceptionTable.isEmpty && decide (c.maxStack ≤ mostOperands) && decide (meth.sig.returnType = rt) && !meth.locks && decide (parseMethodDescriptor y.desc = some meth.sig)) = true) : (Jvm.Cond.code y bytes mx rt).before a s = true := by
  simp only [Bool.and_eq_true, beq_iff_eq, Bool.not_eq_true', decide_eq_true_eq] at h5
  obtain ⟨⟨⟨⟨⟨g1, g2⟩, g3⟩, g4⟩, g5⟩, g6⟩ := h5
  simp [Cond.before, Cond.holds, Cond.value, h1, h2, h3, h4, g1, g2, g3, g4, g5, g6]
def isCode : Jvm.Cond → Bool
  | .code _ _ _ _ => true
  | _ => false
theorem all_split {L : List Jvm.Cond} {P : Jvm.Cond → Bool} (h1 : L.all (fun c => isCode c || P c) = true) (h2 : ∀ c ∈ L.filter isCode, P c = true) : L.all P = true := by
  refine List.all_eq_true.mpr fun c hc => ?_
  have h := List.all_eq_true.mp h1 c hc
  rcases Bool.eq_false_or_eq_true (isCode c) with hi | hi
  · exact h2 c (List.mem_filter.mpr ⟨hc, hi⟩)
  · simpa [hi] using h
set_option maxRecDepth 65536 in
theorem w_c0 : (Jvm.Cond.code x code maxLocals ret).before args0 about1 = true := code_word (m := ⟨1, 2⟩) (meth := k1m2) (c := k1c2) (by decide +kernel) rfl rfl rfl (by decide +kernel)
set_option maxRecDepth 65536 in
theorem w_c1 : (Jvm.Cond.code ({ cls := "com/example/dwindl/dwindl/io/Leb128GetPinLaw", name := "enc", desc := "(III)B" } : Jvm.MethodName) method_2_code (4 : Nat) (Option.some Jvm.ClassFile.FieldType.byte)).before args0 about1 = true := code_word (m := ⟨1, 1⟩) (meth := k1m1) (c := k1c1) (by decide +kernel) rfl rfl rfl (by decide +kernel)
set_option maxRecDepth 65536 in
theorem w_c2 : (Jvm.Cond.code ({ cls := "com/example/dwindl/dwindl/io/Leb128", name := "get", desc := "([BI)I" } : Jvm.MethodName) prog_19_method_3_code (6 : Nat) (Option.some Jvm.ClassFile.FieldType.int)).before args0 about1 = true := code_word (m := ⟨2, 1⟩) (meth := k2m1) (c := k2c1) (by decide +kernel) rfl rfl rfl (by decide +kernel)
def codes1 : List Jvm.Cond := [Jvm.Cond.code x code maxLocals ret, Jvm.Cond.code ({ cls := "com/example/dwindl/dwindl/io/Leb128GetPinLaw", name := "enc", desc := "(III)B" } : Jvm.MethodName) method_2_code (4 : Nat) (Option.some Jvm.ClassFile.FieldType.byte), Jvm.Cond.code ({ cls := "com/example/dwindl/dwindl/io/Leb128", name := "get", desc := "([BI)I" } : Jvm.MethodName) prog_19_method_3_code (6 : Nat) (Option.some Jvm.ClassFile.FieldType.int)]
set_option maxRecDepth 65536 in
theorem codes_eq : words1.filter isCode = codes1 := rfl
theorem w_codes : ∀ c ∈ words1.filter isCode, c.before args0 about1 = true := by
  rw [codes_eq]
  intro c hc
  simp only [codes1, List.mem_cons, List.not_mem_nil, or_false] at hc
  rcases hc with rfl | rfl | rfl
  · exact w_c0
  · exact w_c1
  · exact w_c2
set_option maxRecDepth 65536 in
theorem w_t1 : words1.all (fun c => isCode c || c.before args0 about1) = true := by decide +kernel
theorem w_tables : (allAtoms (Jvm.Cond.code x code maxLocals ret :: tables_1)).before args0 about1 = true := by
  rw [allAtoms_all]
  show words1.all (fun c => c.before args0 about1) = true
  refine all_split ?_ w_codes
  rw [w_t1]
set_option maxRecDepth 65536 in
theorem w_case : (Jvm.Cond.and given_1 narrow_1).before args0 about1 = true := by decide +kernel
theorem w_applies : (headSpec (Jvm.Cond.code x code maxLocals ret :: tables_1) room_1).applies x e0.platform about1 = true :=
  (Spec.applies_iff w_frames).mpr ⟨w_running, w_runnable, w_alone, w_named, w_hears, w_ripe, w_room, w_tables⟩
theorem atStart : AtStart classFile x code maxLocals ret World_1 tables_1 room_1 Calls_1 rest_1 Pre_1 launch0 p0 e0 about1 theMethod args0 below0 :=
  ⟨lists_1, trivial, launch0.admits_env _ _ _, launch0.least_env, fairChoices_fair.cas, fairChoices_fair.clock, w_frames, w_args, w_heap, w_applies, trivial, trivial, w_case⟩
end start1
theorem witness_1 : WitnessClaimed_1 := ⟨start1.p0, start1.e0, start1.about1, start1.theMethod, start1.args0, start1.below0, start1.atStart⟩
end Jvm.Pilot.@@N@@
