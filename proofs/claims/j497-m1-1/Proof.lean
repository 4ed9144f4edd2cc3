import JvmDerived
import JvmDerived.Pilot.@@N@@Statement
import JvmDerived.Pilot.@@N@@Code
set_option linter.unusedVariables false
set_option linter.unusedSimpArgs false
namespace Jvm.RoadKit
open Sem ClassFile Op Lib Jvm.Stand Jvm.Free Jvm.LawKit
section New
variable {p : Program} {l : Launch} {e : Env} {R : Room} {s : State} {m : MethodId} {args : Array Value} {below : List Frame} {meth : Method} {c : Code} {T : State} {locs : List Loc} {cells slots : Nat}
theorem retI (X : Stand p l e R s m args below meth c T locs cells slots) (hx : p.tables.exec = Jvm.exec) {pc : Nat} {Ls : Array Slot} {z : Int32} {rest : List Value} (hret : meth.sig.returnType = some .int) (hd : decode c.code pc = .ok (.ireturn, 1)) {fs : List Frame}
    (hl : ∀ (f : JFrame) (acts : List Action), f.method = m → f.locked = none → f.entered = [] → (doReturn e (T.setTop f) acts (some (.int z))).1 = T.setFrames fs) : Steps p.tables e below (T.setTop (mkF m pc Ls (.int z :: rest))) (T.setFrames fs) := by
  have hm' : T.vm.method? m = some meth := X.method'
  have hn : narrow .int (.int z) = .int z := rfl
  show Steps p.tables e below (T.setTop { method := m, pc := pc, locals := Ls, stack := _ :: rest, locked := none }) _
  jvm_step X.here [X.here.top, hx, hd, hm', hret, hn]
  first | (intro acts; rw [hl _ acts rfl rfl rfl]) | rw [hl _ _ rfl rfl rfl]
  exact Steps.refl _
end New
end Jvm.RoadKit
namespace Jvm.Pilot.@@N@@
open Jvm Jvm.ClassFile Sem Op Lib Jvm.Free Jvm.Stand Jvm.LawKit Jvm.RoadKit Bundle Jvm.Pilot.@@N@@.Jvm.D
/-! OWN KIT: a walk told forwards. `WGo T f`: from the frame f over the state T the body runs to its return, and what it returns meets Q. -/
section OwnKit
variable {p : Program} {l : Launch} {e : Env} {R : Room} {s : State} {m : MethodId} {args : Array Value} {below : List Frame} {meth : Method} {c : Code} {T : State} {locs : List Loc} {cells slots : Nat} {Z : State} {a0 : Array Value} {h : Heap} {kc ks : Nat} {Q : Option Value → Heap → List Loc → Prop} {pc pc' : Nat} {Ls Ls' : Array Slot} {st : List Value} {x y : Int32} {u w : Int64}
def WGo (p : Program) (e : Env) (below : List Frame) (s : State) (kc ks : Nat) (Q : Option Value → Heap → List Loc → Prop) (T : State) (f : JFrame) : Prop :=
  ∃ s₂ o, Steps p.tables e below (T.setTop f) s₂ ∧ s₂.status = .running ∧ Ended s₂ below o ∧ ∃ v L, o = .returned v ∧ Q v s₂.heap L ∧ FrameEnd s o s₂ L kc ks
theorem WGo.go {T' : State} {f f' : JFrame} (k : ∀ t, Steps p.tables e below (T'.setTop f') t → Steps p.tables e below (T.setTop f) t) (r : WGo p e below s kc ks Q T' f') : WGo p e below s kc ks Q T f := by
  obtain ⟨s₂, o, h1, r⟩ := r
  exact ⟨s₂, o, k _ h1, r⟩
theorem WGo.cast {f f' : JFrame} (q : f = f') (r : WGo p e below s kc ks Q T f') : WGo p e below s kc ks Q T f := q ▸ r
theorem WGo.mono {f : JFrame} {Q' : Option Value → Heap → List Loc → Prop} (r : WGo p e below s kc ks Q' T f) (q : ∀ v h L, Q' v h L → Q v h L) : WGo p e below s kc ks Q T f := by
  obtain ⟨s₂, o, h1, h2, h3, v, L, h4, h5, h6⟩ := r
  exact ⟨s₂, o, h1, h2, h3, v, L, h4, q _ _ _ h5, h6⟩
/-- a body's contract -/
def WCt (l : Launch) (Z : State) (y : MethodName) (bytes : ByteArray) (maxL : Nat) (ret : Option FieldType) (rm : Room) (as' : Array Value) (h0 : Heap) (Q : Option Value → Heap → List Loc → Prop) : Prop :=
  ∀ ws : List Jvm.Cond, MetFree l y (head1 (Jvm.Cond.code y bytes maxL ret :: ws) rm) (fun a U => a = as' ∧ Z.Warmed39 U.vm ∧ U.heap = h0) (fun _ _ _ _ _ => True) (fun _ U o U' => ∃ v L, o = .returned v ∧ Q v U'.heap L ∧ FrameEnd U o U' L rm.cells rm.slots)
theorem WCt.of {y : MethodName} {bytes : ByteArray} {maxL : Nat} {ret : Option FieldType} {rm : Room} {as' : Array Value} {h0 : Heap} (hpl : plainFor y = true)
    (body : ∀ (p : Program) (e : Env) (s : State) (m : MethodId) (below : List Frame) (meth : Method) (c : Code) (T : State), p.tables.exec = Jvm.exec → c.code = bytes → c.maxLocals = maxL → s.vm.findClass y.cls = some m.cls → meth.name = y.name → meth.sig.returnType = ret → meth.locks = false → Z.Warmed39 s.vm → s.heap = h0 →
      Stand p l e rm s m as' below meth c T [] 0 0 → T.heap = h0 → WGo p e below s rm.cells rm.slots Q T (entryFrame m as' maxL)) : WCt l Z y bytes maxL ret rm as' h0 Q := by
  intro ws
  refine MetFree.of_bodySF hpl hisR ?_
  intro p e s m args below meth c s₁ Bd hml0 hP hK
  obtain ⟨rfl, hZ, hh⟩ := hP
  have X0 : Stand p l e rm s m _ below meth c s₁ [] 0 0 := Stand.of_body Bd
  exact body p e s m below meth c s₁ Bd.exec Bd.bytes hml0 (findClass_of_methodNamed Bd.named) (name_of_methodNamed Bd.named Bd.method).1 Bd.returns (BodyLoose.notSynchronized Bd) hZ hh X0 (by rw [← hh, Bd.state]; rfl)
/-! returns -/
theorem g_ret0 (X : Stand p l e R s m args below meth c T locs cells slots) (hx : p.tables.exec = Jvm.exec) (hret : meth.sig.returnType = none) (hlk : meth.locks = false) (hd : decode c.code pc = .ok (.return_, 1)) (hc : cells ≤ kc) (hs : slots ≤ ks) (q : Q none T.heap locs) : WGo p e below s kc ks Q T (mkF m pc Ls []) := by
  obtain ⟨fs, hr, hrun, hended, hW, hsame⟩ := X.leave (v := none) (fun _ => rfl) hlk
  exact ⟨_, _, X.returnOut hx hret hd hr, hrun, hended, _, _, rfl, q, ⟨_, rfl⟩, hW, hsame.mono hc hs⟩
theorem g_retI (X : Stand p l e R s m args below meth c T locs cells slots) (hx : p.tables.exec = Jvm.exec) (hret : meth.sig.returnType = some .int) (hlk : meth.locks = false) (hd : decode c.code pc = .ok (.ireturn, 1)) (hc : cells ≤ kc) (hs : slots ≤ ks) (q : Q (some (.int x)) T.heap locs) : WGo p e below s kc ks Q T (mkF m pc Ls (.int x :: st)) := by
  obtain ⟨fs, hr, hrun, hended, hW, hsame⟩ := X.leave (v := some (.int x)) (fun h => by rw [hret] at h; cases h) hlk
  exact ⟨_, _, retI X hx hret hd hr, hrun, hended, _, _, rfl, q, ⟨_, rfl⟩, hW, hsame.mono hc hs⟩
theorem g_retN {t : FieldType} (X : Stand p l e R s m args below meth c T locs cells slots) (hx : p.tables.exec = Jvm.exec) (hret : meth.sig.returnType = some t) (ht : t = .boolean ∨ t = .byte ∨ t = .char ∨ t = .short) (hlk : meth.locks = false) (hd : decode c.code pc = .ok (.ireturn, 1)) (hc : cells ≤ kc) (hs : slots ≤ ks) (q : Q (some (.int (nar t x))) T.heap locs) : WGo p e below s kc ks Q T (mkF m pc Ls (.int x :: st)) := by
  obtain ⟨fs, hr, hrun, hended, hW, hsame⟩ := X.leave (v := some (.int (nar t x))) (fun h => by rw [hret] at h; cases h) hlk
  exact ⟨_, _, retN X hx hret ht hd hr, hrun, hended, _, _, rfl, q, ⟨_, rfl⟩, hW, hsame.mono hc hs⟩
theorem g_retJ (X : Stand p l e R s m args below meth c T locs cells slots) (hx : p.tables.exec = Jvm.exec) (hret : meth.sig.returnType = some .long) (hlk : meth.locks = false) (hd : decode c.code pc = .ok (.lreturn, 1)) (hc : cells ≤ kc) (hs : slots ≤ ks) (q : Q (some (.long u)) T.heap locs) : WGo p e below s kc ks Q T (mkF m pc Ls [.long u]) := by
  obtain ⟨fs, hr, hrun, hended, hW, hsame⟩ := X.leave (v := some (.long u)) (fun h => by rw [hret] at h; cases h) hlk
  exact ⟨_, _, X.lreturnOut hx hret hd hr, hrun, hended, _, _, rfl, q, ⟨_, rfl⟩, hW, hsame.mono hc hs⟩
theorem g_retA {t : FieldType} {v : Value} (X : Stand p l e R s m args below meth c T locs cells slots) (hx : p.tables.exec = Jvm.exec) (hv : v.isRef = true) (hret : meth.sig.returnType = some t) (ht : t.isReference = true) (hlk : meth.locks = false) (hd : decode c.code pc = .ok (.areturn, 1)) (hc : cells ≤ kc) (hs : slots ≤ ks) (q : Q (some v) T.heap locs) : WGo p e below s kc ks Q T (mkF m pc Ls [v]) := by
  obtain ⟨fs, hr, hrun, hended, hW, hsame⟩ := X.leave (v := some v) (fun h => by rw [hret] at h; cases h) hlk
  exact ⟨_, _, X.areturnOut hx hv hret ht hd hr, hrun, hended, _, _, rfl, q, ⟨_, rfl⟩, hW, hsame.mono hc hs⟩
/-! loads and stores of locals -/
theorem g_iloadN (X : Stand p l e R s m args below meth c T locs cells slots) (hx : p.tables.exec = Jvm.exec) {k : Fin 4} (hd : decode c.code pc = .ok (.iload_n k, 1)) (hl : Ls[k.val]? = some (.val (.int x))) (hp : pc + 1 = pc') (r : WGo p e below s kc ks Q T (mkF m pc' Ls (.int x :: st))) : WGo p e below s kc ks Q T (mkF m pc Ls st) := by
  subst hp; exact r.go fun t k => XS.iloadN X.here hx rfl hd hl k
theorem g_iload (X : Stand p l e R s m args below meth c T locs cells slots) (hx : p.tables.exec = Jvm.exec) {k : Nat} (hd : decode c.code pc = .ok (.iload k, 2)) (hl : Ls[k]? = some (.val (.int x))) (hp : pc + 2 = pc') (r : WGo p e below s kc ks Q T (mkF m pc' Ls (.int x :: st))) : WGo p e below s kc ks Q T (mkF m pc Ls st) := by
  subst hp; exact r.go fun t k => XS.iload X.here hx rfl hd hl k
theorem g_lloadN (X : Stand p l e R s m args below meth c T locs cells slots) (hx : p.tables.exec = Jvm.exec) {k : Fin 4} (hd : decode c.code pc = .ok (.lload_n k, 1)) (hl : Ls[k.val]? = some (.val (.long u))) (hp : pc + 1 = pc') (r : WGo p e below s kc ks Q T (mkF m pc' Ls (.long u :: st))) : WGo p e below s kc ks Q T (mkF m pc Ls st) := by
  subst hp; exact r.go fun t k => XT.lloadN X.here hx rfl hd hl k
theorem g_lload (X : Stand p l e R s m args below meth c T locs cells slots) (hx : p.tables.exec = Jvm.exec) {k : Nat} (hd : decode c.code pc = .ok (.lload k, 2)) (hl : Ls[k]? = some (.val (.long u))) (hp : pc + 2 = pc') (r : WGo p e below s kc ks Q T (mkF m pc' Ls (.long u :: st))) : WGo p e below s kc ks Q T (mkF m pc Ls st) := by
  subst hp; exact r.go fun t k => XT.lload X.here hx rfl hd hl k
theorem g_aloadN {v : Value} (X : Stand p l e R s m args below meth c T locs cells slots) (hx : p.tables.exec = Jvm.exec) {k : Fin 4} (hd : decode c.code pc = .ok (.aload_n k, 1)) (hl : Ls[k.val]? = some (.val v)) (hv : v.isRef = true) (hp : pc + 1 = pc') (r : WGo p e below s kc ks Q T (mkF m pc' Ls (v :: st))) : WGo p e below s kc ks Q T (mkF m pc Ls st) := by
  subst hp; exact r.go fun t k => XS.aloadN X.here hx rfl hd hl hv k
theorem g_aload {v : Value} (X : Stand p l e R s m args below meth c T locs cells slots) (hx : p.tables.exec = Jvm.exec) {k : Nat} (hd : decode c.code pc = .ok (.aload k, 2)) (hl : Ls[k]? = some (.val v)) (hv : v.isRef = true) (hp : pc + 2 = pc') (r : WGo p e below s kc ks Q T (mkF m pc' Ls (v :: st))) : WGo p e below s kc ks Q T (mkF m pc Ls st) := by
  subst hp; exact r.go fun t k => XS.aload X.here hx rfl hd hl hv k
theorem g_istoreN (X : Stand p l e R s m args below meth c T locs cells slots) (hx : p.tables.exec = Jvm.exec) {k : Fin 4} (hd : decode c.code pc = .ok (.istore_n k, 1)) (hl : storeLocals Ls k.val (.int x) = some Ls') (hp : pc + 1 = pc') (r : WGo p e below s kc ks Q T (mkF m pc' Ls' st)) : WGo p e below s kc ks Q T (mkF m pc Ls (.int x :: st)) := by
  subst hp; exact r.go fun t k => XS.istoreN X.here hx rfl hd rfl hl k
theorem g_istore (X : Stand p l e R s m args below meth c T locs cells slots) (hx : p.tables.exec = Jvm.exec) {k : Nat} (hd : decode c.code pc = .ok (.istore k, 2)) (hl : storeLocals Ls k (.int x) = some Ls') (hp : pc + 2 = pc') (r : WGo p e below s kc ks Q T (mkF m pc' Ls' st)) : WGo p e below s kc ks Q T (mkF m pc Ls (.int x :: st)) := by
  subst hp; exact r.go fun t k => XS.istore X.here hx rfl hd rfl hl k
theorem g_lstoreN (X : Stand p l e R s m args below meth c T locs cells slots) (hx : p.tables.exec = Jvm.exec) {k : Fin 4} (hd : decode c.code pc = .ok (.lstore_n k, 1)) (hl : storeLocals Ls k.val (.long u) = some Ls') (hp : pc + 1 = pc') (r : WGo p e below s kc ks Q T (mkF m pc' Ls' st)) : WGo p e below s kc ks Q T (mkF m pc Ls (.long u :: st)) := by
  subst hp; exact r.go fun t k => XT.lstoreN X.here hx rfl hd rfl hl k
theorem g_lstore (X : Stand p l e R s m args below meth c T locs cells slots) (hx : p.tables.exec = Jvm.exec) {k : Nat} (hd : decode c.code pc = .ok (.lstore k, 2)) (hl : storeLocals Ls k (.long u) = some Ls') (hp : pc + 2 = pc') (r : WGo p e below s kc ks Q T (mkF m pc' Ls' st)) : WGo p e below s kc ks Q T (mkF m pc Ls (.long u :: st)) := by
  subst hp; exact r.go fun t k => XT.lstore X.here hx rfl hd rfl hl k
theorem g_astoreN {v : Value} (X : Stand p l e R s m args below meth c T locs cells slots) (hx : p.tables.exec = Jvm.exec) {k : Fin 4} (hd : decode c.code pc = .ok (.astore_n k, 1)) (hv : v.isRef = true) (hl : storeLocals Ls k.val v = some Ls') (hp : pc + 1 = pc') (r : WGo p e below s kc ks Q T (mkF m pc' Ls' st)) : WGo p e below s kc ks Q T (mkF m pc Ls (v :: st)) := by
  subst hp; exact r.go fun t k => XS.astoreN X.here hx rfl hd rfl hv hl k
theorem g_astore {v : Value} (X : Stand p l e R s m args below meth c T locs cells slots) (hx : p.tables.exec = Jvm.exec) {k : Nat} (hd : decode c.code pc = .ok (.astore k, 2)) (hv : v.isRef = true) (hl : storeLocals Ls k v = some Ls') (hp : pc + 2 = pc') (r : WGo p e below s kc ks Q T (mkF m pc' Ls' st)) : WGo p e below s kc ks Q T (mkF m pc Ls (v :: st)) := by
  subst hp; exact r.go fun t k => XS.astore X.here hx rfl hd rfl hv hl k
theorem g_iinc (X : Stand p l e R s m args below meth c T locs cells slots) (hx : p.tables.exec = Jvm.exec) {k : Nat} {cst : Int} {z : Int32} (hd : decode c.code pc = .ok (.iinc k cst, 3)) (hl : Ls[k]? = some (.val (.int x))) (hz : x + Int32.ofInt cst = z) (hl' : storeLocals Ls k (.int z) = some Ls') (hp : pc + 3 = pc') (r : WGo p e below s kc ks Q T (mkF m pc' Ls' st)) : WGo p e below s kc ks Q T (mkF m pc Ls st) := by
  subst hp hz; exact r.go fun t k => XS.iinc X.here hx rfl hd hl hl' k
/-! constants -/
theorem g_iconst (X : Stand p l e R s m args below meth c T locs cells slots) (hx : p.tables.exec = Jvm.exec) {i : Int} (hd : decode c.code pc = .ok (.iconst i, 1)) (hv : Int32.ofInt i = x) (hp : pc + 1 = pc') (r : WGo p e below s kc ks Q T (mkF m pc' Ls (.int x :: st))) : WGo p e below s kc ks Q T (mkF m pc Ls st) := by
  subst hp hv; exact r.go fun t k => XS.iconst X.here hx rfl hd k
theorem g_bipush (X : Stand p l e R s m args below meth c T locs cells slots) (hx : p.tables.exec = Jvm.exec) {i : Int} (hd : decode c.code pc = .ok (.bipush i, 2)) (hv : (Int8.ofInt i).toInt32 = x) (hp : pc + 2 = pc') (r : WGo p e below s kc ks Q T (mkF m pc' Ls (.int x :: st))) : WGo p e below s kc ks Q T (mkF m pc Ls st) := by
  subst hp hv; exact r.go fun t k => XS.bipush X.here hx rfl hd k
theorem g_sipush (X : Stand p l e R s m args below meth c T locs cells slots) (hx : p.tables.exec = Jvm.exec) {i : Int} (hd : decode c.code pc = .ok (.sipush i, 3)) (hv : (Int16.ofInt i).toInt32 = x) (hp : pc + 3 = pc') (r : WGo p e below s kc ks Q T (mkF m pc' Ls (.int x :: st))) : WGo p e below s kc ks Q T (mkF m pc Ls st) := by
  subst hp hv; exact r.go fun t k => XS.sipush X.here hx rfl hd k
theorem g_lconst (X : Stand p l e R s m args below meth c T locs cells slots) (hx : p.tables.exec = Jvm.exec) {i : Fin 2} (hd : decode c.code pc = .ok (.lconst i, 1)) (hv : Int64.ofNat i = u) (hp : pc + 1 = pc') (r : WGo p e below s kc ks Q T (mkF m pc' Ls (.long u :: st))) : WGo p e below s kc ks Q T (mkF m pc Ls st) := by
  subst hp hv; exact r.go fun t k => XT.lconst X.here hx rfl hd k
theorem g_null (X : Stand p l e R s m args below meth c T locs cells slots) (hx : p.tables.exec = Jvm.exec) (hd : decode c.code pc = .ok (.aconst_null, 1)) (hp : pc + 1 = pc') (r : WGo p e below s kc ks Q T (mkF m pc' Ls (.null :: st))) : WGo p e below s kc ks Q T (mkF m pc Ls st) := by
  subst hp; exact r.go fun t k => XS.aconstNull X.here hx rfl hd k
theorem g_ldcI {own : String} {index : Nat} (X : Stand p l e R s m args below meth c T locs cells slots) (hx : p.tables.exec = Jvm.exec) (hZ : Z.Warmed39 s.vm) (hown : s.vm.findClass own = some m.cls) (wd : (Jvm.Cond.constant own index x).before a0 Z = true) (hd : decode c.code pc = .ok (.ldc index, 2)) (hp : pc + 2 = pc') (r : WGo p e below s kc ks Q T (mkF m pc' Ls (.int x :: st))) : WGo p e below s kc ks Q T (mkF m pc Ls st) := by
  subst hp; exact r.go fun t k => X.ldcInt hx hown (mvT hZ wd) (g := mkF m pc Ls st) rfl hd t k
theorem g_ldcJ {own : String} {index : Nat} (X : Stand p l e R s m args below meth c T locs cells slots) (hx : p.tables.exec = Jvm.exec) (hZ : Z.Warmed39 s.vm) (hown : s.vm.findClass own = some m.cls) (wd : (Jvm.Cond.constantLong own index u).before a0 Z = true) (hd : decode c.code pc = .ok (.ldc2_w index, 3)) (hp : pc + 3 = pc') (r : WGo p e below s kc ks Q T (mkF m pc' Ls (.long u :: st))) : WGo p e below s kc ks Q T (mkF m pc Ls st) := by
  subst hp; exact r.go fun t k => X.ldc2Long hx hown (mvT hZ wd) (g := mkF m pc Ls st) rfl hd t k
/-! reckoning -/
theorem g_iadd (X : Stand p l e R s m args below meth c T locs cells slots) (hx : p.tables.exec = Jvm.exec) (hd : decode c.code pc = .ok (.iadd, 1)) (hp : pc + 1 = pc') (r : WGo p e below s kc ks Q T (mkF m pc' Ls (.int (x + y) :: st))) : WGo p e below s kc ks Q T (mkF m pc Ls (.int y :: .int x :: st)) := by
  subst hp; exact r.go fun t k => XS.iadd X.here hx rfl hd rfl k
theorem g_isub (X : Stand p l e R s m args below meth c T locs cells slots) (hx : p.tables.exec = Jvm.exec) (hd : decode c.code pc = .ok (.isub, 1)) (hp : pc + 1 = pc') (r : WGo p e below s kc ks Q T (mkF m pc' Ls (.int (x - y) :: st))) : WGo p e below s kc ks Q T (mkF m pc Ls (.int y :: .int x :: st)) := by
  subst hp; exact r.go fun t k => XS.isub X.here hx rfl hd rfl k
theorem g_iand (X : Stand p l e R s m args below meth c T locs cells slots) (hx : p.tables.exec = Jvm.exec) (hd : decode c.code pc = .ok (.iand, 1)) (hp : pc + 1 = pc') (r : WGo p e below s kc ks Q T (mkF m pc' Ls (.int (x &&& y) :: st))) : WGo p e below s kc ks Q T (mkF m pc Ls (.int y :: .int x :: st)) := by
  subst hp; exact r.go fun t k => XS.iand X.here hx rfl hd rfl k
theorem g_imul (X : Stand p l e R s m args below meth c T locs cells slots) (hx : p.tables.exec = Jvm.exec) (hd : decode c.code pc = .ok (.imul, 1)) (hp : pc + 1 = pc') (r : WGo p e below s kc ks Q T (mkF m pc' Ls (.int (x * y) :: st))) : WGo p e below s kc ks Q T (mkF m pc Ls (.int y :: .int x :: st)) := by
  subst hp; exact r.go fun t k => XS.imul X.here hx rfl hd rfl k
theorem g_ixor (X : Stand p l e R s m args below meth c T locs cells slots) (hx : p.tables.exec = Jvm.exec) (hd : decode c.code pc = .ok (.ixor, 1)) (hp : pc + 1 = pc') (r : WGo p e below s kc ks Q T (mkF m pc' Ls (.int (x ^^^ y) :: st))) : WGo p e below s kc ks Q T (mkF m pc Ls (.int y :: .int x :: st)) := by
  subst hp; exact r.go fun t k => XT.ixor X.here hx rfl hd rfl k
theorem g_ior (X : Stand p l e R s m args below meth c T locs cells slots) (hx : p.tables.exec = Jvm.exec) (hd : decode c.code pc = .ok (.ior, 1)) (hp : pc + 1 = pc') (r : WGo p e below s kc ks Q T (mkF m pc' Ls (.int (x ||| y) :: st))) : WGo p e below s kc ks Q T (mkF m pc Ls (.int y :: .int x :: st)) := by
  subst hp; exact r.go fun t k => XT.ior X.here hx rfl hd rfl k
theorem g_ishl (X : Stand p l e R s m args below meth c T locs cells slots) (hx : p.tables.exec = Jvm.exec) (hd : decode c.code pc = .ok (.ishl, 1)) (hp : pc + 1 = pc') (r : WGo p e below s kc ks Q T (mkF m pc' Ls (.int (x <<< (y &&& 31)) :: st))) : WGo p e below s kc ks Q T (mkF m pc Ls (.int y :: .int x :: st)) := by
  subst hp; exact r.go fun t k => XT.ishl X.here hx rfl hd rfl k
theorem g_ishr (X : Stand p l e R s m args below meth c T locs cells slots) (hx : p.tables.exec = Jvm.exec) (hd : decode c.code pc = .ok (.ishr, 1)) (hp : pc + 1 = pc') (r : WGo p e below s kc ks Q T (mkF m pc' Ls (.int (x >>> (y &&& 31)) :: st))) : WGo p e below s kc ks Q T (mkF m pc Ls (.int y :: .int x :: st)) := by
  subst hp; exact r.go fun t k => XT.ishr X.here hx rfl hd rfl k
theorem g_iushr (X : Stand p l e R s m args below meth c T locs cells slots) (hx : p.tables.exec = Jvm.exec) (hd : decode c.code pc = .ok (.iushr, 1)) (hp : pc + 1 = pc') (r : WGo p e below s kc ks Q T (mkF m pc' Ls (.int (XT.ushr x y) :: st))) : WGo p e below s kc ks Q T (mkF m pc Ls (.int y :: .int x :: st)) := by
  subst hp; exact r.go fun t k => XT.iushr X.here hx rfl hd rfl k
theorem g_ladd (X : Stand p l e R s m args below meth c T locs cells slots) (hx : p.tables.exec = Jvm.exec) (hd : decode c.code pc = .ok (.ladd, 1)) (hp : pc + 1 = pc') (r : WGo p e below s kc ks Q T (mkF m pc' Ls (.long (u + w) :: st))) : WGo p e below s kc ks Q T (mkF m pc Ls (.long w :: .long u :: st)) := by
  subst hp; exact r.go fun t k => XT.ladd X.here hx rfl hd rfl k
theorem g_lsub (X : Stand p l e R s m args below meth c T locs cells slots) (hx : p.tables.exec = Jvm.exec) (hd : decode c.code pc = .ok (.lsub, 1)) (hp : pc + 1 = pc') (r : WGo p e below s kc ks Q T (mkF m pc' Ls (.long (u - w) :: st))) : WGo p e below s kc ks Q T (mkF m pc Ls (.long w :: .long u :: st)) := by
  subst hp; exact r.go fun t k => XT.lsub X.here hx rfl hd rfl k
theorem g_lmul (X : Stand p l e R s m args below meth c T locs cells slots) (hx : p.tables.exec = Jvm.exec) (hd : decode c.code pc = .ok (.lmul, 1)) (hp : pc + 1 = pc') (r : WGo p e below s kc ks Q T (mkF m pc' Ls (.long (u * w) :: st))) : WGo p e below s kc ks Q T (mkF m pc Ls (.long w :: .long u :: st)) := by
  subst hp; exact r.go fun t k => XT.lmul X.here hx rfl hd rfl k
theorem g_land (X : Stand p l e R s m args below meth c T locs cells slots) (hx : p.tables.exec = Jvm.exec) (hd : decode c.code pc = .ok (.land, 1)) (hp : pc + 1 = pc') (r : WGo p e below s kc ks Q T (mkF m pc' Ls (.long (u &&& w) :: st))) : WGo p e below s kc ks Q T (mkF m pc Ls (.long w :: .long u :: st)) := by
  subst hp; exact r.go fun t k => XT.land X.here hx rfl hd rfl k
theorem g_lxor (X : Stand p l e R s m args below meth c T locs cells slots) (hx : p.tables.exec = Jvm.exec) (hd : decode c.code pc = .ok (.lxor, 1)) (hp : pc + 1 = pc') (r : WGo p e below s kc ks Q T (mkF m pc' Ls (.long (u ^^^ w) :: st))) : WGo p e below s kc ks Q T (mkF m pc Ls (.long w :: .long u :: st)) := by
  subst hp; exact r.go fun t k => XT.lxor X.here hx rfl hd rfl k
theorem g_lushr (X : Stand p l e R s m args below meth c T locs cells slots) (hx : p.tables.exec = Jvm.exec) (hd : decode c.code pc = .ok (.lushr, 1)) (hp : pc + 1 = pc') (r : WGo p e below s kc ks Q T (mkF m pc' Ls (.long (XT.ushrL u y) :: st))) : WGo p e below s kc ks Q T (mkF m pc Ls (.int y :: .long u :: st)) := by
  subst hp; exact r.go fun t k => XT.lushr X.here hx rfl hd rfl k
theorem g_lcmp (X : Stand p l e R s m args below meth c T locs cells slots) (hx : p.tables.exec = Jvm.exec) (hd : decode c.code pc = .ok (.lcmp, 1)) (hp : pc + 1 = pc') (r : WGo p e below s kc ks Q T (mkF m pc' Ls (.int (XT.cmpL u w) :: st))) : WGo p e below s kc ks Q T (mkF m pc Ls (.long w :: .long u :: st)) := by
  subst hp; exact r.go fun t k => XT.lcmp X.here hx rfl hd rfl k
theorem g_i2l (X : Stand p l e R s m args below meth c T locs cells slots) (hx : p.tables.exec = Jvm.exec) (hd : decode c.code pc = .ok (.i2l, 1)) (hp : pc + 1 = pc') (r : WGo p e below s kc ks Q T (mkF m pc' Ls (.long (x.toInt64) :: st))) : WGo p e below s kc ks Q T (mkF m pc Ls (.int x :: st)) := by
  subst hp; exact r.go fun t k => XT.i2l X.here hx rfl hd rfl k
theorem g_l2i (X : Stand p l e R s m args below meth c T locs cells slots) (hx : p.tables.exec = Jvm.exec) (hd : decode c.code pc = .ok (.l2i, 1)) (hp : pc + 1 = pc') (r : WGo p e below s kc ks Q T (mkF m pc' Ls (.int (u.toInt32) :: st))) : WGo p e below s kc ks Q T (mkF m pc Ls (.long u :: st)) := by
  subst hp; exact r.go fun t k => XT.l2i X.here hx rfl hd rfl k
theorem g_i2b (X : Stand p l e R s m args below meth c T locs cells slots) (hx : p.tables.exec = Jvm.exec) (hd : decode c.code pc = .ok (.i2b, 1)) (hp : pc + 1 = pc') (r : WGo p e below s kc ks Q T (mkF m pc' Ls (.int (x.toInt8.toInt32) :: st))) : WGo p e below s kc ks Q T (mkF m pc Ls (.int x :: st)) := by
  subst hp; exact r.go fun t k => XT.i2b X.here hx rfl hd rfl k
theorem g_i2c (X : Stand p l e R s m args below meth c T locs cells slots) (hx : p.tables.exec = Jvm.exec) (hd : decode c.code pc = .ok (.i2c, 1)) (hp : pc + 1 = pc') (r : WGo p e below s kc ks Q T (mkF m pc' Ls (.int (x.toUInt32.toUInt16.toUInt32.toInt32) :: st))) : WGo p e below s kc ks Q T (mkF m pc Ls (.int x :: st)) := by
  subst hp; exact r.go fun t k => XT.i2c X.here hx rfl hd rfl k
theorem g_i2s (X : Stand p l e R s m args below meth c T locs cells slots) (hx : p.tables.exec = Jvm.exec) (hd : decode c.code pc = .ok (.i2s, 1)) (hp : pc + 1 = pc') (r : WGo p e below s kc ks Q T (mkF m pc' Ls (.int (x.toInt16.toInt32) :: st))) : WGo p e below s kc ks Q T (mkF m pc Ls (.int x :: st)) := by
  subst hp; exact r.go fun t k => XT.i2s X.here hx rfl hd rfl k
theorem g_irem (X : Stand p l e R s m args below meth c T locs cells slots) (hx : p.tables.exec = Jvm.exec) (hd : decode c.code pc = .ok (.irem, 1)) (hy : y ≠ 0) (hp : pc + 1 = pc') (r : WGo p e below s kc ks Q T (mkF m pc' Ls (.int (x % y) :: st))) : WGo p e below s kc ks Q T (mkF m pc Ls (.int y :: .int x :: st)) := by
  subst hp; exact r.go fun t k => iremM X hx rfl hd rfl hy k
theorem g_ldiv (X : Stand p l e R s m args below meth c T locs cells slots) (hx : p.tables.exec = Jvm.exec) (hd : decode c.code pc = .ok (.ldiv, 1)) (hy : w ≠ 0) (hp : pc + 1 = pc') (r : WGo p e below s kc ks Q T (mkF m pc' Ls (.long (u / w) :: st))) : WGo p e below s kc ks Q T (mkF m pc Ls (.long w :: .long u :: st)) := by
  subst hp; exact r.go fun t k => XT.ldiv X.here hx rfl hd rfl hy k
theorem g_lrem (X : Stand p l e R s m args below meth c T locs cells slots) (hx : p.tables.exec = Jvm.exec) (hd : decode c.code pc = .ok (.lrem, 1)) (hy : w ≠ 0) (hp : pc + 1 = pc') (r : WGo p e below s kc ks Q T (mkF m pc' Ls (.long (u % w) :: st))) : WGo p e below s kc ks Q T (mkF m pc Ls (.long w :: .long u :: st)) := by
  subst hp; rw [← lrem_mod] at r; exact r.go fun t k => XT.lrem X.here hx rfl hd rfl hy k
/-! the stack -/
theorem g_dup {v : Value} (X : Stand p l e R s m args below meth c T locs cells slots) (hx : p.tables.exec = Jvm.exec) (hd : decode c.code pc = .ok (.dup, 1)) (hc : v.category = 1) (hp : pc + 1 = pc') (r : WGo p e below s kc ks Q T (mkF m pc' Ls (v :: v :: st))) : WGo p e below s kc ks Q T (mkF m pc Ls (v :: st)) := by
  subst hp; exact r.go fun t k => XS.dup X.here hx rfl hd rfl hc k
theorem g_dup2 {v v' : Value} (X : Stand p l e R s m args below meth c T locs cells slots) (hx : p.tables.exec = Jvm.exec) (hd : decode c.code pc = .ok (.dup2, 1)) (hc : v.category = 1) (hc' : v'.category = 1) (hp : pc + 1 = pc') (r : WGo p e below s kc ks Q T (mkF m pc' Ls (v :: v' :: v :: v' :: st))) : WGo p e below s kc ks Q T (mkF m pc Ls (v :: v' :: st)) := by
  subst hp; exact r.go fun t k => XT.dup2 X.here hx rfl hd rfl hc hc' k
theorem g_pop {v : Value} (X : Stand p l e R s m args below meth c T locs cells slots) (hx : p.tables.exec = Jvm.exec) (hd : decode c.code pc = .ok (.pop, 1)) (hc : v.category = 1) (hp : pc + 1 = pc') (r : WGo p e below s kc ks Q T (mkF m pc' Ls st)) : WGo p e below s kc ks Q T (mkF m pc Ls (v :: st)) := by
  subst hp; exact r.go fun t k => XT.pop X.here hx rfl hd rfl hc k
/-! jumps -/
theorem g_join {α : Type} {P : α → Prop} {F : JFrame} {J : α → JFrame} (k : (∀ z, P z → WGo p e below s kc ks Q T (J z)) → WGo p e below s kc ks Q T F) (r : ∀ z, P z → WGo p e below s kc ks Q T (J z)) : WGo p e below s kc ks Q T F := k r
theorem g_goto (X : Stand p l e R s m args below meth c T locs cells slots) (hx : p.tables.exec = Jvm.exec) {o : Int} (hd : decode c.code pc = .ok (.goto o, 3)) (ho : 0 ≤ (pc : Int) + o) (hp : ((pc : Int) + o).toNat = pc') (r : WGo p e below s kc ks Q T (mkF m pc' Ls st)) : WGo p e below s kc ks Q T (mkF m pc Ls st) :=
  r.go fun t k => XS.goto X.here hx rfl rfl hd ho hp k
theorem g_joinT {α : Type} {P : α → Prop} {F : JFrame} {J : α → JFrame} {n0 : Nat} (k : (∀ T' L z, Stand p l e R s m args below meth c T' L cells slots → T'.heap = h → Fr n0 L → P z → WGo p e below s kc ks Q T' (J z)) → WGo p e below s kc ks Q T F) (r : ∀ T' L z, Stand p l e R s m args below meth c T' L cells slots → T'.heap = h → Fr n0 L → P z → WGo p e below s kc ks Q T' (J z)) : WGo p e below s kc ks Q T F := k r
theorem g_ind {α : Type} {P : Nat → α → Prop} {J : α → JFrame} (step : ∀ k, (∀ k' z, k' < k → P k' z → WGo p e below s kc ks Q T (J z)) → ∀ z, P k z → WGo p e below s kc ks Q T (J z)) (k0 : Nat) (z0 : α) (h0 : P k0 z0) : WGo p e below s kc ks Q T (J z0) := by
  have all : ∀ n k, k < n → ∀ z, P k z → WGo p e below s kc ks Q T (J z) := by
    intro n
    induction n with
    | zero => intro k hk; exact absurd hk (Nat.not_lt_zero _)
    | succ n ih => intro k hk z hz; exact step k (fun k' z' hk' hz' => ih k' (Nat.lt_of_lt_of_le hk' (Nat.le_of_lt_succ hk)) z' hz') z hz
  exact all (k0 + 1) k0 (Nat.lt_succ_self _) z0 h0
theorem g_icmp (X : Stand p l e R s m args below meth c T locs cells slots) (hx : p.tables.exec = Jvm.exec) {cd : ClassFile.Cond} {o : Int} {pc2 : Nat} (hd : decode c.code pc = .ok (.if_icmp cd o, 3)) (ho : 0 ≤ (pc : Int) + o) (hp : ((pc : Int) + o).toNat = pc') (hp2 : pc + 3 = pc2) (r1 : if_icmp.holds cd x y = true → WGo p e below s kc ks Q T (mkF m pc' Ls st)) (r2 : if_icmp.holds cd x y = false → WGo p e below s kc ks Q T (mkF m pc2 Ls st)) : WGo p e below s kc ks Q T (mkF m pc Ls (.int y :: .int x :: st)) := by
  subst hp2
  cases hc : if_icmp.holds cd x y
  · exact (r2 hc).go fun t k => XS.icmpNo X.here hx rfl hd rfl hc k
  · exact (r1 hc).go fun t k => XS.icmpYes X.here hx rfl rfl hd rfl hc ho hp k
theorem g_if (X : Stand p l e R s m args below meth c T locs cells slots) (hx : p.tables.exec = Jvm.exec) {cd : ClassFile.Cond} {o : Int} {pc2 : Nat} (hd : decode c.code pc = .ok (.ifCond cd o, 3)) (ho : 0 ≤ (pc : Int) + o) (hp : ((pc : Int) + o).toNat = pc') (hp2 : pc + 3 = pc2) (r1 : if_icmp.holds cd x 0 = true → WGo p e below s kc ks Q T (mkF m pc' Ls st)) (r2 : if_icmp.holds cd x 0 = false → WGo p e below s kc ks Q T (mkF m pc2 Ls st)) : WGo p e below s kc ks Q T (mkF m pc Ls (.int x :: st)) := by
  subst hp2
  cases hc : if_icmp.holds cd x 0
  · exact (r2 hc).go fun t k => XS.ifNo X.here hx rfl hd rfl ((if0 _ _).trans hc) k
  · exact (r1 hc).go fun t k => XS.ifYes X.here hx rfl rfl hd rfl ((if0 _ _).trans hc) ho hp k
theorem h_eq1 (q : if_icmp.holds .eq x y = true) : x = y := by simpa [if_icmp.holds] using q
theorem h_eq0 (q : if_icmp.holds .eq x y = false) : ¬ x = y := by simpa [if_icmp.holds] using q
theorem h_ne1 (q : if_icmp.holds .ne x y = true) : ¬ x = y := by simpa [if_icmp.holds] using q
theorem h_ne0 (q : if_icmp.holds .ne x y = false) : x = y := by simpa [if_icmp.holds] using q
theorem h_lt1 (q : if_icmp.holds .lt x y = true) : x < y := by simpa [if_icmp.holds] using q
theorem h_lt0 (q : if_icmp.holds .lt x y = false) : ¬ x < y := by simpa [if_icmp.holds] using q
theorem h_ge1 (q : if_icmp.holds .ge x y = true) : ¬ x < y := fun z => by rw [(tlt z).2.1] at q; cases q
theorem h_ge0 (q : if_icmp.holds .ge x y = false) : x < y := Classical.byContradiction fun z => by rw [(flt z).2.1] at q; cases q
theorem h_gt1 (q : if_icmp.holds .gt x y = true) : y < x := Classical.byContradiction fun z => by rw [(flt z).2.2.1] at q; cases q
theorem h_gt0 (q : if_icmp.holds .gt x y = false) : ¬ y < x := fun z => by rw [(tlt z).2.2.1] at q; cases q
theorem h_le1 (q : if_icmp.holds .le x y = true) : ¬ y < x := fun z => by rw [(tlt z).2.2.2] at q; cases q
theorem h_le0 (q : if_icmp.holds .le x y = false) : y < x := Classical.byContradiction fun z => by rw [(flt z).2.2.2] at q; cases q
theorem g_acmp {v v' : Value} (X : Stand p l e R s m args below meth c T locs cells slots) (hx : p.tables.exec = Jvm.exec) (h1 : v.isRef = true) (h2 : v'.isRef = true) {o : Int} {pc2 : Nat} (hd : decode c.code pc = .ok (.if_acmp .ne o, 3)) (ho : 0 ≤ (pc : Int) + o) (hp : ((pc : Int) + o).toNat = pc') (hp2 : pc + 3 = pc2) (r1 : ¬ v = v' → WGo p e below s kc ks Q T (mkF m pc' Ls st)) (r2 : v = v' → WGo p e below s kc ks Q T (mkF m pc2 Ls st)) : WGo p e below s kc ks Q T (mkF m pc Ls (v' :: v :: st)) := by
  by_cases hc : v = v'
  · exact (r2 hc).go fun t k => Jvm.RoadKit.acmp X hx rfl h1 h2 rfl hd rfl (decide_eq_true hc) ho (by simp [acV, hp2]) k
  · exact (r1 hc).go fun t k => Jvm.RoadKit.acmp X hx rfl h1 h2 rfl hd rfl (decide_eq_false hc) ho (by simp [acV, hp]) k
theorem cl_lt (u w : Int64) : XT.cmpL u w < 0 ↔ u < w := lw_lt u w
theorem cl_gt (u w : Int64) : 0 < XT.cmpL u w ↔ w < u := lw_gt u w
theorem cl_eq (u w : Int64) : XT.cmpL u w = 0 ↔ u = w := lw_eq u w
/-! fields -/
theorem g_getF {own O n d : String} {index : Nat} {a : Addr} {v : Value} (X : Stand p l e R s m args below meth c T locs cells slots) (hx : p.tables.exec = Jvm.exec) (hZ : Z.Warmed39 s.vm) (hown : s.vm.findClass own = some m.cls) (wd : (Jvm.Cond.fieldLink own index O n d).before a0 Z = true) (eT : T.heap = h) (F : Fld Z h a O n d v) (hd : decode c.code pc = .ok (.getfield index, 3)) (hp : pc + 3 = pc')
    (r : ∀ T', Stand p l e R s m args below meth c T' locs cells slots → T'.heap = h → WGo p e below s kc ks Q T' (mkF m pc' Ls (v :: st))) : WGo p e below s kc ks Q T (mkF m pc Ls (.ref a :: st)) := by
  subst hp
  obtain ⟨T', X', e', k⟩ := getF X hx hZ hown (host := "") (Or.inl wd) Via.refl eT F (g := mkF m pc Ls (.ref a :: st)) rfl rfl hd
  exact (r T' X' e').go k
theorem g_putF {own O n d C : String} {index kk : Nat} {ty : FieldType} {a : Addr} {v old : Value} (X : Stand p l e R s m args below meth c T locs cells slots) (hx : p.tables.exec = Jvm.exec) (hZ : Z.Warmed39 s.vm) (hown : s.vm.findClass own = some m.cls) (wd : (Jvm.Cond.fieldLink own index O n d).before a0 Z = true) (eT : T.heap = h) (F : Fld Z h a O n d old) (E : Exa Z h a C)
    (L : (Jvm.Cond.lays C O n d).before a0 Z = true ∨ ((Jvm.Cond.laysFinal C O n d).before a0 Z = true ∧ own = O ∧ meth.name = "<init>")) (wi : (Jvm.Cond.instantiable C kk).before a0 Z = true) (hty : parseFieldDescriptor d = some ty) (hn : narrow ty v = v) (hf : fits ty v = true) (hd : decode c.code pc = .ok (.putfield index, 3)) (hp : pc + 3 = pc')
    (r : ∀ T' h', Stand p l e R s m args below meth c T' (locs ++ [⟨a, Jvm.RoadKit.slotOf Z O n d⟩]) cells slots → T'.heap = h' → Wr h h' a (Jvm.RoadKit.slotOf Z O n d) v → WGo p e below s kc ks Q T' (mkF m pc' Ls st)) : WGo p e below s kc ks Q T (mkF m pc Ls (v :: .ref a :: st)) := by
  subst hp
  obtain ⟨T', h', X', e', W, k⟩ := putF X hx hZ hown (host := "") (Or.inl wd) Via.refl eT F E L wi hty hn hf (g := mkF m pc Ls (v :: .ref a :: st)) rfl rfl hd
  exact (r T' h' X' e' W).go k
theorem g_getS {own O n d : String} {index : Nat} {v : Value} (X : Stand p l e R s m args below meth c T locs cells slots) (hx : p.tables.exec = Jvm.exec) (hZ : Z.Warmed39 s.vm) (hown : s.vm.findClass own = some m.cls) (wd : (Jvm.Cond.fieldLink own index O n d).before a0 Z = true) (eT : T.heap = h) (F : Sta Z h O n d v) (hd : decode c.code pc = .ok (.getstatic index, 3)) (hp : pc + 3 = pc')
    (r : ∀ T', Stand p l e R s m args below meth c T' locs cells slots → T'.heap = h → WGo p e below s kc ks Q T' (mkF m pc' Ls (v :: st))) : WGo p e below s kc ks Q T (mkF m pc Ls st) := by
  subst hp
  obtain ⟨T', X', e', k⟩ := getS (host := "") X hx hZ hown wd Via.refl eT F (g := mkF m pc Ls st) rfl hd
  exact (r T' X' e').go k
/-! new -/
theorem g_new {own C : String} {index n : Nat} (X : Stand p l e R s m args below meth c T locs cells slots) (hx : p.tables.exec = Jvm.exec) (hZ : Z.Warmed39 s.vm) (hown : s.vm.findClass own = some m.cls) (w1 : (Jvm.Cond.classLink own index C).before a0 Z = true) (w2 : (Jvm.Cond.instantiable C n).before a0 Z = true) (w3 : (Jvm.Cond.initialized C).before a0 Z = true) (eT : T.heap = h) (hd : decode c.code pc = .ok (.new index, 3)) (hc : cells + 1 ≤ R.cells) (hl : slots + n ≤ R.slots) (hp : pc + 3 = pc')
    (r : ∀ T' h' a, a = h.size → Stand p l e R s m args below meth c T' locs (cells + 1) (slots + n) → T'.heap = h' → Ext h h' → Exa Z h' a C → (∀ {O nm d : String} {ty : FieldType}, Laid Z a0 C O nm d → parseFieldDescriptor d = some ty → Fld Z h' a O nm d (defaultValue ty)) → WGo p e below s kc ks Q T' (mkF m pc' Ls (.ref a :: st))) : WGo p e below s kc ks Q T (mkF m pc Ls st) := by
  subst hp
  obtain ⟨T', h', X', e', E, A, D, -, k⟩ := newO X hx hZ hown w1 w2 w3 eT (g := mkF m pc Ls st) rfl hd hc hl
  exact (r T' h' _ rfl X' e' E A D).go k
/-- a step that a law of the library hands out whole -/
theorem g_move {g g' : JFrame} (k : ∃ T', Stand p l e R s m args below meth c T' locs cells slots ∧ T'.heap = h ∧ ∀ target, Steps p.tables e below (T'.setTop g') target → Steps p.tables e below (T.setTop g) target) (r : ∀ T', Stand p l e R s m args below meth c T' locs cells slots → T'.heap = h → WGo p e below s kc ks Q T' g') : WGo p e below s kc ks Q T g := by
  obtain ⟨T', X', e', k⟩ := k
  exact (r T' X' e').go k
/-! calls by contract -/
theorem g_init {own : String} {index : Nat} {yy : MethodName} {bytes : ByteArray} {maxL : Nat} {rm : Room} {a : Addr} {argsL as' : List Value} {Q' : Option Value → Heap → List Loc → Prop} {W : Nat} (X : Stand p l e R s m args below meth c T locs cells slots) (hx : p.tables.exec = Jvm.exec) (hZ : Z.Warmed39 s.vm) (hown : s.vm.findClass own = some m.cls) (hy1 : yy.name = "<init>") (w1 : (Jvm.Cond.methodLink own index yy).before a0 Z = true) (w2 : (Jvm.Cond.instanceMethod yy).before a0 Z = true) (w3 : (Jvm.Cond.code yy bytes maxL none).before a0 Z = true) (w4 : (Jvm.Cond.initialized yy.cls).before a0 Z = true)
    (hy : yy.cls ≠ "java/lang/invoke/MethodHandle" ∧ yy.cls ≠ "java/lang/invoke/VarHandle") (ct : WCt l Z yy bytes maxL none rm (.ref a :: argsL).toArray h Q') (eT : T.heap = h) (hf : rm.frames + 1 ≤ R.frames) (hl : W + (maxL + 11) + rm.locals ≤ R.locals) (hc : cells + rm.cells ≤ R.cells) (hs : slots + rm.slots ≤ R.slots) (hlen : ∀ sig, parseMethodDescriptor yy.desc = some sig → argsL.length = sig.parameters.length) (hsize : Ls.size = c.maxLocals) (has : as' = argsL.reverse ++ .ref a :: st) (hW : 2 * 0 + (st.map fun v => v.category).sum ≤ W) (hd : decode c.code pc = .ok (.invokespecial index, 3)) (hp : pc + 3 = pc')
    (r : ∀ T' h' v L, Stand p l e R s m args below meth c T' (locs ++ L) (cells + rm.cells) (slots + rm.slots) → T'.heap = h' → Q' v h' L → WGo p e below s kc ks Q T' (mkF m pc' Ls (v.toList ++ st))) : WGo p e below s kc ks Q T (mkF m pc Ls as') := by
  subst hp has
  obtain ⟨v, _, ⟨T', L, k1, k2⟩, -, X', ⟨Lc, hQ, l1, y1, z1⟩, k⟩ := X.specialBack hx (y := yy) hy1 hown (mvT hZ w1) (mvT hZ w2) (mvT hZ w3) hy (backOf (W := W) (ct []) hZ w3 w4 hf hl) (g := mkF m pc Ls (argsL.reverse ++ .ref a :: st)) rfl hsize (Steps.refl _) (a := a) (argsL := argsL) (rest := st) hlen rfl hW hd (fun _ _ => ⟨rfl, eT, hc, hs⟩)
  dsimp only [Pt.U, Pt.locs, Pt.cells, Pt.slots] at X' l1 y1 z1 k hQ
  subst l1 y1 z1
  exact (r T' _ v Lc X' rfl hQ).go fun t q => k.trans q
theorem g_virt {own C : String} {index : Nat} {yy zz : MethodName} {bytes : ByteArray} {maxL : Nat} {ret : Option FieldType} {rm : Room} {a : Addr} {argsL as' : List Value} {Q' : Option Value → Heap → List Loc → Prop} {W : Nat} (X : Stand p l e R s m args below meth c T locs cells slots) (hx : p.tables.exec = Jvm.exec) (hZ : Z.Warmed39 s.vm) (hown : s.vm.findClass own = some m.cls) (w1 : (Jvm.Cond.methodLink own index yy).before a0 Z = true) (w2 : (Jvm.Cond.declares yy).before a0 Z = true) (nf : NotFace s yy) (w3 : (Jvm.Cond.selects C yy zz).before a0 Z = true) (w4 : (Jvm.Cond.instanceMethod zz).before a0 Z = true) (w5 : (Jvm.Cond.code zz bytes maxL ret).before a0 Z = true) (w6 : (Jvm.Cond.initialized zz.cls).before a0 Z = true)
    (hy : yy.cls ≠ "java/lang/invoke/MethodHandle" ∧ yy.cls ≠ "java/lang/invoke/VarHandle") (E : Exa Z h a C) (ct : WCt l Z zz bytes maxL ret rm (.ref a :: argsL).toArray h Q') (eT : T.heap = h) (hf : rm.frames + 1 ≤ R.frames) (hl : W + (maxL + 11) + rm.locals ≤ R.locals) (hc : cells + rm.cells ≤ R.cells) (hs : slots + rm.slots ≤ R.slots) (hlen : ∀ sig, parseMethodDescriptor yy.desc = some sig → argsL.length = sig.parameters.length) (hsize : Ls.size = c.maxLocals) (has : as' = argsL.reverse ++ .ref a :: st) (hW : 2 * 0 + (st.map fun v => v.category).sum ≤ W) (hd : decode c.code pc = .ok (.invokevirtual index, 3)) (hp : pc + 3 = pc')
    (r : ∀ T' h' v L, Stand p l e R s m args below meth c T' (locs ++ L) (cells + rm.cells) (slots + rm.slots) → T'.heap = h' → Q' v h' L → WGo p e below s kc ks Q T' (mkF m pc' Ls (v.toList ++ st))) : WGo p e below s kc ks Q T (mkF m pc Ls as') := by
  subst hp has
  obtain ⟨cq, kq, qa, -, qc⟩ := isOf hZ eT E
  obtain ⟨v, _, ⟨T', L, k1, k2⟩, -, X', ⟨Lc, hQ, l1, y1, z1⟩, k⟩ := X.virtualBack hx (y := yy) (z := zz) hown (mvT hZ w1) (mvT hZ w2) nf (mvT hZ w3) (mvT hZ w4) hy (backOf (W := W) (ct []) hZ w5 w6 hf hl) qa qc (g := mkF m pc Ls (argsL.reverse ++ .ref a :: st)) rfl hsize (Steps.refl _) (argsL := argsL) (rest := st) hlen rfl hW hd (fun _ _ => ⟨rfl, eT, hc, hs⟩)
  dsimp only [Pt.U, Pt.locs, Pt.cells, Pt.slots] at X' l1 y1 z1 k hQ
  subst l1 y1 z1
  exact (r T' _ v Lc X' rfl hQ).go fun t q => k.trans q
theorem g_stat {own : String} {index : Nat} {yy : MethodName} {bytes : ByteArray} {maxL : Nat} {ret : Option FieldType} {rm : Room} {argsL as' : List Value} {Q' : Option Value → Heap → List Loc → Prop} {W : Nat} (X : Stand p l e R s m args below meth c T locs cells slots) (hx : p.tables.exec = Jvm.exec) (hZ : Z.Warmed39 s.vm) (hown : s.vm.findClass own = some m.cls) (w1 : (Jvm.Cond.methodLink own index yy).before a0 Z = true) (w2 : (Jvm.Cond.static yy).before a0 Z = true) (w3 : (Jvm.Cond.initialized yy.cls).before a0 Z = true) (w4 : (Jvm.Cond.code yy bytes maxL ret).before a0 Z = true)
    (hy : yy.cls ≠ "java/lang/invoke/MethodHandle" ∧ yy.cls ≠ "java/lang/invoke/VarHandle") (ct : WCt l Z yy bytes maxL ret rm argsL.toArray h Q') (eT : T.heap = h) (hf : rm.frames + 1 ≤ R.frames) (hl : W + (maxL + 11) + rm.locals ≤ R.locals) (hc : cells + rm.cells ≤ R.cells) (hs : slots + rm.slots ≤ R.slots) (hlen : ∀ sig, parseMethodDescriptor yy.desc = some sig → argsL.length = sig.parameters.length) (hsize : Ls.size = c.maxLocals) (has : as' = argsL.reverse ++ st) (hW : 2 * 0 + (st.map fun v => v.category).sum ≤ W) (hd : decode c.code pc = .ok (.invokestatic index, 3)) (hp : pc + 3 = pc')
    (r : ∀ T' h' v L, Stand p l e R s m args below meth c T' (locs ++ L) (cells + rm.cells) (slots + rm.slots) → T'.heap = h' → Q' v h' L → WGo p e below s kc ks Q T' (mkF m pc' Ls (v.toList ++ st))) : WGo p e below s kc ks Q T (mkF m pc Ls as') := by
  subst hp has
  obtain ⟨v, _, ⟨T', L, k1, k2⟩, -, X', ⟨Lc, hQ, l1, y1, z1⟩, k⟩ := Jvm.LawKit.callS X hx (y := yy) hown (mvT hZ w1) (mvT hZ w2) (mvT hZ w3) (mvT hZ w4) hy (backOf (W := W) (ct []) hZ w4 w3 hf hl) (g := mkF m pc Ls (argsL.reverse ++ st)) rfl hsize (argsL := argsL) (rest := st) hlen rfl hW hd (fun _ _ => ⟨rfl, eT, hc, hs⟩)
  dsimp only [Pt.U, Pt.locs, Pt.cells, Pt.slots] at X' l1 y1 z1 k hQ
  subst l1 y1 z1
  exact (r T' _ v Lc X' rfl hQ).go fun t q => k t q
theorem own_selp {yy : MethodName} {n : Nat} (hins : (Jvm.Cond.instantiable yy.cls n).before args s = true) (hpriv : (Jvm.Cond.privateMethod yy).before args s = true) (hinst : (Jvm.Cond.instanceMethod yy).before args s = true) (hy : yy.cls ≠ "java/lang/invoke/MethodHandle" ∧ yy.cls ≠ "java/lang/invoke/VarHandle") :
    (Jvm.Cond.selects yy.cls yy yy).before args s = true := by
  obtain ⟨c, k, hc, hk, -, hniab, -, -⟩ := Cond.instantiable_spec hins
  have hni : k.isInterface = false := (Bool.or_eq_false_iff.mp hniab).1
  obtain ⟨mk, methM, hnamed, hmethM, -, -⟩ := Cond.instanceMethod_spec hinst
  have hfound : s.methodFound? yy.cls yy.name yy.desc = some mk := State.methodFound?_of_named hnamed hy
  have hcls : mk.cls = c := Option.some.inj ((findClass_of_methodNamed hnamed).symm.trans hc)
  have hsel : selectMethod {} s.vm c mk = .method mk := selectMethod_private hmethM (Cond.privateMethod_at hpriv mk methM hnamed hmethM)
  simp only [Cond.before, Cond.holds, Cond.value, hc, hfound, hnamed, hsel, hcls, hk]
  simp; exact hni
theorem g_priv {own C : String} {index kk : Nat} {yy : MethodName} {bytes : ByteArray} {maxL : Nat} {ret : Option FieldType} {rm : Room} {a : Addr} {argsL as' : List Value} {Q' : Option Value → Heap → List Loc → Prop} {W : Nat} (X : Stand p l e R s m args below meth c T locs cells slots) (hx : p.tables.exec = Jvm.exec) (hZ : Z.Warmed39 s.vm) (hown : s.vm.findClass own = some m.cls) (w1 : (Jvm.Cond.methodLink own index yy).before a0 Z = true) (w2 : (Jvm.Cond.instanceMethod yy).before a0 Z = true) (w3 : (Jvm.Cond.privateMethod yy).before a0 Z = true) (w4 : (Jvm.Cond.code yy bytes maxL ret).before a0 Z = true) (w5 : (Jvm.Cond.initialized yy.cls).before a0 Z = true) (w6 : (Jvm.Cond.instantiable yy.cls kk).before a0 Z = true)
    (hy : yy.cls ≠ "java/lang/invoke/MethodHandle" ∧ yy.cls ≠ "java/lang/invoke/VarHandle") (E : Exa Z h a C) (ct : WCt l Z yy bytes maxL ret rm (.ref a :: argsL).toArray h Q') (eT : T.heap = h) (hf : rm.frames + 1 ≤ R.frames) (hl : W + (maxL + 11) + rm.locals ≤ R.locals) (hc : cells + rm.cells ≤ R.cells) (hs : slots + rm.slots ≤ R.slots) (hlen : ∀ sig, parseMethodDescriptor yy.desc = some sig → argsL.length = sig.parameters.length) (hsize : Ls.size = c.maxLocals) (has : as' = argsL.reverse ++ .ref a :: st) (hW : 2 * 0 + (st.map fun v => v.category).sum ≤ W) (hd : decode c.code pc = .ok (.invokevirtual index, 3)) (hp : pc + 3 = pc')
    (r : ∀ T' h' v L, Stand p l e R s m args below meth c T' (locs ++ L) (cells + rm.cells) (slots + rm.slots) → T'.heap = h' → Q' v h' L → WGo p e below s kc ks Q T' (mkF m pc' Ls (v.toList ++ st))) : WGo p e below s kc ks Q T (mkF m pc Ls as') := by
  subst hp has
  obtain ⟨cq, qa, qb⟩ := E.cell
  obtain ⟨v, _, ⟨T', L, k1, k2⟩, -, X', ⟨Lc, hQ, l1, y1, z1⟩, k⟩ := X.privateBack hx (y := yy) hown (mvT hZ w1) (mvT hZ w2) (own_selp (mvT hZ w6) (mvP hZ w3) (mvT hZ w2) hy) (Cond.privateMethod_at (mvP hZ w3 (args := #[]))) (mvT hZ w4) hy (backOf (W := W) (ct []) hZ w4 w5 hf hl) (g := mkF m pc Ls (argsL.reverse ++ .ref a :: st)) rfl hsize (Steps.refl _) (a := a) (by rw [eT]; exact qa) qb (argsL := argsL) (rest := st) hlen rfl hW hd (fun _ _ => ⟨rfl, eT, hc, hs⟩)
  dsimp only [Pt.U, Pt.locs, Pt.cells, Pt.slots] at X' l1 y1 z1 k hQ
  subst l1 y1 z1
  exact (r T' _ v Lc X' rfl hQ).go fun t q => k.trans q
/-! arrays: the place i holds f i -/
def Ai (Z : State) (h : Heap) (a : Addr) (ty : FieldType) (n : Nat) (f : Nat → Value) : Prop := ∃ cl : Cell, Arr Z h a cl ty ∧ cl.slots.size = n ∧ n < 2 ^ 31 ∧ ∀ i, i < n → cl.slots[i]? = some (f i)
def upd (f : Nat → Value) (i : Nat) (v : Value) : Nat → Value := fun j => if j = i then v else f j
theorem upd_at (f : Nat → Value) (i : Nat) (v : Value) : upd f i v i = v := by simp [upd]
theorem upd_ne (f : Nat → Value) {i j : Nat} (v : Value) (q : j ≠ i) : upd f i v j = f j := by simp [upd, q]
theorem Ai.lt {a : Addr} {ty : FieldType} {n : Nat} {f : Nat → Value} (A : Ai Z h a ty n f) : a < h.size := by obtain ⟨_, A, -⟩ := A; exact A.lt
theorem Ai.ext {h' : Heap} {a : Addr} {ty : FieldType} {n : Nat} {f : Nat → Value} (A : Ai Z h a ty n f) (E : Ext h h') : Ai Z h' a ty n f := by obtain ⟨cl, A, r⟩ := A; exact ⟨cl, A.ext E, r⟩
theorem Ai.other {h' : Heap} {a b : Addr} {ty : FieldType} {n sl : Nat} {v : Value} {f : Nat → Value} (A : Ai Z h b ty n f) (W : Wr h h' a sl v) (q : b ≠ a) : Ai Z h' b ty n f := by obtain ⟨cl, A, r⟩ := A; exact ⟨cl, A.other W q, r⟩
theorem Ai.keep {h' : Heap} {a : Addr} {ty : FieldType} {n : Nat} {f : Nat → Value} {ws : List Addr} (A : Ai Z h a ty n f) (K : Keep h h' ws) (q : a ∉ ws) : Ai Z h' a ty n f := by obtain ⟨cl, A, r⟩ := A; exact ⟨cl, ⟨K.2.1 a cl A.1 q, A.2⟩, r⟩
theorem Ai.set {h' : Heap} {a : Addr} {ty : FieldType} {n : Nat} {f : Nat → Value} {i : Nat} {v : Value} (A : Ai Z h a ty n f) (W : Wr h h' a i v) : Ai Z h' a ty n (upd f i v) := by
  obtain ⟨cl, A, S, B, H⟩ := A
  refine ⟨_, A.same W, by rw [sz_set]; exact S, B, fun j hj => ?_⟩
  by_cases q : j = i
  · subst q
    rw [upd_at]
    simp [Cell.setSlot, S, hj]
  · rw [upd_ne f v q]
    show (cl.slots.setIfInBounds i v)[j]? = _
    rw [Array.getElem?_setIfInBounds_ne (Ne.symm q)]
    exact H j hj
theorem Ai.fn {a : Addr} {ty : FieldType} {n : Nat} {f f' : Nat → Value} (A : Ai Z h a ty n f) (q : ∀ i, i < n → f i = f' i) : Ai Z h a ty n f' := by
  obtain ⟨cl, A, S, B, H⟩ := A
  exact ⟨cl, A, S, B, fun j hj => by rw [← q j hj]; exact H j hj⟩
theorem Ai.inb {cl : Cell} {n : Nat} {j : Int32} (S : cl.slots.size = n) (h0 : ¬ j < 0) (hn : j.toNatClampNeg < n) : ¬ (j < 0 ∨ cl.slots.size ≤ j.toNatClampNeg) := fun q => q.elim h0 fun z => absurd hn (Nat.not_lt.mpr (S ▸ z))
theorem g_newP {aty : ArrayType} {n : Int32} {cap : Nat} (X : Stand p l e R s m args below meth c T locs cells slots) (hx : p.tables.exec = Jvm.exec) (hZ : Z.Warmed39 s.vm) (wd : (Jvm.Cond.arrayClass (newarray.typeOf aty)).before a0 Z = true) (eT : T.heap = h) (hd : decode c.code pc = .ok (.newarray aty, 2)) (hn : ¬ n < 0) (hcap : n.toNatClampNeg ≤ cap) (hb : cap * 8 ≤ 536870912) (hc : cells + 1 ≤ R.cells) (hl : slots + cap ≤ R.slots) (hp : pc + 2 = pc')
    (r : ∀ T' h' a, a = h.size → Stand p l e R s m args below meth c T' locs (cells + 1) (slots + cap) → T'.heap = h' → Ext h h' → Ai Z h' a (newarray.typeOf aty) n.toNatClampNeg (fun _ => defaultValue (newarray.typeOf aty)) → WGo p e below s kc ks Q T' (mkF m pc' Ls (.ref a :: st))) : WGo p e below s kc ks Q T (mkF m pc Ls (.int n :: st)) := by
  subst hp
  obtain ⟨T', h', cA, X', e', E, A, k⟩ := newP X hx hZ wd eT (g := mkF m pc Ls (.int n :: st)) rfl hd rfl hn hcap hb hc hl
  refine (r T' h' _ rfl X' e' E ⟨_, A, sz_new _ _ _, (back32 hn).2, fun i hi => ?_⟩).go k
  simp [newA, hi]
theorem g_len {a : Addr} {ty : FieldType} {n : Nat} {f : Nat → Value} (X : Stand p l e R s m args below meth c T locs cells slots) (hx : p.tables.exec = Jvm.exec) (hZ : Z.Warmed39 s.vm) (eT : T.heap = h) (A : Ai Z h a ty n f) (hd : decode c.code pc = .ok (.arraylength, 1)) (hn : Nat.toInt32 n = x) (hp : pc + 1 = pc') (r : WGo p e below s kc ks Q T (mkF m pc' Ls (.int x :: st))) : WGo p e below s kc ks Q T (mkF m pc Ls (.ref a :: st)) := by
  subst hp
  obtain ⟨cl, A, S, B, H⟩ := A
  rw [← hn, ← S] at r
  exact r.go fun t k => X.arraylength hx (by rw [eT]; exact A.1) (State.isArrayOf_alike hZ.alike A.2.1) (g := mkF m pc Ls (.ref a :: st)) rfl rfl hd t k
theorem g_iaload {a : Addr} {n : Nat} {f : Nat → Value} {j : Int32} {v : Value} (X : Stand p l e R s m args below meth c T locs cells slots) (hx : p.tables.exec = Jvm.exec) (hZ : Z.Warmed39 s.vm) (eT : T.heap = h) (A : Ai Z h a .int n f) (hd : decode c.code pc = .ok (.iaload, 1)) (h0 : ¬ j < 0) (hn : j.toNatClampNeg < n) (hv : f j.toNatClampNeg = v) (hp : pc + 1 = pc') (r : WGo p e below s kc ks Q T (mkF m pc' Ls (v :: st))) : WGo p e below s kc ks Q T (mkF m pc Ls (.int j :: .ref a :: st)) := by
  subst hp hv
  obtain ⟨cl, A, S, B, H⟩ := A
  exact r.go fun t k => X.iaload hx (by rw [eT]; exact A.1) (State.isArrayOf_alike hZ.alike A.2.1) A.2.2 (Ai.inb S h0 hn) (H _ hn) (g := mkF m pc Ls (.int j :: .ref a :: st)) rfl rfl hd t k
theorem g_laload {a : Addr} {n : Nat} {f : Nat → Value} {j : Int32} {v : Value} (X : Stand p l e R s m args below meth c T locs cells slots) (hx : p.tables.exec = Jvm.exec) (hZ : Z.Warmed39 s.vm) (eT : T.heap = h) (A : Ai Z h a .long n f) (hd : decode c.code pc = .ok (.laload, 1)) (h0 : ¬ j < 0) (hn : j.toNatClampNeg < n) (hv : f j.toNatClampNeg = v) (hp : pc + 1 = pc') (r : WGo p e below s kc ks Q T (mkF m pc' Ls (v :: st))) : WGo p e below s kc ks Q T (mkF m pc Ls (.int j :: .ref a :: st)) := by
  subst hp hv
  obtain ⟨cl, A, S, B, H⟩ := A
  exact r.go fun t k => X.laload hx (by rw [eT]; exact A.1) (State.isArrayOf_alike hZ.alike A.2.1) A.2.2 (Ai.inb S h0 hn) (H _ hn) (g := mkF m pc Ls (.int j :: .ref a :: st)) rfl rfl hd t k
theorem g_baloadB {a : Addr} {n : Nat} {f : Nat → Value} {j : Int32} {v : Value} (X : Stand p l e R s m args below meth c T locs cells slots) (hx : p.tables.exec = Jvm.exec) (hZ : Z.Warmed39 s.vm) (eT : T.heap = h) (A : Ai Z h a .byte n f) (hd : decode c.code pc = .ok (.baload, 1)) (h0 : ¬ j < 0) (hn : j.toNatClampNeg < n) (hv : f j.toNatClampNeg = v) (hp : pc + 1 = pc') (r : WGo p e below s kc ks Q T (mkF m pc' Ls (v :: st))) : WGo p e below s kc ks Q T (mkF m pc Ls (.int j :: .ref a :: st)) := by
  subst hp hv
  obtain ⟨cl, A, S, B, H⟩ := A
  exact r.go fun t k => X.baloadBytes hx (by rw [eT]; exact A.1) (State.isArrayOf_alike hZ.alike A.2.1) A.2.2 (Ai.inb S h0 hn) (H _ hn) (g := mkF m pc Ls (.int j :: .ref a :: st)) rfl rfl hd t k
theorem g_baloadZ {a : Addr} {n : Nat} {f : Nat → Value} {j : Int32} {v : Value} (X : Stand p l e R s m args below meth c T locs cells slots) (hx : p.tables.exec = Jvm.exec) (hZ : Z.Warmed39 s.vm) (eT : T.heap = h) (A : Ai Z h a .boolean n f) (hd : decode c.code pc = .ok (.baload, 1)) (h0 : ¬ j < 0) (hn : j.toNatClampNeg < n) (hv : f j.toNatClampNeg = v) (hp : pc + 1 = pc') (r : WGo p e below s kc ks Q T (mkF m pc' Ls (v :: st))) : WGo p e below s kc ks Q T (mkF m pc Ls (.int j :: .ref a :: st)) := by
  subst hp hv
  obtain ⟨cl, A, S, B, H⟩ := A
  exact r.go fun t k => X.baloadBooleans hx (by rw [eT]; exact A.1) (State.isArrayOf_alike hZ.alike A.2.1) A.2.2 (Ai.inb S h0 hn) (H _ hn) (g := mkF m pc Ls (.int j :: .ref a :: st)) rfl rfl hd t k
theorem g_aaload {a : Addr} {ty : FieldType} {n : Nat} {f : Nat → Value} {j : Int32} {v : Value} (X : Stand p l e R s m args below meth c T locs cells slots) (hx : p.tables.exec = Jvm.exec) (hZ : Z.Warmed39 s.vm) (eT : T.heap = h) (hty : ty.isReference = true) (A : Ai Z h a ty n f) (hd : decode c.code pc = .ok (.aaload, 1)) (h0 : ¬ j < 0) (hn : j.toNatClampNeg < n) (hv : f j.toNatClampNeg = v) (hp : pc + 1 = pc') (r : WGo p e below s kc ks Q T (mkF m pc' Ls (v :: st))) : WGo p e below s kc ks Q T (mkF m pc Ls (.int j :: .ref a :: st)) := by
  subst hp hv
  obtain ⟨cl, A, S, B, H⟩ := A
  exact r.go fun t k => X.aaload hx (by rw [eT]; exact A.1) (State.isArrayOf_alike hZ.alike A.2.1) hty A.2.2 (Ai.inb S h0 hn) (H _ hn) (g := mkF m pc Ls (.int j :: .ref a :: st)) rfl rfl hd t k
theorem g_iastore {a : Addr} {n : Nat} {f : Nat → Value} {j : Int32} (X : Stand p l e R s m args below meth c T locs cells slots) (hx : p.tables.exec = Jvm.exec) (hZ : Z.Warmed39 s.vm) (eT : T.heap = h) (A : Ai Z h a .int n f) (hd : decode c.code pc = .ok (.iastore, 1)) (h0 : ¬ j < 0) (hn : j.toNatClampNeg < n) (hp : pc + 1 = pc')
    (r : ∀ T' h', Stand p l e R s m args below meth c T' (locs ++ [⟨a, j.toNatClampNeg⟩]) cells slots → T'.heap = h' → Wr h h' a j.toNatClampNeg (.int x) → Ai Z h' a .int n (upd f j.toNatClampNeg (.int x)) → WGo p e below s kc ks Q T' (mkF m pc' Ls st)) : WGo p e below s kc ks Q T (mkF m pc Ls (.int x :: .int j :: .ref a :: st)) := by
  subst hp
  have A0 := A
  obtain ⟨cl, A, S, B, H⟩ := A
  obtain ⟨T', h', X', e', W, k⟩ := stI X hx hZ eT A (Ai.inb S h0 hn) (g := mkF m pc Ls (.int x :: .int j :: .ref a :: st)) rfl rfl hd
  exact (r T' h' X' e' W (A0.set W)).go k
theorem g_lastore {a : Addr} {n : Nat} {f : Nat → Value} {j : Int32} (X : Stand p l e R s m args below meth c T locs cells slots) (hx : p.tables.exec = Jvm.exec) (hZ : Z.Warmed39 s.vm) (eT : T.heap = h) (A : Ai Z h a .long n f) (hd : decode c.code pc = .ok (.lastore, 1)) (h0 : ¬ j < 0) (hn : j.toNatClampNeg < n) (hp : pc + 1 = pc')
    (r : ∀ T' h', Stand p l e R s m args below meth c T' (locs ++ [⟨a, j.toNatClampNeg⟩]) cells slots → T'.heap = h' → Wr h h' a j.toNatClampNeg (.long u) → Ai Z h' a .long n (upd f j.toNatClampNeg (.long u)) → WGo p e below s kc ks Q T' (mkF m pc' Ls st)) : WGo p e below s kc ks Q T (mkF m pc Ls (.long u :: .int j :: .ref a :: st)) := by
  subst hp
  have A0 := A
  obtain ⟨cl, A, S, B, H⟩ := A
  obtain ⟨T', h', X', e', W, k⟩ := stJ X hx hZ eT A (Ai.inb S h0 hn) (g := mkF m pc Ls (.long u :: .int j :: .ref a :: st)) rfl rfl hd
  exact (r T' h' X' e' W (A0.set W)).go k
theorem g_bastoreB {a : Addr} {n : Nat} {f : Nat → Value} {j : Int32} (X : Stand p l e R s m args below meth c T locs cells slots) (hx : p.tables.exec = Jvm.exec) (hZ : Z.Warmed39 s.vm) (eT : T.heap = h) (A : Ai Z h a .byte n f) (hd : decode c.code pc = .ok (.bastore, 1)) (h0 : ¬ j < 0) (hn : j.toNatClampNeg < n) (hp : pc + 1 = pc')
    (r : ∀ T' h', Stand p l e R s m args below meth c T' (locs ++ [⟨a, j.toNatClampNeg⟩]) cells slots → T'.heap = h' → Wr h h' a j.toNatClampNeg (.int (nar .byte x)) → Ai Z h' a .byte n (upd f j.toNatClampNeg (.int (nar .byte x))) → WGo p e below s kc ks Q T' (mkF m pc' Ls st)) : WGo p e below s kc ks Q T (mkF m pc Ls (.int x :: .int j :: .ref a :: st)) := by
  subst hp
  have A0 := A
  obtain ⟨cl, A, S, B, H⟩ := A
  obtain ⟨T', h', X', e', W, k⟩ := stB X hx hZ eT A (Ai.inb S h0 hn) (g := mkF m pc Ls (.int x :: .int j :: .ref a :: st)) rfl rfl hd
  exact (r T' h' X' e' W (A0.set W)).go k
theorem g_bastoreZ {a : Addr} {n : Nat} {f : Nat → Value} {j : Int32} (X : Stand p l e R s m args below meth c T locs cells slots) (hx : p.tables.exec = Jvm.exec) (hZ : Z.Warmed39 s.vm) (eT : T.heap = h) (A : Ai Z h a .boolean n f) (hd : decode c.code pc = .ok (.bastore, 1)) (h0 : ¬ j < 0) (hn : j.toNatClampNeg < n) (hp : pc + 1 = pc')
    (r : ∀ T' h', Stand p l e R s m args below meth c T' (locs ++ [⟨a, j.toNatClampNeg⟩]) cells slots → T'.heap = h' → Wr h h' a j.toNatClampNeg (.int (nar .boolean x)) → Ai Z h' a .boolean n (upd f j.toNatClampNeg (.int (nar .boolean x))) → WGo p e below s kc ks Q T' (mkF m pc' Ls st)) : WGo p e below s kc ks Q T (mkF m pc Ls (.int x :: .int j :: .ref a :: st)) := by
  subst hp
  have A0 := A
  obtain ⟨cl, A, S, B, H⟩ := A
  obtain ⟨T', h', X', e', W, k⟩ := stZ X hx hZ eT A (Ai.inb S h0 hn) (g := mkF m pc Ls (.int x :: .int j :: .ref a :: st)) rfl rfl hd
  exact (r T' h' X' e' W (A0.set W)).go k
theorem g_aastore {a : Addr} {ty : FieldType} {v : Value} {n : Nat} {f : Nat → Value} {j : Int32} (X : Stand p l e R s m args below meth c T locs cells slots) (hx : p.tables.exec = Jvm.exec) (hZ : Z.Warmed39 s.vm) (eT : T.heap = h) (hty : ty.isReference = true) (F : Sto Z h a v) (A : Ai Z h a ty n f) (hd : decode c.code pc = .ok (.aastore, 1)) (h0 : ¬ j < 0) (hn : j.toNatClampNeg < n) (hp : pc + 1 = pc')
    (r : ∀ T' h', Stand p l e R s m args below meth c T' (locs ++ [⟨a, j.toNatClampNeg⟩]) cells slots → T'.heap = h' → Wr h h' a j.toNatClampNeg (v) → Ai Z h' a ty n (upd f j.toNatClampNeg (v)) → WGo p e below s kc ks Q T' (mkF m pc' Ls st)) : WGo p e below s kc ks Q T (mkF m pc Ls (v :: .int j :: .ref a :: st)) := by
  subst hp
  have A0 := A
  obtain ⟨cl, A, S, B, H⟩ := A
  obtain ⟨T', h', X', e', W, k⟩ := stR X hx hZ eT A (Ai.inb S h0 hn) hty F (g := mkF m pc Ls (v :: .int j :: .ref a :: st)) rfl rfl hd
  exact (r T' h' X' e' W (A0.set W)).go k
/-! arrays of ints, bytes, booleans by the list of what they hold; arrays of longs too -/
def Al (Z : State) (h : Heap) (a : Addr) (ty : FieldType) (n : Nat) (L : List Int32) : Prop := L.length = n ∧ Ai Z h a ty n (fun i => .int (L.getD i 0))
def Aj (Z : State) (h : Heap) (a : Addr) (ty : FieldType) (n : Nat) (L : List Int64) : Prop := L.length = n ∧ Ai Z h a ty n (fun i => .long (L.getD i 0))
section Lists
variable {h' : Heap} {a b : Addr} {ty : FieldType} {n sl k : Nat} {v : Value} {L : List Int32} {M : List Int64} {ws : List Addr}
theorem Al.lt (A : Al Z h a ty n L) : a < h.size := A.2.lt
theorem Aj.lt (A : Aj Z h a ty n M) : a < h.size := A.2.lt
theorem Al.ext (A : Al Z h a ty n L) (E : Ext h h') : Al Z h' a ty n L := ⟨A.1, A.2.ext E⟩
theorem Aj.ext (A : Aj Z h a ty n M) (E : Ext h h') : Aj Z h' a ty n M := ⟨A.1, A.2.ext E⟩
theorem Al.other (A : Al Z h b ty n L) (W : Wr h h' a sl v) (q : b ≠ a) : Al Z h' b ty n L := ⟨A.1, A.2.other W q⟩
theorem Aj.other (A : Aj Z h b ty n M) (W : Wr h h' a sl v) (q : b ≠ a) : Aj Z h' b ty n M := ⟨A.1, A.2.other W q⟩
theorem Al.keep (A : Al Z h a ty n L) (K : Keep h h' ws) (q : a ∉ ws) : Al Z h' a ty n L := ⟨A.1, A.2.keep K q⟩
theorem Aj.keep (A : Aj Z h a ty n M) (K : Keep h h' ws) (q : a ∉ ws) : Aj Z h' a ty n M := ⟨A.1, A.2.keep K q⟩
theorem Al.new (A : Ai Z h a ty n (fun _ => .int 0)) : Al Z h a ty n (List.replicate n 0) := ⟨by simp, A.fn fun i hi => by simp [List.getD, hi]⟩
theorem Aj.new (A : Ai Z h a ty n (fun _ => .long 0)) : Aj Z h a ty n (List.replicate n 0) := ⟨by simp, A.fn fun i hi => by simp [List.getD, hi]⟩
theorem Al.set (A : Al Z h a ty n L) (B : Ai Z h' a ty n (upd (fun i => .int (L.getD i 0)) k (.int x))) : Al Z h' a ty n (L.set k x) := ⟨by simp [A.1], B.fn fun i hi => by
  by_cases q : i = k
  · subst q; rw [upd_at]; simp [List.getD, A.1, hi]
  · rw [upd_ne _ _ q]; simp [List.getD, List.getElem?_set_ne (Ne.symm q)]⟩
theorem Aj.set (A : Aj Z h a ty n M) (B : Ai Z h' a ty n (upd (fun i => .long (M.getD i 0)) k (.long u))) : Aj Z h' a ty n (M.set k u) := ⟨by simp [A.1], B.fn fun i hi => by
  by_cases q : i = k
  · subst q; rw [upd_at]; simp [List.getD, A.1, hi]
  · rw [upd_ne _ _ q]; simp [List.getD, List.getElem?_set_ne (Ne.symm q)]⟩
end Lists
/-! instanceof, checkcast -/
theorem g_instY {own K : String} {index : Nat} {a : Addr} (X : Stand p l e R s m args below meth c T locs cells slots) (hx : p.tables.exec = Jvm.exec) (hZ : Z.Warmed39 s.vm) (hown : s.vm.findClass own = some m.cls) (wd : (Jvm.Cond.classLink own index K).before a0 Z = true) (eT : T.heap = h) (F : Ins Z h a K true) (hd : decode c.code pc = .ok (.instanceof index, 3)) (hp : pc + 3 = pc')
    (r : ∀ T', Stand p l e R s m args below meth c T' locs cells slots → T'.heap = h → WGo p e below s kc ks Q T' (mkF m pc' Ls (.int 1 :: st))) : WGo p e below s kc ks Q T (mkF m pc Ls (.ref a :: st)) := by
  subst hp
  obtain ⟨T', X', e', k⟩ := instY X hx hZ hown wd eT F (g := mkF m pc Ls (.ref a :: st)) rfl rfl hd
  exact (r T' X' e').go k
theorem g_instN {own K C : String} {index : Nat} {a : Addr} (X : Stand p l e R s m args below meth c T locs cells slots) (hx : p.tables.exec = Jvm.exec) (hZ : Z.Warmed39 s.vm) (hown : s.vm.findClass own = some m.cls) (wd : (Jvm.Cond.classLink own index K).before a0 Z = true) (eT : T.heap = h) (E : Exa Z h a C) (F : ∃ c t, Z.vm.findClass C = some c ∧ Z.vm.findClass K = some t ∧ Z.vm.assignable c t = false) (hd : decode c.code pc = .ok (.instanceof index, 3)) (hp : pc + 3 = pc')
    (r : ∀ T', Stand p l e R s m args below meth c T' locs cells slots → T'.heap = h → WGo p e below s kc ks Q T' (mkF m pc' Ls (.int 0 :: st))) : WGo p e below s kc ks Q T (mkF m pc Ls (.ref a :: st)) := by
  subst hp
  obtain ⟨T', X', e', k⟩ := instNo X hx hZ hown wd eT E F (g := mkF m pc Ls (.ref a :: st)) rfl rfl hd
  exact (r T' X' e').go k
theorem g_inst0 {index : Nat} (X : Stand p l e R s m args below meth c T locs cells slots) (hx : p.tables.exec = Jvm.exec) (hd : decode c.code pc = .ok (.instanceof index, 3)) (hp : pc + 3 = pc') (r : WGo p e below s kc ks Q T (mkF m pc' Ls (.int 0 :: st))) : WGo p e below s kc ks Q T (mkF m pc Ls (.null :: st)) := by
  subst hp; exact r.go fun t k => X.instanceofNull hx (g := mkF m pc Ls (.null :: st)) rfl rfl hd t k
theorem g_castY {own K : String} {index : Nat} {a : Addr} (X : Stand p l e R s m args below meth c T locs cells slots) (hx : p.tables.exec = Jvm.exec) (hZ : Z.Warmed39 s.vm) (hown : s.vm.findClass own = some m.cls) (wd : (Jvm.Cond.classLink own index K).before a0 Z = true) (eT : T.heap = h) (F : Ins Z h a K true) (hd : decode c.code pc = .ok (.checkcast index, 3)) (hp : pc + 3 = pc')
    (r : ∀ T', Stand p l e R s m args below meth c T' locs cells slots → T'.heap = h → WGo p e below s kc ks Q T' (mkF m pc' Ls (.ref a :: st))) : WGo p e below s kc ks Q T (mkF m pc Ls (.ref a :: st)) := by
  subst hp
  obtain ⟨T', X', e', k⟩ := castY X hx hZ hown wd eT F (g := mkF m pc Ls (.ref a :: st)) rfl rfl hd
  exact (r T' X' e').go k
end OwnKit

theorem pd_0 : parseMethodDescriptor "([II)Z" = some ⟨[(.array .int), .int], some .boolean⟩ := by decide +kernel
theorem pd_1 : parseMethodDescriptor "(I)V" = some ⟨[.int], none⟩ := by decide +kernel
theorem pd_2 : parseMethodDescriptor "([II)V" = some ⟨[(.array .int), .int], none⟩ := by decide +kernel
theorem pd_3 : parseMethodDescriptor "()I" = some ⟨[], some .int⟩ := by decide +kernel
theorem pd_4 : parseMethodDescriptor "([I)I" = some ⟨[(.array .int)], some .int⟩ := by decide +kernel
theorem pd_5 : parseMethodDescriptor "(Lcom/example/storewatch/storewatch/graph/NodeQueue;[IIZI)Z" = some ⟨[(.object "com/example/storewatch/storewatch/graph/NodeQueue"), (.array .int), .int, .boolean, .int], some .boolean⟩ := by decide +kernel
theorem pd_6 : parseMethodDescriptor "()V" = some ⟨[], none⟩ := by decide +kernel

def rings : List (List Int32) := [[], [0], [1], [2], [3], [0, 1], [0, 2], [0, 3], [1, 0], [1, 2], [1, 3], [2, 0], [2, 1], [2, 3], [3, 0], [3, 1], [3, 2], [0, 1, 2], [0, 1, 3], [0, 2, 1], [0, 2, 3], [0, 3, 1], [0, 3, 2], [1, 0, 2], [1, 0, 3], [1, 2, 0], [1, 2, 3], [1, 3, 0], [1, 3, 2], [2, 0, 1], [2, 0, 3], [2, 1, 0], [2, 1, 3], [2, 3, 0], [2, 3, 1], [3, 0, 1], [3, 0, 2], [3, 1, 0], [3, 1, 2], [3, 2, 0], [3, 2, 1], [0, 1, 2, 3], [0, 1, 3, 2], [0, 2, 1, 3], [0, 2, 3, 1], [0, 3, 1, 2], [0, 3, 2, 1], [1, 0, 2, 3], [1, 0, 3, 2], [1, 2, 0, 3], [1, 2, 3, 0], [1, 3, 0, 2], [1, 3, 2, 0], [2, 0, 1, 3], [2, 0, 3, 1], [2, 1, 0, 3], [2, 1, 3, 0], [2, 3, 0, 1], [2, 3, 1, 0], [3, 0, 1, 2], [3, 0, 2, 1], [3, 1, 0, 2], [3, 1, 2, 0], [3, 2, 0, 1], [3, 2, 1, 0]]
def NSS : List (Nat × Int32) := [(0, 0), (1, 1), (2, 2), (3, 3), (4, 4)]
def EVS : List Int32 := [0, 1, 2, 3, 4]
def HDS : List Int32 := [0, 1, 2, 3]
def evl (nI ev : Int32) : List Int32 := HDS.filter (fun x => decide (¬ x < ev ∧ x < nI))
def rok (ev : Int32) (ring : List Int32) : Bool := ring.all (fun x => decide (x < ev))
def qOf (n : Nat) (ring : List Int32) : List Int32 := (HDS.take n).map (fun x => if ring.contains x then 1 else 0)
def lenI (l : List Int32) : Int32 := Nat.toInt32 l.length
def addP (P : List Int32) (x : Int32) : List Int32 := if P.contains x then P else P ++ [x]
def NInv (n : Nat) (nI : Int32) (L M : List Int32) (hd ct ev : Int32) (P : List Int32) : Prop :=
  ∃ ring : List Int32, (n, nI) ∈ NSS ∧ ev ∈ EVS ∧ (¬ nI < ev) ∧ hd ∈ HDS ∧ (hd < nI ∨ nI = 0) ∧ ring ∈ rings ∧ rok ev ring = true ∧ ct = lenI ring ∧ M = qOf n ring ∧ L.length = n ∧ P = evl nI ev ++ ring ∧ ∀ i, i < ring.length → L.getD ((hd.toNatClampNeg + i) % n) 0 = ring.getD i 0
def k1 (a : Nat × Int32) (ev : Int32) (ring : List Int32) : Bool := !(decide (ev < a.2)) || !(rok ev ring) || (((evl a.2 ev ++ ring).headD (-1) == (ev + 1) - 1) && ((evl a.2 ev ++ ring).tail == evl a.2 (ev + 1) ++ ring) && rok (ev + 1) ring && EVS.contains (ev + 1) && !(decide (a.2 < ev + 1)))
theorem k1_all : (NSS.all fun a => EVS.all fun ev => rings.all fun ring => k1 a ev ring) = true := by decide +kernel
def k2 (a : Nat × Int32) (ev : Int32) (ring : List Int32) : Bool := decide (ev < a.2) || decide (a.2 < ev) || !(rok ev ring) || ((evl a.2 ev == []) && (match ring with
  | [] => lenI ring == 0
  | r :: rs => !(lenI ring == 0) && rings.contains rs && rok ev rs && (lenI ring - 1 == lenI rs) && ((qOf a.1 ring).set r.toNatClampNeg (nar .boolean 0) == qOf a.1 rs) && !(decide (r < 0)) && decide (r.toNatClampNeg < a.1) && decide ((0 : Int32) < a.2)))
theorem k2_all : (NSS.all fun a => EVS.all fun ev => rings.all fun ring => k2 a ev ring) = true := by decide +kernel
def k3 (a : Nat × Int32) (hd : Int32) : Bool := !(decide (hd < a.2)) || (!(decide (hd < 0)) && decide (hd.toNatClampNeg < a.1) && (if hd + 1 < a.2 then HDS.contains (hd + 1) && ((hd + 1).toNatClampNeg == (hd.toNatClampNeg + 1) % a.1) else ((0 : Int32).toNatClampNeg == (hd.toNatClampNeg + 1) % a.1)) && HDS.contains 0 && decide ((0 : Int32) < a.2))
theorem k3_all : (NSS.all fun a => HDS.all fun hd => k3 a hd) = true := by decide +kernel
def k4 (a : Nat × Int32) (ev : Int32) (ring : List Int32) (x : Int32) : Bool := decide (a.2 < ev) || !(rok ev ring) || !(decide (x < a.2)) || (!(decide (x < 0)) && decide (x.toNatClampNeg < a.1) &&
  (if (qOf a.1 ring).getD x.toNatClampNeg 0 = 0 then (if x < ev then (!((evl a.2 ev ++ ring).contains x) && rings.contains (ring ++ [x]) && rok ev (ring ++ [x]) && (lenI ring + 1 == lenI (ring ++ [x])) && decide (ring.length < a.1) && ((qOf a.1 ring).set x.toNatClampNeg (nar .boolean 1) == qOf a.1 (ring ++ [x])) && decide ((evl a.2 ev ++ ring).length < a.1)) else (evl a.2 ev ++ ring).contains x) else (evl a.2 ev ++ ring).contains x))
theorem k4_all : (NSS.all fun a => EVS.all fun ev => rings.all fun ring => HDS.all fun x => k4 a ev ring x) = true := by decide +kernel
def k5 (a : Nat × Int32) (hd : Int32) (j : Nat) : Bool := !(decide (hd < a.2)) || !(decide (j < a.1)) || (if Nat.toInt32 j < a.2 - hd then (!(decide (hd + Nat.toInt32 j < 0)) && ((hd + Nat.toInt32 j).toNatClampNeg == (hd.toNatClampNeg + j) % a.1)) else (!(decide (Nat.toInt32 j - (a.2 - hd) < 0)) && ((Nat.toInt32 j - (a.2 - hd)).toNatClampNeg == (hd.toNatClampNeg + j) % a.1)))
theorem k5_all : (NSS.all fun a => HDS.all fun hd => (List.range 4).all fun j => k5 a hd j) = true := by decide +kernel
theorem nss_le {n : Nat} {nI : Int32} (h : (n, nI) ∈ NSS) : n ≤ 4 := by
  have q : (NSS.all fun a => decide (a.1 ≤ 4)) = true := by decide +kernel
  exact of_decide_eq_true (List.all_eq_true.mp q _ h)
theorem np1 {n : Nat} {nI : Int32} {L M : List Int32} {hd ct ev : Int32} {P : List Int32} (I : NInv n nI L M hd ct ev P) (h : ev < nI) : P.headD (-1) = (ev + (1 : Int32)) - (1 : Int32) ∧ NInv n nI L M hd ct (ev + (1 : Int32)) P.tail := by
  obtain ⟨ring, a1, a2, a3, a4, a5, a6, a7, rfl, rfl, a9, rfl, a10⟩ := I
  have q := List.all_eq_true.mp (List.all_eq_true.mp (List.all_eq_true.mp k1_all _ a1) _ a2) _ a6
  simp only [k1, h, a7, decide_true, Bool.not_true, Bool.false_or, Bool.and_eq_true, beq_iff_eq, Bool.not_eq_true', decide_eq_false_iff_not, List.contains_iff_mem] at q
  obtain ⟨⟨⟨⟨q1, q2⟩, q3⟩, q4⟩, q5⟩ := q
  exact ⟨q1, ring, a1, q4, q5, a4, a5, a6, q3, rfl, rfl, a9, q2, a10⟩
theorem np2 {n : Nat} {nI : Int32} {L M : List Int32} {hd ct ev : Int32} {P : List Int32} (I : NInv n nI L M hd ct ev P) (h : ¬ ev < nI) (h0 : ct = 0) : P.headD (-1) = -1 ∧ NInv n nI L M hd ct ev P.tail := by
  have I' := I
  obtain ⟨ring, a1, a2, a3, a4, a5, a6, a7, rfl, rfl, a9, rfl, a10⟩ := I
  have q := List.all_eq_true.mp (List.all_eq_true.mp (List.all_eq_true.mp k2_all _ a1) _ a2) _ a6
  cases ring with
  | nil =>
    simp only [k2, h, a3, a7, decide_false, Bool.not_true, Bool.false_or, Bool.and_eq_true, beq_iff_eq] at q
    have e : evl nI ev ++ [] = [] := by rw [q.1]; rfl
    rw [e] at I' ⊢
    exact ⟨rfl, I'⟩
  | cons r rs =>
    exfalso
    simp only [k2, h, a3, a7, decide_false, Bool.not_true, Bool.false_or, Bool.and_eq_true, Bool.not_eq_true', beq_eq_false_iff_ne] at q
    exact q.2.1.1.1.1.1.1.1 h0
theorem np3 {n : Nat} {nI : Int32} {L M : List Int32} {hd ct ev : Int32} {P : List Int32} (I : NInv n nI L M hd ct ev P) (h : ¬ ev < nI) (h0 : ¬ ct = 0) : (¬ hd < 0) ∧ hd.toNatClampNeg < n ∧ (¬ L.getD hd.toNatClampNeg 0 < 0) ∧ (L.getD hd.toNatClampNeg 0).toNatClampNeg < n ∧ P.headD (-1) = L.getD hd.toNatClampNeg 0 ∧
    (∀ hd' : Int32, (hd + (1 : Int32) < nI → hd' = hd + (1 : Int32)) → ((¬ hd + (1 : Int32) < nI) → hd' = 0) → NInv n nI L (M.set (L.getD hd.toNatClampNeg 0).toNatClampNeg (nar .boolean (0 : Int32))) hd' (ct - (1 : Int32)) ev P.tail) := by
  obtain ⟨ring, a1, a2, a3, a4, a5, a6, a7, rfl, rfl, a9, rfl, a10⟩ := I
  have q := List.all_eq_true.mp (List.all_eq_true.mp (List.all_eq_true.mp k2_all _ a1) _ a2) _ a6
  have w := List.all_eq_true.mp (List.all_eq_true.mp k3_all _ a1) _ a4
  cases ring with
  | nil => exact absurd rfl h0
  | cons r rs =>
    simp only [k2, h, a3, a7, decide_false, Bool.not_true, Bool.false_or, Bool.and_eq_true, Bool.not_eq_true', beq_eq_false_iff_ne, beq_iff_eq, decide_eq_false_iff_not, decide_eq_true_eq, List.contains_iff_mem] at q
    obtain ⟨q0, ⟨⟨⟨⟨⟨⟨⟨q1, q2⟩, q3⟩, q4⟩, q5⟩, q6⟩, q7⟩, q8⟩⟩ := q
    have a5 : hd < nI := a5.resolve_right fun z => by rw [z] at q8; exact absurd q8 (by decide)
    simp only [k3, a5, decide_true, Bool.not_true, Bool.false_or, Bool.and_eq_true, Bool.not_eq_true', decide_eq_false_iff_not, decide_eq_true_eq, List.contains_iff_mem] at w
    obtain ⟨⟨⟨⟨w1, w2⟩, w3⟩, w4⟩, w5⟩ := w
    have e0 : L.getD hd.toNatClampNeg 0 = r := by
      have z := a10 0 (by simp)
      rw [Nat.add_zero, Nat.mod_eq_of_lt w2] at z
      exact z
    rw [e0]
    have ep : evl nI ev ++ r :: rs = r :: rs := by rw [q0]; rfl
    rw [ep]
    refine ⟨w1, w2, q6, q7, rfl, fun hd' g1 g2 => ?_⟩
    have hh : hd' ∈ HDS ∧ hd' < nI ∧ hd'.toNatClampNeg = (hd.toNatClampNeg + 1) % n := by
      by_cases z : hd + 1 < nI
      · rw [if_pos z] at w3
        simp only [Bool.and_eq_true, beq_iff_eq, List.contains_iff_mem] at w3
        rw [g1 z]; exact ⟨w3.1, z, w3.2⟩
      · rw [if_neg z] at w3
        simp only [beq_iff_eq] at w3
        rw [g2 z]; exact ⟨w4, w5, w3⟩
    refine ⟨rs, a1, a2, a3, hh.1, Or.inl hh.2.1, q2, q3, q4, q5, a9, by rw [q0]; rfl, fun i hi => ?_⟩
    have z := a10 (i + 1) (by simpa using hi)
    rw [hh.2.2, Nat.mod_add_mod]
    rw [show hd.toNatClampNeg + 1 + i = hd.toNatClampNeg + (i + 1) from by omega]
    simpa using z
theorem na_all {n : Nat} {nI : Int32} {L M : List Int32} {hd ct ev x : Int32} {P : List Int32} (I : NInv n nI L M hd ct ev P) (hx : x ∈ HDS) (hl : x < nI) : (¬ x < 0) ∧ x.toNatClampNeg < n ∧ ((¬ M.getD x.toNatClampNeg 0 = 0) → addP P x = P) ∧ ((¬ x < ev) → addP P x = P) ∧ (P.contains x = true ∨ P.length < n) := by
  obtain ⟨ring, a1, a2, a3, a4, a5, a6, a7, rfl, rfl, a9, rfl, a10⟩ := I
  have q := List.all_eq_true.mp (List.all_eq_true.mp (List.all_eq_true.mp (List.all_eq_true.mp k4_all _ a1) _ a2) _ a6) _ hx
  simp only [k4, a3, a7, hl, decide_false, decide_true, Bool.not_true, Bool.false_or, Bool.and_eq_true, Bool.not_eq_true', decide_eq_false_iff_not, decide_eq_true_eq] at q
  obtain ⟨⟨q1, q2⟩, q3⟩ := q
  refine ⟨q1, q2, fun z => ?_, fun z => ?_, ?_⟩
  · rw [if_neg z] at q3; exact if_pos q3
  · by_cases w : (qOf n ring).getD x.toNatClampNeg 0 = 0
    · rw [if_pos w, if_neg z] at q3; exact if_pos q3
    · rw [if_neg w] at q3; exact if_pos q3
  · by_cases w : (qOf n ring).getD x.toNatClampNeg 0 = 0
    · rw [if_pos w] at q3
      by_cases z : x < ev
      · rw [if_pos z] at q3; simp only [Bool.and_eq_true, decide_eq_true_eq] at q3; exact Or.inr q3.2
      · rw [if_neg z] at q3; exact Or.inl q3
    · rw [if_neg w] at q3; exact Or.inl q3
theorem mod_ne {n h i j : Nat} (hn : n ≤ 4) (hi : i < j) (hj : j < n) : (h + i) % n ≠ (h + j) % n := by
  match n, hn with
  | 0, _ => omega
  | 1, _ => omega
  | 2, _ => omega
  | 3, _ => omega
  | 4, _ => omega
theorem na3 {n : Nat} {nI : Int32} {L M : List Int32} {hd ct ev x : Int32} {P : List Int32} (I : NInv n nI L M hd ct ev P) (hx : x ∈ HDS) (hl : x < nI) (h1 : M.getD x.toNatClampNeg 0 = 0) (h2 : x < ev) (j : Int32) (g1 : ct < nI - hd → j = hd + ct) (g2 : (¬ ct < nI - hd) → j = ct - (nI - hd)) :
    (¬ j < 0) ∧ j.toNatClampNeg < n ∧ NInv n nI (L.set j.toNatClampNeg x) (M.set x.toNatClampNeg (nar .boolean (1 : Int32))) hd (ct + (1 : Int32)) ev (addP P x) := by
  obtain ⟨ring, a1, a2, a3, a4, a5, a6, a7, rfl, rfl, a9, rfl, a10⟩ := I
  have q := List.all_eq_true.mp (List.all_eq_true.mp (List.all_eq_true.mp (List.all_eq_true.mp k4_all _ a1) _ a2) _ a6) _ hx
  simp only [k4, a3, a7, hl, h1, h2, decide_false, decide_true, Bool.not_true, Bool.false_or, Bool.and_eq_true, Bool.not_eq_true', decide_eq_false_iff_not, decide_eq_true_eq, if_true, beq_iff_eq, List.contains_iff_mem] at q
  obtain ⟨⟨q1, q2⟩, ⟨⟨⟨⟨⟨⟨q3, q4⟩, q5⟩, q6⟩, q7⟩, q8⟩, q9⟩⟩ := q
  have n4 := nss_le a1
  have hlt : hd < nI := a5.resolve_right fun z => by
    have w0 : (NSS.all fun a => decide (a.2 = 0) == decide (a.1 = 0)) = true := by decide +kernel
    have w1 := List.all_eq_true.mp w0 _ a1
    simp only [z, decide_true, beq_iff_eq] at w1
    have w2 : n = 0 := of_decide_eq_true w1.symm
    omega
  have w := List.all_eq_true.mp (List.all_eq_true.mp (List.all_eq_true.mp k5_all _ a1) _ a4) ring.length (List.mem_range.mpr (by omega))
  simp only [k5, hlt, q7, decide_true, Bool.not_true, Bool.false_or] at w
  have hj : (¬ j < 0) ∧ j.toNatClampNeg = (hd.toNatClampNeg + ring.length) % n := by
    by_cases z : lenI ring < nI - hd
    · rw [if_pos (show Nat.toInt32 ring.length < nI - hd from z)] at w
      simp only [Bool.and_eq_true, Bool.not_eq_true', decide_eq_false_iff_not, beq_iff_eq] at w
      rw [g1 z]; exact w
    · rw [if_neg (show ¬ Nat.toInt32 ring.length < nI - hd from z)] at w
      simp only [Bool.and_eq_true, Bool.not_eq_true', decide_eq_false_iff_not, beq_iff_eq] at w
      rw [g2 z]; exact w
  refine ⟨hj.1, by rw [hj.2]; exact Nat.mod_lt _ (by omega), ring ++ [x], a1, a2, a3, a4, Or.inl hlt, q4, q5, q6, q8, by simp [a9], ?_, fun i hi => ?_⟩
  · have e : (evl nI ev ++ ring).contains x = false := q3
    show (if (evl nI ev ++ ring).contains x = true then _ else _) = _
    rw [e]; simp
  · rw [hj.2]
    simp only [List.length_append, List.length_cons, List.length_nil] at hi
    by_cases z : i < ring.length
    · have y := mod_ne (h := hd.toNatClampNeg) n4 z q7
      have u := a10 i z
      simp only [List.getD, List.getElem?_set_ne (Ne.symm y)] at u ⊢
      rw [u, List.getElem?_append_left z]
    · obtain rfl : i = ring.length := by omega
      have y : (hd.toNatClampNeg + ring.length) % n < L.length := by rw [a9]; exact Nat.mod_lt _ (by omega)
      simp [List.getD, y]
theorem ninv0 {n : Nat} {nI : Int32} (h : (n, nI) ∈ NSS) : NInv n nI (List.replicate n 0) (List.replicate n 0) 0 0 nI [] := by
  have w : (NSS.all fun a => EVS.contains a.2 && !(decide (a.2 < a.2)) && (decide ((0 : Int32) < a.2) || decide (a.2 = 0)) && (List.replicate a.1 0 == qOf a.1 []) && (evl a.2 a.2 == [])) = true := by decide +kernel
  have q := List.all_eq_true.mp w _ h
  simp only [Bool.and_eq_true, Bool.or_eq_true, Bool.not_eq_true', decide_eq_false_iff_not, decide_eq_true_eq, beq_iff_eq, List.contains_iff_mem] at q
  obtain ⟨⟨⟨⟨q1, q2⟩, q3⟩, q4⟩, q5⟩ := q
  exact ⟨[], h, q1, q2, by decide, q3, by decide, rfl, rfl, q4, by simp, by rw [q5]; rfl, fun i hi => absurd hi (Nat.not_lt_zero _)⟩
theorem ninvE {n : Nat} {nI : Int32} {L M : List Int32} {hd : Int32} (I : NInv n nI L M hd 0 nI []) : NInv n nI L M hd 0 0 (evl nI 0) := by
  obtain ⟨ring, a1, a2, a3, a4, a5, a6, a7, a8, a8', a9, a11, a10⟩ := I
  have e : ring = [] := (List.append_eq_nil_iff.mp a11.symm).2
  subst e
  have w : (NSS.all fun a => !(decide (a.2 < 0))) = true := by decide +kernel
  have q := List.all_eq_true.mp w _ a1
  simp only [Bool.not_eq_true', decide_eq_false_iff_not] at q
  exact ⟨[], a1, by decide, q, a4, a5, a6, rfl, a8, a8', a9, by simp, a10⟩
theorem ninv_len {n : Nat} {nI : Int32} {L M : List Int32} {hd ct ev : Int32} {P : List Int32} (I : NInv n nI L M hd ct ev P) : (n, nI) ∈ NSS := I.elim fun _ h => h.1

def MI (s0 s1 s2 s3 s4 : Int32) (P : List Int32) : Prop := (s4 = 0 ∧ P = []) ∨ (s4 = 1 ∧ P = [s0]) ∨ (s4 = 2 ∧ P = [s0, s1]) ∨ (s4 = 3 ∧ P = [s0, s1, s2]) ∨ (s4 = 4 ∧ P = [s0, s1, s2, s3])
def addM (P : List Int32) (x : Int32) : List Int32 := if P.contains x then P else if P.length < 4 then P ++ [x] else P
theorem add_same {n : Nat} {nI : Int32} {L M : List Int32} {hd ct ev x : Int32} {P : List Int32} (I : NInv n nI L M hd ct ev P) (hx : x ∈ HDS) (hl : x < nI) : addP P x = addM P x := by
  obtain ⟨-, -, -, -, q⟩ := na_all I hx hl
  have n4 := nss_le (ninv_len I)
  unfold addP addM
  rcases q with q | q
  · rw [if_pos q, if_pos q]
  · by_cases z : P.contains x = true
    · rw [if_pos z, if_pos z]
    · rw [if_neg z, if_neg z, if_pos (by omega)]
theorem small {z : Int32} {k : Int} (h0 : 0 ≤ z.toInt) (h : z.toInt < 4) : z ∈ HDS := by
  have r : z.toInt = 0 ∨ z.toInt = 1 ∨ z.toInt = 2 ∨ z.toInt = 3 := by omega
  rcases r with r | r | r | r
  · have e : z = 0 := Int32.toInt_inj.mp (by rw [r]; rfl)
    subst e; decide
  · have e : z = 1 := Int32.toInt_inj.mp (by rw [r]; rfl)
    subst e; decide
  · have e : z = 2 := Int32.toInt_inj.mp (by rw [r]; rfl)
    subst e; decide
  · have e : z = 3 := Int32.toInt_inj.mp (by rw [r]; rfl)
    subst e; decide
theorem nss_int {n : Nat} {nI : Int32} (h : (n, nI) ∈ NSS) : 0 ≤ nI.toInt ∧ nI.toInt ≤ 4 ∧ Nat.toInt32 n = nI ∧ ¬ nI < 0 ∧ nI.toNatClampNeg = n ∧ nI.toNatClampNeg ≤ 4 := by
  have w : (NSS.all fun a => decide (0 ≤ a.2.toInt ∧ a.2.toInt ≤ 4 ∧ Nat.toInt32 a.1 = a.2 ∧ ¬ a.2 < 0 ∧ a.2.toNatClampNeg = a.1 ∧ a.2.toNatClampNeg ≤ 4)) = true := by decide +kernel
  exact of_decide_eq_true (List.all_eq_true.mp w _ h)
theorem node_ok {n : Nat} {nI : Int32} (h : (n, nI) ∈ NSS) (q : (0 : Int32) < nI) (y : Int32) : (y &&& (15 : Int32)) % nI ∈ HDS ∧ (y &&& (15 : Int32)) % nI < nI := by
  have a := c_and y 15 (by decide)
  have b := (c_iremV (y &&& (15 : Int32)) nI).1 a.1
  have w := nss_int h
  rw [Int32.lt_iff_toInt_lt] at q
  simp only [Int32.reduceToInt] at *
  have b' := b (by omega)
  exact ⟨small (k := 0) b'.1 (by omega), by rw [Int32.lt_iff_toInt_lt]; omega⟩
theorem n_ok (y : Int32) : ((((y &&& (2147483647 : Int32)) % (5 : Int32)).toNatClampNeg, (y &&& (2147483647 : Int32)) % (5 : Int32)) : Nat × Int32) ∈ NSS := by
  have a := c_and y 2147483647 (by decide)
  have b := (c_irem (y &&& (2147483647 : Int32)) (5 : Int32) 5 (by decide)).1 a.1
  generalize (y &&& (2147483647 : Int32)) % (5 : Int32) = z at *
  have r : z.toInt = 0 ∨ z.toInt = 1 ∨ z.toInt = 2 ∨ z.toInt = 3 ∨ z.toInt = 4 := by omega
  rcases r with r | r | r | r | r
  · have e : z = 0 := Int32.toInt_inj.mp (by rw [r]; rfl)
    subst e; decide
  · have e : z = 1 := Int32.toInt_inj.mp (by rw [r]; rfl)
    subst e; decide
  · have e : z = 2 := Int32.toInt_inj.mp (by rw [r]; rfl)
    subst e; decide
  · have e : z = 3 := Int32.toInt_inj.mp (by rw [r]; rfl)
    subst e; decide
  · have e : z = 4 := Int32.toInt_inj.mp (by rw [r]; rfl)
    subst e; decide
theorem mi_all {n : Nat} {nI : Int32} (h : (n, nI) ∈ NSS) : MI 0 1 2 3 nI (evl nI 0) := by
  simp only [NSS, List.mem_cons, List.not_mem_nil, or_false, Prod.mk.injEq] at h
  rcases h with ⟨-, rfl⟩ | ⟨-, rfl⟩ | ⟨-, rfl⟩ | ⟨-, rfl⟩ | ⟨-, rfl⟩
  · exact Or.inl ⟨rfl, by decide⟩
  · exact Or.inr (Or.inl ⟨rfl, by decide⟩)
  · exact Or.inr (Or.inr (Or.inl ⟨rfl, by decide⟩))
  · exact Or.inr (Or.inr (Or.inr (Or.inl ⟨rfl, by decide⟩)))
  · exact Or.inr (Or.inr (Or.inr (Or.inr ⟨rfl, by decide⟩)))

theorem d1_0 : decode prog_127_method_1_code 0 = .ok (.aload_n 0, 1) := by decide +kernel
theorem d1_1 : decode prog_127_method_1_code 1 = .ok (.invokespecial 1, 3) := by decide +kernel
theorem d1_4 : decode prog_127_method_1_code 4 = .ok (.aload_n 0, 1) := by decide +kernel
theorem d1_5 : decode prog_127_method_1_code 5 = .ok (.iload_n 1, 1) := by decide +kernel
theorem d1_6 : decode prog_127_method_1_code 6 = .ok (.newarray .int, 2) := by decide +kernel
theorem d1_8 : decode prog_127_method_1_code 8 = .ok (.putfield 7, 3) := by decide +kernel
theorem d1_11 : decode prog_127_method_1_code 11 = .ok (.aload_n 0, 1) := by decide +kernel
theorem d1_12 : decode prog_127_method_1_code 12 = .ok (.iload_n 1, 1) := by decide +kernel
theorem d1_13 : decode prog_127_method_1_code 13 = .ok (.newarray .boolean, 2) := by decide +kernel
theorem d1_15 : decode prog_127_method_1_code 15 = .ok (.putfield 13, 3) := by decide +kernel
theorem d1_18 : decode prog_127_method_1_code 18 = .ok (.aload_n 0, 1) := by decide +kernel
theorem d1_19 : decode prog_127_method_1_code 19 = .ok (.iload_n 1, 1) := by decide +kernel
theorem d1_20 : decode prog_127_method_1_code 20 = .ok (.putfield 17, 3) := by decide +kernel
theorem d1_23 : decode prog_127_method_1_code 23 = .ok (.return_, 1) := by decide +kernel
theorem pl_1 : plainFor (⟨"com/example/storewatch/storewatch/graph/NodeQueue", "<init>", "(I)V"⟩ : MethodName) = true := plainFor_of_name (by first | (simp [plainName, overriddenIn]; done) | decide +kernel)
theorem ef_rmI (m : MethodId) (z0 : Addr) (z1 : Int32) : entryFrame m #[(.ref z0), (.int z1)] 2 = mkF m 0 #[.val (.ref z0), .val (.int z1)] [] := by first | (simp [entryFrame, mkF, argsToLocals, Value.category]; done) | rfl
set_option maxRecDepth 65536 in
set_option maxHeartbeats 40000000 in
theorem rmI (l : Launch) (Z : State) (a0 : Array Value) (hw : ∀ d ∈ tables_1, d.before a0 Z = true) (q : Addr) (n : Nat) (nI : Int32) (h0 : Heap) (n0 : Nat) (Zn : n0 ≤ h0.size) (E_q : Exa Z h0 q "com/example/storewatch/storewatch/graph/NodeQueue") (F_q_nodes : Fld Z h0 q "com/example/storewatch/storewatch/graph/NodeQueue" "nodes" "[I" .null) (F_q_queued : Fld Z h0 q "com/example/storewatch/storewatch/graph/NodeQueue" "queued" "[Z" .null) (F_q_head : Fld Z h0 q "com/example/storewatch/storewatch/graph/NodeQueue" "head" "I" (.int (0 : Int32))) (F_q_count : Fld Z h0 q "com/example/storewatch/storewatch/graph/NodeQueue" "count" "I" (.int (0 : Int32))) (F_q_everyFrom : Fld Z h0 q "com/example/storewatch/storewatch/graph/NodeQueue" "everyFrom" "I" (.int (0 : Int32))) (g_q : n0 ≤ q) (h0n : ¬ nI < 0) (hnn : nI.toNatClampNeg = n) (hn4 : nI.toNatClampNeg ≤ 4) :
    WCt l Z (⟨"com/example/storewatch/storewatch/graph/NodeQueue", "<init>", "(I)V"⟩ : MethodName) prog_127_method_1_code 2 none ({ frames := 1, cells := 2, slots := 8, locals := 14 } : Room) #[(.ref q), (.int nI)] h0 (fun vv hh LL => ∃ (r1 : Addr) (r2 : Addr), (vv = none) ∧ (Fr n0 LL) ∧ (Keep h0 hh [q]) ∧ (Fld Z hh q "com/example/storewatch/storewatch/graph/NodeQueue" "nodes" "[I" (.ref r1)) ∧ (Fld Z hh q "com/example/storewatch/storewatch/graph/NodeQueue" "queued" "[Z" (.ref r2)) ∧ (Fld Z hh q "com/example/storewatch/storewatch/graph/NodeQueue" "head" "I" (.int (0 : Int32))) ∧ (Fld Z hh q "com/example/storewatch/storewatch/graph/NodeQueue" "count" "I" (.int (0 : Int32))) ∧ (Fld Z hh q "com/example/storewatch/storewatch/graph/NodeQueue" "everyFrom" "I" (.int nI)) ∧ (Al Z hh r1 .int n (List.replicate n 0)) ∧ (Al Z hh r2 .boolean n (List.replicate n 0)) ∧ (q ≠ r1) ∧ (q ≠ r2) ∧ (r1 ≠ r2) ∧ (n0 ≤ r1) ∧ (n0 ≤ r2) ∧ (h0.size ≤ r1) ∧ (h0.size ≤ r2)) := by
  refine WCt.of pl_1 ?_
  intro p e s m below meth c T hx hby hml hown hnm hret hlk hZ hh0 X eT
  have hown : s.vm.findClass "com/example/storewatch/storewatch/graph/NodeQueue" = some m.cls := hown
  have hnm : meth.name = "<init>" := hnm
  have N := Fr.nil n0
  obtain ⟨h, eh⟩ : ∃ h, h = h0 := ⟨_, rfl⟩
  have K : Keep h0 h [q] := by rw [eh]; exact Keep.refl _ _
  refine WGo.cast (ef_rmI m q nI) ?_
  rw [← eh] at eT Zn E_q F_q_nodes F_q_queued F_q_head F_q_count F_q_everyFrom
  refine g_aloadN X hx (hb hby d1_0) rfl rfl (pc' := 1) rfl ?_
  refine g_move (initO (W := 0) X hx hZ hown (hw _ (List.mem_of_getElem? (i := 8) rfl)) (hw _ (List.mem_of_getElem? (i := 9) rfl)) (hw _ (List.mem_of_getElem? (i := 10) rfl)) eT (g := (mkF m 1 #[.val (.ref q), .val (.int nI)] [(.ref q)])) rfl (by rw [hml]; rfl) rfl (hb hby d1_1) (by decide) (Nat.le_of_eq rfl) (by decide)) (fun T X eT => ?_)
  show WGo _ _ _ _ _ _ _ _ (mkF m 4 #[.val (.ref q), .val (.int nI)] [])
  refine g_aloadN X hx (hb hby d1_4) rfl rfl (pc' := 5) rfl ?_
  refine g_iloadN X hx (hb hby d1_5) rfl (pc' := 6) rfl ?_
  refine g_newP (cap := 4) X hx hZ (hw _ (List.mem_of_getElem? (i := 1) rfl)) eT (hb hby d1_6) h0n hn4 (by decide) (by decide) (by decide) (pc' := 8) rfl (fun T h r1 ha X eT Ex A_r1 => ?_)
  have g_r1 : n0 ≤ r1 := by rw [ha]; exact Zn
  have sz_r1 : h0.size ≤ r1 := by rw [ha]; exact K.1
  have ne_q_r1 : q ≠ r1 := by rw [ha]; exact Nat.ne_of_lt F_q_nodes.lt
  replace F_q_nodes := F_q_nodes.ext Ex
  replace F_q_queued := F_q_queued.ext Ex
  replace F_q_head := F_q_head.ext Ex
  replace F_q_count := F_q_count.ext Ex
  replace F_q_everyFrom := F_q_everyFrom.ext Ex
  replace E_q := E_q.ext Ex
  replace Zn := Nat.le_trans Zn Ex.1
  replace K := K.ext Ex
  replace A_r1 : Al Z h r1 .int n (List.replicate n 0) := Al.new (by rw [← hnn]; exact A_r1)
  refine g_putF X hx hZ hown (hw _ (List.mem_of_getElem? (i := 11) rfl)) eT F_q_nodes E_q (Or.inr ⟨(hw _ (List.mem_of_getElem? (i := 12) rfl)), rfl, hnm⟩) (hw _ (List.mem_of_getElem? (i := 3) rfl)) (ty := (.array .int)) (by decide) rfl rfl (hb hby d1_8) (pc' := 11) rfl (fun T h X eT W => ?_)
  replace F_q_nodes := F_q_nodes.same W
  replace F_q_queued := F_q_queued.other W (Or.inr (slot_ne (t := (.array .boolean)) (t' := (.array .int)) (Or.inr (hw _ (List.mem_of_getElem? (i := 15) rfl))) (Or.inr (hw _ (List.mem_of_getElem? (i := 12) rfl))) (by decide) (by decide) (by decide)))
  replace F_q_head := F_q_head.other W (Or.inr (slot_ne (t := .int) (t' := (.array .int)) (Or.inl (hw _ (List.mem_of_getElem? (i := 38) rfl))) (Or.inr (hw _ (List.mem_of_getElem? (i := 12) rfl))) (by decide) (by decide) (by decide)))
  replace F_q_count := F_q_count.other W (Or.inr (slot_ne (t := .int) (t' := (.array .int)) (Or.inl (hw _ (List.mem_of_getElem? (i := 28) rfl))) (Or.inr (hw _ (List.mem_of_getElem? (i := 12) rfl))) (by decide) (by decide) (by decide)))
  replace F_q_everyFrom := F_q_everyFrom.other W (Or.inr (slot_ne (t := .int) (t' := (.array .int)) (Or.inl (hw _ (List.mem_of_getElem? (i := 17) rfl))) (Or.inr (hw _ (List.mem_of_getElem? (i := 12) rfl))) (by decide) (by decide) (by decide)))
  replace E_q := E_q.wr W
  replace A_r1 := A_r1.other W (Ne.symm ne_q_r1)
  replace N := Fr.snoc X N g_q
  replace Zn := Nat.le_trans Zn (Nat.le_of_eq W.size.symm)
  replace K := K.wr W (Or.inl (List.mem_of_getElem? (i := 0) rfl))
  refine g_aloadN X hx (hb hby d1_11) rfl rfl (pc' := 12) rfl ?_
  refine g_iloadN X hx (hb hby d1_12) rfl (pc' := 13) rfl ?_
  refine g_newP (cap := 4) X hx hZ (hw _ (List.mem_of_getElem? (i := 13) rfl)) eT (hb hby d1_13) h0n hn4 (by decide) (by decide) (by decide) (pc' := 15) rfl (fun T h r2 ha X eT Ex A_r2 => ?_)
  have g_r2 : n0 ≤ r2 := by rw [ha]; exact Zn
  have sz_r2 : h0.size ≤ r2 := by rw [ha]; exact K.1
  have ne_q_r2 : q ≠ r2 := by rw [ha]; exact Nat.ne_of_lt F_q_nodes.lt
  have ne_r1_r2 : r1 ≠ r2 := by rw [ha]; exact Nat.ne_of_lt A_r1.lt
  replace F_q_nodes := F_q_nodes.ext Ex
  replace F_q_queued := F_q_queued.ext Ex
  replace F_q_head := F_q_head.ext Ex
  replace F_q_count := F_q_count.ext Ex
  replace F_q_everyFrom := F_q_everyFrom.ext Ex
  replace E_q := E_q.ext Ex
  replace A_r1 := A_r1.ext Ex
  replace Zn := Nat.le_trans Zn Ex.1
  replace K := K.ext Ex
  replace A_r2 : Al Z h r2 .boolean n (List.replicate n 0) := Al.new (by rw [← hnn]; exact A_r2)
  refine g_putF X hx hZ hown (hw _ (List.mem_of_getElem? (i := 14) rfl)) eT F_q_queued E_q (Or.inr ⟨(hw _ (List.mem_of_getElem? (i := 15) rfl)), rfl, hnm⟩) (hw _ (List.mem_of_getElem? (i := 3) rfl)) (ty := (.array .boolean)) (by decide) rfl rfl (hb hby d1_15) (pc' := 18) rfl (fun T h X eT W => ?_)
  replace F_q_nodes := F_q_nodes.other W (Or.inr (slot_ne (t := (.array .int)) (t' := (.array .boolean)) (Or.inr (hw _ (List.mem_of_getElem? (i := 12) rfl))) (Or.inr (hw _ (List.mem_of_getElem? (i := 15) rfl))) (by decide) (by decide) (by decide)))
  replace F_q_queued := F_q_queued.same W
  replace F_q_head := F_q_head.other W (Or.inr (slot_ne (t := .int) (t' := (.array .boolean)) (Or.inl (hw _ (List.mem_of_getElem? (i := 38) rfl))) (Or.inr (hw _ (List.mem_of_getElem? (i := 15) rfl))) (by decide) (by decide) (by decide)))
  replace F_q_count := F_q_count.other W (Or.inr (slot_ne (t := .int) (t' := (.array .boolean)) (Or.inl (hw _ (List.mem_of_getElem? (i := 28) rfl))) (Or.inr (hw _ (List.mem_of_getElem? (i := 15) rfl))) (by decide) (by decide) (by decide)))
  replace F_q_everyFrom := F_q_everyFrom.other W (Or.inr (slot_ne (t := .int) (t' := (.array .boolean)) (Or.inl (hw _ (List.mem_of_getElem? (i := 17) rfl))) (Or.inr (hw _ (List.mem_of_getElem? (i := 15) rfl))) (by decide) (by decide) (by decide)))
  replace E_q := E_q.wr W
  replace A_r1 := A_r1.other W (Ne.symm ne_q_r1)
  replace A_r2 := A_r2.other W (Ne.symm ne_q_r2)
  replace N := Fr.snoc X N g_q
  replace Zn := Nat.le_trans Zn (Nat.le_of_eq W.size.symm)
  replace K := K.wr W (Or.inl (List.mem_of_getElem? (i := 0) rfl))
  refine g_aloadN X hx (hb hby d1_18) rfl rfl (pc' := 19) rfl ?_
  refine g_iloadN X hx (hb hby d1_19) rfl (pc' := 20) rfl ?_
  refine g_putF X hx hZ hown (hw _ (List.mem_of_getElem? (i := 16) rfl)) eT F_q_everyFrom E_q (Or.inl (hw _ (List.mem_of_getElem? (i := 17) rfl))) (hw _ (List.mem_of_getElem? (i := 3) rfl)) (ty := .int) (by decide) rfl rfl (hb hby d1_20) (pc' := 23) rfl (fun T h X eT W => ?_)
  replace F_q_nodes := F_q_nodes.other W (Or.inr (slot_ne (t := (.array .int)) (t' := .int) (Or.inr (hw _ (List.mem_of_getElem? (i := 12) rfl))) (Or.inl (hw _ (List.mem_of_getElem? (i := 17) rfl))) (by decide) (by decide) (by decide)))
  replace F_q_queued := F_q_queued.other W (Or.inr (slot_ne (t := (.array .boolean)) (t' := .int) (Or.inr (hw _ (List.mem_of_getElem? (i := 15) rfl))) (Or.inl (hw _ (List.mem_of_getElem? (i := 17) rfl))) (by decide) (by decide) (by decide)))
  replace F_q_head := F_q_head.other W (Or.inr (slot_ne (t := .int) (t' := .int) (Or.inl (hw _ (List.mem_of_getElem? (i := 38) rfl))) (Or.inl (hw _ (List.mem_of_getElem? (i := 17) rfl))) (by decide) (by decide) (by decide)))
  replace F_q_count := F_q_count.other W (Or.inr (slot_ne (t := .int) (t' := .int) (Or.inl (hw _ (List.mem_of_getElem? (i := 28) rfl))) (Or.inl (hw _ (List.mem_of_getElem? (i := 17) rfl))) (by decide) (by decide) (by decide)))
  replace F_q_everyFrom := F_q_everyFrom.same W
  replace E_q := E_q.wr W
  replace A_r1 := A_r1.other W (Ne.symm ne_q_r1)
  replace A_r2 := A_r2.other W (Ne.symm ne_q_r2)
  replace N := Fr.snoc X N g_q
  replace Zn := Nat.le_trans Zn (Nat.le_of_eq W.size.symm)
  replace K := K.wr W (Or.inl (List.mem_of_getElem? (i := 0) rfl))
  refine g_ret0 X hx hret hlk (hb hby d1_23) (by decide) (by decide) ?_
  rw [eT]
  exact ⟨_, _, rfl, N, K, F_q_nodes, F_q_queued, F_q_head, F_q_count, F_q_everyFrom, A_r1, A_r2, ne_q_r1, ne_q_r2, ne_r1_r2, g_r1, g_r2, sz_r1, sz_r2⟩
theorem d4_0 : decode prog_127_method_4_code 0 = .ok (.aload_n 0, 1) := by decide +kernel
theorem d4_1 : decode prog_127_method_4_code 1 = .ok (.getfield 17, 3) := by decide +kernel
theorem d4_4 : decode prog_127_method_4_code 4 = .ok (.aload_n 0, 1) := by decide +kernel
theorem d4_5 : decode prog_127_method_4_code 5 = .ok (.getfield 7, 3) := by decide +kernel
theorem d4_8 : decode prog_127_method_4_code 8 = .ok (.arraylength, 1) := by decide +kernel
theorem d4_9 : decode prog_127_method_4_code 9 = .ok (.if_icmp .ge 20, 3) := by decide +kernel
theorem d4_12 : decode prog_127_method_4_code 12 = .ok (.aload_n 0, 1) := by decide +kernel
theorem d4_13 : decode prog_127_method_4_code 13 = .ok (.dup, 1) := by decide +kernel
theorem d4_14 : decode prog_127_method_4_code 14 = .ok (.getfield 17, 3) := by decide +kernel
theorem d4_17 : decode prog_127_method_4_code 17 = .ok (.iconst 1, 1) := by decide +kernel
theorem d4_18 : decode prog_127_method_4_code 18 = .ok (.iadd, 1) := by decide +kernel
theorem d4_19 : decode prog_127_method_4_code 19 = .ok (.putfield 17, 3) := by decide +kernel
theorem d4_22 : decode prog_127_method_4_code 22 = .ok (.aload_n 0, 1) := by decide +kernel
theorem d4_23 : decode prog_127_method_4_code 23 = .ok (.getfield 17, 3) := by decide +kernel
theorem d4_26 : decode prog_127_method_4_code 26 = .ok (.iconst 1, 1) := by decide +kernel
theorem d4_27 : decode prog_127_method_4_code 27 = .ok (.isub, 1) := by decide +kernel
theorem d4_28 : decode prog_127_method_4_code 28 = .ok (.ireturn, 1) := by decide +kernel
theorem d4_29 : decode prog_127_method_4_code 29 = .ok (.aload_n 0, 1) := by decide +kernel
theorem d4_30 : decode prog_127_method_4_code 30 = .ok (.getfield 24, 3) := by decide +kernel
theorem d4_33 : decode prog_127_method_4_code 33 = .ok (.ifCond .ne 5, 3) := by decide +kernel
theorem d4_36 : decode prog_127_method_4_code 36 = .ok (.iconst (-1), 1) := by decide +kernel
theorem d4_37 : decode prog_127_method_4_code 37 = .ok (.ireturn, 1) := by decide +kernel
theorem d4_38 : decode prog_127_method_4_code 38 = .ok (.aload_n 0, 1) := by decide +kernel
theorem d4_39 : decode prog_127_method_4_code 39 = .ok (.getfield 7, 3) := by decide +kernel
theorem d4_42 : decode prog_127_method_4_code 42 = .ok (.aload_n 0, 1) := by decide +kernel
theorem d4_43 : decode prog_127_method_4_code 43 = .ok (.getfield 21, 3) := by decide +kernel
theorem d4_46 : decode prog_127_method_4_code 46 = .ok (.iaload, 1) := by decide +kernel
theorem d4_47 : decode prog_127_method_4_code 47 = .ok (.istore_n 1, 1) := by decide +kernel
theorem d4_48 : decode prog_127_method_4_code 48 = .ok (.aload_n 0, 1) := by decide +kernel
theorem d4_49 : decode prog_127_method_4_code 49 = .ok (.getfield 13, 3) := by decide +kernel
theorem d4_52 : decode prog_127_method_4_code 52 = .ok (.iload_n 1, 1) := by decide +kernel
theorem d4_53 : decode prog_127_method_4_code 53 = .ok (.iconst 0, 1) := by decide +kernel
theorem d4_54 : decode prog_127_method_4_code 54 = .ok (.bastore, 1) := by decide +kernel
theorem d4_55 : decode prog_127_method_4_code 55 = .ok (.aload_n 0, 1) := by decide +kernel
theorem d4_56 : decode prog_127_method_4_code 56 = .ok (.aload_n 0, 1) := by decide +kernel
theorem d4_57 : decode prog_127_method_4_code 57 = .ok (.getfield 21, 3) := by decide +kernel
theorem d4_60 : decode prog_127_method_4_code 60 = .ok (.iconst 1, 1) := by decide +kernel
theorem d4_61 : decode prog_127_method_4_code 61 = .ok (.iadd, 1) := by decide +kernel
theorem d4_62 : decode prog_127_method_4_code 62 = .ok (.aload_n 0, 1) := by decide +kernel
theorem d4_63 : decode prog_127_method_4_code 63 = .ok (.getfield 7, 3) := by decide +kernel
theorem d4_66 : decode prog_127_method_4_code 66 = .ok (.arraylength, 1) := by decide +kernel
theorem d4_67 : decode prog_127_method_4_code 67 = .ok (.if_icmp .ge 12, 3) := by decide +kernel
theorem d4_70 : decode prog_127_method_4_code 70 = .ok (.aload_n 0, 1) := by decide +kernel
theorem d4_71 : decode prog_127_method_4_code 71 = .ok (.getfield 21, 3) := by decide +kernel
theorem d4_74 : decode prog_127_method_4_code 74 = .ok (.iconst 1, 1) := by decide +kernel
theorem d4_75 : decode prog_127_method_4_code 75 = .ok (.iadd, 1) := by decide +kernel
theorem d4_76 : decode prog_127_method_4_code 76 = .ok (.goto 4, 3) := by decide +kernel
theorem d4_79 : decode prog_127_method_4_code 79 = .ok (.iconst 0, 1) := by decide +kernel
theorem d4_80 : decode prog_127_method_4_code 80 = .ok (.putfield 21, 3) := by decide +kernel
theorem d4_83 : decode prog_127_method_4_code 83 = .ok (.aload_n 0, 1) := by decide +kernel
theorem d4_84 : decode prog_127_method_4_code 84 = .ok (.dup, 1) := by decide +kernel
theorem d4_85 : decode prog_127_method_4_code 85 = .ok (.getfield 24, 3) := by decide +kernel
theorem d4_88 : decode prog_127_method_4_code 88 = .ok (.iconst 1, 1) := by decide +kernel
theorem d4_89 : decode prog_127_method_4_code 89 = .ok (.isub, 1) := by decide +kernel
theorem d4_90 : decode prog_127_method_4_code 90 = .ok (.putfield 24, 3) := by decide +kernel
theorem d4_93 : decode prog_127_method_4_code 93 = .ok (.iload_n 1, 1) := by decide +kernel
theorem d4_94 : decode prog_127_method_4_code 94 = .ok (.ireturn, 1) := by decide +kernel
theorem pl_4 : plainFor (⟨"com/example/storewatch/storewatch/graph/NodeQueue", "poll", "()I"⟩ : MethodName) = true := plainFor_of_name (by first | (simp [plainName, overriddenIn]; done) | decide +kernel)
theorem ef_rmP (m : MethodId) (z0 : Addr) : entryFrame m #[(.ref z0)] 2 = mkF m 0 #[.val (.ref z0), .unset] [] := by first | (simp [entryFrame, mkF, argsToLocals, Value.category]; done) | rfl
set_option maxRecDepth 65536 in
set_option maxHeartbeats 40000000 in
theorem rmP (l : Launch) (Z : State) (a0 : Array Value) (hw : ∀ d ∈ tables_1, d.before a0 Z = true) (q : Addr) (r1 : Addr) (r2 : Addr) (n : Nat) (nI : Int32) (L : List Int32) (M : List Int32) (hd : Int32) (ct : Int32) (ev : Int32) (P : List Int32) (h0 : Heap) (n0 : Nat) (Zn : n0 ≤ h0.size) (E_q : Exa Z h0 q "com/example/storewatch/storewatch/graph/NodeQueue") (F_q_nodes : Fld Z h0 q "com/example/storewatch/storewatch/graph/NodeQueue" "nodes" "[I" (.ref r1)) (F_q_queued : Fld Z h0 q "com/example/storewatch/storewatch/graph/NodeQueue" "queued" "[Z" (.ref r2)) (F_q_head : Fld Z h0 q "com/example/storewatch/storewatch/graph/NodeQueue" "head" "I" (.int hd)) (F_q_count : Fld Z h0 q "com/example/storewatch/storewatch/graph/NodeQueue" "count" "I" (.int ct)) (F_q_everyFrom : Fld Z h0 q "com/example/storewatch/storewatch/graph/NodeQueue" "everyFrom" "I" (.int ev)) (A_r1 : Al Z h0 r1 .int n L) (A_r2 : Al Z h0 r2 .boolean n M) (ne_q_r1 : q ≠ r1) (ne_q_r2 : q ≠ r2) (ne_r1_r2 : r1 ≠ r2) (g_q : n0 ≤ q) (g_r1 : n0 ≤ r1) (g_r2 : n0 ≤ r2) (hnI : Nat.toInt32 n = nI) (I : NInv n nI L M hd ct ev P) :
    WCt l Z (⟨"com/example/storewatch/storewatch/graph/NodeQueue", "poll", "()I"⟩ : MethodName) prog_127_method_4_code 2 (some .int) ({ frames := 0, cells := 0, slots := 0, locals := 0 } : Room) #[(.ref q)] h0 (fun vv hh LL => ∃ (M2 : List Int32) (hd2 : Int32) (ct2 : Int32) (ev2 : Int32), (vv = some (.int (P.headD (-1)))) ∧ (Fr n0 LL) ∧ (Keep h0 hh [q, r2]) ∧ (Fld Z hh q "com/example/storewatch/storewatch/graph/NodeQueue" "nodes" "[I" (.ref r1)) ∧ (Fld Z hh q "com/example/storewatch/storewatch/graph/NodeQueue" "queued" "[Z" (.ref r2)) ∧ (Fld Z hh q "com/example/storewatch/storewatch/graph/NodeQueue" "head" "I" (.int hd2)) ∧ (Fld Z hh q "com/example/storewatch/storewatch/graph/NodeQueue" "count" "I" (.int ct2)) ∧ (Fld Z hh q "com/example/storewatch/storewatch/graph/NodeQueue" "everyFrom" "I" (.int ev2)) ∧ (Al Z hh r1 .int n L) ∧ (Al Z hh r2 .boolean n M2) ∧ (NInv n nI L M2 hd2 ct2 ev2 P.tail)) := by
  refine WCt.of pl_4 ?_
  intro p e s m below meth c T hx hby hml hown hnm hret hlk hZ hh0 X eT
  have hown : s.vm.findClass "com/example/storewatch/storewatch/graph/NodeQueue" = some m.cls := hown
  have hnm : meth.name = "poll" := hnm
  have N := Fr.nil n0
  obtain ⟨h, eh⟩ : ∃ h, h = h0 := ⟨_, rfl⟩
  have K : Keep h0 h [q, r2] := by rw [eh]; exact Keep.refl _ _
  refine WGo.cast (ef_rmP m q) ?_
  rw [← eh] at eT Zn E_q F_q_nodes F_q_queued F_q_head F_q_count F_q_everyFrom A_r1 A_r2
  refine g_aloadN X hx (hb hby d4_0) rfl rfl (pc' := 1) rfl ?_
  refine g_getF X hx hZ hown (hw _ (List.mem_of_getElem? (i := 16) rfl)) eT F_q_everyFrom (hb hby d4_1) (pc' := 4) rfl (fun T X eT => ?_)
  refine g_aloadN X hx (hb hby d4_4) rfl rfl (pc' := 5) rfl ?_
  refine g_getF X hx hZ hown (hw _ (List.mem_of_getElem? (i := 11) rfl)) eT F_q_nodes (hb hby d4_5) (pc' := 8) rfl (fun T X eT => ?_)
  refine g_len X hx hZ eT A_r1.2 (hb hby d4_8) (x := nI) hnI (pc' := 9) rfl ?_
  refine g_icmp X hx (hb hby d4_9) (by decide) (pc' := 29) (by decide) (pc2 := 12) rfl (fun hc => ?_) (fun hc => ?_)
  · replace hc := h_ge1 hc
    have hc9 := hc
    refine g_aloadN X hx (hb hby d4_29) rfl rfl (pc' := 30) rfl ?_
    refine g_getF X hx hZ hown (hw _ (List.mem_of_getElem? (i := 27) rfl)) eT F_q_count (hb hby d4_30) (pc' := 33) rfl (fun T X eT => ?_)
    refine g_if X hx (hb hby d4_33) (by decide) (pc' := 38) (by decide) (pc2 := 36) rfl (fun hc => ?_) (fun hc => ?_)
    · replace hc := h_ne1 hc
      have hc33 := hc
      obtain ⟨b1, b2, b3, b4, e1, hI⟩ := np3 I hc9 hc33
      refine g_aloadN X hx (hb hby d4_38) rfl rfl (pc' := 39) rfl ?_
      refine g_getF X hx hZ hown (hw _ (List.mem_of_getElem? (i := 11) rfl)) eT F_q_nodes (hb hby d4_39) (pc' := 42) rfl (fun T X eT => ?_)
      refine g_aloadN X hx (hb hby d4_42) rfl rfl (pc' := 43) rfl ?_
      refine g_getF X hx hZ hown (hw _ (List.mem_of_getElem? (i := 37) rfl)) eT F_q_head (hb hby d4_43) (pc' := 46) rfl (fun T X eT => ?_)
      refine g_iaload X hx hZ eT A_r1.2 (hb hby d4_46) b1 b2 (v := (.int (L.getD hd.toNatClampNeg 0))) rfl (pc' := 47) rfl ?_
      refine g_istoreN X hx (hb hby d4_47) (Ls' := #[.val (.ref q), .val (.int (L.getD hd.toNatClampNeg 0))]) rfl (pc' := 48) rfl ?_
      refine g_aloadN X hx (hb hby d4_48) rfl rfl (pc' := 49) rfl ?_
      refine g_getF X hx hZ hown (hw _ (List.mem_of_getElem? (i := 14) rfl)) eT F_q_queued (hb hby d4_49) (pc' := 52) rfl (fun T X eT => ?_)
      refine g_iloadN X hx (hb hby d4_52) rfl (pc' := 53) rfl ?_
      refine g_iconst X hx (hb hby d4_53) (x := (0 : Int32)) (by decide) (pc' := 54) rfl ?_
      refine g_bastoreZ X hx hZ eT A_r2.2 (hb hby d4_54) b3 b4 (pc' := 55) rfl (fun T h X eT W A' => ?_)
      replace F_q_nodes := F_q_nodes.other W (Or.inl ne_q_r2)
      replace F_q_queued := F_q_queued.other W (Or.inl ne_q_r2)
      replace F_q_head := F_q_head.other W (Or.inl ne_q_r2)
      replace F_q_count := F_q_count.other W (Or.inl ne_q_r2)
      replace F_q_everyFrom := F_q_everyFrom.other W (Or.inl ne_q_r2)
      replace E_q := E_q.wr W
      replace A_r1 := A_r1.other W ne_r1_r2
      replace N := Fr.snoc X N g_r2
      replace Zn := Nat.le_trans Zn (Nat.le_of_eq W.size.symm)
      replace K := K.wr W (Or.inl (List.mem_of_getElem? (i := 1) rfl))
      replace A_r2 : Al Z h r2 .boolean n (M.set (L.getD hd.toNatClampNeg 0).toNatClampNeg (nar .boolean (0 : Int32))) := A_r2.set A'
      refine g_aloadN X hx (hb hby d4_55) rfl rfl (pc' := 56) rfl ?_
      refine g_aloadN X hx (hb hby d4_56) rfl rfl (pc' := 57) rfl ?_
      refine g_getF X hx hZ hown (hw _ (List.mem_of_getElem? (i := 37) rfl)) eT F_q_head (hb hby d4_57) (pc' := 60) rfl (fun T X eT => ?_)
      refine g_iconst X hx (hb hby d4_60) (x := (1 : Int32)) (by decide) (pc' := 61) rfl ?_
      refine g_iadd X hx (hb hby d4_61) (pc' := 62) rfl ?_
      refine g_aloadN X hx (hb hby d4_62) rfl rfl (pc' := 63) rfl ?_
      refine g_getF X hx hZ hown (hw _ (List.mem_of_getElem? (i := 11) rfl)) eT F_q_nodes (hb hby d4_63) (pc' := 66) rfl (fun T X eT => ?_)
      refine g_len X hx hZ eT A_r1.2 (hb hby d4_66) (x := nI) hnI (pc' := 67) rfl ?_
      refine g_icmp X hx (hb hby d4_67) (by decide) (pc' := 79) (by decide) (pc2 := 70) rfl (fun hc => ?_) (fun hc => ?_)
      · replace hc := h_ge1 hc
        have hc67 := hc
        refine g_iconst X hx (hb hby d4_79) (x := (0 : Int32)) (by decide) (pc' := 80) rfl ?_
        refine g_putF X hx hZ hown (hw _ (List.mem_of_getElem? (i := 37) rfl)) eT F_q_head E_q (Or.inl (hw _ (List.mem_of_getElem? (i := 38) rfl))) (hw _ (List.mem_of_getElem? (i := 3) rfl)) (ty := .int) (by decide) rfl rfl (hb hby d4_80) (pc' := 83) rfl (fun T h X eT W => ?_)
        replace F_q_nodes := F_q_nodes.other W (Or.inr (slot_ne (t := (.array .int)) (t' := .int) (Or.inr (hw _ (List.mem_of_getElem? (i := 12) rfl))) (Or.inl (hw _ (List.mem_of_getElem? (i := 38) rfl))) (by decide) (by decide) (by decide)))
        replace F_q_queued := F_q_queued.other W (Or.inr (slot_ne (t := (.array .boolean)) (t' := .int) (Or.inr (hw _ (List.mem_of_getElem? (i := 15) rfl))) (Or.inl (hw _ (List.mem_of_getElem? (i := 38) rfl))) (by decide) (by decide) (by decide)))
        replace F_q_head := F_q_head.same W
        replace F_q_count := F_q_count.other W (Or.inr (slot_ne (t := .int) (t' := .int) (Or.inl (hw _ (List.mem_of_getElem? (i := 28) rfl))) (Or.inl (hw _ (List.mem_of_getElem? (i := 38) rfl))) (by decide) (by decide) (by decide)))
        replace F_q_everyFrom := F_q_everyFrom.other W (Or.inr (slot_ne (t := .int) (t' := .int) (Or.inl (hw _ (List.mem_of_getElem? (i := 17) rfl))) (Or.inl (hw _ (List.mem_of_getElem? (i := 38) rfl))) (by decide) (by decide) (by decide)))
        replace E_q := E_q.wr W
        replace A_r1 := A_r1.other W (Ne.symm ne_q_r1)
        replace A_r2 := A_r2.other W (Ne.symm ne_q_r2)
        replace N := Fr.snoc X N g_q
        replace Zn := Nat.le_trans Zn (Nat.le_of_eq W.size.symm)
        replace K := K.wr W (Or.inl (List.mem_of_getElem? (i := 0) rfl))
        refine g_aloadN X hx (hb hby d4_83) rfl rfl (pc' := 84) rfl ?_
        refine g_dup X hx (hb hby d4_84) rfl (pc' := 85) rfl ?_
        refine g_getF X hx hZ hown (hw _ (List.mem_of_getElem? (i := 27) rfl)) eT F_q_count (hb hby d4_85) (pc' := 88) rfl (fun T X eT => ?_)
        refine g_iconst X hx (hb hby d4_88) (x := (1 : Int32)) (by decide) (pc' := 89) rfl ?_
        refine g_isub X hx (hb hby d4_89) (pc' := 90) rfl ?_
        refine g_putF X hx hZ hown (hw _ (List.mem_of_getElem? (i := 27) rfl)) eT F_q_count E_q (Or.inl (hw _ (List.mem_of_getElem? (i := 28) rfl))) (hw _ (List.mem_of_getElem? (i := 3) rfl)) (ty := .int) (by decide) rfl rfl (hb hby d4_90) (pc' := 93) rfl (fun T h X eT W => ?_)
        replace F_q_nodes := F_q_nodes.other W (Or.inr (slot_ne (t := (.array .int)) (t' := .int) (Or.inr (hw _ (List.mem_of_getElem? (i := 12) rfl))) (Or.inl (hw _ (List.mem_of_getElem? (i := 28) rfl))) (by decide) (by decide) (by decide)))
        replace F_q_queued := F_q_queued.other W (Or.inr (slot_ne (t := (.array .boolean)) (t' := .int) (Or.inr (hw _ (List.mem_of_getElem? (i := 15) rfl))) (Or.inl (hw _ (List.mem_of_getElem? (i := 28) rfl))) (by decide) (by decide) (by decide)))
        replace F_q_head := F_q_head.other W (Or.inr (slot_ne (t := .int) (t' := .int) (Or.inl (hw _ (List.mem_of_getElem? (i := 38) rfl))) (Or.inl (hw _ (List.mem_of_getElem? (i := 28) rfl))) (by decide) (by decide) (by decide)))
        replace F_q_count := F_q_count.same W
        replace F_q_everyFrom := F_q_everyFrom.other W (Or.inr (slot_ne (t := .int) (t' := .int) (Or.inl (hw _ (List.mem_of_getElem? (i := 17) rfl))) (Or.inl (hw _ (List.mem_of_getElem? (i := 28) rfl))) (by decide) (by decide) (by decide)))
        replace E_q := E_q.wr W
        replace A_r1 := A_r1.other W (Ne.symm ne_q_r1)
        replace A_r2 := A_r2.other W (Ne.symm ne_q_r2)
        replace N := Fr.snoc X N g_q
        replace Zn := Nat.le_trans Zn (Nat.le_of_eq W.size.symm)
        replace K := K.wr W (Or.inl (List.mem_of_getElem? (i := 0) rfl))
        refine g_iloadN X hx (hb hby d4_93) rfl (pc' := 94) rfl ?_
        refine g_retI X hx hret hlk (hb hby d4_94) (by decide) (by decide) ?_
        have I2 := hI _ (fun z => absurd z hc67) (fun _ => rfl)
        rw [eT]
        exact ⟨_, _, _, _, by rw [e1], N, K, F_q_nodes, F_q_queued, F_q_head, F_q_count, F_q_everyFrom, A_r1, A_r2, I2⟩
      · replace hc := h_ge0 hc
        have hc67 := hc
        refine g_aloadN X hx (hb hby d4_70) rfl rfl (pc' := 71) rfl ?_
        refine g_getF X hx hZ hown (hw _ (List.mem_of_getElem? (i := 37) rfl)) eT F_q_head (hb hby d4_71) (pc' := 74) rfl (fun T X eT => ?_)
        refine g_iconst X hx (hb hby d4_74) (x := (1 : Int32)) (by decide) (pc' := 75) rfl ?_
        refine g_iadd X hx (hb hby d4_75) (pc' := 76) rfl ?_
        refine g_goto X hx (hb hby d4_76) (by decide) (pc' := 80) (by decide) ?_
        refine g_putF X hx hZ hown (hw _ (List.mem_of_getElem? (i := 37) rfl)) eT F_q_head E_q (Or.inl (hw _ (List.mem_of_getElem? (i := 38) rfl))) (hw _ (List.mem_of_getElem? (i := 3) rfl)) (ty := .int) (by decide) rfl rfl (hb hby d4_80) (pc' := 83) rfl (fun T h X eT W => ?_)
        replace F_q_nodes := F_q_nodes.other W (Or.inr (slot_ne (t := (.array .int)) (t' := .int) (Or.inr (hw _ (List.mem_of_getElem? (i := 12) rfl))) (Or.inl (hw _ (List.mem_of_getElem? (i := 38) rfl))) (by decide) (by decide) (by decide)))
        replace F_q_queued := F_q_queued.other W (Or.inr (slot_ne (t := (.array .boolean)) (t' := .int) (Or.inr (hw _ (List.mem_of_getElem? (i := 15) rfl))) (Or.inl (hw _ (List.mem_of_getElem? (i := 38) rfl))) (by decide) (by decide) (by decide)))
        replace F_q_head := F_q_head.same W
        replace F_q_count := F_q_count.other W (Or.inr (slot_ne (t := .int) (t' := .int) (Or.inl (hw _ (List.mem_of_getElem? (i := 28) rfl))) (Or.inl (hw _ (List.mem_of_getElem? (i := 38) rfl))) (by decide) (by decide) (by decide)))
        replace F_q_everyFrom := F_q_everyFrom.other W (Or.inr (slot_ne (t := .int) (t' := .int) (Or.inl (hw _ (List.mem_of_getElem? (i := 17) rfl))) (Or.inl (hw _ (List.mem_of_getElem? (i := 38) rfl))) (by decide) (by decide) (by decide)))
        replace E_q := E_q.wr W
        replace A_r1 := A_r1.other W (Ne.symm ne_q_r1)
        replace A_r2 := A_r2.other W (Ne.symm ne_q_r2)
        replace N := Fr.snoc X N g_q
        replace Zn := Nat.le_trans Zn (Nat.le_of_eq W.size.symm)
        replace K := K.wr W (Or.inl (List.mem_of_getElem? (i := 0) rfl))
        refine g_aloadN X hx (hb hby d4_83) rfl rfl (pc' := 84) rfl ?_
        refine g_dup X hx (hb hby d4_84) rfl (pc' := 85) rfl ?_
        refine g_getF X hx hZ hown (hw _ (List.mem_of_getElem? (i := 27) rfl)) eT F_q_count (hb hby d4_85) (pc' := 88) rfl (fun T X eT => ?_)
        refine g_iconst X hx (hb hby d4_88) (x := (1 : Int32)) (by decide) (pc' := 89) rfl ?_
        refine g_isub X hx (hb hby d4_89) (pc' := 90) rfl ?_
        refine g_putF X hx hZ hown (hw _ (List.mem_of_getElem? (i := 27) rfl)) eT F_q_count E_q (Or.inl (hw _ (List.mem_of_getElem? (i := 28) rfl))) (hw _ (List.mem_of_getElem? (i := 3) rfl)) (ty := .int) (by decide) rfl rfl (hb hby d4_90) (pc' := 93) rfl (fun T h X eT W => ?_)
        replace F_q_nodes := F_q_nodes.other W (Or.inr (slot_ne (t := (.array .int)) (t' := .int) (Or.inr (hw _ (List.mem_of_getElem? (i := 12) rfl))) (Or.inl (hw _ (List.mem_of_getElem? (i := 28) rfl))) (by decide) (by decide) (by decide)))
        replace F_q_queued := F_q_queued.other W (Or.inr (slot_ne (t := (.array .boolean)) (t' := .int) (Or.inr (hw _ (List.mem_of_getElem? (i := 15) rfl))) (Or.inl (hw _ (List.mem_of_getElem? (i := 28) rfl))) (by decide) (by decide) (by decide)))
        replace F_q_head := F_q_head.other W (Or.inr (slot_ne (t := .int) (t' := .int) (Or.inl (hw _ (List.mem_of_getElem? (i := 38) rfl))) (Or.inl (hw _ (List.mem_of_getElem? (i := 28) rfl))) (by decide) (by decide) (by decide)))
        replace F_q_count := F_q_count.same W
        replace F_q_everyFrom := F_q_everyFrom.other W (Or.inr (slot_ne (t := .int) (t' := .int) (Or.inl (hw _ (List.mem_of_getElem? (i := 17) rfl))) (Or.inl (hw _ (List.mem_of_getElem? (i := 28) rfl))) (by decide) (by decide) (by decide)))
        replace E_q := E_q.wr W
        replace A_r1 := A_r1.other W (Ne.symm ne_q_r1)
        replace A_r2 := A_r2.other W (Ne.symm ne_q_r2)
        replace N := Fr.snoc X N g_q
        replace Zn := Nat.le_trans Zn (Nat.le_of_eq W.size.symm)
        replace K := K.wr W (Or.inl (List.mem_of_getElem? (i := 0) rfl))
        refine g_iloadN X hx (hb hby d4_93) rfl (pc' := 94) rfl ?_
        refine g_retI X hx hret hlk (hb hby d4_94) (by decide) (by decide) ?_
        have I2 := hI _ (fun _ => rfl) (fun z => absurd hc67 z)
        rw [eT]
        exact ⟨_, _, _, _, by rw [e1], N, K, F_q_nodes, F_q_queued, F_q_head, F_q_count, F_q_everyFrom, A_r1, A_r2, I2⟩
    · replace hc := h_ne0 hc
      have hc33 := hc
      refine g_iconst X hx (hb hby d4_36) (x := (-1 : Int32)) (by decide) (pc' := 37) rfl ?_
      refine g_retI X hx hret hlk (hb hby d4_37) (by decide) (by decide) ?_
      obtain ⟨e1, I2⟩ := np2 I hc9 hc33
      rw [eT]
      exact ⟨_, _, _, _, by rw [e1], N, K, F_q_nodes, F_q_queued, F_q_head, F_q_count, F_q_everyFrom, A_r1, A_r2, I2⟩
  · replace hc := h_ge0 hc
    have hc9 := hc
    refine g_aloadN X hx (hb hby d4_12) rfl rfl (pc' := 13) rfl ?_
    refine g_dup X hx (hb hby d4_13) rfl (pc' := 14) rfl ?_
    refine g_getF X hx hZ hown (hw _ (List.mem_of_getElem? (i := 16) rfl)) eT F_q_everyFrom (hb hby d4_14) (pc' := 17) rfl (fun T X eT => ?_)
    refine g_iconst X hx (hb hby d4_17) (x := (1 : Int32)) (by decide) (pc' := 18) rfl ?_
    refine g_iadd X hx (hb hby d4_18) (pc' := 19) rfl ?_
    refine g_putF X hx hZ hown (hw _ (List.mem_of_getElem? (i := 16) rfl)) eT F_q_everyFrom E_q (Or.inl (hw _ (List.mem_of_getElem? (i := 17) rfl))) (hw _ (List.mem_of_getElem? (i := 3) rfl)) (ty := .int) (by decide) rfl rfl (hb hby d4_19) (pc' := 22) rfl (fun T h X eT W => ?_)
    replace F_q_nodes := F_q_nodes.other W (Or.inr (slot_ne (t := (.array .int)) (t' := .int) (Or.inr (hw _ (List.mem_of_getElem? (i := 12) rfl))) (Or.inl (hw _ (List.mem_of_getElem? (i := 17) rfl))) (by decide) (by decide) (by decide)))
    replace F_q_queued := F_q_queued.other W (Or.inr (slot_ne (t := (.array .boolean)) (t' := .int) (Or.inr (hw _ (List.mem_of_getElem? (i := 15) rfl))) (Or.inl (hw _ (List.mem_of_getElem? (i := 17) rfl))) (by decide) (by decide) (by decide)))
    replace F_q_head := F_q_head.other W (Or.inr (slot_ne (t := .int) (t' := .int) (Or.inl (hw _ (List.mem_of_getElem? (i := 38) rfl))) (Or.inl (hw _ (List.mem_of_getElem? (i := 17) rfl))) (by decide) (by decide) (by decide)))
    replace F_q_count := F_q_count.other W (Or.inr (slot_ne (t := .int) (t' := .int) (Or.inl (hw _ (List.mem_of_getElem? (i := 28) rfl))) (Or.inl (hw _ (List.mem_of_getElem? (i := 17) rfl))) (by decide) (by decide) (by decide)))
    replace F_q_everyFrom := F_q_everyFrom.same W
    replace E_q := E_q.wr W
    replace A_r1 := A_r1.other W (Ne.symm ne_q_r1)
    replace A_r2 := A_r2.other W (Ne.symm ne_q_r2)
    replace N := Fr.snoc X N g_q
    replace Zn := Nat.le_trans Zn (Nat.le_of_eq W.size.symm)
    replace K := K.wr W (Or.inl (List.mem_of_getElem? (i := 0) rfl))
    refine g_aloadN X hx (hb hby d4_22) rfl rfl (pc' := 23) rfl ?_
    refine g_getF X hx hZ hown (hw _ (List.mem_of_getElem? (i := 16) rfl)) eT F_q_everyFrom (hb hby d4_23) (pc' := 26) rfl (fun T X eT => ?_)
    refine g_iconst X hx (hb hby d4_26) (x := (1 : Int32)) (by decide) (pc' := 27) rfl ?_
    refine g_isub X hx (hb hby d4_27) (pc' := 28) rfl ?_
    refine g_retI X hx hret hlk (hb hby d4_28) (by decide) (by decide) ?_
    obtain ⟨e1, I2⟩ := np1 I hc9
    rw [eT]
    exact ⟨_, _, _, _, by rw [e1], N, K, F_q_nodes, F_q_queued, F_q_head, F_q_count, F_q_everyFrom, A_r1, A_r2, I2⟩
theorem d6_0 : decode prog_127_method_2_code 0 = .ok (.aload_n 0, 1) := by decide +kernel
theorem d6_1 : decode prog_127_method_2_code 1 = .ok (.getfield 13, 3) := by decide +kernel
theorem d6_4 : decode prog_127_method_2_code 4 = .ok (.iload_n 1, 1) := by decide +kernel
theorem d6_5 : decode prog_127_method_2_code 5 = .ok (.baload, 1) := by decide +kernel
theorem d6_6 : decode prog_127_method_2_code 6 = .ok (.ifCond .ne 71, 3) := by decide +kernel
theorem d6_9 : decode prog_127_method_2_code 9 = .ok (.iload_n 1, 1) := by decide +kernel
theorem d6_10 : decode prog_127_method_2_code 10 = .ok (.aload_n 0, 1) := by decide +kernel
theorem d6_11 : decode prog_127_method_2_code 11 = .ok (.getfield 17, 3) := by decide +kernel
theorem d6_14 : decode prog_127_method_2_code 14 = .ok (.if_icmp .ge 63, 3) := by decide +kernel
theorem d6_17 : decode prog_127_method_2_code 17 = .ok (.aload_n 0, 1) := by decide +kernel
theorem d6_18 : decode prog_127_method_2_code 18 = .ok (.getfield 13, 3) := by decide +kernel
theorem d6_21 : decode prog_127_method_2_code 21 = .ok (.iload_n 1, 1) := by decide +kernel
theorem d6_22 : decode prog_127_method_2_code 22 = .ok (.iconst 1, 1) := by decide +kernel
theorem d6_23 : decode prog_127_method_2_code 23 = .ok (.bastore, 1) := by decide +kernel
theorem d6_24 : decode prog_127_method_2_code 24 = .ok (.aload_n 0, 1) := by decide +kernel
theorem d6_25 : decode prog_127_method_2_code 25 = .ok (.getfield 7, 3) := by decide +kernel
theorem d6_28 : decode prog_127_method_2_code 28 = .ok (.arraylength, 1) := by decide +kernel
theorem d6_29 : decode prog_127_method_2_code 29 = .ok (.aload_n 0, 1) := by decide +kernel
theorem d6_30 : decode prog_127_method_2_code 30 = .ok (.getfield 21, 3) := by decide +kernel
theorem d6_33 : decode prog_127_method_2_code 33 = .ok (.isub, 1) := by decide +kernel
theorem d6_34 : decode prog_127_method_2_code 34 = .ok (.istore_n 2, 1) := by decide +kernel
theorem d6_35 : decode prog_127_method_2_code 35 = .ok (.aload_n 0, 1) := by decide +kernel
theorem d6_36 : decode prog_127_method_2_code 36 = .ok (.getfield 7, 3) := by decide +kernel
theorem d6_39 : decode prog_127_method_2_code 39 = .ok (.aload_n 0, 1) := by decide +kernel
theorem d6_40 : decode prog_127_method_2_code 40 = .ok (.getfield 24, 3) := by decide +kernel
theorem d6_43 : decode prog_127_method_2_code 43 = .ok (.iload_n 2, 1) := by decide +kernel
theorem d6_44 : decode prog_127_method_2_code 44 = .ok (.if_icmp .ge 15, 3) := by decide +kernel
theorem d6_47 : decode prog_127_method_2_code 47 = .ok (.aload_n 0, 1) := by decide +kernel
theorem d6_48 : decode prog_127_method_2_code 48 = .ok (.getfield 21, 3) := by decide +kernel
theorem d6_51 : decode prog_127_method_2_code 51 = .ok (.aload_n 0, 1) := by decide +kernel
theorem d6_52 : decode prog_127_method_2_code 52 = .ok (.getfield 24, 3) := by decide +kernel
theorem d6_55 : decode prog_127_method_2_code 55 = .ok (.iadd, 1) := by decide +kernel
theorem d6_56 : decode prog_127_method_2_code 56 = .ok (.goto 9, 3) := by decide +kernel
theorem d6_59 : decode prog_127_method_2_code 59 = .ok (.aload_n 0, 1) := by decide +kernel
theorem d6_60 : decode prog_127_method_2_code 60 = .ok (.getfield 24, 3) := by decide +kernel
theorem d6_63 : decode prog_127_method_2_code 63 = .ok (.iload_n 2, 1) := by decide +kernel
theorem d6_64 : decode prog_127_method_2_code 64 = .ok (.isub, 1) := by decide +kernel
theorem d6_65 : decode prog_127_method_2_code 65 = .ok (.iload_n 1, 1) := by decide +kernel
theorem d6_66 : decode prog_127_method_2_code 66 = .ok (.iastore, 1) := by decide +kernel
theorem d6_67 : decode prog_127_method_2_code 67 = .ok (.aload_n 0, 1) := by decide +kernel
theorem d6_68 : decode prog_127_method_2_code 68 = .ok (.dup, 1) := by decide +kernel
theorem d6_69 : decode prog_127_method_2_code 69 = .ok (.getfield 24, 3) := by decide +kernel
theorem d6_72 : decode prog_127_method_2_code 72 = .ok (.iconst 1, 1) := by decide +kernel
theorem d6_73 : decode prog_127_method_2_code 73 = .ok (.iadd, 1) := by decide +kernel
theorem d6_74 : decode prog_127_method_2_code 74 = .ok (.putfield 24, 3) := by decide +kernel
theorem d6_77 : decode prog_127_method_2_code 77 = .ok (.return_, 1) := by decide +kernel
theorem pl_6 : plainFor (⟨"com/example/storewatch/storewatch/graph/NodeQueue", "add", "(I)V"⟩ : MethodName) = true := plainFor_of_name (by first | (simp [plainName, overriddenIn]; done) | decide +kernel)
theorem ef_rmA (m : MethodId) (z0 : Addr) (z1 : Int32) : entryFrame m #[(.ref z0), (.int z1)] 3 = mkF m 0 #[.val (.ref z0), .val (.int z1), .unset] [] := by first | (simp [entryFrame, mkF, argsToLocals, Value.category]; done) | rfl
set_option maxRecDepth 65536 in
set_option maxHeartbeats 40000000 in
theorem rmA (l : Launch) (Z : State) (a0 : Array Value) (hw : ∀ d ∈ tables_1, d.before a0 Z = true) (q : Addr) (r1 : Addr) (r2 : Addr) (n : Nat) (nI : Int32) (L : List Int32) (M : List Int32) (hd : Int32) (ct : Int32) (ev : Int32) (P : List Int32) (x : Int32) (h0 : Heap) (n0 : Nat) (Zn : n0 ≤ h0.size) (E_q : Exa Z h0 q "com/example/storewatch/storewatch/graph/NodeQueue") (F_q_nodes : Fld Z h0 q "com/example/storewatch/storewatch/graph/NodeQueue" "nodes" "[I" (.ref r1)) (F_q_queued : Fld Z h0 q "com/example/storewatch/storewatch/graph/NodeQueue" "queued" "[Z" (.ref r2)) (F_q_head : Fld Z h0 q "com/example/storewatch/storewatch/graph/NodeQueue" "head" "I" (.int hd)) (F_q_count : Fld Z h0 q "com/example/storewatch/storewatch/graph/NodeQueue" "count" "I" (.int ct)) (F_q_everyFrom : Fld Z h0 q "com/example/storewatch/storewatch/graph/NodeQueue" "everyFrom" "I" (.int ev)) (A_r1 : Al Z h0 r1 .int n L) (A_r2 : Al Z h0 r2 .boolean n M) (ne_q_r1 : q ≠ r1) (ne_q_r2 : q ≠ r2) (ne_r1_r2 : r1 ≠ r2) (g_q : n0 ≤ q) (g_r1 : n0 ≤ r1) (g_r2 : n0 ≤ r2) (hnI : Nat.toInt32 n = nI) (I : NInv n nI L M hd ct ev P) (hx4 : x ∈ HDS) (hxn : x < nI) :
    WCt l Z (⟨"com/example/storewatch/storewatch/graph/NodeQueue", "add", "(I)V"⟩ : MethodName) prog_127_method_2_code 3 none ({ frames := 0, cells := 0, slots := 0, locals := 0 } : Room) #[(.ref q), (.int x)] h0 (fun vv hh LL => ∃ (L2 : List Int32) (M2 : List Int32) (ct2 : Int32), (vv = none) ∧ (Fr n0 LL) ∧ (Keep h0 hh [q, r1, r2]) ∧ (Fld Z hh q "com/example/storewatch/storewatch/graph/NodeQueue" "nodes" "[I" (.ref r1)) ∧ (Fld Z hh q "com/example/storewatch/storewatch/graph/NodeQueue" "queued" "[Z" (.ref r2)) ∧ (Fld Z hh q "com/example/storewatch/storewatch/graph/NodeQueue" "head" "I" (.int hd)) ∧ (Fld Z hh q "com/example/storewatch/storewatch/graph/NodeQueue" "count" "I" (.int ct2)) ∧ (Fld Z hh q "com/example/storewatch/storewatch/graph/NodeQueue" "everyFrom" "I" (.int ev)) ∧ (Al Z hh r1 .int n L2) ∧ (Al Z hh r2 .boolean n M2) ∧ (NInv n nI L2 M2 hd ct2 ev (addP P x))) := by
  refine WCt.of pl_6 ?_
  intro p e s m below meth c T hx hby hml hown hnm hret hlk hZ hh0 X eT
  have hown : s.vm.findClass "com/example/storewatch/storewatch/graph/NodeQueue" = some m.cls := hown
  have hnm : meth.name = "add" := hnm
  have N := Fr.nil n0
  obtain ⟨h, eh⟩ : ∃ h, h = h0 := ⟨_, rfl⟩
  have K : Keep h0 h [q, r1, r2] := by rw [eh]; exact Keep.refl _ _
  refine WGo.cast (ef_rmA m q x) ?_
  rw [← eh] at eT Zn E_q F_q_nodes F_q_queued F_q_head F_q_count F_q_everyFrom A_r1 A_r2
  obtain ⟨b1, b2, b3, b4, -⟩ := na_all I hx4 hxn
  refine g_aloadN X hx (hb hby d6_0) rfl rfl (pc' := 1) rfl ?_
  refine g_getF X hx hZ hown (hw _ (List.mem_of_getElem? (i := 14) rfl)) eT F_q_queued (hb hby d6_1) (pc' := 4) rfl (fun T X eT => ?_)
  refine g_iloadN X hx (hb hby d6_4) rfl (pc' := 5) rfl ?_
  refine g_baloadZ X hx hZ eT A_r2.2 (hb hby d6_5) b1 b2 (v := (.int (M.getD x.toNatClampNeg 0))) rfl (pc' := 6) rfl ?_
  refine g_if X hx (hb hby d6_6) (by decide) (pc' := 77) (by decide) (pc2 := 9) rfl (fun hc => ?_) (fun hc => ?_)
  · replace hc := h_ne1 hc
    have hc6 := hc
    refine g_ret0 X hx hret hlk (hb hby d6_77) (by decide) (by decide) ?_
    rw [eT]
    exact ⟨_, _, _, rfl, N, K, F_q_nodes, F_q_queued, F_q_head, F_q_count, F_q_everyFrom, A_r1, A_r2, (by rw [b3 hc6]; exact I)⟩
  · replace hc := h_ne0 hc
    have hc6 := hc
    refine g_iloadN X hx (hb hby d6_9) rfl (pc' := 10) rfl ?_
    refine g_aloadN X hx (hb hby d6_10) rfl rfl (pc' := 11) rfl ?_
    refine g_getF X hx hZ hown (hw _ (List.mem_of_getElem? (i := 16) rfl)) eT F_q_everyFrom (hb hby d6_11) (pc' := 14) rfl (fun T X eT => ?_)
    refine g_icmp X hx (hb hby d6_14) (by decide) (pc' := 77) (by decide) (pc2 := 17) rfl (fun hc => ?_) (fun hc => ?_)
    · replace hc := h_ge1 hc
      have hc14 := hc
      refine g_ret0 X hx hret hlk (hb hby d6_77) (by decide) (by decide) ?_
      rw [eT]
      exact ⟨_, _, _, rfl, N, K, F_q_nodes, F_q_queued, F_q_head, F_q_count, F_q_everyFrom, A_r1, A_r2, (by rw [b4 hc14]; exact I)⟩
    · replace hc := h_ge0 hc
      have hc14 := hc
      refine g_aloadN X hx (hb hby d6_17) rfl rfl (pc' := 18) rfl ?_
      refine g_getF X hx hZ hown (hw _ (List.mem_of_getElem? (i := 14) rfl)) eT F_q_queued (hb hby d6_18) (pc' := 21) rfl (fun T X eT => ?_)
      refine g_iloadN X hx (hb hby d6_21) rfl (pc' := 22) rfl ?_
      refine g_iconst X hx (hb hby d6_22) (x := (1 : Int32)) (by decide) (pc' := 23) rfl ?_
      refine g_bastoreZ X hx hZ eT A_r2.2 (hb hby d6_23) b1 b2 (pc' := 24) rfl (fun T h X eT W A' => ?_)
      replace F_q_nodes := F_q_nodes.other W (Or.inl ne_q_r2)
      replace F_q_queued := F_q_queued.other W (Or.inl ne_q_r2)
      replace F_q_head := F_q_head.other W (Or.inl ne_q_r2)
      replace F_q_count := F_q_count.other W (Or.inl ne_q_r2)
      replace F_q_everyFrom := F_q_everyFrom.other W (Or.inl ne_q_r2)
      replace E_q := E_q.wr W
      replace A_r1 := A_r1.other W ne_r1_r2
      replace N := Fr.snoc X N g_r2
      replace Zn := Nat.le_trans Zn (Nat.le_of_eq W.size.symm)
      replace K := K.wr W (Or.inl (List.mem_of_getElem? (i := 2) rfl))
      replace A_r2 : Al Z h r2 .boolean n (M.set x.toNatClampNeg (nar .boolean (1 : Int32))) := A_r2.set A'
      refine g_aloadN X hx (hb hby d6_24) rfl rfl (pc' := 25) rfl ?_
      refine g_getF X hx hZ hown (hw _ (List.mem_of_getElem? (i := 11) rfl)) eT F_q_nodes (hb hby d6_25) (pc' := 28) rfl (fun T X eT => ?_)
      refine g_len X hx hZ eT A_r1.2 (hb hby d6_28) (x := nI) hnI (pc' := 29) rfl ?_
      refine g_aloadN X hx (hb hby d6_29) rfl rfl (pc' := 30) rfl ?_
      refine g_getF X hx hZ hown (hw _ (List.mem_of_getElem? (i := 37) rfl)) eT F_q_head (hb hby d6_30) (pc' := 33) rfl (fun T X eT => ?_)
      refine g_isub X hx (hb hby d6_33) (pc' := 34) rfl ?_
      refine g_istoreN X hx (hb hby d6_34) (Ls' := #[.val (.ref q), .val (.int x), .val (.int (nI - hd))]) rfl (pc' := 35) rfl ?_
      refine g_aloadN X hx (hb hby d6_35) rfl rfl (pc' := 36) rfl ?_
      refine g_getF X hx hZ hown (hw _ (List.mem_of_getElem? (i := 11) rfl)) eT F_q_nodes (hb hby d6_36) (pc' := 39) rfl (fun T X eT => ?_)
      refine g_aloadN X hx (hb hby d6_39) rfl rfl (pc' := 40) rfl ?_
      refine g_getF X hx hZ hown (hw _ (List.mem_of_getElem? (i := 27) rfl)) eT F_q_count (hb hby d6_40) (pc' := 43) rfl (fun T X eT => ?_)
      refine g_iloadN X hx (hb hby d6_43) rfl (pc' := 44) rfl ?_
      refine g_icmp X hx (hb hby d6_44) (by decide) (pc' := 59) (by decide) (pc2 := 47) rfl (fun hc => ?_) (fun hc => ?_)
      · replace hc := h_ge1 hc
        have hc44 := hc
        refine g_aloadN X hx (hb hby d6_59) rfl rfl (pc' := 60) rfl ?_
        refine g_getF X hx hZ hown (hw _ (List.mem_of_getElem? (i := 27) rfl)) eT F_q_count (hb hby d6_60) (pc' := 63) rfl (fun T X eT => ?_)
        refine g_iloadN X hx (hb hby d6_63) rfl (pc' := 64) rfl ?_
        refine g_isub X hx (hb hby d6_64) (pc' := 65) rfl ?_
        refine g_iloadN X hx (hb hby d6_65) rfl (pc' := 66) rfl ?_
        refine g_iastore X hx hZ eT A_r1.2 (hb hby d6_66) (na3 I hx4 hxn hc6 hc14 _ (fun z => absurd z hc44) (fun _ => rfl)).1 (na3 I hx4 hxn hc6 hc14 _ (fun z => absurd z hc44) (fun _ => rfl)).2.1 (pc' := 67) rfl (fun T h X eT W A' => ?_)
        replace F_q_nodes := F_q_nodes.other W (Or.inl ne_q_r1)
        replace F_q_queued := F_q_queued.other W (Or.inl ne_q_r1)
        replace F_q_head := F_q_head.other W (Or.inl ne_q_r1)
        replace F_q_count := F_q_count.other W (Or.inl ne_q_r1)
        replace F_q_everyFrom := F_q_everyFrom.other W (Or.inl ne_q_r1)
        replace E_q := E_q.wr W
        replace A_r2 := A_r2.other W (Ne.symm ne_r1_r2)
        replace N := Fr.snoc X N g_r1
        replace Zn := Nat.le_trans Zn (Nat.le_of_eq W.size.symm)
        replace K := K.wr W (Or.inl (List.mem_of_getElem? (i := 1) rfl))
        replace A_r1 : Al Z h r1 .int n (L.set (ct - (nI - hd)).toNatClampNeg x) := A_r1.set A'
        refine g_aloadN X hx (hb hby d6_67) rfl rfl (pc' := 68) rfl ?_
        refine g_dup X hx (hb hby d6_68) rfl (pc' := 69) rfl ?_
        refine g_getF X hx hZ hown (hw _ (List.mem_of_getElem? (i := 27) rfl)) eT F_q_count (hb hby d6_69) (pc' := 72) rfl (fun T X eT => ?_)
        refine g_iconst X hx (hb hby d6_72) (x := (1 : Int32)) (by decide) (pc' := 73) rfl ?_
        refine g_iadd X hx (hb hby d6_73) (pc' := 74) rfl ?_
        refine g_putF X hx hZ hown (hw _ (List.mem_of_getElem? (i := 27) rfl)) eT F_q_count E_q (Or.inl (hw _ (List.mem_of_getElem? (i := 28) rfl))) (hw _ (List.mem_of_getElem? (i := 3) rfl)) (ty := .int) (by decide) rfl rfl (hb hby d6_74) (pc' := 77) rfl (fun T h X eT W => ?_)
        replace F_q_nodes := F_q_nodes.other W (Or.inr (slot_ne (t := (.array .int)) (t' := .int) (Or.inr (hw _ (List.mem_of_getElem? (i := 12) rfl))) (Or.inl (hw _ (List.mem_of_getElem? (i := 28) rfl))) (by decide) (by decide) (by decide)))
        replace F_q_queued := F_q_queued.other W (Or.inr (slot_ne (t := (.array .boolean)) (t' := .int) (Or.inr (hw _ (List.mem_of_getElem? (i := 15) rfl))) (Or.inl (hw _ (List.mem_of_getElem? (i := 28) rfl))) (by decide) (by decide) (by decide)))
        replace F_q_head := F_q_head.other W (Or.inr (slot_ne (t := .int) (t' := .int) (Or.inl (hw _ (List.mem_of_getElem? (i := 38) rfl))) (Or.inl (hw _ (List.mem_of_getElem? (i := 28) rfl))) (by decide) (by decide) (by decide)))
        replace F_q_count := F_q_count.same W
        replace F_q_everyFrom := F_q_everyFrom.other W (Or.inr (slot_ne (t := .int) (t' := .int) (Or.inl (hw _ (List.mem_of_getElem? (i := 17) rfl))) (Or.inl (hw _ (List.mem_of_getElem? (i := 28) rfl))) (by decide) (by decide) (by decide)))
        replace E_q := E_q.wr W
        replace A_r1 := A_r1.other W (Ne.symm ne_q_r1)
        replace A_r2 := A_r2.other W (Ne.symm ne_q_r2)
        replace N := Fr.snoc X N g_q
        replace Zn := Nat.le_trans Zn (Nat.le_of_eq W.size.symm)
        replace K := K.wr W (Or.inl (List.mem_of_getElem? (i := 0) rfl))
        refine g_ret0 X hx hret hlk (hb hby d6_77) (by decide) (by decide) ?_
        rw [eT]
        exact ⟨_, _, _, rfl, N, K, F_q_nodes, F_q_queued, F_q_head, F_q_count, F_q_everyFrom, A_r1, A_r2, (na3 I hx4 hxn hc6 hc14 _ (fun z => absurd z hc44) (fun _ => rfl)).2.2⟩
      · replace hc := h_ge0 hc
        have hc44 := hc
        refine g_aloadN X hx (hb hby d6_47) rfl rfl (pc' := 48) rfl ?_
        refine g_getF X hx hZ hown (hw _ (List.mem_of_getElem? (i := 37) rfl)) eT F_q_head (hb hby d6_48) (pc' := 51) rfl (fun T X eT => ?_)
        refine g_aloadN X hx (hb hby d6_51) rfl rfl (pc' := 52) rfl ?_
        refine g_getF X hx hZ hown (hw _ (List.mem_of_getElem? (i := 27) rfl)) eT F_q_count (hb hby d6_52) (pc' := 55) rfl (fun T X eT => ?_)
        refine g_iadd X hx (hb hby d6_55) (pc' := 56) rfl ?_
        refine g_goto X hx (hb hby d6_56) (by decide) (pc' := 65) (by decide) ?_
        refine g_iloadN X hx (hb hby d6_65) rfl (pc' := 66) rfl ?_
        refine g_iastore X hx hZ eT A_r1.2 (hb hby d6_66) (na3 I hx4 hxn hc6 hc14 _ (fun _ => rfl) (fun z => absurd hc44 z)).1 (na3 I hx4 hxn hc6 hc14 _ (fun _ => rfl) (fun z => absurd hc44 z)).2.1 (pc' := 67) rfl (fun T h X eT W A' => ?_)
        replace F_q_nodes := F_q_nodes.other W (Or.inl ne_q_r1)
        replace F_q_queued := F_q_queued.other W (Or.inl ne_q_r1)
        replace F_q_head := F_q_head.other W (Or.inl ne_q_r1)
        replace F_q_count := F_q_count.other W (Or.inl ne_q_r1)
        replace F_q_everyFrom := F_q_everyFrom.other W (Or.inl ne_q_r1)
        replace E_q := E_q.wr W
        replace A_r2 := A_r2.other W (Ne.symm ne_r1_r2)
        replace N := Fr.snoc X N g_r1
        replace Zn := Nat.le_trans Zn (Nat.le_of_eq W.size.symm)
        replace K := K.wr W (Or.inl (List.mem_of_getElem? (i := 1) rfl))
        replace A_r1 : Al Z h r1 .int n (L.set (hd + ct).toNatClampNeg x) := A_r1.set A'
        refine g_aloadN X hx (hb hby d6_67) rfl rfl (pc' := 68) rfl ?_
        refine g_dup X hx (hb hby d6_68) rfl (pc' := 69) rfl ?_
        refine g_getF X hx hZ hown (hw _ (List.mem_of_getElem? (i := 27) rfl)) eT F_q_count (hb hby d6_69) (pc' := 72) rfl (fun T X eT => ?_)
        refine g_iconst X hx (hb hby d6_72) (x := (1 : Int32)) (by decide) (pc' := 73) rfl ?_
        refine g_iadd X hx (hb hby d6_73) (pc' := 74) rfl ?_
        refine g_putF X hx hZ hown (hw _ (List.mem_of_getElem? (i := 27) rfl)) eT F_q_count E_q (Or.inl (hw _ (List.mem_of_getElem? (i := 28) rfl))) (hw _ (List.mem_of_getElem? (i := 3) rfl)) (ty := .int) (by decide) rfl rfl (hb hby d6_74) (pc' := 77) rfl (fun T h X eT W => ?_)
        replace F_q_nodes := F_q_nodes.other W (Or.inr (slot_ne (t := (.array .int)) (t' := .int) (Or.inr (hw _ (List.mem_of_getElem? (i := 12) rfl))) (Or.inl (hw _ (List.mem_of_getElem? (i := 28) rfl))) (by decide) (by decide) (by decide)))
        replace F_q_queued := F_q_queued.other W (Or.inr (slot_ne (t := (.array .boolean)) (t' := .int) (Or.inr (hw _ (List.mem_of_getElem? (i := 15) rfl))) (Or.inl (hw _ (List.mem_of_getElem? (i := 28) rfl))) (by decide) (by decide) (by decide)))
        replace F_q_head := F_q_head.other W (Or.inr (slot_ne (t := .int) (t' := .int) (Or.inl (hw _ (List.mem_of_getElem? (i := 38) rfl))) (Or.inl (hw _ (List.mem_of_getElem? (i := 28) rfl))) (by decide) (by decide) (by decide)))
        replace F_q_count := F_q_count.same W
        replace F_q_everyFrom := F_q_everyFrom.other W (Or.inr (slot_ne (t := .int) (t' := .int) (Or.inl (hw _ (List.mem_of_getElem? (i := 17) rfl))) (Or.inl (hw _ (List.mem_of_getElem? (i := 28) rfl))) (by decide) (by decide) (by decide)))
        replace E_q := E_q.wr W
        replace A_r1 := A_r1.other W (Ne.symm ne_q_r1)
        replace A_r2 := A_r2.other W (Ne.symm ne_q_r2)
        replace N := Fr.snoc X N g_q
        replace Zn := Nat.le_trans Zn (Nat.le_of_eq W.size.symm)
        replace K := K.wr W (Or.inl (List.mem_of_getElem? (i := 0) rfl))
        refine g_ret0 X hx hret hlk (hb hby d6_77) (by decide) (by decide) ?_
        rw [eT]
        exact ⟨_, _, _, rfl, N, K, F_q_nodes, F_q_queued, F_q_head, F_q_count, F_q_everyFrom, A_r1, A_r2, (na3 I hx4 hxn hc6 hc14 _ (fun _ => rfl) (fun z => absurd hc44 z)).2.2⟩
theorem d9_0 : decode prog_127_method_3_code 0 = .ok (.aload_n 0, 1) := by decide +kernel
theorem d9_1 : decode prog_127_method_3_code 1 = .ok (.getfield 24, 3) := by decide +kernel
theorem d9_4 : decode prog_127_method_3_code 4 = .ok (.ifCond .gt 15, 3) := by decide +kernel
theorem d9_7 : decode prog_127_method_3_code 7 = .ok (.aload_n 0, 1) := by decide +kernel
theorem d9_8 : decode prog_127_method_3_code 8 = .ok (.getfield 17, 3) := by decide +kernel
theorem d9_11 : decode prog_127_method_3_code 11 = .ok (.aload_n 0, 1) := by decide +kernel
theorem d9_12 : decode prog_127_method_3_code 12 = .ok (.getfield 7, 3) := by decide +kernel
theorem d9_15 : decode prog_127_method_3_code 15 = .ok (.arraylength, 1) := by decide +kernel
theorem d9_16 : decode prog_127_method_3_code 16 = .ok (.if_icmp .ge 13, 3) := by decide +kernel
theorem d9_19 : decode prog_127_method_3_code 19 = .ok (.new 27, 3) := by decide +kernel
theorem d9_22 : decode prog_127_method_3_code 22 = .ok (.dup, 1) := by decide +kernel
theorem d9_23 : decode prog_127_method_3_code 23 = .ok (.ldc 29, 2) := by decide +kernel
theorem d9_25 : decode prog_127_method_3_code 25 = .ok (.invokespecial 31, 3) := by decide +kernel
theorem d9_28 : decode prog_127_method_3_code 28 = .ok (.athrow, 1) := by decide +kernel
theorem d9_29 : decode prog_127_method_3_code 29 = .ok (.aload_n 0, 1) := by decide +kernel
theorem d9_30 : decode prog_127_method_3_code 30 = .ok (.iconst 0, 1) := by decide +kernel
theorem d9_31 : decode prog_127_method_3_code 31 = .ok (.putfield 17, 3) := by decide +kernel
theorem d9_34 : decode prog_127_method_3_code 34 = .ok (.return_, 1) := by decide +kernel
theorem pl_9 : plainFor (⟨"com/example/storewatch/storewatch/graph/NodeQueue", "addEvery", "()V"⟩ : MethodName) = true := plainFor_of_name (by first | (simp [plainName, overriddenIn]; done) | decide +kernel)
theorem ef_rmE (m : MethodId) (z0 : Addr) : entryFrame m #[(.ref z0)] 1 = mkF m 0 #[.val (.ref z0)] [] := by first | (simp [entryFrame, mkF, argsToLocals, Value.category]; done) | rfl
set_option maxRecDepth 65536 in
set_option maxHeartbeats 40000000 in
theorem rmE (l : Launch) (Z : State) (a0 : Array Value) (hw : ∀ d ∈ tables_1, d.before a0 Z = true) (q : Addr) (r1 : Addr) (r2 : Addr) (n : Nat) (nI : Int32) (L : List Int32) (M : List Int32) (hd : Int32) (h0 : Heap) (n0 : Nat) (Zn : n0 ≤ h0.size) (E_q : Exa Z h0 q "com/example/storewatch/storewatch/graph/NodeQueue") (F_q_nodes : Fld Z h0 q "com/example/storewatch/storewatch/graph/NodeQueue" "nodes" "[I" (.ref r1)) (F_q_queued : Fld Z h0 q "com/example/storewatch/storewatch/graph/NodeQueue" "queued" "[Z" (.ref r2)) (F_q_head : Fld Z h0 q "com/example/storewatch/storewatch/graph/NodeQueue" "head" "I" (.int hd)) (F_q_count : Fld Z h0 q "com/example/storewatch/storewatch/graph/NodeQueue" "count" "I" (.int (0 : Int32))) (F_q_everyFrom : Fld Z h0 q "com/example/storewatch/storewatch/graph/NodeQueue" "everyFrom" "I" (.int nI)) (A_r1 : Al Z h0 r1 .int n L) (A_r2 : Al Z h0 r2 .boolean n M) (ne_q_r1 : q ≠ r1) (ne_q_r2 : q ≠ r2) (ne_r1_r2 : r1 ≠ r2) (g_q : n0 ≤ q) (g_r1 : n0 ≤ r1) (g_r2 : n0 ≤ r2) (hnI : Nat.toInt32 n = nI) :
    WCt l Z (⟨"com/example/storewatch/storewatch/graph/NodeQueue", "addEvery", "()V"⟩ : MethodName) prog_127_method_3_code 1 none ({ frames := 0, cells := 0, slots := 0, locals := 0 } : Room) #[(.ref q)] h0 (fun vv hh LL => (vv = none) ∧ (Fr n0 LL) ∧ (Keep h0 hh [q]) ∧ (Fld Z hh q "com/example/storewatch/storewatch/graph/NodeQueue" "nodes" "[I" (.ref r1)) ∧ (Fld Z hh q "com/example/storewatch/storewatch/graph/NodeQueue" "queued" "[Z" (.ref r2)) ∧ (Fld Z hh q "com/example/storewatch/storewatch/graph/NodeQueue" "head" "I" (.int hd)) ∧ (Fld Z hh q "com/example/storewatch/storewatch/graph/NodeQueue" "count" "I" (.int (0 : Int32))) ∧ (Fld Z hh q "com/example/storewatch/storewatch/graph/NodeQueue" "everyFrom" "I" (.int (0 : Int32))) ∧ (Al Z hh r1 .int n L) ∧ (Al Z hh r2 .boolean n M)) := by
  refine WCt.of pl_9 ?_
  intro p e s m below meth c T hx hby hml hown hnm hret hlk hZ hh0 X eT
  have hown : s.vm.findClass "com/example/storewatch/storewatch/graph/NodeQueue" = some m.cls := hown
  have hnm : meth.name = "addEvery" := hnm
  have N := Fr.nil n0
  obtain ⟨h, eh⟩ : ∃ h, h = h0 := ⟨_, rfl⟩
  have K : Keep h0 h [q] := by rw [eh]; exact Keep.refl _ _
  refine WGo.cast (ef_rmE m q) ?_
  rw [← eh] at eT Zn E_q F_q_nodes F_q_queued F_q_head F_q_count F_q_everyFrom A_r1 A_r2
  refine g_aloadN X hx (hb hby d9_0) rfl rfl (pc' := 1) rfl ?_
  refine g_getF X hx hZ hown (hw _ (List.mem_of_getElem? (i := 27) rfl)) eT F_q_count (hb hby d9_1) (pc' := 4) rfl (fun T X eT => ?_)
  refine g_if X hx (hb hby d9_4) (by decide) (pc' := 19) (by decide) (pc2 := 7) rfl (fun hc => ?_) (fun hc => ?_)
  · replace hc := h_gt1 hc
    have hc4 := hc
    exfalso
    clear hc4; revert hc; decide
  · replace hc := h_gt0 hc
    have hc4 := hc
    refine g_aloadN X hx (hb hby d9_7) rfl rfl (pc' := 8) rfl ?_
    refine g_getF X hx hZ hown (hw _ (List.mem_of_getElem? (i := 16) rfl)) eT F_q_everyFrom (hb hby d9_8) (pc' := 11) rfl (fun T X eT => ?_)
    refine g_aloadN X hx (hb hby d9_11) rfl rfl (pc' := 12) rfl ?_
    refine g_getF X hx hZ hown (hw _ (List.mem_of_getElem? (i := 11) rfl)) eT F_q_nodes (hb hby d9_12) (pc' := 15) rfl (fun T X eT => ?_)
    refine g_len X hx hZ eT A_r1.2 (hb hby d9_15) (x := nI) hnI (pc' := 16) rfl ?_
    refine g_icmp X hx (hb hby d9_16) (by decide) (pc' := 29) (by decide) (pc2 := 19) rfl (fun hc => ?_) (fun hc => ?_)
    · replace hc := h_ge1 hc
      have hc16 := hc
      refine g_aloadN X hx (hb hby d9_29) rfl rfl (pc' := 30) rfl ?_
      refine g_iconst X hx (hb hby d9_30) (x := (0 : Int32)) (by decide) (pc' := 31) rfl ?_
      refine g_putF X hx hZ hown (hw _ (List.mem_of_getElem? (i := 16) rfl)) eT F_q_everyFrom E_q (Or.inl (hw _ (List.mem_of_getElem? (i := 17) rfl))) (hw _ (List.mem_of_getElem? (i := 3) rfl)) (ty := .int) (by decide) rfl rfl (hb hby d9_31) (pc' := 34) rfl (fun T h X eT W => ?_)
      replace F_q_nodes := F_q_nodes.other W (Or.inr (slot_ne (t := (.array .int)) (t' := .int) (Or.inr (hw _ (List.mem_of_getElem? (i := 12) rfl))) (Or.inl (hw _ (List.mem_of_getElem? (i := 17) rfl))) (by decide) (by decide) (by decide)))
      replace F_q_queued := F_q_queued.other W (Or.inr (slot_ne (t := (.array .boolean)) (t' := .int) (Or.inr (hw _ (List.mem_of_getElem? (i := 15) rfl))) (Or.inl (hw _ (List.mem_of_getElem? (i := 17) rfl))) (by decide) (by decide) (by decide)))
      replace F_q_head := F_q_head.other W (Or.inr (slot_ne (t := .int) (t' := .int) (Or.inl (hw _ (List.mem_of_getElem? (i := 38) rfl))) (Or.inl (hw _ (List.mem_of_getElem? (i := 17) rfl))) (by decide) (by decide) (by decide)))
      replace F_q_count := F_q_count.other W (Or.inr (slot_ne (t := .int) (t' := .int) (Or.inl (hw _ (List.mem_of_getElem? (i := 28) rfl))) (Or.inl (hw _ (List.mem_of_getElem? (i := 17) rfl))) (by decide) (by decide) (by decide)))
      replace F_q_everyFrom := F_q_everyFrom.same W
      replace E_q := E_q.wr W
      replace A_r1 := A_r1.other W (Ne.symm ne_q_r1)
      replace A_r2 := A_r2.other W (Ne.symm ne_q_r2)
      replace N := Fr.snoc X N g_q
      replace Zn := Nat.le_trans Zn (Nat.le_of_eq W.size.symm)
      replace K := K.wr W (Or.inl (List.mem_of_getElem? (i := 0) rfl))
      refine g_ret0 X hx hret hlk (hb hby d9_34) (by decide) (by decide) ?_
      rw [eT]
      exact ⟨rfl, N, K, F_q_nodes, F_q_queued, F_q_head, F_q_count, F_q_everyFrom, A_r1, A_r2⟩
    · replace hc := h_ge0 hc
      have hc16 := hc
      exfalso
      exact Int32.lt_irrefl hc
theorem d8_0 : decode method_2_code 0 = .ok (.aload_n 0, 1) := by decide +kernel
theorem d8_1 : decode method_2_code 1 = .ok (.iconst 4, 1) := by decide +kernel
theorem d8_2 : decode method_2_code 2 = .ok (.iaload, 1) := by decide +kernel
theorem d8_3 : decode method_2_code 3 = .ok (.istore_n 2, 1) := by decide +kernel
theorem d8_4 : decode method_2_code 4 = .ok (.iload_n 2, 1) := by decide +kernel
theorem d8_5 : decode method_2_code 5 = .ok (.ifCond .le 10, 3) := by decide +kernel
theorem d8_8 : decode method_2_code 8 = .ok (.aload_n 0, 1) := by decide +kernel
theorem d8_9 : decode method_2_code 9 = .ok (.iconst 0, 1) := by decide +kernel
theorem d8_10 : decode method_2_code 10 = .ok (.iaload, 1) := by decide +kernel
theorem d8_11 : decode method_2_code 11 = .ok (.iload_n 1, 1) := by decide +kernel
theorem d8_12 : decode method_2_code 12 = .ok (.if_icmp .eq 39, 3) := by decide +kernel
theorem d8_15 : decode method_2_code 15 = .ok (.iload_n 2, 1) := by decide +kernel
theorem d8_16 : decode method_2_code 16 = .ok (.iconst 1, 1) := by decide +kernel
theorem d8_17 : decode method_2_code 17 = .ok (.if_icmp .le 10, 3) := by decide +kernel
theorem d8_20 : decode method_2_code 20 = .ok (.aload_n 0, 1) := by decide +kernel
theorem d8_21 : decode method_2_code 21 = .ok (.iconst 1, 1) := by decide +kernel
theorem d8_22 : decode method_2_code 22 = .ok (.iaload, 1) := by decide +kernel
theorem d8_23 : decode method_2_code 23 = .ok (.iload_n 1, 1) := by decide +kernel
theorem d8_24 : decode method_2_code 24 = .ok (.if_icmp .eq 27, 3) := by decide +kernel
theorem d8_27 : decode method_2_code 27 = .ok (.iload_n 2, 1) := by decide +kernel
theorem d8_28 : decode method_2_code 28 = .ok (.iconst 2, 1) := by decide +kernel
theorem d8_29 : decode method_2_code 29 = .ok (.if_icmp .le 10, 3) := by decide +kernel
theorem d8_32 : decode method_2_code 32 = .ok (.aload_n 0, 1) := by decide +kernel
theorem d8_33 : decode method_2_code 33 = .ok (.iconst 2, 1) := by decide +kernel
theorem d8_34 : decode method_2_code 34 = .ok (.iaload, 1) := by decide +kernel
theorem d8_35 : decode method_2_code 35 = .ok (.iload_n 1, 1) := by decide +kernel
theorem d8_36 : decode method_2_code 36 = .ok (.if_icmp .eq 15, 3) := by decide +kernel
theorem d8_39 : decode method_2_code 39 = .ok (.iload_n 2, 1) := by decide +kernel
theorem d8_40 : decode method_2_code 40 = .ok (.iconst 3, 1) := by decide +kernel
theorem d8_41 : decode method_2_code 41 = .ok (.if_icmp .le 14, 3) := by decide +kernel
theorem d8_44 : decode method_2_code 44 = .ok (.aload_n 0, 1) := by decide +kernel
theorem d8_45 : decode method_2_code 45 = .ok (.iconst 3, 1) := by decide +kernel
theorem d8_46 : decode method_2_code 46 = .ok (.iaload, 1) := by decide +kernel
theorem d8_47 : decode method_2_code 47 = .ok (.iload_n 1, 1) := by decide +kernel
theorem d8_48 : decode method_2_code 48 = .ok (.if_icmp .ne 7, 3) := by decide +kernel
theorem d8_51 : decode method_2_code 51 = .ok (.iconst 1, 1) := by decide +kernel
theorem d8_52 : decode method_2_code 52 = .ok (.goto 4, 3) := by decide +kernel
theorem d8_55 : decode method_2_code 55 = .ok (.iconst 0, 1) := by decide +kernel
theorem d8_56 : decode method_2_code 56 = .ok (.ireturn, 1) := by decide +kernel
theorem pl_8 : plainFor (⟨"com/example/storewatch/storewatch/graph/NodeQueuePollPinLaw", "has", "([II)Z"⟩ : MethodName) = true := plainFor_of_name (by first | (simp [plainName, overriddenIn]; done) | decide +kernel)
theorem ef_rmC (m : MethodId) (z0 : Addr) (z1 : Int32) : entryFrame m #[(.ref z0), (.int z1)] 3 = mkF m 0 #[.val (.ref z0), .val (.int z1), .unset] [] := by first | (simp [entryFrame, mkF, argsToLocals, Value.category]; done) | rfl
set_option maxRecDepth 65536 in
set_option maxHeartbeats 40000000 in
theorem rmC (l : Launch) (Z : State) (a0 : Array Value) (hw : ∀ d ∈ tables_1, d.before a0 Z = true) (g : Addr) (s0 : Int32) (s1 : Int32) (s2 : Int32) (s3 : Int32) (s4 : Int32) (P : List Int32) (x : Int32) (h0 : Heap) (n0 : Nat) (Zn : n0 ≤ h0.size) (A_g : Al Z h0 g .int 5 [s0, s1, s2, s3, s4]) (J : MI s0 s1 s2 s3 s4 P) :
    WCt l Z (⟨"com/example/storewatch/storewatch/graph/NodeQueuePollPinLaw", "has", "([II)Z"⟩ : MethodName) method_2_code 3 (some .boolean) ({ frames := 0, cells := 0, slots := 0, locals := 0 } : Room) #[(.ref g), (.int x)] h0 (fun vv hh LL => (vv = some (.int (if P.contains x then (1 : Int32) else 0))) ∧ (Fr n0 LL) ∧ (hh = h0)) := by
  refine WCt.of pl_8 ?_
  intro p e s m below meth c T hx hby hml hown hnm hret hlk hZ hh0 X eT
  have hown : s.vm.findClass "com/example/storewatch/storewatch/graph/NodeQueuePollPinLaw" = some m.cls := hown
  have hnm : meth.name = "has" := hnm
  have N := Fr.nil n0
  obtain ⟨h, eh⟩ : ∃ h, h = h0 := ⟨_, rfl⟩
  have K : Keep h0 h [] := by rw [eh]; exact Keep.refl _ _
  refine WGo.cast (ef_rmC m g x) ?_
  rw [← eh] at eT Zn A_g
  refine g_aloadN X hx (hb hby d8_0) rfl rfl (pc' := 1) rfl ?_
  refine g_iconst X hx (hb hby d8_1) (x := (4 : Int32)) (by decide) (pc' := 2) rfl ?_
  refine g_iaload X hx hZ eT A_g.2 (hb hby d8_2) (by decide) (by decide) (v := (.int s4)) rfl (pc' := 3) rfl ?_
  refine g_istoreN X hx (hb hby d8_3) (Ls' := #[.val (.ref g), .val (.int x), .val (.int s4)]) rfl (pc' := 4) rfl ?_
  refine g_iloadN X hx (hb hby d8_4) rfl (pc' := 5) rfl ?_
  refine g_if X hx (hb hby d8_5) (by decide) (pc' := 15) (by decide) (pc2 := 8) rfl (fun hc => ?_) (fun hc => ?_)
  · replace hc := h_le1 hc
    have hc5 := hc
    refine g_iloadN X hx (hb hby d8_15) rfl (pc' := 16) rfl ?_
    refine g_iconst X hx (hb hby d8_16) (x := (1 : Int32)) (by decide) (pc' := 17) rfl ?_
    refine g_icmp X hx (hb hby d8_17) (by decide) (pc' := 27) (by decide) (pc2 := 20) rfl (fun hc => ?_) (fun hc => ?_)
    · replace hc := h_le1 hc
      have hc17 := hc
      refine g_iloadN X hx (hb hby d8_27) rfl (pc' := 28) rfl ?_
      refine g_iconst X hx (hb hby d8_28) (x := (2 : Int32)) (by decide) (pc' := 29) rfl ?_
      refine g_icmp X hx (hb hby d8_29) (by decide) (pc' := 39) (by decide) (pc2 := 32) rfl (fun hc => ?_) (fun hc => ?_)
      · replace hc := h_le1 hc
        have hc29 := hc
        refine g_iloadN X hx (hb hby d8_39) rfl (pc' := 40) rfl ?_
        refine g_iconst X hx (hb hby d8_40) (x := (3 : Int32)) (by decide) (pc' := 41) rfl ?_
        refine g_icmp X hx (hb hby d8_41) (by decide) (pc' := 55) (by decide) (pc2 := 44) rfl (fun hc => ?_) (fun hc => ?_)
        · replace hc := h_le1 hc
          have hc41 := hc
          refine g_iconst X hx (hb hby d8_55) (x := (0 : Int32)) (by decide) (pc' := 56) rfl ?_
          refine g_retN (t := .boolean) X hx hret (by simp) hlk (hb hby d8_56) (by decide) (by decide) ?_
          rw [eT]
          refine ⟨congrArg (fun z => some (Value.int z)) ?_, N, eh⟩
          have q0 : nar .boolean (0 : Int32) = (0 : Int32) := by decide
          rw [q0]
          rcases J with ⟨rfl, rfl⟩ | ⟨rfl, rfl⟩ | ⟨rfl, rfl⟩ | ⟨rfl, rfl⟩ | ⟨rfl, rfl⟩
          · rw [if_neg (by simp [])]
          · exact absurd (by decide) hc5
          · exact absurd (by decide) hc17
          · exact absurd (by decide) hc29
          · exact absurd (by decide) hc41
        · replace hc := h_le0 hc
          have hc41 := hc
          refine g_aloadN X hx (hb hby d8_44) rfl rfl (pc' := 45) rfl ?_
          refine g_iconst X hx (hb hby d8_45) (x := (3 : Int32)) (by decide) (pc' := 46) rfl ?_
          refine g_iaload X hx hZ eT A_g.2 (hb hby d8_46) (by decide) (by decide) (v := (.int s3)) rfl (pc' := 47) rfl ?_
          refine g_iloadN X hx (hb hby d8_47) rfl (pc' := 48) rfl ?_
          refine g_icmp X hx (hb hby d8_48) (by decide) (pc' := 55) (by decide) (pc2 := 51) rfl (fun hc => ?_) (fun hc => ?_)
          · replace hc := h_ne1 hc
            have hc48 := hc
            refine g_iconst X hx (hb hby d8_55) (x := (0 : Int32)) (by decide) (pc' := 56) rfl ?_
            refine g_retN (t := .boolean) X hx hret (by simp) hlk (hb hby d8_56) (by decide) (by decide) ?_
            rw [eT]
            refine ⟨congrArg (fun z => some (Value.int z)) ?_, N, eh⟩
            have q0 : nar .boolean (0 : Int32) = (0 : Int32) := by decide
            rw [q0]
            rcases J with ⟨rfl, rfl⟩ | ⟨rfl, rfl⟩ | ⟨rfl, rfl⟩ | ⟨rfl, rfl⟩ | ⟨rfl, rfl⟩
            · exact absurd hc41 (by decide)
            · exact absurd hc41 (by decide)
            · exact absurd hc41 (by decide)
            · exact absurd hc41 (by decide)
            · exact absurd (by decide) hc29
          · replace hc := h_ne0 hc
            have hc48 := hc
            refine g_iconst X hx (hb hby d8_51) (x := (1 : Int32)) (by decide) (pc' := 52) rfl ?_
            refine g_goto X hx (hb hby d8_52) (by decide) (pc' := 56) (by decide) ?_
            refine g_retN (t := .boolean) X hx hret (by simp) hlk (hb hby d8_56) (by decide) (by decide) ?_
            rw [eT]
            refine ⟨congrArg (fun z => some (Value.int z)) ?_, N, eh⟩
            have q0 : nar .boolean (1 : Int32) = (1 : Int32) := by decide
            rw [q0]
            rcases J with ⟨rfl, rfl⟩ | ⟨rfl, rfl⟩ | ⟨rfl, rfl⟩ | ⟨rfl, rfl⟩ | ⟨rfl, rfl⟩
            · exact absurd hc41 (by decide)
            · exact absurd hc41 (by decide)
            · exact absurd hc41 (by decide)
            · exact absurd hc41 (by decide)
            · exact absurd (by decide) hc29
      · replace hc := h_le0 hc
        have hc29 := hc
        refine g_aloadN X hx (hb hby d8_32) rfl rfl (pc' := 33) rfl ?_
        refine g_iconst X hx (hb hby d8_33) (x := (2 : Int32)) (by decide) (pc' := 34) rfl ?_
        refine g_iaload X hx hZ eT A_g.2 (hb hby d8_34) (by decide) (by decide) (v := (.int s2)) rfl (pc' := 35) rfl ?_
        refine g_iloadN X hx (hb hby d8_35) rfl (pc' := 36) rfl ?_
        refine g_icmp X hx (hb hby d8_36) (by decide) (pc' := 51) (by decide) (pc2 := 39) rfl (fun hc => ?_) (fun hc => ?_)
        · replace hc := h_eq1 hc
          have hc36 := hc
          refine g_iconst X hx (hb hby d8_51) (x := (1 : Int32)) (by decide) (pc' := 52) rfl ?_
          refine g_goto X hx (hb hby d8_52) (by decide) (pc' := 56) (by decide) ?_
          refine g_retN (t := .boolean) X hx hret (by simp) hlk (hb hby d8_56) (by decide) (by decide) ?_
          rw [eT]
          refine ⟨congrArg (fun z => some (Value.int z)) ?_, N, eh⟩
          have q0 : nar .boolean (1 : Int32) = (1 : Int32) := by decide
          rw [q0]
          rcases J with ⟨rfl, rfl⟩ | ⟨rfl, rfl⟩ | ⟨rfl, rfl⟩ | ⟨rfl, rfl⟩ | ⟨rfl, rfl⟩
          · exact absurd hc29 (by decide)
          · exact absurd hc29 (by decide)
          · exact absurd hc29 (by decide)
          · exact absurd (by decide) hc17
          · exact absurd (by decide) hc17
        · replace hc := h_eq0 hc
          have hc36 := hc
          refine g_iloadN X hx (hb hby d8_39) rfl (pc' := 40) rfl ?_
          refine g_iconst X hx (hb hby d8_40) (x := (3 : Int32)) (by decide) (pc' := 41) rfl ?_
          refine g_icmp X hx (hb hby d8_41) (by decide) (pc' := 55) (by decide) (pc2 := 44) rfl (fun hc => ?_) (fun hc => ?_)
          · replace hc := h_le1 hc
            have hc41 := hc
            refine g_iconst X hx (hb hby d8_55) (x := (0 : Int32)) (by decide) (pc' := 56) rfl ?_
            refine g_retN (t := .boolean) X hx hret (by simp) hlk (hb hby d8_56) (by decide) (by decide) ?_
            rw [eT]
            refine ⟨congrArg (fun z => some (Value.int z)) ?_, N, eh⟩
            have q0 : nar .boolean (0 : Int32) = (0 : Int32) := by decide
            rw [q0]
            rcases J with ⟨rfl, rfl⟩ | ⟨rfl, rfl⟩ | ⟨rfl, rfl⟩ | ⟨rfl, rfl⟩ | ⟨rfl, rfl⟩
            · exact absurd hc29 (by decide)
            · exact absurd hc29 (by decide)
            · exact absurd hc29 (by decide)
            · exact absurd (by decide) hc17
            · exact absurd (by decide) hc41
          · replace hc := h_le0 hc
            have hc41 := hc
            refine g_aloadN X hx (hb hby d8_44) rfl rfl (pc' := 45) rfl ?_
            refine g_iconst X hx (hb hby d8_45) (x := (3 : Int32)) (by decide) (pc' := 46) rfl ?_
            refine g_iaload X hx hZ eT A_g.2 (hb hby d8_46) (by decide) (by decide) (v := (.int s3)) rfl (pc' := 47) rfl ?_
            refine g_iloadN X hx (hb hby d8_47) rfl (pc' := 48) rfl ?_
            refine g_icmp X hx (hb hby d8_48) (by decide) (pc' := 55) (by decide) (pc2 := 51) rfl (fun hc => ?_) (fun hc => ?_)
            · replace hc := h_ne1 hc
              have hc48 := hc
              refine g_iconst X hx (hb hby d8_55) (x := (0 : Int32)) (by decide) (pc' := 56) rfl ?_
              refine g_retN (t := .boolean) X hx hret (by simp) hlk (hb hby d8_56) (by decide) (by decide) ?_
              rw [eT]
              refine ⟨congrArg (fun z => some (Value.int z)) ?_, N, eh⟩
              have q0 : nar .boolean (0 : Int32) = (0 : Int32) := by decide
              rw [q0]
              rcases J with ⟨rfl, rfl⟩ | ⟨rfl, rfl⟩ | ⟨rfl, rfl⟩ | ⟨rfl, rfl⟩ | ⟨rfl, rfl⟩
              · exact absurd hc41 (by decide)
              · exact absurd hc41 (by decide)
              · exact absurd hc41 (by decide)
              · exact absurd hc41 (by decide)
              · exact absurd (by decide) hc17
            · replace hc := h_ne0 hc
              have hc48 := hc
              refine g_iconst X hx (hb hby d8_51) (x := (1 : Int32)) (by decide) (pc' := 52) rfl ?_
              refine g_goto X hx (hb hby d8_52) (by decide) (pc' := 56) (by decide) ?_
              refine g_retN (t := .boolean) X hx hret (by simp) hlk (hb hby d8_56) (by decide) (by decide) ?_
              rw [eT]
              refine ⟨congrArg (fun z => some (Value.int z)) ?_, N, eh⟩
              have q0 : nar .boolean (1 : Int32) = (1 : Int32) := by decide
              rw [q0]
              rcases J with ⟨rfl, rfl⟩ | ⟨rfl, rfl⟩ | ⟨rfl, rfl⟩ | ⟨rfl, rfl⟩ | ⟨rfl, rfl⟩
              · exact absurd hc41 (by decide)
              · exact absurd hc41 (by decide)
              · exact absurd hc41 (by decide)
              · exact absurd hc41 (by decide)
              · exact absurd (by decide) hc17
    · replace hc := h_le0 hc
      have hc17 := hc
      refine g_aloadN X hx (hb hby d8_20) rfl rfl (pc' := 21) rfl ?_
      refine g_iconst X hx (hb hby d8_21) (x := (1 : Int32)) (by decide) (pc' := 22) rfl ?_
      refine g_iaload X hx hZ eT A_g.2 (hb hby d8_22) (by decide) (by decide) (v := (.int s1)) rfl (pc' := 23) rfl ?_
      refine g_iloadN X hx (hb hby d8_23) rfl (pc' := 24) rfl ?_
      refine g_icmp X hx (hb hby d8_24) (by decide) (pc' := 51) (by decide) (pc2 := 27) rfl (fun hc => ?_) (fun hc => ?_)
      · replace hc := h_eq1 hc
        have hc24 := hc
        refine g_iconst X hx (hb hby d8_51) (x := (1 : Int32)) (by decide) (pc' := 52) rfl ?_
        refine g_goto X hx (hb hby d8_52) (by decide) (pc' := 56) (by decide) ?_
        refine g_retN (t := .boolean) X hx hret (by simp) hlk (hb hby d8_56) (by decide) (by decide) ?_
        rw [eT]
        refine ⟨congrArg (fun z => some (Value.int z)) ?_, N, eh⟩
        have q0 : nar .boolean (1 : Int32) = (1 : Int32) := by decide
        rw [q0]
        rcases J with ⟨rfl, rfl⟩ | ⟨rfl, rfl⟩ | ⟨rfl, rfl⟩ | ⟨rfl, rfl⟩ | ⟨rfl, rfl⟩
        · exact absurd hc17 (by decide)
        · exact absurd hc17 (by decide)
        · exact absurd (by decide) hc5
        · exact absurd (by decide) hc5
        · exact absurd (by decide) hc5
      · replace hc := h_eq0 hc
        have hc24 := hc
        refine g_iloadN X hx (hb hby d8_27) rfl (pc' := 28) rfl ?_
        refine g_iconst X hx (hb hby d8_28) (x := (2 : Int32)) (by decide) (pc' := 29) rfl ?_
        refine g_icmp X hx (hb hby d8_29) (by decide) (pc' := 39) (by decide) (pc2 := 32) rfl (fun hc => ?_) (fun hc => ?_)
        · replace hc := h_le1 hc
          have hc29 := hc
          refine g_iloadN X hx (hb hby d8_39) rfl (pc' := 40) rfl ?_
          refine g_iconst X hx (hb hby d8_40) (x := (3 : Int32)) (by decide) (pc' := 41) rfl ?_
          refine g_icmp X hx (hb hby d8_41) (by decide) (pc' := 55) (by decide) (pc2 := 44) rfl (fun hc => ?_) (fun hc => ?_)
          · replace hc := h_le1 hc
            have hc41 := hc
            refine g_iconst X hx (hb hby d8_55) (x := (0 : Int32)) (by decide) (pc' := 56) rfl ?_
            refine g_retN (t := .boolean) X hx hret (by simp) hlk (hb hby d8_56) (by decide) (by decide) ?_
            rw [eT]
            refine ⟨congrArg (fun z => some (Value.int z)) ?_, N, eh⟩
            have q0 : nar .boolean (0 : Int32) = (0 : Int32) := by decide
            rw [q0]
            rcases J with ⟨rfl, rfl⟩ | ⟨rfl, rfl⟩ | ⟨rfl, rfl⟩ | ⟨rfl, rfl⟩ | ⟨rfl, rfl⟩
            · exact absurd hc17 (by decide)
            · exact absurd hc17 (by decide)
            · exact absurd (by decide) hc5
            · exact absurd (by decide) hc29
            · exact absurd (by decide) hc41
          · replace hc := h_le0 hc
            have hc41 := hc
            refine g_aloadN X hx (hb hby d8_44) rfl rfl (pc' := 45) rfl ?_
            refine g_iconst X hx (hb hby d8_45) (x := (3 : Int32)) (by decide) (pc' := 46) rfl ?_
            refine g_iaload X hx hZ eT A_g.2 (hb hby d8_46) (by decide) (by decide) (v := (.int s3)) rfl (pc' := 47) rfl ?_
            refine g_iloadN X hx (hb hby d8_47) rfl (pc' := 48) rfl ?_
            refine g_icmp X hx (hb hby d8_48) (by decide) (pc' := 55) (by decide) (pc2 := 51) rfl (fun hc => ?_) (fun hc => ?_)
            · replace hc := h_ne1 hc
              have hc48 := hc
              refine g_iconst X hx (hb hby d8_55) (x := (0 : Int32)) (by decide) (pc' := 56) rfl ?_
              refine g_retN (t := .boolean) X hx hret (by simp) hlk (hb hby d8_56) (by decide) (by decide) ?_
              rw [eT]
              refine ⟨congrArg (fun z => some (Value.int z)) ?_, N, eh⟩
              have q0 : nar .boolean (0 : Int32) = (0 : Int32) := by decide
              rw [q0]
              rcases J with ⟨rfl, rfl⟩ | ⟨rfl, rfl⟩ | ⟨rfl, rfl⟩ | ⟨rfl, rfl⟩ | ⟨rfl, rfl⟩
              · exact absurd hc41 (by decide)
              · exact absurd hc41 (by decide)
              · exact absurd hc41 (by decide)
              · exact absurd hc41 (by decide)
              · exact absurd (by decide) hc29
            · replace hc := h_ne0 hc
              have hc48 := hc
              refine g_iconst X hx (hb hby d8_51) (x := (1 : Int32)) (by decide) (pc' := 52) rfl ?_
              refine g_goto X hx (hb hby d8_52) (by decide) (pc' := 56) (by decide) ?_
              refine g_retN (t := .boolean) X hx hret (by simp) hlk (hb hby d8_56) (by decide) (by decide) ?_
              rw [eT]
              refine ⟨congrArg (fun z => some (Value.int z)) ?_, N, eh⟩
              have q0 : nar .boolean (1 : Int32) = (1 : Int32) := by decide
              rw [q0]
              rcases J with ⟨rfl, rfl⟩ | ⟨rfl, rfl⟩ | ⟨rfl, rfl⟩ | ⟨rfl, rfl⟩ | ⟨rfl, rfl⟩
              · exact absurd hc41 (by decide)
              · exact absurd hc41 (by decide)
              · exact absurd hc41 (by decide)
              · exact absurd hc41 (by decide)
              · exact absurd (by decide) hc29
        · replace hc := h_le0 hc
          have hc29 := hc
          refine g_aloadN X hx (hb hby d8_32) rfl rfl (pc' := 33) rfl ?_
          refine g_iconst X hx (hb hby d8_33) (x := (2 : Int32)) (by decide) (pc' := 34) rfl ?_
          refine g_iaload X hx hZ eT A_g.2 (hb hby d8_34) (by decide) (by decide) (v := (.int s2)) rfl (pc' := 35) rfl ?_
          refine g_iloadN X hx (hb hby d8_35) rfl (pc' := 36) rfl ?_
          refine g_icmp X hx (hb hby d8_36) (by decide) (pc' := 51) (by decide) (pc2 := 39) rfl (fun hc => ?_) (fun hc => ?_)
          · replace hc := h_eq1 hc
            have hc36 := hc
            refine g_iconst X hx (hb hby d8_51) (x := (1 : Int32)) (by decide) (pc' := 52) rfl ?_
            refine g_goto X hx (hb hby d8_52) (by decide) (pc' := 56) (by decide) ?_
            refine g_retN (t := .boolean) X hx hret (by simp) hlk (hb hby d8_56) (by decide) (by decide) ?_
            rw [eT]
            refine ⟨congrArg (fun z => some (Value.int z)) ?_, N, eh⟩
            have q0 : nar .boolean (1 : Int32) = (1 : Int32) := by decide
            rw [q0]
            rcases J with ⟨rfl, rfl⟩ | ⟨rfl, rfl⟩ | ⟨rfl, rfl⟩ | ⟨rfl, rfl⟩ | ⟨rfl, rfl⟩
            · exact absurd hc29 (by decide)
            · exact absurd hc29 (by decide)
            · exact absurd hc29 (by decide)
            · exact absurd (by decide) hc5
            · exact absurd (by decide) hc5
          · replace hc := h_eq0 hc
            have hc36 := hc
            refine g_iloadN X hx (hb hby d8_39) rfl (pc' := 40) rfl ?_
            refine g_iconst X hx (hb hby d8_40) (x := (3 : Int32)) (by decide) (pc' := 41) rfl ?_
            refine g_icmp X hx (hb hby d8_41) (by decide) (pc' := 55) (by decide) (pc2 := 44) rfl (fun hc => ?_) (fun hc => ?_)
            · replace hc := h_le1 hc
              have hc41 := hc
              refine g_iconst X hx (hb hby d8_55) (x := (0 : Int32)) (by decide) (pc' := 56) rfl ?_
              refine g_retN (t := .boolean) X hx hret (by simp) hlk (hb hby d8_56) (by decide) (by decide) ?_
              rw [eT]
              refine ⟨congrArg (fun z => some (Value.int z)) ?_, N, eh⟩
              have q0 : nar .boolean (0 : Int32) = (0 : Int32) := by decide
              rw [q0]
              rcases J with ⟨rfl, rfl⟩ | ⟨rfl, rfl⟩ | ⟨rfl, rfl⟩ | ⟨rfl, rfl⟩ | ⟨rfl, rfl⟩
              · exact absurd hc29 (by decide)
              · exact absurd hc29 (by decide)
              · exact absurd hc29 (by decide)
              · exact absurd (by decide) hc5
              · exact absurd (by decide) hc41
            · replace hc := h_le0 hc
              have hc41 := hc
              refine g_aloadN X hx (hb hby d8_44) rfl rfl (pc' := 45) rfl ?_
              refine g_iconst X hx (hb hby d8_45) (x := (3 : Int32)) (by decide) (pc' := 46) rfl ?_
              refine g_iaload X hx hZ eT A_g.2 (hb hby d8_46) (by decide) (by decide) (v := (.int s3)) rfl (pc' := 47) rfl ?_
              refine g_iloadN X hx (hb hby d8_47) rfl (pc' := 48) rfl ?_
              refine g_icmp X hx (hb hby d8_48) (by decide) (pc' := 55) (by decide) (pc2 := 51) rfl (fun hc => ?_) (fun hc => ?_)
              · replace hc := h_ne1 hc
                have hc48 := hc
                refine g_iconst X hx (hb hby d8_55) (x := (0 : Int32)) (by decide) (pc' := 56) rfl ?_
                refine g_retN (t := .boolean) X hx hret (by simp) hlk (hb hby d8_56) (by decide) (by decide) ?_
                rw [eT]
                refine ⟨congrArg (fun z => some (Value.int z)) ?_, N, eh⟩
                have q0 : nar .boolean (0 : Int32) = (0 : Int32) := by decide
                rw [q0]
                rcases J with ⟨rfl, rfl⟩ | ⟨rfl, rfl⟩ | ⟨rfl, rfl⟩ | ⟨rfl, rfl⟩ | ⟨rfl, rfl⟩
                · exact absurd hc41 (by decide)
                · exact absurd hc41 (by decide)
                · exact absurd hc41 (by decide)
                · exact absurd hc41 (by decide)
                · exact absurd (by decide) hc5
              · replace hc := h_ne0 hc
                have hc48 := hc
                refine g_iconst X hx (hb hby d8_51) (x := (1 : Int32)) (by decide) (pc' := 52) rfl ?_
                refine g_goto X hx (hb hby d8_52) (by decide) (pc' := 56) (by decide) ?_
                refine g_retN (t := .boolean) X hx hret (by simp) hlk (hb hby d8_56) (by decide) (by decide) ?_
                rw [eT]
                refine ⟨congrArg (fun z => some (Value.int z)) ?_, N, eh⟩
                have q0 : nar .boolean (1 : Int32) = (1 : Int32) := by decide
                rw [q0]
                rcases J with ⟨rfl, rfl⟩ | ⟨rfl, rfl⟩ | ⟨rfl, rfl⟩ | ⟨rfl, rfl⟩ | ⟨rfl, rfl⟩
                · exact absurd hc41 (by decide)
                · exact absurd hc41 (by decide)
                · exact absurd hc41 (by decide)
                · exact absurd hc41 (by decide)
                · exact absurd (by decide) hc5
  · replace hc := h_le0 hc
    have hc5 := hc
    refine g_aloadN X hx (hb hby d8_8) rfl rfl (pc' := 9) rfl ?_
    refine g_iconst X hx (hb hby d8_9) (x := (0 : Int32)) (by decide) (pc' := 10) rfl ?_
    refine g_iaload X hx hZ eT A_g.2 (hb hby d8_10) (by decide) (by decide) (v := (.int s0)) rfl (pc' := 11) rfl ?_
    refine g_iloadN X hx (hb hby d8_11) rfl (pc' := 12) rfl ?_
    refine g_icmp X hx (hb hby d8_12) (by decide) (pc' := 51) (by decide) (pc2 := 15) rfl (fun hc => ?_) (fun hc => ?_)
    · replace hc := h_eq1 hc
      have hc12 := hc
      refine g_iconst X hx (hb hby d8_51) (x := (1 : Int32)) (by decide) (pc' := 52) rfl ?_
      refine g_goto X hx (hb hby d8_52) (by decide) (pc' := 56) (by decide) ?_
      refine g_retN (t := .boolean) X hx hret (by simp) hlk (hb hby d8_56) (by decide) (by decide) ?_
      rw [eT]
      refine ⟨congrArg (fun z => some (Value.int z)) ?_, N, eh⟩
      have q0 : nar .boolean (1 : Int32) = (1 : Int32) := by decide
      rw [q0]
      rcases J with ⟨rfl, rfl⟩ | ⟨rfl, rfl⟩ | ⟨rfl, rfl⟩ | ⟨rfl, rfl⟩ | ⟨rfl, rfl⟩
      · exact absurd hc5 (by decide)
      · rw [if_pos (by simp [hc12])]
      · rw [if_pos (by simp [hc12])]
      · rw [if_pos (by simp [hc12])]
      · rw [if_pos (by simp [hc12])]
    · replace hc := h_eq0 hc
      have hc12 := hc
      refine g_iloadN X hx (hb hby d8_15) rfl (pc' := 16) rfl ?_
      refine g_iconst X hx (hb hby d8_16) (x := (1 : Int32)) (by decide) (pc' := 17) rfl ?_
      refine g_icmp X hx (hb hby d8_17) (by decide) (pc' := 27) (by decide) (pc2 := 20) rfl (fun hc => ?_) (fun hc => ?_)
      · replace hc := h_le1 hc
        have hc17 := hc
        refine g_iloadN X hx (hb hby d8_27) rfl (pc' := 28) rfl ?_
        refine g_iconst X hx (hb hby d8_28) (x := (2 : Int32)) (by decide) (pc' := 29) rfl ?_
        refine g_icmp X hx (hb hby d8_29) (by decide) (pc' := 39) (by decide) (pc2 := 32) rfl (fun hc => ?_) (fun hc => ?_)
        · replace hc := h_le1 hc
          have hc29 := hc
          refine g_iloadN X hx (hb hby d8_39) rfl (pc' := 40) rfl ?_
          refine g_iconst X hx (hb hby d8_40) (x := (3 : Int32)) (by decide) (pc' := 41) rfl ?_
          refine g_icmp X hx (hb hby d8_41) (by decide) (pc' := 55) (by decide) (pc2 := 44) rfl (fun hc => ?_) (fun hc => ?_)
          · replace hc := h_le1 hc
            have hc41 := hc
            refine g_iconst X hx (hb hby d8_55) (x := (0 : Int32)) (by decide) (pc' := 56) rfl ?_
            refine g_retN (t := .boolean) X hx hret (by simp) hlk (hb hby d8_56) (by decide) (by decide) ?_
            rw [eT]
            refine ⟨congrArg (fun z => some (Value.int z)) ?_, N, eh⟩
            have q0 : nar .boolean (0 : Int32) = (0 : Int32) := by decide
            rw [q0]
            rcases J with ⟨rfl, rfl⟩ | ⟨rfl, rfl⟩ | ⟨rfl, rfl⟩ | ⟨rfl, rfl⟩ | ⟨rfl, rfl⟩
            · exact absurd hc5 (by decide)
            · rw [if_neg (by simp [show ¬ x = s0 from fun z => hc12 z.symm])]
            · exact absurd (by decide) hc17
            · exact absurd (by decide) hc29
            · exact absurd (by decide) hc41
          · replace hc := h_le0 hc
            have hc41 := hc
            refine g_aloadN X hx (hb hby d8_44) rfl rfl (pc' := 45) rfl ?_
            refine g_iconst X hx (hb hby d8_45) (x := (3 : Int32)) (by decide) (pc' := 46) rfl ?_
            refine g_iaload X hx hZ eT A_g.2 (hb hby d8_46) (by decide) (by decide) (v := (.int s3)) rfl (pc' := 47) rfl ?_
            refine g_iloadN X hx (hb hby d8_47) rfl (pc' := 48) rfl ?_
            refine g_icmp X hx (hb hby d8_48) (by decide) (pc' := 55) (by decide) (pc2 := 51) rfl (fun hc => ?_) (fun hc => ?_)
            · replace hc := h_ne1 hc
              have hc48 := hc
              refine g_iconst X hx (hb hby d8_55) (x := (0 : Int32)) (by decide) (pc' := 56) rfl ?_
              refine g_retN (t := .boolean) X hx hret (by simp) hlk (hb hby d8_56) (by decide) (by decide) ?_
              rw [eT]
              refine ⟨congrArg (fun z => some (Value.int z)) ?_, N, eh⟩
              have q0 : nar .boolean (0 : Int32) = (0 : Int32) := by decide
              rw [q0]
              rcases J with ⟨rfl, rfl⟩ | ⟨rfl, rfl⟩ | ⟨rfl, rfl⟩ | ⟨rfl, rfl⟩ | ⟨rfl, rfl⟩
              · exact absurd hc41 (by decide)
              · exact absurd hc41 (by decide)
              · exact absurd hc41 (by decide)
              · exact absurd hc41 (by decide)
              · exact absurd (by decide) hc29
            · replace hc := h_ne0 hc
              have hc48 := hc
              refine g_iconst X hx (hb hby d8_51) (x := (1 : Int32)) (by decide) (pc' := 52) rfl ?_
              refine g_goto X hx (hb hby d8_52) (by decide) (pc' := 56) (by decide) ?_
              refine g_retN (t := .boolean) X hx hret (by simp) hlk (hb hby d8_56) (by decide) (by decide) ?_
              rw [eT]
              refine ⟨congrArg (fun z => some (Value.int z)) ?_, N, eh⟩
              have q0 : nar .boolean (1 : Int32) = (1 : Int32) := by decide
              rw [q0]
              rcases J with ⟨rfl, rfl⟩ | ⟨rfl, rfl⟩ | ⟨rfl, rfl⟩ | ⟨rfl, rfl⟩ | ⟨rfl, rfl⟩
              · exact absurd hc41 (by decide)
              · exact absurd hc41 (by decide)
              · exact absurd hc41 (by decide)
              · exact absurd hc41 (by decide)
              · exact absurd (by decide) hc29
        · replace hc := h_le0 hc
          have hc29 := hc
          refine g_aloadN X hx (hb hby d8_32) rfl rfl (pc' := 33) rfl ?_
          refine g_iconst X hx (hb hby d8_33) (x := (2 : Int32)) (by decide) (pc' := 34) rfl ?_
          refine g_iaload X hx hZ eT A_g.2 (hb hby d8_34) (by decide) (by decide) (v := (.int s2)) rfl (pc' := 35) rfl ?_
          refine g_iloadN X hx (hb hby d8_35) rfl (pc' := 36) rfl ?_
          refine g_icmp X hx (hb hby d8_36) (by decide) (pc' := 51) (by decide) (pc2 := 39) rfl (fun hc => ?_) (fun hc => ?_)
          · replace hc := h_eq1 hc
            have hc36 := hc
            refine g_iconst X hx (hb hby d8_51) (x := (1 : Int32)) (by decide) (pc' := 52) rfl ?_
            refine g_goto X hx (hb hby d8_52) (by decide) (pc' := 56) (by decide) ?_
            refine g_retN (t := .boolean) X hx hret (by simp) hlk (hb hby d8_56) (by decide) (by decide) ?_
            rw [eT]
            refine ⟨congrArg (fun z => some (Value.int z)) ?_, N, eh⟩
            have q0 : nar .boolean (1 : Int32) = (1 : Int32) := by decide
            rw [q0]
            rcases J with ⟨rfl, rfl⟩ | ⟨rfl, rfl⟩ | ⟨rfl, rfl⟩ | ⟨rfl, rfl⟩ | ⟨rfl, rfl⟩
            · exact absurd hc29 (by decide)
            · exact absurd hc29 (by decide)
            · exact absurd hc29 (by decide)
            · exact absurd (by decide) hc17
            · exact absurd (by decide) hc17
          · replace hc := h_eq0 hc
            have hc36 := hc
            refine g_iloadN X hx (hb hby d8_39) rfl (pc' := 40) rfl ?_
            refine g_iconst X hx (hb hby d8_40) (x := (3 : Int32)) (by decide) (pc' := 41) rfl ?_
            refine g_icmp X hx (hb hby d8_41) (by decide) (pc' := 55) (by decide) (pc2 := 44) rfl (fun hc => ?_) (fun hc => ?_)
            · replace hc := h_le1 hc
              have hc41 := hc
              refine g_iconst X hx (hb hby d8_55) (x := (0 : Int32)) (by decide) (pc' := 56) rfl ?_
              refine g_retN (t := .boolean) X hx hret (by simp) hlk (hb hby d8_56) (by decide) (by decide) ?_
              rw [eT]
              refine ⟨congrArg (fun z => some (Value.int z)) ?_, N, eh⟩
              have q0 : nar .boolean (0 : Int32) = (0 : Int32) := by decide
              rw [q0]
              rcases J with ⟨rfl, rfl⟩ | ⟨rfl, rfl⟩ | ⟨rfl, rfl⟩ | ⟨rfl, rfl⟩ | ⟨rfl, rfl⟩
              · exact absurd hc29 (by decide)
              · exact absurd hc29 (by decide)
              · exact absurd hc29 (by decide)
              · exact absurd (by decide) hc17
              · exact absurd (by decide) hc41
            · replace hc := h_le0 hc
              have hc41 := hc
              refine g_aloadN X hx (hb hby d8_44) rfl rfl (pc' := 45) rfl ?_
              refine g_iconst X hx (hb hby d8_45) (x := (3 : Int32)) (by decide) (pc' := 46) rfl ?_
              refine g_iaload X hx hZ eT A_g.2 (hb hby d8_46) (by decide) (by decide) (v := (.int s3)) rfl (pc' := 47) rfl ?_
              refine g_iloadN X hx (hb hby d8_47) rfl (pc' := 48) rfl ?_
              refine g_icmp X hx (hb hby d8_48) (by decide) (pc' := 55) (by decide) (pc2 := 51) rfl (fun hc => ?_) (fun hc => ?_)
              · replace hc := h_ne1 hc
                have hc48 := hc
                refine g_iconst X hx (hb hby d8_55) (x := (0 : Int32)) (by decide) (pc' := 56) rfl ?_
                refine g_retN (t := .boolean) X hx hret (by simp) hlk (hb hby d8_56) (by decide) (by decide) ?_
                rw [eT]
                refine ⟨congrArg (fun z => some (Value.int z)) ?_, N, eh⟩
                have q0 : nar .boolean (0 : Int32) = (0 : Int32) := by decide
                rw [q0]
                rcases J with ⟨rfl, rfl⟩ | ⟨rfl, rfl⟩ | ⟨rfl, rfl⟩ | ⟨rfl, rfl⟩ | ⟨rfl, rfl⟩
                · exact absurd hc41 (by decide)
                · exact absurd hc41 (by decide)
                · exact absurd hc41 (by decide)
                · exact absurd hc41 (by decide)
                · exact absurd (by decide) hc17
              · replace hc := h_ne0 hc
                have hc48 := hc
                refine g_iconst X hx (hb hby d8_51) (x := (1 : Int32)) (by decide) (pc' := 52) rfl ?_
                refine g_goto X hx (hb hby d8_52) (by decide) (pc' := 56) (by decide) ?_
                refine g_retN (t := .boolean) X hx hret (by simp) hlk (hb hby d8_56) (by decide) (by decide) ?_
                rw [eT]
                refine ⟨congrArg (fun z => some (Value.int z)) ?_, N, eh⟩
                have q0 : nar .boolean (1 : Int32) = (1 : Int32) := by decide
                rw [q0]
                rcases J with ⟨rfl, rfl⟩ | ⟨rfl, rfl⟩ | ⟨rfl, rfl⟩ | ⟨rfl, rfl⟩ | ⟨rfl, rfl⟩
                · exact absurd hc41 (by decide)
                · exact absurd hc41 (by decide)
                · exact absurd hc41 (by decide)
                · exact absurd hc41 (by decide)
                · exact absurd (by decide) hc17
      · replace hc := h_le0 hc
        have hc17 := hc
        refine g_aloadN X hx (hb hby d8_20) rfl rfl (pc' := 21) rfl ?_
        refine g_iconst X hx (hb hby d8_21) (x := (1 : Int32)) (by decide) (pc' := 22) rfl ?_
        refine g_iaload X hx hZ eT A_g.2 (hb hby d8_22) (by decide) (by decide) (v := (.int s1)) rfl (pc' := 23) rfl ?_
        refine g_iloadN X hx (hb hby d8_23) rfl (pc' := 24) rfl ?_
        refine g_icmp X hx (hb hby d8_24) (by decide) (pc' := 51) (by decide) (pc2 := 27) rfl (fun hc => ?_) (fun hc => ?_)
        · replace hc := h_eq1 hc
          have hc24 := hc
          refine g_iconst X hx (hb hby d8_51) (x := (1 : Int32)) (by decide) (pc' := 52) rfl ?_
          refine g_goto X hx (hb hby d8_52) (by decide) (pc' := 56) (by decide) ?_
          refine g_retN (t := .boolean) X hx hret (by simp) hlk (hb hby d8_56) (by decide) (by decide) ?_
          rw [eT]
          refine ⟨congrArg (fun z => some (Value.int z)) ?_, N, eh⟩
          have q0 : nar .boolean (1 : Int32) = (1 : Int32) := by decide
          rw [q0]
          rcases J with ⟨rfl, rfl⟩ | ⟨rfl, rfl⟩ | ⟨rfl, rfl⟩ | ⟨rfl, rfl⟩ | ⟨rfl, rfl⟩
          · exact absurd hc17 (by decide)
          · exact absurd hc17 (by decide)
          · rw [if_pos (by simp [hc24])]
          · rw [if_pos (by simp [hc24])]
          · rw [if_pos (by simp [hc24])]
        · replace hc := h_eq0 hc
          have hc24 := hc
          refine g_iloadN X hx (hb hby d8_27) rfl (pc' := 28) rfl ?_
          refine g_iconst X hx (hb hby d8_28) (x := (2 : Int32)) (by decide) (pc' := 29) rfl ?_
          refine g_icmp X hx (hb hby d8_29) (by decide) (pc' := 39) (by decide) (pc2 := 32) rfl (fun hc => ?_) (fun hc => ?_)
          · replace hc := h_le1 hc
            have hc29 := hc
            refine g_iloadN X hx (hb hby d8_39) rfl (pc' := 40) rfl ?_
            refine g_iconst X hx (hb hby d8_40) (x := (3 : Int32)) (by decide) (pc' := 41) rfl ?_
            refine g_icmp X hx (hb hby d8_41) (by decide) (pc' := 55) (by decide) (pc2 := 44) rfl (fun hc => ?_) (fun hc => ?_)
            · replace hc := h_le1 hc
              have hc41 := hc
              refine g_iconst X hx (hb hby d8_55) (x := (0 : Int32)) (by decide) (pc' := 56) rfl ?_
              refine g_retN (t := .boolean) X hx hret (by simp) hlk (hb hby d8_56) (by decide) (by decide) ?_
              rw [eT]
              refine ⟨congrArg (fun z => some (Value.int z)) ?_, N, eh⟩
              have q0 : nar .boolean (0 : Int32) = (0 : Int32) := by decide
              rw [q0]
              rcases J with ⟨rfl, rfl⟩ | ⟨rfl, rfl⟩ | ⟨rfl, rfl⟩ | ⟨rfl, rfl⟩ | ⟨rfl, rfl⟩
              · exact absurd hc17 (by decide)
              · exact absurd hc17 (by decide)
              · rw [if_neg (by simp [show ¬ x = s0 from fun z => hc12 z.symm, show ¬ x = s1 from fun z => hc24 z.symm])]
              · exact absurd (by decide) hc29
              · exact absurd (by decide) hc41
            · replace hc := h_le0 hc
              have hc41 := hc
              refine g_aloadN X hx (hb hby d8_44) rfl rfl (pc' := 45) rfl ?_
              refine g_iconst X hx (hb hby d8_45) (x := (3 : Int32)) (by decide) (pc' := 46) rfl ?_
              refine g_iaload X hx hZ eT A_g.2 (hb hby d8_46) (by decide) (by decide) (v := (.int s3)) rfl (pc' := 47) rfl ?_
              refine g_iloadN X hx (hb hby d8_47) rfl (pc' := 48) rfl ?_
              refine g_icmp X hx (hb hby d8_48) (by decide) (pc' := 55) (by decide) (pc2 := 51) rfl (fun hc => ?_) (fun hc => ?_)
              · replace hc := h_ne1 hc
                have hc48 := hc
                refine g_iconst X hx (hb hby d8_55) (x := (0 : Int32)) (by decide) (pc' := 56) rfl ?_
                refine g_retN (t := .boolean) X hx hret (by simp) hlk (hb hby d8_56) (by decide) (by decide) ?_
                rw [eT]
                refine ⟨congrArg (fun z => some (Value.int z)) ?_, N, eh⟩
                have q0 : nar .boolean (0 : Int32) = (0 : Int32) := by decide
                rw [q0]
                rcases J with ⟨rfl, rfl⟩ | ⟨rfl, rfl⟩ | ⟨rfl, rfl⟩ | ⟨rfl, rfl⟩ | ⟨rfl, rfl⟩
                · exact absurd hc41 (by decide)
                · exact absurd hc41 (by decide)
                · exact absurd hc41 (by decide)
                · exact absurd hc41 (by decide)
                · exact absurd (by decide) hc29
              · replace hc := h_ne0 hc
                have hc48 := hc
                refine g_iconst X hx (hb hby d8_51) (x := (1 : Int32)) (by decide) (pc' := 52) rfl ?_
                refine g_goto X hx (hb hby d8_52) (by decide) (pc' := 56) (by decide) ?_
                refine g_retN (t := .boolean) X hx hret (by simp) hlk (hb hby d8_56) (by decide) (by decide) ?_
                rw [eT]
                refine ⟨congrArg (fun z => some (Value.int z)) ?_, N, eh⟩
                have q0 : nar .boolean (1 : Int32) = (1 : Int32) := by decide
                rw [q0]
                rcases J with ⟨rfl, rfl⟩ | ⟨rfl, rfl⟩ | ⟨rfl, rfl⟩ | ⟨rfl, rfl⟩ | ⟨rfl, rfl⟩
                · exact absurd hc41 (by decide)
                · exact absurd hc41 (by decide)
                · exact absurd hc41 (by decide)
                · exact absurd hc41 (by decide)
                · exact absurd (by decide) hc29
          · replace hc := h_le0 hc
            have hc29 := hc
            refine g_aloadN X hx (hb hby d8_32) rfl rfl (pc' := 33) rfl ?_
            refine g_iconst X hx (hb hby d8_33) (x := (2 : Int32)) (by decide) (pc' := 34) rfl ?_
            refine g_iaload X hx hZ eT A_g.2 (hb hby d8_34) (by decide) (by decide) (v := (.int s2)) rfl (pc' := 35) rfl ?_
            refine g_iloadN X hx (hb hby d8_35) rfl (pc' := 36) rfl ?_
            refine g_icmp X hx (hb hby d8_36) (by decide) (pc' := 51) (by decide) (pc2 := 39) rfl (fun hc => ?_) (fun hc => ?_)
            · replace hc := h_eq1 hc
              have hc36 := hc
              refine g_iconst X hx (hb hby d8_51) (x := (1 : Int32)) (by decide) (pc' := 52) rfl ?_
              refine g_goto X hx (hb hby d8_52) (by decide) (pc' := 56) (by decide) ?_
              refine g_retN (t := .boolean) X hx hret (by simp) hlk (hb hby d8_56) (by decide) (by decide) ?_
              rw [eT]
              refine ⟨congrArg (fun z => some (Value.int z)) ?_, N, eh⟩
              have q0 : nar .boolean (1 : Int32) = (1 : Int32) := by decide
              rw [q0]
              rcases J with ⟨rfl, rfl⟩ | ⟨rfl, rfl⟩ | ⟨rfl, rfl⟩ | ⟨rfl, rfl⟩ | ⟨rfl, rfl⟩
              · exact absurd hc29 (by decide)
              · exact absurd hc29 (by decide)
              · exact absurd hc29 (by decide)
              · rw [if_pos (by simp [hc36])]
              · rw [if_pos (by simp [hc36])]
            · replace hc := h_eq0 hc
              have hc36 := hc
              refine g_iloadN X hx (hb hby d8_39) rfl (pc' := 40) rfl ?_
              refine g_iconst X hx (hb hby d8_40) (x := (3 : Int32)) (by decide) (pc' := 41) rfl ?_
              refine g_icmp X hx (hb hby d8_41) (by decide) (pc' := 55) (by decide) (pc2 := 44) rfl (fun hc => ?_) (fun hc => ?_)
              · replace hc := h_le1 hc
                have hc41 := hc
                refine g_iconst X hx (hb hby d8_55) (x := (0 : Int32)) (by decide) (pc' := 56) rfl ?_
                refine g_retN (t := .boolean) X hx hret (by simp) hlk (hb hby d8_56) (by decide) (by decide) ?_
                rw [eT]
                refine ⟨congrArg (fun z => some (Value.int z)) ?_, N, eh⟩
                have q0 : nar .boolean (0 : Int32) = (0 : Int32) := by decide
                rw [q0]
                rcases J with ⟨rfl, rfl⟩ | ⟨rfl, rfl⟩ | ⟨rfl, rfl⟩ | ⟨rfl, rfl⟩ | ⟨rfl, rfl⟩
                · exact absurd hc29 (by decide)
                · exact absurd hc29 (by decide)
                · exact absurd hc29 (by decide)
                · rw [if_neg (by simp [show ¬ x = s0 from fun z => hc12 z.symm, show ¬ x = s1 from fun z => hc24 z.symm, show ¬ x = s2 from fun z => hc36 z.symm])]
                · exact absurd (by decide) hc41
              · replace hc := h_le0 hc
                have hc41 := hc
                refine g_aloadN X hx (hb hby d8_44) rfl rfl (pc' := 45) rfl ?_
                refine g_iconst X hx (hb hby d8_45) (x := (3 : Int32)) (by decide) (pc' := 46) rfl ?_
                refine g_iaload X hx hZ eT A_g.2 (hb hby d8_46) (by decide) (by decide) (v := (.int s3)) rfl (pc' := 47) rfl ?_
                refine g_iloadN X hx (hb hby d8_47) rfl (pc' := 48) rfl ?_
                refine g_icmp X hx (hb hby d8_48) (by decide) (pc' := 55) (by decide) (pc2 := 51) rfl (fun hc => ?_) (fun hc => ?_)
                · replace hc := h_ne1 hc
                  have hc48 := hc
                  refine g_iconst X hx (hb hby d8_55) (x := (0 : Int32)) (by decide) (pc' := 56) rfl ?_
                  refine g_retN (t := .boolean) X hx hret (by simp) hlk (hb hby d8_56) (by decide) (by decide) ?_
                  rw [eT]
                  refine ⟨congrArg (fun z => some (Value.int z)) ?_, N, eh⟩
                  have q0 : nar .boolean (0 : Int32) = (0 : Int32) := by decide
                  rw [q0]
                  rcases J with ⟨rfl, rfl⟩ | ⟨rfl, rfl⟩ | ⟨rfl, rfl⟩ | ⟨rfl, rfl⟩ | ⟨rfl, rfl⟩
                  · exact absurd hc41 (by decide)
                  · exact absurd hc41 (by decide)
                  · exact absurd hc41 (by decide)
                  · exact absurd hc41 (by decide)
                  · rw [if_neg (by simp [show ¬ x = s0 from fun z => hc12 z.symm, show ¬ x = s1 from fun z => hc24 z.symm, show ¬ x = s2 from fun z => hc36 z.symm, show ¬ x = s3 from fun z => hc48 z.symm])]
                · replace hc := h_ne0 hc
                  have hc48 := hc
                  refine g_iconst X hx (hb hby d8_51) (x := (1 : Int32)) (by decide) (pc' := 52) rfl ?_
                  refine g_goto X hx (hb hby d8_52) (by decide) (pc' := 56) (by decide) ?_
                  refine g_retN (t := .boolean) X hx hret (by simp) hlk (hb hby d8_56) (by decide) (by decide) ?_
                  rw [eT]
                  refine ⟨congrArg (fun z => some (Value.int z)) ?_, N, eh⟩
                  have q0 : nar .boolean (1 : Int32) = (1 : Int32) := by decide
                  rw [q0]
                  rcases J with ⟨rfl, rfl⟩ | ⟨rfl, rfl⟩ | ⟨rfl, rfl⟩ | ⟨rfl, rfl⟩ | ⟨rfl, rfl⟩
                  · exact absurd hc41 (by decide)
                  · exact absurd hc41 (by decide)
                  · exact absurd hc41 (by decide)
                  · exact absurd hc41 (by decide)
                  · rw [if_pos (by simp [hc48])]
theorem d5_0 : decode method_4_code 0 = .ok (.aload_n 0, 1) := by decide +kernel
theorem d5_1 : decode method_4_code 1 = .ok (.iconst 4, 1) := by decide +kernel
theorem d5_2 : decode method_4_code 2 = .ok (.iaload, 1) := by decide +kernel
theorem d5_3 : decode method_4_code 3 = .ok (.ifCond .ne 5, 3) := by decide +kernel
theorem d5_6 : decode method_4_code 6 = .ok (.iconst (-1), 1) := by decide +kernel
theorem d5_7 : decode method_4_code 7 = .ok (.ireturn, 1) := by decide +kernel
theorem d5_8 : decode method_4_code 8 = .ok (.aload_n 0, 1) := by decide +kernel
theorem d5_9 : decode method_4_code 9 = .ok (.iconst 0, 1) := by decide +kernel
theorem d5_10 : decode method_4_code 10 = .ok (.iaload, 1) := by decide +kernel
theorem d5_11 : decode method_4_code 11 = .ok (.istore_n 1, 1) := by decide +kernel
theorem d5_12 : decode method_4_code 12 = .ok (.aload_n 0, 1) := by decide +kernel
theorem d5_13 : decode method_4_code 13 = .ok (.iconst 0, 1) := by decide +kernel
theorem d5_14 : decode method_4_code 14 = .ok (.aload_n 0, 1) := by decide +kernel
theorem d5_15 : decode method_4_code 15 = .ok (.iconst 1, 1) := by decide +kernel
theorem d5_16 : decode method_4_code 16 = .ok (.iaload, 1) := by decide +kernel
theorem d5_17 : decode method_4_code 17 = .ok (.iastore, 1) := by decide +kernel
theorem d5_18 : decode method_4_code 18 = .ok (.aload_n 0, 1) := by decide +kernel
theorem d5_19 : decode method_4_code 19 = .ok (.iconst 1, 1) := by decide +kernel
theorem d5_20 : decode method_4_code 20 = .ok (.aload_n 0, 1) := by decide +kernel
theorem d5_21 : decode method_4_code 21 = .ok (.iconst 2, 1) := by decide +kernel
theorem d5_22 : decode method_4_code 22 = .ok (.iaload, 1) := by decide +kernel
theorem d5_23 : decode method_4_code 23 = .ok (.iastore, 1) := by decide +kernel
theorem d5_24 : decode method_4_code 24 = .ok (.aload_n 0, 1) := by decide +kernel
theorem d5_25 : decode method_4_code 25 = .ok (.iconst 2, 1) := by decide +kernel
theorem d5_26 : decode method_4_code 26 = .ok (.aload_n 0, 1) := by decide +kernel
theorem d5_27 : decode method_4_code 27 = .ok (.iconst 3, 1) := by decide +kernel
theorem d5_28 : decode method_4_code 28 = .ok (.iaload, 1) := by decide +kernel
theorem d5_29 : decode method_4_code 29 = .ok (.iastore, 1) := by decide +kernel
theorem d5_30 : decode method_4_code 30 = .ok (.aload_n 0, 1) := by decide +kernel
theorem d5_31 : decode method_4_code 31 = .ok (.iconst 4, 1) := by decide +kernel
theorem d5_32 : decode method_4_code 32 = .ok (.aload_n 0, 1) := by decide +kernel
theorem d5_33 : decode method_4_code 33 = .ok (.iconst 4, 1) := by decide +kernel
theorem d5_34 : decode method_4_code 34 = .ok (.iaload, 1) := by decide +kernel
theorem d5_35 : decode method_4_code 35 = .ok (.iconst 1, 1) := by decide +kernel
theorem d5_36 : decode method_4_code 36 = .ok (.isub, 1) := by decide +kernel
theorem d5_37 : decode method_4_code 37 = .ok (.iastore, 1) := by decide +kernel
theorem d5_38 : decode method_4_code 38 = .ok (.iload_n 1, 1) := by decide +kernel
theorem d5_39 : decode method_4_code 39 = .ok (.ireturn, 1) := by decide +kernel
theorem pl_5 : plainFor (⟨"com/example/storewatch/storewatch/graph/NodeQueuePollPinLaw", "pop", "([I)I"⟩ : MethodName) = true := plainFor_of_name (by first | (simp [plainName, overriddenIn]; done) | decide +kernel)
theorem ef_rmMP (m : MethodId) (z0 : Addr) : entryFrame m #[(.ref z0)] 2 = mkF m 0 #[.val (.ref z0), .unset] [] := by first | (simp [entryFrame, mkF, argsToLocals, Value.category]; done) | rfl
set_option maxRecDepth 65536 in
set_option maxHeartbeats 40000000 in
theorem rmMP (l : Launch) (Z : State) (a0 : Array Value) (hw : ∀ d ∈ tables_1, d.before a0 Z = true) (g : Addr) (s0 : Int32) (s1 : Int32) (s2 : Int32) (s3 : Int32) (s4 : Int32) (P : List Int32) (h0 : Heap) (n0 : Nat) (Zn : n0 ≤ h0.size) (A_g : Al Z h0 g .int 5 [s0, s1, s2, s3, s4]) (g_g : n0 ≤ g) (J : MI s0 s1 s2 s3 s4 P) :
    WCt l Z (⟨"com/example/storewatch/storewatch/graph/NodeQueuePollPinLaw", "pop", "([I)I"⟩ : MethodName) method_4_code 2 (some .int) ({ frames := 0, cells := 0, slots := 0, locals := 0 } : Room) #[(.ref g)] h0 (fun vv hh LL => ∃ (t0 : Int32) (t1 : Int32) (t2 : Int32) (t3 : Int32) (t4 : Int32), (vv = some (.int (P.headD (-1)))) ∧ (Fr n0 LL) ∧ (Keep h0 hh [g]) ∧ (Al Z hh g .int 5 [t0, t1, t2, t3, t4]) ∧ (MI t0 t1 t2 t3 t4 P.tail)) := by
  refine WCt.of pl_5 ?_
  intro p e s m below meth c T hx hby hml hown hnm hret hlk hZ hh0 X eT
  have hown : s.vm.findClass "com/example/storewatch/storewatch/graph/NodeQueuePollPinLaw" = some m.cls := hown
  have hnm : meth.name = "pop" := hnm
  have N := Fr.nil n0
  obtain ⟨h, eh⟩ : ∃ h, h = h0 := ⟨_, rfl⟩
  have K : Keep h0 h [g] := by rw [eh]; exact Keep.refl _ _
  refine WGo.cast (ef_rmMP m g) ?_
  rw [← eh] at eT Zn A_g
  refine g_aloadN X hx (hb hby d5_0) rfl rfl (pc' := 1) rfl ?_
  refine g_iconst X hx (hb hby d5_1) (x := (4 : Int32)) (by decide) (pc' := 2) rfl ?_
  refine g_iaload X hx hZ eT A_g.2 (hb hby d5_2) (by decide) (by decide) (v := (.int s4)) rfl (pc' := 3) rfl ?_
  refine g_if X hx (hb hby d5_3) (by decide) (pc' := 8) (by decide) (pc2 := 6) rfl (fun hc => ?_) (fun hc => ?_)
  · replace hc := h_ne1 hc
    have hc3 := hc
    refine g_aloadN X hx (hb hby d5_8) rfl rfl (pc' := 9) rfl ?_
    refine g_iconst X hx (hb hby d5_9) (x := (0 : Int32)) (by decide) (pc' := 10) rfl ?_
    refine g_iaload X hx hZ eT A_g.2 (hb hby d5_10) (by decide) (by decide) (v := (.int s0)) rfl (pc' := 11) rfl ?_
    refine g_istoreN X hx (hb hby d5_11) (Ls' := #[.val (.ref g), .val (.int s0)]) rfl (pc' := 12) rfl ?_
    refine g_aloadN X hx (hb hby d5_12) rfl rfl (pc' := 13) rfl ?_
    refine g_iconst X hx (hb hby d5_13) (x := (0 : Int32)) (by decide) (pc' := 14) rfl ?_
    refine g_aloadN X hx (hb hby d5_14) rfl rfl (pc' := 15) rfl ?_
    refine g_iconst X hx (hb hby d5_15) (x := (1 : Int32)) (by decide) (pc' := 16) rfl ?_
    refine g_iaload X hx hZ eT A_g.2 (hb hby d5_16) (by decide) (by decide) (v := (.int s1)) rfl (pc' := 17) rfl ?_
    refine g_iastore X hx hZ eT A_g.2 (hb hby d5_17) (by decide) (by decide) (pc' := 18) rfl (fun T h X eT W A' => ?_)
    replace N := Fr.snoc X N g_g
    replace Zn := Nat.le_trans Zn (Nat.le_of_eq W.size.symm)
    replace K := K.wr W (Or.inl (List.mem_of_getElem? (i := 0) rfl))
    replace A_g : Al Z h g .int 5 [s1, s1, s2, s3, s4] := A_g.set A'
    refine g_aloadN X hx (hb hby d5_18) rfl rfl (pc' := 19) rfl ?_
    refine g_iconst X hx (hb hby d5_19) (x := (1 : Int32)) (by decide) (pc' := 20) rfl ?_
    refine g_aloadN X hx (hb hby d5_20) rfl rfl (pc' := 21) rfl ?_
    refine g_iconst X hx (hb hby d5_21) (x := (2 : Int32)) (by decide) (pc' := 22) rfl ?_
    refine g_iaload X hx hZ eT A_g.2 (hb hby d5_22) (by decide) (by decide) (v := (.int s2)) rfl (pc' := 23) rfl ?_
    refine g_iastore X hx hZ eT A_g.2 (hb hby d5_23) (by decide) (by decide) (pc' := 24) rfl (fun T h X eT W A' => ?_)
    replace N := Fr.snoc X N g_g
    replace Zn := Nat.le_trans Zn (Nat.le_of_eq W.size.symm)
    replace K := K.wr W (Or.inl (List.mem_of_getElem? (i := 0) rfl))
    replace A_g : Al Z h g .int 5 [s1, s2, s2, s3, s4] := A_g.set A'
    refine g_aloadN X hx (hb hby d5_24) rfl rfl (pc' := 25) rfl ?_
    refine g_iconst X hx (hb hby d5_25) (x := (2 : Int32)) (by decide) (pc' := 26) rfl ?_
    refine g_aloadN X hx (hb hby d5_26) rfl rfl (pc' := 27) rfl ?_
    refine g_iconst X hx (hb hby d5_27) (x := (3 : Int32)) (by decide) (pc' := 28) rfl ?_
    refine g_iaload X hx hZ eT A_g.2 (hb hby d5_28) (by decide) (by decide) (v := (.int s3)) rfl (pc' := 29) rfl ?_
    refine g_iastore X hx hZ eT A_g.2 (hb hby d5_29) (by decide) (by decide) (pc' := 30) rfl (fun T h X eT W A' => ?_)
    replace N := Fr.snoc X N g_g
    replace Zn := Nat.le_trans Zn (Nat.le_of_eq W.size.symm)
    replace K := K.wr W (Or.inl (List.mem_of_getElem? (i := 0) rfl))
    replace A_g : Al Z h g .int 5 [s1, s2, s3, s3, s4] := A_g.set A'
    refine g_aloadN X hx (hb hby d5_30) rfl rfl (pc' := 31) rfl ?_
    refine g_iconst X hx (hb hby d5_31) (x := (4 : Int32)) (by decide) (pc' := 32) rfl ?_
    refine g_aloadN X hx (hb hby d5_32) rfl rfl (pc' := 33) rfl ?_
    refine g_iconst X hx (hb hby d5_33) (x := (4 : Int32)) (by decide) (pc' := 34) rfl ?_
    refine g_iaload X hx hZ eT A_g.2 (hb hby d5_34) (by decide) (by decide) (v := (.int s4)) rfl (pc' := 35) rfl ?_
    refine g_iconst X hx (hb hby d5_35) (x := (1 : Int32)) (by decide) (pc' := 36) rfl ?_
    refine g_isub X hx (hb hby d5_36) (pc' := 37) rfl ?_
    refine g_iastore X hx hZ eT A_g.2 (hb hby d5_37) (by decide) (by decide) (pc' := 38) rfl (fun T h X eT W A' => ?_)
    replace N := Fr.snoc X N g_g
    replace Zn := Nat.le_trans Zn (Nat.le_of_eq W.size.symm)
    replace K := K.wr W (Or.inl (List.mem_of_getElem? (i := 0) rfl))
    replace A_g : Al Z h g .int 5 [s1, s2, s3, s3, (s4 - (1 : Int32))] := A_g.set A'
    refine g_iloadN X hx (hb hby d5_38) rfl (pc' := 39) rfl ?_
    refine g_retI X hx hret hlk (hb hby d5_39) (by decide) (by decide) ?_
    rw [eT]
    refine ⟨s1, s2, s3, s3, s4 - 1, ?_, N, K, A_g, ?_⟩
    · rcases J with ⟨rfl, rfl⟩ | ⟨rfl, rfl⟩ | ⟨rfl, rfl⟩ | ⟨rfl, rfl⟩ | ⟨rfl, rfl⟩ <;> first | rfl | exact absurd rfl hc3
    · rcases J with ⟨rfl, rfl⟩ | ⟨rfl, rfl⟩ | ⟨rfl, rfl⟩ | ⟨rfl, rfl⟩ | ⟨rfl, rfl⟩
      · exact absurd rfl hc3
      · exact Or.inl ⟨by decide, rfl⟩
      · exact Or.inr (Or.inl ⟨by decide, rfl⟩)
      · exact Or.inr (Or.inr (Or.inl ⟨by decide, rfl⟩))
      · exact Or.inr (Or.inr (Or.inr (Or.inl ⟨by decide, rfl⟩)))
  · replace hc := h_ne0 hc
    have hc3 := hc
    refine g_iconst X hx (hb hby d5_6) (x := (-1 : Int32)) (by decide) (pc' := 7) rfl ?_
    refine g_retI X hx hret hlk (hb hby d5_7) (by decide) (by decide) ?_
    rw [eT]
    refine ⟨s0, s1, s2, s3, s4, ?_, N, K, A_g, ?_⟩
    · rcases J with ⟨rfl, rfl⟩ | ⟨rfl, rfl⟩ | ⟨rfl, rfl⟩ | ⟨rfl, rfl⟩ | ⟨rfl, rfl⟩ <;> first | rfl | exact absurd hc3 (by decide)
    · rcases J with ⟨rfl, rfl⟩ | ⟨rfl, rfl⟩ | ⟨rfl, rfl⟩ | ⟨rfl, rfl⟩ | ⟨rfl, rfl⟩ <;> first | exact Or.inl ⟨rfl, rfl⟩ | exact absurd hc3 (by decide)
theorem d7_0 : decode method_3_code 0 = .ok (.aload_n 0, 1) := by decide +kernel
theorem d7_1 : decode method_3_code 1 = .ok (.iload_n 1, 1) := by decide +kernel
theorem d7_2 : decode method_3_code 2 = .ok (.invokestatic 7, 3) := by decide +kernel
theorem d7_5 : decode method_3_code 5 = .ok (.ifCond .ne 24, 3) := by decide +kernel
theorem d7_8 : decode method_3_code 8 = .ok (.aload_n 0, 1) := by decide +kernel
theorem d7_9 : decode method_3_code 9 = .ok (.iconst 4, 1) := by decide +kernel
theorem d7_10 : decode method_3_code 10 = .ok (.iaload, 1) := by decide +kernel
theorem d7_11 : decode method_3_code 11 = .ok (.iconst 4, 1) := by decide +kernel
theorem d7_12 : decode method_3_code 12 = .ok (.if_icmp .ge 17, 3) := by decide +kernel
theorem d7_15 : decode method_3_code 15 = .ok (.aload_n 0, 1) := by decide +kernel
theorem d7_16 : decode method_3_code 16 = .ok (.aload_n 0, 1) := by decide +kernel
theorem d7_17 : decode method_3_code 17 = .ok (.iconst 4, 1) := by decide +kernel
theorem d7_18 : decode method_3_code 18 = .ok (.iaload, 1) := by decide +kernel
theorem d7_19 : decode method_3_code 19 = .ok (.iload_n 1, 1) := by decide +kernel
theorem d7_20 : decode method_3_code 20 = .ok (.iastore, 1) := by decide +kernel
theorem d7_21 : decode method_3_code 21 = .ok (.aload_n 0, 1) := by decide +kernel
theorem d7_22 : decode method_3_code 22 = .ok (.iconst 4, 1) := by decide +kernel
theorem d7_23 : decode method_3_code 23 = .ok (.aload_n 0, 1) := by decide +kernel
theorem d7_24 : decode method_3_code 24 = .ok (.iconst 4, 1) := by decide +kernel
theorem d7_25 : decode method_3_code 25 = .ok (.iaload, 1) := by decide +kernel
theorem d7_26 : decode method_3_code 26 = .ok (.iconst 1, 1) := by decide +kernel
theorem d7_27 : decode method_3_code 27 = .ok (.iadd, 1) := by decide +kernel
theorem d7_28 : decode method_3_code 28 = .ok (.iastore, 1) := by decide +kernel
theorem d7_29 : decode method_3_code 29 = .ok (.return_, 1) := by decide +kernel
theorem pl_7 : plainFor (⟨"com/example/storewatch/storewatch/graph/NodeQueuePollPinLaw", "push", "([II)V"⟩ : MethodName) = true := plainFor_of_name (by first | (simp [plainName, overriddenIn]; done) | decide +kernel)
theorem ef_rmMA (m : MethodId) (z0 : Addr) (z1 : Int32) : entryFrame m #[(.ref z0), (.int z1)] 2 = mkF m 0 #[.val (.ref z0), .val (.int z1)] [] := by first | (simp [entryFrame, mkF, argsToLocals, Value.category]; done) | rfl
set_option maxRecDepth 65536 in
set_option maxHeartbeats 40000000 in
theorem rmMA (l : Launch) (Z : State) (a0 : Array Value) (hw : ∀ d ∈ tables_1, d.before a0 Z = true) (g : Addr) (s0 : Int32) (s1 : Int32) (s2 : Int32) (s3 : Int32) (s4 : Int32) (P : List Int32) (x : Int32) (h0 : Heap) (n0 : Nat) (Zn : n0 ≤ h0.size) (A_g : Al Z h0 g .int 5 [s0, s1, s2, s3, s4]) (g_g : n0 ≤ g) (J : MI s0 s1 s2 s3 s4 P) :
    WCt l Z (⟨"com/example/storewatch/storewatch/graph/NodeQueuePollPinLaw", "push", "([II)V"⟩ : MethodName) method_3_code 2 none ({ frames := 1, cells := 0, slots := 0, locals := 14 } : Room) #[(.ref g), (.int x)] h0 (fun vv hh LL => ∃ (t0 : Int32) (t1 : Int32) (t2 : Int32) (t3 : Int32) (t4 : Int32), (vv = none) ∧ (Fr n0 LL) ∧ (Keep h0 hh [g]) ∧ (Al Z hh g .int 5 [t0, t1, t2, t3, t4]) ∧ (MI t0 t1 t2 t3 t4 (addM P x))) := by
  refine WCt.of pl_7 ?_
  intro p e s m below meth c T hx hby hml hown hnm hret hlk hZ hh0 X eT
  have hown : s.vm.findClass "com/example/storewatch/storewatch/graph/NodeQueuePollPinLaw" = some m.cls := hown
  have hnm : meth.name = "push" := hnm
  have N := Fr.nil n0
  obtain ⟨h, eh⟩ : ∃ h, h = h0 := ⟨_, rfl⟩
  have K : Keep h0 h [g] := by rw [eh]; exact Keep.refl _ _
  refine WGo.cast (ef_rmMA m g x) ?_
  rw [← eh] at eT Zn A_g
  refine g_aloadN X hx (hb hby d7_0) rfl rfl (pc' := 1) rfl ?_
  refine g_iloadN X hx (hb hby d7_1) rfl (pc' := 2) rfl ?_
  refine g_stat (W := 0) (argsL := [(.ref g), (.int x)]) (st := []) X hx hZ hown (hw _ (List.mem_of_getElem? (i := 42) rfl)) (hw _ (List.mem_of_getElem? (i := 43) rfl)) (hw _ (List.mem_of_getElem? (i := 20) rfl)) (hw _ (List.mem_of_getElem? (i := 44) rfl)) (by decide) (rmC l Z a0 hw g s0 s1 s2 s3 s4 P x h n0 Zn A_g J) eT (by decide) (by decide) (by decide) (by decide) (lenOf pd_0 rfl) (by rw [hml]; rfl) rfl (Nat.le_of_eq rfl) (hb hby d7_2) (pc' := 5) rfl (fun T hn vq Lq X eT hQ => ?_)
  obtain ⟨rfl, Nq, hE⟩ := hQ
  replace N := Fr.app N Nq
  rw [hE] at eT; clear hE
  show WGo _ _ _ _ _ _ _ _ (mkF m 5 #[.val (.ref g), .val (.int x)] [(.int (if P.contains x then (1 : Int32) else 0))])
  refine g_if X hx (hb hby d7_5) (by decide) (pc' := 29) (by decide) (pc2 := 8) rfl (fun hc => ?_) (fun hc => ?_)
  · replace hc := h_ne1 hc
    have hc5 := hc
    refine g_ret0 X hx hret hlk (hb hby d7_29) (by decide) (by decide) ?_
    have hP : P.contains x = true := by cases hq : P.contains x with | true => rfl | false => rw [hq] at hc5; exact absurd rfl hc5
    rw [eT]
    refine ⟨s0, s1, s2, s3, s4, rfl, N, K, A_g, ?_⟩
    unfold addM; rw [if_pos hP]; exact J
  · replace hc := h_ne0 hc
    have hc5 := hc
    refine g_aloadN X hx (hb hby d7_8) rfl rfl (pc' := 9) rfl ?_
    refine g_iconst X hx (hb hby d7_9) (x := (4 : Int32)) (by decide) (pc' := 10) rfl ?_
    refine g_iaload X hx hZ eT A_g.2 (hb hby d7_10) (by decide) (by decide) (v := (.int s4)) rfl (pc' := 11) rfl ?_
    refine g_iconst X hx (hb hby d7_11) (x := (4 : Int32)) (by decide) (pc' := 12) rfl ?_
    refine g_icmp X hx (hb hby d7_12) (by decide) (pc' := 29) (by decide) (pc2 := 15) rfl (fun hc => ?_) (fun hc => ?_)
    · replace hc := h_ge1 hc
      have hc12 := hc
      refine g_ret0 X hx hret hlk (hb hby d7_29) (by decide) (by decide) ?_
      have hP : P.contains x = false := by cases hq : P.contains x with | false => rfl | true => rw [hq] at hc5; exact absurd hc5 (by decide)
      rw [eT]
      refine ⟨s0, s1, s2, s3, s4, rfl, N, K, A_g, ?_⟩
      have hL : ¬ P.length < 4 := by rcases J with ⟨rfl, rfl⟩ | ⟨rfl, rfl⟩ | ⟨rfl, rfl⟩ | ⟨rfl, rfl⟩ | ⟨rfl, rfl⟩ <;> first | exact absurd (by decide) hc12 | exact Nat.lt_irrefl 4
      unfold addM; rw [if_neg (by rw [hP]; decide), if_neg hL]; exact J
    · replace hc := h_ge0 hc
      have hc12 := hc
      have hP : P.contains x = false := by cases hq : P.contains x with | false => rfl | true => rw [hq] at hc5; exact absurd hc5 (by decide)
      rcases J with ⟨rfl, rfl⟩ | ⟨rfl, rfl⟩ | ⟨rfl, rfl⟩ | ⟨rfl, rfl⟩ | ⟨rfl, rfl⟩
      · skip
        refine g_aloadN X hx (hb hby d7_15) rfl rfl (pc' := 16) rfl ?_
        refine g_aloadN X hx (hb hby d7_16) rfl rfl (pc' := 17) rfl ?_
        refine g_iconst X hx (hb hby d7_17) (x := (4 : Int32)) (by decide) (pc' := 18) rfl ?_
        refine g_iaload X hx hZ eT A_g.2 (hb hby d7_18) (by decide) (by decide) (v := (.int (0 : Int32))) rfl (pc' := 19) rfl ?_
        refine g_iloadN X hx (hb hby d7_19) rfl (pc' := 20) rfl ?_
        refine g_iastore X hx hZ eT A_g.2 (hb hby d7_20) (by decide) (by decide) (pc' := 21) rfl (fun T h X eT W A' => ?_)
        replace N := Fr.snoc X N g_g
        replace Zn := Nat.le_trans Zn (Nat.le_of_eq W.size.symm)
        replace K := K.wr W (Or.inl (List.mem_of_getElem? (i := 0) rfl))
        replace A_g : Al Z h g .int 5 [x, s1, s2, s3, (0 : Int32)] := A_g.set A'
        refine g_aloadN X hx (hb hby d7_21) rfl rfl (pc' := 22) rfl ?_
        refine g_iconst X hx (hb hby d7_22) (x := (4 : Int32)) (by decide) (pc' := 23) rfl ?_
        refine g_aloadN X hx (hb hby d7_23) rfl rfl (pc' := 24) rfl ?_
        refine g_iconst X hx (hb hby d7_24) (x := (4 : Int32)) (by decide) (pc' := 25) rfl ?_
        refine g_iaload X hx hZ eT A_g.2 (hb hby d7_25) (by decide) (by decide) (v := (.int (0 : Int32))) rfl (pc' := 26) rfl ?_
        refine g_iconst X hx (hb hby d7_26) (x := (1 : Int32)) (by decide) (pc' := 27) rfl ?_
        refine g_iadd X hx (hb hby d7_27) (pc' := 28) rfl ?_
        rw [show ((0 : Int32) + (1 : Int32)) = (1 : Int32) from by decide]
        refine g_iastore X hx hZ eT A_g.2 (hb hby d7_28) (by decide) (by decide) (pc' := 29) rfl (fun T h X eT W A' => ?_)
        replace N := Fr.snoc X N g_g
        replace Zn := Nat.le_trans Zn (Nat.le_of_eq W.size.symm)
        replace K := K.wr W (Or.inl (List.mem_of_getElem? (i := 0) rfl))
        replace A_g : Al Z h g .int 5 [x, s1, s2, s3, (1 : Int32)] := A_g.set A'
        refine g_ret0 X hx hret hlk (hb hby d7_29) (by decide) (by decide) ?_
        rw [eT]
        refine ⟨_, _, _, _, _, rfl, N, K, A_g, ?_⟩
        unfold addM; rw [if_neg (by rw [hP]; decide), if_pos (show List.length _ < 4 by simp)]
        exact Or.inr (Or.inl ⟨rfl, rfl⟩)
      · skip
        refine g_aloadN X hx (hb hby d7_15) rfl rfl (pc' := 16) rfl ?_
        refine g_aloadN X hx (hb hby d7_16) rfl rfl (pc' := 17) rfl ?_
        refine g_iconst X hx (hb hby d7_17) (x := (4 : Int32)) (by decide) (pc' := 18) rfl ?_
        refine g_iaload X hx hZ eT A_g.2 (hb hby d7_18) (by decide) (by decide) (v := (.int (1 : Int32))) rfl (pc' := 19) rfl ?_
        refine g_iloadN X hx (hb hby d7_19) rfl (pc' := 20) rfl ?_
        refine g_iastore X hx hZ eT A_g.2 (hb hby d7_20) (by decide) (by decide) (pc' := 21) rfl (fun T h X eT W A' => ?_)
        replace N := Fr.snoc X N g_g
        replace Zn := Nat.le_trans Zn (Nat.le_of_eq W.size.symm)
        replace K := K.wr W (Or.inl (List.mem_of_getElem? (i := 0) rfl))
        replace A_g : Al Z h g .int 5 [s0, x, s2, s3, (1 : Int32)] := A_g.set A'
        refine g_aloadN X hx (hb hby d7_21) rfl rfl (pc' := 22) rfl ?_
        refine g_iconst X hx (hb hby d7_22) (x := (4 : Int32)) (by decide) (pc' := 23) rfl ?_
        refine g_aloadN X hx (hb hby d7_23) rfl rfl (pc' := 24) rfl ?_
        refine g_iconst X hx (hb hby d7_24) (x := (4 : Int32)) (by decide) (pc' := 25) rfl ?_
        refine g_iaload X hx hZ eT A_g.2 (hb hby d7_25) (by decide) (by decide) (v := (.int (1 : Int32))) rfl (pc' := 26) rfl ?_
        refine g_iconst X hx (hb hby d7_26) (x := (1 : Int32)) (by decide) (pc' := 27) rfl ?_
        refine g_iadd X hx (hb hby d7_27) (pc' := 28) rfl ?_
        rw [show ((1 : Int32) + (1 : Int32)) = (2 : Int32) from by decide]
        refine g_iastore X hx hZ eT A_g.2 (hb hby d7_28) (by decide) (by decide) (pc' := 29) rfl (fun T h X eT W A' => ?_)
        replace N := Fr.snoc X N g_g
        replace Zn := Nat.le_trans Zn (Nat.le_of_eq W.size.symm)
        replace K := K.wr W (Or.inl (List.mem_of_getElem? (i := 0) rfl))
        replace A_g : Al Z h g .int 5 [s0, x, s2, s3, (2 : Int32)] := A_g.set A'
        refine g_ret0 X hx hret hlk (hb hby d7_29) (by decide) (by decide) ?_
        rw [eT]
        refine ⟨_, _, _, _, _, rfl, N, K, A_g, ?_⟩
        unfold addM; rw [if_neg (by rw [hP]; decide), if_pos (show List.length _ < 4 by simp)]
        exact Or.inr (Or.inr (Or.inl ⟨rfl, rfl⟩))
      · skip
        refine g_aloadN X hx (hb hby d7_15) rfl rfl (pc' := 16) rfl ?_
        refine g_aloadN X hx (hb hby d7_16) rfl rfl (pc' := 17) rfl ?_
        refine g_iconst X hx (hb hby d7_17) (x := (4 : Int32)) (by decide) (pc' := 18) rfl ?_
        refine g_iaload X hx hZ eT A_g.2 (hb hby d7_18) (by decide) (by decide) (v := (.int (2 : Int32))) rfl (pc' := 19) rfl ?_
        refine g_iloadN X hx (hb hby d7_19) rfl (pc' := 20) rfl ?_
        refine g_iastore X hx hZ eT A_g.2 (hb hby d7_20) (by decide) (by decide) (pc' := 21) rfl (fun T h X eT W A' => ?_)
        replace N := Fr.snoc X N g_g
        replace Zn := Nat.le_trans Zn (Nat.le_of_eq W.size.symm)
        replace K := K.wr W (Or.inl (List.mem_of_getElem? (i := 0) rfl))
        replace A_g : Al Z h g .int 5 [s0, s1, x, s3, (2 : Int32)] := A_g.set A'
        refine g_aloadN X hx (hb hby d7_21) rfl rfl (pc' := 22) rfl ?_
        refine g_iconst X hx (hb hby d7_22) (x := (4 : Int32)) (by decide) (pc' := 23) rfl ?_
        refine g_aloadN X hx (hb hby d7_23) rfl rfl (pc' := 24) rfl ?_
        refine g_iconst X hx (hb hby d7_24) (x := (4 : Int32)) (by decide) (pc' := 25) rfl ?_
        refine g_iaload X hx hZ eT A_g.2 (hb hby d7_25) (by decide) (by decide) (v := (.int (2 : Int32))) rfl (pc' := 26) rfl ?_
        refine g_iconst X hx (hb hby d7_26) (x := (1 : Int32)) (by decide) (pc' := 27) rfl ?_
        refine g_iadd X hx (hb hby d7_27) (pc' := 28) rfl ?_
        rw [show ((2 : Int32) + (1 : Int32)) = (3 : Int32) from by decide]
        refine g_iastore X hx hZ eT A_g.2 (hb hby d7_28) (by decide) (by decide) (pc' := 29) rfl (fun T h X eT W A' => ?_)
        replace N := Fr.snoc X N g_g
        replace Zn := Nat.le_trans Zn (Nat.le_of_eq W.size.symm)
        replace K := K.wr W (Or.inl (List.mem_of_getElem? (i := 0) rfl))
        replace A_g : Al Z h g .int 5 [s0, s1, x, s3, (3 : Int32)] := A_g.set A'
        refine g_ret0 X hx hret hlk (hb hby d7_29) (by decide) (by decide) ?_
        rw [eT]
        refine ⟨_, _, _, _, _, rfl, N, K, A_g, ?_⟩
        unfold addM; rw [if_neg (by rw [hP]; decide), if_pos (show List.length _ < 4 by simp)]
        exact Or.inr (Or.inr (Or.inr (Or.inl ⟨rfl, rfl⟩)))
      · skip
        refine g_aloadN X hx (hb hby d7_15) rfl rfl (pc' := 16) rfl ?_
        refine g_aloadN X hx (hb hby d7_16) rfl rfl (pc' := 17) rfl ?_
        refine g_iconst X hx (hb hby d7_17) (x := (4 : Int32)) (by decide) (pc' := 18) rfl ?_
        refine g_iaload X hx hZ eT A_g.2 (hb hby d7_18) (by decide) (by decide) (v := (.int (3 : Int32))) rfl (pc' := 19) rfl ?_
        refine g_iloadN X hx (hb hby d7_19) rfl (pc' := 20) rfl ?_
        refine g_iastore X hx hZ eT A_g.2 (hb hby d7_20) (by decide) (by decide) (pc' := 21) rfl (fun T h X eT W A' => ?_)
        replace N := Fr.snoc X N g_g
        replace Zn := Nat.le_trans Zn (Nat.le_of_eq W.size.symm)
        replace K := K.wr W (Or.inl (List.mem_of_getElem? (i := 0) rfl))
        replace A_g : Al Z h g .int 5 [s0, s1, s2, x, (3 : Int32)] := A_g.set A'
        refine g_aloadN X hx (hb hby d7_21) rfl rfl (pc' := 22) rfl ?_
        refine g_iconst X hx (hb hby d7_22) (x := (4 : Int32)) (by decide) (pc' := 23) rfl ?_
        refine g_aloadN X hx (hb hby d7_23) rfl rfl (pc' := 24) rfl ?_
        refine g_iconst X hx (hb hby d7_24) (x := (4 : Int32)) (by decide) (pc' := 25) rfl ?_
        refine g_iaload X hx hZ eT A_g.2 (hb hby d7_25) (by decide) (by decide) (v := (.int (3 : Int32))) rfl (pc' := 26) rfl ?_
        refine g_iconst X hx (hb hby d7_26) (x := (1 : Int32)) (by decide) (pc' := 27) rfl ?_
        refine g_iadd X hx (hb hby d7_27) (pc' := 28) rfl ?_
        rw [show ((3 : Int32) + (1 : Int32)) = (4 : Int32) from by decide]
        refine g_iastore X hx hZ eT A_g.2 (hb hby d7_28) (by decide) (by decide) (pc' := 29) rfl (fun T h X eT W A' => ?_)
        replace N := Fr.snoc X N g_g
        replace Zn := Nat.le_trans Zn (Nat.le_of_eq W.size.symm)
        replace K := K.wr W (Or.inl (List.mem_of_getElem? (i := 0) rfl))
        replace A_g : Al Z h g .int 5 [s0, s1, s2, x, (4 : Int32)] := A_g.set A'
        refine g_ret0 X hx hret hlk (hb hby d7_29) (by decide) (by decide) ?_
        rw [eT]
        refine ⟨_, _, _, _, _, rfl, N, K, A_g, ?_⟩
        unfold addM; rw [if_neg (by rw [hP]; decide), if_pos (show List.length _ < 4 by simp)]
        exact Or.inr (Or.inr (Or.inr (Or.inr ⟨rfl, rfl⟩)))
      · exact absurd hc12 (by decide)
theorem d3_0 : decode method_5_code 0 = .ok (.iload_n 3, 1) := by decide +kernel
theorem d3_1 : decode method_5_code 1 = .ok (.ifCond .eq 28, 3) := by decide +kernel
theorem d3_4 : decode method_5_code 4 = .ok (.aload_n 0, 1) := by decide +kernel
theorem d3_5 : decode method_5_code 5 = .ok (.invokevirtual 13, 3) := by decide +kernel
theorem d3_8 : decode method_5_code 8 = .ok (.istore 5, 2) := by decide +kernel
theorem d3_10 : decode method_5_code 10 = .ok (.aload_n 1, 1) := by decide +kernel
theorem d3_11 : decode method_5_code 11 = .ok (.invokestatic 19, 3) := by decide +kernel
theorem d3_14 : decode method_5_code 14 = .ok (.istore 6, 2) := by decide +kernel
theorem d3_16 : decode method_5_code 16 = .ok (.iload 5, 2) := by decide +kernel
theorem d3_18 : decode method_5_code 18 = .ok (.iload 6, 2) := by decide +kernel
theorem d3_20 : decode method_5_code 20 = .ok (.if_icmp .ne 7, 3) := by decide +kernel
theorem d3_23 : decode method_5_code 23 = .ok (.iconst 1, 1) := by decide +kernel
theorem d3_24 : decode method_5_code 24 = .ok (.goto 4, 3) := by decide +kernel
theorem d3_27 : decode method_5_code 27 = .ok (.iconst 0, 1) := by decide +kernel
theorem d3_28 : decode method_5_code 28 = .ok (.ireturn, 1) := by decide +kernel
theorem d3_29 : decode method_5_code 29 = .ok (.iload_n 2, 1) := by decide +kernel
theorem d3_30 : decode method_5_code 30 = .ok (.ifCond .le 24, 3) := by decide +kernel
theorem d3_33 : decode method_5_code 33 = .ok (.iload 4, 2) := by decide +kernel
theorem d3_35 : decode method_5_code 35 = .ok (.bipush 15, 2) := by decide +kernel
theorem d3_37 : decode method_5_code 37 = .ok (.iand, 1) := by decide +kernel
theorem d3_38 : decode method_5_code 38 = .ok (.iload_n 2, 1) := by decide +kernel
theorem d3_39 : decode method_5_code 39 = .ok (.irem, 1) := by decide +kernel
theorem d3_40 : decode method_5_code 40 = .ok (.istore 5, 2) := by decide +kernel
theorem d3_42 : decode method_5_code 42 = .ok (.aload_n 0, 1) := by decide +kernel
theorem d3_43 : decode method_5_code 43 = .ok (.iload 5, 2) := by decide +kernel
theorem d3_45 : decode method_5_code 45 = .ok (.invokevirtual 23, 3) := by decide +kernel
theorem d3_48 : decode method_5_code 48 = .ok (.aload_n 1, 1) := by decide +kernel
theorem d3_49 : decode method_5_code 49 = .ok (.iload 5, 2) := by decide +kernel
theorem d3_51 : decode method_5_code 51 = .ok (.invokestatic 27, 3) := by decide +kernel
theorem d3_54 : decode method_5_code 54 = .ok (.iconst 1, 1) := by decide +kernel
theorem d3_55 : decode method_5_code 55 = .ok (.ireturn, 1) := by decide +kernel
theorem pl_3 : plainFor (⟨"com/example/storewatch/storewatch/graph/NodeQueuePollPinLaw", "step", "(Lcom/example/storewatch/storewatch/graph/NodeQueue;[IIZI)Z"⟩ : MethodName) = true := plainFor_of_name (by first | (simp [plainName, overriddenIn]; done) | decide +kernel)
theorem ef_rmS (m : MethodId) (z0 : Addr) (z1 : Addr) (z2 : Int32) (z3 : Int32) (z4 : Int32) : entryFrame m #[(.ref z0), (.ref z1), (.int z2), (.int z3), (.int z4)] 7 = mkF m 0 #[.val (.ref z0), .val (.ref z1), .val (.int z2), .val (.int z3), .val (.int z4), .unset, .unset] [] := by first | (simp [entryFrame, mkF, argsToLocals, Value.category]; done) | rfl
set_option maxRecDepth 65536 in
set_option maxHeartbeats 40000000 in
theorem rmS (l : Launch) (Z : State) (a0 : Array Value) (hw : ∀ d ∈ tables_1, d.before a0 Z = true) (q : Addr) (r1 : Addr) (r2 : Addr) (n : Nat) (nI : Int32) (L : List Int32) (M : List Int32) (hd : Int32) (ct : Int32) (ev : Int32) (P : List Int32) (g : Addr) (s0 : Int32) (s1 : Int32) (s2 : Int32) (s3 : Int32) (s4 : Int32) (bp : Int32) (xs : Int32) (h0 : Heap) (n0 : Nat) (Zn : n0 ≤ h0.size) (E_q : Exa Z h0 q "com/example/storewatch/storewatch/graph/NodeQueue") (F_q_nodes : Fld Z h0 q "com/example/storewatch/storewatch/graph/NodeQueue" "nodes" "[I" (.ref r1)) (F_q_queued : Fld Z h0 q "com/example/storewatch/storewatch/graph/NodeQueue" "queued" "[Z" (.ref r2)) (F_q_head : Fld Z h0 q "com/example/storewatch/storewatch/graph/NodeQueue" "head" "I" (.int hd)) (F_q_count : Fld Z h0 q "com/example/storewatch/storewatch/graph/NodeQueue" "count" "I" (.int ct)) (F_q_everyFrom : Fld Z h0 q "com/example/storewatch/storewatch/graph/NodeQueue" "everyFrom" "I" (.int ev)) (A_r1 : Al Z h0 r1 .int n L) (A_r2 : Al Z h0 r2 .boolean n M) (ne_q_r1 : q ≠ r1) (ne_q_r2 : q ≠ r2) (ne_r1_r2 : r1 ≠ r2) (g_q : n0 ≤ q) (g_r1 : n0 ≤ r1) (g_r2 : n0 ≤ r2) (A_g : Al Z h0 g .int 5 [s0, s1, s2, s3, s4]) (ne_q_g : q ≠ g) (ne_r1_g : r1 ≠ g) (ne_r2_g : r2 ≠ g) (g_g : n0 ≤ g) (I : NInv n nI L M hd ct ev P) (J : MI s0 s1 s2 s3 s4 P) :
    WCt l Z (⟨"com/example/storewatch/storewatch/graph/NodeQueuePollPinLaw", "step", "(Lcom/example/storewatch/storewatch/graph/NodeQueue;[IIZI)Z"⟩ : MethodName) method_5_code 7 (some .boolean) ({ frames := 2, cells := 0, slots := 0, locals := 40 } : Room) #[(.ref q), (.ref g), (.int nI), (.int bp), (.int xs)] h0 (fun vv hh LL => ∃ (L2 : List Int32) (M2 : List Int32) (hd2 : Int32) (ct2 : Int32) (ev2 : Int32) (P2 : List Int32) (t0 : Int32) (t1 : Int32) (t2 : Int32) (t3 : Int32) (t4 : Int32), (vv = some (.int (1 : Int32))) ∧ (Fr n0 LL) ∧ (Keep h0 hh [q, r1, r2, g]) ∧ (Fld Z hh q "com/example/storewatch/storewatch/graph/NodeQueue" "nodes" "[I" (.ref r1)) ∧ (Fld Z hh q "com/example/storewatch/storewatch/graph/NodeQueue" "queued" "[Z" (.ref r2)) ∧ (Fld Z hh q "com/example/storewatch/storewatch/graph/NodeQueue" "head" "I" (.int hd2)) ∧ (Fld Z hh q "com/example/storewatch/storewatch/graph/NodeQueue" "count" "I" (.int ct2)) ∧ (Fld Z hh q "com/example/storewatch/storewatch/graph/NodeQueue" "everyFrom" "I" (.int ev2)) ∧ (Al Z hh r1 .int n L2) ∧ (Al Z hh r2 .boolean n M2) ∧ (Al Z hh g .int 5 [t0, t1, t2, t3, t4]) ∧ (NInv n nI L2 M2 hd2 ct2 ev2 P2) ∧ (MI t0 t1 t2 t3 t4 P2)) := by
  refine WCt.of pl_3 ?_
  intro p e s m below meth c T hx hby hml hown hnm hret hlk hZ hh0 X eT
  have hown : s.vm.findClass "com/example/storewatch/storewatch/graph/NodeQueuePollPinLaw" = some m.cls := hown
  have hnm : meth.name = "step" := hnm
  have N := Fr.nil n0
  obtain ⟨h, eh⟩ : ∃ h, h = h0 := ⟨_, rfl⟩
  have K : Keep h0 h [q, r1, r2, g] := by rw [eh]; exact Keep.refl _ _
  refine WGo.cast (ef_rmS m q g nI bp xs) ?_
  rw [← eh] at eT Zn E_q F_q_nodes F_q_queued F_q_head F_q_count F_q_everyFrom A_r1 A_r2 A_g
  have hns := ninv_len I
  obtain ⟨z1, z2, hnI, z4, z5, z6⟩ := nss_int hns
  refine g_iloadN X hx (hb hby d3_0) rfl (pc' := 1) rfl ?_
  refine g_if X hx (hb hby d3_1) (by decide) (pc' := 29) (by decide) (pc2 := 4) rfl (fun hc => ?_) (fun hc => ?_)
  · replace hc := h_eq1 hc
    have hc1 := hc
    refine g_iloadN X hx (hb hby d3_29) rfl (pc' := 30) rfl ?_
    refine g_if X hx (hb hby d3_30) (by decide) (pc' := 54) (by decide) (pc2 := 33) rfl (fun hc => ?_) (fun hc => ?_)
    · replace hc := h_le1 hc
      have hc30 := hc
      refine g_iconst X hx (hb hby d3_54) (x := (1 : Int32)) (by decide) (pc' := 55) rfl ?_
      refine g_retN (t := .boolean) X hx hret (by simp) hlk (hb hby d3_55) (by decide) (by decide) ?_
      rw [eT]
      exact ⟨_, _, _, _, _, _, _, _, _, _, _, rfl, N, K, F_q_nodes, F_q_queued, F_q_head, F_q_count, F_q_everyFrom, A_r1, A_r2, A_g, I, J⟩
    · replace hc := h_le0 hc
      have hc30 := hc
      refine g_iload X hx (hb hby d3_33) rfl (pc' := 35) rfl ?_
      refine g_bipush X hx (hb hby d3_35) (x := (15 : Int32)) (by decide) (pc' := 37) rfl ?_
      refine g_iand X hx (hb hby d3_37) (pc' := 38) rfl ?_
      refine g_iloadN X hx (hb hby d3_38) rfl (pc' := 39) rfl ?_
      refine g_irem X hx (hb hby d3_39) (fun z => by rw [z] at hc30; exact absurd hc30 (by decide)) (pc' := 40) rfl ?_
      refine g_istore X hx (hb hby d3_40) (Ls' := #[.val (.ref q), .val (.ref g), .val (.int nI), .val (.int bp), .val (.int xs), .val (.int ((xs &&& (15 : Int32)) % nI)), .unset]) rfl (pc' := 42) rfl ?_
      refine g_aloadN X hx (hb hby d3_42) rfl rfl (pc' := 43) rfl ?_
      refine g_iload X hx (hb hby d3_43) rfl (pc' := 45) rfl ?_
      refine g_virt (W := 0) (argsL := [(.int ((xs &&& (15 : Int32)) % nI))]) (st := []) X hx hZ hown (hw _ (List.mem_of_getElem? (i := 32) rfl)) (hw _ (List.mem_of_getElem? (i := 33) rfl)) (notFace_of_selects (args := #[]) (mvT hZ (hw _ (List.mem_of_getElem? (i := 35) rfl)))) (hw _ (List.mem_of_getElem? (i := 35) rfl)) (hw _ (List.mem_of_getElem? (i := 34) rfl)) (hw _ (List.mem_of_getElem? (i := 36) rfl)) (hw _ (List.mem_of_getElem? (i := 4) rfl)) (by decide) E_q (rmA l Z a0 hw q r1 r2 n nI L M hd ct ev P ((xs &&& (15 : Int32)) % nI) h n0 Zn E_q F_q_nodes F_q_queued F_q_head F_q_count F_q_everyFrom A_r1 A_r2 ne_q_r1 ne_q_r2 ne_r1_r2 g_q g_r1 g_r2 hnI I (node_ok hns hc30 _).1 (node_ok hns hc30 _).2) eT (by decide) (by decide) (by decide) (by decide) (lenOf pd_1 rfl) (by rw [hml]; rfl) rfl (Nat.le_of_eq rfl) (hb hby d3_45) (pc' := 48) rfl (fun T h vq Lq X eT hQ => ?_)
      obtain ⟨L2, M2, ct2, rfl, Nq, Kc, q_F_q_nodes, q_F_q_queued, q_F_q_head, q_F_q_count, q_F_q_everyFrom, q_A_r1, q_A_r2, I2⟩ := hQ
      replace N := Fr.app N Nq
      replace E_q := E_q.keep Kc
      replace A_g := A_g.keep Kc (ninS (Ne.symm ne_q_g) (ninS (Ne.symm ne_r1_g) (ninS (Ne.symm ne_r2_g) nin0)))
      have F_q_nodes := q_F_q_nodes
      have F_q_queued := q_F_q_queued
      have F_q_head := q_F_q_head
      have F_q_count := q_F_q_count
      have F_q_everyFrom := q_F_q_everyFrom
      have A_r1 := q_A_r1
      have A_r2 := q_A_r2
      replace Zn := Nat.le_trans Zn Kc.1
      replace K := K.trans Kc (allS (Or.inl (List.mem_of_getElem? (i := 0) rfl)) (allS (Or.inl (List.mem_of_getElem? (i := 1) rfl)) (allS (Or.inl (List.mem_of_getElem? (i := 2) rfl)) all0)))
      show WGo _ _ _ _ _ _ _ _ (mkF m 48 #[.val (.ref q), .val (.ref g), .val (.int nI), .val (.int bp), .val (.int xs), .val (.int ((xs &&& (15 : Int32)) % nI)), .unset] [])
      refine g_aloadN X hx (hb hby d3_48) rfl rfl (pc' := 49) rfl ?_
      refine g_iload X hx (hb hby d3_49) rfl (pc' := 51) rfl ?_
      refine g_stat (W := 0) (argsL := [(.ref g), (.int ((xs &&& (15 : Int32)) % nI))]) (st := []) X hx hZ hown (hw _ (List.mem_of_getElem? (i := 39) rfl)) (hw _ (List.mem_of_getElem? (i := 40) rfl)) (hw _ (List.mem_of_getElem? (i := 20) rfl)) (hw _ (List.mem_of_getElem? (i := 41) rfl)) (by decide) (rmMA l Z a0 hw g s0 s1 s2 s3 s4 P ((xs &&& (15 : Int32)) % nI) h n0 Zn A_g g_g J) eT (by decide) (by decide) (by decide) (by decide) (lenOf pd_2 rfl) (by rw [hml]; rfl) rfl (Nat.le_of_eq rfl) (hb hby d3_51) (pc' := 54) rfl (fun T h vq Lq X eT hQ => ?_)
      obtain ⟨t0, t1, t2, t3, t4, rfl, Nq, Kc, q_A_g, J2⟩ := hQ
      replace N := Fr.app N Nq
      replace F_q_nodes := F_q_nodes.keep Kc (ninS ne_q_g nin0)
      replace F_q_queued := F_q_queued.keep Kc (ninS ne_q_g nin0)
      replace F_q_head := F_q_head.keep Kc (ninS ne_q_g nin0)
      replace F_q_count := F_q_count.keep Kc (ninS ne_q_g nin0)
      replace F_q_everyFrom := F_q_everyFrom.keep Kc (ninS ne_q_g nin0)
      replace E_q := E_q.keep Kc
      replace A_r1 := A_r1.keep Kc (ninS ne_r1_g nin0)
      replace A_r2 := A_r2.keep Kc (ninS ne_r2_g nin0)
      have A_g := q_A_g
      replace Zn := Nat.le_trans Zn Kc.1
      replace K := K.trans Kc (allS (Or.inl (List.mem_of_getElem? (i := 3) rfl)) all0)
      show WGo _ _ _ _ _ _ _ _ (mkF m 54 #[.val (.ref q), .val (.ref g), .val (.int nI), .val (.int bp), .val (.int xs), .val (.int ((xs &&& (15 : Int32)) % nI)), .unset] [])
      refine g_iconst X hx (hb hby d3_54) (x := (1 : Int32)) (by decide) (pc' := 55) rfl ?_
      refine g_retN (t := .boolean) X hx hret (by simp) hlk (hb hby d3_55) (by decide) (by decide) ?_
      rw [eT]
      rw [add_same I (node_ok hns hc30 _).1 (node_ok hns hc30 _).2] at I2
      exact ⟨_, _, _, _, _, _, _, _, _, _, _, rfl, N, K, F_q_nodes, F_q_queued, F_q_head, F_q_count, F_q_everyFrom, A_r1, A_r2, A_g, I2, J2⟩
  · replace hc := h_eq0 hc
    have hc1 := hc
    refine g_aloadN X hx (hb hby d3_4) rfl rfl (pc' := 5) rfl ?_
    refine g_virt (W := 0) (argsL := []) (st := []) X hx hZ hown (hw _ (List.mem_of_getElem? (i := 22) rfl)) (hw _ (List.mem_of_getElem? (i := 23) rfl)) (notFace_of_selects (args := #[]) (mvT hZ (hw _ (List.mem_of_getElem? (i := 25) rfl)))) (hw _ (List.mem_of_getElem? (i := 25) rfl)) (hw _ (List.mem_of_getElem? (i := 24) rfl)) (hw _ (List.mem_of_getElem? (i := 26) rfl)) (hw _ (List.mem_of_getElem? (i := 4) rfl)) (by decide) E_q (rmP l Z a0 hw q r1 r2 n nI L M hd ct ev P h n0 Zn E_q F_q_nodes F_q_queued F_q_head F_q_count F_q_everyFrom A_r1 A_r2 ne_q_r1 ne_q_r2 ne_r1_r2 g_q g_r1 g_r2 hnI I) eT (by decide) (by decide) (by decide) (by decide) (lenOf pd_3 rfl) (by rw [hml]; rfl) rfl (Nat.le_of_eq rfl) (hb hby d3_5) (pc' := 8) rfl (fun T h vq Lq X eT hQ => ?_)
    obtain ⟨M2, hd2, ct2, ev2, rfl, Nq, Kc, q_F_q_nodes, q_F_q_queued, q_F_q_head, q_F_q_count, q_F_q_everyFrom, q_A_r1, q_A_r2, I2⟩ := hQ
    replace N := Fr.app N Nq
    replace E_q := E_q.keep Kc
    replace A_g := A_g.keep Kc (ninS (Ne.symm ne_q_g) (ninS (Ne.symm ne_r2_g) nin0))
    have F_q_nodes := q_F_q_nodes
    have F_q_queued := q_F_q_queued
    have F_q_head := q_F_q_head
    have F_q_count := q_F_q_count
    have F_q_everyFrom := q_F_q_everyFrom
    have A_r1 := q_A_r1
    have A_r2 := q_A_r2
    replace Zn := Nat.le_trans Zn Kc.1
    replace K := K.trans Kc (allS (Or.inl (List.mem_of_getElem? (i := 0) rfl)) (allS (Or.inl (List.mem_of_getElem? (i := 2) rfl)) all0))
    show WGo _ _ _ _ _ _ _ _ (mkF m 8 #[.val (.ref q), .val (.ref g), .val (.int nI), .val (.int bp), .val (.int xs), .unset, .unset] [(.int (P.headD (-1)))])
    refine g_istore X hx (hb hby d3_8) (Ls' := #[.val (.ref q), .val (.ref g), .val (.int nI), .val (.int bp), .val (.int xs), .val (.int (P.headD (-1))), .unset]) rfl (pc' := 10) rfl ?_
    refine g_aloadN X hx (hb hby d3_10) rfl rfl (pc' := 11) rfl ?_
    refine g_stat (W := 0) (argsL := [(.ref g)]) (st := []) X hx hZ hown (hw _ (List.mem_of_getElem? (i := 29) rfl)) (hw _ (List.mem_of_getElem? (i := 30) rfl)) (hw _ (List.mem_of_getElem? (i := 20) rfl)) (hw _ (List.mem_of_getElem? (i := 31) rfl)) (by decide) (rmMP l Z a0 hw g s0 s1 s2 s3 s4 P h n0 Zn A_g g_g J) eT (by decide) (by decide) (by decide) (by decide) (lenOf pd_4 rfl) (by rw [hml]; rfl) rfl (Nat.le_of_eq rfl) (hb hby d3_11) (pc' := 14) rfl (fun T h vq Lq X eT hQ => ?_)
    obtain ⟨t0, t1, t2, t3, t4, rfl, Nq, Kc, q_A_g, J2⟩ := hQ
    replace N := Fr.app N Nq
    replace F_q_nodes := F_q_nodes.keep Kc (ninS ne_q_g nin0)
    replace F_q_queued := F_q_queued.keep Kc (ninS ne_q_g nin0)
    replace F_q_head := F_q_head.keep Kc (ninS ne_q_g nin0)
    replace F_q_count := F_q_count.keep Kc (ninS ne_q_g nin0)
    replace F_q_everyFrom := F_q_everyFrom.keep Kc (ninS ne_q_g nin0)
    replace E_q := E_q.keep Kc
    replace A_r1 := A_r1.keep Kc (ninS ne_r1_g nin0)
    replace A_r2 := A_r2.keep Kc (ninS ne_r2_g nin0)
    have A_g := q_A_g
    replace Zn := Nat.le_trans Zn Kc.1
    replace K := K.trans Kc (allS (Or.inl (List.mem_of_getElem? (i := 3) rfl)) all0)
    show WGo _ _ _ _ _ _ _ _ (mkF m 14 #[.val (.ref q), .val (.ref g), .val (.int nI), .val (.int bp), .val (.int xs), .val (.int (P.headD (-1))), .unset] [(.int (P.headD (-1)))])
    refine g_istore X hx (hb hby d3_14) (Ls' := #[.val (.ref q), .val (.ref g), .val (.int nI), .val (.int bp), .val (.int xs), .val (.int (P.headD (-1))), .val (.int (P.headD (-1)))]) rfl (pc' := 16) rfl ?_
    refine g_iload X hx (hb hby d3_16) rfl (pc' := 18) rfl ?_
    refine g_iload X hx (hb hby d3_18) rfl (pc' := 20) rfl ?_
    refine g_icmp X hx (hb hby d3_20) (by decide) (pc' := 27) (by decide) (pc2 := 23) rfl (fun hc => ?_) (fun hc => ?_)
    · replace hc := h_ne1 hc
      have hc20 := hc
      exfalso
      exact hc rfl
    · replace hc := h_ne0 hc
      have hc20 := hc
      refine g_iconst X hx (hb hby d3_23) (x := (1 : Int32)) (by decide) (pc' := 24) rfl ?_
      refine g_goto X hx (hb hby d3_24) (by decide) (pc' := 28) (by decide) ?_
      refine g_retN (t := .boolean) X hx hret (by simp) hlk (hb hby d3_28) (by decide) (by decide) ?_
      rw [eT]
      exact ⟨_, _, _, _, _, _, _, _, _, _, _, rfl, N, K, F_q_nodes, F_q_queued, F_q_head, F_q_count, F_q_everyFrom, A_r1, A_r2, A_g, I2, J2⟩
theorem pl_0 : plainFor x = true := plainFor_of_name (by first | (simp [plainName, overriddenIn, x]; done) | decide +kernel)
theorem ef_rm0 (m : MethodId) (z0 : Int32) (z1 : Int32) (z2 : Int32) : entryFrame m #[(.int z0), (.int z1), (.int z2)] maxLocals = mkF m 0 #[.val (.int z0), .val (.int z1), .val (.int z2), .unset, .unset, .unset, .unset, .unset] [] := by first | (simp [entryFrame, mkF, argsToLocals, Value.category, maxLocals]; done) | rfl
set_option maxRecDepth 65536 in
set_option maxHeartbeats 40000000 in
theorem rm0 (l : Launch) (Z : State) (a0 : Array Value) (hw : ∀ d ∈ tables_1, d.before a0 Z = true) (p0 : Int32) (p1 : Int32) (p2 : Int32) (h0 : Heap) (n0 : Nat) (Zn : n0 ≤ h0.size)   :
    WCt l Z x code maxLocals ret room_1 #[(.int p0), (.int p1), (.int p2)] h0 (fun vv hh LL => (vv = some (.int (1 : Int32))) ∧ (Fr n0 LL)) := by
  refine WCt.of pl_0 ?_
  intro p e s m below meth c T hx hby hml hown hnm hret hlk hZ hh0 X eT
  have hown : s.vm.findClass "com/example/storewatch/storewatch/graph/NodeQueuePollPinLaw" = some m.cls := hown
  have hnm : meth.name = "law" := hnm
  have N := Fr.nil n0
  obtain ⟨h, eh⟩ : ∃ h, h = h0 := ⟨_, rfl⟩
  refine WGo.cast (ef_rm0 m p0 p1 p2) ?_
  rw [← eh] at eT Zn 
  refine g_iloadN X hx (hb hby at_0) rfl (pc' := 1) rfl ?_
  refine g_ldcI X hx hZ hown (hw _ (List.mem_of_getElem? (i := 0) rfl)) (hb hby at_1) (pc' := 3) rfl ?_
  refine g_iand X hx (hb hby at_3) (pc' := 4) rfl ?_
  refine g_iconst X hx (hb hby at_4) (x := (5 : Int32)) (by decide) (pc' := 5) rfl ?_
  refine g_irem X hx (hb hby at_5) (by decide) (pc' := 6) rfl ?_
  have hns := n_ok p0
  generalize ((p0 &&& (2147483647 : Int32)) % (5 : Int32)) = nI at *
  generalize hnn : nI.toNatClampNeg = n at *
  obtain ⟨z1, z2, hnI, z4, z5, z6⟩ := nss_int hns
  refine g_istoreN X hx (hb hby at_6) (Ls' := #[.val (.int p0), .val (.int p1), .val (.int p2), .val (.int nI), .unset, .unset, .unset, .unset]) rfl (pc' := 7) rfl ?_
  refine g_iloadN X hx (hb hby at_7) rfl (pc' := 8) rfl ?_
  refine g_bipush X hx (hb hby at_8) (x := (8 : Int32)) (by decide) (pc' := 10) rfl ?_
  refine g_iushr X hx (hb hby at_10) (pc' := 11) rfl ?_
  refine g_iconst X hx (hb hby at_11) (x := (1 : Int32)) (by decide) (pc' := 12) rfl ?_
  refine g_iand X hx (hb hby at_12) (pc' := 13) rfl ?_
  refine g_if X hx (hb hby at_13) (by decide) (pc' := 20) (by decide) (pc2 := 16) rfl (fun hc => ?_) (fun hc => ?_)
  · replace hc := h_eq1 hc
    have hc13 := hc
    refine g_iconst X hx (hb hby at_20) (x := (0 : Int32)) (by decide) (pc' := 21) rfl ?_
    refine g_istore X hx (hb hby at_21) (Ls' := #[.val (.int p0), .val (.int p1), .val (.int p2), .val (.int nI), .val (.int (0 : Int32)), .unset, .unset, .unset]) rfl (pc' := 23) rfl ?_
    refine g_iconst X hx (hb hby at_23) (x := (5 : Int32)) (by decide) (pc' := 24) rfl ?_
    refine g_newP (cap := 5) X hx hZ (hw _ (List.mem_of_getElem? (i := 1) rfl)) eT (hb hby at_24) (by decide) (by decide) (by decide) (by decide) (by decide) (pc' := 26) rfl (fun T h g ha X eT Ex A_g => ?_)
    have g_g : n0 ≤ g := by rw [ha]; exact Zn
    replace Zn := Nat.le_trans Zn Ex.1
    replace A_g : Al Z h g .int 5 [0, 0, 0, 0, 0] := Al.new A_g
    refine g_astore X hx (hb hby at_26) rfl (Ls' := #[.val (.int p0), .val (.int p1), .val (.int p2), .val (.int nI), .val (.int (0 : Int32)), .val (.ref g), .unset, .unset]) rfl (pc' := 28) rfl ?_
    refine g_new X hx hZ hown (hw _ (List.mem_of_getElem? (i := 2) rfl)) (hw _ (List.mem_of_getElem? (i := 3) rfl)) (hw _ (List.mem_of_getElem? (i := 4) rfl)) eT (hb hby at_28) (by decide) (by decide) (pc' := 31) rfl (fun T h q ha X eT Ex E_q Df => ?_)
    have g_q : n0 ≤ q := by rw [ha]; exact Zn
    have ne_g_q : g ≠ q := by rw [ha]; exact Nat.ne_of_lt A_g.lt
    replace A_g := A_g.ext Ex
    replace Zn := Nat.le_trans Zn Ex.1
    have F_q_nodes : Fld Z h q "com/example/storewatch/storewatch/graph/NodeQueue" "nodes" "[I" .null := Df (Or.inr (hw _ (List.mem_of_getElem? (i := 12) rfl))) (ty := (.array .int)) (by decide)
    have F_q_queued : Fld Z h q "com/example/storewatch/storewatch/graph/NodeQueue" "queued" "[Z" .null := Df (Or.inr (hw _ (List.mem_of_getElem? (i := 15) rfl))) (ty := (.array .boolean)) (by decide)
    have F_q_everyFrom : Fld Z h q "com/example/storewatch/storewatch/graph/NodeQueue" "everyFrom" "I" (.int (0 : Int32)) := Df (Or.inl (hw _ (List.mem_of_getElem? (i := 17) rfl))) (ty := .int) (by decide)
    have F_q_count : Fld Z h q "com/example/storewatch/storewatch/graph/NodeQueue" "count" "I" (.int (0 : Int32)) := Df (Or.inl (hw _ (List.mem_of_getElem? (i := 28) rfl))) (ty := .int) (by decide)
    have F_q_head : Fld Z h q "com/example/storewatch/storewatch/graph/NodeQueue" "head" "I" (.int (0 : Int32)) := Df (Or.inl (hw _ (List.mem_of_getElem? (i := 38) rfl))) (ty := .int) (by decide)
    refine g_dup X hx (hb hby at_31) rfl (pc' := 32) rfl ?_
    refine g_iloadN X hx (hb hby at_32) rfl (pc' := 33) rfl ?_
    refine g_init (W := 1) (argsL := [(.int nI)]) (st := [(.ref q)]) X hx hZ hown rfl (hw _ (List.mem_of_getElem? (i := 5) rfl)) (hw _ (List.mem_of_getElem? (i := 6) rfl)) (hw _ (List.mem_of_getElem? (i := 7) rfl)) (hw _ (List.mem_of_getElem? (i := 4) rfl)) (by decide) (rmI l Z a0 hw q n nI h n0 Zn E_q F_q_nodes F_q_queued F_q_head F_q_count F_q_everyFrom g_q z4 z5 z6) eT (by decide) (by decide) (by decide) (by decide) (lenOf pd_1 rfl) (by rw [hml]; rfl) rfl (Nat.le_of_eq rfl) (hb hby at_33) (pc' := 36) rfl (fun T h vq Lq X eT hQ => ?_)
    obtain ⟨r1, r2, rfl, Nq, Kc, q_F_q_nodes, q_F_q_queued, q_F_q_head, q_F_q_count, q_F_q_everyFrom, q_A_r1, q_A_r2, q_ne_q_r1, q_ne_q_r2, q_ne_r1_r2, q_g_r1, q_g_r2, q_sz_r1, q_sz_r2⟩ := hQ
    replace N := Fr.app N Nq
    have ne_g_r1 : g ≠ r1 := Nat.ne_of_lt (Nat.lt_of_lt_of_le A_g.lt q_sz_r1)
    have ne_g_r2 : g ≠ r2 := Nat.ne_of_lt (Nat.lt_of_lt_of_le A_g.lt q_sz_r2)
    replace E_q := E_q.keep Kc
    replace A_g := A_g.keep Kc (ninS ne_g_q nin0)
    have F_q_nodes := q_F_q_nodes
    have F_q_queued := q_F_q_queued
    have F_q_head := q_F_q_head
    have F_q_count := q_F_q_count
    have F_q_everyFrom := q_F_q_everyFrom
    have A_r1 := q_A_r1
    have A_r2 := q_A_r2
    have ne_q_r1 := q_ne_q_r1
    have ne_q_r2 := q_ne_q_r2
    have ne_r1_r2 := q_ne_r1_r2
    have g_r1 := q_g_r1
    have g_r2 := q_g_r2
    replace Zn := Nat.le_trans Zn Kc.1
    show WGo _ _ _ _ _ _ _ _ (mkF m 36 #[.val (.int p0), .val (.int p1), .val (.int p2), .val (.int nI), .val (.int (0 : Int32)), .val (.ref g), .unset, .unset] [(.ref q)])
    refine g_astore X hx (hb hby at_36) rfl (Ls' := #[.val (.int p0), .val (.int p1), .val (.int p2), .val (.int nI), .val (.int (0 : Int32)), .val (.ref g), .val (.ref q), .unset]) rfl (pc' := 38) rfl ?_
    refine g_iload X hx (hb hby at_38) rfl (pc' := 40) rfl ?_
    refine g_if X hx (hb hby at_40) (by decide) (pc' := 73) (by decide) (pc2 := 43) rfl (fun hc => ?_) (fun hc => ?_)
    · replace hc := h_eq1 hc
      have hc40 := hc
      have I2 := ninv0 hns
      have J2 : MI 0 0 0 0 0 [] := Or.inl ⟨rfl, rfl⟩
      refine g_iconst X hx (hb hby at_73) (x := (1 : Int32)) (by decide) (pc' := 74) rfl ?_
      refine g_istore X hx (hb hby at_74) (Ls' := #[.val (.int p0), .val (.int p1), .val (.int p2), .val (.int nI), .val (.int (0 : Int32)), .val (.ref g), .val (.ref q), .val (.int (1 : Int32))]) rfl (pc' := 76) rfl ?_
      refine g_iload X hx (hb hby at_76) rfl (pc' := 78) rfl ?_
      refine g_aload X hx (hb hby at_78) rfl rfl (pc' := 80) rfl ?_
      refine g_aload X hx (hb hby at_80) rfl rfl (pc' := 82) rfl ?_
      refine g_iloadN X hx (hb hby at_82) rfl (pc' := 83) rfl ?_
      refine g_iloadN X hx (hb hby at_83) rfl (pc' := 84) rfl ?_
      refine g_iconst X hx (hb hby at_84) (x := (1 : Int32)) (by decide) (pc' := 85) rfl ?_
      refine g_iand X hx (hb hby at_85) (pc' := 86) rfl ?_
      refine g_join (J := fun bp : Int32 => (mkF m 94 #[.val (.int p0), .val (.int p1), .val (.int p2), .val (.int nI), .val (.int (0 : Int32)), .val (.ref g), .val (.ref q), .val (.int (1 : Int32))] [(.int bp), (.int nI), (.ref g), (.ref q), (.int (1 : Int32))])) (P := fun bp => True) (fun KK => ?_) (fun bp hj86 => ?_)
      · skip
        refine g_if X hx (hb hby at_86) (by decide) (pc' := 93) (by decide) (pc2 := 89) rfl (fun hc => ?_) (fun hc => ?_)
        · replace hc := h_eq1 hc
          have hc86 := hc
          refine g_iconst X hx (hb hby at_93) (x := (0 : Int32)) (by decide) (pc' := 94) rfl ?_
          exact KK _ trivial
        · replace hc := h_eq0 hc
          have hc86 := hc
          refine g_iconst X hx (hb hby at_89) (x := (1 : Int32)) (by decide) (pc' := 90) rfl ?_
          refine g_goto X hx (hb hby at_90) (by decide) (pc' := 94) (by decide) ?_
          exact KK _ trivial
      · skip
        refine g_iloadN X hx (hb hby at_94) rfl (pc' := 95) rfl ?_
        refine g_stat (W := 1) (argsL := [(.ref q), (.ref g), (.int nI), (.int bp), (.int p2)]) (st := [(.int (1 : Int32))]) X hx hZ hown (hw _ (List.mem_of_getElem? (i := 18) rfl)) (hw _ (List.mem_of_getElem? (i := 19) rfl)) (hw _ (List.mem_of_getElem? (i := 20) rfl)) (hw _ (List.mem_of_getElem? (i := 21) rfl)) (by decide) (rmS l Z a0 hw q r1 r2 n nI (List.replicate n 0) (List.replicate n 0) (0 : Int32) (0 : Int32) nI ([] : List Int32) g (0 : Int32) (0 : Int32) (0 : Int32) (0 : Int32) (0 : Int32) bp p2 h n0 Zn E_q F_q_nodes F_q_queued F_q_head F_q_count F_q_everyFrom A_r1 A_r2 ne_q_r1 ne_q_r2 ne_r1_r2 g_q g_r1 g_r2 A_g (Ne.symm ne_g_q) (Ne.symm ne_g_r1) (Ne.symm ne_g_r2) g_g I2 J2) eT (by decide) (by decide) (by decide) (by decide) (lenOf pd_5 rfl) (by rw [hml]; rfl) rfl (Nat.le_of_eq rfl) (hb hby at_95) (pc' := 98) rfl (fun T h vq Lq X eT hQ => ?_)
        obtain ⟨L2, M2, hd2, ct2, ev2, P2, t0, t1, t2, t3, t4, rfl, Nq, Kc, q_F_q_nodes, q_F_q_queued, q_F_q_head, q_F_q_count, q_F_q_everyFrom, q_A_r1, q_A_r2, q_A_g, I2, J2⟩ := hQ
        replace N := Fr.app N Nq
        replace E_q := E_q.keep Kc
        have F_q_nodes := q_F_q_nodes
        have F_q_queued := q_F_q_queued
        have F_q_head := q_F_q_head
        have F_q_count := q_F_q_count
        have F_q_everyFrom := q_F_q_everyFrom
        have A_r1 := q_A_r1
        have A_r2 := q_A_r2
        have A_g := q_A_g
        replace Zn := Nat.le_trans Zn Kc.1
        show WGo _ _ _ _ _ _ _ _ (mkF m 98 #[.val (.int p0), .val (.int p1), .val (.int p2), .val (.int nI), .val (.int (0 : Int32)), .val (.ref g), .val (.ref q), .val (.int (1 : Int32))] [(.int (1 : Int32)), (.int (1 : Int32))])
        refine g_iand X hx (hb hby at_98) (pc' := 99) rfl ?_
        rw [show ((1 : Int32) &&& (1 : Int32)) = (1 : Int32) from by decide]
        refine g_istore X hx (hb hby at_99) (Ls' := #[.val (.int p0), .val (.int p1), .val (.int p2), .val (.int nI), .val (.int (0 : Int32)), .val (.ref g), .val (.ref q), .val (.int (1 : Int32))]) rfl (pc' := 101) rfl ?_
        refine g_iload X hx (hb hby at_101) rfl (pc' := 103) rfl ?_
        refine g_aload X hx (hb hby at_103) rfl rfl (pc' := 105) rfl ?_
        refine g_aload X hx (hb hby at_105) rfl rfl (pc' := 107) rfl ?_
        refine g_iloadN X hx (hb hby at_107) rfl (pc' := 108) rfl ?_
        refine g_iloadN X hx (hb hby at_108) rfl (pc' := 109) rfl ?_
        refine g_iconst X hx (hb hby at_109) (x := (2 : Int32)) (by decide) (pc' := 110) rfl ?_
        refine g_iand X hx (hb hby at_110) (pc' := 111) rfl ?_
        refine g_join (J := fun bp : Int32 => (mkF m 119 #[.val (.int p0), .val (.int p1), .val (.int p2), .val (.int nI), .val (.int (0 : Int32)), .val (.ref g), .val (.ref q), .val (.int (1 : Int32))] [(.int bp), (.int nI), (.ref g), (.ref q), (.int (1 : Int32))])) (P := fun bp => True) (fun KK => ?_) (fun bp hj111 => ?_)
        · skip
          refine g_if X hx (hb hby at_111) (by decide) (pc' := 118) (by decide) (pc2 := 114) rfl (fun hc => ?_) (fun hc => ?_)
          · replace hc := h_eq1 hc
            have hc111 := hc
            refine g_iconst X hx (hb hby at_118) (x := (0 : Int32)) (by decide) (pc' := 119) rfl ?_
            exact KK _ trivial
          · replace hc := h_eq0 hc
            have hc111 := hc
            refine g_iconst X hx (hb hby at_114) (x := (1 : Int32)) (by decide) (pc' := 115) rfl ?_
            refine g_goto X hx (hb hby at_115) (by decide) (pc' := 119) (by decide) ?_
            exact KK _ trivial
        · skip
          refine g_iloadN X hx (hb hby at_119) rfl (pc' := 120) rfl ?_
          refine g_iconst X hx (hb hby at_120) (x := (4 : Int32)) (by decide) (pc' := 121) rfl ?_
          refine g_iushr X hx (hb hby at_121) (pc' := 122) rfl ?_
          refine g_stat (W := 1) (argsL := [(.ref q), (.ref g), (.int nI), (.int bp), (.int (XT.ushr p2 (4 : Int32)))]) (st := [(.int (1 : Int32))]) X hx hZ hown (hw _ (List.mem_of_getElem? (i := 18) rfl)) (hw _ (List.mem_of_getElem? (i := 19) rfl)) (hw _ (List.mem_of_getElem? (i := 20) rfl)) (hw _ (List.mem_of_getElem? (i := 21) rfl)) (by decide) (rmS l Z a0 hw q r1 r2 n nI L2 M2 hd2 ct2 ev2 P2 g t0 t1 t2 t3 t4 bp (XT.ushr p2 (4 : Int32)) h n0 Zn E_q F_q_nodes F_q_queued F_q_head F_q_count F_q_everyFrom A_r1 A_r2 ne_q_r1 ne_q_r2 ne_r1_r2 g_q g_r1 g_r2 A_g (Ne.symm ne_g_q) (Ne.symm ne_g_r1) (Ne.symm ne_g_r2) g_g I2 J2) eT (by decide) (by decide) (by decide) (by decide) (lenOf pd_5 rfl) (by rw [hml]; rfl) rfl (Nat.le_of_eq rfl) (hb hby at_122) (pc' := 125) rfl (fun T h vq Lq X eT hQ => ?_)
          obtain ⟨L2, M2, hd2, ct2, ev2, P2, t0, t1, t2, t3, t4, rfl, Nq, Kc, q_F_q_nodes, q_F_q_queued, q_F_q_head, q_F_q_count, q_F_q_everyFrom, q_A_r1, q_A_r2, q_A_g, I2, J2⟩ := hQ
          replace N := Fr.app N Nq
          replace E_q := E_q.keep Kc
          have F_q_nodes := q_F_q_nodes
          have F_q_queued := q_F_q_queued
          have F_q_head := q_F_q_head
          have F_q_count := q_F_q_count
          have F_q_everyFrom := q_F_q_everyFrom
          have A_r1 := q_A_r1
          have A_r2 := q_A_r2
          have A_g := q_A_g
          replace Zn := Nat.le_trans Zn Kc.1
          show WGo _ _ _ _ _ _ _ _ (mkF m 125 #[.val (.int p0), .val (.int p1), .val (.int p2), .val (.int nI), .val (.int (0 : Int32)), .val (.ref g), .val (.ref q), .val (.int (1 : Int32))] [(.int (1 : Int32)), (.int (1 : Int32))])
          refine g_iand X hx (hb hby at_125) (pc' := 126) rfl ?_
          rw [show ((1 : Int32) &&& (1 : Int32)) = (1 : Int32) from by decide]
          refine g_istore X hx (hb hby at_126) (Ls' := #[.val (.int p0), .val (.int p1), .val (.int p2), .val (.int nI), .val (.int (0 : Int32)), .val (.ref g), .val (.ref q), .val (.int (1 : Int32))]) rfl (pc' := 128) rfl ?_
          refine g_iload X hx (hb hby at_128) rfl (pc' := 130) rfl ?_
          refine g_aload X hx (hb hby at_130) rfl rfl (pc' := 132) rfl ?_
          refine g_aload X hx (hb hby at_132) rfl rfl (pc' := 134) rfl ?_
          refine g_iloadN X hx (hb hby at_134) rfl (pc' := 135) rfl ?_
          refine g_iloadN X hx (hb hby at_135) rfl (pc' := 136) rfl ?_
          refine g_iconst X hx (hb hby at_136) (x := (4 : Int32)) (by decide) (pc' := 137) rfl ?_
          refine g_iand X hx (hb hby at_137) (pc' := 138) rfl ?_
          refine g_join (J := fun bp : Int32 => (mkF m 146 #[.val (.int p0), .val (.int p1), .val (.int p2), .val (.int nI), .val (.int (0 : Int32)), .val (.ref g), .val (.ref q), .val (.int (1 : Int32))] [(.int bp), (.int nI), (.ref g), (.ref q), (.int (1 : Int32))])) (P := fun bp => True) (fun KK => ?_) (fun bp hj138 => ?_)
          · skip
            refine g_if X hx (hb hby at_138) (by decide) (pc' := 145) (by decide) (pc2 := 141) rfl (fun hc => ?_) (fun hc => ?_)
            · replace hc := h_eq1 hc
              have hc138 := hc
              refine g_iconst X hx (hb hby at_145) (x := (0 : Int32)) (by decide) (pc' := 146) rfl ?_
              exact KK _ trivial
            · replace hc := h_eq0 hc
              have hc138 := hc
              refine g_iconst X hx (hb hby at_141) (x := (1 : Int32)) (by decide) (pc' := 142) rfl ?_
              refine g_goto X hx (hb hby at_142) (by decide) (pc' := 146) (by decide) ?_
              exact KK _ trivial
          · skip
            refine g_iloadN X hx (hb hby at_146) rfl (pc' := 147) rfl ?_
            refine g_bipush X hx (hb hby at_147) (x := (8 : Int32)) (by decide) (pc' := 149) rfl ?_
            refine g_iushr X hx (hb hby at_149) (pc' := 150) rfl ?_
            refine g_stat (W := 1) (argsL := [(.ref q), (.ref g), (.int nI), (.int bp), (.int (XT.ushr p2 (8 : Int32)))]) (st := [(.int (1 : Int32))]) X hx hZ hown (hw _ (List.mem_of_getElem? (i := 18) rfl)) (hw _ (List.mem_of_getElem? (i := 19) rfl)) (hw _ (List.mem_of_getElem? (i := 20) rfl)) (hw _ (List.mem_of_getElem? (i := 21) rfl)) (by decide) (rmS l Z a0 hw q r1 r2 n nI L2 M2 hd2 ct2 ev2 P2 g t0 t1 t2 t3 t4 bp (XT.ushr p2 (8 : Int32)) h n0 Zn E_q F_q_nodes F_q_queued F_q_head F_q_count F_q_everyFrom A_r1 A_r2 ne_q_r1 ne_q_r2 ne_r1_r2 g_q g_r1 g_r2 A_g (Ne.symm ne_g_q) (Ne.symm ne_g_r1) (Ne.symm ne_g_r2) g_g I2 J2) eT (by decide) (by decide) (by decide) (by decide) (lenOf pd_5 rfl) (by rw [hml]; rfl) rfl (Nat.le_of_eq rfl) (hb hby at_150) (pc' := 153) rfl (fun T h vq Lq X eT hQ => ?_)
            obtain ⟨L2, M2, hd2, ct2, ev2, P2, t0, t1, t2, t3, t4, rfl, Nq, Kc, q_F_q_nodes, q_F_q_queued, q_F_q_head, q_F_q_count, q_F_q_everyFrom, q_A_r1, q_A_r2, q_A_g, I2, J2⟩ := hQ
            replace N := Fr.app N Nq
            replace E_q := E_q.keep Kc
            have F_q_nodes := q_F_q_nodes
            have F_q_queued := q_F_q_queued
            have F_q_head := q_F_q_head
            have F_q_count := q_F_q_count
            have F_q_everyFrom := q_F_q_everyFrom
            have A_r1 := q_A_r1
            have A_r2 := q_A_r2
            have A_g := q_A_g
            replace Zn := Nat.le_trans Zn Kc.1
            show WGo _ _ _ _ _ _ _ _ (mkF m 153 #[.val (.int p0), .val (.int p1), .val (.int p2), .val (.int nI), .val (.int (0 : Int32)), .val (.ref g), .val (.ref q), .val (.int (1 : Int32))] [(.int (1 : Int32)), (.int (1 : Int32))])
            refine g_iand X hx (hb hby at_153) (pc' := 154) rfl ?_
            rw [show ((1 : Int32) &&& (1 : Int32)) = (1 : Int32) from by decide]
            refine g_istore X hx (hb hby at_154) (Ls' := #[.val (.int p0), .val (.int p1), .val (.int p2), .val (.int nI), .val (.int (0 : Int32)), .val (.ref g), .val (.ref q), .val (.int (1 : Int32))]) rfl (pc' := 156) rfl ?_
            refine g_iload X hx (hb hby at_156) rfl (pc' := 158) rfl ?_
            refine g_aload X hx (hb hby at_158) rfl rfl (pc' := 160) rfl ?_
            refine g_aload X hx (hb hby at_160) rfl rfl (pc' := 162) rfl ?_
            refine g_iloadN X hx (hb hby at_162) rfl (pc' := 163) rfl ?_
            refine g_iloadN X hx (hb hby at_163) rfl (pc' := 164) rfl ?_
            refine g_bipush X hx (hb hby at_164) (x := (8 : Int32)) (by decide) (pc' := 166) rfl ?_
            refine g_iand X hx (hb hby at_166) (pc' := 167) rfl ?_
            refine g_join (J := fun bp : Int32 => (mkF m 175 #[.val (.int p0), .val (.int p1), .val (.int p2), .val (.int nI), .val (.int (0 : Int32)), .val (.ref g), .val (.ref q), .val (.int (1 : Int32))] [(.int bp), (.int nI), (.ref g), (.ref q), (.int (1 : Int32))])) (P := fun bp => True) (fun KK => ?_) (fun bp hj167 => ?_)
            · skip
              refine g_if X hx (hb hby at_167) (by decide) (pc' := 174) (by decide) (pc2 := 170) rfl (fun hc => ?_) (fun hc => ?_)
              · replace hc := h_eq1 hc
                have hc167 := hc
                refine g_iconst X hx (hb hby at_174) (x := (0 : Int32)) (by decide) (pc' := 175) rfl ?_
                exact KK _ trivial
              · replace hc := h_eq0 hc
                have hc167 := hc
                refine g_iconst X hx (hb hby at_170) (x := (1 : Int32)) (by decide) (pc' := 171) rfl ?_
                refine g_goto X hx (hb hby at_171) (by decide) (pc' := 175) (by decide) ?_
                exact KK _ trivial
            · skip
              refine g_iloadN X hx (hb hby at_175) rfl (pc' := 176) rfl ?_
              refine g_bipush X hx (hb hby at_176) (x := (12 : Int32)) (by decide) (pc' := 178) rfl ?_
              refine g_iushr X hx (hb hby at_178) (pc' := 179) rfl ?_
              refine g_stat (W := 1) (argsL := [(.ref q), (.ref g), (.int nI), (.int bp), (.int (XT.ushr p2 (12 : Int32)))]) (st := [(.int (1 : Int32))]) X hx hZ hown (hw _ (List.mem_of_getElem? (i := 18) rfl)) (hw _ (List.mem_of_getElem? (i := 19) rfl)) (hw _ (List.mem_of_getElem? (i := 20) rfl)) (hw _ (List.mem_of_getElem? (i := 21) rfl)) (by decide) (rmS l Z a0 hw q r1 r2 n nI L2 M2 hd2 ct2 ev2 P2 g t0 t1 t2 t3 t4 bp (XT.ushr p2 (12 : Int32)) h n0 Zn E_q F_q_nodes F_q_queued F_q_head F_q_count F_q_everyFrom A_r1 A_r2 ne_q_r1 ne_q_r2 ne_r1_r2 g_q g_r1 g_r2 A_g (Ne.symm ne_g_q) (Ne.symm ne_g_r1) (Ne.symm ne_g_r2) g_g I2 J2) eT (by decide) (by decide) (by decide) (by decide) (lenOf pd_5 rfl) (by rw [hml]; rfl) rfl (Nat.le_of_eq rfl) (hb hby at_179) (pc' := 182) rfl (fun T h vq Lq X eT hQ => ?_)
              obtain ⟨L2, M2, hd2, ct2, ev2, P2, t0, t1, t2, t3, t4, rfl, Nq, Kc, q_F_q_nodes, q_F_q_queued, q_F_q_head, q_F_q_count, q_F_q_everyFrom, q_A_r1, q_A_r2, q_A_g, I2, J2⟩ := hQ
              replace N := Fr.app N Nq
              replace E_q := E_q.keep Kc
              have F_q_nodes := q_F_q_nodes
              have F_q_queued := q_F_q_queued
              have F_q_head := q_F_q_head
              have F_q_count := q_F_q_count
              have F_q_everyFrom := q_F_q_everyFrom
              have A_r1 := q_A_r1
              have A_r2 := q_A_r2
              have A_g := q_A_g
              replace Zn := Nat.le_trans Zn Kc.1
              show WGo _ _ _ _ _ _ _ _ (mkF m 182 #[.val (.int p0), .val (.int p1), .val (.int p2), .val (.int nI), .val (.int (0 : Int32)), .val (.ref g), .val (.ref q), .val (.int (1 : Int32))] [(.int (1 : Int32)), (.int (1 : Int32))])
              refine g_iand X hx (hb hby at_182) (pc' := 183) rfl ?_
              rw [show ((1 : Int32) &&& (1 : Int32)) = (1 : Int32) from by decide]
              refine g_istore X hx (hb hby at_183) (Ls' := #[.val (.int p0), .val (.int p1), .val (.int p2), .val (.int nI), .val (.int (0 : Int32)), .val (.ref g), .val (.ref q), .val (.int (1 : Int32))]) rfl (pc' := 185) rfl ?_
              refine g_iload X hx (hb hby at_185) rfl (pc' := 187) rfl ?_
              refine g_aload X hx (hb hby at_187) rfl rfl (pc' := 189) rfl ?_
              refine g_aload X hx (hb hby at_189) rfl rfl (pc' := 191) rfl ?_
              refine g_iloadN X hx (hb hby at_191) rfl (pc' := 192) rfl ?_
              refine g_iloadN X hx (hb hby at_192) rfl (pc' := 193) rfl ?_
              refine g_bipush X hx (hb hby at_193) (x := (16 : Int32)) (by decide) (pc' := 195) rfl ?_
              refine g_iand X hx (hb hby at_195) (pc' := 196) rfl ?_
              refine g_join (J := fun bp : Int32 => (mkF m 204 #[.val (.int p0), .val (.int p1), .val (.int p2), .val (.int nI), .val (.int (0 : Int32)), .val (.ref g), .val (.ref q), .val (.int (1 : Int32))] [(.int bp), (.int nI), (.ref g), (.ref q), (.int (1 : Int32))])) (P := fun bp => True) (fun KK => ?_) (fun bp hj196 => ?_)
              · skip
                refine g_if X hx (hb hby at_196) (by decide) (pc' := 203) (by decide) (pc2 := 199) rfl (fun hc => ?_) (fun hc => ?_)
                · replace hc := h_eq1 hc
                  have hc196 := hc
                  refine g_iconst X hx (hb hby at_203) (x := (0 : Int32)) (by decide) (pc' := 204) rfl ?_
                  exact KK _ trivial
                · replace hc := h_eq0 hc
                  have hc196 := hc
                  refine g_iconst X hx (hb hby at_199) (x := (1 : Int32)) (by decide) (pc' := 200) rfl ?_
                  refine g_goto X hx (hb hby at_200) (by decide) (pc' := 204) (by decide) ?_
                  exact KK _ trivial
              · skip
                refine g_iloadN X hx (hb hby at_204) rfl (pc' := 205) rfl ?_
                refine g_bipush X hx (hb hby at_205) (x := (16 : Int32)) (by decide) (pc' := 207) rfl ?_
                refine g_iushr X hx (hb hby at_207) (pc' := 208) rfl ?_
                refine g_stat (W := 1) (argsL := [(.ref q), (.ref g), (.int nI), (.int bp), (.int (XT.ushr p2 (16 : Int32)))]) (st := [(.int (1 : Int32))]) X hx hZ hown (hw _ (List.mem_of_getElem? (i := 18) rfl)) (hw _ (List.mem_of_getElem? (i := 19) rfl)) (hw _ (List.mem_of_getElem? (i := 20) rfl)) (hw _ (List.mem_of_getElem? (i := 21) rfl)) (by decide) (rmS l Z a0 hw q r1 r2 n nI L2 M2 hd2 ct2 ev2 P2 g t0 t1 t2 t3 t4 bp (XT.ushr p2 (16 : Int32)) h n0 Zn E_q F_q_nodes F_q_queued F_q_head F_q_count F_q_everyFrom A_r1 A_r2 ne_q_r1 ne_q_r2 ne_r1_r2 g_q g_r1 g_r2 A_g (Ne.symm ne_g_q) (Ne.symm ne_g_r1) (Ne.symm ne_g_r2) g_g I2 J2) eT (by decide) (by decide) (by decide) (by decide) (lenOf pd_5 rfl) (by rw [hml]; rfl) rfl (Nat.le_of_eq rfl) (hb hby at_208) (pc' := 211) rfl (fun T h vq Lq X eT hQ => ?_)
                obtain ⟨L2, M2, hd2, ct2, ev2, P2, t0, t1, t2, t3, t4, rfl, Nq, Kc, q_F_q_nodes, q_F_q_queued, q_F_q_head, q_F_q_count, q_F_q_everyFrom, q_A_r1, q_A_r2, q_A_g, I2, J2⟩ := hQ
                replace N := Fr.app N Nq
                replace E_q := E_q.keep Kc
                have F_q_nodes := q_F_q_nodes
                have F_q_queued := q_F_q_queued
                have F_q_head := q_F_q_head
                have F_q_count := q_F_q_count
                have F_q_everyFrom := q_F_q_everyFrom
                have A_r1 := q_A_r1
                have A_r2 := q_A_r2
                have A_g := q_A_g
                replace Zn := Nat.le_trans Zn Kc.1
                show WGo _ _ _ _ _ _ _ _ (mkF m 211 #[.val (.int p0), .val (.int p1), .val (.int p2), .val (.int nI), .val (.int (0 : Int32)), .val (.ref g), .val (.ref q), .val (.int (1 : Int32))] [(.int (1 : Int32)), (.int (1 : Int32))])
                refine g_iand X hx (hb hby at_211) (pc' := 212) rfl ?_
                rw [show ((1 : Int32) &&& (1 : Int32)) = (1 : Int32) from by decide]
                refine g_istore X hx (hb hby at_212) (Ls' := #[.val (.int p0), .val (.int p1), .val (.int p2), .val (.int nI), .val (.int (0 : Int32)), .val (.ref g), .val (.ref q), .val (.int (1 : Int32))]) rfl (pc' := 214) rfl ?_
                refine g_iload X hx (hb hby at_214) rfl (pc' := 216) rfl ?_
                refine g_aload X hx (hb hby at_216) rfl rfl (pc' := 218) rfl ?_
                refine g_aload X hx (hb hby at_218) rfl rfl (pc' := 220) rfl ?_
                refine g_iloadN X hx (hb hby at_220) rfl (pc' := 221) rfl ?_
                refine g_iloadN X hx (hb hby at_221) rfl (pc' := 222) rfl ?_
                refine g_bipush X hx (hb hby at_222) (x := (32 : Int32)) (by decide) (pc' := 224) rfl ?_
                refine g_iand X hx (hb hby at_224) (pc' := 225) rfl ?_
                refine g_join (J := fun bp : Int32 => (mkF m 233 #[.val (.int p0), .val (.int p1), .val (.int p2), .val (.int nI), .val (.int (0 : Int32)), .val (.ref g), .val (.ref q), .val (.int (1 : Int32))] [(.int bp), (.int nI), (.ref g), (.ref q), (.int (1 : Int32))])) (P := fun bp => True) (fun KK => ?_) (fun bp hj225 => ?_)
                · skip
                  refine g_if X hx (hb hby at_225) (by decide) (pc' := 232) (by decide) (pc2 := 228) rfl (fun hc => ?_) (fun hc => ?_)
                  · replace hc := h_eq1 hc
                    have hc225 := hc
                    refine g_iconst X hx (hb hby at_232) (x := (0 : Int32)) (by decide) (pc' := 233) rfl ?_
                    exact KK _ trivial
                  · replace hc := h_eq0 hc
                    have hc225 := hc
                    refine g_iconst X hx (hb hby at_228) (x := (1 : Int32)) (by decide) (pc' := 229) rfl ?_
                    refine g_goto X hx (hb hby at_229) (by decide) (pc' := 233) (by decide) ?_
                    exact KK _ trivial
                · skip
                  refine g_iloadN X hx (hb hby at_233) rfl (pc' := 234) rfl ?_
                  refine g_bipush X hx (hb hby at_234) (x := (20 : Int32)) (by decide) (pc' := 236) rfl ?_
                  refine g_iushr X hx (hb hby at_236) (pc' := 237) rfl ?_
                  refine g_stat (W := 1) (argsL := [(.ref q), (.ref g), (.int nI), (.int bp), (.int (XT.ushr p2 (20 : Int32)))]) (st := [(.int (1 : Int32))]) X hx hZ hown (hw _ (List.mem_of_getElem? (i := 18) rfl)) (hw _ (List.mem_of_getElem? (i := 19) rfl)) (hw _ (List.mem_of_getElem? (i := 20) rfl)) (hw _ (List.mem_of_getElem? (i := 21) rfl)) (by decide) (rmS l Z a0 hw q r1 r2 n nI L2 M2 hd2 ct2 ev2 P2 g t0 t1 t2 t3 t4 bp (XT.ushr p2 (20 : Int32)) h n0 Zn E_q F_q_nodes F_q_queued F_q_head F_q_count F_q_everyFrom A_r1 A_r2 ne_q_r1 ne_q_r2 ne_r1_r2 g_q g_r1 g_r2 A_g (Ne.symm ne_g_q) (Ne.symm ne_g_r1) (Ne.symm ne_g_r2) g_g I2 J2) eT (by decide) (by decide) (by decide) (by decide) (lenOf pd_5 rfl) (by rw [hml]; rfl) rfl (Nat.le_of_eq rfl) (hb hby at_237) (pc' := 240) rfl (fun T h vq Lq X eT hQ => ?_)
                  obtain ⟨L2, M2, hd2, ct2, ev2, P2, t0, t1, t2, t3, t4, rfl, Nq, Kc, q_F_q_nodes, q_F_q_queued, q_F_q_head, q_F_q_count, q_F_q_everyFrom, q_A_r1, q_A_r2, q_A_g, I2, J2⟩ := hQ
                  replace N := Fr.app N Nq
                  replace E_q := E_q.keep Kc
                  have F_q_nodes := q_F_q_nodes
                  have F_q_queued := q_F_q_queued
                  have F_q_head := q_F_q_head
                  have F_q_count := q_F_q_count
                  have F_q_everyFrom := q_F_q_everyFrom
                  have A_r1 := q_A_r1
                  have A_r2 := q_A_r2
                  have A_g := q_A_g
                  replace Zn := Nat.le_trans Zn Kc.1
                  show WGo _ _ _ _ _ _ _ _ (mkF m 240 #[.val (.int p0), .val (.int p1), .val (.int p2), .val (.int nI), .val (.int (0 : Int32)), .val (.ref g), .val (.ref q), .val (.int (1 : Int32))] [(.int (1 : Int32)), (.int (1 : Int32))])
                  refine g_iand X hx (hb hby at_240) (pc' := 241) rfl ?_
                  rw [show ((1 : Int32) &&& (1 : Int32)) = (1 : Int32) from by decide]
                  refine g_istore X hx (hb hby at_241) (Ls' := #[.val (.int p0), .val (.int p1), .val (.int p2), .val (.int nI), .val (.int (0 : Int32)), .val (.ref g), .val (.ref q), .val (.int (1 : Int32))]) rfl (pc' := 243) rfl ?_
                  refine g_iload X hx (hb hby at_243) rfl (pc' := 245) rfl ?_
                  refine g_aload X hx (hb hby at_245) rfl rfl (pc' := 247) rfl ?_
                  refine g_aload X hx (hb hby at_247) rfl rfl (pc' := 249) rfl ?_
                  refine g_iloadN X hx (hb hby at_249) rfl (pc' := 250) rfl ?_
                  refine g_iloadN X hx (hb hby at_250) rfl (pc' := 251) rfl ?_
                  refine g_bipush X hx (hb hby at_251) (x := (64 : Int32)) (by decide) (pc' := 253) rfl ?_
                  refine g_iand X hx (hb hby at_253) (pc' := 254) rfl ?_
                  refine g_join (J := fun bp : Int32 => (mkF m 262 #[.val (.int p0), .val (.int p1), .val (.int p2), .val (.int nI), .val (.int (0 : Int32)), .val (.ref g), .val (.ref q), .val (.int (1 : Int32))] [(.int bp), (.int nI), (.ref g), (.ref q), (.int (1 : Int32))])) (P := fun bp => True) (fun KK => ?_) (fun bp hj254 => ?_)
                  · skip
                    refine g_if X hx (hb hby at_254) (by decide) (pc' := 261) (by decide) (pc2 := 257) rfl (fun hc => ?_) (fun hc => ?_)
                    · replace hc := h_eq1 hc
                      have hc254 := hc
                      refine g_iconst X hx (hb hby at_261) (x := (0 : Int32)) (by decide) (pc' := 262) rfl ?_
                      exact KK _ trivial
                    · replace hc := h_eq0 hc
                      have hc254 := hc
                      refine g_iconst X hx (hb hby at_257) (x := (1 : Int32)) (by decide) (pc' := 258) rfl ?_
                      refine g_goto X hx (hb hby at_258) (by decide) (pc' := 262) (by decide) ?_
                      exact KK _ trivial
                  · skip
                    refine g_iloadN X hx (hb hby at_262) rfl (pc' := 263) rfl ?_
                    refine g_bipush X hx (hb hby at_263) (x := (24 : Int32)) (by decide) (pc' := 265) rfl ?_
                    refine g_iushr X hx (hb hby at_265) (pc' := 266) rfl ?_
                    refine g_stat (W := 1) (argsL := [(.ref q), (.ref g), (.int nI), (.int bp), (.int (XT.ushr p2 (24 : Int32)))]) (st := [(.int (1 : Int32))]) X hx hZ hown (hw _ (List.mem_of_getElem? (i := 18) rfl)) (hw _ (List.mem_of_getElem? (i := 19) rfl)) (hw _ (List.mem_of_getElem? (i := 20) rfl)) (hw _ (List.mem_of_getElem? (i := 21) rfl)) (by decide) (rmS l Z a0 hw q r1 r2 n nI L2 M2 hd2 ct2 ev2 P2 g t0 t1 t2 t3 t4 bp (XT.ushr p2 (24 : Int32)) h n0 Zn E_q F_q_nodes F_q_queued F_q_head F_q_count F_q_everyFrom A_r1 A_r2 ne_q_r1 ne_q_r2 ne_r1_r2 g_q g_r1 g_r2 A_g (Ne.symm ne_g_q) (Ne.symm ne_g_r1) (Ne.symm ne_g_r2) g_g I2 J2) eT (by decide) (by decide) (by decide) (by decide) (lenOf pd_5 rfl) (by rw [hml]; rfl) rfl (Nat.le_of_eq rfl) (hb hby at_266) (pc' := 269) rfl (fun T h vq Lq X eT hQ => ?_)
                    obtain ⟨L2, M2, hd2, ct2, ev2, P2, t0, t1, t2, t3, t4, rfl, Nq, Kc, q_F_q_nodes, q_F_q_queued, q_F_q_head, q_F_q_count, q_F_q_everyFrom, q_A_r1, q_A_r2, q_A_g, I2, J2⟩ := hQ
                    replace N := Fr.app N Nq
                    replace E_q := E_q.keep Kc
                    have F_q_nodes := q_F_q_nodes
                    have F_q_queued := q_F_q_queued
                    have F_q_head := q_F_q_head
                    have F_q_count := q_F_q_count
                    have F_q_everyFrom := q_F_q_everyFrom
                    have A_r1 := q_A_r1
                    have A_r2 := q_A_r2
                    have A_g := q_A_g
                    replace Zn := Nat.le_trans Zn Kc.1
                    show WGo _ _ _ _ _ _ _ _ (mkF m 269 #[.val (.int p0), .val (.int p1), .val (.int p2), .val (.int nI), .val (.int (0 : Int32)), .val (.ref g), .val (.ref q), .val (.int (1 : Int32))] [(.int (1 : Int32)), (.int (1 : Int32))])
                    refine g_iand X hx (hb hby at_269) (pc' := 270) rfl ?_
                    rw [show ((1 : Int32) &&& (1 : Int32)) = (1 : Int32) from by decide]
                    refine g_istore X hx (hb hby at_270) (Ls' := #[.val (.int p0), .val (.int p1), .val (.int p2), .val (.int nI), .val (.int (0 : Int32)), .val (.ref g), .val (.ref q), .val (.int (1 : Int32))]) rfl (pc' := 272) rfl ?_
                    refine g_iload X hx (hb hby at_272) rfl (pc' := 274) rfl ?_
                    refine g_aload X hx (hb hby at_274) rfl rfl (pc' := 276) rfl ?_
                    refine g_aload X hx (hb hby at_276) rfl rfl (pc' := 278) rfl ?_
                    refine g_iloadN X hx (hb hby at_278) rfl (pc' := 279) rfl ?_
                    refine g_iloadN X hx (hb hby at_279) rfl (pc' := 280) rfl ?_
                    refine g_sipush X hx (hb hby at_280) (x := (128 : Int32)) (by decide) (pc' := 283) rfl ?_
                    refine g_iand X hx (hb hby at_283) (pc' := 284) rfl ?_
                    refine g_join (J := fun bp : Int32 => (mkF m 292 #[.val (.int p0), .val (.int p1), .val (.int p2), .val (.int nI), .val (.int (0 : Int32)), .val (.ref g), .val (.ref q), .val (.int (1 : Int32))] [(.int bp), (.int nI), (.ref g), (.ref q), (.int (1 : Int32))])) (P := fun bp => True) (fun KK => ?_) (fun bp hj284 => ?_)
                    · skip
                      refine g_if X hx (hb hby at_284) (by decide) (pc' := 291) (by decide) (pc2 := 287) rfl (fun hc => ?_) (fun hc => ?_)
                      · replace hc := h_eq1 hc
                        have hc284 := hc
                        refine g_iconst X hx (hb hby at_291) (x := (0 : Int32)) (by decide) (pc' := 292) rfl ?_
                        exact KK _ trivial
                      · replace hc := h_eq0 hc
                        have hc284 := hc
                        refine g_iconst X hx (hb hby at_287) (x := (1 : Int32)) (by decide) (pc' := 288) rfl ?_
                        refine g_goto X hx (hb hby at_288) (by decide) (pc' := 292) (by decide) ?_
                        exact KK _ trivial
                    · skip
                      refine g_iloadN X hx (hb hby at_292) rfl (pc' := 293) rfl ?_
                      refine g_bipush X hx (hb hby at_293) (x := (28 : Int32)) (by decide) (pc' := 295) rfl ?_
                      refine g_iushr X hx (hb hby at_295) (pc' := 296) rfl ?_
                      refine g_stat (W := 1) (argsL := [(.ref q), (.ref g), (.int nI), (.int bp), (.int (XT.ushr p2 (28 : Int32)))]) (st := [(.int (1 : Int32))]) X hx hZ hown (hw _ (List.mem_of_getElem? (i := 18) rfl)) (hw _ (List.mem_of_getElem? (i := 19) rfl)) (hw _ (List.mem_of_getElem? (i := 20) rfl)) (hw _ (List.mem_of_getElem? (i := 21) rfl)) (by decide) (rmS l Z a0 hw q r1 r2 n nI L2 M2 hd2 ct2 ev2 P2 g t0 t1 t2 t3 t4 bp (XT.ushr p2 (28 : Int32)) h n0 Zn E_q F_q_nodes F_q_queued F_q_head F_q_count F_q_everyFrom A_r1 A_r2 ne_q_r1 ne_q_r2 ne_r1_r2 g_q g_r1 g_r2 A_g (Ne.symm ne_g_q) (Ne.symm ne_g_r1) (Ne.symm ne_g_r2) g_g I2 J2) eT (by decide) (by decide) (by decide) (by decide) (lenOf pd_5 rfl) (by rw [hml]; rfl) rfl (Nat.le_of_eq rfl) (hb hby at_296) (pc' := 299) rfl (fun T h vq Lq X eT hQ => ?_)
                      obtain ⟨L2, M2, hd2, ct2, ev2, P2, t0, t1, t2, t3, t4, rfl, Nq, Kc, q_F_q_nodes, q_F_q_queued, q_F_q_head, q_F_q_count, q_F_q_everyFrom, q_A_r1, q_A_r2, q_A_g, I2, J2⟩ := hQ
                      replace N := Fr.app N Nq
                      replace E_q := E_q.keep Kc
                      have F_q_nodes := q_F_q_nodes
                      have F_q_queued := q_F_q_queued
                      have F_q_head := q_F_q_head
                      have F_q_count := q_F_q_count
                      have F_q_everyFrom := q_F_q_everyFrom
                      have A_r1 := q_A_r1
                      have A_r2 := q_A_r2
                      have A_g := q_A_g
                      replace Zn := Nat.le_trans Zn Kc.1
                      show WGo _ _ _ _ _ _ _ _ (mkF m 299 #[.val (.int p0), .val (.int p1), .val (.int p2), .val (.int nI), .val (.int (0 : Int32)), .val (.ref g), .val (.ref q), .val (.int (1 : Int32))] [(.int (1 : Int32)), (.int (1 : Int32))])
                      refine g_iand X hx (hb hby at_299) (pc' := 300) rfl ?_
                      rw [show ((1 : Int32) &&& (1 : Int32)) = (1 : Int32) from by decide]
                      refine g_istore X hx (hb hby at_300) (Ls' := #[.val (.int p0), .val (.int p1), .val (.int p2), .val (.int nI), .val (.int (0 : Int32)), .val (.ref g), .val (.ref q), .val (.int (1 : Int32))]) rfl (pc' := 302) rfl ?_
                      refine g_iload X hx (hb hby at_302) rfl (pc' := 304) rfl ?_
                      refine g_retN (t := .boolean) X hx hret (by simp) hlk (hb hby at_304) (by decide) (by decide) ?_
                      exact ⟨rfl, N⟩
    · replace hc := h_eq0 hc
      have hc40 := hc
      exfalso
      clear hc40; revert hc; decide
  · replace hc := h_eq0 hc
    have hc13 := hc
    refine g_iconst X hx (hb hby at_16) (x := (1 : Int32)) (by decide) (pc' := 17) rfl ?_
    refine g_goto X hx (hb hby at_17) (by decide) (pc' := 21) (by decide) ?_
    refine g_istore X hx (hb hby at_21) (Ls' := #[.val (.int p0), .val (.int p1), .val (.int p2), .val (.int nI), .val (.int (1 : Int32)), .unset, .unset, .unset]) rfl (pc' := 23) rfl ?_
    refine g_iconst X hx (hb hby at_23) (x := (5 : Int32)) (by decide) (pc' := 24) rfl ?_
    refine g_newP (cap := 5) X hx hZ (hw _ (List.mem_of_getElem? (i := 1) rfl)) eT (hb hby at_24) (by decide) (by decide) (by decide) (by decide) (by decide) (pc' := 26) rfl (fun T h g ha X eT Ex A_g => ?_)
    have g_g : n0 ≤ g := by rw [ha]; exact Zn
    replace Zn := Nat.le_trans Zn Ex.1
    replace A_g : Al Z h g .int 5 [0, 0, 0, 0, 0] := Al.new A_g
    refine g_astore X hx (hb hby at_26) rfl (Ls' := #[.val (.int p0), .val (.int p1), .val (.int p2), .val (.int nI), .val (.int (1 : Int32)), .val (.ref g), .unset, .unset]) rfl (pc' := 28) rfl ?_
    refine g_new X hx hZ hown (hw _ (List.mem_of_getElem? (i := 2) rfl)) (hw _ (List.mem_of_getElem? (i := 3) rfl)) (hw _ (List.mem_of_getElem? (i := 4) rfl)) eT (hb hby at_28) (by decide) (by decide) (pc' := 31) rfl (fun T h q ha X eT Ex E_q Df => ?_)
    have g_q : n0 ≤ q := by rw [ha]; exact Zn
    have ne_g_q : g ≠ q := by rw [ha]; exact Nat.ne_of_lt A_g.lt
    replace A_g := A_g.ext Ex
    replace Zn := Nat.le_trans Zn Ex.1
    have F_q_nodes : Fld Z h q "com/example/storewatch/storewatch/graph/NodeQueue" "nodes" "[I" .null := Df (Or.inr (hw _ (List.mem_of_getElem? (i := 12) rfl))) (ty := (.array .int)) (by decide)
    have F_q_queued : Fld Z h q "com/example/storewatch/storewatch/graph/NodeQueue" "queued" "[Z" .null := Df (Or.inr (hw _ (List.mem_of_getElem? (i := 15) rfl))) (ty := (.array .boolean)) (by decide)
    have F_q_everyFrom : Fld Z h q "com/example/storewatch/storewatch/graph/NodeQueue" "everyFrom" "I" (.int (0 : Int32)) := Df (Or.inl (hw _ (List.mem_of_getElem? (i := 17) rfl))) (ty := .int) (by decide)
    have F_q_count : Fld Z h q "com/example/storewatch/storewatch/graph/NodeQueue" "count" "I" (.int (0 : Int32)) := Df (Or.inl (hw _ (List.mem_of_getElem? (i := 28) rfl))) (ty := .int) (by decide)
    have F_q_head : Fld Z h q "com/example/storewatch/storewatch/graph/NodeQueue" "head" "I" (.int (0 : Int32)) := Df (Or.inl (hw _ (List.mem_of_getElem? (i := 38) rfl))) (ty := .int) (by decide)
    refine g_dup X hx (hb hby at_31) rfl (pc' := 32) rfl ?_
    refine g_iloadN X hx (hb hby at_32) rfl (pc' := 33) rfl ?_
    refine g_init (W := 1) (argsL := [(.int nI)]) (st := [(.ref q)]) X hx hZ hown rfl (hw _ (List.mem_of_getElem? (i := 5) rfl)) (hw _ (List.mem_of_getElem? (i := 6) rfl)) (hw _ (List.mem_of_getElem? (i := 7) rfl)) (hw _ (List.mem_of_getElem? (i := 4) rfl)) (by decide) (rmI l Z a0 hw q n nI h n0 Zn E_q F_q_nodes F_q_queued F_q_head F_q_count F_q_everyFrom g_q z4 z5 z6) eT (by decide) (by decide) (by decide) (by decide) (lenOf pd_1 rfl) (by rw [hml]; rfl) rfl (Nat.le_of_eq rfl) (hb hby at_33) (pc' := 36) rfl (fun T h vq Lq X eT hQ => ?_)
    obtain ⟨r1, r2, rfl, Nq, Kc, q_F_q_nodes, q_F_q_queued, q_F_q_head, q_F_q_count, q_F_q_everyFrom, q_A_r1, q_A_r2, q_ne_q_r1, q_ne_q_r2, q_ne_r1_r2, q_g_r1, q_g_r2, q_sz_r1, q_sz_r2⟩ := hQ
    replace N := Fr.app N Nq
    have ne_g_r1 : g ≠ r1 := Nat.ne_of_lt (Nat.lt_of_lt_of_le A_g.lt q_sz_r1)
    have ne_g_r2 : g ≠ r2 := Nat.ne_of_lt (Nat.lt_of_lt_of_le A_g.lt q_sz_r2)
    replace E_q := E_q.keep Kc
    replace A_g := A_g.keep Kc (ninS ne_g_q nin0)
    have F_q_nodes := q_F_q_nodes
    have F_q_queued := q_F_q_queued
    have F_q_head := q_F_q_head
    have F_q_count := q_F_q_count
    have F_q_everyFrom := q_F_q_everyFrom
    have A_r1 := q_A_r1
    have A_r2 := q_A_r2
    have ne_q_r1 := q_ne_q_r1
    have ne_q_r2 := q_ne_q_r2
    have ne_r1_r2 := q_ne_r1_r2
    have g_r1 := q_g_r1
    have g_r2 := q_g_r2
    replace Zn := Nat.le_trans Zn Kc.1
    show WGo _ _ _ _ _ _ _ _ (mkF m 36 #[.val (.int p0), .val (.int p1), .val (.int p2), .val (.int nI), .val (.int (1 : Int32)), .val (.ref g), .unset, .unset] [(.ref q)])
    refine g_astore X hx (hb hby at_36) rfl (Ls' := #[.val (.int p0), .val (.int p1), .val (.int p2), .val (.int nI), .val (.int (1 : Int32)), .val (.ref g), .val (.ref q), .unset]) rfl (pc' := 38) rfl ?_
    refine g_iload X hx (hb hby at_38) rfl (pc' := 40) rfl ?_
    refine g_if X hx (hb hby at_40) (by decide) (pc' := 73) (by decide) (pc2 := 43) rfl (fun hc => ?_) (fun hc => ?_)
    · replace hc := h_eq1 hc
      have hc40 := hc
      exfalso
      clear hc40; revert hc; decide
    · replace hc := h_eq0 hc
      have hc40 := hc
      refine g_aload X hx (hb hby at_43) rfl rfl (pc' := 45) rfl ?_
      refine g_virt (W := 0) (argsL := []) (st := []) X hx hZ hown (hw _ (List.mem_of_getElem? (i := 45) rfl)) (hw _ (List.mem_of_getElem? (i := 46) rfl)) (notFace_of_selects (args := #[]) (mvT hZ (hw _ (List.mem_of_getElem? (i := 48) rfl)))) (hw _ (List.mem_of_getElem? (i := 48) rfl)) (hw _ (List.mem_of_getElem? (i := 47) rfl)) (hw _ (List.mem_of_getElem? (i := 49) rfl)) (hw _ (List.mem_of_getElem? (i := 4) rfl)) (by decide) E_q (rmE l Z a0 hw q r1 r2 n nI (List.replicate n 0) (List.replicate n 0) (0 : Int32) h n0 Zn E_q F_q_nodes F_q_queued F_q_head F_q_count F_q_everyFrom A_r1 A_r2 ne_q_r1 ne_q_r2 ne_r1_r2 g_q g_r1 g_r2 hnI) eT (by decide) (by decide) (by decide) (by decide) (lenOf pd_6 rfl) (by rw [hml]; rfl) rfl (Nat.le_of_eq rfl) (hb hby at_45) (pc' := 48) rfl (fun T h vq Lq X eT hQ => ?_)
      obtain ⟨rfl, Nq, Kc, q_F_q_nodes, q_F_q_queued, q_F_q_head, q_F_q_count, q_F_q_everyFrom, q_A_r1, q_A_r2⟩ := hQ
      replace N := Fr.app N Nq
      replace E_q := E_q.keep Kc
      replace A_g := A_g.keep Kc (ninS ne_g_q nin0)
      have F_q_nodes := q_F_q_nodes
      have F_q_queued := q_F_q_queued
      have F_q_head := q_F_q_head
      have F_q_count := q_F_q_count
      have F_q_everyFrom := q_F_q_everyFrom
      have A_r1 := q_A_r1
      have A_r2 := q_A_r2
      replace Zn := Nat.le_trans Zn Kc.1
      show WGo _ _ _ _ _ _ _ _ (mkF m 48 #[.val (.int p0), .val (.int p1), .val (.int p2), .val (.int nI), .val (.int (1 : Int32)), .val (.ref g), .val (.ref q), .unset] [])
      refine g_aload X hx (hb hby at_48) rfl rfl (pc' := 50) rfl ?_
      refine g_iconst X hx (hb hby at_50) (x := (0 : Int32)) (by decide) (pc' := 51) rfl ?_
      refine g_iconst X hx (hb hby at_51) (x := (0 : Int32)) (by decide) (pc' := 52) rfl ?_
      refine g_iastore X hx hZ eT A_g.2 (hb hby at_52) (by decide) (by decide) (pc' := 53) rfl (fun T h X eT W A' => ?_)
      replace F_q_nodes := F_q_nodes.other W (Or.inl (Ne.symm ne_g_q))
      replace F_q_queued := F_q_queued.other W (Or.inl (Ne.symm ne_g_q))
      replace F_q_everyFrom := F_q_everyFrom.other W (Or.inl (Ne.symm ne_g_q))
      replace F_q_count := F_q_count.other W (Or.inl (Ne.symm ne_g_q))
      replace F_q_head := F_q_head.other W (Or.inl (Ne.symm ne_g_q))
      replace E_q := E_q.wr W
      replace A_r1 := A_r1.other W (Ne.symm ne_g_r1)
      replace A_r2 := A_r2.other W (Ne.symm ne_g_r2)
      replace N := Fr.snoc X N g_g
      replace Zn := Nat.le_trans Zn (Nat.le_of_eq W.size.symm)
      replace A_g : Al Z h g .int 5 [(0 : Int32), (0 : Int32), (0 : Int32), (0 : Int32), (0 : Int32)] := A_g.set A'
      refine g_aload X hx (hb hby at_53) rfl rfl (pc' := 55) rfl ?_
      refine g_iconst X hx (hb hby at_55) (x := (1 : Int32)) (by decide) (pc' := 56) rfl ?_
      refine g_iconst X hx (hb hby at_56) (x := (1 : Int32)) (by decide) (pc' := 57) rfl ?_
      refine g_iastore X hx hZ eT A_g.2 (hb hby at_57) (by decide) (by decide) (pc' := 58) rfl (fun T h X eT W A' => ?_)
      replace F_q_nodes := F_q_nodes.other W (Or.inl (Ne.symm ne_g_q))
      replace F_q_queued := F_q_queued.other W (Or.inl (Ne.symm ne_g_q))
      replace F_q_everyFrom := F_q_everyFrom.other W (Or.inl (Ne.symm ne_g_q))
      replace F_q_count := F_q_count.other W (Or.inl (Ne.symm ne_g_q))
      replace F_q_head := F_q_head.other W (Or.inl (Ne.symm ne_g_q))
      replace E_q := E_q.wr W
      replace A_r1 := A_r1.other W (Ne.symm ne_g_r1)
      replace A_r2 := A_r2.other W (Ne.symm ne_g_r2)
      replace N := Fr.snoc X N g_g
      replace Zn := Nat.le_trans Zn (Nat.le_of_eq W.size.symm)
      replace A_g : Al Z h g .int 5 [(0 : Int32), (1 : Int32), (0 : Int32), (0 : Int32), (0 : Int32)] := A_g.set A'
      refine g_aload X hx (hb hby at_58) rfl rfl (pc' := 60) rfl ?_
      refine g_iconst X hx (hb hby at_60) (x := (2 : Int32)) (by decide) (pc' := 61) rfl ?_
      refine g_iconst X hx (hb hby at_61) (x := (2 : Int32)) (by decide) (pc' := 62) rfl ?_
      refine g_iastore X hx hZ eT A_g.2 (hb hby at_62) (by decide) (by decide) (pc' := 63) rfl (fun T h X eT W A' => ?_)
      replace F_q_nodes := F_q_nodes.other W (Or.inl (Ne.symm ne_g_q))
      replace F_q_queued := F_q_queued.other W (Or.inl (Ne.symm ne_g_q))
      replace F_q_everyFrom := F_q_everyFrom.other W (Or.inl (Ne.symm ne_g_q))
      replace F_q_count := F_q_count.other W (Or.inl (Ne.symm ne_g_q))
      replace F_q_head := F_q_head.other W (Or.inl (Ne.symm ne_g_q))
      replace E_q := E_q.wr W
      replace A_r1 := A_r1.other W (Ne.symm ne_g_r1)
      replace A_r2 := A_r2.other W (Ne.symm ne_g_r2)
      replace N := Fr.snoc X N g_g
      replace Zn := Nat.le_trans Zn (Nat.le_of_eq W.size.symm)
      replace A_g : Al Z h g .int 5 [(0 : Int32), (1 : Int32), (2 : Int32), (0 : Int32), (0 : Int32)] := A_g.set A'
      refine g_aload X hx (hb hby at_63) rfl rfl (pc' := 65) rfl ?_
      refine g_iconst X hx (hb hby at_65) (x := (3 : Int32)) (by decide) (pc' := 66) rfl ?_
      refine g_iconst X hx (hb hby at_66) (x := (3 : Int32)) (by decide) (pc' := 67) rfl ?_
      refine g_iastore X hx hZ eT A_g.2 (hb hby at_67) (by decide) (by decide) (pc' := 68) rfl (fun T h X eT W A' => ?_)
      replace F_q_nodes := F_q_nodes.other W (Or.inl (Ne.symm ne_g_q))
      replace F_q_queued := F_q_queued.other W (Or.inl (Ne.symm ne_g_q))
      replace F_q_everyFrom := F_q_everyFrom.other W (Or.inl (Ne.symm ne_g_q))
      replace F_q_count := F_q_count.other W (Or.inl (Ne.symm ne_g_q))
      replace F_q_head := F_q_head.other W (Or.inl (Ne.symm ne_g_q))
      replace E_q := E_q.wr W
      replace A_r1 := A_r1.other W (Ne.symm ne_g_r1)
      replace A_r2 := A_r2.other W (Ne.symm ne_g_r2)
      replace N := Fr.snoc X N g_g
      replace Zn := Nat.le_trans Zn (Nat.le_of_eq W.size.symm)
      replace A_g : Al Z h g .int 5 [(0 : Int32), (1 : Int32), (2 : Int32), (3 : Int32), (0 : Int32)] := A_g.set A'
      refine g_aload X hx (hb hby at_68) rfl rfl (pc' := 70) rfl ?_
      refine g_iconst X hx (hb hby at_70) (x := (4 : Int32)) (by decide) (pc' := 71) rfl ?_
      refine g_iloadN X hx (hb hby at_71) rfl (pc' := 72) rfl ?_
      refine g_iastore X hx hZ eT A_g.2 (hb hby at_72) (by decide) (by decide) (pc' := 73) rfl (fun T h X eT W A' => ?_)
      replace F_q_nodes := F_q_nodes.other W (Or.inl (Ne.symm ne_g_q))
      replace F_q_queued := F_q_queued.other W (Or.inl (Ne.symm ne_g_q))
      replace F_q_everyFrom := F_q_everyFrom.other W (Or.inl (Ne.symm ne_g_q))
      replace F_q_count := F_q_count.other W (Or.inl (Ne.symm ne_g_q))
      replace F_q_head := F_q_head.other W (Or.inl (Ne.symm ne_g_q))
      replace E_q := E_q.wr W
      replace A_r1 := A_r1.other W (Ne.symm ne_g_r1)
      replace A_r2 := A_r2.other W (Ne.symm ne_g_r2)
      replace N := Fr.snoc X N g_g
      replace Zn := Nat.le_trans Zn (Nat.le_of_eq W.size.symm)
      replace A_g : Al Z h g .int 5 [(0 : Int32), (1 : Int32), (2 : Int32), (3 : Int32), nI] := A_g.set A'
      have I2 := ninvE (ninv0 hns)
      have J2 := mi_all hns
      refine g_iconst X hx (hb hby at_73) (x := (1 : Int32)) (by decide) (pc' := 74) rfl ?_
      refine g_istore X hx (hb hby at_74) (Ls' := #[.val (.int p0), .val (.int p1), .val (.int p2), .val (.int nI), .val (.int (1 : Int32)), .val (.ref g), .val (.ref q), .val (.int (1 : Int32))]) rfl (pc' := 76) rfl ?_
      refine g_iload X hx (hb hby at_76) rfl (pc' := 78) rfl ?_
      refine g_aload X hx (hb hby at_78) rfl rfl (pc' := 80) rfl ?_
      refine g_aload X hx (hb hby at_80) rfl rfl (pc' := 82) rfl ?_
      refine g_iloadN X hx (hb hby at_82) rfl (pc' := 83) rfl ?_
      refine g_iloadN X hx (hb hby at_83) rfl (pc' := 84) rfl ?_
      refine g_iconst X hx (hb hby at_84) (x := (1 : Int32)) (by decide) (pc' := 85) rfl ?_
      refine g_iand X hx (hb hby at_85) (pc' := 86) rfl ?_
      refine g_join (J := fun bp : Int32 => (mkF m 94 #[.val (.int p0), .val (.int p1), .val (.int p2), .val (.int nI), .val (.int (1 : Int32)), .val (.ref g), .val (.ref q), .val (.int (1 : Int32))] [(.int bp), (.int nI), (.ref g), (.ref q), (.int (1 : Int32))])) (P := fun bp => True) (fun KK => ?_) (fun bp hj86 => ?_)
      · skip
        refine g_if X hx (hb hby at_86) (by decide) (pc' := 93) (by decide) (pc2 := 89) rfl (fun hc => ?_) (fun hc => ?_)
        · replace hc := h_eq1 hc
          have hc86 := hc
          refine g_iconst X hx (hb hby at_93) (x := (0 : Int32)) (by decide) (pc' := 94) rfl ?_
          exact KK _ trivial
        · replace hc := h_eq0 hc
          have hc86 := hc
          refine g_iconst X hx (hb hby at_89) (x := (1 : Int32)) (by decide) (pc' := 90) rfl ?_
          refine g_goto X hx (hb hby at_90) (by decide) (pc' := 94) (by decide) ?_
          exact KK _ trivial
      · skip
        refine g_iloadN X hx (hb hby at_94) rfl (pc' := 95) rfl ?_
        refine g_stat (W := 1) (argsL := [(.ref q), (.ref g), (.int nI), (.int bp), (.int p2)]) (st := [(.int (1 : Int32))]) X hx hZ hown (hw _ (List.mem_of_getElem? (i := 18) rfl)) (hw _ (List.mem_of_getElem? (i := 19) rfl)) (hw _ (List.mem_of_getElem? (i := 20) rfl)) (hw _ (List.mem_of_getElem? (i := 21) rfl)) (by decide) (rmS l Z a0 hw q r1 r2 n nI (List.replicate n 0) (List.replicate n 0) (0 : Int32) (0 : Int32) (0 : Int32) (evl nI 0) g (0 : Int32) (1 : Int32) (2 : Int32) (3 : Int32) nI bp p2 h n0 Zn E_q F_q_nodes F_q_queued F_q_head F_q_count F_q_everyFrom A_r1 A_r2 ne_q_r1 ne_q_r2 ne_r1_r2 g_q g_r1 g_r2 A_g (Ne.symm ne_g_q) (Ne.symm ne_g_r1) (Ne.symm ne_g_r2) g_g I2 J2) eT (by decide) (by decide) (by decide) (by decide) (lenOf pd_5 rfl) (by rw [hml]; rfl) rfl (Nat.le_of_eq rfl) (hb hby at_95) (pc' := 98) rfl (fun T h vq Lq X eT hQ => ?_)
        obtain ⟨L2, M2, hd2, ct2, ev2, P2, t0, t1, t2, t3, t4, rfl, Nq, Kc, q_F_q_nodes, q_F_q_queued, q_F_q_head, q_F_q_count, q_F_q_everyFrom, q_A_r1, q_A_r2, q_A_g, I2, J2⟩ := hQ
        replace N := Fr.app N Nq
        replace E_q := E_q.keep Kc
        have F_q_nodes := q_F_q_nodes
        have F_q_queued := q_F_q_queued
        have F_q_head := q_F_q_head
        have F_q_count := q_F_q_count
        have F_q_everyFrom := q_F_q_everyFrom
        have A_r1 := q_A_r1
        have A_r2 := q_A_r2
        have A_g := q_A_g
        replace Zn := Nat.le_trans Zn Kc.1
        show WGo _ _ _ _ _ _ _ _ (mkF m 98 #[.val (.int p0), .val (.int p1), .val (.int p2), .val (.int nI), .val (.int (1 : Int32)), .val (.ref g), .val (.ref q), .val (.int (1 : Int32))] [(.int (1 : Int32)), (.int (1 : Int32))])
        refine g_iand X hx (hb hby at_98) (pc' := 99) rfl ?_
        rw [show ((1 : Int32) &&& (1 : Int32)) = (1 : Int32) from by decide]
        refine g_istore X hx (hb hby at_99) (Ls' := #[.val (.int p0), .val (.int p1), .val (.int p2), .val (.int nI), .val (.int (1 : Int32)), .val (.ref g), .val (.ref q), .val (.int (1 : Int32))]) rfl (pc' := 101) rfl ?_
        refine g_iload X hx (hb hby at_101) rfl (pc' := 103) rfl ?_
        refine g_aload X hx (hb hby at_103) rfl rfl (pc' := 105) rfl ?_
        refine g_aload X hx (hb hby at_105) rfl rfl (pc' := 107) rfl ?_
        refine g_iloadN X hx (hb hby at_107) rfl (pc' := 108) rfl ?_
        refine g_iloadN X hx (hb hby at_108) rfl (pc' := 109) rfl ?_
        refine g_iconst X hx (hb hby at_109) (x := (2 : Int32)) (by decide) (pc' := 110) rfl ?_
        refine g_iand X hx (hb hby at_110) (pc' := 111) rfl ?_
        refine g_join (J := fun bp : Int32 => (mkF m 119 #[.val (.int p0), .val (.int p1), .val (.int p2), .val (.int nI), .val (.int (1 : Int32)), .val (.ref g), .val (.ref q), .val (.int (1 : Int32))] [(.int bp), (.int nI), (.ref g), (.ref q), (.int (1 : Int32))])) (P := fun bp => True) (fun KK => ?_) (fun bp hj111 => ?_)
        · skip
          refine g_if X hx (hb hby at_111) (by decide) (pc' := 118) (by decide) (pc2 := 114) rfl (fun hc => ?_) (fun hc => ?_)
          · replace hc := h_eq1 hc
            have hc111 := hc
            refine g_iconst X hx (hb hby at_118) (x := (0 : Int32)) (by decide) (pc' := 119) rfl ?_
            exact KK _ trivial
          · replace hc := h_eq0 hc
            have hc111 := hc
            refine g_iconst X hx (hb hby at_114) (x := (1 : Int32)) (by decide) (pc' := 115) rfl ?_
            refine g_goto X hx (hb hby at_115) (by decide) (pc' := 119) (by decide) ?_
            exact KK _ trivial
        · skip
          refine g_iloadN X hx (hb hby at_119) rfl (pc' := 120) rfl ?_
          refine g_iconst X hx (hb hby at_120) (x := (4 : Int32)) (by decide) (pc' := 121) rfl ?_
          refine g_iushr X hx (hb hby at_121) (pc' := 122) rfl ?_
          refine g_stat (W := 1) (argsL := [(.ref q), (.ref g), (.int nI), (.int bp), (.int (XT.ushr p2 (4 : Int32)))]) (st := [(.int (1 : Int32))]) X hx hZ hown (hw _ (List.mem_of_getElem? (i := 18) rfl)) (hw _ (List.mem_of_getElem? (i := 19) rfl)) (hw _ (List.mem_of_getElem? (i := 20) rfl)) (hw _ (List.mem_of_getElem? (i := 21) rfl)) (by decide) (rmS l Z a0 hw q r1 r2 n nI L2 M2 hd2 ct2 ev2 P2 g t0 t1 t2 t3 t4 bp (XT.ushr p2 (4 : Int32)) h n0 Zn E_q F_q_nodes F_q_queued F_q_head F_q_count F_q_everyFrom A_r1 A_r2 ne_q_r1 ne_q_r2 ne_r1_r2 g_q g_r1 g_r2 A_g (Ne.symm ne_g_q) (Ne.symm ne_g_r1) (Ne.symm ne_g_r2) g_g I2 J2) eT (by decide) (by decide) (by decide) (by decide) (lenOf pd_5 rfl) (by rw [hml]; rfl) rfl (Nat.le_of_eq rfl) (hb hby at_122) (pc' := 125) rfl (fun T h vq Lq X eT hQ => ?_)
          obtain ⟨L2, M2, hd2, ct2, ev2, P2, t0, t1, t2, t3, t4, rfl, Nq, Kc, q_F_q_nodes, q_F_q_queued, q_F_q_head, q_F_q_count, q_F_q_everyFrom, q_A_r1, q_A_r2, q_A_g, I2, J2⟩ := hQ
          replace N := Fr.app N Nq
          replace E_q := E_q.keep Kc
          have F_q_nodes := q_F_q_nodes
          have F_q_queued := q_F_q_queued
          have F_q_head := q_F_q_head
          have F_q_count := q_F_q_count
          have F_q_everyFrom := q_F_q_everyFrom
          have A_r1 := q_A_r1
          have A_r2 := q_A_r2
          have A_g := q_A_g
          replace Zn := Nat.le_trans Zn Kc.1
          show WGo _ _ _ _ _ _ _ _ (mkF m 125 #[.val (.int p0), .val (.int p1), .val (.int p2), .val (.int nI), .val (.int (1 : Int32)), .val (.ref g), .val (.ref q), .val (.int (1 : Int32))] [(.int (1 : Int32)), (.int (1 : Int32))])
          refine g_iand X hx (hb hby at_125) (pc' := 126) rfl ?_
          rw [show ((1 : Int32) &&& (1 : Int32)) = (1 : Int32) from by decide]
          refine g_istore X hx (hb hby at_126) (Ls' := #[.val (.int p0), .val (.int p1), .val (.int p2), .val (.int nI), .val (.int (1 : Int32)), .val (.ref g), .val (.ref q), .val (.int (1 : Int32))]) rfl (pc' := 128) rfl ?_
          refine g_iload X hx (hb hby at_128) rfl (pc' := 130) rfl ?_
          refine g_aload X hx (hb hby at_130) rfl rfl (pc' := 132) rfl ?_
          refine g_aload X hx (hb hby at_132) rfl rfl (pc' := 134) rfl ?_
          refine g_iloadN X hx (hb hby at_134) rfl (pc' := 135) rfl ?_
          refine g_iloadN X hx (hb hby at_135) rfl (pc' := 136) rfl ?_
          refine g_iconst X hx (hb hby at_136) (x := (4 : Int32)) (by decide) (pc' := 137) rfl ?_
          refine g_iand X hx (hb hby at_137) (pc' := 138) rfl ?_
          refine g_join (J := fun bp : Int32 => (mkF m 146 #[.val (.int p0), .val (.int p1), .val (.int p2), .val (.int nI), .val (.int (1 : Int32)), .val (.ref g), .val (.ref q), .val (.int (1 : Int32))] [(.int bp), (.int nI), (.ref g), (.ref q), (.int (1 : Int32))])) (P := fun bp => True) (fun KK => ?_) (fun bp hj138 => ?_)
          · skip
            refine g_if X hx (hb hby at_138) (by decide) (pc' := 145) (by decide) (pc2 := 141) rfl (fun hc => ?_) (fun hc => ?_)
            · replace hc := h_eq1 hc
              have hc138 := hc
              refine g_iconst X hx (hb hby at_145) (x := (0 : Int32)) (by decide) (pc' := 146) rfl ?_
              exact KK _ trivial
            · replace hc := h_eq0 hc
              have hc138 := hc
              refine g_iconst X hx (hb hby at_141) (x := (1 : Int32)) (by decide) (pc' := 142) rfl ?_
              refine g_goto X hx (hb hby at_142) (by decide) (pc' := 146) (by decide) ?_
              exact KK _ trivial
          · skip
            refine g_iloadN X hx (hb hby at_146) rfl (pc' := 147) rfl ?_
            refine g_bipush X hx (hb hby at_147) (x := (8 : Int32)) (by decide) (pc' := 149) rfl ?_
            refine g_iushr X hx (hb hby at_149) (pc' := 150) rfl ?_
            refine g_stat (W := 1) (argsL := [(.ref q), (.ref g), (.int nI), (.int bp), (.int (XT.ushr p2 (8 : Int32)))]) (st := [(.int (1 : Int32))]) X hx hZ hown (hw _ (List.mem_of_getElem? (i := 18) rfl)) (hw _ (List.mem_of_getElem? (i := 19) rfl)) (hw _ (List.mem_of_getElem? (i := 20) rfl)) (hw _ (List.mem_of_getElem? (i := 21) rfl)) (by decide) (rmS l Z a0 hw q r1 r2 n nI L2 M2 hd2 ct2 ev2 P2 g t0 t1 t2 t3 t4 bp (XT.ushr p2 (8 : Int32)) h n0 Zn E_q F_q_nodes F_q_queued F_q_head F_q_count F_q_everyFrom A_r1 A_r2 ne_q_r1 ne_q_r2 ne_r1_r2 g_q g_r1 g_r2 A_g (Ne.symm ne_g_q) (Ne.symm ne_g_r1) (Ne.symm ne_g_r2) g_g I2 J2) eT (by decide) (by decide) (by decide) (by decide) (lenOf pd_5 rfl) (by rw [hml]; rfl) rfl (Nat.le_of_eq rfl) (hb hby at_150) (pc' := 153) rfl (fun T h vq Lq X eT hQ => ?_)
            obtain ⟨L2, M2, hd2, ct2, ev2, P2, t0, t1, t2, t3, t4, rfl, Nq, Kc, q_F_q_nodes, q_F_q_queued, q_F_q_head, q_F_q_count, q_F_q_everyFrom, q_A_r1, q_A_r2, q_A_g, I2, J2⟩ := hQ
            replace N := Fr.app N Nq
            replace E_q := E_q.keep Kc
            have F_q_nodes := q_F_q_nodes
            have F_q_queued := q_F_q_queued
            have F_q_head := q_F_q_head
            have F_q_count := q_F_q_count
            have F_q_everyFrom := q_F_q_everyFrom
            have A_r1 := q_A_r1
            have A_r2 := q_A_r2
            have A_g := q_A_g
            replace Zn := Nat.le_trans Zn Kc.1
            show WGo _ _ _ _ _ _ _ _ (mkF m 153 #[.val (.int p0), .val (.int p1), .val (.int p2), .val (.int nI), .val (.int (1 : Int32)), .val (.ref g), .val (.ref q), .val (.int (1 : Int32))] [(.int (1 : Int32)), (.int (1 : Int32))])
            refine g_iand X hx (hb hby at_153) (pc' := 154) rfl ?_
            rw [show ((1 : Int32) &&& (1 : Int32)) = (1 : Int32) from by decide]
            refine g_istore X hx (hb hby at_154) (Ls' := #[.val (.int p0), .val (.int p1), .val (.int p2), .val (.int nI), .val (.int (1 : Int32)), .val (.ref g), .val (.ref q), .val (.int (1 : Int32))]) rfl (pc' := 156) rfl ?_
            refine g_iload X hx (hb hby at_156) rfl (pc' := 158) rfl ?_
            refine g_aload X hx (hb hby at_158) rfl rfl (pc' := 160) rfl ?_
            refine g_aload X hx (hb hby at_160) rfl rfl (pc' := 162) rfl ?_
            refine g_iloadN X hx (hb hby at_162) rfl (pc' := 163) rfl ?_
            refine g_iloadN X hx (hb hby at_163) rfl (pc' := 164) rfl ?_
            refine g_bipush X hx (hb hby at_164) (x := (8 : Int32)) (by decide) (pc' := 166) rfl ?_
            refine g_iand X hx (hb hby at_166) (pc' := 167) rfl ?_
            refine g_join (J := fun bp : Int32 => (mkF m 175 #[.val (.int p0), .val (.int p1), .val (.int p2), .val (.int nI), .val (.int (1 : Int32)), .val (.ref g), .val (.ref q), .val (.int (1 : Int32))] [(.int bp), (.int nI), (.ref g), (.ref q), (.int (1 : Int32))])) (P := fun bp => True) (fun KK => ?_) (fun bp hj167 => ?_)
            · skip
              refine g_if X hx (hb hby at_167) (by decide) (pc' := 174) (by decide) (pc2 := 170) rfl (fun hc => ?_) (fun hc => ?_)
              · replace hc := h_eq1 hc
                have hc167 := hc
                refine g_iconst X hx (hb hby at_174) (x := (0 : Int32)) (by decide) (pc' := 175) rfl ?_
                exact KK _ trivial
              · replace hc := h_eq0 hc
                have hc167 := hc
                refine g_iconst X hx (hb hby at_170) (x := (1 : Int32)) (by decide) (pc' := 171) rfl ?_
                refine g_goto X hx (hb hby at_171) (by decide) (pc' := 175) (by decide) ?_
                exact KK _ trivial
            · skip
              refine g_iloadN X hx (hb hby at_175) rfl (pc' := 176) rfl ?_
              refine g_bipush X hx (hb hby at_176) (x := (12 : Int32)) (by decide) (pc' := 178) rfl ?_
              refine g_iushr X hx (hb hby at_178) (pc' := 179) rfl ?_
              refine g_stat (W := 1) (argsL := [(.ref q), (.ref g), (.int nI), (.int bp), (.int (XT.ushr p2 (12 : Int32)))]) (st := [(.int (1 : Int32))]) X hx hZ hown (hw _ (List.mem_of_getElem? (i := 18) rfl)) (hw _ (List.mem_of_getElem? (i := 19) rfl)) (hw _ (List.mem_of_getElem? (i := 20) rfl)) (hw _ (List.mem_of_getElem? (i := 21) rfl)) (by decide) (rmS l Z a0 hw q r1 r2 n nI L2 M2 hd2 ct2 ev2 P2 g t0 t1 t2 t3 t4 bp (XT.ushr p2 (12 : Int32)) h n0 Zn E_q F_q_nodes F_q_queued F_q_head F_q_count F_q_everyFrom A_r1 A_r2 ne_q_r1 ne_q_r2 ne_r1_r2 g_q g_r1 g_r2 A_g (Ne.symm ne_g_q) (Ne.symm ne_g_r1) (Ne.symm ne_g_r2) g_g I2 J2) eT (by decide) (by decide) (by decide) (by decide) (lenOf pd_5 rfl) (by rw [hml]; rfl) rfl (Nat.le_of_eq rfl) (hb hby at_179) (pc' := 182) rfl (fun T h vq Lq X eT hQ => ?_)
              obtain ⟨L2, M2, hd2, ct2, ev2, P2, t0, t1, t2, t3, t4, rfl, Nq, Kc, q_F_q_nodes, q_F_q_queued, q_F_q_head, q_F_q_count, q_F_q_everyFrom, q_A_r1, q_A_r2, q_A_g, I2, J2⟩ := hQ
              replace N := Fr.app N Nq
              replace E_q := E_q.keep Kc
              have F_q_nodes := q_F_q_nodes
              have F_q_queued := q_F_q_queued
              have F_q_head := q_F_q_head
              have F_q_count := q_F_q_count
              have F_q_everyFrom := q_F_q_everyFrom
              have A_r1 := q_A_r1
              have A_r2 := q_A_r2
              have A_g := q_A_g
              replace Zn := Nat.le_trans Zn Kc.1
              show WGo _ _ _ _ _ _ _ _ (mkF m 182 #[.val (.int p0), .val (.int p1), .val (.int p2), .val (.int nI), .val (.int (1 : Int32)), .val (.ref g), .val (.ref q), .val (.int (1 : Int32))] [(.int (1 : Int32)), (.int (1 : Int32))])
              refine g_iand X hx (hb hby at_182) (pc' := 183) rfl ?_
              rw [show ((1 : Int32) &&& (1 : Int32)) = (1 : Int32) from by decide]
              refine g_istore X hx (hb hby at_183) (Ls' := #[.val (.int p0), .val (.int p1), .val (.int p2), .val (.int nI), .val (.int (1 : Int32)), .val (.ref g), .val (.ref q), .val (.int (1 : Int32))]) rfl (pc' := 185) rfl ?_
              refine g_iload X hx (hb hby at_185) rfl (pc' := 187) rfl ?_
              refine g_aload X hx (hb hby at_187) rfl rfl (pc' := 189) rfl ?_
              refine g_aload X hx (hb hby at_189) rfl rfl (pc' := 191) rfl ?_
              refine g_iloadN X hx (hb hby at_191) rfl (pc' := 192) rfl ?_
              refine g_iloadN X hx (hb hby at_192) rfl (pc' := 193) rfl ?_
              refine g_bipush X hx (hb hby at_193) (x := (16 : Int32)) (by decide) (pc' := 195) rfl ?_
              refine g_iand X hx (hb hby at_195) (pc' := 196) rfl ?_
              refine g_join (J := fun bp : Int32 => (mkF m 204 #[.val (.int p0), .val (.int p1), .val (.int p2), .val (.int nI), .val (.int (1 : Int32)), .val (.ref g), .val (.ref q), .val (.int (1 : Int32))] [(.int bp), (.int nI), (.ref g), (.ref q), (.int (1 : Int32))])) (P := fun bp => True) (fun KK => ?_) (fun bp hj196 => ?_)
              · skip
                refine g_if X hx (hb hby at_196) (by decide) (pc' := 203) (by decide) (pc2 := 199) rfl (fun hc => ?_) (fun hc => ?_)
                · replace hc := h_eq1 hc
                  have hc196 := hc
                  refine g_iconst X hx (hb hby at_203) (x := (0 : Int32)) (by decide) (pc' := 204) rfl ?_
                  exact KK _ trivial
                · replace hc := h_eq0 hc
                  have hc196 := hc
                  refine g_iconst X hx (hb hby at_199) (x := (1 : Int32)) (by decide) (pc' := 200) rfl ?_
                  refine g_goto X hx (hb hby at_200) (by decide) (pc' := 204) (by decide) ?_
                  exact KK _ trivial
              · skip
                refine g_iloadN X hx (hb hby at_204) rfl (pc' := 205) rfl ?_
                refine g_bipush X hx (hb hby at_205) (x := (16 : Int32)) (by decide) (pc' := 207) rfl ?_
                refine g_iushr X hx (hb hby at_207) (pc' := 208) rfl ?_
                refine g_stat (W := 1) (argsL := [(.ref q), (.ref g), (.int nI), (.int bp), (.int (XT.ushr p2 (16 : Int32)))]) (st := [(.int (1 : Int32))]) X hx hZ hown (hw _ (List.mem_of_getElem? (i := 18) rfl)) (hw _ (List.mem_of_getElem? (i := 19) rfl)) (hw _ (List.mem_of_getElem? (i := 20) rfl)) (hw _ (List.mem_of_getElem? (i := 21) rfl)) (by decide) (rmS l Z a0 hw q r1 r2 n nI L2 M2 hd2 ct2 ev2 P2 g t0 t1 t2 t3 t4 bp (XT.ushr p2 (16 : Int32)) h n0 Zn E_q F_q_nodes F_q_queued F_q_head F_q_count F_q_everyFrom A_r1 A_r2 ne_q_r1 ne_q_r2 ne_r1_r2 g_q g_r1 g_r2 A_g (Ne.symm ne_g_q) (Ne.symm ne_g_r1) (Ne.symm ne_g_r2) g_g I2 J2) eT (by decide) (by decide) (by decide) (by decide) (lenOf pd_5 rfl) (by rw [hml]; rfl) rfl (Nat.le_of_eq rfl) (hb hby at_208) (pc' := 211) rfl (fun T h vq Lq X eT hQ => ?_)
                obtain ⟨L2, M2, hd2, ct2, ev2, P2, t0, t1, t2, t3, t4, rfl, Nq, Kc, q_F_q_nodes, q_F_q_queued, q_F_q_head, q_F_q_count, q_F_q_everyFrom, q_A_r1, q_A_r2, q_A_g, I2, J2⟩ := hQ
                replace N := Fr.app N Nq
                replace E_q := E_q.keep Kc
                have F_q_nodes := q_F_q_nodes
                have F_q_queued := q_F_q_queued
                have F_q_head := q_F_q_head
                have F_q_count := q_F_q_count
                have F_q_everyFrom := q_F_q_everyFrom
                have A_r1 := q_A_r1
                have A_r2 := q_A_r2
                have A_g := q_A_g
                replace Zn := Nat.le_trans Zn Kc.1
                show WGo _ _ _ _ _ _ _ _ (mkF m 211 #[.val (.int p0), .val (.int p1), .val (.int p2), .val (.int nI), .val (.int (1 : Int32)), .val (.ref g), .val (.ref q), .val (.int (1 : Int32))] [(.int (1 : Int32)), (.int (1 : Int32))])
                refine g_iand X hx (hb hby at_211) (pc' := 212) rfl ?_
                rw [show ((1 : Int32) &&& (1 : Int32)) = (1 : Int32) from by decide]
                refine g_istore X hx (hb hby at_212) (Ls' := #[.val (.int p0), .val (.int p1), .val (.int p2), .val (.int nI), .val (.int (1 : Int32)), .val (.ref g), .val (.ref q), .val (.int (1 : Int32))]) rfl (pc' := 214) rfl ?_
                refine g_iload X hx (hb hby at_214) rfl (pc' := 216) rfl ?_
                refine g_aload X hx (hb hby at_216) rfl rfl (pc' := 218) rfl ?_
                refine g_aload X hx (hb hby at_218) rfl rfl (pc' := 220) rfl ?_
                refine g_iloadN X hx (hb hby at_220) rfl (pc' := 221) rfl ?_
                refine g_iloadN X hx (hb hby at_221) rfl (pc' := 222) rfl ?_
                refine g_bipush X hx (hb hby at_222) (x := (32 : Int32)) (by decide) (pc' := 224) rfl ?_
                refine g_iand X hx (hb hby at_224) (pc' := 225) rfl ?_
                refine g_join (J := fun bp : Int32 => (mkF m 233 #[.val (.int p0), .val (.int p1), .val (.int p2), .val (.int nI), .val (.int (1 : Int32)), .val (.ref g), .val (.ref q), .val (.int (1 : Int32))] [(.int bp), (.int nI), (.ref g), (.ref q), (.int (1 : Int32))])) (P := fun bp => True) (fun KK => ?_) (fun bp hj225 => ?_)
                · skip
                  refine g_if X hx (hb hby at_225) (by decide) (pc' := 232) (by decide) (pc2 := 228) rfl (fun hc => ?_) (fun hc => ?_)
                  · replace hc := h_eq1 hc
                    have hc225 := hc
                    refine g_iconst X hx (hb hby at_232) (x := (0 : Int32)) (by decide) (pc' := 233) rfl ?_
                    exact KK _ trivial
                  · replace hc := h_eq0 hc
                    have hc225 := hc
                    refine g_iconst X hx (hb hby at_228) (x := (1 : Int32)) (by decide) (pc' := 229) rfl ?_
                    refine g_goto X hx (hb hby at_229) (by decide) (pc' := 233) (by decide) ?_
                    exact KK _ trivial
                · skip
                  refine g_iloadN X hx (hb hby at_233) rfl (pc' := 234) rfl ?_
                  refine g_bipush X hx (hb hby at_234) (x := (20 : Int32)) (by decide) (pc' := 236) rfl ?_
                  refine g_iushr X hx (hb hby at_236) (pc' := 237) rfl ?_
                  refine g_stat (W := 1) (argsL := [(.ref q), (.ref g), (.int nI), (.int bp), (.int (XT.ushr p2 (20 : Int32)))]) (st := [(.int (1 : Int32))]) X hx hZ hown (hw _ (List.mem_of_getElem? (i := 18) rfl)) (hw _ (List.mem_of_getElem? (i := 19) rfl)) (hw _ (List.mem_of_getElem? (i := 20) rfl)) (hw _ (List.mem_of_getElem? (i := 21) rfl)) (by decide) (rmS l Z a0 hw q r1 r2 n nI L2 M2 hd2 ct2 ev2 P2 g t0 t1 t2 t3 t4 bp (XT.ushr p2 (20 : Int32)) h n0 Zn E_q F_q_nodes F_q_queued F_q_head F_q_count F_q_everyFrom A_r1 A_r2 ne_q_r1 ne_q_r2 ne_r1_r2 g_q g_r1 g_r2 A_g (Ne.symm ne_g_q) (Ne.symm ne_g_r1) (Ne.symm ne_g_r2) g_g I2 J2) eT (by decide) (by decide) (by decide) (by decide) (lenOf pd_5 rfl) (by rw [hml]; rfl) rfl (Nat.le_of_eq rfl) (hb hby at_237) (pc' := 240) rfl (fun T h vq Lq X eT hQ => ?_)
                  obtain ⟨L2, M2, hd2, ct2, ev2, P2, t0, t1, t2, t3, t4, rfl, Nq, Kc, q_F_q_nodes, q_F_q_queued, q_F_q_head, q_F_q_count, q_F_q_everyFrom, q_A_r1, q_A_r2, q_A_g, I2, J2⟩ := hQ
                  replace N := Fr.app N Nq
                  replace E_q := E_q.keep Kc
                  have F_q_nodes := q_F_q_nodes
                  have F_q_queued := q_F_q_queued
                  have F_q_head := q_F_q_head
                  have F_q_count := q_F_q_count
                  have F_q_everyFrom := q_F_q_everyFrom
                  have A_r1 := q_A_r1
                  have A_r2 := q_A_r2
                  have A_g := q_A_g
                  replace Zn := Nat.le_trans Zn Kc.1
                  show WGo _ _ _ _ _ _ _ _ (mkF m 240 #[.val (.int p0), .val (.int p1), .val (.int p2), .val (.int nI), .val (.int (1 : Int32)), .val (.ref g), .val (.ref q), .val (.int (1 : Int32))] [(.int (1 : Int32)), (.int (1 : Int32))])
                  refine g_iand X hx (hb hby at_240) (pc' := 241) rfl ?_
                  rw [show ((1 : Int32) &&& (1 : Int32)) = (1 : Int32) from by decide]
                  refine g_istore X hx (hb hby at_241) (Ls' := #[.val (.int p0), .val (.int p1), .val (.int p2), .val (.int nI), .val (.int (1 : Int32)), .val (.ref g), .val (.ref q), .val (.int (1 : Int32))]) rfl (pc' := 243) rfl ?_
                  refine g_iload X hx (hb hby at_243) rfl (pc' := 245) rfl ?_
                  refine g_aload X hx (hb hby at_245) rfl rfl (pc' := 247) rfl ?_
                  refine g_aload X hx (hb hby at_247) rfl rfl (pc' := 249) rfl ?_
                  refine g_iloadN X hx (hb hby at_249) rfl (pc' := 250) rfl ?_
                  refine g_iloadN X hx (hb hby at_250) rfl (pc' := 251) rfl ?_
                  refine g_bipush X hx (hb hby at_251) (x := (64 : Int32)) (by decide) (pc' := 253) rfl ?_
                  refine g_iand X hx (hb hby at_253) (pc' := 254) rfl ?_
                  refine g_join (J := fun bp : Int32 => (mkF m 262 #[.val (.int p0), .val (.int p1), .val (.int p2), .val (.int nI), .val (.int (1 : Int32)), .val (.ref g), .val (.ref q), .val (.int (1 : Int32))] [(.int bp), (.int nI), (.ref g), (.ref q), (.int (1 : Int32))])) (P := fun bp => True) (fun KK => ?_) (fun bp hj254 => ?_)
                  · skip
                    refine g_if X hx (hb hby at_254) (by decide) (pc' := 261) (by decide) (pc2 := 257) rfl (fun hc => ?_) (fun hc => ?_)
                    · replace hc := h_eq1 hc
                      have hc254 := hc
                      refine g_iconst X hx (hb hby at_261) (x := (0 : Int32)) (by decide) (pc' := 262) rfl ?_
                      exact KK _ trivial
                    · replace hc := h_eq0 hc
                      have hc254 := hc
                      refine g_iconst X hx (hb hby at_257) (x := (1 : Int32)) (by decide) (pc' := 258) rfl ?_
                      refine g_goto X hx (hb hby at_258) (by decide) (pc' := 262) (by decide) ?_
                      exact KK _ trivial
                  · skip
                    refine g_iloadN X hx (hb hby at_262) rfl (pc' := 263) rfl ?_
                    refine g_bipush X hx (hb hby at_263) (x := (24 : Int32)) (by decide) (pc' := 265) rfl ?_
                    refine g_iushr X hx (hb hby at_265) (pc' := 266) rfl ?_
                    refine g_stat (W := 1) (argsL := [(.ref q), (.ref g), (.int nI), (.int bp), (.int (XT.ushr p2 (24 : Int32)))]) (st := [(.int (1 : Int32))]) X hx hZ hown (hw _ (List.mem_of_getElem? (i := 18) rfl)) (hw _ (List.mem_of_getElem? (i := 19) rfl)) (hw _ (List.mem_of_getElem? (i := 20) rfl)) (hw _ (List.mem_of_getElem? (i := 21) rfl)) (by decide) (rmS l Z a0 hw q r1 r2 n nI L2 M2 hd2 ct2 ev2 P2 g t0 t1 t2 t3 t4 bp (XT.ushr p2 (24 : Int32)) h n0 Zn E_q F_q_nodes F_q_queued F_q_head F_q_count F_q_everyFrom A_r1 A_r2 ne_q_r1 ne_q_r2 ne_r1_r2 g_q g_r1 g_r2 A_g (Ne.symm ne_g_q) (Ne.symm ne_g_r1) (Ne.symm ne_g_r2) g_g I2 J2) eT (by decide) (by decide) (by decide) (by decide) (lenOf pd_5 rfl) (by rw [hml]; rfl) rfl (Nat.le_of_eq rfl) (hb hby at_266) (pc' := 269) rfl (fun T h vq Lq X eT hQ => ?_)
                    obtain ⟨L2, M2, hd2, ct2, ev2, P2, t0, t1, t2, t3, t4, rfl, Nq, Kc, q_F_q_nodes, q_F_q_queued, q_F_q_head, q_F_q_count, q_F_q_everyFrom, q_A_r1, q_A_r2, q_A_g, I2, J2⟩ := hQ
                    replace N := Fr.app N Nq
                    replace E_q := E_q.keep Kc
                    have F_q_nodes := q_F_q_nodes
                    have F_q_queued := q_F_q_queued
                    have F_q_head := q_F_q_head
                    have F_q_count := q_F_q_count
                    have F_q_everyFrom := q_F_q_everyFrom
                    have A_r1 := q_A_r1
                    have A_r2 := q_A_r2
                    have A_g := q_A_g
                    replace Zn := Nat.le_trans Zn Kc.1
                    show WGo _ _ _ _ _ _ _ _ (mkF m 269 #[.val (.int p0), .val (.int p1), .val (.int p2), .val (.int nI), .val (.int (1 : Int32)), .val (.ref g), .val (.ref q), .val (.int (1 : Int32))] [(.int (1 : Int32)), (.int (1 : Int32))])
                    refine g_iand X hx (hb hby at_269) (pc' := 270) rfl ?_
                    rw [show ((1 : Int32) &&& (1 : Int32)) = (1 : Int32) from by decide]
                    refine g_istore X hx (hb hby at_270) (Ls' := #[.val (.int p0), .val (.int p1), .val (.int p2), .val (.int nI), .val (.int (1 : Int32)), .val (.ref g), .val (.ref q), .val (.int (1 : Int32))]) rfl (pc' := 272) rfl ?_
                    refine g_iload X hx (hb hby at_272) rfl (pc' := 274) rfl ?_
                    refine g_aload X hx (hb hby at_274) rfl rfl (pc' := 276) rfl ?_
                    refine g_aload X hx (hb hby at_276) rfl rfl (pc' := 278) rfl ?_
                    refine g_iloadN X hx (hb hby at_278) rfl (pc' := 279) rfl ?_
                    refine g_iloadN X hx (hb hby at_279) rfl (pc' := 280) rfl ?_
                    refine g_sipush X hx (hb hby at_280) (x := (128 : Int32)) (by decide) (pc' := 283) rfl ?_
                    refine g_iand X hx (hb hby at_283) (pc' := 284) rfl ?_
                    refine g_join (J := fun bp : Int32 => (mkF m 292 #[.val (.int p0), .val (.int p1), .val (.int p2), .val (.int nI), .val (.int (1 : Int32)), .val (.ref g), .val (.ref q), .val (.int (1 : Int32))] [(.int bp), (.int nI), (.ref g), (.ref q), (.int (1 : Int32))])) (P := fun bp => True) (fun KK => ?_) (fun bp hj284 => ?_)
                    · skip
                      refine g_if X hx (hb hby at_284) (by decide) (pc' := 291) (by decide) (pc2 := 287) rfl (fun hc => ?_) (fun hc => ?_)
                      · replace hc := h_eq1 hc
                        have hc284 := hc
                        refine g_iconst X hx (hb hby at_291) (x := (0 : Int32)) (by decide) (pc' := 292) rfl ?_
                        exact KK _ trivial
                      · replace hc := h_eq0 hc
                        have hc284 := hc
                        refine g_iconst X hx (hb hby at_287) (x := (1 : Int32)) (by decide) (pc' := 288) rfl ?_
                        refine g_goto X hx (hb hby at_288) (by decide) (pc' := 292) (by decide) ?_
                        exact KK _ trivial
                    · skip
                      refine g_iloadN X hx (hb hby at_292) rfl (pc' := 293) rfl ?_
                      refine g_bipush X hx (hb hby at_293) (x := (28 : Int32)) (by decide) (pc' := 295) rfl ?_
                      refine g_iushr X hx (hb hby at_295) (pc' := 296) rfl ?_
                      refine g_stat (W := 1) (argsL := [(.ref q), (.ref g), (.int nI), (.int bp), (.int (XT.ushr p2 (28 : Int32)))]) (st := [(.int (1 : Int32))]) X hx hZ hown (hw _ (List.mem_of_getElem? (i := 18) rfl)) (hw _ (List.mem_of_getElem? (i := 19) rfl)) (hw _ (List.mem_of_getElem? (i := 20) rfl)) (hw _ (List.mem_of_getElem? (i := 21) rfl)) (by decide) (rmS l Z a0 hw q r1 r2 n nI L2 M2 hd2 ct2 ev2 P2 g t0 t1 t2 t3 t4 bp (XT.ushr p2 (28 : Int32)) h n0 Zn E_q F_q_nodes F_q_queued F_q_head F_q_count F_q_everyFrom A_r1 A_r2 ne_q_r1 ne_q_r2 ne_r1_r2 g_q g_r1 g_r2 A_g (Ne.symm ne_g_q) (Ne.symm ne_g_r1) (Ne.symm ne_g_r2) g_g I2 J2) eT (by decide) (by decide) (by decide) (by decide) (lenOf pd_5 rfl) (by rw [hml]; rfl) rfl (Nat.le_of_eq rfl) (hb hby at_296) (pc' := 299) rfl (fun T h vq Lq X eT hQ => ?_)
                      obtain ⟨L2, M2, hd2, ct2, ev2, P2, t0, t1, t2, t3, t4, rfl, Nq, Kc, q_F_q_nodes, q_F_q_queued, q_F_q_head, q_F_q_count, q_F_q_everyFrom, q_A_r1, q_A_r2, q_A_g, I2, J2⟩ := hQ
                      replace N := Fr.app N Nq
                      replace E_q := E_q.keep Kc
                      have F_q_nodes := q_F_q_nodes
                      have F_q_queued := q_F_q_queued
                      have F_q_head := q_F_q_head
                      have F_q_count := q_F_q_count
                      have F_q_everyFrom := q_F_q_everyFrom
                      have A_r1 := q_A_r1
                      have A_r2 := q_A_r2
                      have A_g := q_A_g
                      replace Zn := Nat.le_trans Zn Kc.1
                      show WGo _ _ _ _ _ _ _ _ (mkF m 299 #[.val (.int p0), .val (.int p1), .val (.int p2), .val (.int nI), .val (.int (1 : Int32)), .val (.ref g), .val (.ref q), .val (.int (1 : Int32))] [(.int (1 : Int32)), (.int (1 : Int32))])
                      refine g_iand X hx (hb hby at_299) (pc' := 300) rfl ?_
                      rw [show ((1 : Int32) &&& (1 : Int32)) = (1 : Int32) from by decide]
                      refine g_istore X hx (hb hby at_300) (Ls' := #[.val (.int p0), .val (.int p1), .val (.int p2), .val (.int nI), .val (.int (1 : Int32)), .val (.ref g), .val (.ref q), .val (.int (1 : Int32))]) rfl (pc' := 302) rfl ?_
                      refine g_iload X hx (hb hby at_302) rfl (pc' := 304) rfl ?_
                      refine g_retN (t := .boolean) X hx hret (by simp) hlk (hb hby at_304) (by decide) (by decide) ?_
                      exact ⟨rfl, N⟩
set_option maxRecDepth 65536 in
set_option maxHeartbeats 40000000 in
theorem comes_1 {Post : Tables → Env → Array Value → State → Outcome → State → Prop} (hpost : ∀ tb e args s v u, (limb_1_1.after args s (.returned v) u = true ∧ limb_1_2.after args s (.returned v) u = true ∧ True) → FrameEnd s (.returned v) u (Jvm.fieldLocs frame_1_writes args s ++ Jvm.arrayLocs frame_1_arrays args s ++ Jvm.staticLocs frame_1_statics s) 16 128 → Post tb e args s (.returned v) u) :
    ArmFor flags0 classFile x code maxLocals ret World_1 tables_1 room_1 Calls_1 rest_1 Pre_1 Post := by
  intro l hfl _ _ p e ha hc hk s m args below hf hA hF happ hP
  obtain ⟨hcalls, hrest, hpre⟩ := hP
  obtain ⟨-, -, -, hnamed, -, -, -, hat⟩ := (Spec.applies_iff hf).mp happ
  obtain ⟨hg, hn⟩ := and_e (Cond.before_iff.mp (show (Jvm.Cond.and given_1 narrow_1).before args s = true from hpre))
  obtain ⟨gc, gr0⟩ := and_e hg
  obtain ⟨ga0, gr1⟩ := and_e gr0
  obtain ⟨ga1, gr2⟩ := and_e gr1
  obtain ⟨w0, w1, w2, rfl⟩ : ∃ w0 w1 w2 : Value, args = #[w0, w1, w2] := by
    have hs : args.size = 3 := by simpa [Cond.value, given_1] using gc
    obtain ⟨L⟩ := args
    match L, hs with
    | [w0, w1, w2], _ => exact ⟨w0, w1, w2, rfl⟩
  have hw := fun d (hd : d ∈ tables_1) => atoms_spec (ws := Jvm.Cond.code x code maxLocals ret :: tables_1) hat d (List.mem_cons_of_mem _ hd)
  obtain ⟨i0, ei0⟩ := is_v ga0
  obtain rfl : w0 = (.int i0) := Option.some.inj ei0
  obtain ⟨i1, ei1⟩ := is_v ga1
  obtain rfl : w1 = (.int i1) := Option.some.inj ei1
  obtain ⟨i2, ei2⟩ := is_v gr2
  obtain rfl : w2 = (.int i2) := Option.some.inj ei2
  obtain ⟨n, o, h1, h2, h3, _, L, rfl, ⟨rfl, N⟩, hq⟩ := rm0 l s _ hw i0 i1 i2 s.heap s.heap.size (Nat.le_refl _)  tables_1 p e ha hc hk s m _ below hf ((Spec.applies_iff_loose hf).mp happ).1 ⟨rfl, State.Warmed39.refl s, rfl⟩ trivial
  refine ⟨n, _, h1, h2, h3, hpost _ _ _ _ _ _ ⟨Cond.after_iff.mpr rfl, Cond.after_iff.mpr (eq_i res_at (Term.int_eval (1)) rfl), trivial⟩ ⟨hq.1, hq.2.1, (hq.2.2.sift fun y hy => Or.inr (N y hy)).mono (by decide) (by decide)⟩⟩
theorem main_1_1 : Claimed_1_1 := comes_1 fun _ _ _ _ _ _ h hF => ⟨h.1, hF⟩
theorem main_1_2 : Claimed_1_2 := comes_1 fun _ _ _ _ _ _ h hF => ⟨h.2.1, hF⟩
end Jvm.Pilot.@@N@@
namespace Jvm.Pilot.@@N@@
open Jvm Jvm.ClassFile Sem Op Lib Jvm.Free Jvm.Stand Jvm.Pilot.@@N@@.Jvm.D
/-! MADE BY PROGRAM (witnessworld.py) out of the Statement's table words and the real class files: 11 classes; the members and pool entries that the words name. The judged class is class 1, her method 5. -/
namespace start1
open Jvm.ClassFile
def u (s : String) : CpInfo := .utf8 (stringToUtf16 s)
/-- a pool by its gaps: so many unusable entries, then the entry; so many at the end -/
def gap : Nat → List CpInfo → List CpInfo
  | 0, r => r
  | n + 1, r => .unusable :: gap n r
def poolList (es : List (Nat × CpInfo)) (last : Nat) : List CpInfo := es.foldr (fun e r => gap e.1 (e.2 :: r)) (gap last [])
def pool (es : List (Nat × CpInfo)) (last : Nat) : Array CpInfo := ⟨poolList es last⟩
def fileOf (pool : Array CpInfo) (this : Nat) (attrs : Array Attribute := #[]) (ms : Array MethodInfo := #[]) (fl : Nat := 33) (sup : Nat := 0) (ifs : Array Nat := #[]) (fds : Array FieldInfo := #[]) : ClassFile where
  minorVersion := 0
  majorVersion := 65
  constantPool := pool
  accessFlags := fl
  thisClass := this
  superClass := sup
  interfaces := ifs
  fields := fds
  methods := ms
  attributes := attrs
def plain (name : String) (sup : Option ClassId) : Class where
  name := name
  kind := .ordinary
  loader := none
  accessFlags := 33
  super := sup
  interfaces := #[]
  cf := none
  fields := #[]
  methods := #[]
  instanceTypes := #[]
  staticTypes := #[]
  resolved := #[]
  callSites := []
  init := .initialized
  statics := none
  mirror := none

def pool0 : Array CpInfo := pool [(5, u "<init>"), (0, u "()V"), (1, .class_ 10), (1, u "java/lang/Object")] 113

def k0c0 : Code := { maxStack := 0, maxLocals := 1, code := object_method_1_code, exceptionTable := #[], attributes := #[] }
def k0m0 : Method := { name := "<init>", desc := "()V", sig := { parameters := [], returnType := none }, accessFlags := 1, code := some k0c0 }
/-- java/lang/Object -/
def k0 : Class := { plain "java/lang/Object" none with
  accessFlags := 33
  interfaces := #[]
  cf := some (fileOf pool0 8 #[] #[{ accessFlags := 1, nameIndex := 5, descriptorIndex := 6, attributes := #[] }] 33 0 #[] #[])
  fields := #[]
  methods := #[k0m0]
  instanceTypes := #[]
  staticTypes := #[]
  resolved := Array.replicate 124 none
  statics := none }

def pool1 : Array CpInfo := pool [(2, .class_ 4), (1, u "java/lang/Object"), (0, u "<init>"), (0, u "()V"), (0, .methodref 8 9), (0, .class_ 10), (0, .nameAndType 11 12), (0, u "com/example/storewatch/storewatch/graph/NodeQueuePollPinLaw"), (0, u "has"), (0, u "([II)Z"), (0, .methodref 14 15), (0, .class_ 16), (0, .nameAndType 17 18), (0, u "com/example/storewatch/storewatch/graph/NodeQueue"), (0, u "poll"), (0, u "()I"), (0, .methodref 8 20), (0, .nameAndType 21 22), (0, u "pop"), (0, u "([I)I"), (0, .methodref 14 24), (0, .nameAndType 25 26), (0, u "add"), (0, u "(I)V"), (0, .methodref 8 28), (0, .nameAndType 29 30), (0, u "push"), (0, u "([II)V"), (0, .integer 2147483647), (0, .methodref 14 33), (0, .nameAndType 5 26), (0, .methodref 14 35), (0, .nameAndType 36 6), (0, u "addEvery"), (0, .methodref 8 38), (0, .nameAndType 39 40), (0, u "step"), (0, u "(Lcom/example/storewatch/storewatch/graph/NodeQueue;[IIZI)Z"), (3, u "law"), (0, u "(III)Z")] 4

def k1m0 : Method := { name := "<init>", desc := "()V", sig := { parameters := [], returnType := none }, accessFlags := 1, code := none }
def k1c1 : Code := { maxStack := 2, maxLocals := 3, code := method_2_code, exceptionTable := #[], attributes := #[] }
def k1m1 : Method := { name := "has", desc := "([II)Z", sig := { parameters := [(.array .int), .int], returnType := some .boolean }, accessFlags := 10, code := some k1c1 }
def k1c2 : Code := { maxStack := 4, maxLocals := 2, code := method_3_code, exceptionTable := #[], attributes := #[] }
def k1m2 : Method := { name := "push", desc := "([II)V", sig := { parameters := [(.array .int), .int], returnType := none }, accessFlags := 10, code := some k1c2 }
def k1c3 : Code := { maxStack := 4, maxLocals := 2, code := method_4_code, exceptionTable := #[], attributes := #[] }
def k1m3 : Method := { name := "pop", desc := "([I)I", sig := { parameters := [(.array .int)], returnType := some .int }, accessFlags := 10, code := some k1c3 }
def k1c4 : Code := { maxStack := 2, maxLocals := 7, code := method_5_code, exceptionTable := #[], attributes := #[] }
def k1m4 : Method := { name := "step", desc := "(Lcom/example/storewatch/storewatch/graph/NodeQueue;[IIZI)Z", sig := { parameters := [(.object "com/example/storewatch/storewatch/graph/NodeQueue"), (.array .int), .int, .boolean, .int], returnType := some .boolean }, accessFlags := 10, code := some k1c4 }
def k1c5 : Code := { maxStack := 7, maxLocals := 8, code := code, exceptionTable := #[], attributes := #[] }
def k1m5 : Method := { name := "law", desc := "(III)Z", sig := { parameters := [.int, .int, .int], returnType := some .boolean }, accessFlags := 9, code := some k1c5 }
/-- com/example/storewatch/storewatch/graph/NodeQueuePollPinLaw -/
def k1 : Class := { plain "com/example/storewatch/storewatch/graph/NodeQueuePollPinLaw" (some 0) with
  accessFlags := 49
  interfaces := #[]
  cf := some (fileOf pool1 8 #[] #[{ accessFlags := 1, nameIndex := 5, descriptorIndex := 6, attributes := #[] }, { accessFlags := 10, nameIndex := 11, descriptorIndex := 12, attributes := #[] }, { accessFlags := 10, nameIndex := 29, descriptorIndex := 30, attributes := #[] }, { accessFlags := 10, nameIndex := 21, descriptorIndex := 22, attributes := #[] }, { accessFlags := 10, nameIndex := 39, descriptorIndex := 40, attributes := #[] }, { accessFlags := 9, nameIndex := 44, descriptorIndex := 45, attributes := #[] }] 49 2 #[] #[])
  fields := #[]
  methods := #[k1m0, k1m1, k1m2, k1m3, k1m4, k1m5]
  instanceTypes := #[]
  staticTypes := #[]
  resolved := Array.replicate 50 none
  statics := none }

def pool2 : Array CpInfo := pool [(1, .methodref 2 3), (0, .class_ 4), (0, .nameAndType 5 6), (0, u "java/lang/Object"), (0, u "<init>"), (0, u "()V"), (0, .fieldref 8 9), (0, .class_ 10), (0, .nameAndType 11 12), (0, u "com/example/storewatch/storewatch/graph/NodeQueue"), (0, u "nodes"), (0, u "[I"), (0, .fieldref 8 14), (0, .nameAndType 15 16), (0, u "queued"), (0, u "[Z"), (0, .fieldref 8 18), (0, .nameAndType 19 20), (0, u "everyFrom"), (0, u "I"), (0, .fieldref 8 22), (0, .nameAndType 23 20), (0, u "head"), (0, .fieldref 8 25), (0, .nameAndType 26 20), (0, u "count"), (9, u "poll"), (0, u "()I"), (0, u "(I)V"), (2, u "add"), (2, u "addEvery")] 3

def k2c0 : Code := { maxStack := 2, maxLocals := 2, code := prog_127_method_1_code, exceptionTable := #[], attributes := #[] }
def k2m0 : Method := { name := "<init>", desc := "(I)V", sig := { parameters := [.int], returnType := none }, accessFlags := 1, code := some k2c0 }
def k2c1 : Code := { maxStack := 3, maxLocals := 3, code := prog_127_method_2_code, exceptionTable := #[], attributes := #[] }
def k2m1 : Method := { name := "add", desc := "(I)V", sig := { parameters := [.int], returnType := none }, accessFlags := 1, code := some k2c1 }
def k2c2 : Code := { maxStack := 3, maxLocals := 1, code := prog_127_method_3_code, exceptionTable := #[], attributes := #[] }
def k2m2 : Method := { name := "addEvery", desc := "()V", sig := { parameters := [], returnType := none }, accessFlags := 1, code := some k2c2 }
def k2c3 : Code := { maxStack := 3, maxLocals := 2, code := prog_127_method_4_code, exceptionTable := #[], attributes := #[] }
def k2m3 : Method := { name := "poll", desc := "()I", sig := { parameters := [], returnType := some .int }, accessFlags := 1, code := some k2c3 }
/-- com/example/storewatch/storewatch/graph/NodeQueue -/
def k2 : Class := { plain "com/example/storewatch/storewatch/graph/NodeQueue" (some 0) with
  accessFlags := 49
  interfaces := #[]
  cf := some (fileOf pool2 8 #[] #[{ accessFlags := 1, nameIndex := 5, descriptorIndex := 38, attributes := #[] }, { accessFlags := 1, nameIndex := 41, descriptorIndex := 38, attributes := #[] }, { accessFlags := 1, nameIndex := 44, descriptorIndex := 6, attributes := #[] }, { accessFlags := 1, nameIndex := 36, descriptorIndex := 37, attributes := #[] }] 49 2 #[] #[{ accessFlags := 18, nameIndex := 11, descriptorIndex := 12, attributes := #[] }, { accessFlags := 18, nameIndex := 15, descriptorIndex := 16, attributes := #[] }, { accessFlags := 2, nameIndex := 23, descriptorIndex := 20, attributes := #[] }, { accessFlags := 2, nameIndex := 26, descriptorIndex := 20, attributes := #[] }, { accessFlags := 2, nameIndex := 19, descriptorIndex := 20, attributes := #[] }])
  fields := #[{ name := "nodes", type := (.array .int), accessFlags := 18, slot := 0, constantValue := 0 }, { name := "queued", type := (.array .boolean), accessFlags := 18, slot := 1, constantValue := 0 }, { name := "head", type := .int, accessFlags := 2, slot := 2, constantValue := 0 }, { name := "count", type := .int, accessFlags := 2, slot := 3, constantValue := 0 }, { name := "everyFrom", type := .int, accessFlags := 2, slot := 4, constantValue := 0 }]
  methods := #[k2m0, k2m1, k2m2, k2m3]
  instanceTypes := #[(.array .int), (.array .boolean), .int, .int, .int]
  staticTypes := #[]
  resolved := Array.replicate 48 none
  statics := none }

def pool3 : Array CpInfo := pool [(1, u "java/lang/Cloneable"), (0, .class_ 1), (0, u "java/lang/Object"), (0, .class_ 3)] 3

/-- java/lang/Cloneable -/
def k3 : Class := { plain "java/lang/Cloneable" (some 0) with
  accessFlags := 1537
  interfaces := #[]
  cf := some (fileOf pool3 2 #[] #[] 1537 4 #[] #[])
  fields := #[]
  methods := #[]
  instanceTypes := #[]
  staticTypes := #[]
  resolved := Array.replicate 8 none
  statics := none }

def pool4 : Array CpInfo := pool [(1, u "java/io/Serializable"), (0, .class_ 1), (0, u "java/lang/Object"), (0, .class_ 3)] 3

/-- java/io/Serializable -/
def k4 : Class := { plain "java/io/Serializable" (some 0) with
  accessFlags := 1537
  interfaces := #[]
  cf := some (fileOf pool4 2 #[] #[] 1537 4 #[] #[])
  fields := #[]
  methods := #[]
  instanceTypes := #[]
  staticTypes := #[]
  resolved := Array.replicate 8 none
  statics := none }

/-- the primitive boolean -/
def k5 : Class := { plain "boolean" none with kind := .primitive 'Z', accessFlags := 0x411 }
/-- [Z -/
def k6 : Class := { plain "[Z" (some 0) with kind := .array 5 .boolean, interfaces := #[3, 4], accessFlags := 1041 }

/-- the primitive byte -/
def k7 : Class := { plain "byte" none with kind := .primitive 'B', accessFlags := 0x411 }
/-- [B -/
def k8 : Class := { plain "[B" (some 0) with kind := .array 7 .byte, interfaces := #[3, 4], accessFlags := 1041 }

/-- the primitive int -/
def k9 : Class := { plain "int" none with kind := .primitive 'I', accessFlags := 0x411 }
/-- [I -/
def k10 : Class := { plain "[I" (some 0) with kind := .array 9 .int, interfaces := #[3, 4], accessFlags := 1041 }

def heap : Heap := #[]
def classes : Array Class := #[k0, k1, k2, k3, k4, k5, k6, k7, k8, k9, k10]
def interned : List (Array UInt16 × Addr) := []
def slotsUsed : Nat := 0
def theMethod : MethodId := ⟨1, 5⟩
def args0 : Array Value := #[.int 5, .int 3, .int 2]
def aboutOver (below : List Frame) : State where
  vm := { classes := classes, interned := interned.toArray }
  heap := heap
  slotsUsed := slotsUsed
  threads := #[{ frames := .invoking theMethod args0 :: below }]
def below0 : List Frame := [.native { method := ⟨0, 0⟩, args := #[] }]
def about1 : State := aboutOver below0
def p0 : Program := .bare "" "" ""
def e0 : Env := launch0.env 0 0 0
theorem w_frames : about1.frames = Frame.invoking theMethod args0 :: below0 := rfl
set_option maxRecDepth 65536 in
theorem w_args : argsFit about1.vm theMethod args0 = true := by decide +kernel
set_option maxRecDepth 65536 in
theorem w_heap : heapFits about1 = true := by decide +kernel
set_option maxRecDepth 65536 in
theorem w_runnable : about1.curStatus? = some .runnable := by decide +kernel
set_option maxRecDepth 65536 in
theorem w_alone : about1.alone = true := by decide +kernel
set_option maxRecDepth 65536 in
theorem w_named : about1.methodNamed? x = some theMethod := by decide +kernel
set_option maxRecDepth 65536 in
theorem w_hears : about1.hears theMethod below0 = true := by decide +kernel
set_option maxRecDepth 65536 in
theorem w_ripe : about1.ripe theMethod args0 below0 = true := by decide +kernel
theorem w_running : about1.status = .running := rfl
set_option maxRecDepth 65536 in
theorem w_room : about1.hasRoom e0.platform room_1 = true :=
  launch0.hasRoom_least _ room_1 (by decide +kernel) (by decide +kernel) (by decide +kernel) (by decide +kernel) (by decide +kernel) (by decide +kernel)
theorem allAtoms_all (ts : List Jvm.Cond) (a : Array Jvm.Value) (st : Jvm.State) : (allAtoms ts).before a st = ts.all (fun c => c.before a st) := by
  induction ts with
  | nil => rfl
  | cons c t ih =>
    show (Jvm.Cond.and c (allAtoms t)).before a st = _
    rw [Jvm.Cond.before_and, ih, List.all_cons]
def words1 : List Jvm.Cond := Jvm.Cond.code x code maxLocals ret :: tables_1
/-- a 'code' word, met by the world's own term for the bytes: nothing is compared byte by byte -/
theorem code_word {y : MethodName} {bytes : ByteArray} {mx : Nat} {rt : Option FieldType} {a : Array Value} {s : State} {m : MethodId} {meth : Method} {c : Code} (h1 : s.methodNamed? y = some m) (h2 : s.vm.method? m = some meth) (h3 : meth.code = some c) (h4 : c.code = bytes)
    (h5 : (c.maxLocals == mx && c.exceptionTable.isEmpty && decide (c.maxStack ≤ mostOperands) && decide (meth.sig.returnType = rt) && !meth.locks && decide (parseMethodDescriptor y.desc = some meth.sig)) = true) : (Jvm.Cond.code y bytes mx rt).before a s = true := by
  simp only [Bool.and_eq_true, beq_iff_eq, Bool.not_eq_true', decide_eq_true_eq] at h5
  obtain ⟨⟨⟨⟨⟨g1, g2⟩, g3⟩, g4⟩, g5⟩, g6⟩ := h5
  simp [Cond.before, Cond.holds, Cond.value, h1, h2, h3, h4, g1, g2, g3, g4, g5, g6]
def isCode : Jvm.Cond → Bool
  | .code _ _ _ _ => true
  | _ => false
theorem all_split {L : List Jvm.Cond} {P : Jvm.Cond → Bool} (h1 : L.all (fun c => isCode c || P c) = true) (h2 : ∀ c ∈ L.filter isCode, P c = true) : L.all P = true := by
  refine List.all_eq_true.mpr fun c hc => ?_
  have h := List.all_eq_true.mp h1 c hc
  rcases Bool.eq_false_or_eq_true (isCode c) with hi | hi
  · exact h2 c (List.mem_filter.mpr ⟨hc, hi⟩)
  · simpa [hi] using h
set_option maxRecDepth 65536 in
theorem w_c0 : (Jvm.Cond.code x code maxLocals ret).before args0 about1 = true := code_word (m := ⟨1, 5⟩) (meth := k1m5) (c := k1c5) (by decide +kernel) rfl rfl rfl (by decide +kernel)
set_option maxRecDepth 65536 in
theorem w_c1 : (Jvm.Cond.code ({ cls := "com/example/storewatch/storewatch/graph/NodeQueue", name := "<init>", desc := "(I)V" } : Jvm.MethodName) prog_127_method_1_code (2 : Nat) (Option.none : Option Jvm.ClassFile.FieldType)).before args0 about1 = true := code_word (m := ⟨2, 0⟩) (meth := k2m0) (c := k2c0) (by decide +kernel) rfl rfl rfl (by decide +kernel)
set_option maxRecDepth 65536 in
theorem w_c2 : (Jvm.Cond.code ({ cls := "java/lang/Object", name := "<init>", desc := "()V" } : Jvm.MethodName) object_method_1_code (1 : Nat) (Option.none : Option Jvm.ClassFile.FieldType)).before args0 about1 = true := code_word (m := ⟨0, 0⟩) (meth := k0m0) (c := k0c0) (by decide +kernel) rfl rfl rfl (by decide +kernel)
set_option maxRecDepth 65536 in
theorem w_c3 : (Jvm.Cond.code ({ cls := "com/example/storewatch/storewatch/graph/NodeQueuePollPinLaw", name := "step", desc := "(Lcom/example/storewatch/storewatch/graph/NodeQueue;[IIZI)Z" } : Jvm.MethodName) method_5_code (7 : Nat) (Option.some Jvm.ClassFile.FieldType.boolean)).before args0 about1 = true := code_word (m := ⟨1, 4⟩) (meth := k1m4) (c := k1c4) (by decide +kernel) rfl rfl rfl (by decide +kernel)
set_option maxRecDepth 65536 in
theorem w_c4 : (Jvm.Cond.code ({ cls := "com/example/storewatch/storewatch/graph/NodeQueue", name := "poll", desc := "()I" } : Jvm.MethodName) prog_127_method_4_code (2 : Nat) (Option.some Jvm.ClassFile.FieldType.int)).before args0 about1 = true := code_word (m := ⟨2, 3⟩) (meth := k2m3) (c := k2c3) (by decide +kernel) rfl rfl rfl (by decide +kernel)
set_option maxRecDepth 65536 in
theorem w_c5 : (Jvm.Cond.code ({ cls := "com/example/storewatch/storewatch/graph/NodeQueuePollPinLaw", name := "pop", desc := "([I)I" } : Jvm.MethodName) method_4_code (2 : Nat) (Option.some Jvm.ClassFile.FieldType.int)).before args0 about1 = true := code_word (m := ⟨1, 3⟩) (meth := k1m3) (c := k1c3) (by decide +kernel) rfl rfl rfl (by decide +kernel)
set_option maxRecDepth 65536 in
theorem w_c6 : (Jvm.Cond.code ({ cls := "com/example/storewatch/storewatch/graph/NodeQueue", name := "add", desc := "(I)V" } : Jvm.MethodName) prog_127_method_2_code (3 : Nat) (Option.none : Option Jvm.ClassFile.FieldType)).before args0 about1 = true := code_word (m := ⟨2, 1⟩) (meth := k2m1) (c := k2c1) (by decide +kernel) rfl rfl rfl (by decide +kernel)
set_option maxRecDepth 65536 in
theorem w_c7 : (Jvm.Cond.code ({ cls := "com/example/storewatch/storewatch/graph/NodeQueuePollPinLaw", name := "push", desc := "([II)V" } : Jvm.MethodName) method_3_code (2 : Nat) (Option.none : Option Jvm.ClassFile.FieldType)).before args0 about1 = true := code_word (m := ⟨1, 2⟩) (meth := k1m2) (c := k1c2) (by decide +kernel) rfl rfl rfl (by decide +kernel)
set_option maxRecDepth 65536 in
theorem w_c8 : (Jvm.Cond.code ({ cls := "com/example/storewatch/storewatch/graph/NodeQueuePollPinLaw", name := "has", desc := "([II)Z" } : Jvm.MethodName) method_2_code (3 : Nat) (Option.some Jvm.ClassFile.FieldType.boolean)).before args0 about1 = true := code_word (m := ⟨1, 1⟩) (meth := k1m1) (c := k1c1) (by decide +kernel) rfl rfl rfl (by decide +kernel)
set_option maxRecDepth 65536 in
theorem w_c9 : (Jvm.Cond.code ({ cls := "com/example/storewatch/storewatch/graph/NodeQueue", name := "addEvery", desc := "()V" } : Jvm.MethodName) prog_127_method_3_code (1 : Nat) (Option.none : Option Jvm.ClassFile.FieldType)).before args0 about1 = true := code_word (m := ⟨2, 2⟩) (meth := k2m2) (c := k2c2) (by decide +kernel) rfl rfl rfl (by decide +kernel)
def codes1 : List Jvm.Cond := [Jvm.Cond.code x code maxLocals ret, Jvm.Cond.code ({ cls := "com/example/storewatch/storewatch/graph/NodeQueue", name := "<init>", desc := "(I)V" } : Jvm.MethodName) prog_127_method_1_code (2 : Nat) (Option.none : Option Jvm.ClassFile.FieldType), Jvm.Cond.code ({ cls := "java/lang/Object", name := "<init>", desc := "()V" } : Jvm.MethodName) object_method_1_code (1 : Nat) (Option.none : Option Jvm.ClassFile.FieldType), Jvm.Cond.code ({ cls := "com/example/storewatch/storewatch/graph/NodeQueuePollPinLaw", name := "step", desc := "(Lcom/example/storewatch/storewatch/graph/NodeQueue;[IIZI)Z" } : Jvm.MethodName) method_5_code (7 : Nat) (Option.some Jvm.ClassFile.FieldType.boolean), Jvm.Cond.code ({ cls := "com/example/storewatch/storewatch/graph/NodeQueue", name := "poll", desc := "()I" } : Jvm.MethodName) prog_127_method_4_code (2 : Nat) (Option.some Jvm.ClassFile.FieldType.int), Jvm.Cond.code ({ cls := "com/example/storewatch/storewatch/graph/NodeQueuePollPinLaw", name := "pop", desc := "([I)I" } : Jvm.MethodName) method_4_code (2 : Nat) (Option.some Jvm.ClassFile.FieldType.int), Jvm.Cond.code ({ cls := "com/example/storewatch/storewatch/graph/NodeQueue", name := "add", desc := "(I)V" } : Jvm.MethodName) prog_127_method_2_code (3 : Nat) (Option.none : Option Jvm.ClassFile.FieldType), Jvm.Cond.code ({ cls := "com/example/storewatch/storewatch/graph/NodeQueuePollPinLaw", name := "push", desc := "([II)V" } : Jvm.MethodName) method_3_code (2 : Nat) (Option.none : Option Jvm.ClassFile.FieldType), Jvm.Cond.code ({ cls := "com/example/storewatch/storewatch/graph/NodeQueuePollPinLaw", name := "has", desc := "([II)Z" } : Jvm.MethodName) method_2_code (3 : Nat) (Option.some Jvm.ClassFile.FieldType.boolean), Jvm.Cond.code ({ cls := "com/example/storewatch/storewatch/graph/NodeQueue", name := "addEvery", desc := "()V" } : Jvm.MethodName) prog_127_method_3_code (1 : Nat) (Option.none : Option Jvm.ClassFile.FieldType)]
set_option maxRecDepth 65536 in
theorem codes_eq : words1.filter isCode = codes1 := rfl
theorem w_codes : ∀ c ∈ words1.filter isCode, c.before args0 about1 = true := by
  rw [codes_eq]
  intro c hc
  simp only [codes1, List.mem_cons, List.not_mem_nil, or_false] at hc
  rcases hc with rfl | rfl | rfl | rfl | rfl | rfl | rfl | rfl | rfl | rfl
  · exact w_c0
  · exact w_c1
  · exact w_c2
  · exact w_c3
  · exact w_c4
  · exact w_c5
  · exact w_c6
  · exact w_c7
  · exact w_c8
  · exact w_c9
set_option maxRecDepth 65536 in
theorem w_t1 : (words1.take 24).all (fun c => isCode c || c.before args0 about1) = true := by decide +kernel
set_option maxRecDepth 65536 in
theorem w_t2 : ((words1.drop 24).take 24).all (fun c => isCode c || c.before args0 about1) = true := by decide +kernel
set_option maxRecDepth 65536 in
theorem w_t3 : ((words1.drop 24).drop 24).all (fun c => isCode c || c.before args0 about1) = true := by decide +kernel
theorem w_tables : (allAtoms (Jvm.Cond.code x code maxLocals ret :: tables_1)).before args0 about1 = true := by
  rw [allAtoms_all]
  show words1.all (fun c => c.before args0 about1) = true
  refine all_split ?_ w_codes
  rw [← List.take_append_drop 24 words1, List.all_append, w_t1, ← List.take_append_drop 24 (words1.drop 24), List.all_append, w_t2, w_t3]
  rfl
set_option maxRecDepth 65536 in
theorem w_case : (Jvm.Cond.and given_1 narrow_1).before args0 about1 = true := by decide +kernel
theorem w_applies : (headSpec (Jvm.Cond.code x code maxLocals ret :: tables_1) room_1).applies x e0.platform about1 = true :=
  (Spec.applies_iff w_frames).mpr ⟨w_running, w_runnable, w_alone, w_named, w_hears, w_ripe, w_room, w_tables⟩
theorem atStart : AtStart classFile x code maxLocals ret World_1 tables_1 room_1 Calls_1 rest_1 Pre_1 launch0 p0 e0 about1 theMethod args0 below0 :=
  ⟨lists_1, trivial, launch0.admits_env _ _ _, launch0.least_env, fairChoices_fair.cas, fairChoices_fair.clock, w_frames, w_args, w_heap, w_applies, trivial, trivial, w_case⟩
end start1
theorem witness_1 : WitnessClaimed_1 := ⟨start1.p0, start1.e0, start1.about1, start1.theMethod, start1.args0, start1.below0, start1.atStart⟩
end Jvm.Pilot.@@N@@
