import JvmDerived
import JvmDerived.Pilot.@@N@@Statement
import JvmDerived.Pilot.@@N@@Code
set_option linter.unusedVariables false
set_option linter.unusedSimpArgs false
@@BLOCK:NumsL.lean.txt@@
namespace Jvm.Pilot.@@N@@
open Jvm Jvm.ClassFile Sem Op Lib Jvm.Free Jvm.Stand Jvm.LawKit Jvm.RoadKit Bundle Jvm.Pilot.@@N@@.Jvm.D
abbrev oI (x : Int32) : Slot := .val (.int x)
abbrev oJ (x : Int64) : Slot := .val (.long x)
abbrev oA (x : Addr) : Slot := .val (.ref x)
abbrev oN : Slot := .val .null
abbrev oU : Slot := .unset
abbrev oS : Slot := .second
theorem own_w {Z : State} {a0 : Array Value} (hw : ∀ d ∈ tables_1, d.before a0 Z = true) (i : Nat) {d : Jvm.Cond} (h : tables_1[i]? = some d) : d.before a0 Z = true := hw d (List.mem_of_getElem? h)
section Own
variable {p : Program} {l : Launch} {e : Env} {R : Room} {s : State} {m : MethodId} {args : Array Value} {below : List Frame} {meth : Method} {c : Code} {T : State} {locs : List Loc} {cells slots : Nat} {P : State → Outcome → Prop} {pc : Nat} {ls : Array Slot} {st : List Value} {Z : State} {a0 : Array Value} {h : Heap} {bytes : ByteArray}
/-- the run goes on from A and ends so that P holds -/
def Go (p : Program) (e : Env) (below : List Frame) (P : State → Outcome → Prop) (A : State) : Prop := ∃ s₂ o, Steps p.tables e below A s₂ ∧ P s₂ o
theorem own_go {A A' : State} (h : ∀ t, Steps p.tables e below A' t → Steps p.tables e below A t) (k : Go p e below P A') : Go p e below P A := by
  obtain ⟨s₂, o, h1, h2⟩ := k
  exact ⟨s₂, o, h _ h1, h2⟩
/-! loads, stores, constants -/
theorem own_iload_n (pc' : Nat) (X : Stand p l e R s m args below meth c T locs cells slots) (hx : p.tables.exec = Jvm.exec) (hby : c.code = bytes) {k : Fin 4} {v : Int32} (hd : decode bytes pc = .ok (.iload_n k, 1)) (hp : pc + 1 = pc') (hl : ls[k.val]? = some (.val (.int v))) (r : Go p e below P (T.setTop (mkF m pc' ls (.int v :: st)))) : Go p e below P (T.setTop (mkF m pc ls st)) := by
  subst hp; exact own_go (fun t q => XS.iloadN X.here hx rfl (hb hby hd) hl q) r
theorem own_iload (pc' : Nat) (X : Stand p l e R s m args below meth c T locs cells slots) (hx : p.tables.exec = Jvm.exec) (hby : c.code = bytes) {k : Nat} {v : Int32} (hd : decode bytes pc = .ok (.iload k, 2)) (hp : pc + 2 = pc') (hl : ls[k]? = some (.val (.int v))) (r : Go p e below P (T.setTop (mkF m pc' ls (.int v :: st)))) : Go p e below P (T.setTop (mkF m pc ls st)) := by
  subst hp; exact own_go (fun t q => XS.iload X.here hx rfl (hb hby hd) hl q) r
theorem own_lload_n (pc' : Nat) (X : Stand p l e R s m args below meth c T locs cells slots) (hx : p.tables.exec = Jvm.exec) (hby : c.code = bytes) {k : Fin 4} {v : Int64} (hd : decode bytes pc = .ok (.lload_n k, 1)) (hp : pc + 1 = pc') (hl : ls[k.val]? = some (.val (.long v))) (r : Go p e below P (T.setTop (mkF m pc' ls (.long v :: st)))) : Go p e below P (T.setTop (mkF m pc ls st)) := by
  subst hp; exact own_go (fun t q => XT.lloadN X.here hx rfl (hb hby hd) hl q) r
theorem own_lload (pc' : Nat) (X : Stand p l e R s m args below meth c T locs cells slots) (hx : p.tables.exec = Jvm.exec) (hby : c.code = bytes) {k : Nat} {v : Int64} (hd : decode bytes pc = .ok (.lload k, 2)) (hp : pc + 2 = pc') (hl : ls[k]? = some (.val (.long v))) (r : Go p e below P (T.setTop (mkF m pc' ls (.long v :: st)))) : Go p e below P (T.setTop (mkF m pc ls st)) := by
  subst hp; exact own_go (fun t q => XT.lload X.here hx rfl (hb hby hd) hl q) r
theorem own_aload_n (pc' : Nat) (X : Stand p l e R s m args below meth c T locs cells slots) (hx : p.tables.exec = Jvm.exec) (hby : c.code = bytes) {k : Fin 4} {v : Value} (hd : decode bytes pc = .ok (.aload_n k, 1)) (hp : pc + 1 = pc') (hl : ls[k.val]? = some (.val v)) (hv : v.isRef = true) (r : Go p e below P (T.setTop (mkF m pc' ls (v :: st)))) : Go p e below P (T.setTop (mkF m pc ls st)) := by
  subst hp; exact own_go (fun t q => XS.aloadN X.here hx rfl (hb hby hd) hl hv q) r
theorem own_aload (pc' : Nat) (X : Stand p l e R s m args below meth c T locs cells slots) (hx : p.tables.exec = Jvm.exec) (hby : c.code = bytes) {k : Nat} {v : Value} (hd : decode bytes pc = .ok (.aload k, 2)) (hp : pc + 2 = pc') (hl : ls[k]? = some (.val v)) (hv : v.isRef = true) (r : Go p e below P (T.setTop (mkF m pc' ls (v :: st)))) : Go p e below P (T.setTop (mkF m pc ls st)) := by
  subst hp; exact own_go (fun t q => XS.aload X.here hx rfl (hb hby hd) hl hv q) r
theorem own_istore_n (pc' : Nat) (l' : Array Slot) (X : Stand p l e R s m args below meth c T locs cells slots) (hx : p.tables.exec = Jvm.exec) (hby : c.code = bytes) {k : Fin 4} {v : Int32} (hd : decode bytes pc = .ok (.istore_n k, 1)) (hp : pc + 1 = pc') (hl : storeLocals ls k.val (.int v) = some l') (r : Go p e below P (T.setTop (mkF m pc' l' st))) : Go p e below P (T.setTop (mkF m pc ls (.int v :: st))) := by
  subst hp; exact own_go (fun t q => XS.istoreN X.here hx rfl (hb hby hd) rfl hl q) r
theorem own_istore (pc' : Nat) (l' : Array Slot) (X : Stand p l e R s m args below meth c T locs cells slots) (hx : p.tables.exec = Jvm.exec) (hby : c.code = bytes) {k : Nat} {v : Int32} (hd : decode bytes pc = .ok (.istore k, 2)) (hp : pc + 2 = pc') (hl : storeLocals ls k (.int v) = some l') (r : Go p e below P (T.setTop (mkF m pc' l' st))) : Go p e below P (T.setTop (mkF m pc ls (.int v :: st))) := by
  subst hp; exact own_go (fun t q => XS.istore X.here hx rfl (hb hby hd) rfl hl q) r
theorem own_lstore_n (pc' : Nat) (l' : Array Slot) (X : Stand p l e R s m args below meth c T locs cells slots) (hx : p.tables.exec = Jvm.exec) (hby : c.code = bytes) {k : Fin 4} {v : Int64} (hd : decode bytes pc = .ok (.lstore_n k, 1)) (hp : pc + 1 = pc') (hl : storeLocals ls k.val (.long v) = some l') (r : Go p e below P (T.setTop (mkF m pc' l' st))) : Go p e below P (T.setTop (mkF m pc ls (.long v :: st))) := by
  subst hp; exact own_go (fun t q => XT.lstoreN X.here hx rfl (hb hby hd) rfl hl q) r
theorem own_lstore (pc' : Nat) (l' : Array Slot) (X : Stand p l e R s m args below meth c T locs cells slots) (hx : p.tables.exec = Jvm.exec) (hby : c.code = bytes) {k : Nat} {v : Int64} (hd : decode bytes pc = .ok (.lstore k, 2)) (hp : pc + 2 = pc') (hl : storeLocals ls k (.long v) = some l') (r : Go p e below P (T.setTop (mkF m pc' l' st))) : Go p e below P (T.setTop (mkF m pc ls (.long v :: st))) := by
  subst hp; exact own_go (fun t q => XT.lstore X.here hx rfl (hb hby hd) rfl hl q) r
theorem own_astore_n (pc' : Nat) (l' : Array Slot) (X : Stand p l e R s m args below meth c T locs cells slots) (hx : p.tables.exec = Jvm.exec) (hby : c.code = bytes) {k : Fin 4} {v : Value} (hd : decode bytes pc = .ok (.astore_n k, 1)) (hp : pc + 1 = pc') (hv : v.isRef = true) (hl : storeLocals ls k.val v = some l') (r : Go p e below P (T.setTop (mkF m pc' l' st))) : Go p e below P (T.setTop (mkF m pc ls (v :: st))) := by
  subst hp; exact own_go (fun t q => XS.astoreN X.here hx rfl (hb hby hd) rfl hv hl q) r
theorem own_astore (pc' : Nat) (l' : Array Slot) (X : Stand p l e R s m args below meth c T locs cells slots) (hx : p.tables.exec = Jvm.exec) (hby : c.code = bytes) {k : Nat} {v : Value} (hd : decode bytes pc = .ok (.astore k, 2)) (hp : pc + 2 = pc') (hv : v.isRef = true) (hl : storeLocals ls k v = some l') (r : Go p e below P (T.setTop (mkF m pc' l' st))) : Go p e below P (T.setTop (mkF m pc ls (v :: st))) := by
  subst hp; exact own_go (fun t q => XS.astore X.here hx rfl (hb hby hd) rfl hv hl q) r
theorem own_iconst (pc' : Nat) (w : Int32) (X : Stand p l e R s m args below meth c T locs cells slots) (hx : p.tables.exec = Jvm.exec) (hby : c.code = bytes) {i : Int} (hd : decode bytes pc = .ok (.iconst i, 1)) (hp : pc + 1 = pc') (hw : Int32.ofInt i = w) (r : Go p e below P (T.setTop (mkF m pc' ls (.int w :: st)))) : Go p e below P (T.setTop (mkF m pc ls st)) := by
  subst hp hw; exact own_go (fun t q => XS.iconst X.here hx rfl (hb hby hd) q) r
theorem own_bipush (pc' : Nat) (w : Int32) (X : Stand p l e R s m args below meth c T locs cells slots) (hx : p.tables.exec = Jvm.exec) (hby : c.code = bytes) {i : Int} (hd : decode bytes pc = .ok (.bipush i, 2)) (hp : pc + 2 = pc') (hw : (Int8.ofInt i).toInt32 = w) (r : Go p e below P (T.setTop (mkF m pc' ls (.int w :: st)))) : Go p e below P (T.setTop (mkF m pc ls st)) := by
  subst hp hw; exact own_go (fun t q => XS.bipush X.here hx rfl (hb hby hd) q) r
theorem own_sipush (pc' : Nat) (w : Int32) (X : Stand p l e R s m args below meth c T locs cells slots) (hx : p.tables.exec = Jvm.exec) (hby : c.code = bytes) {i : Int} (hd : decode bytes pc = .ok (.sipush i, 3)) (hp : pc + 3 = pc') (hw : (Int16.ofInt i).toInt32 = w) (r : Go p e below P (T.setTop (mkF m pc' ls (.int w :: st)))) : Go p e below P (T.setTop (mkF m pc ls st)) := by
  subst hp hw; exact own_go (fun t q => XS.sipush X.here hx rfl (hb hby hd) q) r
theorem own_lconst (pc' : Nat) (w : Int64) (X : Stand p l e R s m args below meth c T locs cells slots) (hx : p.tables.exec = Jvm.exec) (hby : c.code = bytes) {k : Fin 2} (hd : decode bytes pc = .ok (.lconst k, 1)) (hp : pc + 1 = pc') (hw : Int64.ofNat k = w) (r : Go p e below P (T.setTop (mkF m pc' ls (.long w :: st)))) : Go p e below P (T.setTop (mkF m pc ls st)) := by
  subst hp hw; exact own_go (fun t q => XT.lconst X.here hx rfl (hb hby hd) q) r
theorem own_null (pc' : Nat) (X : Stand p l e R s m args below meth c T locs cells slots) (hx : p.tables.exec = Jvm.exec) (hby : c.code = bytes) (hd : decode bytes pc = .ok (.aconst_null, 1)) (hp : pc + 1 = pc') (r : Go p e below P (T.setTop (mkF m pc' ls (.null :: st)))) : Go p e below P (T.setTop (mkF m pc ls st)) := by
  subst hp; exact own_go (fun t q => XS.aconstNull X.here hx rfl (hb hby hd) q) r
theorem own_ldc (pc' : Nat) (X : Stand p l e R s m args below meth c T locs cells slots) (hx : p.tables.exec = Jvm.exec) (hby : c.code = bytes) (hZ : Z.Warmed39 s.vm) {own : String} {index : Nat} {v : Int32} (hown : s.vm.findClass own = some m.cls) (w : (Cond.constant own index v).before a0 Z = true) (hd : decode bytes pc = .ok (.ldc index, 2)) (hp : pc + 2 = pc') (r : Go p e below P (T.setTop (mkF m pc' ls (.int v :: st)))) : Go p e below P (T.setTop (mkF m pc ls st)) := by
  subst hp; exact own_go (fun t q => X.ldcI hx hown (mvT hZ w) rfl (hb hby hd) q) r
theorem own_ldc2 (pc' : Nat) (X : Stand p l e R s m args below meth c T locs cells slots) (hx : p.tables.exec = Jvm.exec) (hby : c.code = bytes) (hZ : Z.Warmed39 s.vm) {own : String} {index : Nat} {v : Int64} (hown : s.vm.findClass own = some m.cls) (w : (Cond.constantLong own index v).before a0 Z = true) (hd : decode bytes pc = .ok (.ldc2_w index, 3)) (hp : pc + 3 = pc') (r : Go p e below P (T.setTop (mkF m pc' ls (.long v :: st)))) : Go p e below P (T.setTop (mkF m pc ls st)) := by
  subst hp; exact own_go (fun t q => X.ldc2J hx hown (mvT hZ w) rfl (hb hby hd) q) r
/-! arithmetic -/
theorem own_iadd (pc' : Nat) (w : Int32) (X : Stand p l e R s m args below meth c T locs cells slots) (hx : p.tables.exec = Jvm.exec) (hby : c.code = bytes) {x y : Int32} (hd : decode bytes pc = .ok (.iadd, 1)) (hp : pc + 1 = pc') (hw : x + y = w) (r : Go p e below P (T.setTop (mkF m pc' ls (.int w :: st)))) : Go p e below P (T.setTop (mkF m pc ls (.int y :: .int x :: st))) := by
  subst hp hw; exact own_go (fun t q => XS.iadd X.here hx rfl (hb hby hd) rfl q) r
theorem own_isub (pc' : Nat) (w : Int32) (X : Stand p l e R s m args below meth c T locs cells slots) (hx : p.tables.exec = Jvm.exec) (hby : c.code = bytes) {x y : Int32} (hd : decode bytes pc = .ok (.isub, 1)) (hp : pc + 1 = pc') (hw : x - y = w) (r : Go p e below P (T.setTop (mkF m pc' ls (.int w :: st)))) : Go p e below P (T.setTop (mkF m pc ls (.int y :: .int x :: st))) := by
  subst hp hw; exact own_go (fun t q => XS.isub X.here hx rfl (hb hby hd) rfl q) r
theorem own_imul (pc' : Nat) (w : Int32) (X : Stand p l e R s m args below meth c T locs cells slots) (hx : p.tables.exec = Jvm.exec) (hby : c.code = bytes) {x y : Int32} (hd : decode bytes pc = .ok (.imul, 1)) (hp : pc + 1 = pc') (hw : x * y = w) (r : Go p e below P (T.setTop (mkF m pc' ls (.int w :: st)))) : Go p e below P (T.setTop (mkF m pc ls (.int y :: .int x :: st))) := by
  subst hp hw; exact own_go (fun t q => XS.imul X.here hx rfl (hb hby hd) rfl q) r
theorem own_idiv (pc' : Nat) (w : Int32) (X : Stand p l e R s m args below meth c T locs cells slots) (hx : p.tables.exec = Jvm.exec) (hby : c.code = bytes) {x y : Int32} (hd : decode bytes pc = .ok (.idiv, 1)) (hp : pc + 1 = pc') (hy : y ≠ 0) (hw : x / y = w) (r : Go p e below P (T.setTop (mkF m pc' ls (.int w :: st)))) : Go p e below P (T.setTop (mkF m pc ls (.int y :: .int x :: st))) := by
  subst hp hw; exact own_go (fun t q => XS.idiv X.here hx rfl (hb hby hd) rfl hy q) r
theorem own_irem (pc' : Nat) (w : Int32) (X : Stand p l e R s m args below meth c T locs cells slots) (hx : p.tables.exec = Jvm.exec) (hby : c.code = bytes) {x y : Int32} (hd : decode bytes pc = .ok (.irem, 1)) (hp : pc + 1 = pc') (hy : y ≠ 0) (hw : x % y = w) (r : Go p e below P (T.setTop (mkF m pc' ls (.int w :: st)))) : Go p e below P (T.setTop (mkF m pc ls (.int y :: .int x :: st))) := by
  subst hp hw; exact own_go (fun t q => iremM X hx rfl (hb hby hd) rfl hy q) r
theorem own_iand (pc' : Nat) (w : Int32) (X : Stand p l e R s m args below meth c T locs cells slots) (hx : p.tables.exec = Jvm.exec) (hby : c.code = bytes) {x y : Int32} (hd : decode bytes pc = .ok (.iand, 1)) (hp : pc + 1 = pc') (hw : x &&& y = w) (r : Go p e below P (T.setTop (mkF m pc' ls (.int w :: st)))) : Go p e below P (T.setTop (mkF m pc ls (.int y :: .int x :: st))) := by
  subst hp hw; exact own_go (fun t q => XS.iand X.here hx rfl (hb hby hd) rfl q) r
theorem own_ishr (pc' : Nat) (w : Int32) (X : Stand p l e R s m args below meth c T locs cells slots) (hx : p.tables.exec = Jvm.exec) (hby : c.code = bytes) {x y : Int32} (hd : decode bytes pc = .ok (.ishr, 1)) (hp : pc + 1 = pc') (hw : x >>> (y &&& 31) = w) (r : Go p e below P (T.setTop (mkF m pc' ls (.int w :: st)))) : Go p e below P (T.setTop (mkF m pc ls (.int y :: .int x :: st))) := by
  subst hp hw; exact own_go (fun t q => XT.ishr X.here hx rfl (hb hby hd) rfl q) r
theorem own_iushr (pc' : Nat) (w : Int32) (X : Stand p l e R s m args below meth c T locs cells slots) (hx : p.tables.exec = Jvm.exec) (hby : c.code = bytes) {x y : Int32} (hd : decode bytes pc = .ok (.iushr, 1)) (hp : pc + 1 = pc') (hw : XT.ushr x y = w) (r : Go p e below P (T.setTop (mkF m pc' ls (.int w :: st)))) : Go p e below P (T.setTop (mkF m pc ls (.int y :: .int x :: st))) := by
  subst hp hw; exact own_go (fun t q => XT.iushr X.here hx rfl (hb hby hd) rfl q) r
theorem own_ladd (pc' : Nat) (w : Int64) (X : Stand p l e R s m args below meth c T locs cells slots) (hx : p.tables.exec = Jvm.exec) (hby : c.code = bytes) {x y : Int64} (hd : decode bytes pc = .ok (.ladd, 1)) (hp : pc + 1 = pc') (hw : x + y = w) (r : Go p e below P (T.setTop (mkF m pc' ls (.long w :: st)))) : Go p e below P (T.setTop (mkF m pc ls (.long y :: .long x :: st))) := by
  subst hp hw; exact own_go (fun t q => XT.ladd X.here hx rfl (hb hby hd) rfl q) r
theorem own_lsub (pc' : Nat) (w : Int64) (X : Stand p l e R s m args below meth c T locs cells slots) (hx : p.tables.exec = Jvm.exec) (hby : c.code = bytes) {x y : Int64} (hd : decode bytes pc = .ok (.lsub, 1)) (hp : pc + 1 = pc') (hw : x - y = w) (r : Go p e below P (T.setTop (mkF m pc' ls (.long w :: st)))) : Go p e below P (T.setTop (mkF m pc ls (.long y :: .long x :: st))) := by
  subst hp hw; exact own_go (fun t q => XT.lsub X.here hx rfl (hb hby hd) rfl q) r
theorem own_lmul (pc' : Nat) (w : Int64) (X : Stand p l e R s m args below meth c T locs cells slots) (hx : p.tables.exec = Jvm.exec) (hby : c.code = bytes) {x y : Int64} (hd : decode bytes pc = .ok (.lmul, 1)) (hp : pc + 1 = pc') (hw : x * y = w) (r : Go p e below P (T.setTop (mkF m pc' ls (.long w :: st)))) : Go p e below P (T.setTop (mkF m pc ls (.long y :: .long x :: st))) := by
  subst hp hw; exact own_go (fun t q => XT.lmul X.here hx rfl (hb hby hd) rfl q) r
theorem own_ldiv (pc' : Nat) (w : Int64) (X : Stand p l e R s m args below meth c T locs cells slots) (hx : p.tables.exec = Jvm.exec) (hby : c.code = bytes) {x y : Int64} (hd : decode bytes pc = .ok (.ldiv, 1)) (hp : pc + 1 = pc') (hy : y ≠ 0) (hw : x / y = w) (r : Go p e below P (T.setTop (mkF m pc' ls (.long w :: st)))) : Go p e below P (T.setTop (mkF m pc ls (.long y :: .long x :: st))) := by
  subst hp hw; exact own_go (fun t q => XT.ldiv X.here hx rfl (hb hby hd) rfl hy q) r
theorem own_lrem (pc' : Nat) (w : Int64) (X : Stand p l e R s m args below meth c T locs cells slots) (hx : p.tables.exec = Jvm.exec) (hby : c.code = bytes) {x y : Int64} (hd : decode bytes pc = .ok (.lrem, 1)) (hp : pc + 1 = pc') (hy : y ≠ 0) (hw : x - (x / y) * y = w) (r : Go p e below P (T.setTop (mkF m pc' ls (.long w :: st)))) : Go p e below P (T.setTop (mkF m pc ls (.long y :: .long x :: st))) := by
  subst hp hw; exact own_go (fun t q => XT.lrem X.here hx rfl (hb hby hd) rfl hy q) r
theorem own_land (pc' : Nat) (w : Int64) (X : Stand p l e R s m args below meth c T locs cells slots) (hx : p.tables.exec = Jvm.exec) (hby : c.code = bytes) {x y : Int64} (hd : decode bytes pc = .ok (.land, 1)) (hp : pc + 1 = pc') (hw : x &&& y = w) (r : Go p e below P (T.setTop (mkF m pc' ls (.long w :: st)))) : Go p e below P (T.setTop (mkF m pc ls (.long y :: .long x :: st))) := by
  subst hp hw; exact own_go (fun t q => XT.land X.here hx rfl (hb hby hd) rfl q) r
theorem own_lushr (pc' : Nat) (w : Int64) (X : Stand p l e R s m args below meth c T locs cells slots) (hx : p.tables.exec = Jvm.exec) (hby : c.code = bytes) {x : Int64} {y : Int32} (hd : decode bytes pc = .ok (.lushr, 1)) (hp : pc + 1 = pc') (hw : XT.ushrL x y = w) (r : Go p e below P (T.setTop (mkF m pc' ls (.long w :: st)))) : Go p e below P (T.setTop (mkF m pc ls (.int y :: .long x :: st))) := by
  subst hp hw; exact own_go (fun t q => XT.lushr X.here hx rfl (hb hby hd) rfl q) r
theorem own_i2l (pc' : Nat) (w : Int64) (X : Stand p l e R s m args below meth c T locs cells slots) (hx : p.tables.exec = Jvm.exec) (hby : c.code = bytes) {x : Int32} (hd : decode bytes pc = .ok (.i2l, 1)) (hp : pc + 1 = pc') (hw : x.toInt64 = w) (r : Go p e below P (T.setTop (mkF m pc' ls (.long w :: st)))) : Go p e below P (T.setTop (mkF m pc ls (.int x :: st))) := by
  subst hp hw; exact own_go (fun t q => XT.i2l X.here hx rfl (hb hby hd) rfl q) r
theorem own_l2i (pc' : Nat) (w : Int32) (X : Stand p l e R s m args below meth c T locs cells slots) (hx : p.tables.exec = Jvm.exec) (hby : c.code = bytes) {x : Int64} (hd : decode bytes pc = .ok (.l2i, 1)) (hp : pc + 1 = pc') (hw : x.toInt32 = w) (r : Go p e below P (T.setTop (mkF m pc' ls (.int w :: st)))) : Go p e below P (T.setTop (mkF m pc ls (.long x :: st))) := by
  subst hp hw; exact own_go (fun t q => XT.l2i X.here hx rfl (hb hby hd) rfl q) r
theorem own_lcmp (pc' : Nat) (w : Int32) (X : Stand p l e R s m args below meth c T locs cells slots) (hx : p.tables.exec = Jvm.exec) (hby : c.code = bytes) {x y : Int64} (hd : decode bytes pc = .ok (.lcmp, 1)) (hp : pc + 1 = pc') (hw : XT.cmpL x y = w) (r : Go p e below P (T.setTop (mkF m pc' ls (.int w :: st)))) : Go p e below P (T.setTop (mkF m pc ls (.long y :: .long x :: st))) := by
  subst hp hw; exact own_go (fun t q => XT.lcmp X.here hx rfl (hb hby hd) rfl q) r
theorem own_iinc (pc' : Nat) (l' : Array Slot) (X : Stand p l e R s m args below meth c T locs cells slots) (hx : p.tables.exec = Jvm.exec) (hby : c.code = bytes) {k : Nat} {i : Int} {x : Int32} (hd : decode bytes pc = .ok (.iinc k i, 3)) (hp : pc + 3 = pc') (hl : ls[k]? = some (.val (.int x))) (hl' : storeLocals ls k (.int (x + Int32.ofInt i)) = some l') (r : Go p e below P (T.setTop (mkF m pc' l' st))) : Go p e below P (T.setTop (mkF m pc ls st)) := by
  subst hp; exact own_go (fun t q => XS.iinc X.here hx rfl (hb hby hd) hl hl' q) r
theorem own_dup (pc' : Nat) (X : Stand p l e R s m args below meth c T locs cells slots) (hx : p.tables.exec = Jvm.exec) (hby : c.code = bytes) {v : Value} (hd : decode bytes pc = .ok (.dup, 1)) (hp : pc + 1 = pc') (hc : v.category = 1) (r : Go p e below P (T.setTop (mkF m pc' ls (v :: v :: st)))) : Go p e below P (T.setTop (mkF m pc ls (v :: st))) := by
  subst hp; exact own_go (fun t q => XS.dup X.here hx rfl (hb hby hd) rfl hc q) r
theorem own_pop (pc' : Nat) (X : Stand p l e R s m args below meth c T locs cells slots) (hx : p.tables.exec = Jvm.exec) (hby : c.code = bytes) {v : Value} (hd : decode bytes pc = .ok (.pop, 1)) (hp : pc + 1 = pc') (hc : v.category = 1) (r : Go p e below P (T.setTop (mkF m pc' ls st))) : Go p e below P (T.setTop (mkF m pc ls (v :: st))) := by
  subst hp; exact own_go (fun t q => XT.pop X.here hx rfl (hb hby hd) rfl hc q) r
/-! branches -/
theorem own_goto (pc' : Nat) (X : Stand p l e R s m args below meth c T locs cells slots) (hx : p.tables.exec = Jvm.exec) (hby : c.code = bytes) {o : Int} (hd : decode bytes pc = .ok (.goto o, 3)) (ho : 0 ≤ (pc : Int) + o) (hp : ((pc : Int) + o).toNat = pc') (r : Go p e below P (T.setTop (mkF m pc' ls st))) : Go p e below P (T.setTop (mkF m pc ls st)) :=
  own_go (fun t q => XS.goto X.here hx rfl rfl (hb hby hd) ho hp q) r
theorem own_ifY (pc' : Nat) (X : Stand p l e R s m args below meth c T locs cells slots) (hx : p.tables.exec = Jvm.exec) (hby : c.code = bytes) {cd : ClassFile.Cond} {x : Int32} {o : Int} (hd : decode bytes pc = .ok (.ifCond cd o, 3)) (ho : 0 ≤ (pc : Int) + o) (hp : ((pc : Int) + o).toNat = pc') (hc : ifCond.holds cd x = true) (r : Go p e below P (T.setTop (mkF m pc' ls st))) : Go p e below P (T.setTop (mkF m pc ls (.int x :: st))) :=
  own_go (fun t q => XS.ifYes X.here hx rfl rfl (hb hby hd) rfl hc ho hp q) r
theorem own_ifN (pc' : Nat) (X : Stand p l e R s m args below meth c T locs cells slots) (hx : p.tables.exec = Jvm.exec) (hby : c.code = bytes) {cd : ClassFile.Cond} {x : Int32} {o : Int} (hd : decode bytes pc = .ok (.ifCond cd o, 3)) (hp : pc + 3 = pc') (hc : ifCond.holds cd x = false) (r : Go p e below P (T.setTop (mkF m pc' ls st))) : Go p e below P (T.setTop (mkF m pc ls (.int x :: st))) := by
  subst hp; exact own_go (fun t q => XS.ifNo X.here hx rfl (hb hby hd) rfl hc q) r
theorem own_icY (pc' : Nat) (X : Stand p l e R s m args below meth c T locs cells slots) (hx : p.tables.exec = Jvm.exec) (hby : c.code = bytes) {cd : ClassFile.Cond} {x y : Int32} {o : Int} (hd : decode bytes pc = .ok (.if_icmp cd o, 3)) (ho : 0 ≤ (pc : Int) + o) (hp : ((pc : Int) + o).toNat = pc') (hc : if_icmp.holds cd x y = true) (r : Go p e below P (T.setTop (mkF m pc' ls st))) : Go p e below P (T.setTop (mkF m pc ls (.int y :: .int x :: st))) :=
  own_go (fun t q => XS.icmpYes X.here hx rfl rfl (hb hby hd) rfl hc ho hp q) r
theorem own_icN (pc' : Nat) (X : Stand p l e R s m args below meth c T locs cells slots) (hx : p.tables.exec = Jvm.exec) (hby : c.code = bytes) {cd : ClassFile.Cond} {x y : Int32} {o : Int} (hd : decode bytes pc = .ok (.if_icmp cd o, 3)) (hp : pc + 3 = pc') (hc : if_icmp.holds cd x y = false) (r : Go p e below P (T.setTop (mkF m pc' ls st))) : Go p e below P (T.setTop (mkF m pc ls (.int y :: .int x :: st))) := by
  subst hp; exact own_go (fun t q => XS.icmpNo X.here hx rfl (hb hby hd) rfl hc q) r
theorem own_acmp (pc' : Nat) (same : Bool) (X : Stand p l e R s m args below meth c T locs cells slots) (hx : p.tables.exec = Jvm.exec) (hby : c.code = bytes) {cd : ACond} {x y : Value} {o : Int} (hd : decode bytes pc = .ok (.if_acmp cd o, 3)) (h1 : x.isRef = true) (h2 : y.isRef = true) (ho : 0 ≤ (pc : Int) + o) (hp : pc' = if acV cd same = true then ((pc : Int) + o).toNat else pc + 3) (hq : decide (x = y) = same) (r : Go p e below P (T.setTop (mkF m pc' ls st))) : Go p e below P (T.setTop (mkF m pc ls (y :: x :: st))) :=
  own_go (fun t q => Jvm.RoadKit.acmp X hx rfl h1 h2 rfl (hb hby hd) rfl hq ho hp q) r
theorem own_nullY (pc' : Nat) (X : Stand p l e R s m args below meth c T locs cells slots) (hx : p.tables.exec = Jvm.exec) (hby : c.code = bytes) {o : Int} (hd : decode bytes pc = .ok (.ifnull o, 3)) (ho : 0 ≤ (pc : Int) + o) (hp : ((pc : Int) + o).toNat = pc') (r : Go p e below P (T.setTop (mkF m pc' ls st))) : Go p e below P (T.setTop (mkF m pc ls (.null :: st))) :=
  own_go (fun t q => XS.ifnullYes X.here hx rfl rfl (hb hby hd) rfl ho hp q) r
theorem own_nullN (pc' : Nat) (X : Stand p l e R s m args below meth c T locs cells slots) (hx : p.tables.exec = Jvm.exec) (hby : c.code = bytes) {o : Int} {b : Addr} (hd : decode bytes pc = .ok (.ifnull o, 3)) (hp : pc + 3 = pc') (r : Go p e below P (T.setTop (mkF m pc' ls st))) : Go p e below P (T.setTop (mkF m pc ls (.ref b :: st))) := by
  subst hp; exact own_go (fun t q => XS.ifnullNo X.here hx rfl (hb hby hd) rfl q) r
theorem own_nnY (pc' : Nat) (X : Stand p l e R s m args below meth c T locs cells slots) (hx : p.tables.exec = Jvm.exec) (hby : c.code = bytes) {o : Int} {b : Addr} (hd : decode bytes pc = .ok (.ifnonnull o, 3)) (ho : 0 ≤ (pc : Int) + o) (hp : ((pc : Int) + o).toNat = pc') (r : Go p e below P (T.setTop (mkF m pc' ls st))) : Go p e below P (T.setTop (mkF m pc ls (.ref b :: st))) :=
  own_go (fun t q => XT.ifnonnullYes X.here hx rfl rfl (hb hby hd) rfl ho hp q) r
theorem own_nnN (pc' : Nat) (X : Stand p l e R s m args below meth c T locs cells slots) (hx : p.tables.exec = Jvm.exec) (hby : c.code = bytes) {o : Int} (hd : decode bytes pc = .ok (.ifnonnull o, 3)) (hp : pc + 3 = pc') (r : Go p e below P (T.setTop (mkF m pc' ls st))) : Go p e below P (T.setTop (mkF m pc ls (.null :: st))) := by
  subst hp; exact own_go (fun t q => XT.ifnonnullNo X.here hx rfl (hb hby hd) rfl q) r
/-! what lcmp and a branch behind it say -/
theorem own_tltL {x y : Int64} (h : x < y) : ifCond.holds .lt (XT.cmpL x y) = true ∧ ifCond.holds .ge (XT.cmpL x y) = false ∧ ifCond.holds .gt (XT.cmpL y x) = true ∧ ifCond.holds .le (XT.cmpL y x) = false := by
  have h1 : ¬ y < x := fun q => absurd h (Int64.lt_asymm q)
  have h2 : ¬ x = y := fun q => absurd (q ▸ h) Int64.lt_irrefl
  have h3 : ¬ y = x := fun q => h2 q.symm
  simp only [XT.cmpL, h, h1, h2, h3, if_true, if_false]
  decide
theorem own_fltL {x y : Int64} (h : ¬ x < y) : ifCond.holds .lt (XT.cmpL x y) = false ∧ ifCond.holds .ge (XT.cmpL x y) = true ∧ ifCond.holds .gt (XT.cmpL y x) = false ∧ ifCond.holds .le (XT.cmpL y x) = true := by
  by_cases q : x = y
  · subst q
    simp only [XT.cmpL, h, if_true, if_false]
    decide
  · have h1 : y < x := by
      rw [Int64.lt_iff_toInt_lt] at h ⊢
      have : x.toInt ≠ y.toInt := fun z => q (Int64.toInt_inj.mp z)
      omega
    have h3 : ¬ y = x := fun z => q z.symm
    simp only [XT.cmpL, h, h1, q, h3, if_true, if_false]
    decide
theorem own_teqL {x y : Int64} (h : x = y) : ifCond.holds .eq (XT.cmpL x y) = true ∧ ifCond.holds .ne (XT.cmpL x y) = false := by
  subst h
  simp only [XT.cmpL, Int64.lt_irrefl, if_true, if_false]
  decide
theorem own_feqL {x y : Int64} (h : ¬ x = y) : ifCond.holds .eq (XT.cmpL x y) = false ∧ ifCond.holds .ne (XT.cmpL x y) = true := by
  by_cases q : y < x
  · simp only [XT.cmpL, q, if_true]
    decide
  · simp only [XT.cmpL, q, h, if_false]
    decide
/-! fields, statics -/
theorem own_getS (pc' : Nat) (X : Stand p l e R s m args below meth c T locs cells slots) (hx : p.tables.exec = Jvm.exec) (hby : c.code = bytes) (hZ : Z.Warmed39 s.vm) {own O n d : String} {index : Nat} (hown : s.vm.findClass own = some m.cls) (w : (Cond.fieldLink own index O n d).before a0 Z = true) (eT : T.heap = h) {v : Value} (F : Sta Z h O n d v) (hd : decode bytes pc = .ok (.getstatic index, 3)) (hp : pc + 3 = pc')
    (r : ∀ T', Stand p l e R s m args below meth c T' locs cells slots → T'.heap = h → Go p e below P (T'.setTop (mkF m pc' ls (v :: st)))) : Go p e below P (T.setTop (mkF m pc ls st)) := by
  subst hp
  obtain ⟨T', X', e', q⟩ := getS2 X hx hZ hown (host := "") (Or.inl w) Via.refl eT F (g := mkF m pc ls st) rfl (hb hby hd)
  exact own_go q (r T' X' e')
theorem own_getSN (pc' : Nat) (X : Stand p l e R s m args below meth c T locs cells slots) (hx : p.tables.exec = Jvm.exec) (hby : c.code = bytes) (hZ : Z.Warmed39 s.vm) {own O n d host : String} {index : Nat} (hown : s.vm.findClass own = some m.cls) (w : (Cond.fieldLinkNest own index O n d host).before a0 Z = true) (eT : T.heap = h) {v : Value} (F : Sta Z h O n d v) (hd : decode bytes pc = .ok (.getstatic index, 3)) (hp : pc + 3 = pc')
    (r : ∀ T', Stand p l e R s m args below meth c T' locs cells slots → T'.heap = h → Go p e below P (T'.setTop (mkF m pc' ls (v :: st)))) : Go p e below P (T.setTop (mkF m pc ls st)) := by
  subst hp
  obtain ⟨T', X', e', q⟩ := getS2 X hx hZ hown (Or.inr w) Via.refl eT F (g := mkF m pc ls st) rfl (hb hby hd)
  exact own_go q (r T' X' e')
theorem own_getF (pc' : Nat) (X : Stand p l e R s m args below meth c T locs cells slots) (hx : p.tables.exec = Jvm.exec) (hby : c.code = bytes) (hZ : Z.Warmed39 s.vm) {own O n d : String} {index : Nat} (hown : s.vm.findClass own = some m.cls) (w : (Cond.fieldLink own index O n d).before a0 Z = true) (eT : T.heap = h) {a : Addr} {v : Value} (F : Fld Z h a O n d v) (hd : decode bytes pc = .ok (.getfield index, 3)) (hp : pc + 3 = pc')
    (r : ∀ T', Stand p l e R s m args below meth c T' locs cells slots → T'.heap = h → Go p e below P (T'.setTop (mkF m pc' ls (v :: st)))) : Go p e below P (T.setTop (mkF m pc ls (.ref a :: st))) := by
  subst hp
  obtain ⟨T', X', e', q⟩ := getF X hx hZ hown (host := "") (Or.inl w) Via.refl eT F (g := mkF m pc ls (.ref a :: st)) rfl rfl (hb hby hd)
  exact own_go q (r T' X' e')
/-! arrays -/
theorem own_n0 {n0 : Nat} (O : Old Z n0 h) : n0 ≤ h.size := O.1 ▸ O.2.1
theorem own_newR (pc' : Nat) (N : Nat) (X : Stand p l e R s m args below meth c T locs cells slots) (hx : p.tables.exec = Jvm.exec) (hby : c.code = bytes) (hZ : Z.Warmed39 s.vm) {own C : String} {index : Nat} (hown : s.vm.findClass own = some m.cls) (w1 : (Cond.classLink own index C).before a0 Z = true) (w2 : (Cond.arrayOver (.object C)).before a0 Z = true) (eT : T.heap = h)
    (hd : decode bytes pc = .ok (.anewarray index, 3)) (hp : pc + 3 = pc') {n : Int32} (hn : ¬ n < 0) (hcap : n.toNatClampNeg ≤ N) (hbig : N * 8 ≤ 536870912) (hc : cells + 1 ≤ R.cells) (hl : slots + N ≤ R.slots)
    (r : ∀ T' h' cA b, Stand p l e R s m args below meth c T' locs (cells + 1) (slots + N) → T'.heap = h' → Ext h h' → b = h.size → Arv Z h' b cA (.object C) n (List.replicate N .null) .null → Ovr Z cA C → Go p e below P (T'.setTop (mkF m pc' ls (.ref b :: st)))) : Go p e below P (T.setTop (mkF m pc ls (.int n :: st))) := by
  subst hp
  obtain ⟨T', h', cA, X', e', E', A', O', q⟩ := newR X hx hZ hown w1 w2 eT (g := mkF m pc ls (.int n :: st)) rfl (hb hby hd) rfl hn hcap hbig hc hl
  exact own_go q (r T' h' cA h.size X' e' E' rfl ((Arv.new A' hn).pad (pad_rep [] .null N)) O')
theorem own_newP (pc' : Nat) (N : Nat) {aty : ArrayType} (X : Stand p l e R s m args below meth c T locs cells slots) (hx : p.tables.exec = Jvm.exec) (hby : c.code = bytes) (hZ : Z.Warmed39 s.vm) (w : (Cond.arrayClass (newarray.typeOf aty)).before a0 Z = true) (eT : T.heap = h)
    (hd : decode bytes pc = .ok (.newarray aty, 2)) (hp : pc + 2 = pc') {n : Int32} (hn : ¬ n < 0) (hcap : n.toNatClampNeg ≤ N) (hbig : N * 8 ≤ 536870912) (hc : cells + 1 ≤ R.cells) (hl : slots + N ≤ R.slots)
    (r : ∀ T' h' cA b, Stand p l e R s m args below meth c T' locs (cells + 1) (slots + N) → T'.heap = h' → Ext h h' → b = h.size → Arv Z h' b cA (newarray.typeOf aty) n (List.replicate N (defaultValue (newarray.typeOf aty))) (defaultValue (newarray.typeOf aty)) → Go p e below P (T'.setTop (mkF m pc' ls (.ref b :: st)))) : Go p e below P (T.setTop (mkF m pc ls (.int n :: st))) := by
  subst hp
  obtain ⟨T', h', cA, X', e', E', A', q⟩ := newP X hx hZ w eT (g := mkF m pc ls (.int n :: st)) rfl (hb hby hd) rfl hn hcap hbig hc hl
  exact own_go q (r T' h' cA h.size X' e' E' rfl ((Arv.new A' hn).pad (pad_rep [] _ N)))
theorem own_stR (pc' : Nat) (i : Nat) (X : Stand p l e R s m args below meth c T locs cells slots) (hx : p.tables.exec = Jvm.exec) (hby : c.code = bytes) (hZ : Z.Warmed39 s.vm) (eT : T.heap = h) {a y : Addr} {cA : ClassId} {C : String} {n j : Int32} {vs : List Value} (V : Arv Z h a cA (.object C) n vs .null) (O : Ovr Z cA C) (I : Ins Z h y C true)
    (hd : decode bytes pc = .ok (.aastore, 1)) (hp : pc + 1 = pc') (hj : ¬ j < 0 ∧ j < n) (hi : j.toNatClampNeg = i) (hv : i < vs.length)
    (r : ∀ T' h', Stand p l e R s m args below meth c T' (locs ++ [⟨a, j.toNatClampNeg⟩]) cells slots → T'.heap = h' → Wr h h' a j.toNatClampNeg (.ref y) → Arv Z h' a cA (.object C) n (vs.set i (.ref y)) .null → Go p e below P (T'.setTop (mkF m pc' ls st))) : Go p e below P (T.setTop (mkF m pc ls (.ref y :: .int j :: .ref a :: st))) := by
  subst hp
  obtain ⟨cl, A, q1, S, q3, H, G⟩ := V
  obtain ⟨T', h', X', e', W', q⟩ := stR X hx hZ eT A (j := j) (inb_of S hj) rfl (Sto.ofV A q1 O I) (g := mkF m pc ls (.ref y :: .int j :: .ref a :: st)) rfl rfl (hb hby hd)
  exact own_go q (r T' h' X' e' W' (Arv.set A q1 S q3 H G rfl W' i hi hv))
theorem own_stZ (pc' : Nat) (i : Nat) (X : Stand p l e R s m args below meth c T locs cells slots) (hx : p.tables.exec = Jvm.exec) (hby : c.code = bytes) (hZ : Z.Warmed39 s.vm) (eT : T.heap = h) {a : Addr} {cA : ClassId} {n j x : Int32} {vs : List Value} {dv : Value} (V : Arv Z h a cA .boolean n vs dv)
    (hd : decode bytes pc = .ok (.bastore, 1)) (hp : pc + 1 = pc') (hj : ¬ j < 0 ∧ j < n) (hi : j.toNatClampNeg = i) (hv : i < vs.length) (hx1 : nar .boolean x = x)
    (r : ∀ T' h', Stand p l e R s m args below meth c T' (locs ++ [⟨a, j.toNatClampNeg⟩]) cells slots → T'.heap = h' → Wr h h' a j.toNatClampNeg (.int x) → Arv Z h' a cA .boolean n (vs.set i (.int x)) dv → Go p e below P (T'.setTop (mkF m pc' ls st))) : Go p e below P (T.setTop (mkF m pc ls (.int x :: .int j :: .ref a :: st))) := by
  subst hp
  obtain ⟨cl, A, q1, S, q3, H, G⟩ := V
  obtain ⟨T', h', X', e', W', q⟩ := stZ X hx hZ eT A (j := j) (x := x) (inb_of S hj) (g := mkF m pc ls (.int x :: .int j :: .ref a :: st)) rfl rfl (hb hby hd)
  rw [hx1] at W'
  exact own_go q (r T' h' X' e' W' (Arv.set A q1 S q3 H G (hx1 ▸ fits_nar_bool x) W' i hi hv))
theorem own_aaload (pc' : Nat) (v : Value) (X : Stand p l e R s m args below meth c T locs cells slots) (hx : p.tables.exec = Jvm.exec) (hby : c.code = bytes) (hZ : Z.Warmed39 s.vm) (eT : T.heap = h) {a : Addr} {cA : ClassId} {ty : FieldType} {n j : Int32} {vs : List Value} {dv : Value} (V : Arv Z h a cA ty n vs dv) (hty : ty.isReference = true)
    (hd : decode bytes pc = .ok (.aaload, 1)) (hp : pc + 1 = pc') (hj : ¬ j < 0 ∧ j < n) (hv : vs.getD j.toNatClampNeg dv = v)
    (r : Go p e below P (T.setTop (mkF m pc' ls (v :: st)))) : Go p e below P (T.setTop (mkF m pc ls (.int j :: .ref a :: st))) := by
  subst hp
  obtain ⟨cl, A, q1, S, q3, H, G⟩ := V
  exact own_go (fun t q => X.aaload hx (j := j) (v := v) (by rw [eT]; exact A.1) (State.isArrayOf_alike hZ.alike A.2.1) hty A.2.2 (inb_of S hj) (H.at (inb_of S hj) hv) (g := mkF m pc ls (.int j :: .ref a :: st)) rfl rfl (hb hby hd) t q) r
theorem own_zaload (pc' : Nat) (v : Value) (X : Stand p l e R s m args below meth c T locs cells slots) (hx : p.tables.exec = Jvm.exec) (hby : c.code = bytes) (hZ : Z.Warmed39 s.vm) (eT : T.heap = h) {a : Addr} {cA : ClassId} {n j : Int32} {vs : List Value} {dv : Value} (V : Arv Z h a cA .boolean n vs dv)
    (hd : decode bytes pc = .ok (.baload, 1)) (hp : pc + 1 = pc') (hj : ¬ j < 0 ∧ j < n) (hv : vs.getD j.toNatClampNeg dv = v)
    (r : Go p e below P (T.setTop (mkF m pc' ls (v :: st)))) : Go p e below P (T.setTop (mkF m pc ls (.int j :: .ref a :: st))) := by
  subst hp
  obtain ⟨cl, A, q1, S, q3, H, G⟩ := V
  exact own_go (fun t q => X.baloadBooleans hx (j := j) (v := v) (by rw [eT]; exact A.1) (State.isArrayOf_alike hZ.alike A.2.1) A.2.2 (inb_of S hj) (H.at (inb_of S hj) hv) (g := mkF m pc ls (.int j :: .ref a :: st)) rfl rfl (hb hby hd) t q) r
theorem own_len (pc' : Nat) (X : Stand p l e R s m args below meth c T locs cells slots) (hx : p.tables.exec = Jvm.exec) (hby : c.code = bytes) (hZ : Z.Warmed39 s.vm) (eT : T.heap = h) {a : Addr} {cA : ClassId} {ty : FieldType} {n : Int32} {vs : List Value} {dv : Value} (V : Arv Z h a cA ty n vs dv)
    (hd : decode bytes pc = .ok (.arraylength, 1)) (hp : pc + 1 = pc')
    (r : Go p e below P (T.setTop (mkF m pc' ls (.int n :: st)))) : Go p e below P (T.setTop (mkF m pc ls (.ref a :: st))) := by
  subst hp
  obtain ⟨cl, A, q1, S, q3, H, G⟩ := V
  rw [← len_of S q3] at r
  exact own_go (fun t q => X.arraylength hx (by rw [eT]; exact A.1) (State.isArrayOf_alike hZ.alike A.2.1) (g := mkF m pc ls (.ref a :: st)) rfl rfl (hb hby hd) t q) r
/-! calls -/
theorem own_callS (pc' : Nat) {h : Heap} {as' : Array Value} {rm : Room} {Q : Option Value → Heap → List Loc → Prop} {y : MethodName} {code' : ByteArray} {maxL : Nat} {ret' : Option FieldType}
    (hM : MetFree l y (head1 [Cond.code y code' maxL ret'] rm) (fun a U => a = as' ∧ Z.Warmed39 U.vm ∧ U.heap = h) (fun _ _ _ _ _ => True) (fun _ U o U' => ∃ v L, o = .returned v ∧ Q v U'.heap L ∧ FrameEnd U o U' L rm.cells rm.slots))
    (X : Stand p l e R s m args below meth c T locs cells slots) (hx : p.tables.exec = Jvm.exec) (hby : c.code = bytes) (hZ : Z.Warmed39 s.vm) {own : String} {index W : Nat} (hown : s.vm.findClass own = some m.cls)
    (w1 : (Cond.methodLink own index y).before a0 Z = true) (w2 : (Cond.static y).before a0 Z = true) (w3 : (Cond.initialized y.cls).before a0 Z = true) (w4 : (Cond.code y code' maxL ret').before a0 Z = true)
    (hy : y.cls ≠ "java/lang/invoke/MethodHandle" ∧ y.cls ≠ "java/lang/invoke/VarHandle") (hsz : ls.size = c.maxLocals) (argsL rest : List Value) {ps : List FieldType} {rt : Option FieldType} (hps : parseMethodDescriptor y.desc = some ⟨ps, rt⟩) (hlen : argsL.length = ps.length)
    (hd : decode bytes pc = .ok (.invokestatic index, 3)) (hp : pc + 3 = pc') (eT : T.heap = h) (hst : st = argsL.reverse ++ rest) (has : argsL.toArray = as') (hW : (rest.map fun v => v.category).sum = W)
    (hf : rm.frames + 1 ≤ R.frames) (hl : W + (maxL + 11) + rm.locals ≤ R.locals) (hc : cells + rm.cells ≤ R.cells) (hs : slots + rm.slots ≤ R.slots)
    (r : ∀ v T' L, Stand p l e R s m args below meth c T' (locs ++ L) (cells + rm.cells) (slots + rm.slots) → Q v T'.heap L → Go p e below P (T'.setTop (mkF m pc' ls (v.toList ++ rest)))) : Go p e below P (T.setTop (mkF m pc ls st)) := by
  subst hp
  obtain ⟨v, _, ⟨T', L', k', n'⟩, -, X', ⟨L, hQ, l1, l2, l3⟩, q⟩ := Jvm.LawKit.callS X hx hown (mvT hZ w1) (mvT hZ w2) (mvT hZ w3) (mvT hZ w4) hy (backOf (W := W) hM hZ w4 w3 hf hl) (g := mkF m pc ls st) rfl hsz (argsL := argsL) (rest := rest) (lenOf hps hlen) hst (by show 2 * 0 + _ ≤ _; omega) (hb hby hd) (fun _ _ => ⟨has, eT, hc, hs⟩)
  dsimp only [Pt.U, Pt.locs, Pt.cells, Pt.slots] at X' l1 l2 l3 q hQ
  subst l1 l2 l3
  exact own_go q (r v T' L X' hQ)
theorem own_virt (pc' : Nat) {h : Heap} {as' : Array Value} {rm : Room} {Q : Option Value → Heap → List Loc → Prop} {y z : MethodName} {code' : ByteArray} {maxL : Nat} {ret' : Option FieldType}
    (hM : MetFree l z (head1 [Cond.code z code' maxL ret'] rm) (fun a U => a = as' ∧ Z.Warmed39 U.vm ∧ U.heap = h) (fun _ _ _ _ _ => True) (fun _ U o U' => ∃ v L, o = .returned v ∧ Q v U'.heap L ∧ FrameEnd U o U' L rm.cells rm.slots))
    (X : Stand p l e R s m args below meth c T locs cells slots) (hx : p.tables.exec = Jvm.exec) (hby : c.code = bytes) (hZ : Z.Warmed39 s.vm) {own C : String} {index W : Nat} (hown : s.vm.findClass own = some m.cls)
    (w1 : (Cond.methodLink own index y).before a0 Z = true) (w2 : (Cond.declares y).before a0 Z = true) (nf : NotFace s y) (w3 : (Cond.selects C y z).before a0 Z = true) (w4 : (Cond.instanceMethod z).before a0 Z = true) (w5 : (Cond.initialized z.cls).before a0 Z = true) (w6 : (Cond.code z code' maxL ret').before a0 Z = true)
    (hy : y.cls ≠ "java/lang/invoke/MethodHandle" ∧ y.cls ≠ "java/lang/invoke/VarHandle") (hsz : ls.size = c.maxLocals) (b : Addr) (argsL rest : List Value) {ps : List FieldType} {rt : Option FieldType} (hps : parseMethodDescriptor y.desc = some ⟨ps, rt⟩) (hlen : argsL.length = ps.length)
    (hd : decode bytes pc = .ok (.invokevirtual index, 3)) (hp : pc + 3 = pc') (eT : T.heap = h) (E : Exa Z h b C) (hst : st = argsL.reverse ++ .ref b :: rest) (has : (.ref b :: argsL).toArray = as') (hW : (rest.map fun v => v.category).sum = W)
    (hf : rm.frames + 1 ≤ R.frames) (hl : W + (maxL + 11) + rm.locals ≤ R.locals) (hc : cells + rm.cells ≤ R.cells) (hs : slots + rm.slots ≤ R.slots)
    (r : ∀ v T' L, Stand p l e R s m args below meth c T' (locs ++ L) (cells + rm.cells) (slots + rm.slots) → Q v T'.heap L → Go p e below P (T'.setTop (mkF m pc' ls (v.toList ++ rest)))) : Go p e below P (T.setTop (mkF m pc ls st)) := by
  subst hp
  obtain ⟨cq, kq, q1, q2, q3⟩ := isOf (s := s) (T := T) hZ eT E
  obtain ⟨v, _, ⟨T', L', k', n'⟩, -, X', ⟨L, hQ, l1, l2, l3⟩, q⟩ := X.virtualBack hx hown (mvT hZ w1) (mvT hZ w2) nf (mvT hZ w3) (mvT hZ w4) hy (backOf (W := W) hM hZ w6 w5 hf hl) q1 q3 (g := mkF m pc ls st) rfl hsz (Steps.refl _) (argsL := argsL) (rest := rest) (lenOf hps hlen) hst (by show 2 * 0 + _ ≤ _; omega) (hb hby hd) (fun _ _ => ⟨has, eT, hc, hs⟩)
  dsimp only [Pt.U, Pt.locs, Pt.cells, Pt.slots] at X' l1 l2 l3 q hQ
  subst l1 l2 l3
  exact own_go (fun t k => q.trans k) (r v T' L X' hQ)
/-! the end of a walk -/
theorem own_ret {Q : Option Value → Heap → List Loc → Prop} {K N : Nat} {t : FieldType} {w : Value} {i : Instr} (X : Stand p l e R s m args below meth c T locs cells slots) (hx : p.tables.exec = Jvm.exec) (hby : c.code = bytes) (hret : meth.sig.returnType = some t) (hlocks : meth.locks = false)
    (hd : decode bytes pc = .ok (i, 1)) (hn : narrow t w = w)
    (hi : (i = .ireturn ∧ (t = .int ∨ t = .boolean ∨ t = .byte ∨ t = .char ∨ t = .short) ∧ ∃ z, w = .int z) ∨ (i = .lreturn ∧ t = .long ∧ ∃ z, w = .long z) ∨ (i = .dreturn ∧ t = .double ∧ ∃ z, w = .double z) ∨ (i = .freturn ∧ t = .float ∧ ∃ z, w = .float z) ∨ (i = .areturn ∧ t.isReference = true ∧ w.isRef = true))
    (hK : cells ≤ K) (hN : slots ≤ N) (hQ : Q (some w) T.heap locs) :
    Go p e below (fun s₂ o => s₂.status = .running ∧ Ended s₂ below o ∧ ∃ v L, o = .returned v ∧ Q v s₂.heap L ∧ FrameEnd s o s₂ L K N) (T.setTop (mkF m pc ls (w :: st))) := by
  obtain ⟨fs, hr, hrun, hended, hW, hsame⟩ := X.leave (v := some w) (fun h => by rw [hret] at h; cases h) hlocks
  exact ⟨_, _, retOut X hx hret hn hi (hb hby hd) hr, hrun, hended, _, _, rfl, hQ, ⟨_, rfl⟩, hW, hsame.mono hK hN⟩
theorem own_ret0 {Q : Option Value → Heap → List Loc → Prop} {K N : Nat} (X : Stand p l e R s m args below meth c T locs cells slots) (hx : p.tables.exec = Jvm.exec) (hby : c.code = bytes) (hret : meth.sig.returnType = none) (hlocks : meth.locks = false)
    (hd : decode bytes pc = .ok (.return_, 1)) (hK : cells ≤ K) (hN : slots ≤ N) (hQ : Q none T.heap locs) :
    Go p e below (fun s₂ o => s₂.status = .running ∧ Ended s₂ below o ∧ ∃ v L, o = .returned v ∧ Q v s₂.heap L ∧ FrameEnd s o s₂ L K N) (T.setTop (mkF m pc ls [])) := by
  obtain ⟨fs, hr, hrun, hended, hW, hsame⟩ := X.leave (v := none) (fun _ => rfl) hlocks
  exact ⟨_, _, X.returnOut hx hret (hb hby hd) hr, hrun, hended, _, _, rfl, hQ, ⟨_, rfl⟩, hW, hsame.mono hK hN⟩
/-! the case's words -/
theorem own_fld {Z : State} {args : Array Value} {t : Term} {C n d : String} {v : Int32} {x : Addr} (h : (Cond.eq (Term.field t C n d) (Term.int v)).value args Z none Z [] = some true) (ht : t.eval args Z none [] Z = some (.ref x)) : Fld Z Z.heap x C n d (.int v) :=
  Fld.start ((fld_at ht).symm.trans (eqv_i (Term.int_eval v) h))
theorem own_fldN {Z : State} {args : Array Value} {t : Term} {C n d : String} {x : Addr} (h : (Cond.eq (Term.field t C n d) Term.null).value args Z none Z [] = some true) (ht : t.eval args Z none [] Z = some (.ref x)) : Fld Z Z.heap x C n d .null :=
  Fld.start ((fld_at ht).symm.trans (null_v h))
theorem own_eqvR {Z : State} {args : Array Value} {X F : Term} {y : Addr} (hF : F.eval args Z none [] Z = some (.ref y)) (h : (Cond.eq X F).value args Z none Z [] = some true) : X.eval args Z none [] Z = some (.ref y) := by
  obtain ⟨x, y', e1, e2, k1, k2⟩ := cmp_v (Or.inl h)
  cases hF.symm.trans e2
  have hx : x.isRef = true := k2.2
  exact e1.trans (congrArg some (gotT (eq_R e1 hF hx rfl) h))
theorem own_fldR {Z : State} {args : Array Value} {t F : Term} {C n d : String} {x y : Addr} (h : (Cond.eq (Term.field t C n d) F).value args Z none Z [] = some true) (ht : t.eval args Z none [] Z = some (.ref x)) (hF : F.eval args Z none [] Z = some (.ref y)) : Fld Z Z.heap x C n d (.ref y) :=
  Fld.start ((fld_at ht).symm.trans (own_eqvR hF h))
theorem own_len_at {Z : State} {args : Array Value} {t : Term} {z : Int32} {a : Addr} {cl : Cell} (h : (Term.length t).eval args Z none [] Z = some (.int z)) (ht : t.eval args Z none [] Z = some (.ref a)) (ha : Z.arrayAt? a = some cl) : cl.slots.size < 2 ^ 31 ∧ cl.slots.size.toInt32 = z := by
  by_cases q : cl.slots.size < 2 ^ 31
  · refine ⟨q, ?_⟩
    rw [len_f ht ha q] at h
    exact Value.int.inj (Option.some.inj h)
  · exfalso
    simp [Term.eval, ht, ha, q] at h
/-- what a callee that writes nothing leaves -/
def own_Q (r : Option Value) (n0 : Nat) (h0 : Heap) (v : Option Value) (h : Heap) (L : List Loc) : Prop := v = r ∧ Fr n0 L ∧ h = h0
/-- what the law leaves -/
def own_Q1 (n0 : Nat) (v : Option Value) (h : Heap) (L : List Loc) : Prop := v = some (.int 1) ∧ Fr n0 L
end Own
/-! small facts on ints -/
theorem own_mask_nn (x : Int32) : 0 ≤ (x &&& 2147483647).toInt := by
  have h : (x &&& 2147483647).toInt = x.toInt % 2 ^ 31 := Jvm.Kit.i32_mask x 2147483647 (k := 31) (by decide) (by decide)
  omega
theorem own_mod_toInt (x y : Int32) (hy : 0 < y.toInt) (hx : 0 ≤ x.toInt) : (x % y).toInt = x.toInt % y.toInt := Jvm.Kit.i32_rem_nonneg hx
theorem own_and_toInt1 (x : Int32) : (x &&& 1).toInt = x.toInt % 2 := Jvm.Kit.i32_mask x 1 (k := 1) (by decide) (by decide)
theorem own_and_toInt3 (x : Int32) : (x &&& 3).toInt = x.toInt % 4 := Jvm.Kit.i32_mask x 3 (k := 2) (by decide) (by decide)
theorem own_and_toInt7 (x : Int32) : (x &&& 7).toInt = x.toInt % 8 := Jvm.Kit.i32_mask x 7 (k := 3) (by decide) (by decide)
theorem own_mkI (x m : Int32) (k : Nat) (hk : k < 32) (hm : m.toBitVec.toNat = 2 ^ k - 1) : 0 ≤ (x &&& m).toInt ∧ (x &&& m).toInt ≤ m.toInt := by
  have h1 := Jvm.Kit.i32_mask x m hk hm
  have h2 : m.toInt = 2 ^ k - 1 := by
    have h3 : m.toInt = (m.toBitVec).toInt := rfl
    have h4 : (2 : Nat) ^ k ≤ 2 ^ 31 := Nat.pow_le_pow_right (by decide) (by omega)
    rw [h3, BitVec.toInt_eq_toNat_cond, hm]
    have h5 : 0 < (2 : Nat) ^ k := Nat.pow_pos (by decide)
    have h6 : ((2 ^ k - 1 : Nat) : Int) = (2 : Int) ^ k - 1 := by
      rw [Int.natCast_sub h5]; simp
    split
    · exact h6
    · omega
  have h7 : (0 : Int) < 2 ^ k := Int.pow_pos (by decide)
  have h8 := Int.emod_nonneg x.toInt (Int.ne_of_gt h7)
  have h9 := Int.emod_lt_of_pos x.toInt h7
  omega
theorem own_mkJ (x m : Int64) (k : Nat) (hk : k < 64) (hm : m.toBitVec.toNat = 2 ^ k - 1) : 0 ≤ (x &&& m).toInt ∧ (x &&& m).toInt ≤ m.toInt := by
  have h1 := Jvm.Kit.i64_mask x m hk hm
  have h2 : m.toInt = 2 ^ k - 1 := by
    have h3 : m.toInt = (m.toBitVec).toInt := rfl
    have h4 : (2 : Nat) ^ k ≤ 2 ^ 63 := Nat.pow_le_pow_right (by decide) (by omega)
    rw [h3, BitVec.toInt_eq_toNat_cond, hm]
    have h5 : 0 < (2 : Nat) ^ k := Nat.pow_pos (by decide)
    have h6 : ((2 ^ k - 1 : Nat) : Int) = (2 : Int) ^ k - 1 := by
      rw [Int.natCast_sub h5]; simp
    split
    · exact h6
    · omega
  have h7 : (0 : Int) < 2 ^ k := Int.pow_pos (by decide)
  have h8 := Int.emod_nonneg x.toInt (Int.ne_of_gt h7)
  have h9 := Int.emod_lt_of_pos x.toInt h7
  omega
theorem own_rngI (x : Int32) : -2 ^ 31 ≤ x.toInt ∧ x.toInt < 2 ^ 31 := ⟨Int32.le_toInt x, Int32.toInt_lt x⟩
theorem own_rngJ (x : Int64) : -2 ^ 63 ≤ x.toInt ∧ x.toInt < 2 ^ 63 := ⟨Int64.le_toInt x, Int64.toInt_lt x⟩
theorem own_rmI {x : Int32} (hx : 0 ≤ x.toInt) (y : Int32) (hy : 0 < y.toInt) : 0 ≤ (x % y).toInt ∧ (x % y).toInt ≤ y.toInt - 1 := by
  rw [Jvm.Kit.i32_rem_nonneg hx]
  have h8 := Int.emod_nonneg x.toInt (Int.ne_of_gt hy)
  have h9 := Int.emod_lt_of_pos x.toInt hy
  omega
theorem own_rmJ (x y : Int64) (hy : 0 < y.toInt) : -(y.toInt - 1) ≤ (x - (x / y) * y).toInt ∧ (x - (x / y) * y).toInt ≤ y.toInt - 1 := by
  rw [Jvm.Kit.i64_rem]
  have h1 := Int.tmod_lt_of_pos x.toInt hy
  have h2 := Int.lt_tmod_of_pos x.toInt hy
  omega
theorem own_dvI {x : Int32} (hx : 0 ≤ x.toInt) (y : Int32) (hy : 0 < y.toInt) : (x / y).toInt = x.toInt / y.toInt := by
  rw [Jvm.Kit.i32_div (by omega), Int.tdiv_eq_ediv_of_nonneg hx]
theorem own_bdI {x a b : Int32} (h1 : ¬ (x < a)) (h2 : ¬ (b < x)) : a.toInt ≤ x.toInt ∧ x.toInt ≤ b.toInt := by
  rw [Int32.lt_iff_toInt_lt] at h1 h2
  omega
theorem own_bdJ {x a b : Int64} (h1 : ¬ (x < a)) (h2 : ¬ (b < x)) : a.toInt ≤ x.toInt ∧ x.toInt ≤ b.toInt := by
  rw [Int64.lt_iff_toInt_lt] at h1 h2
  omega
theorem own_mod17 (x : Int32) : (x &&& 2147483647) % 17 = 0 ∨ (x &&& 2147483647) % 17 = 1 ∨ (x &&& 2147483647) % 17 = 2 ∨ (x &&& 2147483647) % 17 = 3 ∨ (x &&& 2147483647) % 17 = 4 ∨ (x &&& 2147483647) % 17 = 5 ∨ (x &&& 2147483647) % 17 = 6 ∨ (x &&& 2147483647) % 17 = 7 ∨ (x &&& 2147483647) % 17 = 8 ∨ (x &&& 2147483647) % 17 = 9 ∨ (x &&& 2147483647) % 17 = 10 ∨ (x &&& 2147483647) % 17 = 11 ∨ (x &&& 2147483647) % 17 = 12 ∨ (x &&& 2147483647) % 17 = 13 ∨ (x &&& 2147483647) % 17 = 14 ∨ (x &&& 2147483647) % 17 = 15 ∨ (x &&& 2147483647) % 17 = 16 := by
  have h1 : ((x &&& 2147483647) % 17).toInt = (x &&& 2147483647).toInt % 17 := own_mod_toInt _ 17 (by decide) (own_mask_nn x)
  have h2 := own_mask_nn x
  have h3 : ∀ y : Int32, ∀ k : Int32, y.toInt = k.toInt → y = k := fun _ _ q => Int32.toInt_inj.mp q
  have h4 : (x &&& 2147483647).toInt % 17 = 0 ∨ (x &&& 2147483647).toInt % 17 = 1 ∨ (x &&& 2147483647).toInt % 17 = 2 ∨ (x &&& 2147483647).toInt % 17 = 3 ∨ (x &&& 2147483647).toInt % 17 = 4 ∨ (x &&& 2147483647).toInt % 17 = 5 ∨ (x &&& 2147483647).toInt % 17 = 6 ∨ (x &&& 2147483647).toInt % 17 = 7 ∨ (x &&& 2147483647).toInt % 17 = 8 ∨ (x &&& 2147483647).toInt % 17 = 9 ∨ (x &&& 2147483647).toInt % 17 = 10 ∨ (x &&& 2147483647).toInt % 17 = 11 ∨ (x &&& 2147483647).toInt % 17 = 12 ∨ (x &&& 2147483647).toInt % 17 = 13 ∨ (x &&& 2147483647).toInt % 17 = 14 ∨ (x &&& 2147483647).toInt % 17 = 15 ∨ (x &&& 2147483647).toInt % 17 = 16 := by omega
  rcases h4 with h4 | h4 | h4 | h4 | h4 | h4 | h4 | h4 | h4 | h4 | h4 | h4 | h4 | h4 | h4 | h4 | h4
  · exact Or.inl (h3 _ _ (h1.trans h4))
  · exact Or.inr (Or.inl (h3 _ _ (h1.trans h4)))
  · exact Or.inr (Or.inr (Or.inl (h3 _ _ (h1.trans h4))))
  · exact Or.inr (Or.inr (Or.inr (Or.inl (h3 _ _ (h1.trans h4)))))
  · exact Or.inr (Or.inr (Or.inr (Or.inr (Or.inl (h3 _ _ (h1.trans h4))))))
  · exact Or.inr (Or.inr (Or.inr (Or.inr (Or.inr (Or.inl (h3 _ _ (h1.trans h4)))))))
  · exact Or.inr (Or.inr (Or.inr (Or.inr (Or.inr (Or.inr (Or.inl (h3 _ _ (h1.trans h4))))))))
  · exact Or.inr (Or.inr (Or.inr (Or.inr (Or.inr (Or.inr (Or.inr (Or.inl (h3 _ _ (h1.trans h4)))))))))
  · exact Or.inr (Or.inr (Or.inr (Or.inr (Or.inr (Or.inr (Or.inr (Or.inr (Or.inl (h3 _ _ (h1.trans h4))))))))))
  · exact Or.inr (Or.inr (Or.inr (Or.inr (Or.inr (Or.inr (Or.inr (Or.inr (Or.inr (Or.inl (h3 _ _ (h1.trans h4)))))))))))
  · exact Or.inr (Or.inr (Or.inr (Or.inr (Or.inr (Or.inr (Or.inr (Or.inr (Or.inr (Or.inr (Or.inl (h3 _ _ (h1.trans h4))))))))))))
  · exact Or.inr (Or.inr (Or.inr (Or.inr (Or.inr (Or.inr (Or.inr (Or.inr (Or.inr (Or.inr (Or.inr (Or.inl (h3 _ _ (h1.trans h4)))))))))))))
  · exact Or.inr (Or.inr (Or.inr (Or.inr (Or.inr (Or.inr (Or.inr (Or.inr (Or.inr (Or.inr (Or.inr (Or.inr (Or.inl (h3 _ _ (h1.trans h4))))))))))))))
  · exact Or.inr (Or.inr (Or.inr (Or.inr (Or.inr (Or.inr (Or.inr (Or.inr (Or.inr (Or.inr (Or.inr (Or.inr (Or.inr (Or.inl (h3 _ _ (h1.trans h4)))))))))))))))
  · exact Or.inr (Or.inr (Or.inr (Or.inr (Or.inr (Or.inr (Or.inr (Or.inr (Or.inr (Or.inr (Or.inr (Or.inr (Or.inr (Or.inr (Or.inl (h3 _ _ (h1.trans h4))))))))))))))))
  · exact Or.inr (Or.inr (Or.inr (Or.inr (Or.inr (Or.inr (Or.inr (Or.inr (Or.inr (Or.inr (Or.inr (Or.inr (Or.inr (Or.inr (Or.inr (Or.inl (h3 _ _ (h1.trans h4)))))))))))))))))
  · exact Or.inr (Or.inr (Or.inr (Or.inr (Or.inr (Or.inr (Or.inr (Or.inr (Or.inr (Or.inr (Or.inr (Or.inr (Or.inr (Or.inr (Or.inr (Or.inr (h3 _ _ (h1.trans h4)))))))))))))))))
def own_W (Z : State) (w_CLIENT_DELETE_PROHIBITED w_CLIENT_HOLD w_CLIENT_RENEW_PROHIBITED w_CLIENT_TRANSFER_PROHIBITED w_CLIENT_UPDATE_PROHIBITED w_INACTIVE w_OK w_PENDING_CREATE w_PENDING_DELETE w_PENDING_RENEW w_PENDING_TRANSFER w_PENDING_UPDATE w_SERVER_DELETE_PROHIBITED w_SERVER_HOLD w_SERVER_RENEW_PROHIBITED w_SERVER_TRANSFER_PROHIBITED w_SERVER_UPDATE_PROHIBITED : Addr) : Prop := Sta Z Z.heap "com/example/nameroll/nameroll/core/Domain$Status" "CLIENT_DELETE_PROHIBITED" "Lcom/example/nameroll/nameroll/core/Domain$Status;" (.ref w_CLIENT_DELETE_PROHIBITED) ∧ Exa Z Z.heap w_CLIENT_DELETE_PROHIBITED "com/example/nameroll/nameroll/core/Domain$Status" ∧ Sta Z Z.heap "com/example/nameroll/nameroll/core/Domain$Status" "CLIENT_HOLD" "Lcom/example/nameroll/nameroll/core/Domain$Status;" (.ref w_CLIENT_HOLD) ∧ Exa Z Z.heap w_CLIENT_HOLD "com/example/nameroll/nameroll/core/Domain$Status" ∧ Sta Z Z.heap "com/example/nameroll/nameroll/core/Domain$Status" "CLIENT_RENEW_PROHIBITED" "Lcom/example/nameroll/nameroll/core/Domain$Status;" (.ref w_CLIENT_RENEW_PROHIBITED) ∧ Exa Z Z.heap w_CLIENT_RENEW_PROHIBITED "com/example/nameroll/nameroll/core/Domain$Status" ∧ Sta Z Z.heap "com/example/nameroll/nameroll/core/Domain$Status" "CLIENT_TRANSFER_PROHIBITED" "Lcom/example/nameroll/nameroll/core/Domain$Status;" (.ref w_CLIENT_TRANSFER_PROHIBITED) ∧ Exa Z Z.heap w_CLIENT_TRANSFER_PROHIBITED "com/example/nameroll/nameroll/core/Domain$Status" ∧ Sta Z Z.heap "com/example/nameroll/nameroll/core/Domain$Status" "CLIENT_UPDATE_PROHIBITED" "Lcom/example/nameroll/nameroll/core/Domain$Status;" (.ref w_CLIENT_UPDATE_PROHIBITED) ∧ Exa Z Z.heap w_CLIENT_UPDATE_PROHIBITED "com/example/nameroll/nameroll/core/Domain$Status" ∧ Sta Z Z.heap "com/example/nameroll/nameroll/core/Domain$Status" "INACTIVE" "Lcom/example/nameroll/nameroll/core/Domain$Status;" (.ref w_INACTIVE) ∧ Exa Z Z.heap w_INACTIVE "com/example/nameroll/nameroll/core/Domain$Status" ∧ Sta Z Z.heap "com/example/nameroll/nameroll/core/Domain$Status" "OK" "Lcom/example/nameroll/nameroll/core/Domain$Status;" (.ref w_OK) ∧ Exa Z Z.heap w_OK "com/example/nameroll/nameroll/core/Domain$Status" ∧ Sta Z Z.heap "com/example/nameroll/nameroll/core/Domain$Status" "PENDING_CREATE" "Lcom/example/nameroll/nameroll/core/Domain$Status;" (.ref w_PENDING_CREATE) ∧ Exa Z Z.heap w_PENDING_CREATE "com/example/nameroll/nameroll/core/Domain$Status" ∧ Sta Z Z.heap "com/example/nameroll/nameroll/core/Domain$Status" "PENDING_DELETE" "Lcom/example/nameroll/nameroll/core/Domain$Status;" (.ref w_PENDING_DELETE) ∧ Exa Z Z.heap w_PENDING_DELETE "com/example/nameroll/nameroll/core/Domain$Status" ∧ Sta Z Z.heap "com/example/nameroll/nameroll/core/Domain$Status" "PENDING_RENEW" "Lcom/example/nameroll/nameroll/core/Domain$Status;" (.ref w_PENDING_RENEW) ∧ Exa Z Z.heap w_PENDING_RENEW "com/example/nameroll/nameroll/core/Domain$Status" ∧ Sta Z Z.heap "com/example/nameroll/nameroll/core/Domain$Status" "PENDING_TRANSFER" "Lcom/example/nameroll/nameroll/core/Domain$Status;" (.ref w_PENDING_TRANSFER) ∧ Exa Z Z.heap w_PENDING_TRANSFER "com/example/nameroll/nameroll/core/Domain$Status" ∧ Sta Z Z.heap "com/example/nameroll/nameroll/core/Domain$Status" "PENDING_UPDATE" "Lcom/example/nameroll/nameroll/core/Domain$Status;" (.ref w_PENDING_UPDATE) ∧ Exa Z Z.heap w_PENDING_UPDATE "com/example/nameroll/nameroll/core/Domain$Status" ∧ Sta Z Z.heap "com/example/nameroll/nameroll/core/Domain$Status" "SERVER_DELETE_PROHIBITED" "Lcom/example/nameroll/nameroll/core/Domain$Status;" (.ref w_SERVER_DELETE_PROHIBITED) ∧ Exa Z Z.heap w_SERVER_DELETE_PROHIBITED "com/example/nameroll/nameroll/core/Domain$Status" ∧ Sta Z Z.heap "com/example/nameroll/nameroll/core/Domain$Status" "SERVER_HOLD" "Lcom/example/nameroll/nameroll/core/Domain$Status;" (.ref w_SERVER_HOLD) ∧ Exa Z Z.heap w_SERVER_HOLD "com/example/nameroll/nameroll/core/Domain$Status" ∧ Sta Z Z.heap "com/example/nameroll/nameroll/core/Domain$Status" "SERVER_RENEW_PROHIBITED" "Lcom/example/nameroll/nameroll/core/Domain$Status;" (.ref w_SERVER_RENEW_PROHIBITED) ∧ Exa Z Z.heap w_SERVER_RENEW_PROHIBITED "com/example/nameroll/nameroll/core/Domain$Status" ∧ Sta Z Z.heap "com/example/nameroll/nameroll/core/Domain$Status" "SERVER_TRANSFER_PROHIBITED" "Lcom/example/nameroll/nameroll/core/Domain$Status;" (.ref w_SERVER_TRANSFER_PROHIBITED) ∧ Exa Z Z.heap w_SERVER_TRANSFER_PROHIBITED "com/example/nameroll/nameroll/core/Domain$Status" ∧ Sta Z Z.heap "com/example/nameroll/nameroll/core/Domain$Status" "SERVER_UPDATE_PROHIBITED" "Lcom/example/nameroll/nameroll/core/Domain$Status;" (.ref w_SERVER_UPDATE_PROHIBITED) ∧ Exa Z Z.heap w_SERVER_UPDATE_PROHIBITED "com/example/nameroll/nameroll/core/Domain$Status" ∧ Fld Z Z.heap w_CLIENT_DELETE_PROHIBITED "java/lang/Enum" "ordinal" "I" (.int (0 : Int32)) ∧ Fld Z Z.heap w_CLIENT_HOLD "java/lang/Enum" "ordinal" "I" (.int (1 : Int32)) ∧ Fld Z Z.heap w_SERVER_HOLD "java/lang/Enum" "ordinal" "I" (.int (13 : Int32)) ∧ Fld Z Z.heap w_INACTIVE "java/lang/Enum" "ordinal" "I" (.int (5 : Int32)) ∧ Fld Z Z.heap w_PENDING_DELETE "java/lang/Enum" "ordinal" "I" (.int (8 : Int32)) ∧ Fld Z Z.heap w_CLIENT_TRANSFER_PROHIBITED "java/lang/Enum" "ordinal" "I" (.int (3 : Int32)) ∧ Fld Z Z.heap w_PENDING_RENEW "java/lang/Enum" "ordinal" "I" (.int (9 : Int32)) ∧ Fld Z Z.heap w_OK "java/lang/Enum" "ordinal" "I" (.int (6 : Int32)) ∧ Fld Z Z.heap w_PENDING_CREATE "java/lang/Enum" "ordinal" "I" (.int (7 : Int32)) ∧ Fld Z Z.heap w_CLIENT_RENEW_PROHIBITED "java/lang/Enum" "ordinal" "I" (.int (2 : Int32)) ∧ Fld Z Z.heap w_PENDING_UPDATE "java/lang/Enum" "ordinal" "I" (.int (11 : Int32)) ∧ Fld Z Z.heap w_CLIENT_UPDATE_PROHIBITED "java/lang/Enum" "ordinal" "I" (.int (4 : Int32)) ∧ Fld Z Z.heap w_PENDING_TRANSFER "java/lang/Enum" "ordinal" "I" (.int (10 : Int32)) ∧ Fld Z Z.heap w_SERVER_UPDATE_PROHIBITED "java/lang/Enum" "ordinal" "I" (.int (16 : Int32)) ∧ Fld Z Z.heap w_SERVER_TRANSFER_PROHIBITED "java/lang/Enum" "ordinal" "I" (.int (15 : Int32)) ∧ Fld Z Z.heap w_SERVER_RENEW_PROHIBITED "java/lang/Enum" "ordinal" "I" (.int (14 : Int32)) ∧ Fld Z Z.heap w_SERVER_DELETE_PROHIBITED "java/lang/Enum" "ordinal" "I" (.int (12 : Int32))
theorem d1_0 : decode prog_14_method_6_code 0 = .ok (.aload_n 0, 1) := by decide +kernel
theorem d1_1 : decode prog_14_method_6_code 1 = .ok (.getstatic 7, 3) := by decide +kernel
theorem d1_4 : decode prog_14_method_6_code 4 = .ok (.if_acmp .eq 24, 3) := by decide +kernel
theorem d1_28 : decode prog_14_method_6_code 28 = .ok (.iconst 1, 1) := by decide +kernel
theorem d1_29 : decode prog_14_method_6_code 29 = .ok (.goto 4, 3) := by decide +kernel
theorem d1_33 : decode prog_14_method_6_code 33 = .ok (.ireturn, 1) := by decide +kernel
theorem ef_1 (m : MethodId) (r0 : Addr) : entryFrame m #[(.ref r0)] 1 = mkF m 0 #[oA r0] [] := by first | (simp [entryFrame, mkF, argsToLocals, Value.category]; done) | rfl
theorem pn_0 : plainName "com/example/nameroll/nameroll/core/Domain$Status" = true := by first | (simp [plainName, overriddenIn]; done) | decide +kernel
theorem d1_7 : decode prog_14_method_6_code 7 = .ok (.aload_n 0, 1) := by decide +kernel
theorem d1_8 : decode prog_14_method_6_code 8 = .ok (.getstatic 43, 3) := by decide +kernel
theorem d1_11 : decode prog_14_method_6_code 11 = .ok (.if_acmp .eq 17, 3) := by decide +kernel
theorem d1_14 : decode prog_14_method_6_code 14 = .ok (.aload_n 0, 1) := by decide +kernel
theorem d1_15 : decode prog_14_method_6_code 15 = .ok (.getstatic 19, 3) := by decide +kernel
theorem d1_18 : decode prog_14_method_6_code 18 = .ok (.if_acmp .eq 10, 3) := by decide +kernel
theorem d1_21 : decode prog_14_method_6_code 21 = .ok (.aload_n 0, 1) := by decide +kernel
theorem d1_22 : decode prog_14_method_6_code 22 = .ok (.getstatic 28, 3) := by decide +kernel
theorem d1_25 : decode prog_14_method_6_code 25 = .ok (.if_acmp .ne 7, 3) := by decide +kernel
theorem d1_32 : decode prog_14_method_6_code 32 = .ok (.iconst 0, 1) := by decide +kernel
theorem pd_0 : parseMethodDescriptor "()Z" = some ⟨[], some .boolean⟩ := by decide +kernel
theorem ef_0 (m : MethodId) (x0 : Int32) : entryFrame m #[(.int x0)] maxLocals = mkF m 0 #[oI x0, oU, oU, oU] [] := by first | (simp [entryFrame, mkF, argsToLocals, Value.category, maxLocals]; done) | rfl
theorem pn_1 : plainName "com/example/nameroll/nameroll/core/StatusWithholdsDelegationPinLaw" = true := by first | (simp [plainName, overriddenIn]; done) | decide +kernel
set_option maxRecDepth 65536 in
set_option maxHeartbeats 40000000 in
theorem rm1_1 (l : Launch) (Z : State) (a0 : Array Value) (hw : ∀ d ∈ tables_1, d.before a0 Z = true) (ws : List Jvm.Cond) (w_CLIENT_DELETE_PROHIBITED w_CLIENT_HOLD w_CLIENT_RENEW_PROHIBITED w_CLIENT_TRANSFER_PROHIBITED w_CLIENT_UPDATE_PROHIBITED w_INACTIVE w_OK w_PENDING_CREATE w_PENDING_DELETE w_PENDING_RENEW w_PENDING_TRANSFER w_PENDING_UPDATE w_SERVER_DELETE_PROHIBITED w_SERVER_HOLD w_SERVER_RENEW_PROHIBITED w_SERVER_TRANSFER_PROHIBITED w_SERVER_UPDATE_PROHIBITED : Addr) (W : own_W Z w_CLIENT_DELETE_PROHIBITED w_CLIENT_HOLD w_CLIENT_RENEW_PROHIBITED w_CLIENT_TRANSFER_PROHIBITED w_CLIENT_UPDATE_PROHIBITED w_INACTIVE w_OK w_PENDING_CREATE w_PENDING_DELETE w_PENDING_RENEW w_PENDING_TRANSFER w_PENDING_UPDATE w_SERVER_DELETE_PROHIBITED w_SERVER_HOLD w_SERVER_RENEW_PROHIBITED w_SERVER_TRANSFER_PROHIBITED w_SERVER_UPDATE_PROHIBITED) (r0 : Addr) (h0 : Heap) (n0 : Nat) (O0 : Old Z n0 h0) (hc56 : r0 = w_CLIENT_HOLD) :
    MetFree l (⟨"com/example/nameroll/nameroll/core/Domain$Status", "withholdsDelegation", "()Z"⟩ : MethodName) (head1 (Jvm.Cond.code (⟨"com/example/nameroll/nameroll/core/Domain$Status", "withholdsDelegation", "()Z"⟩ : MethodName) prog_14_method_6_code 1 (some .boolean) :: ws) ({ frames := 0, cells := 0, slots := 0, locals := 0 } : Room)) (fun a U => a = #[(.ref r0)] ∧ Z.Warmed39 U.vm ∧ U.heap = h0) (fun _ _ _ _ _ => True) (fun _ U o U' => ∃ v L, o = .returned v ∧ own_Q (some (.int (1 : Int32))) n0 h0 v U'.heap L ∧ FrameEnd U o U' L ({ frames := 0, cells := 0, slots := 0, locals := 0 } : Room).cells ({ frames := 0, cells := 0, slots := 0, locals := 0 } : Room).slots) := by
  refine MetFree.of_bodySF (plainFor_of_name pn_0) hisR ?_
  intro p e s m args below meth c s₁ Bd hml0 hP hK
  obtain ⟨rfl, hZ, hh⟩ := hP
  have hx := Bd.exec
  have hby := Bd.bytes
  have hml : c.maxLocals = 1 := hml0
  have hlk := BodyLoose.notSynchronized Bd
  have hret := Bd.returns
  have hown : s.vm.findClass "com/example/nameroll/nameroll/core/Domain$Status" = some m.cls := findClass_of_methodNamed Bd.named
  have hnm := (name_of_methodNamed Bd.named Bd.method).1
  have X0 : Stand p l e ({ frames := 0, cells := 0, slots := 0, locals := 0 } : Room) s m #[(.ref r0)] below meth c s₁ [] 0 0 := Stand.of_body Bd
  have e0 : s₁.heap = h0 := by rw [← hh, Bd.state]; rfl
  have N0 := Fr.nil n0
  rw [ef_1 m r0]
  show Go p e below _ (s₁.setTop (mkF m 0 #[oA r0] []))
  refine own_aload_n 1 X0 hx hby d1_0 rfl rfl rfl ?_
  refine own_getS 4 X0 hx hby hZ hown (own_w hw 45 rfl) e0 (W.2.2.1.ext O0.2) d1_1 rfl ?_
  intro T55 X55 e55
  refine own_acmp 28 true X55 hx hby d1_4 rfl rfl (by decide) (by decide) (decide_eq_true (congrArg Value.ref hc56)) ?_
  refine own_iconst 29 (1 : Int32) X55 hx hby d1_28 rfl (by decide) ?_
  refine own_goto 33 X55 hx hby d1_29 (by decide) (by decide) ?_
  exact own_ret (Q := own_Q _ n0 h0) X55 hx hby hret hlk d1_33 rfl (Or.inl ⟨rfl, by simp, _, rfl⟩) (by decide) (by decide) ⟨rfl, N0, e55⟩
set_option maxRecDepth 65536 in
set_option maxHeartbeats 40000000 in
theorem rm1_2 (l : Launch) (Z : State) (a0 : Array Value) (hw : ∀ d ∈ tables_1, d.before a0 Z = true) (ws : List Jvm.Cond) (w_CLIENT_DELETE_PROHIBITED w_CLIENT_HOLD w_CLIENT_RENEW_PROHIBITED w_CLIENT_TRANSFER_PROHIBITED w_CLIENT_UPDATE_PROHIBITED w_INACTIVE w_OK w_PENDING_CREATE w_PENDING_DELETE w_PENDING_RENEW w_PENDING_TRANSFER w_PENDING_UPDATE w_SERVER_DELETE_PROHIBITED w_SERVER_HOLD w_SERVER_RENEW_PROHIBITED w_SERVER_TRANSFER_PROHIBITED w_SERVER_UPDATE_PROHIBITED : Addr) (W : own_W Z w_CLIENT_DELETE_PROHIBITED w_CLIENT_HOLD w_CLIENT_RENEW_PROHIBITED w_CLIENT_TRANSFER_PROHIBITED w_CLIENT_UPDATE_PROHIBITED w_INACTIVE w_OK w_PENDING_CREATE w_PENDING_DELETE w_PENDING_RENEW w_PENDING_TRANSFER w_PENDING_UPDATE w_SERVER_DELETE_PROHIBITED w_SERVER_HOLD w_SERVER_RENEW_PROHIBITED w_SERVER_TRANSFER_PROHIBITED w_SERVER_UPDATE_PROHIBITED) (r0 : Addr) (h0 : Heap) (n0 : Nat) (O0 : Old Z n0 h0) (hc56 : ¬ (r0 = w_CLIENT_HOLD)) (hc58 : r0 = w_SERVER_HOLD) :
    MetFree l (⟨"com/example/nameroll/nameroll/core/Domain$Status", "withholdsDelegation", "()Z"⟩ : MethodName) (head1 (Jvm.Cond.code (⟨"com/example/nameroll/nameroll/core/Domain$Status", "withholdsDelegation", "()Z"⟩ : MethodName) prog_14_method_6_code 1 (some .boolean) :: ws) ({ frames := 0, cells := 0, slots := 0, locals := 0 } : Room)) (fun a U => a = #[(.ref r0)] ∧ Z.Warmed39 U.vm ∧ U.heap = h0) (fun _ _ _ _ _ => True) (fun _ U o U' => ∃ v L, o = .returned v ∧ own_Q (some (.int (1 : Int32))) n0 h0 v U'.heap L ∧ FrameEnd U o U' L ({ frames := 0, cells := 0, slots := 0, locals := 0 } : Room).cells ({ frames := 0, cells := 0, slots := 0, locals := 0 } : Room).slots) := by
  refine MetFree.of_bodySF (plainFor_of_name pn_0) hisR ?_
  intro p e s m args below meth c s₁ Bd hml0 hP hK
  obtain ⟨rfl, hZ, hh⟩ := hP
  have hx := Bd.exec
  have hby := Bd.bytes
  have hml : c.maxLocals = 1 := hml0
  have hlk := BodyLoose.notSynchronized Bd
  have hret := Bd.returns
  have hown : s.vm.findClass "com/example/nameroll/nameroll/core/Domain$Status" = some m.cls := findClass_of_methodNamed Bd.named
  have hnm := (name_of_methodNamed Bd.named Bd.method).1
  have X0 : Stand p l e ({ frames := 0, cells := 0, slots := 0, locals := 0 } : Room) s m #[(.ref r0)] below meth c s₁ [] 0 0 := Stand.of_body Bd
  have e0 : s₁.heap = h0 := by rw [← hh, Bd.state]; rfl
  have N0 := Fr.nil n0
  rw [ef_1 m r0]
  show Go p e below _ (s₁.setTop (mkF m 0 #[oA r0] []))
  refine own_aload_n 1 X0 hx hby d1_0 rfl rfl rfl ?_
  refine own_getS 4 X0 hx hby hZ hown (own_w hw 45 rfl) e0 (W.2.2.1.ext O0.2) d1_1 rfl ?_
  intro T55 X55 e55
  refine own_acmp 7 false X55 hx hby d1_4 rfl rfl (by decide) (by decide) (decide_eq_false fun q => hc56 (Value.ref.inj q)) ?_
  refine own_aload_n 8 X55 hx hby d1_7 rfl rfl rfl ?_
  refine own_getS 11 X55 hx hby hZ hown (own_w hw 46 rfl) e55 (W.2.2.2.2.2.2.2.2.2.2.2.2.2.2.2.2.2.2.2.2.2.2.2.2.2.2.1.ext O0.2) d1_8 rfl ?_
  intro T57 X57 e57
  refine own_acmp 28 true X57 hx hby d1_11 rfl rfl (by decide) (by decide) (decide_eq_true (congrArg Value.ref hc58)) ?_
  refine own_iconst 29 (1 : Int32) X57 hx hby d1_28 rfl (by decide) ?_
  refine own_goto 33 X57 hx hby d1_29 (by decide) (by decide) ?_
  exact own_ret (Q := own_Q _ n0 h0) X57 hx hby hret hlk d1_33 rfl (Or.inl ⟨rfl, by simp, _, rfl⟩) (by decide) (by decide) ⟨rfl, N0, e57⟩
set_option maxRecDepth 65536 in
set_option maxHeartbeats 40000000 in
theorem rm1_3 (l : Launch) (Z : State) (a0 : Array Value) (hw : ∀ d ∈ tables_1, d.before a0 Z = true) (ws : List Jvm.Cond) (w_CLIENT_DELETE_PROHIBITED w_CLIENT_HOLD w_CLIENT_RENEW_PROHIBITED w_CLIENT_TRANSFER_PROHIBITED w_CLIENT_UPDATE_PROHIBITED w_INACTIVE w_OK w_PENDING_CREATE w_PENDING_DELETE w_PENDING_RENEW w_PENDING_TRANSFER w_PENDING_UPDATE w_SERVER_DELETE_PROHIBITED w_SERVER_HOLD w_SERVER_RENEW_PROHIBITED w_SERVER_TRANSFER_PROHIBITED w_SERVER_UPDATE_PROHIBITED : Addr) (W : own_W Z w_CLIENT_DELETE_PROHIBITED w_CLIENT_HOLD w_CLIENT_RENEW_PROHIBITED w_CLIENT_TRANSFER_PROHIBITED w_CLIENT_UPDATE_PROHIBITED w_INACTIVE w_OK w_PENDING_CREATE w_PENDING_DELETE w_PENDING_RENEW w_PENDING_TRANSFER w_PENDING_UPDATE w_SERVER_DELETE_PROHIBITED w_SERVER_HOLD w_SERVER_RENEW_PROHIBITED w_SERVER_TRANSFER_PROHIBITED w_SERVER_UPDATE_PROHIBITED) (r0 : Addr) (h0 : Heap) (n0 : Nat) (O0 : Old Z n0 h0) (hc56 : ¬ (r0 = w_CLIENT_HOLD)) (hc58 : ¬ (r0 = w_SERVER_HOLD)) (hc60 : r0 = w_INACTIVE) :
    MetFree l (⟨"com/example/nameroll/nameroll/core/Domain$Status", "withholdsDelegation", "()Z"⟩ : MethodName) (head1 (Jvm.Cond.code (⟨"com/example/nameroll/nameroll/core/Domain$Status", "withholdsDelegation", "()Z"⟩ : MethodName) prog_14_method_6_code 1 (some .boolean) :: ws) ({ frames := 0, cells := 0, slots := 0, locals := 0 } : Room)) (fun a U => a = #[(.ref r0)] ∧ Z.Warmed39 U.vm ∧ U.heap = h0) (fun _ _ _ _ _ => True) (fun _ U o U' => ∃ v L, o = .returned v ∧ own_Q (some (.int (1 : Int32))) n0 h0 v U'.heap L ∧ FrameEnd U o U' L ({ frames := 0, cells := 0, slots := 0, locals := 0 } : Room).cells ({ frames := 0, cells := 0, slots := 0, locals := 0 } : Room).slots) := by
  refine MetFree.of_bodySF (plainFor_of_name pn_0) hisR ?_
  intro p e s m args below meth c s₁ Bd hml0 hP hK
  obtain ⟨rfl, hZ, hh⟩ := hP
  have hx := Bd.exec
  have hby := Bd.bytes
  have hml : c.maxLocals = 1 := hml0
  have hlk := BodyLoose.notSynchronized Bd
  have hret := Bd.returns
  have hown : s.vm.findClass "com/example/nameroll/nameroll/core/Domain$Status" = some m.cls := findClass_of_methodNamed Bd.named
  have hnm := (name_of_methodNamed Bd.named Bd.method).1
  have X0 : Stand p l e ({ frames := 0, cells := 0, slots := 0, locals := 0 } : Room) s m #[(.ref r0)] below meth c s₁ [] 0 0 := Stand.of_body Bd
  have e0 : s₁.heap = h0 := by rw [← hh, Bd.state]; rfl
  have N0 := Fr.nil n0
  rw [ef_1 m r0]
  show Go p e below _ (s₁.setTop (mkF m 0 #[oA r0] []))
  refine own_aload_n 1 X0 hx hby d1_0 rfl rfl rfl ?_
  refine own_getS 4 X0 hx hby hZ hown (own_w hw 45 rfl) e0 (W.2.2.1.ext O0.2) d1_1 rfl ?_
  intro T55 X55 e55
  refine own_acmp 7 false X55 hx hby d1_4 rfl rfl (by decide) (by decide) (decide_eq_false fun q => hc56 (Value.ref.inj q)) ?_
  refine own_aload_n 8 X55 hx hby d1_7 rfl rfl rfl ?_
  refine own_getS 11 X55 hx hby hZ hown (own_w hw 46 rfl) e55 (W.2.2.2.2.2.2.2.2.2.2.2.2.2.2.2.2.2.2.2.2.2.2.2.2.2.2.1.ext O0.2) d1_8 rfl ?_
  intro T57 X57 e57
  refine own_acmp 14 false X57 hx hby d1_11 rfl rfl (by decide) (by decide) (decide_eq_false fun q => hc58 (Value.ref.inj q)) ?_
  refine own_aload_n 15 X57 hx hby d1_14 rfl rfl rfl ?_
  refine own_getS 18 X57 hx hby hZ hown (own_w hw 47 rfl) e57 (W.2.2.2.2.2.2.2.2.2.2.1.ext O0.2) d1_15 rfl ?_
  intro T59 X59 e59
  refine own_acmp 28 true X59 hx hby d1_18 rfl rfl (by decide) (by decide) (decide_eq_true (congrArg Value.ref hc60)) ?_
  refine own_iconst 29 (1 : Int32) X59 hx hby d1_28 rfl (by decide) ?_
  refine own_goto 33 X59 hx hby d1_29 (by decide) (by decide) ?_
  exact own_ret (Q := own_Q _ n0 h0) X59 hx hby hret hlk d1_33 rfl (Or.inl ⟨rfl, by simp, _, rfl⟩) (by decide) (by decide) ⟨rfl, N0, e59⟩
set_option maxRecDepth 65536 in
set_option maxHeartbeats 40000000 in
theorem rm1_4 (l : Launch) (Z : State) (a0 : Array Value) (hw : ∀ d ∈ tables_1, d.before a0 Z = true) (ws : List Jvm.Cond) (w_CLIENT_DELETE_PROHIBITED w_CLIENT_HOLD w_CLIENT_RENEW_PROHIBITED w_CLIENT_TRANSFER_PROHIBITED w_CLIENT_UPDATE_PROHIBITED w_INACTIVE w_OK w_PENDING_CREATE w_PENDING_DELETE w_PENDING_RENEW w_PENDING_TRANSFER w_PENDING_UPDATE w_SERVER_DELETE_PROHIBITED w_SERVER_HOLD w_SERVER_RENEW_PROHIBITED w_SERVER_TRANSFER_PROHIBITED w_SERVER_UPDATE_PROHIBITED : Addr) (W : own_W Z w_CLIENT_DELETE_PROHIBITED w_CLIENT_HOLD w_CLIENT_RENEW_PROHIBITED w_CLIENT_TRANSFER_PROHIBITED w_CLIENT_UPDATE_PROHIBITED w_INACTIVE w_OK w_PENDING_CREATE w_PENDING_DELETE w_PENDING_RENEW w_PENDING_TRANSFER w_PENDING_UPDATE w_SERVER_DELETE_PROHIBITED w_SERVER_HOLD w_SERVER_RENEW_PROHIBITED w_SERVER_TRANSFER_PROHIBITED w_SERVER_UPDATE_PROHIBITED) (r0 : Addr) (h0 : Heap) (n0 : Nat) (O0 : Old Z n0 h0) (hc56 : ¬ (r0 = w_CLIENT_HOLD)) (hc58 : ¬ (r0 = w_SERVER_HOLD)) (hc60 : ¬ (r0 = w_INACTIVE)) (hc62 : r0 = w_PENDING_DELETE) :
    MetFree l (⟨"com/example/nameroll/nameroll/core/Domain$Status", "withholdsDelegation", "()Z"⟩ : MethodName) (head1 (Jvm.Cond.code (⟨"com/example/nameroll/nameroll/core/Domain$Status", "withholdsDelegation", "()Z"⟩ : MethodName) prog_14_method_6_code 1 (some .boolean) :: ws) ({ frames := 0, cells := 0, slots := 0, locals := 0 } : Room)) (fun a U => a = #[(.ref r0)] ∧ Z.Warmed39 U.vm ∧ U.heap = h0) (fun _ _ _ _ _ => True) (fun _ U o U' => ∃ v L, o = .returned v ∧ own_Q (some (.int (1 : Int32))) n0 h0 v U'.heap L ∧ FrameEnd U o U' L ({ frames := 0, cells := 0, slots := 0, locals := 0 } : Room).cells ({ frames := 0, cells := 0, slots := 0, locals := 0 } : Room).slots) := by
  refine MetFree.of_bodySF (plainFor_of_name pn_0) hisR ?_
  intro p e s m args below meth c s₁ Bd hml0 hP hK
  obtain ⟨rfl, hZ, hh⟩ := hP
  have hx := Bd.exec
  have hby := Bd.bytes
  have hml : c.maxLocals = 1 := hml0
  have hlk := BodyLoose.notSynchronized Bd
  have hret := Bd.returns
  have hown : s.vm.findClass "com/example/nameroll/nameroll/core/Domain$Status" = some m.cls := findClass_of_methodNamed Bd.named
  have hnm := (name_of_methodNamed Bd.named Bd.method).1
  have X0 : Stand p l e ({ frames := 0, cells := 0, slots := 0, locals := 0 } : Room) s m #[(.ref r0)] below meth c s₁ [] 0 0 := Stand.of_body Bd
  have e0 : s₁.heap = h0 := by rw [← hh, Bd.state]; rfl
  have N0 := Fr.nil n0
  rw [ef_1 m r0]
  show Go p e below _ (s₁.setTop (mkF m 0 #[oA r0] []))
  refine own_aload_n 1 X0 hx hby d1_0 rfl rfl rfl ?_
  refine own_getS 4 X0 hx hby hZ hown (own_w hw 45 rfl) e0 (W.2.2.1.ext O0.2) d1_1 rfl ?_
  intro T55 X55 e55
  refine own_acmp 7 false X55 hx hby d1_4 rfl rfl (by decide) (by decide) (decide_eq_false fun q => hc56 (Value.ref.inj q)) ?_
  refine own_aload_n 8 X55 hx hby d1_7 rfl rfl rfl ?_
  refine own_getS 11 X55 hx hby hZ hown (own_w hw 46 rfl) e55 (W.2.2.2.2.2.2.2.2.2.2.2.2.2.2.2.2.2.2.2.2.2.2.2.2.2.2.1.ext O0.2) d1_8 rfl ?_
  intro T57 X57 e57
  refine own_acmp 14 false X57 hx hby d1_11 rfl rfl (by decide) (by decide) (decide_eq_false fun q => hc58 (Value.ref.inj q)) ?_
  refine own_aload_n 15 X57 hx hby d1_14 rfl rfl rfl ?_
  refine own_getS 18 X57 hx hby hZ hown (own_w hw 47 rfl) e57 (W.2.2.2.2.2.2.2.2.2.2.1.ext O0.2) d1_15 rfl ?_
  intro T59 X59 e59
  refine own_acmp 21 false X59 hx hby d1_18 rfl rfl (by decide) (by decide) (decide_eq_false fun q => hc60 (Value.ref.inj q)) ?_
  refine own_aload_n 22 X59 hx hby d1_21 rfl rfl rfl ?_
  refine own_getS 25 X59 hx hby hZ hown (own_w hw 48 rfl) e59 (W.2.2.2.2.2.2.2.2.2.2.2.2.2.2.2.2.1.ext O0.2) d1_22 rfl ?_
  intro T61 X61 e61
  refine own_acmp 28 true X61 hx hby d1_25 rfl rfl (by decide) (by decide) (decide_eq_true (congrArg Value.ref hc62)) ?_
  refine own_iconst 29 (1 : Int32) X61 hx hby d1_28 rfl (by decide) ?_
  refine own_goto 33 X61 hx hby d1_29 (by decide) (by decide) ?_
  exact own_ret (Q := own_Q _ n0 h0) X61 hx hby hret hlk d1_33 rfl (Or.inl ⟨rfl, by simp, _, rfl⟩) (by decide) (by decide) ⟨rfl, N0, e61⟩
set_option maxRecDepth 65536 in
set_option maxHeartbeats 40000000 in
theorem rm1_5 (l : Launch) (Z : State) (a0 : Array Value) (hw : ∀ d ∈ tables_1, d.before a0 Z = true) (ws : List Jvm.Cond) (w_CLIENT_DELETE_PROHIBITED w_CLIENT_HOLD w_CLIENT_RENEW_PROHIBITED w_CLIENT_TRANSFER_PROHIBITED w_CLIENT_UPDATE_PROHIBITED w_INACTIVE w_OK w_PENDING_CREATE w_PENDING_DELETE w_PENDING_RENEW w_PENDING_TRANSFER w_PENDING_UPDATE w_SERVER_DELETE_PROHIBITED w_SERVER_HOLD w_SERVER_RENEW_PROHIBITED w_SERVER_TRANSFER_PROHIBITED w_SERVER_UPDATE_PROHIBITED : Addr) (W : own_W Z w_CLIENT_DELETE_PROHIBITED w_CLIENT_HOLD w_CLIENT_RENEW_PROHIBITED w_CLIENT_TRANSFER_PROHIBITED w_CLIENT_UPDATE_PROHIBITED w_INACTIVE w_OK w_PENDING_CREATE w_PENDING_DELETE w_PENDING_RENEW w_PENDING_TRANSFER w_PENDING_UPDATE w_SERVER_DELETE_PROHIBITED w_SERVER_HOLD w_SERVER_RENEW_PROHIBITED w_SERVER_TRANSFER_PROHIBITED w_SERVER_UPDATE_PROHIBITED) (r0 : Addr) (h0 : Heap) (n0 : Nat) (O0 : Old Z n0 h0) (hc56 : ¬ (r0 = w_CLIENT_HOLD)) (hc58 : ¬ (r0 = w_SERVER_HOLD)) (hc60 : ¬ (r0 = w_INACTIVE)) (hc62 : ¬ (r0 = w_PENDING_DELETE)) :
    MetFree l (⟨"com/example/nameroll/nameroll/core/Domain$Status", "withholdsDelegation", "()Z"⟩ : MethodName) (head1 (Jvm.Cond.code (⟨"com/example/nameroll/nameroll/core/Domain$Status", "withholdsDelegation", "()Z"⟩ : MethodName) prog_14_method_6_code 1 (some .boolean) :: ws) ({ frames := 0, cells := 0, slots := 0, locals := 0 } : Room)) (fun a U => a = #[(.ref r0)] ∧ Z.Warmed39 U.vm ∧ U.heap = h0) (fun _ _ _ _ _ => True) (fun _ U o U' => ∃ v L, o = .returned v ∧ own_Q (some (.int (0 : Int32))) n0 h0 v U'.heap L ∧ FrameEnd U o U' L ({ frames := 0, cells := 0, slots := 0, locals := 0 } : Room).cells ({ frames := 0, cells := 0, slots := 0, locals := 0 } : Room).slots) := by
  refine MetFree.of_bodySF (plainFor_of_name pn_0) hisR ?_
  intro p e s m args below meth c s₁ Bd hml0 hP hK
  obtain ⟨rfl, hZ, hh⟩ := hP
  have hx := Bd.exec
  have hby := Bd.bytes
  have hml : c.maxLocals = 1 := hml0
  have hlk := BodyLoose.notSynchronized Bd
  have hret := Bd.returns
  have hown : s.vm.findClass "com/example/nameroll/nameroll/core/Domain$Status" = some m.cls := findClass_of_methodNamed Bd.named
  have hnm := (name_of_methodNamed Bd.named Bd.method).1
  have X0 : Stand p l e ({ frames := 0, cells := 0, slots := 0, locals := 0 } : Room) s m #[(.ref r0)] below meth c s₁ [] 0 0 := Stand.of_body Bd
  have e0 : s₁.heap = h0 := by rw [← hh, Bd.state]; rfl
  have N0 := Fr.nil n0
  rw [ef_1 m r0]
  show Go p e below _ (s₁.setTop (mkF m 0 #[oA r0] []))
  refine own_aload_n 1 X0 hx hby d1_0 rfl rfl rfl ?_
  refine own_getS 4 X0 hx hby hZ hown (own_w hw 45 rfl) e0 (W.2.2.1.ext O0.2) d1_1 rfl ?_
  intro T55 X55 e55
  refine own_acmp 7 false X55 hx hby d1_4 rfl rfl (by decide) (by decide) (decide_eq_false fun q => hc56 (Value.ref.inj q)) ?_
  refine own_aload_n 8 X55 hx hby d1_7 rfl rfl rfl ?_
  refine own_getS 11 X55 hx hby hZ hown (own_w hw 46 rfl) e55 (W.2.2.2.2.2.2.2.2.2.2.2.2.2.2.2.2.2.2.2.2.2.2.2.2.2.2.1.ext O0.2) d1_8 rfl ?_
  intro T57 X57 e57
  refine own_acmp 14 false X57 hx hby d1_11 rfl rfl (by decide) (by decide) (decide_eq_false fun q => hc58 (Value.ref.inj q)) ?_
  refine own_aload_n 15 X57 hx hby d1_14 rfl rfl rfl ?_
  refine own_getS 18 X57 hx hby hZ hown (own_w hw 47 rfl) e57 (W.2.2.2.2.2.2.2.2.2.2.1.ext O0.2) d1_15 rfl ?_
  intro T59 X59 e59
  refine own_acmp 21 false X59 hx hby d1_18 rfl rfl (by decide) (by decide) (decide_eq_false fun q => hc60 (Value.ref.inj q)) ?_
  refine own_aload_n 22 X59 hx hby d1_21 rfl rfl rfl ?_
  refine own_getS 25 X59 hx hby hZ hown (own_w hw 48 rfl) e59 (W.2.2.2.2.2.2.2.2.2.2.2.2.2.2.2.2.1.ext O0.2) d1_22 rfl ?_
  intro T61 X61 e61
  refine own_acmp 32 false X61 hx hby d1_25 rfl rfl (by decide) (by decide) (decide_eq_false fun q => hc62 (Value.ref.inj q)) ?_
  refine own_iconst 33 (0 : Int32) X61 hx hby d1_32 rfl (by decide) ?_
  exact own_ret (Q := own_Q _ n0 h0) X61 hx hby hret hlk d1_33 rfl (Or.inl ⟨rfl, by simp, _, rfl⟩) (by decide) (by decide) ⟨rfl, N0, e61⟩
set_option maxRecDepth 65536 in
set_option maxHeartbeats 40000000 in
theorem rm0 (l : Launch) (Z : State) (a0 : Array Value) (hw : ∀ d ∈ tables_1, d.before a0 Z = true) (ws : List Jvm.Cond) (w_CLIENT_DELETE_PROHIBITED w_CLIENT_HOLD w_CLIENT_RENEW_PROHIBITED w_CLIENT_TRANSFER_PROHIBITED w_CLIENT_UPDATE_PROHIBITED w_INACTIVE w_OK w_PENDING_CREATE w_PENDING_DELETE w_PENDING_RENEW w_PENDING_TRANSFER w_PENDING_UPDATE w_SERVER_DELETE_PROHIBITED w_SERVER_HOLD w_SERVER_RENEW_PROHIBITED w_SERVER_TRANSFER_PROHIBITED w_SERVER_UPDATE_PROHIBITED : Addr) (W : own_W Z w_CLIENT_DELETE_PROHIBITED w_CLIENT_HOLD w_CLIENT_RENEW_PROHIBITED w_CLIENT_TRANSFER_PROHIBITED w_CLIENT_UPDATE_PROHIBITED w_INACTIVE w_OK w_PENDING_CREATE w_PENDING_DELETE w_PENDING_RENEW w_PENDING_TRANSFER w_PENDING_UPDATE w_SERVER_DELETE_PROHIBITED w_SERVER_HOLD w_SERVER_RENEW_PROHIBITED w_SERVER_TRANSFER_PROHIBITED w_SERVER_UPDATE_PROHIBITED) (x0 : Int32) (h0 : Heap) (n0 : Nat) (O0 : Old Z n0 h0)  :
    MetFree l x (head1 (Jvm.Cond.code x code maxLocals ret :: ws) room_1) (fun a U => a = #[(.int x0)] ∧ Z.Warmed39 U.vm ∧ U.heap = h0) (fun _ _ _ _ _ => True) (fun _ U o U' => ∃ v L, o = .returned v ∧ own_Q1 n0 v U'.heap L ∧ FrameEnd U o U' L 16 192) := by
  refine MetFree.of_bodySF (plainFor_of_name pn_1) hisR ?_
  intro p e s m args below meth c s₁ Bd hml0 hP hK
  obtain ⟨rfl, hZ, hh⟩ := hP
  have hx := Bd.exec
  have hby := Bd.bytes
  have hml : c.maxLocals = 4 := hml0
  have hlk := BodyLoose.notSynchronized Bd
  have hret := Bd.returns
  have hown : s.vm.findClass "com/example/nameroll/nameroll/core/StatusWithholdsDelegationPinLaw" = some m.cls := findClass_of_methodNamed Bd.named
  have hnm := (name_of_methodNamed Bd.named Bd.method).1
  have X0 : Stand p l e room_1 s m #[(.int x0)] below meth c s₁ [] 0 0 := Stand.of_body Bd
  have e0 : s₁.heap = h0 := by rw [← hh, Bd.state]; rfl
  have N0 := Fr.nil n0
  rw [ef_0 m x0]
  show Go p e below _ (s₁.setTop (mkF m 0 #[oI x0, oU, oU, oU] []))
  refine own_bipush 2 (17 : Int32) X0 hx hby at_0 rfl (by decide) ?_
  refine own_newR 5 17 X0 hx hby hZ hown (own_w hw 0 rfl) (own_w hw 1 rfl) e0 at_2 rfl (by decide) (by decide) (by decide) (by decide) (by decide) ?_
  intro T1 h1 k1 b1 X1 e1 E1 g1 V1 O_1
  have V1 : Arv Z h1 b1 k1 (.object "com/example/nameroll/nameroll/core/Domain$Status") (17 : Int32) [.null, .null, .null, .null, .null, .null, .null, .null, .null, .null, .null, .null, .null, .null, .null, .null, .null] .null := V1
  have n_b1 : n0 ≤ b1 := Nat.le_trans (own_n0 O0) (Nat.le_of_eq g1.symm)
  have O1 := O0.ext E1
  show Go p e below _ (T1.setTop (mkF m 5 _ [(.ref b1)]))
  refine own_dup 6 X1 hx hby at_5 rfl rfl ?_
  refine own_iconst 7 (0 : Int32) X1 hx hby at_6 rfl (by decide) ?_
  refine own_getS 10 X1 hx hby hZ hown (own_w hw 2 rfl) e1 (W.1.ext O1.2) at_7 rfl ?_
  intro T2 X2 e2
  refine own_stR 11 0 X2 hx hby hZ e2 V1 O_1 (Ins.self (W.2.1.ext O1.2)) at_10 rfl (by decide) (by decide) (Nat.le_of_ble_eq_true rfl) ?_
  intro T3 h3 X3 e3 W3 V3
  have V3 : Arv Z h3 b1 k1 (.object "com/example/nameroll/nameroll/core/Domain$Status") (17 : Int32) [(.ref w_CLIENT_DELETE_PROHIBITED), .null, .null, .null, .null, .null, .null, .null, .null, .null, .null, .null, .null, .null, .null, .null, .null] .null := V3
  have N3 := Fr.snoc X3 N0 n_b1
  have O3 := O1.wr W3 n_b1
  refine own_dup 12 X3 hx hby at_11 rfl rfl ?_
  refine own_iconst 13 (1 : Int32) X3 hx hby at_12 rfl (by decide) ?_
  refine own_getS 16 X3 hx hby hZ hown (own_w hw 6 rfl) e3 (W.2.2.1.ext O3.2) at_13 rfl ?_
  intro T4 X4 e4
  refine own_stR 17 1 X4 hx hby hZ e4 V3 O_1 (Ins.self (W.2.2.2.1.ext O3.2)) at_16 rfl (by decide) (by decide) (Nat.le_of_ble_eq_true rfl) ?_
  intro T5 h5 X5 e5 W5 V5
  have V5 : Arv Z h5 b1 k1 (.object "com/example/nameroll/nameroll/core/Domain$Status") (17 : Int32) [(.ref w_CLIENT_DELETE_PROHIBITED), (.ref w_CLIENT_HOLD), .null, .null, .null, .null, .null, .null, .null, .null, .null, .null, .null, .null, .null, .null, .null] .null := V5
  have N5 := Fr.snoc X5 N3 n_b1
  have O5 := O3.wr W5 n_b1
  refine own_dup 18 X5 hx hby at_17 rfl rfl ?_
  refine own_iconst 19 (2 : Int32) X5 hx hby at_18 rfl (by decide) ?_
  refine own_getS 22 X5 hx hby hZ hown (own_w hw 8 rfl) e5 (W.2.2.2.2.1.ext O5.2) at_19 rfl ?_
  intro T6 X6 e6
  refine own_stR 23 2 X6 hx hby hZ e6 V5 O_1 (Ins.self (W.2.2.2.2.2.1.ext O5.2)) at_22 rfl (by decide) (by decide) (Nat.le_of_ble_eq_true rfl) ?_
  intro T7 h7 X7 e7 W7 V7
  have V7 : Arv Z h7 b1 k1 (.object "com/example/nameroll/nameroll/core/Domain$Status") (17 : Int32) [(.ref w_CLIENT_DELETE_PROHIBITED), (.ref w_CLIENT_HOLD), (.ref w_CLIENT_RENEW_PROHIBITED), .null, .null, .null, .null, .null, .null, .null, .null, .null, .null, .null, .null, .null, .null] .null := V7
  have N7 := Fr.snoc X7 N5 n_b1
  have O7 := O5.wr W7 n_b1
  refine own_dup 24 X7 hx hby at_23 rfl rfl ?_
  refine own_iconst 25 (3 : Int32) X7 hx hby at_24 rfl (by decide) ?_
  refine own_getS 28 X7 hx hby hZ hown (own_w hw 10 rfl) e7 (W.2.2.2.2.2.2.1.ext O7.2) at_25 rfl ?_
  intro T8 X8 e8
  refine own_stR 29 3 X8 hx hby hZ e8 V7 O_1 (Ins.self (W.2.2.2.2.2.2.2.1.ext O7.2)) at_28 rfl (by decide) (by decide) (Nat.le_of_ble_eq_true rfl) ?_
  intro T9 h9 X9 e9 W9 V9
  have V9 : Arv Z h9 b1 k1 (.object "com/example/nameroll/nameroll/core/Domain$Status") (17 : Int32) [(.ref w_CLIENT_DELETE_PROHIBITED), (.ref w_CLIENT_HOLD), (.ref w_CLIENT_RENEW_PROHIBITED), (.ref w_CLIENT_TRANSFER_PROHIBITED), .null, .null, .null, .null, .null, .null, .null, .null, .null, .null, .null, .null, .null] .null := V9
  have N9 := Fr.snoc X9 N7 n_b1
  have O9 := O7.wr W9 n_b1
  refine own_dup 30 X9 hx hby at_29 rfl rfl ?_
  refine own_iconst 31 (4 : Int32) X9 hx hby at_30 rfl (by decide) ?_
  refine own_getS 34 X9 hx hby hZ hown (own_w hw 12 rfl) e9 (W.2.2.2.2.2.2.2.2.1.ext O9.2) at_31 rfl ?_
  intro T10 X10 e10
  refine own_stR 35 4 X10 hx hby hZ e10 V9 O_1 (Ins.self (W.2.2.2.2.2.2.2.2.2.1.ext O9.2)) at_34 rfl (by decide) (by decide) (Nat.le_of_ble_eq_true rfl) ?_
  intro T11 h11 X11 e11 W11 V11
  have V11 : Arv Z h11 b1 k1 (.object "com/example/nameroll/nameroll/core/Domain$Status") (17 : Int32) [(.ref w_CLIENT_DELETE_PROHIBITED), (.ref w_CLIENT_HOLD), (.ref w_CLIENT_RENEW_PROHIBITED), (.ref w_CLIENT_TRANSFER_PROHIBITED), (.ref w_CLIENT_UPDATE_PROHIBITED), .null, .null, .null, .null, .null, .null, .null, .null, .null, .null, .null, .null] .null := V11
  have N11 := Fr.snoc X11 N9 n_b1
  have O11 := O9.wr W11 n_b1
  refine own_dup 36 X11 hx hby at_35 rfl rfl ?_
  refine own_iconst 37 (5 : Int32) X11 hx hby at_36 rfl (by decide) ?_
  refine own_getS 40 X11 hx hby hZ hown (own_w hw 14 rfl) e11 (W.2.2.2.2.2.2.2.2.2.2.1.ext O11.2) at_37 rfl ?_
  intro T12 X12 e12
  refine own_stR 41 5 X12 hx hby hZ e12 V11 O_1 (Ins.self (W.2.2.2.2.2.2.2.2.2.2.2.1.ext O11.2)) at_40 rfl (by decide) (by decide) (Nat.le_of_ble_eq_true rfl) ?_
  intro T13 h13 X13 e13 W13 V13
  have V13 : Arv Z h13 b1 k1 (.object "com/example/nameroll/nameroll/core/Domain$Status") (17 : Int32) [(.ref w_CLIENT_DELETE_PROHIBITED), (.ref w_CLIENT_HOLD), (.ref w_CLIENT_RENEW_PROHIBITED), (.ref w_CLIENT_TRANSFER_PROHIBITED), (.ref w_CLIENT_UPDATE_PROHIBITED), (.ref w_INACTIVE), .null, .null, .null, .null, .null, .null, .null, .null, .null, .null, .null] .null := V13
  have N13 := Fr.snoc X13 N11 n_b1
  have O13 := O11.wr W13 n_b1
  refine own_dup 42 X13 hx hby at_41 rfl rfl ?_
  refine own_bipush 44 (6 : Int32) X13 hx hby at_42 rfl (by decide) ?_
  refine own_getS 47 X13 hx hby hZ hown (own_w hw 16 rfl) e13 (W.2.2.2.2.2.2.2.2.2.2.2.2.1.ext O13.2) at_44 rfl ?_
  intro T14 X14 e14
  refine own_stR 48 6 X14 hx hby hZ e14 V13 O_1 (Ins.self (W.2.2.2.2.2.2.2.2.2.2.2.2.2.1.ext O13.2)) at_47 rfl (by decide) (by decide) (Nat.le_of_ble_eq_true rfl) ?_
  intro T15 h15 X15 e15 W15 V15
  have V15 : Arv Z h15 b1 k1 (.object "com/example/nameroll/nameroll/core/Domain$Status") (17 : Int32) [(.ref w_CLIENT_DELETE_PROHIBITED), (.ref w_CLIENT_HOLD), (.ref w_CLIENT_RENEW_PROHIBITED), (.ref w_CLIENT_TRANSFER_PROHIBITED), (.ref w_CLIENT_UPDATE_PROHIBITED), (.ref w_INACTIVE), (.ref w_OK), .null, .null, .null, .null, .null, .null, .null, .null, .null, .null] .null := V15
  have N15 := Fr.snoc X15 N13 n_b1
  have O15 := O13.wr W15 n_b1
  refine own_dup 49 X15 hx hby at_48 rfl rfl ?_
  refine own_bipush 51 (7 : Int32) X15 hx hby at_49 rfl (by decide) ?_
  refine own_getS 54 X15 hx hby hZ hown (own_w hw 18 rfl) e15 (W.2.2.2.2.2.2.2.2.2.2.2.2.2.2.1.ext O15.2) at_51 rfl ?_
  intro T16 X16 e16
  refine own_stR 55 7 X16 hx hby hZ e16 V15 O_1 (Ins.self (W.2.2.2.2.2.2.2.2.2.2.2.2.2.2.2.1.ext O15.2)) at_54 rfl (by decide) (by decide) (Nat.le_of_ble_eq_true rfl) ?_
  intro T17 h17 X17 e17 W17 V17
  have V17 : Arv Z h17 b1 k1 (.object "com/example/nameroll/nameroll/core/Domain$Status") (17 : Int32) [(.ref w_CLIENT_DELETE_PROHIBITED), (.ref w_CLIENT_HOLD), (.ref w_CLIENT_RENEW_PROHIBITED), (.ref w_CLIENT_TRANSFER_PROHIBITED), (.ref w_CLIENT_UPDATE_PROHIBITED), (.ref w_INACTIVE), (.ref w_OK), (.ref w_PENDING_CREATE), .null, .null, .null, .null, .null, .null, .null, .null, .null] .null := V17
  have N17 := Fr.snoc X17 N15 n_b1
  have O17 := O15.wr W17 n_b1
  refine own_dup 56 X17 hx hby at_55 rfl rfl ?_
  refine own_bipush 58 (8 : Int32) X17 hx hby at_56 rfl (by decide) ?_
  refine own_getS 61 X17 hx hby hZ hown (own_w hw 20 rfl) e17 (W.2.2.2.2.2.2.2.2.2.2.2.2.2.2.2.2.1.ext O17.2) at_58 rfl ?_
  intro T18 X18 e18
  refine own_stR 62 8 X18 hx hby hZ e18 V17 O_1 (Ins.self (W.2.2.2.2.2.2.2.2.2.2.2.2.2.2.2.2.2.1.ext O17.2)) at_61 rfl (by decide) (by decide) (Nat.le_of_ble_eq_true rfl) ?_
  intro T19 h19 X19 e19 W19 V19
  have V19 : Arv Z h19 b1 k1 (.object "com/example/nameroll/nameroll/core/Domain$Status") (17 : Int32) [(.ref w_CLIENT_DELETE_PROHIBITED), (.ref w_CLIENT_HOLD), (.ref w_CLIENT_RENEW_PROHIBITED), (.ref w_CLIENT_TRANSFER_PROHIBITED), (.ref w_CLIENT_UPDATE_PROHIBITED), (.ref w_INACTIVE), (.ref w_OK), (.ref w_PENDING_CREATE), (.ref w_PENDING_DELETE), .null, .null, .null, .null, .null, .null, .null, .null] .null := V19
  have N19 := Fr.snoc X19 N17 n_b1
  have O19 := O17.wr W19 n_b1
  refine own_dup 63 X19 hx hby at_62 rfl rfl ?_
  refine own_bipush 65 (9 : Int32) X19 hx hby at_63 rfl (by decide) ?_
  refine own_getS 68 X19 hx hby hZ hown (own_w hw 22 rfl) e19 (W.2.2.2.2.2.2.2.2.2.2.2.2.2.2.2.2.2.2.1.ext O19.2) at_65 rfl ?_
  intro T20 X20 e20
  refine own_stR 69 9 X20 hx hby hZ e20 V19 O_1 (Ins.self (W.2.2.2.2.2.2.2.2.2.2.2.2.2.2.2.2.2.2.2.1.ext O19.2)) at_68 rfl (by decide) (by decide) (Nat.le_of_ble_eq_true rfl) ?_
  intro T21 h21 X21 e21 W21 V21
  have V21 : Arv Z h21 b1 k1 (.object "com/example/nameroll/nameroll/core/Domain$Status") (17 : Int32) [(.ref w_CLIENT_DELETE_PROHIBITED), (.ref w_CLIENT_HOLD), (.ref w_CLIENT_RENEW_PROHIBITED), (.ref w_CLIENT_TRANSFER_PROHIBITED), (.ref w_CLIENT_UPDATE_PROHIBITED), (.ref w_INACTIVE), (.ref w_OK), (.ref w_PENDING_CREATE), (.ref w_PENDING_DELETE), (.ref w_PENDING_RENEW), .null, .null, .null, .null, .null, .null, .null] .null := V21
  have N21 := Fr.snoc X21 N19 n_b1
  have O21 := O19.wr W21 n_b1
  refine own_dup 70 X21 hx hby at_69 rfl rfl ?_
  refine own_bipush 72 (10 : Int32) X21 hx hby at_70 rfl (by decide) ?_
  refine own_getS 75 X21 hx hby hZ hown (own_w hw 24 rfl) e21 (W.2.2.2.2.2.2.2.2.2.2.2.2.2.2.2.2.2.2.2.2.1.ext O21.2) at_72 rfl ?_
  intro T22 X22 e22
  refine own_stR 76 10 X22 hx hby hZ e22 V21 O_1 (Ins.self (W.2.2.2.2.2.2.2.2.2.2.2.2.2.2.2.2.2.2.2.2.2.1.ext O21.2)) at_75 rfl (by decide) (by decide) (Nat.le_of_ble_eq_true rfl) ?_
  intro T23 h23 X23 e23 W23 V23
  have V23 : Arv Z h23 b1 k1 (.object "com/example/nameroll/nameroll/core/Domain$Status") (17 : Int32) [(.ref w_CLIENT_DELETE_PROHIBITED), (.ref w_CLIENT_HOLD), (.ref w_CLIENT_RENEW_PROHIBITED), (.ref w_CLIENT_TRANSFER_PROHIBITED), (.ref w_CLIENT_UPDATE_PROHIBITED), (.ref w_INACTIVE), (.ref w_OK), (.ref w_PENDING_CREATE), (.ref w_PENDING_DELETE), (.ref w_PENDING_RENEW), (.ref w_PENDING_TRANSFER), .null, .null, .null, .null, .null, .null] .null := V23
  have N23 := Fr.snoc X23 N21 n_b1
  have O23 := O21.wr W23 n_b1
  refine own_dup 77 X23 hx hby at_76 rfl rfl ?_
  refine own_bipush 79 (11 : Int32) X23 hx hby at_77 rfl (by decide) ?_
  refine own_getS 82 X23 hx hby hZ hown (own_w hw 26 rfl) e23 (W.2.2.2.2.2.2.2.2.2.2.2.2.2.2.2.2.2.2.2.2.2.2.1.ext O23.2) at_79 rfl ?_
  intro T24 X24 e24
  refine own_stR 83 11 X24 hx hby hZ e24 V23 O_1 (Ins.self (W.2.2.2.2.2.2.2.2.2.2.2.2.2.2.2.2.2.2.2.2.2.2.2.1.ext O23.2)) at_82 rfl (by decide) (by decide) (Nat.le_of_ble_eq_true rfl) ?_
  intro T25 h25 X25 e25 W25 V25
  have V25 : Arv Z h25 b1 k1 (.object "com/example/nameroll/nameroll/core/Domain$Status") (17 : Int32) [(.ref w_CLIENT_DELETE_PROHIBITED), (.ref w_CLIENT_HOLD), (.ref w_CLIENT_RENEW_PROHIBITED), (.ref w_CLIENT_TRANSFER_PROHIBITED), (.ref w_CLIENT_UPDATE_PROHIBITED), (.ref w_INACTIVE), (.ref w_OK), (.ref w_PENDING_CREATE), (.ref w_PENDING_DELETE), (.ref w_PENDING_RENEW), (.ref w_PENDING_TRANSFER), (.ref w_PENDING_UPDATE), .null, .null, .null, .null, .null] .null := V25
  have N25 := Fr.snoc X25 N23 n_b1
  have O25 := O23.wr W25 n_b1
  refine own_dup 84 X25 hx hby at_83 rfl rfl ?_
  refine own_bipush 86 (12 : Int32) X25 hx hby at_84 rfl (by decide) ?_
  refine own_getS 89 X25 hx hby hZ hown (own_w hw 28 rfl) e25 (W.2.2.2.2.2.2.2.2.2.2.2.2.2.2.2.2.2.2.2.2.2.2.2.2.1.ext O25.2) at_86 rfl ?_
  intro T26 X26 e26
  refine own_stR 90 12 X26 hx hby hZ e26 V25 O_1 (Ins.self (W.2.2.2.2.2.2.2.2.2.2.2.2.2.2.2.2.2.2.2.2.2.2.2.2.2.1.ext O25.2)) at_89 rfl (by decide) (by decide) (Nat.le_of_ble_eq_true rfl) ?_
  intro T27 h27 X27 e27 W27 V27
  have V27 : Arv Z h27 b1 k1 (.object "com/example/nameroll/nameroll/core/Domain$Status") (17 : Int32) [(.ref w_CLIENT_DELETE_PROHIBITED), (.ref w_CLIENT_HOLD), (.ref w_CLIENT_RENEW_PROHIBITED), (.ref w_CLIENT_TRANSFER_PROHIBITED), (.ref w_CLIENT_UPDATE_PROHIBITED), (.ref w_INACTIVE), (.ref w_OK), (.ref w_PENDING_CREATE), (.ref w_PENDING_DELETE), (.ref w_PENDING_RENEW), (.ref w_PENDING_TRANSFER), (.ref w_PENDING_UPDATE), (.ref w_SERVER_DELETE_PROHIBITED), .null, .null, .null, .null] .null := V27
  have N27 := Fr.snoc X27 N25 n_b1
  have O27 := O25.wr W27 n_b1
  refine own_dup 91 X27 hx hby at_90 rfl rfl ?_
  refine own_bipush 93 (13 : Int32) X27 hx hby at_91 rfl (by decide) ?_
  refine own_getS 96 X27 hx hby hZ hown (own_w hw 30 rfl) e27 (W.2.2.2.2.2.2.2.2.2.2.2.2.2.2.2.2.2.2.2.2.2.2.2.2.2.2.1.ext O27.2) at_93 rfl ?_
  intro T28 X28 e28
  refine own_stR 97 13 X28 hx hby hZ e28 V27 O_1 (Ins.self (W.2.2.2.2.2.2.2.2.2.2.2.2.2.2.2.2.2.2.2.2.2.2.2.2.2.2.2.1.ext O27.2)) at_96 rfl (by decide) (by decide) (Nat.le_of_ble_eq_true rfl) ?_
  intro T29 h29 X29 e29 W29 V29
  have V29 : Arv Z h29 b1 k1 (.object "com/example/nameroll/nameroll/core/Domain$Status") (17 : Int32) [(.ref w_CLIENT_DELETE_PROHIBITED), (.ref w_CLIENT_HOLD), (.ref w_CLIENT_RENEW_PROHIBITED), (.ref w_CLIENT_TRANSFER_PROHIBITED), (.ref w_CLIENT_UPDATE_PROHIBITED), (.ref w_INACTIVE), (.ref w_OK), (.ref w_PENDING_CREATE), (.ref w_PENDING_DELETE), (.ref w_PENDING_RENEW), (.ref w_PENDING_TRANSFER), (.ref w_PENDING_UPDATE), (.ref w_SERVER_DELETE_PROHIBITED), (.ref w_SERVER_HOLD), .null, .null, .null] .null := V29
  have N29 := Fr.snoc X29 N27 n_b1
  have O29 := O27.wr W29 n_b1
  refine own_dup 98 X29 hx hby at_97 rfl rfl ?_
  refine own_bipush 100 (14 : Int32) X29 hx hby at_98 rfl (by decide) ?_
  refine own_getS 103 X29 hx hby hZ hown (own_w hw 32 rfl) e29 (W.2.2.2.2.2.2.2.2.2.2.2.2.2.2.2.2.2.2.2.2.2.2.2.2.2.2.2.2.1.ext O29.2) at_100 rfl ?_
  intro T30 X30 e30
  refine own_stR 104 14 X30 hx hby hZ e30 V29 O_1 (Ins.self (W.2.2.2.2.2.2.2.2.2.2.2.2.2.2.2.2.2.2.2.2.2.2.2.2.2.2.2.2.2.1.ext O29.2)) at_103 rfl (by decide) (by decide) (Nat.le_of_ble_eq_true rfl) ?_
  intro T31 h31 X31 e31 W31 V31
  have V31 : Arv Z h31 b1 k1 (.object "com/example/nameroll/nameroll/core/Domain$Status") (17 : Int32) [(.ref w_CLIENT_DELETE_PROHIBITED), (.ref w_CLIENT_HOLD), (.ref w_CLIENT_RENEW_PROHIBITED), (.ref w_CLIENT_TRANSFER_PROHIBITED), (.ref w_CLIENT_UPDATE_PROHIBITED), (.ref w_INACTIVE), (.ref w_OK), (.ref w_PENDING_CREATE), (.ref w_PENDING_DELETE), (.ref w_PENDING_RENEW), (.ref w_PENDING_TRANSFER), (.ref w_PENDING_UPDATE), (.ref w_SERVER_DELETE_PROHIBITED), (.ref w_SERVER_HOLD), (.ref w_SERVER_RENEW_PROHIBITED), .null, .null] .null := V31
  have N31 := Fr.snoc X31 N29 n_b1
  have O31 := O29.wr W31 n_b1
  refine own_dup 105 X31 hx hby at_104 rfl rfl ?_
  refine own_bipush 107 (15 : Int32) X31 hx hby at_105 rfl (by decide) ?_
  refine own_getS 110 X31 hx hby hZ hown (own_w hw 34 rfl) e31 (W.2.2.2.2.2.2.2.2.2.2.2.2.2.2.2.2.2.2.2.2.2.2.2.2.2.2.2.2.2.2.1.ext O31.2) at_107 rfl ?_
  intro T32 X32 e32
  refine own_stR 111 15 X32 hx hby hZ e32 V31 O_1 (Ins.self (W.2.2.2.2.2.2.2.2.2.2.2.2.2.2.2.2.2.2.2.2.2.2.2.2.2.2.2.2.2.2.2.1.ext O31.2)) at_110 rfl (by decide) (by decide) (Nat.le_of_ble_eq_true rfl) ?_
  intro T33 h33 X33 e33 W33 V33
  have V33 : Arv Z h33 b1 k1 (.object "com/example/nameroll/nameroll/core/Domain$Status") (17 : Int32) [(.ref w_CLIENT_DELETE_PROHIBITED), (.ref w_CLIENT_HOLD), (.ref w_CLIENT_RENEW_PROHIBITED), (.ref w_CLIENT_TRANSFER_PROHIBITED), (.ref w_CLIENT_UPDATE_PROHIBITED), (.ref w_INACTIVE), (.ref w_OK), (.ref w_PENDING_CREATE), (.ref w_PENDING_DELETE), (.ref w_PENDING_RENEW), (.ref w_PENDING_TRANSFER), (.ref w_PENDING_UPDATE), (.ref w_SERVER_DELETE_PROHIBITED), (.ref w_SERVER_HOLD), (.ref w_SERVER_RENEW_PROHIBITED), (.ref w_SERVER_TRANSFER_PROHIBITED), .null] .null := V33
  have N33 := Fr.snoc X33 N31 n_b1
  have O33 := O31.wr W33 n_b1
  refine own_dup 112 X33 hx hby at_111 rfl rfl ?_
  refine own_bipush 114 (16 : Int32) X33 hx hby at_112 rfl (by decide) ?_
  refine own_getS 117 X33 hx hby hZ hown (own_w hw 36 rfl) e33 (W.2.2.2.2.2.2.2.2.2.2.2.2.2.2.2.2.2.2.2.2.2.2.2.2.2.2.2.2.2.2.2.2.1.ext O33.2) at_114 rfl ?_
  intro T34 X34 e34
  refine own_stR 118 16 X34 hx hby hZ e34 V33 O_1 (Ins.self (W.2.2.2.2.2.2.2.2.2.2.2.2.2.2.2.2.2.2.2.2.2.2.2.2.2.2.2.2.2.2.2.2.2.1.ext O33.2)) at_117 rfl (by decide) (by decide) (Nat.le_of_ble_eq_true rfl) ?_
  intro T35 h35 X35 e35 W35 V35
  have V35 : Arv Z h35 b1 k1 (.object "com/example/nameroll/nameroll/core/Domain$Status") (17 : Int32) [(.ref w_CLIENT_DELETE_PROHIBITED), (.ref w_CLIENT_HOLD), (.ref w_CLIENT_RENEW_PROHIBITED), (.ref w_CLIENT_TRANSFER_PROHIBITED), (.ref w_CLIENT_UPDATE_PROHIBITED), (.ref w_INACTIVE), (.ref w_OK), (.ref w_PENDING_CREATE), (.ref w_PENDING_DELETE), (.ref w_PENDING_RENEW), (.ref w_PENDING_TRANSFER), (.ref w_PENDING_UPDATE), (.ref w_SERVER_DELETE_PROHIBITED), (.ref w_SERVER_HOLD), (.ref w_SERVER_RENEW_PROHIBITED), (.ref w_SERVER_TRANSFER_PROHIBITED), (.ref w_SERVER_UPDATE_PROHIBITED)] .null := V35
  have N35 := Fr.snoc X35 N33 n_b1
  have O35 := O33.wr W35 n_b1
  refine own_astore_n 119 #[oI x0, oA b1, oU, oU] X35 hx hby at_118 rfl rfl rfl ?_
  refine own_bipush 121 (17 : Int32) X35 hx hby at_119 rfl (by decide) ?_
  refine own_newP 123 17 X35 hx hby hZ (own_w hw 38 rfl) e35 at_121 rfl (by decide) (by decide) (by decide) (by decide) (by decide) ?_
  intro T36 h36 k36 b36 X36 e36 E36 g36 V36
  have V36 : Arv Z h36 b36 k36 .boolean (17 : Int32) [(.int (0 : Int32)), (.int (0 : Int32)), (.int (0 : Int32)), (.int (0 : Int32)), (.int (0 : Int32)), (.int (0 : Int32)), (.int (0 : Int32)), (.int (0 : Int32)), (.int (0 : Int32)), (.int (0 : Int32)), (.int (0 : Int32)), (.int (0 : Int32)), (.int (0 : Int32)), (.int (0 : Int32)), (.int (0 : Int32)), (.int (0 : Int32)), (.int (0 : Int32))] (.int (0 : Int32)) := V36
  have V35_36 := V35.ext E36
  have ne_b1_b36 : b1 ≠ b36 := Nat.ne_of_lt (Nat.lt_of_lt_of_le V35.lt (Nat.le_of_eq g36.symm))
  have n_b36 : n0 ≤ b36 := Nat.le_trans (own_n0 O35) (Nat.le_of_eq g36.symm)
  have O36 := O35.ext E36
  show Go p e below _ (T36.setTop (mkF m 123 _ [(.ref b36)]))
  refine own_dup 124 X36 hx hby at_123 rfl rfl ?_
  refine own_iconst 125 (0 : Int32) X36 hx hby at_124 rfl (by decide) ?_
  refine own_iconst 126 (0 : Int32) X36 hx hby at_125 rfl (by decide) ?_
  refine own_stZ 127 0 X36 hx hby hZ e36 V36 at_126 rfl (by decide) (by decide) (Nat.le_of_ble_eq_true rfl) (by decide) ?_
  intro T37 h37 X37 e37 W37 V37
  have V37 : Arv Z h37 b36 k36 .boolean (17 : Int32) [(.int (0 : Int32)), (.int (0 : Int32)), (.int (0 : Int32)), (.int (0 : Int32)), (.int (0 : Int32)), (.int (0 : Int32)), (.int (0 : Int32)), (.int (0 : Int32)), (.int (0 : Int32)), (.int (0 : Int32)), (.int (0 : Int32)), (.int (0 : Int32)), (.int (0 : Int32)), (.int (0 : Int32)), (.int (0 : Int32)), (.int (0 : Int32)), (.int (0 : Int32))] (.int (0 : Int32)) := V37
  have V35_36_37 := V35_36.other W37 ne_b1_b36
  have N37 := Fr.snoc X37 N35 n_b36
  have O37 := O36.wr W37 n_b36
  refine own_dup 128 X37 hx hby at_127 rfl rfl ?_
  refine own_iconst 129 (1 : Int32) X37 hx hby at_128 rfl (by decide) ?_
  refine own_iconst 130 (1 : Int32) X37 hx hby at_129 rfl (by decide) ?_
  refine own_stZ 131 1 X37 hx hby hZ e37 V37 at_130 rfl (by decide) (by decide) (Nat.le_of_ble_eq_true rfl) (by decide) ?_
  intro T38 h38 X38 e38 W38 V38
  have V38 : Arv Z h38 b36 k36 .boolean (17 : Int32) [(.int (0 : Int32)), (.int (1 : Int32)), (.int (0 : Int32)), (.int (0 : Int32)), (.int (0 : Int32)), (.int (0 : Int32)), (.int (0 : Int32)), (.int (0 : Int32)), (.int (0 : Int32)), (.int (0 : Int32)), (.int (0 : Int32)), (.int (0 : Int32)), (.int (0 : Int32)), (.int (0 : Int32)), (.int (0 : Int32)), (.int (0 : Int32)), (.int (0 : Int32))] (.int (0 : Int32)) := V38
  have V35_36_37_38 := V35_36_37.other W38 ne_b1_b36
  have N38 := Fr.snoc X38 N37 n_b36
  have O38 := O37.wr W38 n_b36
  refine own_dup 132 X38 hx hby at_131 rfl rfl ?_
  refine own_iconst 133 (2 : Int32) X38 hx hby at_132 rfl (by decide) ?_
  refine own_iconst 134 (0 : Int32) X38 hx hby at_133 rfl (by decide) ?_
  refine own_stZ 135 2 X38 hx hby hZ e38 V38 at_134 rfl (by decide) (by decide) (Nat.le_of_ble_eq_true rfl) (by decide) ?_
  intro T39 h39 X39 e39 W39 V39
  have V39 : Arv Z h39 b36 k36 .boolean (17 : Int32) [(.int (0 : Int32)), (.int (1 : Int32)), (.int (0 : Int32)), (.int (0 : Int32)), (.int (0 : Int32)), (.int (0 : Int32)), (.int (0 : Int32)), (.int (0 : Int32)), (.int (0 : Int32)), (.int (0 : Int32)), (.int (0 : Int32)), (.int (0 : Int32)), (.int (0 : Int32)), (.int (0 : Int32)), (.int (0 : Int32)), (.int (0 : Int32)), (.int (0 : Int32))] (.int (0 : Int32)) := V39
  have V35_36_37_38_39 := V35_36_37_38.other W39 ne_b1_b36
  have N39 := Fr.snoc X39 N38 n_b36
  have O39 := O38.wr W39 n_b36
  refine own_dup 136 X39 hx hby at_135 rfl rfl ?_
  refine own_iconst 137 (3 : Int32) X39 hx hby at_136 rfl (by decide) ?_
  refine own_iconst 138 (0 : Int32) X39 hx hby at_137 rfl (by decide) ?_
  refine own_stZ 139 3 X39 hx hby hZ e39 V39 at_138 rfl (by decide) (by decide) (Nat.le_of_ble_eq_true rfl) (by decide) ?_
  intro T40 h40 X40 e40 W40 V40
  have V40 : Arv Z h40 b36 k36 .boolean (17 : Int32) [(.int (0 : Int32)), (.int (1 : Int32)), (.int (0 : Int32)), (.int (0 : Int32)), (.int (0 : Int32)), (.int (0 : Int32)), (.int (0 : Int32)), (.int (0 : Int32)), (.int (0 : Int32)), (.int (0 : Int32)), (.int (0 : Int32)), (.int (0 : Int32)), (.int (0 : Int32)), (.int (0 : Int32)), (.int (0 : Int32)), (.int (0 : Int32)), (.int (0 : Int32))] (.int (0 : Int32)) := V40
  have V35_36_37_38_39_40 := V35_36_37_38_39.other W40 ne_b1_b36
  have N40 := Fr.snoc X40 N39 n_b36
  have O40 := O39.wr W40 n_b36
  refine own_dup 140 X40 hx hby at_139 rfl rfl ?_
  refine own_iconst 141 (4 : Int32) X40 hx hby at_140 rfl (by decide) ?_
  refine own_iconst 142 (0 : Int32) X40 hx hby at_141 rfl (by decide) ?_
  refine own_stZ 143 4 X40 hx hby hZ e40 V40 at_142 rfl (by decide) (by decide) (Nat.le_of_ble_eq_true rfl) (by decide) ?_
  intro T41 h41 X41 e41 W41 V41
  have V41 : Arv Z h41 b36 k36 .boolean (17 : Int32) [(.int (0 : Int32)), (.int (1 : Int32)), (.int (0 : Int32)), (.int (0 : Int32)), (.int (0 : Int32)), (.int (0 : Int32)), (.int (0 : Int32)), (.int (0 : Int32)), (.int (0 : Int32)), (.int (0 : Int32)), (.int (0 : Int32)), (.int (0 : Int32)), (.int (0 : Int32)), (.int (0 : Int32)), (.int (0 : Int32)), (.int (0 : Int32)), (.int (0 : Int32))] (.int (0 : Int32)) := V41
  have V35_36_37_38_39_40_41 := V35_36_37_38_39_40.other W41 ne_b1_b36
  have N41 := Fr.snoc X41 N40 n_b36
  have O41 := O40.wr W41 n_b36
  refine own_dup 144 X41 hx hby at_143 rfl rfl ?_
  refine own_iconst 145 (5 : Int32) X41 hx hby at_144 rfl (by decide) ?_
  refine own_iconst 146 (1 : Int32) X41 hx hby at_145 rfl (by decide) ?_
  refine own_stZ 147 5 X41 hx hby hZ e41 V41 at_146 rfl (by decide) (by decide) (Nat.le_of_ble_eq_true rfl) (by decide) ?_
  intro T42 h42 X42 e42 W42 V42
  have V42 : Arv Z h42 b36 k36 .boolean (17 : Int32) [(.int (0 : Int32)), (.int (1 : Int32)), (.int (0 : Int32)), (.int (0 : Int32)), (.int (0 : Int32)), (.int (1 : Int32)), (.int (0 : Int32)), (.int (0 : Int32)), (.int (0 : Int32)), (.int (0 : Int32)), (.int (0 : Int32)), (.int (0 : Int32)), (.int (0 : Int32)), (.int (0 : Int32)), (.int (0 : Int32)), (.int (0 : Int32)), (.int (0 : Int32))] (.int (0 : Int32)) := V42
  have V35_36_37_38_39_40_41_42 := V35_36_37_38_39_40_41.other W42 ne_b1_b36
  have N42 := Fr.snoc X42 N41 n_b36
  have O42 := O41.wr W42 n_b36
  refine own_dup 148 X42 hx hby at_147 rfl rfl ?_
  refine own_bipush 150 (6 : Int32) X42 hx hby at_148 rfl (by decide) ?_
  refine own_iconst 151 (0 : Int32) X42 hx hby at_150 rfl (by decide) ?_
  refine own_stZ 152 6 X42 hx hby hZ e42 V42 at_151 rfl (by decide) (by decide) (Nat.le_of_ble_eq_true rfl) (by decide) ?_
  intro T43 h43 X43 e43 W43 V43
  have V43 : Arv Z h43 b36 k36 .boolean (17 : Int32) [(.int (0 : Int32)), (.int (1 : Int32)), (.int (0 : Int32)), (.int (0 : Int32)), (.int (0 : Int32)), (.int (1 : Int32)), (.int (0 : Int32)), (.int (0 : Int32)), (.int (0 : Int32)), (.int (0 : Int32)), (.int (0 : Int32)), (.int (0 : Int32)), (.int (0 : Int32)), (.int (0 : Int32)), (.int (0 : Int32)), (.int (0 : Int32)), (.int (0 : Int32))] (.int (0 : Int32)) := V43
  have V35_36_37_38_39_40_41_42_43 := V35_36_37_38_39_40_41_42.other W43 ne_b1_b36
  have N43 := Fr.snoc X43 N42 n_b36
  have O43 := O42.wr W43 n_b36
  refine own_dup 153 X43 hx hby at_152 rfl rfl ?_
  refine own_bipush 155 (7 : Int32) X43 hx hby at_153 rfl (by decide) ?_
  refine own_iconst 156 (0 : Int32) X43 hx hby at_155 rfl (by decide) ?_
  refine own_stZ 157 7 X43 hx hby hZ e43 V43 at_156 rfl (by decide) (by decide) (Nat.le_of_ble_eq_true rfl) (by decide) ?_
  intro T44 h44 X44 e44 W44 V44
  have V44 : Arv Z h44 b36 k36 .boolean (17 : Int32) [(.int (0 : Int32)), (.int (1 : Int32)), (.int (0 : Int32)), (.int (0 : Int32)), (.int (0 : Int32)), (.int (1 : Int32)), (.int (0 : Int32)), (.int (0 : Int32)), (.int (0 : Int32)), (.int (0 : Int32)), (.int (0 : Int32)), (.int (0 : Int32)), (.int (0 : Int32)), (.int (0 : Int32)), (.int (0 : Int32)), (.int (0 : Int32)), (.int (0 : Int32))] (.int (0 : Int32)) := V44
  have V35_36_37_38_39_40_41_42_43_44 := V35_36_37_38_39_40_41_42_43.other W44 ne_b1_b36
  have N44 := Fr.snoc X44 N43 n_b36
  have O44 := O43.wr W44 n_b36
  refine own_dup 158 X44 hx hby at_157 rfl rfl ?_
  refine own_bipush 160 (8 : Int32) X44 hx hby at_158 rfl (by decide) ?_
  refine own_iconst 161 (1 : Int32) X44 hx hby at_160 rfl (by decide) ?_
  refine own_stZ 162 8 X44 hx hby hZ e44 V44 at_161 rfl (by decide) (by decide) (Nat.le_of_ble_eq_true rfl) (by decide) ?_
  intro T45 h45 X45 e45 W45 V45
  have V45 : Arv Z h45 b36 k36 .boolean (17 : Int32) [(.int (0 : Int32)), (.int (1 : Int32)), (.int (0 : Int32)), (.int (0 : Int32)), (.int (0 : Int32)), (.int (1 : Int32)), (.int (0 : Int32)), (.int (0 : Int32)), (.int (1 : Int32)), (.int (0 : Int32)), (.int (0 : Int32)), (.int (0 : Int32)), (.int (0 : Int32)), (.int (0 : Int32)), (.int (0 : Int32)), (.int (0 : Int32)), (.int (0 : Int32))] (.int (0 : Int32)) := V45
  have V35_36_37_38_39_40_41_42_43_44_45 := V35_36_37_38_39_40_41_42_43_44.other W45 ne_b1_b36
  have N45 := Fr.snoc X45 N44 n_b36
  have O45 := O44.wr W45 n_b36
  refine own_dup 163 X45 hx hby at_162 rfl rfl ?_
  refine own_bipush 165 (9 : Int32) X45 hx hby at_163 rfl (by decide) ?_
  refine own_iconst 166 (0 : Int32) X45 hx hby at_165 rfl (by decide) ?_
  refine own_stZ 167 9 X45 hx hby hZ e45 V45 at_166 rfl (by decide) (by decide) (Nat.le_of_ble_eq_true rfl) (by decide) ?_
  intro T46 h46 X46 e46 W46 V46
  have V46 : Arv Z h46 b36 k36 .boolean (17 : Int32) [(.int (0 : Int32)), (.int (1 : Int32)), (.int (0 : Int32)), (.int (0 : Int32)), (.int (0 : Int32)), (.int (1 : Int32)), (.int (0 : Int32)), (.int (0 : Int32)), (.int (1 : Int32)), (.int (0 : Int32)), (.int (0 : Int32)), (.int (0 : Int32)), (.int (0 : Int32)), (.int (0 : Int32)), (.int (0 : Int32)), (.int (0 : Int32)), (.int (0 : Int32))] (.int (0 : Int32)) := V46
  have V35_36_37_38_39_40_41_42_43_44_45_46 := V35_36_37_38_39_40_41_42_43_44_45.other W46 ne_b1_b36
  have N46 := Fr.snoc X46 N45 n_b36
  have O46 := O45.wr W46 n_b36
  refine own_dup 168 X46 hx hby at_167 rfl rfl ?_
  refine own_bipush 170 (10 : Int32) X46 hx hby at_168 rfl (by decide) ?_
  refine own_iconst 171 (0 : Int32) X46 hx hby at_170 rfl (by decide) ?_
  refine own_stZ 172 10 X46 hx hby hZ e46 V46 at_171 rfl (by decide) (by decide) (Nat.le_of_ble_eq_true rfl) (by decide) ?_
  intro T47 h47 X47 e47 W47 V47
  have V47 : Arv Z h47 b36 k36 .boolean (17 : Int32) [(.int (0 : Int32)), (.int (1 : Int32)), (.int (0 : Int32)), (.int (0 : Int32)), (.int (0 : Int32)), (.int (1 : Int32)), (.int (0 : Int32)), (.int (0 : Int32)), (.int (1 : Int32)), (.int (0 : Int32)), (.int (0 : Int32)), (.int (0 : Int32)), (.int (0 : Int32)), (.int (0 : Int32)), (.int (0 : Int32)), (.int (0 : Int32)), (.int (0 : Int32))] (.int (0 : Int32)) := V47
  have V35_36_37_38_39_40_41_42_43_44_45_46_47 := V35_36_37_38_39_40_41_42_43_44_45_46.other W47 ne_b1_b36
  have N47 := Fr.snoc X47 N46 n_b36
  have O47 := O46.wr W47 n_b36
  refine own_dup 173 X47 hx hby at_172 rfl rfl ?_
  refine own_bipush 175 (11 : Int32) X47 hx hby at_173 rfl (by decide) ?_
  refine own_iconst 176 (0 : Int32) X47 hx hby at_175 rfl (by decide) ?_
  refine own_stZ 177 11 X47 hx hby hZ e47 V47 at_176 rfl (by decide) (by decide) (Nat.le_of_ble_eq_true rfl) (by decide) ?_
  intro T48 h48 X48 e48 W48 V48
  have V48 : Arv Z h48 b36 k36 .boolean (17 : Int32) [(.int (0 : Int32)), (.int (1 : Int32)), (.int (0 : Int32)), (.int (0 : Int32)), (.int (0 : Int32)), (.int (1 : Int32)), (.int (0 : Int32)), (.int (0 : Int32)), (.int (1 : Int32)), (.int (0 : Int32)), (.int (0 : Int32)), (.int (0 : Int32)), (.int (0 : Int32)), (.int (0 : Int32)), (.int (0 : Int32)), (.int (0 : Int32)), (.int (0 : Int32))] (.int (0 : Int32)) := V48
  have V35_36_37_38_39_40_41_42_43_44_45_46_47_48 := V35_36_37_38_39_40_41_42_43_44_45_46_47.other W48 ne_b1_b36
  have N48 := Fr.snoc X48 N47 n_b36
  have O48 := O47.wr W48 n_b36
  refine own_dup 178 X48 hx hby at_177 rfl rfl ?_
  refine own_bipush 180 (12 : Int32) X48 hx hby at_178 rfl (by decide) ?_
  refine own_iconst 181 (0 : Int32) X48 hx hby at_180 rfl (by decide) ?_
  refine own_stZ 182 12 X48 hx hby hZ e48 V48 at_181 rfl (by decide) (by decide) (Nat.le_of_ble_eq_true rfl) (by decide) ?_
  intro T49 h49 X49 e49 W49 V49
  have V49 : Arv Z h49 b36 k36 .boolean (17 : Int32) [(.int (0 : Int32)), (.int (1 : Int32)), (.int (0 : Int32)), (.int (0 : Int32)), (.int (0 : Int32)), (.int (1 : Int32)), (.int (0 : Int32)), (.int (0 : Int32)), (.int (1 : Int32)), (.int (0 : Int32)), (.int (0 : Int32)), (.int (0 : Int32)), (.int (0 : Int32)), (.int (0 : Int32)), (.int (0 : Int32)), (.int (0 : Int32)), (.int (0 : Int32))] (.int (0 : Int32)) := V49
  have V35_36_37_38_39_40_41_42_43_44_45_46_47_48_49 := V35_36_37_38_39_40_41_42_43_44_45_46_47_48.other W49 ne_b1_b36
  have N49 := Fr.snoc X49 N48 n_b36
  have O49 := O48.wr W49 n_b36
  refine own_dup 183 X49 hx hby at_182 rfl rfl ?_
  refine own_bipush 185 (13 : Int32) X49 hx hby at_183 rfl (by decide) ?_
  refine own_iconst 186 (1 : Int32) X49 hx hby at_185 rfl (by decide) ?_
  refine own_stZ 187 13 X49 hx hby hZ e49 V49 at_186 rfl (by decide) (by decide) (Nat.le_of_ble_eq_true rfl) (by decide) ?_
  intro T50 h50 X50 e50 W50 V50
  have V50 : Arv Z h50 b36 k36 .boolean (17 : Int32) [(.int (0 : Int32)), (.int (1 : Int32)), (.int (0 : Int32)), (.int (0 : Int32)), (.int (0 : Int32)), (.int (1 : Int32)), (.int (0 : Int32)), (.int (0 : Int32)), (.int (1 : Int32)), (.int (0 : Int32)), (.int (0 : Int32)), (.int (0 : Int32)), (.int (0 : Int32)), (.int (1 : Int32)), (.int (0 : Int32)), (.int (0 : Int32)), (.int (0 : Int32))] (.int (0 : Int32)) := V50
  have V35_36_37_38_39_40_41_42_43_44_45_46_47_48_49_50 := V35_36_37_38_39_40_41_42_43_44_45_46_47_48_49.other W50 ne_b1_b36
  have N50 := Fr.snoc X50 N49 n_b36
  have O50 := O49.wr W50 n_b36
  refine own_dup 188 X50 hx hby at_187 rfl rfl ?_
  refine own_bipush 190 (14 : Int32) X50 hx hby at_188 rfl (by decide) ?_
  refine own_iconst 191 (0 : Int32) X50 hx hby at_190 rfl (by decide) ?_
  refine own_stZ 192 14 X50 hx hby hZ e50 V50 at_191 rfl (by decide) (by decide) (Nat.le_of_ble_eq_true rfl) (by decide) ?_
  intro T51 h51 X51 e51 W51 V51
  have V51 : Arv Z h51 b36 k36 .boolean (17 : Int32) [(.int (0 : Int32)), (.int (1 : Int32)), (.int (0 : Int32)), (.int (0 : Int32)), (.int (0 : Int32)), (.int (1 : Int32)), (.int (0 : Int32)), (.int (0 : Int32)), (.int (1 : Int32)), (.int (0 : Int32)), (.int (0 : Int32)), (.int (0 : Int32)), (.int (0 : Int32)), (.int (1 : Int32)), (.int (0 : Int32)), (.int (0 : Int32)), (.int (0 : Int32))] (.int (0 : Int32)) := V51
  have V35_36_37_38_39_40_41_42_43_44_45_46_47_48_49_50_51 := V35_36_37_38_39_40_41_42_43_44_45_46_47_48_49_50.other W51 ne_b1_b36
  have N51 := Fr.snoc X51 N50 n_b36
  have O51 := O50.wr W51 n_b36
  refine own_dup 193 X51 hx hby at_192 rfl rfl ?_
  refine own_bipush 195 (15 : Int32) X51 hx hby at_193 rfl (by decide) ?_
  refine own_iconst 196 (0 : Int32) X51 hx hby at_195 rfl (by decide) ?_
  refine own_stZ 197 15 X51 hx hby hZ e51 V51 at_196 rfl (by decide) (by decide) (Nat.le_of_ble_eq_true rfl) (by decide) ?_
  intro T52 h52 X52 e52 W52 V52
  have V52 : Arv Z h52 b36 k36 .boolean (17 : Int32) [(.int (0 : Int32)), (.int (1 : Int32)), (.int (0 : Int32)), (.int (0 : Int32)), (.int (0 : Int32)), (.int (1 : Int32)), (.int (0 : Int32)), (.int (0 : Int32)), (.int (1 : Int32)), (.int (0 : Int32)), (.int (0 : Int32)), (.int (0 : Int32)), (.int (0 : Int32)), (.int (1 : Int32)), (.int (0 : Int32)), (.int (0 : Int32)), (.int (0 : Int32))] (.int (0 : Int32)) := V52
  have V35_36_37_38_39_40_41_42_43_44_45_46_47_48_49_50_51_52 := V35_36_37_38_39_40_41_42_43_44_45_46_47_48_49_50_51.other W52 ne_b1_b36
  have N52 := Fr.snoc X52 N51 n_b36
  have O52 := O51.wr W52 n_b36
  refine own_dup 198 X52 hx hby at_197 rfl rfl ?_
  refine own_bipush 200 (16 : Int32) X52 hx hby at_198 rfl (by decide) ?_
  refine own_iconst 201 (0 : Int32) X52 hx hby at_200 rfl (by decide) ?_
  refine own_stZ 202 16 X52 hx hby hZ e52 V52 at_201 rfl (by decide) (by decide) (Nat.le_of_ble_eq_true rfl) (by decide) ?_
  intro T53 h53 X53 e53 W53 V53
  have V53 : Arv Z h53 b36 k36 .boolean (17 : Int32) [(.int (0 : Int32)), (.int (1 : Int32)), (.int (0 : Int32)), (.int (0 : Int32)), (.int (0 : Int32)), (.int (1 : Int32)), (.int (0 : Int32)), (.int (0 : Int32)), (.int (1 : Int32)), (.int (0 : Int32)), (.int (0 : Int32)), (.int (0 : Int32)), (.int (0 : Int32)), (.int (1 : Int32)), (.int (0 : Int32)), (.int (0 : Int32)), (.int (0 : Int32))] (.int (0 : Int32)) := V53
  have V35_36_37_38_39_40_41_42_43_44_45_46_47_48_49_50_51_52_53 := V35_36_37_38_39_40_41_42_43_44_45_46_47_48_49_50_51_52.other W53 ne_b1_b36
  have N53 := Fr.snoc X53 N52 n_b36
  have O53 := O52.wr W53 n_b36
  refine own_astore_n 203 #[oI x0, oA b1, oA b36, oU] X53 hx hby at_202 rfl rfl rfl ?_
  refine own_iload_n 204 X53 hx hby at_203 rfl rfl ?_
  refine own_ldc 206 X53 hx hby hZ hown (own_w hw 39 rfl) at_204 rfl ?_
  refine own_iand 207 (x0 &&& (2147483647 : Int32)) X53 hx hby at_206 rfl rfl ?_
  refine own_bipush 209 (17 : Int32) X53 hx hby at_207 rfl (by decide) ?_
  rcases own_mod17 x0 with hv54 | hv54 | hv54 | hv54 | hv54 | hv54 | hv54 | hv54 | hv54 | hv54 | hv54 | hv54 | hv54 | hv54 | hv54 | hv54 | hv54
  · refine own_irem 210 (0 : Int32) X53 hx hby at_209 rfl (by decide) hv54 ?_
    refine own_istore_n 211 #[oI x0, oA b1, oA b36, oI (0 : Int32)] X53 hx hby at_210 rfl rfl ?_
    refine own_aload_n 212 X53 hx hby at_211 rfl rfl rfl ?_
    refine own_iload_n 213 X53 hx hby at_212 rfl rfl ?_
    refine own_aaload 214 (.ref w_CLIENT_DELETE_PROHIBITED) X53 hx hby hZ e53 V35_36_37_38_39_40_41_42_43_44_45_46_47_48_49_50_51_52_53 rfl at_213 rfl (by decide) rfl ?_
    refine own_virt (W := 0) 217 (rm1_5 l Z a0 hw [] w_CLIENT_DELETE_PROHIBITED w_CLIENT_HOLD w_CLIENT_RENEW_PROHIBITED w_CLIENT_TRANSFER_PROHIBITED w_CLIENT_UPDATE_PROHIBITED w_INACTIVE w_OK w_PENDING_CREATE w_PENDING_DELETE w_PENDING_RENEW w_PENDING_TRANSFER w_PENDING_UPDATE w_SERVER_DELETE_PROHIBITED w_SERVER_HOLD w_SERVER_RENEW_PROHIBITED w_SERVER_TRANSFER_PROHIBITED w_SERVER_UPDATE_PROHIBITED W w_CLIENT_DELETE_PROHIBITED h53 n0 O53 (Fld.ne W.2.2.2.2.2.2.2.2.2.2.2.2.2.2.2.2.2.2.2.2.2.2.2.2.2.2.2.2.2.2.2.2.2.2.1 W.2.2.2.2.2.2.2.2.2.2.2.2.2.2.2.2.2.2.2.2.2.2.2.2.2.2.2.2.2.2.2.2.2.2.2.1 (fun q => absurd (Value.int.inj q) (by decide))) (Fld.ne W.2.2.2.2.2.2.2.2.2.2.2.2.2.2.2.2.2.2.2.2.2.2.2.2.2.2.2.2.2.2.2.2.2.2.1 W.2.2.2.2.2.2.2.2.2.2.2.2.2.2.2.2.2.2.2.2.2.2.2.2.2.2.2.2.2.2.2.2.2.2.2.2.1 (fun q => absurd (Value.int.inj q) (by decide))) (Fld.ne W.2.2.2.2.2.2.2.2.2.2.2.2.2.2.2.2.2.2.2.2.2.2.2.2.2.2.2.2.2.2.2.2.2.2.1 W.2.2.2.2.2.2.2.2.2.2.2.2.2.2.2.2.2.2.2.2.2.2.2.2.2.2.2.2.2.2.2.2.2.2.2.2.2.1 (fun q => absurd (Value.int.inj q) (by decide))) (Fld.ne W.2.2.2.2.2.2.2.2.2.2.2.2.2.2.2.2.2.2.2.2.2.2.2.2.2.2.2.2.2.2.2.2.2.2.1 W.2.2.2.2.2.2.2.2.2.2.2.2.2.2.2.2.2.2.2.2.2.2.2.2.2.2.2.2.2.2.2.2.2.2.2.2.2.2.1 (fun q => absurd (Value.int.inj q) (by decide)))) X53 hx hby hZ hown (own_w hw 40 rfl) (own_w hw 41 rfl) (notFace_of_selects (args := #[]) (mvT hZ (own_w hw 43 rfl))) (own_w hw 43 rfl) (own_w hw 42 rfl) (own_w hw 3 rfl) (own_w hw 44 rfl) (by decide) (by rw [hml]; rfl) w_CLIENT_DELETE_PROHIBITED [] [] pd_0 rfl at_214 rfl e53 (W.2.1.ext O53.2) rfl rfl rfl (by decide) (by decide) (by decide) (by decide) ?_
    rintro _ T63 L63 X63 ⟨rfl, N63, e63⟩
    have N63 := Fr.app N53 N63
    show Go p e below _ (T63.setTop (mkF m 217 _ [(.int (0 : Int32))]))
    refine own_aload_n 218 X63 hx hby at_217 rfl rfl rfl ?_
    refine own_iload_n 219 X63 hx hby at_218 rfl rfl ?_
    refine own_zaload 220 (.int (0 : Int32)) X63 hx hby hZ e63 V53 at_219 rfl (by decide) rfl ?_
    refine own_icN 223 X63 hx hby at_220 rfl (by decide) ?_
    refine own_iconst 224 (1 : Int32) X63 hx hby at_223 rfl (by decide) ?_
    refine own_goto 228 X63 hx hby at_224 (by decide) (by decide) ?_
    exact own_ret (Q := own_Q1 n0) X63 hx hby hret hlk at_228 rfl (Or.inl ⟨rfl, by simp, _, rfl⟩) (by decide) (by decide) ⟨rfl, N63⟩
  · refine own_irem 210 (1 : Int32) X53 hx hby at_209 rfl (by decide) hv54 ?_
    refine own_istore_n 211 #[oI x0, oA b1, oA b36, oI (1 : Int32)] X53 hx hby at_210 rfl rfl ?_
    refine own_aload_n 212 X53 hx hby at_211 rfl rfl rfl ?_
    refine own_iload_n 213 X53 hx hby at_212 rfl rfl ?_
    refine own_aaload 214 (.ref w_CLIENT_HOLD) X53 hx hby hZ e53 V35_36_37_38_39_40_41_42_43_44_45_46_47_48_49_50_51_52_53 rfl at_213 rfl (by decide) rfl ?_
    refine own_virt (W := 0) 217 (rm1_1 l Z a0 hw [] w_CLIENT_DELETE_PROHIBITED w_CLIENT_HOLD w_CLIENT_RENEW_PROHIBITED w_CLIENT_TRANSFER_PROHIBITED w_CLIENT_UPDATE_PROHIBITED w_INACTIVE w_OK w_PENDING_CREATE w_PENDING_DELETE w_PENDING_RENEW w_PENDING_TRANSFER w_PENDING_UPDATE w_SERVER_DELETE_PROHIBITED w_SERVER_HOLD w_SERVER_RENEW_PROHIBITED w_SERVER_TRANSFER_PROHIBITED w_SERVER_UPDATE_PROHIBITED W w_CLIENT_HOLD h53 n0 O53 rfl) X53 hx hby hZ hown (own_w hw 40 rfl) (own_w hw 41 rfl) (notFace_of_selects (args := #[]) (mvT hZ (own_w hw 43 rfl))) (own_w hw 43 rfl) (own_w hw 42 rfl) (own_w hw 3 rfl) (own_w hw 44 rfl) (by decide) (by rw [hml]; rfl) w_CLIENT_HOLD [] [] pd_0 rfl at_214 rfl e53 (W.2.2.2.1.ext O53.2) rfl rfl rfl (by decide) (by decide) (by decide) (by decide) ?_
    rintro _ T64 L64 X64 ⟨rfl, N64, e64⟩
    have N64 := Fr.app N53 N64
    show Go p e below _ (T64.setTop (mkF m 217 _ [(.int (1 : Int32))]))
    refine own_aload_n 218 X64 hx hby at_217 rfl rfl rfl ?_
    refine own_iload_n 219 X64 hx hby at_218 rfl rfl ?_
    refine own_zaload 220 (.int (1 : Int32)) X64 hx hby hZ e64 V53 at_219 rfl (by decide) rfl ?_
    refine own_icN 223 X64 hx hby at_220 rfl (by decide) ?_
    refine own_iconst 224 (1 : Int32) X64 hx hby at_223 rfl (by decide) ?_
    refine own_goto 228 X64 hx hby at_224 (by decide) (by decide) ?_
    exact own_ret (Q := own_Q1 n0) X64 hx hby hret hlk at_228 rfl (Or.inl ⟨rfl, by simp, _, rfl⟩) (by decide) (by decide) ⟨rfl, N64⟩
  · refine own_irem 210 (2 : Int32) X53 hx hby at_209 rfl (by decide) hv54 ?_
    refine own_istore_n 211 #[oI x0, oA b1, oA b36, oI (2 : Int32)] X53 hx hby at_210 rfl rfl ?_
    refine own_aload_n 212 X53 hx hby at_211 rfl rfl rfl ?_
    refine own_iload_n 213 X53 hx hby at_212 rfl rfl ?_
    refine own_aaload 214 (.ref w_CLIENT_RENEW_PROHIBITED) X53 hx hby hZ e53 V35_36_37_38_39_40_41_42_43_44_45_46_47_48_49_50_51_52_53 rfl at_213 rfl (by decide) rfl ?_
    refine own_virt (W := 0) 217 (rm1_5 l Z a0 hw [] w_CLIENT_DELETE_PROHIBITED w_CLIENT_HOLD w_CLIENT_RENEW_PROHIBITED w_CLIENT_TRANSFER_PROHIBITED w_CLIENT_UPDATE_PROHIBITED w_INACTIVE w_OK w_PENDING_CREATE w_PENDING_DELETE w_PENDING_RENEW w_PENDING_TRANSFER w_PENDING_UPDATE w_SERVER_DELETE_PROHIBITED w_SERVER_HOLD w_SERVER_RENEW_PROHIBITED w_SERVER_TRANSFER_PROHIBITED w_SERVER_UPDATE_PROHIBITED W w_CLIENT_RENEW_PROHIBITED h53 n0 O53 (Fld.ne W.2.2.2.2.2.2.2.2.2.2.2.2.2.2.2.2.2.2.2.2.2.2.2.2.2.2.2.2.2.2.2.2.2.2.2.2.2.2.2.2.2.2.2.1 W.2.2.2.2.2.2.2.2.2.2.2.2.2.2.2.2.2.2.2.2.2.2.2.2.2.2.2.2.2.2.2.2.2.2.2.1 (fun q => absurd (Value.int.inj q) (by decide))) (Fld.ne W.2.2.2.2.2.2.2.2.2.2.2.2.2.2.2.2.2.2.2.2.2.2.2.2.2.2.2.2.2.2.2.2.2.2.2.2.2.2.2.2.2.2.2.1 W.2.2.2.2.2.2.2.2.2.2.2.2.2.2.2.2.2.2.2.2.2.2.2.2.2.2.2.2.2.2.2.2.2.2.2.2.1 (fun q => absurd (Value.int.inj q) (by decide))) (Fld.ne W.2.2.2.2.2.2.2.2.2.2.2.2.2.2.2.2.2.2.2.2.2.2.2.2.2.2.2.2.2.2.2.2.2.2.2.2.2.2.2.2.2.2.2.1 W.2.2.2.2.2.2.2.2.2.2.2.2.2.2.2.2.2.2.2.2.2.2.2.2.2.2.2.2.2.2.2.2.2.2.2.2.2.1 (fun q => absurd (Value.int.inj q) (by decide))) (Fld.ne W.2.2.2.2.2.2.2.2.2.2.2.2.2.2.2.2.2.2.2.2.2.2.2.2.2.2.2.2.2.2.2.2.2.2.2.2.2.2.2.2.2.2.2.1 W.2.2.2.2.2.2.2.2.2.2.2.2.2.2.2.2.2.2.2.2.2.2.2.2.2.2.2.2.2.2.2.2.2.2.2.2.2.2.1 (fun q => absurd (Value.int.inj q) (by decide)))) X53 hx hby hZ hown (own_w hw 40 rfl) (own_w hw 41 rfl) (notFace_of_selects (args := #[]) (mvT hZ (own_w hw 43 rfl))) (own_w hw 43 rfl) (own_w hw 42 rfl) (own_w hw 3 rfl) (own_w hw 44 rfl) (by decide) (by rw [hml]; rfl) w_CLIENT_RENEW_PROHIBITED [] [] pd_0 rfl at_214 rfl e53 (W.2.2.2.2.2.1.ext O53.2) rfl rfl rfl (by decide) (by decide) (by decide) (by decide) ?_
    rintro _ T65 L65 X65 ⟨rfl, N65, e65⟩
    have N65 := Fr.app N53 N65
    show Go p e below _ (T65.setTop (mkF m 217 _ [(.int (0 : Int32))]))
    refine own_aload_n 218 X65 hx hby at_217 rfl rfl rfl ?_
    refine own_iload_n 219 X65 hx hby at_218 rfl rfl ?_
    refine own_zaload 220 (.int (0 : Int32)) X65 hx hby hZ e65 V53 at_219 rfl (by decide) rfl ?_
    refine own_icN 223 X65 hx hby at_220 rfl (by decide) ?_
    refine own_iconst 224 (1 : Int32) X65 hx hby at_223 rfl (by decide) ?_
    refine own_goto 228 X65 hx hby at_224 (by decide) (by decide) ?_
    exact own_ret (Q := own_Q1 n0) X65 hx hby hret hlk at_228 rfl (Or.inl ⟨rfl, by simp, _, rfl⟩) (by decide) (by decide) ⟨rfl, N65⟩
  · refine own_irem 210 (3 : Int32) X53 hx hby at_209 rfl (by decide) hv54 ?_
    refine own_istore_n 211 #[oI x0, oA b1, oA b36, oI (3 : Int32)] X53 hx hby at_210 rfl rfl ?_
    refine own_aload_n 212 X53 hx hby at_211 rfl rfl rfl ?_
    refine own_iload_n 213 X53 hx hby at_212 rfl rfl ?_
    refine own_aaload 214 (.ref w_CLIENT_TRANSFER_PROHIBITED) X53 hx hby hZ e53 V35_36_37_38_39_40_41_42_43_44_45_46_47_48_49_50_51_52_53 rfl at_213 rfl (by decide) rfl ?_
    refine own_virt (W := 0) 217 (rm1_5 l Z a0 hw [] w_CLIENT_DELETE_PROHIBITED w_CLIENT_HOLD w_CLIENT_RENEW_PROHIBITED w_CLIENT_TRANSFER_PROHIBITED w_CLIENT_UPDATE_PROHIBITED w_INACTIVE w_OK w_PENDING_CREATE w_PENDING_DELETE w_PENDING_RENEW w_PENDING_TRANSFER w_PENDING_UPDATE w_SERVER_DELETE_PROHIBITED w_SERVER_HOLD w_SERVER_RENEW_PROHIBITED w_SERVER_TRANSFER_PROHIBITED w_SERVER_UPDATE_PROHIBITED W w_CLIENT_TRANSFER_PROHIBITED h53 n0 O53 (Fld.ne W.2.2.2.2.2.2.2.2.2.2.2.2.2.2.2.2.2.2.2.2.2.2.2.2.2.2.2.2.2.2.2.2.2.2.2.2.2.2.2.1 W.2.2.2.2.2.2.2.2.2.2.2.2.2.2.2.2.2.2.2.2.2.2.2.2.2.2.2.2.2.2.2.2.2.2.2.1 (fun q => absurd (Value.int.inj q) (by decide))) (Fld.ne W.2.2.2.2.2.2.2.2.2.2.2.2.2.2.2.2.2.2.2.2.2.2.2.2.2.2.2.2.2.2.2.2.2.2.2.2.2.2.2.1 W.2.2.2.2.2.2.2.2.2.2.2.2.2.2.2.2.2.2.2.2.2.2.2.2.2.2.2.2.2.2.2.2.2.2.2.2.1 (fun q => absurd (Value.int.inj q) (by decide))) (Fld.ne W.2.2.2.2.2.2.2.2.2.2.2.2.2.2.2.2.2.2.2.2.2.2.2.2.2.2.2.2.2.2.2.2.2.2.2.2.2.2.2.1 W.2.2.2.2.2.2.2.2.2.2.2.2.2.2.2.2.2.2.2.2.2.2.2.2.2.2.2.2.2.2.2.2.2.2.2.2.2.1 (fun q => absurd (Value.int.inj q) (by decide))) (Fld.ne W.2.2.2.2.2.2.2.2.2.2.2.2.2.2.2.2.2.2.2.2.2.2.2.2.2.2.2.2.2.2.2.2.2.2.2.2.2.2.2.1 W.2.2.2.2.2.2.2.2.2.2.2.2.2.2.2.2.2.2.2.2.2.2.2.2.2.2.2.2.2.2.2.2.2.2.2.2.2.2.1 (fun q => absurd (Value.int.inj q) (by decide)))) X53 hx hby hZ hown (own_w hw 40 rfl) (own_w hw 41 rfl) (notFace_of_selects (args := #[]) (mvT hZ (own_w hw 43 rfl))) (own_w hw 43 rfl) (own_w hw 42 rfl) (own_w hw 3 rfl) (own_w hw 44 rfl) (by decide) (by rw [hml]; rfl) w_CLIENT_TRANSFER_PROHIBITED [] [] pd_0 rfl at_214 rfl e53 (W.2.2.2.2.2.2.2.1.ext O53.2) rfl rfl rfl (by decide) (by decide) (by decide) (by decide) ?_
    rintro _ T66 L66 X66 ⟨rfl, N66, e66⟩
    have N66 := Fr.app N53 N66
    show Go p e below _ (T66.setTop (mkF m 217 _ [(.int (0 : Int32))]))
    refine own_aload_n 218 X66 hx hby at_217 rfl rfl rfl ?_
    refine own_iload_n 219 X66 hx hby at_218 rfl rfl ?_
    refine own_zaload 220 (.int (0 : Int32)) X66 hx hby hZ e66 V53 at_219 rfl (by decide) rfl ?_
    refine own_icN 223 X66 hx hby at_220 rfl (by decide) ?_
    refine own_iconst 224 (1 : Int32) X66 hx hby at_223 rfl (by decide) ?_
    refine own_goto 228 X66 hx hby at_224 (by decide) (by decide) ?_
    exact own_ret (Q := own_Q1 n0) X66 hx hby hret hlk at_228 rfl (Or.inl ⟨rfl, by simp, _, rfl⟩) (by decide) (by decide) ⟨rfl, N66⟩
  · refine own_irem 210 (4 : Int32) X53 hx hby at_209 rfl (by decide) hv54 ?_
    refine own_istore_n 211 #[oI x0, oA b1, oA b36, oI (4 : Int32)] X53 hx hby at_210 rfl rfl ?_
    refine own_aload_n 212 X53 hx hby at_211 rfl rfl rfl ?_
    refine own_iload_n 213 X53 hx hby at_212 rfl rfl ?_
    refine own_aaload 214 (.ref w_CLIENT_UPDATE_PROHIBITED) X53 hx hby hZ e53 V35_36_37_38_39_40_41_42_43_44_45_46_47_48_49_50_51_52_53 rfl at_213 rfl (by decide) rfl ?_
    refine own_virt (W := 0) 217 (rm1_5 l Z a0 hw [] w_CLIENT_DELETE_PROHIBITED w_CLIENT_HOLD w_CLIENT_RENEW_PROHIBITED w_CLIENT_TRANSFER_PROHIBITED w_CLIENT_UPDATE_PROHIBITED w_INACTIVE w_OK w_PENDING_CREATE w_PENDING_DELETE w_PENDING_RENEW w_PENDING_TRANSFER w_PENDING_UPDATE w_SERVER_DELETE_PROHIBITED w_SERVER_HOLD w_SERVER_RENEW_PROHIBITED w_SERVER_TRANSFER_PROHIBITED w_SERVER_UPDATE_PROHIBITED W w_CLIENT_UPDATE_PROHIBITED h53 n0 O53 (Fld.ne W.2.2.2.2.2.2.2.2.2.2.2.2.2.2.2.2.2.2.2.2.2.2.2.2.2.2.2.2.2.2.2.2.2.2.2.2.2.2.2.2.2.2.2.2.2.1 W.2.2.2.2.2.2.2.2.2.2.2.2.2.2.2.2.2.2.2.2.2.2.2.2.2.2.2.2.2.2.2.2.2.2.2.1 (fun q => absurd (Value.int.inj q) (by decide))) (Fld.ne W.2.2.2.2.2.2.2.2.2.2.2.2.2.2.2.2.2.2.2.2.2.2.2.2.2.2.2.2.2.2.2.2.2.2.2.2.2.2.2.2.2.2.2.2.2.1 W.2.2.2.2.2.2.2.2.2.2.2.2.2.2.2.2.2.2.2.2.2.2.2.2.2.2.2.2.2.2.2.2.2.2.2.2.1 (fun q => absurd (Value.int.inj q) (by decide))) (Fld.ne W.2.2.2.2.2.2.2.2.2.2.2.2.2.2.2.2.2.2.2.2.2.2.2.2.2.2.2.2.2.2.2.2.2.2.2.2.2.2.2.2.2.2.2.2.2.1 W.2.2.2.2.2.2.2.2.2.2.2.2.2.2.2.2.2.2.2.2.2.2.2.2.2.2.2.2.2.2.2.2.2.2.2.2.2.1 (fun q => absurd (Value.int.inj q) (by decide))) (Fld.ne W.2.2.2.2.2.2.2.2.2.2.2.2.2.2.2.2.2.2.2.2.2.2.2.2.2.2.2.2.2.2.2.2.2.2.2.2.2.2.2.2.2.2.2.2.2.1 W.2.2.2.2.2.2.2.2.2.2.2.2.2.2.2.2.2.2.2.2.2.2.2.2.2.2.2.2.2.2.2.2.2.2.2.2.2.2.1 (fun q => absurd (Value.int.inj q) (by decide)))) X53 hx hby hZ hown (own_w hw 40 rfl) (own_w hw 41 rfl) (notFace_of_selects (args := #[]) (mvT hZ (own_w hw 43 rfl))) (own_w hw 43 rfl) (own_w hw 42 rfl) (own_w hw 3 rfl) (own_w hw 44 rfl) (by decide) (by rw [hml]; rfl) w_CLIENT_UPDATE_PROHIBITED [] [] pd_0 rfl at_214 rfl e53 (W.2.2.2.2.2.2.2.2.2.1.ext O53.2) rfl rfl rfl (by decide) (by decide) (by decide) (by decide) ?_
    rintro _ T67 L67 X67 ⟨rfl, N67, e67⟩
    have N67 := Fr.app N53 N67
    show Go p e below _ (T67.setTop (mkF m 217 _ [(.int (0 : Int32))]))
    refine own_aload_n 218 X67 hx hby at_217 rfl rfl rfl ?_
    refine own_iload_n 219 X67 hx hby at_218 rfl rfl ?_
    refine own_zaload 220 (.int (0 : Int32)) X67 hx hby hZ e67 V53 at_219 rfl (by decide) rfl ?_
    refine own_icN 223 X67 hx hby at_220 rfl (by decide) ?_
    refine own_iconst 224 (1 : Int32) X67 hx hby at_223 rfl (by decide) ?_
    refine own_goto 228 X67 hx hby at_224 (by decide) (by decide) ?_
    exact own_ret (Q := own_Q1 n0) X67 hx hby hret hlk at_228 rfl (Or.inl ⟨rfl, by simp, _, rfl⟩) (by decide) (by decide) ⟨rfl, N67⟩
  · refine own_irem 210 (5 : Int32) X53 hx hby at_209 rfl (by decide) hv54 ?_
    refine own_istore_n 211 #[oI x0, oA b1, oA b36, oI (5 : Int32)] X53 hx hby at_210 rfl rfl ?_
    refine own_aload_n 212 X53 hx hby at_211 rfl rfl rfl ?_
    refine own_iload_n 213 X53 hx hby at_212 rfl rfl ?_
    refine own_aaload 214 (.ref w_INACTIVE) X53 hx hby hZ e53 V35_36_37_38_39_40_41_42_43_44_45_46_47_48_49_50_51_52_53 rfl at_213 rfl (by decide) rfl ?_
    refine own_virt (W := 0) 217 (rm1_3 l Z a0 hw [] w_CLIENT_DELETE_PROHIBITED w_CLIENT_HOLD w_CLIENT_RENEW_PROHIBITED w_CLIENT_TRANSFER_PROHIBITED w_CLIENT_UPDATE_PROHIBITED w_INACTIVE w_OK w_PENDING_CREATE w_PENDING_DELETE w_PENDING_RENEW w_PENDING_TRANSFER w_PENDING_UPDATE w_SERVER_DELETE_PROHIBITED w_SERVER_HOLD w_SERVER_RENEW_PROHIBITED w_SERVER_TRANSFER_PROHIBITED w_SERVER_UPDATE_PROHIBITED W w_INACTIVE h53 n0 O53 (Fld.ne W.2.2.2.2.2.2.2.2.2.2.2.2.2.2.2.2.2.2.2.2.2.2.2.2.2.2.2.2.2.2.2.2.2.2.2.2.2.1 W.2.2.2.2.2.2.2.2.2.2.2.2.2.2.2.2.2.2.2.2.2.2.2.2.2.2.2.2.2.2.2.2.2.2.2.1 (fun q => absurd (Value.int.inj q) (by decide))) (Fld.ne W.2.2.2.2.2.2.2.2.2.2.2.2.2.2.2.2.2.2.2.2.2.2.2.2.2.2.2.2.2.2.2.2.2.2.2.2.2.1 W.2.2.2.2.2.2.2.2.2.2.2.2.2.2.2.2.2.2.2.2.2.2.2.2.2.2.2.2.2.2.2.2.2.2.2.2.1 (fun q => absurd (Value.int.inj q) (by decide))) rfl) X53 hx hby hZ hown (own_w hw 40 rfl) (own_w hw 41 rfl) (notFace_of_selects (args := #[]) (mvT hZ (own_w hw 43 rfl))) (own_w hw 43 rfl) (own_w hw 42 rfl) (own_w hw 3 rfl) (own_w hw 44 rfl) (by decide) (by rw [hml]; rfl) w_INACTIVE [] [] pd_0 rfl at_214 rfl e53 (W.2.2.2.2.2.2.2.2.2.2.2.1.ext O53.2) rfl rfl rfl (by decide) (by decide) (by decide) (by decide) ?_
    rintro _ T68 L68 X68 ⟨rfl, N68, e68⟩
    have N68 := Fr.app N53 N68
    show Go p e below _ (T68.setTop (mkF m 217 _ [(.int (1 : Int32))]))
    refine own_aload_n 218 X68 hx hby at_217 rfl rfl rfl ?_
    refine own_iload_n 219 X68 hx hby at_218 rfl rfl ?_
    refine own_zaload 220 (.int (1 : Int32)) X68 hx hby hZ e68 V53 at_219 rfl (by decide) rfl ?_
    refine own_icN 223 X68 hx hby at_220 rfl (by decide) ?_
    refine own_iconst 224 (1 : Int32) X68 hx hby at_223 rfl (by decide) ?_
    refine own_goto 228 X68 hx hby at_224 (by decide) (by decide) ?_
    exact own_ret (Q := own_Q1 n0) X68 hx hby hret hlk at_228 rfl (Or.inl ⟨rfl, by simp, _, rfl⟩) (by decide) (by decide) ⟨rfl, N68⟩
  · refine own_irem 210 (6 : Int32) X53 hx hby at_209 rfl (by decide) hv54 ?_
    refine own_istore_n 211 #[oI x0, oA b1, oA b36, oI (6 : Int32)] X53 hx hby at_210 rfl rfl ?_
    refine own_aload_n 212 X53 hx hby at_211 rfl rfl rfl ?_
    refine own_iload_n 213 X53 hx hby at_212 rfl rfl ?_
    refine own_aaload 214 (.ref w_OK) X53 hx hby hZ e53 V35_36_37_38_39_40_41_42_43_44_45_46_47_48_49_50_51_52_53 rfl at_213 rfl (by decide) rfl ?_
    refine own_virt (W := 0) 217 (rm1_5 l Z a0 hw [] w_CLIENT_DELETE_PROHIBITED w_CLIENT_HOLD w_CLIENT_RENEW_PROHIBITED w_CLIENT_TRANSFER_PROHIBITED w_CLIENT_UPDATE_PROHIBITED w_INACTIVE w_OK w_PENDING_CREATE w_PENDING_DELETE w_PENDING_RENEW w_PENDING_TRANSFER w_PENDING_UPDATE w_SERVER_DELETE_PROHIBITED w_SERVER_HOLD w_SERVER_RENEW_PROHIBITED w_SERVER_TRANSFER_PROHIBITED w_SERVER_UPDATE_PROHIBITED W w_OK h53 n0 O53 (Fld.ne W.2.2.2.2.2.2.2.2.2.2.2.2.2.2.2.2.2.2.2.2.2.2.2.2.2.2.2.2.2.2.2.2.2.2.2.2.2.2.2.2.2.1 W.2.2.2.2.2.2.2.2.2.2.2.2.2.2.2.2.2.2.2.2.2.2.2.2.2.2.2.2.2.2.2.2.2.2.2.1 (fun q => absurd (Value.int.inj q) (by decide))) (Fld.ne W.2.2.2.2.2.2.2.2.2.2.2.2.2.2.2.2.2.2.2.2.2.2.2.2.2.2.2.2.2.2.2.2.2.2.2.2.2.2.2.2.2.1 W.2.2.2.2.2.2.2.2.2.2.2.2.2.2.2.2.2.2.2.2.2.2.2.2.2.2.2.2.2.2.2.2.2.2.2.2.1 (fun q => absurd (Value.int.inj q) (by decide))) (Fld.ne W.2.2.2.2.2.2.2.2.2.2.2.2.2.2.2.2.2.2.2.2.2.2.2.2.2.2.2.2.2.2.2.2.2.2.2.2.2.2.2.2.2.1 W.2.2.2.2.2.2.2.2.2.2.2.2.2.2.2.2.2.2.2.2.2.2.2.2.2.2.2.2.2.2.2.2.2.2.2.2.2.1 (fun q => absurd (Value.int.inj q) (by decide))) (Fld.ne W.2.2.2.2.2.2.2.2.2.2.2.2.2.2.2.2.2.2.2.2.2.2.2.2.2.2.2.2.2.2.2.2.2.2.2.2.2.2.2.2.2.1 W.2.2.2.2.2.2.2.2.2.2.2.2.2.2.2.2.2.2.2.2.2.2.2.2.2.2.2.2.2.2.2.2.2.2.2.2.2.2.1 (fun q => absurd (Value.int.inj q) (by decide)))) X53 hx hby hZ hown (own_w hw 40 rfl) (own_w hw 41 rfl) (notFace_of_selects (args := #[]) (mvT hZ (own_w hw 43 rfl))) (own_w hw 43 rfl) (own_w hw 42 rfl) (own_w hw 3 rfl) (own_w hw 44 rfl) (by decide) (by rw [hml]; rfl) w_OK [] [] pd_0 rfl at_214 rfl e53 (W.2.2.2.2.2.2.2.2.2.2.2.2.2.1.ext O53.2) rfl rfl rfl (by decide) (by decide) (by decide) (by decide) ?_
    rintro _ T69 L69 X69 ⟨rfl, N69, e69⟩
    have N69 := Fr.app N53 N69
    show Go p e below _ (T69.setTop (mkF m 217 _ [(.int (0 : Int32))]))
    refine own_aload_n 218 X69 hx hby at_217 rfl rfl rfl ?_
    refine own_iload_n 219 X69 hx hby at_218 rfl rfl ?_
    refine own_zaload 220 (.int (0 : Int32)) X69 hx hby hZ e69 V53 at_219 rfl (by decide) rfl ?_
    refine own_icN 223 X69 hx hby at_220 rfl (by decide) ?_
    refine own_iconst 224 (1 : Int32) X69 hx hby at_223 rfl (by decide) ?_
    refine own_goto 228 X69 hx hby at_224 (by decide) (by decide) ?_
    exact own_ret (Q := own_Q1 n0) X69 hx hby hret hlk at_228 rfl (Or.inl ⟨rfl, by simp, _, rfl⟩) (by decide) (by decide) ⟨rfl, N69⟩
  · refine own_irem 210 (7 : Int32) X53 hx hby at_209 rfl (by decide) hv54 ?_
    refine own_istore_n 211 #[oI x0, oA b1, oA b36, oI (7 : Int32)] X53 hx hby at_210 rfl rfl ?_
    refine own_aload_n 212 X53 hx hby at_211 rfl rfl rfl ?_
    refine own_iload_n 213 X53 hx hby at_212 rfl rfl ?_
    refine own_aaload 214 (.ref w_PENDING_CREATE) X53 hx hby hZ e53 V35_36_37_38_39_40_41_42_43_44_45_46_47_48_49_50_51_52_53 rfl at_213 rfl (by decide) rfl ?_
    refine own_virt (W := 0) 217 (rm1_5 l Z a0 hw [] w_CLIENT_DELETE_PROHIBITED w_CLIENT_HOLD w_CLIENT_RENEW_PROHIBITED w_CLIENT_TRANSFER_PROHIBITED w_CLIENT_UPDATE_PROHIBITED w_INACTIVE w_OK w_PENDING_CREATE w_PENDING_DELETE w_PENDING_RENEW w_PENDING_TRANSFER w_PENDING_UPDATE w_SERVER_DELETE_PROHIBITED w_SERVER_HOLD w_SERVER_RENEW_PROHIBITED w_SERVER_TRANSFER_PROHIBITED w_SERVER_UPDATE_PROHIBITED W w_PENDING_CREATE h53 n0 O53 (Fld.ne W.2.2.2.2.2.2.2.2.2.2.2.2.2.2.2.2.2.2.2.2.2.2.2.2.2.2.2.2.2.2.2.2.2.2.2.2.2.2.2.2.2.2.1 W.2.2.2.2.2.2.2.2.2.2.2.2.2.2.2.2.2.2.2.2.2.2.2.2.2.2.2.2.2.2.2.2.2.2.2.1 (fun q => absurd (Value.int.inj q) (by decide))) (Fld.ne W.2.2.2.2.2.2.2.2.2.2.2.2.2.2.2.2.2.2.2.2.2.2.2.2.2.2.2.2.2.2.2.2.2.2.2.2.2.2.2.2.2.2.1 W.2.2.2.2.2.2.2.2.2.2.2.2.2.2.2.2.2.2.2.2.2.2.2.2.2.2.2.2.2.2.2.2.2.2.2.2.1 (fun q => absurd (Value.int.inj q) (by decide))) (Fld.ne W.2.2.2.2.2.2.2.2.2.2.2.2.2.2.2.2.2.2.2.2.2.2.2.2.2.2.2.2.2.2.2.2.2.2.2.2.2.2.2.2.2.2.1 W.2.2.2.2.2.2.2.2.2.2.2.2.2.2.2.2.2.2.2.2.2.2.2.2.2.2.2.2.2.2.2.2.2.2.2.2.2.1 (fun q => absurd (Value.int.inj q) (by decide))) (Fld.ne W.2.2.2.2.2.2.2.2.2.2.2.2.2.2.2.2.2.2.2.2.2.2.2.2.2.2.2.2.2.2.2.2.2.2.2.2.2.2.2.2.2.2.1 W.2.2.2.2.2.2.2.2.2.2.2.2.2.2.2.2.2.2.2.2.2.2.2.2.2.2.2.2.2.2.2.2.2.2.2.2.2.2.1 (fun q => absurd (Value.int.inj q) (by decide)))) X53 hx hby hZ hown (own_w hw 40 rfl) (own_w hw 41 rfl) (notFace_of_selects (args := #[]) (mvT hZ (own_w hw 43 rfl))) (own_w hw 43 rfl) (own_w hw 42 rfl) (own_w hw 3 rfl) (own_w hw 44 rfl) (by decide) (by rw [hml]; rfl) w_PENDING_CREATE [] [] pd_0 rfl at_214 rfl e53 (W.2.2.2.2.2.2.2.2.2.2.2.2.2.2.2.1.ext O53.2) rfl rfl rfl (by decide) (by decide) (by decide) (by decide) ?_
    rintro _ T70 L70 X70 ⟨rfl, N70, e70⟩
    have N70 := Fr.app N53 N70
    show Go p e below _ (T70.setTop (mkF m 217 _ [(.int (0 : Int32))]))
    refine own_aload_n 218 X70 hx hby at_217 rfl rfl rfl ?_
    refine own_iload_n 219 X70 hx hby at_218 rfl rfl ?_
    refine own_zaload 220 (.int (0 : Int32)) X70 hx hby hZ e70 V53 at_219 rfl (by decide) rfl ?_
    refine own_icN 223 X70 hx hby at_220 rfl (by decide) ?_
    refine own_iconst 224 (1 : Int32) X70 hx hby at_223 rfl (by decide) ?_
    refine own_goto 228 X70 hx hby at_224 (by decide) (by decide) ?_
    exact own_ret (Q := own_Q1 n0) X70 hx hby hret hlk at_228 rfl (Or.inl ⟨rfl, by simp, _, rfl⟩) (by decide) (by decide) ⟨rfl, N70⟩
  · refine own_irem 210 (8 : Int32) X53 hx hby at_209 rfl (by decide) hv54 ?_
    refine own_istore_n 211 #[oI x0, oA b1, oA b36, oI (8 : Int32)] X53 hx hby at_210 rfl rfl ?_
    refine own_aload_n 212 X53 hx hby at_211 rfl rfl rfl ?_
    refine own_iload_n 213 X53 hx hby at_212 rfl rfl ?_
    refine own_aaload 214 (.ref w_PENDING_DELETE) X53 hx hby hZ e53 V35_36_37_38_39_40_41_42_43_44_45_46_47_48_49_50_51_52_53 rfl at_213 rfl (by decide) rfl ?_
    refine own_virt (W := 0) 217 (rm1_4 l Z a0 hw [] w_CLIENT_DELETE_PROHIBITED w_CLIENT_HOLD w_CLIENT_RENEW_PROHIBITED w_CLIENT_TRANSFER_PROHIBITED w_CLIENT_UPDATE_PROHIBITED w_INACTIVE w_OK w_PENDING_CREATE w_PENDING_DELETE w_PENDING_RENEW w_PENDING_TRANSFER w_PENDING_UPDATE w_SERVER_DELETE_PROHIBITED w_SERVER_HOLD w_SERVER_RENEW_PROHIBITED w_SERVER_TRANSFER_PROHIBITED w_SERVER_UPDATE_PROHIBITED W w_PENDING_DELETE h53 n0 O53 (Fld.ne W.2.2.2.2.2.2.2.2.2.2.2.2.2.2.2.2.2.2.2.2.2.2.2.2.2.2.2.2.2.2.2.2.2.2.2.2.2.2.1 W.2.2.2.2.2.2.2.2.2.2.2.2.2.2.2.2.2.2.2.2.2.2.2.2.2.2.2.2.2.2.2.2.2.2.2.1 (fun q => absurd (Value.int.inj q) (by decide))) (Fld.ne W.2.2.2.2.2.2.2.2.2.2.2.2.2.2.2.2.2.2.2.2.2.2.2.2.2.2.2.2.2.2.2.2.2.2.2.2.2.2.1 W.2.2.2.2.2.2.2.2.2.2.2.2.2.2.2.2.2.2.2.2.2.2.2.2.2.2.2.2.2.2.2.2.2.2.2.2.1 (fun q => absurd (Value.int.inj q) (by decide))) (Fld.ne W.2.2.2.2.2.2.2.2.2.2.2.2.2.2.2.2.2.2.2.2.2.2.2.2.2.2.2.2.2.2.2.2.2.2.2.2.2.2.1 W.2.2.2.2.2.2.2.2.2.2.2.2.2.2.2.2.2.2.2.2.2.2.2.2.2.2.2.2.2.2.2.2.2.2.2.2.2.1 (fun q => absurd (Value.int.inj q) (by decide))) rfl) X53 hx hby hZ hown (own_w hw 40 rfl) (own_w hw 41 rfl) (notFace_of_selects (args := #[]) (mvT hZ (own_w hw 43 rfl))) (own_w hw 43 rfl) (own_w hw 42 rfl) (own_w hw 3 rfl) (own_w hw 44 rfl) (by decide) (by rw [hml]; rfl) w_PENDING_DELETE [] [] pd_0 rfl at_214 rfl e53 (W.2.2.2.2.2.2.2.2.2.2.2.2.2.2.2.2.2.1.ext O53.2) rfl rfl rfl (by decide) (by decide) (by decide) (by decide) ?_
    rintro _ T71 L71 X71 ⟨rfl, N71, e71⟩
    have N71 := Fr.app N53 N71
    show Go p e below _ (T71.setTop (mkF m 217 _ [(.int (1 : Int32))]))
    refine own_aload_n 218 X71 hx hby at_217 rfl rfl rfl ?_
    refine own_iload_n 219 X71 hx hby at_218 rfl rfl ?_
    refine own_zaload 220 (.int (1 : Int32)) X71 hx hby hZ e71 V53 at_219 rfl (by decide) rfl ?_
    refine own_icN 223 X71 hx hby at_220 rfl (by decide) ?_
    refine own_iconst 224 (1 : Int32) X71 hx hby at_223 rfl (by decide) ?_
    refine own_goto 228 X71 hx hby at_224 (by decide) (by decide) ?_
    exact own_ret (Q := own_Q1 n0) X71 hx hby hret hlk at_228 rfl (Or.inl ⟨rfl, by simp, _, rfl⟩) (by decide) (by decide) ⟨rfl, N71⟩
  · refine own_irem 210 (9 : Int32) X53 hx hby at_209 rfl (by decide) hv54 ?_
    refine own_istore_n 211 #[oI x0, oA b1, oA b36, oI (9 : Int32)] X53 hx hby at_210 rfl rfl ?_
    refine own_aload_n 212 X53 hx hby at_211 rfl rfl rfl ?_
    refine own_iload_n 213 X53 hx hby at_212 rfl rfl ?_
    refine own_aaload 214 (.ref w_PENDING_RENEW) X53 hx hby hZ e53 V35_36_37_38_39_40_41_42_43_44_45_46_47_48_49_50_51_52_53 rfl at_213 rfl (by decide) rfl ?_
    refine own_virt (W := 0) 217 (rm1_5 l Z a0 hw [] w_CLIENT_DELETE_PROHIBITED w_CLIENT_HOLD w_CLIENT_RENEW_PROHIBITED w_CLIENT_TRANSFER_PROHIBITED w_CLIENT_UPDATE_PROHIBITED w_INACTIVE w_OK w_PENDING_CREATE w_PENDING_DELETE w_PENDING_RENEW w_PENDING_TRANSFER w_PENDING_UPDATE w_SERVER_DELETE_PROHIBITED w_SERVER_HOLD w_SERVER_RENEW_PROHIBITED w_SERVER_TRANSFER_PROHIBITED w_SERVER_UPDATE_PROHIBITED W w_PENDING_RENEW h53 n0 O53 (Fld.ne W.2.2.2.2.2.2.2.2.2.2.2.2.2.2.2.2.2.2.2.2.2.2.2.2.2.2.2.2.2.2.2.2.2.2.2.2.2.2.2.2.1 W.2.2.2.2.2.2.2.2.2.2.2.2.2.2.2.2.2.2.2.2.2.2.2.2.2.2.2.2.2.2.2.2.2.2.2.1 (fun q => absurd (Value.int.inj q) (by decide))) (Fld.ne W.2.2.2.2.2.2.2.2.2.2.2.2.2.2.2.2.2.2.2.2.2.2.2.2.2.2.2.2.2.2.2.2.2.2.2.2.2.2.2.2.1 W.2.2.2.2.2.2.2.2.2.2.2.2.2.2.2.2.2.2.2.2.2.2.2.2.2.2.2.2.2.2.2.2.2.2.2.2.1 (fun q => absurd (Value.int.inj q) (by decide))) (Fld.ne W.2.2.2.2.2.2.2.2.2.2.2.2.2.2.2.2.2.2.2.2.2.2.2.2.2.2.2.2.2.2.2.2.2.2.2.2.2.2.2.2.1 W.2.2.2.2.2.2.2.2.2.2.2.2.2.2.2.2.2.2.2.2.2.2.2.2.2.2.2.2.2.2.2.2.2.2.2.2.2.1 (fun q => absurd (Value.int.inj q) (by decide))) (Fld.ne W.2.2.2.2.2.2.2.2.2.2.2.2.2.2.2.2.2.2.2.2.2.2.2.2.2.2.2.2.2.2.2.2.2.2.2.2.2.2.2.2.1 W.2.2.2.2.2.2.2.2.2.2.2.2.2.2.2.2.2.2.2.2.2.2.2.2.2.2.2.2.2.2.2.2.2.2.2.2.2.2.1 (fun q => absurd (Value.int.inj q) (by decide)))) X53 hx hby hZ hown (own_w hw 40 rfl) (own_w hw 41 rfl) (notFace_of_selects (args := #[]) (mvT hZ (own_w hw 43 rfl))) (own_w hw 43 rfl) (own_w hw 42 rfl) (own_w hw 3 rfl) (own_w hw 44 rfl) (by decide) (by rw [hml]; rfl) w_PENDING_RENEW [] [] pd_0 rfl at_214 rfl e53 (W.2.2.2.2.2.2.2.2.2.2.2.2.2.2.2.2.2.2.2.1.ext O53.2) rfl rfl rfl (by decide) (by decide) (by decide) (by decide) ?_
    rintro _ T72 L72 X72 ⟨rfl, N72, e72⟩
    have N72 := Fr.app N53 N72
    show Go p e below _ (T72.setTop (mkF m 217 _ [(.int (0 : Int32))]))
    refine own_aload_n 218 X72 hx hby at_217 rfl rfl rfl ?_
    refine own_iload_n 219 X72 hx hby at_218 rfl rfl ?_
    refine own_zaload 220 (.int (0 : Int32)) X72 hx hby hZ e72 V53 at_219 rfl (by decide) rfl ?_
    refine own_icN 223 X72 hx hby at_220 rfl (by decide) ?_
    refine own_iconst 224 (1 : Int32) X72 hx hby at_223 rfl (by decide) ?_
    refine own_goto 228 X72 hx hby at_224 (by decide) (by decide) ?_
    exact own_ret (Q := own_Q1 n0) X72 hx hby hret hlk at_228 rfl (Or.inl ⟨rfl, by simp, _, rfl⟩) (by decide) (by decide) ⟨rfl, N72⟩
  · refine own_irem 210 (10 : Int32) X53 hx hby at_209 rfl (by decide) hv54 ?_
    refine own_istore_n 211 #[oI x0, oA b1, oA b36, oI (10 : Int32)] X53 hx hby at_210 rfl rfl ?_
    refine own_aload_n 212 X53 hx hby at_211 rfl rfl rfl ?_
    refine own_iload_n 213 X53 hx hby at_212 rfl rfl ?_
    refine own_aaload 214 (.ref w_PENDING_TRANSFER) X53 hx hby hZ e53 V35_36_37_38_39_40_41_42_43_44_45_46_47_48_49_50_51_52_53 rfl at_213 rfl (by decide) rfl ?_
    refine own_virt (W := 0) 217 (rm1_5 l Z a0 hw [] w_CLIENT_DELETE_PROHIBITED w_CLIENT_HOLD w_CLIENT_RENEW_PROHIBITED w_CLIENT_TRANSFER_PROHIBITED w_CLIENT_UPDATE_PROHIBITED w_INACTIVE w_OK w_PENDING_CREATE w_PENDING_DELETE w_PENDING_RENEW w_PENDING_TRANSFER w_PENDING_UPDATE w_SERVER_DELETE_PROHIBITED w_SERVER_HOLD w_SERVER_RENEW_PROHIBITED w_SERVER_TRANSFER_PROHIBITED w_SERVER_UPDATE_PROHIBITED W w_PENDING_TRANSFER h53 n0 O53 (Fld.ne W.2.2.2.2.2.2.2.2.2.2.2.2.2.2.2.2.2.2.2.2.2.2.2.2.2.2.2.2.2.2.2.2.2.2.2.2.2.2.2.2.2.2.2.2.2.2.1 W.2.2.2.2.2.2.2.2.2.2.2.2.2.2.2.2.2.2.2.2.2.2.2.2.2.2.2.2.2.2.2.2.2.2.2.1 (fun q => absurd (Value.int.inj q) (by decide))) (Fld.ne W.2.2.2.2.2.2.2.2.2.2.2.2.2.2.2.2.2.2.2.2.2.2.2.2.2.2.2.2.2.2.2.2.2.2.2.2.2.2.2.2.2.2.2.2.2.2.1 W.2.2.2.2.2.2.2.2.2.2.2.2.2.2.2.2.2.2.2.2.2.2.2.2.2.2.2.2.2.2.2.2.2.2.2.2.1 (fun q => absurd (Value.int.inj q) (by decide))) (Fld.ne W.2.2.2.2.2.2.2.2.2.2.2.2.2.2.2.2.2.2.2.2.2.2.2.2.2.2.2.2.2.2.2.2.2.2.2.2.2.2.2.2.2.2.2.2.2.2.1 W.2.2.2.2.2.2.2.2.2.2.2.2.2.2.2.2.2.2.2.2.2.2.2.2.2.2.2.2.2.2.2.2.2.2.2.2.2.1 (fun q => absurd (Value.int.inj q) (by decide))) (Fld.ne W.2.2.2.2.2.2.2.2.2.2.2.2.2.2.2.2.2.2.2.2.2.2.2.2.2.2.2.2.2.2.2.2.2.2.2.2.2.2.2.2.2.2.2.2.2.2.1 W.2.2.2.2.2.2.2.2.2.2.2.2.2.2.2.2.2.2.2.2.2.2.2.2.2.2.2.2.2.2.2.2.2.2.2.2.2.2.1 (fun q => absurd (Value.int.inj q) (by decide)))) X53 hx hby hZ hown (own_w hw 40 rfl) (own_w hw 41 rfl) (notFace_of_selects (args := #[]) (mvT hZ (own_w hw 43 rfl))) (own_w hw 43 rfl) (own_w hw 42 rfl) (own_w hw 3 rfl) (own_w hw 44 rfl) (by decide) (by rw [hml]; rfl) w_PENDING_TRANSFER [] [] pd_0 rfl at_214 rfl e53 (W.2.2.2.2.2.2.2.2.2.2.2.2.2.2.2.2.2.2.2.2.2.1.ext O53.2) rfl rfl rfl (by decide) (by decide) (by decide) (by decide) ?_
    rintro _ T73 L73 X73 ⟨rfl, N73, e73⟩
    have N73 := Fr.app N53 N73
    show Go p e below _ (T73.setTop (mkF m 217 _ [(.int (0 : Int32))]))
    refine own_aload_n 218 X73 hx hby at_217 rfl rfl rfl ?_
    refine own_iload_n 219 X73 hx hby at_218 rfl rfl ?_
    refine own_zaload 220 (.int (0 : Int32)) X73 hx hby hZ e73 V53 at_219 rfl (by decide) rfl ?_
    refine own_icN 223 X73 hx hby at_220 rfl (by decide) ?_
    refine own_iconst 224 (1 : Int32) X73 hx hby at_223 rfl (by decide) ?_
    refine own_goto 228 X73 hx hby at_224 (by decide) (by decide) ?_
    exact own_ret (Q := own_Q1 n0) X73 hx hby hret hlk at_228 rfl (Or.inl ⟨rfl, by simp, _, rfl⟩) (by decide) (by decide) ⟨rfl, N73⟩
  · refine own_irem 210 (11 : Int32) X53 hx hby at_209 rfl (by decide) hv54 ?_
    refine own_istore_n 211 #[oI x0, oA b1, oA b36, oI (11 : Int32)] X53 hx hby at_210 rfl rfl ?_
    refine own_aload_n 212 X53 hx hby at_211 rfl rfl rfl ?_
    refine own_iload_n 213 X53 hx hby at_212 rfl rfl ?_
    refine own_aaload 214 (.ref w_PENDING_UPDATE) X53 hx hby hZ e53 V35_36_37_38_39_40_41_42_43_44_45_46_47_48_49_50_51_52_53 rfl at_213 rfl (by decide) rfl ?_
    refine own_virt (W := 0) 217 (rm1_5 l Z a0 hw [] w_CLIENT_DELETE_PROHIBITED w_CLIENT_HOLD w_CLIENT_RENEW_PROHIBITED w_CLIENT_TRANSFER_PROHIBITED w_CLIENT_UPDATE_PROHIBITED w_INACTIVE w_OK w_PENDING_CREATE w_PENDING_DELETE w_PENDING_RENEW w_PENDING_TRANSFER w_PENDING_UPDATE w_SERVER_DELETE_PROHIBITED w_SERVER_HOLD w_SERVER_RENEW_PROHIBITED w_SERVER_TRANSFER_PROHIBITED w_SERVER_UPDATE_PROHIBITED W w_PENDING_UPDATE h53 n0 O53 (Fld.ne W.2.2.2.2.2.2.2.2.2.2.2.2.2.2.2.2.2.2.2.2.2.2.2.2.2.2.2.2.2.2.2.2.2.2.2.2.2.2.2.2.2.2.2.2.1 W.2.2.2.2.2.2.2.2.2.2.2.2.2.2.2.2.2.2.2.2.2.2.2.2.2.2.2.2.2.2.2.2.2.2.2.1 (fun q => absurd (Value.int.inj q) (by decide))) (Fld.ne W.2.2.2.2.2.2.2.2.2.2.2.2.2.2.2.2.2.2.2.2.2.2.2.2.2.2.2.2.2.2.2.2.2.2.2.2.2.2.2.2.2.2.2.2.1 W.2.2.2.2.2.2.2.2.2.2.2.2.2.2.2.2.2.2.2.2.2.2.2.2.2.2.2.2.2.2.2.2.2.2.2.2.1 (fun q => absurd (Value.int.inj q) (by decide))) (Fld.ne W.2.2.2.2.2.2.2.2.2.2.2.2.2.2.2.2.2.2.2.2.2.2.2.2.2.2.2.2.2.2.2.2.2.2.2.2.2.2.2.2.2.2.2.2.1 W.2.2.2.2.2.2.2.2.2.2.2.2.2.2.2.2.2.2.2.2.2.2.2.2.2.2.2.2.2.2.2.2.2.2.2.2.2.1 (fun q => absurd (Value.int.inj q) (by decide))) (Fld.ne W.2.2.2.2.2.2.2.2.2.2.2.2.2.2.2.2.2.2.2.2.2.2.2.2.2.2.2.2.2.2.2.2.2.2.2.2.2.2.2.2.2.2.2.2.1 W.2.2.2.2.2.2.2.2.2.2.2.2.2.2.2.2.2.2.2.2.2.2.2.2.2.2.2.2.2.2.2.2.2.2.2.2.2.2.1 (fun q => absurd (Value.int.inj q) (by decide)))) X53 hx hby hZ hown (own_w hw 40 rfl) (own_w hw 41 rfl) (notFace_of_selects (args := #[]) (mvT hZ (own_w hw 43 rfl))) (own_w hw 43 rfl) (own_w hw 42 rfl) (own_w hw 3 rfl) (own_w hw 44 rfl) (by decide) (by rw [hml]; rfl) w_PENDING_UPDATE [] [] pd_0 rfl at_214 rfl e53 (W.2.2.2.2.2.2.2.2.2.2.2.2.2.2.2.2.2.2.2.2.2.2.2.1.ext O53.2) rfl rfl rfl (by decide) (by decide) (by decide) (by decide) ?_
    rintro _ T74 L74 X74 ⟨rfl, N74, e74⟩
    have N74 := Fr.app N53 N74
    show Go p e below _ (T74.setTop (mkF m 217 _ [(.int (0 : Int32))]))
    refine own_aload_n 218 X74 hx hby at_217 rfl rfl rfl ?_
    refine own_iload_n 219 X74 hx hby at_218 rfl rfl ?_
    refine own_zaload 220 (.int (0 : Int32)) X74 hx hby hZ e74 V53 at_219 rfl (by decide) rfl ?_
    refine own_icN 223 X74 hx hby at_220 rfl (by decide) ?_
    refine own_iconst 224 (1 : Int32) X74 hx hby at_223 rfl (by decide) ?_
    refine own_goto 228 X74 hx hby at_224 (by decide) (by decide) ?_
    exact own_ret (Q := own_Q1 n0) X74 hx hby hret hlk at_228 rfl (Or.inl ⟨rfl, by simp, _, rfl⟩) (by decide) (by decide) ⟨rfl, N74⟩
  · refine own_irem 210 (12 : Int32) X53 hx hby at_209 rfl (by decide) hv54 ?_
    refine own_istore_n 211 #[oI x0, oA b1, oA b36, oI (12 : Int32)] X53 hx hby at_210 rfl rfl ?_
    refine own_aload_n 212 X53 hx hby at_211 rfl rfl rfl ?_
    refine own_iload_n 213 X53 hx hby at_212 rfl rfl ?_
    refine own_aaload 214 (.ref w_SERVER_DELETE_PROHIBITED) X53 hx hby hZ e53 V35_36_37_38_39_40_41_42_43_44_45_46_47_48_49_50_51_52_53 rfl at_213 rfl (by decide) rfl ?_
    refine own_virt (W := 0) 217 (rm1_5 l Z a0 hw [] w_CLIENT_DELETE_PROHIBITED w_CLIENT_HOLD w_CLIENT_RENEW_PROHIBITED w_CLIENT_TRANSFER_PROHIBITED w_CLIENT_UPDATE_PROHIBITED w_INACTIVE w_OK w_PENDING_CREATE w_PENDING_DELETE w_PENDING_RENEW w_PENDING_TRANSFER w_PENDING_UPDATE w_SERVER_DELETE_PROHIBITED w_SERVER_HOLD w_SERVER_RENEW_PROHIBITED w_SERVER_TRANSFER_PROHIBITED w_SERVER_UPDATE_PROHIBITED W w_SERVER_DELETE_PROHIBITED h53 n0 O53 (Fld.ne W.2.2.2.2.2.2.2.2.2.2.2.2.2.2.2.2.2.2.2.2.2.2.2.2.2.2.2.2.2.2.2.2.2.2.2.2.2.2.2.2.2.2.2.2.2.2.2.2.2.2 W.2.2.2.2.2.2.2.2.2.2.2.2.2.2.2.2.2.2.2.2.2.2.2.2.2.2.2.2.2.2.2.2.2.2.2.1 (fun q => absurd (Value.int.inj q) (by decide))) (Fld.ne W.2.2.2.2.2.2.2.2.2.2.2.2.2.2.2.2.2.2.2.2.2.2.2.2.2.2.2.2.2.2.2.2.2.2.2.2.2.2.2.2.2.2.2.2.2.2.2.2.2.2 W.2.2.2.2.2.2.2.2.2.2.2.2.2.2.2.2.2.2.2.2.2.2.2.2.2.2.2.2.2.2.2.2.2.2.2.2.1 (fun q => absurd (Value.int.inj q) (by decide))) (Fld.ne W.2.2.2.2.2.2.2.2.2.2.2.2.2.2.2.2.2.2.2.2.2.2.2.2.2.2.2.2.2.2.2.2.2.2.2.2.2.2.2.2.2.2.2.2.2.2.2.2.2.2 W.2.2.2.2.2.2.2.2.2.2.2.2.2.2.2.2.2.2.2.2.2.2.2.2.2.2.2.2.2.2.2.2.2.2.2.2.2.1 (fun q => absurd (Value.int.inj q) (by decide))) (Fld.ne W.2.2.2.2.2.2.2.2.2.2.2.2.2.2.2.2.2.2.2.2.2.2.2.2.2.2.2.2.2.2.2.2.2.2.2.2.2.2.2.2.2.2.2.2.2.2.2.2.2.2 W.2.2.2.2.2.2.2.2.2.2.2.2.2.2.2.2.2.2.2.2.2.2.2.2.2.2.2.2.2.2.2.2.2.2.2.2.2.2.1 (fun q => absurd (Value.int.inj q) (by decide)))) X53 hx hby hZ hown (own_w hw 40 rfl) (own_w hw 41 rfl) (notFace_of_selects (args := #[]) (mvT hZ (own_w hw 43 rfl))) (own_w hw 43 rfl) (own_w hw 42 rfl) (own_w hw 3 rfl) (own_w hw 44 rfl) (by decide) (by rw [hml]; rfl) w_SERVER_DELETE_PROHIBITED [] [] pd_0 rfl at_214 rfl e53 (W.2.2.2.2.2.2.2.2.2.2.2.2.2.2.2.2.2.2.2.2.2.2.2.2.2.1.ext O53.2) rfl rfl rfl (by decide) (by decide) (by decide) (by decide) ?_
    rintro _ T75 L75 X75 ⟨rfl, N75, e75⟩
    have N75 := Fr.app N53 N75
    show Go p e below _ (T75.setTop (mkF m 217 _ [(.int (0 : Int32))]))
    refine own_aload_n 218 X75 hx hby at_217 rfl rfl rfl ?_
    refine own_iload_n 219 X75 hx hby at_218 rfl rfl ?_
    refine own_zaload 220 (.int (0 : Int32)) X75 hx hby hZ e75 V53 at_219 rfl (by decide) rfl ?_
    refine own_icN 223 X75 hx hby at_220 rfl (by decide) ?_
    refine own_iconst 224 (1 : Int32) X75 hx hby at_223 rfl (by decide) ?_
    refine own_goto 228 X75 hx hby at_224 (by decide) (by decide) ?_
    exact own_ret (Q := own_Q1 n0) X75 hx hby hret hlk at_228 rfl (Or.inl ⟨rfl, by simp, _, rfl⟩) (by decide) (by decide) ⟨rfl, N75⟩
  · refine own_irem 210 (13 : Int32) X53 hx hby at_209 rfl (by decide) hv54 ?_
    refine own_istore_n 211 #[oI x0, oA b1, oA b36, oI (13 : Int32)] X53 hx hby at_210 rfl rfl ?_
    refine own_aload_n 212 X53 hx hby at_211 rfl rfl rfl ?_
    refine own_iload_n 213 X53 hx hby at_212 rfl rfl ?_
    refine own_aaload 214 (.ref w_SERVER_HOLD) X53 hx hby hZ e53 V35_36_37_38_39_40_41_42_43_44_45_46_47_48_49_50_51_52_53 rfl at_213 rfl (by decide) rfl ?_
    refine own_virt (W := 0) 217 (rm1_2 l Z a0 hw [] w_CLIENT_DELETE_PROHIBITED w_CLIENT_HOLD w_CLIENT_RENEW_PROHIBITED w_CLIENT_TRANSFER_PROHIBITED w_CLIENT_UPDATE_PROHIBITED w_INACTIVE w_OK w_PENDING_CREATE w_PENDING_DELETE w_PENDING_RENEW w_PENDING_TRANSFER w_PENDING_UPDATE w_SERVER_DELETE_PROHIBITED w_SERVER_HOLD w_SERVER_RENEW_PROHIBITED w_SERVER_TRANSFER_PROHIBITED w_SERVER_UPDATE_PROHIBITED W w_SERVER_HOLD h53 n0 O53 (Fld.ne W.2.2.2.2.2.2.2.2.2.2.2.2.2.2.2.2.2.2.2.2.2.2.2.2.2.2.2.2.2.2.2.2.2.2.2.2.1 W.2.2.2.2.2.2.2.2.2.2.2.2.2.2.2.2.2.2.2.2.2.2.2.2.2.2.2.2.2.2.2.2.2.2.2.1 (fun q => absurd (Value.int.inj q) (by decide))) rfl) X53 hx hby hZ hown (own_w hw 40 rfl) (own_w hw 41 rfl) (notFace_of_selects (args := #[]) (mvT hZ (own_w hw 43 rfl))) (own_w hw 43 rfl) (own_w hw 42 rfl) (own_w hw 3 rfl) (own_w hw 44 rfl) (by decide) (by rw [hml]; rfl) w_SERVER_HOLD [] [] pd_0 rfl at_214 rfl e53 (W.2.2.2.2.2.2.2.2.2.2.2.2.2.2.2.2.2.2.2.2.2.2.2.2.2.2.2.1.ext O53.2) rfl rfl rfl (by decide) (by decide) (by decide) (by decide) ?_
    rintro _ T76 L76 X76 ⟨rfl, N76, e76⟩
    have N76 := Fr.app N53 N76
    show Go p e below _ (T76.setTop (mkF m 217 _ [(.int (1 : Int32))]))
    refine own_aload_n 218 X76 hx hby at_217 rfl rfl rfl ?_
    refine own_iload_n 219 X76 hx hby at_218 rfl rfl ?_
    refine own_zaload 220 (.int (1 : Int32)) X76 hx hby hZ e76 V53 at_219 rfl (by decide) rfl ?_
    refine own_icN 223 X76 hx hby at_220 rfl (by decide) ?_
    refine own_iconst 224 (1 : Int32) X76 hx hby at_223 rfl (by decide) ?_
    refine own_goto 228 X76 hx hby at_224 (by decide) (by decide) ?_
    exact own_ret (Q := own_Q1 n0) X76 hx hby hret hlk at_228 rfl (Or.inl ⟨rfl, by simp, _, rfl⟩) (by decide) (by decide) ⟨rfl, N76⟩
  · refine own_irem 210 (14 : Int32) X53 hx hby at_209 rfl (by decide) hv54 ?_
    refine own_istore_n 211 #[oI x0, oA b1, oA b36, oI (14 : Int32)] X53 hx hby at_210 rfl rfl ?_
    refine own_aload_n 212 X53 hx hby at_211 rfl rfl rfl ?_
    refine own_iload_n 213 X53 hx hby at_212 rfl rfl ?_
    refine own_aaload 214 (.ref w_SERVER_RENEW_PROHIBITED) X53 hx hby hZ e53 V35_36_37_38_39_40_41_42_43_44_45_46_47_48_49_50_51_52_53 rfl at_213 rfl (by decide) rfl ?_
    refine own_virt (W := 0) 217 (rm1_5 l Z a0 hw [] w_CLIENT_DELETE_PROHIBITED w_CLIENT_HOLD w_CLIENT_RENEW_PROHIBITED w_CLIENT_TRANSFER_PROHIBITED w_CLIENT_UPDATE_PROHIBITED w_INACTIVE w_OK w_PENDING_CREATE w_PENDING_DELETE w_PENDING_RENEW w_PENDING_TRANSFER w_PENDING_UPDATE w_SERVER_DELETE_PROHIBITED w_SERVER_HOLD w_SERVER_RENEW_PROHIBITED w_SERVER_TRANSFER_PROHIBITED w_SERVER_UPDATE_PROHIBITED W w_SERVER_RENEW_PROHIBITED h53 n0 O53 (Fld.ne W.2.2.2.2.2.2.2.2.2.2.2.2.2.2.2.2.2.2.2.2.2.2.2.2.2.2.2.2.2.2.2.2.2.2.2.2.2.2.2.2.2.2.2.2.2.2.2.2.2.1 W.2.2.2.2.2.2.2.2.2.2.2.2.2.2.2.2.2.2.2.2.2.2.2.2.2.2.2.2.2.2.2.2.2.2.2.1 (fun q => absurd (Value.int.inj q) (by decide))) (Fld.ne W.2.2.2.2.2.2.2.2.2.2.2.2.2.2.2.2.2.2.2.2.2.2.2.2.2.2.2.2.2.2.2.2.2.2.2.2.2.2.2.2.2.2.2.2.2.2.2.2.2.1 W.2.2.2.2.2.2.2.2.2.2.2.2.2.2.2.2.2.2.2.2.2.2.2.2.2.2.2.2.2.2.2.2.2.2.2.2.1 (fun q => absurd (Value.int.inj q) (by decide))) (Fld.ne W.2.2.2.2.2.2.2.2.2.2.2.2.2.2.2.2.2.2.2.2.2.2.2.2.2.2.2.2.2.2.2.2.2.2.2.2.2.2.2.2.2.2.2.2.2.2.2.2.2.1 W.2.2.2.2.2.2.2.2.2.2.2.2.2.2.2.2.2.2.2.2.2.2.2.2.2.2.2.2.2.2.2.2.2.2.2.2.2.1 (fun q => absurd (Value.int.inj q) (by decide))) (Fld.ne W.2.2.2.2.2.2.2.2.2.2.2.2.2.2.2.2.2.2.2.2.2.2.2.2.2.2.2.2.2.2.2.2.2.2.2.2.2.2.2.2.2.2.2.2.2.2.2.2.2.1 W.2.2.2.2.2.2.2.2.2.2.2.2.2.2.2.2.2.2.2.2.2.2.2.2.2.2.2.2.2.2.2.2.2.2.2.2.2.2.1 (fun q => absurd (Value.int.inj q) (by decide)))) X53 hx hby hZ hown (own_w hw 40 rfl) (own_w hw 41 rfl) (notFace_of_selects (args := #[]) (mvT hZ (own_w hw 43 rfl))) (own_w hw 43 rfl) (own_w hw 42 rfl) (own_w hw 3 rfl) (own_w hw 44 rfl) (by decide) (by rw [hml]; rfl) w_SERVER_RENEW_PROHIBITED [] [] pd_0 rfl at_214 rfl e53 (W.2.2.2.2.2.2.2.2.2.2.2.2.2.2.2.2.2.2.2.2.2.2.2.2.2.2.2.2.2.1.ext O53.2) rfl rfl rfl (by decide) (by decide) (by decide) (by decide) ?_
    rintro _ T77 L77 X77 ⟨rfl, N77, e77⟩
    have N77 := Fr.app N53 N77
    show Go p e below _ (T77.setTop (mkF m 217 _ [(.int (0 : Int32))]))
    refine own_aload_n 218 X77 hx hby at_217 rfl rfl rfl ?_
    refine own_iload_n 219 X77 hx hby at_218 rfl rfl ?_
    refine own_zaload 220 (.int (0 : Int32)) X77 hx hby hZ e77 V53 at_219 rfl (by decide) rfl ?_
    refine own_icN 223 X77 hx hby at_220 rfl (by decide) ?_
    refine own_iconst 224 (1 : Int32) X77 hx hby at_223 rfl (by decide) ?_
    refine own_goto 228 X77 hx hby at_224 (by decide) (by decide) ?_
    exact own_ret (Q := own_Q1 n0) X77 hx hby hret hlk at_228 rfl (Or.inl ⟨rfl, by simp, _, rfl⟩) (by decide) (by decide) ⟨rfl, N77⟩
  · refine own_irem 210 (15 : Int32) X53 hx hby at_209 rfl (by decide) hv54 ?_
    refine own_istore_n 211 #[oI x0, oA b1, oA b36, oI (15 : Int32)] X53 hx hby at_210 rfl rfl ?_
    refine own_aload_n 212 X53 hx hby at_211 rfl rfl rfl ?_
    refine own_iload_n 213 X53 hx hby at_212 rfl rfl ?_
    refine own_aaload 214 (.ref w_SERVER_TRANSFER_PROHIBITED) X53 hx hby hZ e53 V35_36_37_38_39_40_41_42_43_44_45_46_47_48_49_50_51_52_53 rfl at_213 rfl (by decide) rfl ?_
    refine own_virt (W := 0) 217 (rm1_5 l Z a0 hw [] w_CLIENT_DELETE_PROHIBITED w_CLIENT_HOLD w_CLIENT_RENEW_PROHIBITED w_CLIENT_TRANSFER_PROHIBITED w_CLIENT_UPDATE_PROHIBITED w_INACTIVE w_OK w_PENDING_CREATE w_PENDING_DELETE w_PENDING_RENEW w_PENDING_TRANSFER w_PENDING_UPDATE w_SERVER_DELETE_PROHIBITED w_SERVER_HOLD w_SERVER_RENEW_PROHIBITED w_SERVER_TRANSFER_PROHIBITED w_SERVER_UPDATE_PROHIBITED W w_SERVER_TRANSFER_PROHIBITED h53 n0 O53 (Fld.ne W.2.2.2.2.2.2.2.2.2.2.2.2.2.2.2.2.2.2.2.2.2.2.2.2.2.2.2.2.2.2.2.2.2.2.2.2.2.2.2.2.2.2.2.2.2.2.2.2.1 W.2.2.2.2.2.2.2.2.2.2.2.2.2.2.2.2.2.2.2.2.2.2.2.2.2.2.2.2.2.2.2.2.2.2.2.1 (fun q => absurd (Value.int.inj q) (by decide))) (Fld.ne W.2.2.2.2.2.2.2.2.2.2.2.2.2.2.2.2.2.2.2.2.2.2.2.2.2.2.2.2.2.2.2.2.2.2.2.2.2.2.2.2.2.2.2.2.2.2.2.2.1 W.2.2.2.2.2.2.2.2.2.2.2.2.2.2.2.2.2.2.2.2.2.2.2.2.2.2.2.2.2.2.2.2.2.2.2.2.1 (fun q => absurd (Value.int.inj q) (by decide))) (Fld.ne W.2.2.2.2.2.2.2.2.2.2.2.2.2.2.2.2.2.2.2.2.2.2.2.2.2.2.2.2.2.2.2.2.2.2.2.2.2.2.2.2.2.2.2.2.2.2.2.2.1 W.2.2.2.2.2.2.2.2.2.2.2.2.2.2.2.2.2.2.2.2.2.2.2.2.2.2.2.2.2.2.2.2.2.2.2.2.2.1 (fun q => absurd (Value.int.inj q) (by decide))) (Fld.ne W.2.2.2.2.2.2.2.2.2.2.2.2.2.2.2.2.2.2.2.2.2.2.2.2.2.2.2.2.2.2.2.2.2.2.2.2.2.2.2.2.2.2.2.2.2.2.2.2.1 W.2.2.2.2.2.2.2.2.2.2.2.2.2.2.2.2.2.2.2.2.2.2.2.2.2.2.2.2.2.2.2.2.2.2.2.2.2.2.1 (fun q => absurd (Value.int.inj q) (by decide)))) X53 hx hby hZ hown (own_w hw 40 rfl) (own_w hw 41 rfl) (notFace_of_selects (args := #[]) (mvT hZ (own_w hw 43 rfl))) (own_w hw 43 rfl) (own_w hw 42 rfl) (own_w hw 3 rfl) (own_w hw 44 rfl) (by decide) (by rw [hml]; rfl) w_SERVER_TRANSFER_PROHIBITED [] [] pd_0 rfl at_214 rfl e53 (W.2.2.2.2.2.2.2.2.2.2.2.2.2.2.2.2.2.2.2.2.2.2.2.2.2.2.2.2.2.2.2.1.ext O53.2) rfl rfl rfl (by decide) (by decide) (by decide) (by decide) ?_
    rintro _ T78 L78 X78 ⟨rfl, N78, e78⟩
    have N78 := Fr.app N53 N78
    show Go p e below _ (T78.setTop (mkF m 217 _ [(.int (0 : Int32))]))
    refine own_aload_n 218 X78 hx hby at_217 rfl rfl rfl ?_
    refine own_iload_n 219 X78 hx hby at_218 rfl rfl ?_
    refine own_zaload 220 (.int (0 : Int32)) X78 hx hby hZ e78 V53 at_219 rfl (by decide) rfl ?_
    refine own_icN 223 X78 hx hby at_220 rfl (by decide) ?_
    refine own_iconst 224 (1 : Int32) X78 hx hby at_223 rfl (by decide) ?_
    refine own_goto 228 X78 hx hby at_224 (by decide) (by decide) ?_
    exact own_ret (Q := own_Q1 n0) X78 hx hby hret hlk at_228 rfl (Or.inl ⟨rfl, by simp, _, rfl⟩) (by decide) (by decide) ⟨rfl, N78⟩
  · refine own_irem 210 (16 : Int32) X53 hx hby at_209 rfl (by decide) hv54 ?_
    refine own_istore_n 211 #[oI x0, oA b1, oA b36, oI (16 : Int32)] X53 hx hby at_210 rfl rfl ?_
    refine own_aload_n 212 X53 hx hby at_211 rfl rfl rfl ?_
    refine own_iload_n 213 X53 hx hby at_212 rfl rfl ?_
    refine own_aaload 214 (.ref w_SERVER_UPDATE_PROHIBITED) X53 hx hby hZ e53 V35_36_37_38_39_40_41_42_43_44_45_46_47_48_49_50_51_52_53 rfl at_213 rfl (by decide) rfl ?_
    refine own_virt (W := 0) 217 (rm1_5 l Z a0 hw [] w_CLIENT_DELETE_PROHIBITED w_CLIENT_HOLD w_CLIENT_RENEW_PROHIBITED w_CLIENT_TRANSFER_PROHIBITED w_CLIENT_UPDATE_PROHIBITED w_INACTIVE w_OK w_PENDING_CREATE w_PENDING_DELETE w_PENDING_RENEW w_PENDING_TRANSFER w_PENDING_UPDATE w_SERVER_DELETE_PROHIBITED w_SERVER_HOLD w_SERVER_RENEW_PROHIBITED w_SERVER_TRANSFER_PROHIBITED w_SERVER_UPDATE_PROHIBITED W w_SERVER_UPDATE_PROHIBITED h53 n0 O53 (Fld.ne W.2.2.2.2.2.2.2.2.2.2.2.2.2.2.2.2.2.2.2.2.2.2.2.2.2.2.2.2.2.2.2.2.2.2.2.2.2.2.2.2.2.2.2.2.2.2.2.1 W.2.2.2.2.2.2.2.2.2.2.2.2.2.2.2.2.2.2.2.2.2.2.2.2.2.2.2.2.2.2.2.2.2.2.2.1 (fun q => absurd (Value.int.inj q) (by decide))) (Fld.ne W.2.2.2.2.2.2.2.2.2.2.2.2.2.2.2.2.2.2.2.2.2.2.2.2.2.2.2.2.2.2.2.2.2.2.2.2.2.2.2.2.2.2.2.2.2.2.2.1 W.2.2.2.2.2.2.2.2.2.2.2.2.2.2.2.2.2.2.2.2.2.2.2.2.2.2.2.2.2.2.2.2.2.2.2.2.1 (fun q => absurd (Value.int.inj q) (by decide))) (Fld.ne W.2.2.2.2.2.2.2.2.2.2.2.2.2.2.2.2.2.2.2.2.2.2.2.2.2.2.2.2.2.2.2.2.2.2.2.2.2.2.2.2.2.2.2.2.2.2.2.1 W.2.2.2.2.2.2.2.2.2.2.2.2.2.2.2.2.2.2.2.2.2.2.2.2.2.2.2.2.2.2.2.2.2.2.2.2.2.1 (fun q => absurd (Value.int.inj q) (by decide))) (Fld.ne W.2.2.2.2.2.2.2.2.2.2.2.2.2.2.2.2.2.2.2.2.2.2.2.2.2.2.2.2.2.2.2.2.2.2.2.2.2.2.2.2.2.2.2.2.2.2.2.1 W.2.2.2.2.2.2.2.2.2.2.2.2.2.2.2.2.2.2.2.2.2.2.2.2.2.2.2.2.2.2.2.2.2.2.2.2.2.2.1 (fun q => absurd (Value.int.inj q) (by decide)))) X53 hx hby hZ hown (own_w hw 40 rfl) (own_w hw 41 rfl) (notFace_of_selects (args := #[]) (mvT hZ (own_w hw 43 rfl))) (own_w hw 43 rfl) (own_w hw 42 rfl) (own_w hw 3 rfl) (own_w hw 44 rfl) (by decide) (by rw [hml]; rfl) w_SERVER_UPDATE_PROHIBITED [] [] pd_0 rfl at_214 rfl e53 (W.2.2.2.2.2.2.2.2.2.2.2.2.2.2.2.2.2.2.2.2.2.2.2.2.2.2.2.2.2.2.2.2.2.1.ext O53.2) rfl rfl rfl (by decide) (by decide) (by decide) (by decide) ?_
    rintro _ T79 L79 X79 ⟨rfl, N79, e79⟩
    have N79 := Fr.app N53 N79
    show Go p e below _ (T79.setTop (mkF m 217 _ [(.int (0 : Int32))]))
    refine own_aload_n 218 X79 hx hby at_217 rfl rfl rfl ?_
    refine own_iload_n 219 X79 hx hby at_218 rfl rfl ?_
    refine own_zaload 220 (.int (0 : Int32)) X79 hx hby hZ e79 V53 at_219 rfl (by decide) rfl ?_
    refine own_icN 223 X79 hx hby at_220 rfl (by decide) ?_
    refine own_iconst 224 (1 : Int32) X79 hx hby at_223 rfl (by decide) ?_
    refine own_goto 228 X79 hx hby at_224 (by decide) (by decide) ?_
    exact own_ret (Q := own_Q1 n0) X79 hx hby hret hlk at_228 rfl (Or.inl ⟨rfl, by simp, _, rfl⟩) (by decide) (by decide) ⟨rfl, N79⟩
set_option maxRecDepth 65536 in
set_option maxHeartbeats 40000000 in
theorem comes_1 {Post : Tables → Env → Array Value → State → Outcome → State → Prop} (hpost : ∀ tb e args s v u, (limb_1_1.after args s (.returned v) u = true ∧ limb_1_2.after args s (.returned v) u = true) → FrameEnd s (.returned v) u (Jvm.fieldLocs frame_1_writes args s ++ Jvm.arrayLocs frame_1_arrays args s ++ Jvm.staticLocs frame_1_statics s) 16 192 → Post tb e args s (.returned v) u) :
    ArmFor flags0 classFile x code maxLocals ret World_1 tables_1 room_1 Calls_1 rest_1 Pre_1 Post := by
  intro l hfl _ _ p e ha hc hk s m args below hf hA hF happ hP
  obtain ⟨hcalls, hrest, hpre⟩ := hP
  obtain ⟨-, -, -, hnamed, -, -, -, hat⟩ := (Spec.applies_iff hf).mp happ
  obtain ⟨hg, hn⟩ := and_e (Cond.before_iff.mp (show (Jvm.Cond.and given_1 narrow_1).before args s = true from hpre))
  obtain ⟨ga0, ga1⟩ := and_e hg
  obtain ⟨u0, rfl⟩ : ∃ u0 : Value, args = #[u0] := by
    have hs : args.size = 1 := by simpa [Cond.value, given_1] using ga0
    obtain ⟨L⟩ := args
    match L, hs with
    | [u0], _ => exact ⟨u0, rfl⟩
  have hw := fun d (hd : d ∈ tables_1) => atoms_spec (ws := Jvm.Cond.code x code maxLocals ret :: tables_1) hat d (List.mem_cons_of_mem _ hd)
  have hfit : Fit s := fun {y c} hc i hi => by
    obtain ⟨ha, rfl⟩ := Array.getElem?_eq_some_iff.mp hc
    have q := List.all_eq_true.mp ((Array.all_eq_true_iff_forall_mem.mp hF) _ (Array.getElem_mem ha)) i (List.mem_range.mpr hi)
    simpa [Array.getElem?_eq_getElem hi] using q
  obtain ⟨i0, ei0⟩ := is_v ga1
  obtain rfl : u0 = (.int i0) := Option.some.inj ei0
  obtain ⟨na0, nb0⟩ := and_e hn
  obtain ⟨na1, nb1⟩ := and_e nb0
  obtain ⟨na2, nb2⟩ := and_e nb1
  obtain ⟨na3, nb3⟩ := and_e nb2
  obtain ⟨na4, nb4⟩ := and_e nb3
  obtain ⟨na5, nb5⟩ := and_e nb4
  obtain ⟨na6, nb6⟩ := and_e nb5
  obtain ⟨na7, nb7⟩ := and_e nb6
  obtain ⟨na8, nb8⟩ := and_e nb7
  obtain ⟨na9, nb9⟩ := and_e nb8
  obtain ⟨na10, nb10⟩ := and_e nb9
  obtain ⟨na11, nb11⟩ := and_e nb10
  obtain ⟨na12, nb12⟩ := and_e nb11
  obtain ⟨na13, nb13⟩ := and_e nb12
  obtain ⟨na14, nb14⟩ := and_e nb13
  obtain ⟨na15, nb15⟩ := and_e nb14
  obtain ⟨na16, nb16⟩ := and_e nb15
  obtain ⟨na17, nb17⟩ := and_e nb16
  obtain ⟨na18, nb18⟩ := and_e nb17
  obtain ⟨na19, nb19⟩ := and_e nb18
  obtain ⟨na20, nb20⟩ := and_e nb19
  obtain ⟨na21, nb21⟩ := and_e nb20
  obtain ⟨na22, nb22⟩ := and_e nb21
  obtain ⟨na23, nb23⟩ := and_e nb22
  obtain ⟨na24, nb24⟩ := and_e nb23
  obtain ⟨na25, nb25⟩ := and_e nb24
  obtain ⟨na26, nb26⟩ := and_e nb25
  obtain ⟨na27, nb27⟩ := and_e nb26
  obtain ⟨na28, nb28⟩ := and_e nb27
  obtain ⟨na29, nb29⟩ := and_e nb28
  obtain ⟨na30, nb30⟩ := and_e nb29
  obtain ⟨na31, nb31⟩ := and_e nb30
  obtain ⟨na32, na33⟩ := and_e nb31
  obtain ⟨w_CLIENT_DELETE_PROHIBITED, v_w_CLIENT_DELETE_PROHIBITED⟩ := exa_v na0
  have S_w_CLIENT_DELETE_PROHIBITED := Sta.start v_w_CLIENT_DELETE_PROHIBITED (Or.inr ⟨(own_w hw 3 rfl), (own_w hw 4 rfl)⟩)
  have E_w_CLIENT_DELETE_PROHIBITED := Exa.start v_w_CLIENT_DELETE_PROHIBITED na0
  obtain ⟨w_CLIENT_HOLD, v_w_CLIENT_HOLD⟩ := exa_v na1
  have S_w_CLIENT_HOLD := Sta.start v_w_CLIENT_HOLD (Or.inr ⟨(own_w hw 3 rfl), (own_w hw 7 rfl)⟩)
  have E_w_CLIENT_HOLD := Exa.start v_w_CLIENT_HOLD na1
  obtain ⟨w_CLIENT_RENEW_PROHIBITED, v_w_CLIENT_RENEW_PROHIBITED⟩ := exa_v na2
  have S_w_CLIENT_RENEW_PROHIBITED := Sta.start v_w_CLIENT_RENEW_PROHIBITED (Or.inr ⟨(own_w hw 3 rfl), (own_w hw 9 rfl)⟩)
  have E_w_CLIENT_RENEW_PROHIBITED := Exa.start v_w_CLIENT_RENEW_PROHIBITED na2
  obtain ⟨w_CLIENT_TRANSFER_PROHIBITED, v_w_CLIENT_TRANSFER_PROHIBITED⟩ := exa_v na3
  have S_w_CLIENT_TRANSFER_PROHIBITED := Sta.start v_w_CLIENT_TRANSFER_PROHIBITED (Or.inr ⟨(own_w hw 3 rfl), (own_w hw 11 rfl)⟩)
  have E_w_CLIENT_TRANSFER_PROHIBITED := Exa.start v_w_CLIENT_TRANSFER_PROHIBITED na3
  obtain ⟨w_CLIENT_UPDATE_PROHIBITED, v_w_CLIENT_UPDATE_PROHIBITED⟩ := exa_v na4
  have S_w_CLIENT_UPDATE_PROHIBITED := Sta.start v_w_CLIENT_UPDATE_PROHIBITED (Or.inr ⟨(own_w hw 3 rfl), (own_w hw 13 rfl)⟩)
  have E_w_CLIENT_UPDATE_PROHIBITED := Exa.start v_w_CLIENT_UPDATE_PROHIBITED na4
  obtain ⟨w_INACTIVE, v_w_INACTIVE⟩ := exa_v na5
  have S_w_INACTIVE := Sta.start v_w_INACTIVE (Or.inr ⟨(own_w hw 3 rfl), (own_w hw 15 rfl)⟩)
  have E_w_INACTIVE := Exa.start v_w_INACTIVE na5
  obtain ⟨w_OK, v_w_OK⟩ := exa_v na6
  have S_w_OK := Sta.start v_w_OK (Or.inr ⟨(own_w hw 3 rfl), (own_w hw 17 rfl)⟩)
  have E_w_OK := Exa.start v_w_OK na6
  obtain ⟨w_PENDING_CREATE, v_w_PENDING_CREATE⟩ := exa_v na7
  have S_w_PENDING_CREATE := Sta.start v_w_PENDING_CREATE (Or.inr ⟨(own_w hw 3 rfl), (own_w hw 19 rfl)⟩)
  have E_w_PENDING_CREATE := Exa.start v_w_PENDING_CREATE na7
  obtain ⟨w_PENDING_DELETE, v_w_PENDING_DELETE⟩ := exa_v na8
  have S_w_PENDING_DELETE := Sta.start v_w_PENDING_DELETE (Or.inr ⟨(own_w hw 3 rfl), (own_w hw 21 rfl)⟩)
  have E_w_PENDING_DELETE := Exa.start v_w_PENDING_DELETE na8
  obtain ⟨w_PENDING_RENEW, v_w_PENDING_RENEW⟩ := exa_v na9
  have S_w_PENDING_RENEW := Sta.start v_w_PENDING_RENEW (Or.inr ⟨(own_w hw 3 rfl), (own_w hw 23 rfl)⟩)
  have E_w_PENDING_RENEW := Exa.start v_w_PENDING_RENEW na9
  obtain ⟨w_PENDING_TRANSFER, v_w_PENDING_TRANSFER⟩ := exa_v na10
  have S_w_PENDING_TRANSFER := Sta.start v_w_PENDING_TRANSFER (Or.inr ⟨(own_w hw 3 rfl), (own_w hw 25 rfl)⟩)
  have E_w_PENDING_TRANSFER := Exa.start v_w_PENDING_TRANSFER na10
  obtain ⟨w_PENDING_UPDATE, v_w_PENDING_UPDATE⟩ := exa_v na11
  have S_w_PENDING_UPDATE := Sta.start v_w_PENDING_UPDATE (Or.inr ⟨(own_w hw 3 rfl), (own_w hw 27 rfl)⟩)
  have E_w_PENDING_UPDATE := Exa.start v_w_PENDING_UPDATE na11
  obtain ⟨w_SERVER_DELETE_PROHIBITED, v_w_SERVER_DELETE_PROHIBITED⟩ := exa_v na12
  have S_w_SERVER_DELETE_PROHIBITED := Sta.start v_w_SERVER_DELETE_PROHIBITED (Or.inr ⟨(own_w hw 3 rfl), (own_w hw 29 rfl)⟩)
  have E_w_SERVER_DELETE_PROHIBITED := Exa.start v_w_SERVER_DELETE_PROHIBITED na12
  obtain ⟨w_SERVER_HOLD, v_w_SERVER_HOLD⟩ := exa_v na13
  have S_w_SERVER_HOLD := Sta.start v_w_SERVER_HOLD (Or.inr ⟨(own_w hw 3 rfl), (own_w hw 31 rfl)⟩)
  have E_w_SERVER_HOLD := Exa.start v_w_SERVER_HOLD na13
  obtain ⟨w_SERVER_RENEW_PROHIBITED, v_w_SERVER_RENEW_PROHIBITED⟩ := exa_v na14
  have S_w_SERVER_RENEW_PROHIBITED := Sta.start v_w_SERVER_RENEW_PROHIBITED (Or.inr ⟨(own_w hw 3 rfl), (own_w hw 33 rfl)⟩)
  have E_w_SERVER_RENEW_PROHIBITED := Exa.start v_w_SERVER_RENEW_PROHIBITED na14
  obtain ⟨w_SERVER_TRANSFER_PROHIBITED, v_w_SERVER_TRANSFER_PROHIBITED⟩ := exa_v na15
  have S_w_SERVER_TRANSFER_PROHIBITED := Sta.start v_w_SERVER_TRANSFER_PROHIBITED (Or.inr ⟨(own_w hw 3 rfl), (own_w hw 35 rfl)⟩)
  have E_w_SERVER_TRANSFER_PROHIBITED := Exa.start v_w_SERVER_TRANSFER_PROHIBITED na15
  obtain ⟨w_SERVER_UPDATE_PROHIBITED, v_w_SERVER_UPDATE_PROHIBITED⟩ := exa_v na16
  have S_w_SERVER_UPDATE_PROHIBITED := Sta.start v_w_SERVER_UPDATE_PROHIBITED (Or.inr ⟨(own_w hw 3 rfl), (own_w hw 37 rfl)⟩)
  have E_w_SERVER_UPDATE_PROHIBITED := Exa.start v_w_SERVER_UPDATE_PROHIBITED na16
  have F_ordinal_w_CLIENT_DELETE_PROHIBITED := own_fld na17 v_w_CLIENT_DELETE_PROHIBITED
  have F_ordinal_w_CLIENT_HOLD := own_fld na18 v_w_CLIENT_HOLD
  have F_ordinal_w_SERVER_HOLD := own_fld na19 v_w_SERVER_HOLD
  have F_ordinal_w_INACTIVE := own_fld na20 v_w_INACTIVE
  have F_ordinal_w_PENDING_DELETE := own_fld na21 v_w_PENDING_DELETE
  have F_ordinal_w_CLIENT_TRANSFER_PROHIBITED := own_fld na22 v_w_CLIENT_TRANSFER_PROHIBITED
  have F_ordinal_w_PENDING_RENEW := own_fld na23 v_w_PENDING_RENEW
  have F_ordinal_w_OK := own_fld na24 v_w_OK
  have F_ordinal_w_PENDING_CREATE := own_fld na25 v_w_PENDING_CREATE
  have F_ordinal_w_CLIENT_RENEW_PROHIBITED := own_fld na26 v_w_CLIENT_RENEW_PROHIBITED
  have F_ordinal_w_PENDING_UPDATE := own_fld na27 v_w_PENDING_UPDATE
  have F_ordinal_w_CLIENT_UPDATE_PROHIBITED := own_fld na28 v_w_CLIENT_UPDATE_PROHIBITED
  have F_ordinal_w_PENDING_TRANSFER := own_fld na29 v_w_PENDING_TRANSFER
  have F_ordinal_w_SERVER_UPDATE_PROHIBITED := own_fld na30 v_w_SERVER_UPDATE_PROHIBITED
  have F_ordinal_w_SERVER_TRANSFER_PROHIBITED := own_fld na31 v_w_SERVER_TRANSFER_PROHIBITED
  have F_ordinal_w_SERVER_RENEW_PROHIBITED := own_fld na32 v_w_SERVER_RENEW_PROHIBITED
  have F_ordinal_w_SERVER_DELETE_PROHIBITED := own_fld na33 v_w_SERVER_DELETE_PROHIBITED
  obtain ⟨n, o, h1, h2, h3, _, L, rfl, ⟨rfl, N⟩, hq⟩ := rm0 l s _ hw tables_1 w_CLIENT_DELETE_PROHIBITED w_CLIENT_HOLD w_CLIENT_RENEW_PROHIBITED w_CLIENT_TRANSFER_PROHIBITED w_CLIENT_UPDATE_PROHIBITED w_INACTIVE w_OK w_PENDING_CREATE w_PENDING_DELETE w_PENDING_RENEW w_PENDING_TRANSFER w_PENDING_UPDATE w_SERVER_DELETE_PROHIBITED w_SERVER_HOLD w_SERVER_RENEW_PROHIBITED w_SERVER_TRANSFER_PROHIBITED w_SERVER_UPDATE_PROHIBITED ⟨S_w_CLIENT_DELETE_PROHIBITED, E_w_CLIENT_DELETE_PROHIBITED, S_w_CLIENT_HOLD, E_w_CLIENT_HOLD, S_w_CLIENT_RENEW_PROHIBITED, E_w_CLIENT_RENEW_PROHIBITED, S_w_CLIENT_TRANSFER_PROHIBITED, E_w_CLIENT_TRANSFER_PROHIBITED, S_w_CLIENT_UPDATE_PROHIBITED, E_w_CLIENT_UPDATE_PROHIBITED, S_w_INACTIVE, E_w_INACTIVE, S_w_OK, E_w_OK, S_w_PENDING_CREATE, E_w_PENDING_CREATE, S_w_PENDING_DELETE, E_w_PENDING_DELETE, S_w_PENDING_RENEW, E_w_PENDING_RENEW, S_w_PENDING_TRANSFER, E_w_PENDING_TRANSFER, S_w_PENDING_UPDATE, E_w_PENDING_UPDATE, S_w_SERVER_DELETE_PROHIBITED, E_w_SERVER_DELETE_PROHIBITED, S_w_SERVER_HOLD, E_w_SERVER_HOLD, S_w_SERVER_RENEW_PROHIBITED, E_w_SERVER_RENEW_PROHIBITED, S_w_SERVER_TRANSFER_PROHIBITED, E_w_SERVER_TRANSFER_PROHIBITED, S_w_SERVER_UPDATE_PROHIBITED, E_w_SERVER_UPDATE_PROHIBITED, F_ordinal_w_CLIENT_DELETE_PROHIBITED, F_ordinal_w_CLIENT_HOLD, F_ordinal_w_SERVER_HOLD, F_ordinal_w_INACTIVE, F_ordinal_w_PENDING_DELETE, F_ordinal_w_CLIENT_TRANSFER_PROHIBITED, F_ordinal_w_PENDING_RENEW, F_ordinal_w_OK, F_ordinal_w_PENDING_CREATE, F_ordinal_w_CLIENT_RENEW_PROHIBITED, F_ordinal_w_PENDING_UPDATE, F_ordinal_w_CLIENT_UPDATE_PROHIBITED, F_ordinal_w_PENDING_TRANSFER, F_ordinal_w_SERVER_UPDATE_PROHIBITED, F_ordinal_w_SERVER_TRANSFER_PROHIBITED, F_ordinal_w_SERVER_RENEW_PROHIBITED, F_ordinal_w_SERVER_DELETE_PROHIBITED⟩ i0 s.heap s.heap.size (Old.start s) p e ha hc hk s m _ below hf ((Spec.applies_iff_loose hf).mp happ).1 ⟨rfl, State.Warmed39.refl s, rfl⟩ trivial
  refine ⟨n, _, h1, h2, h3, hpost _ _ _ _ _ _ ⟨Cond.after_iff.mpr rfl, Cond.after_iff.mpr (eq_i res_at (Term.int_eval (1)) rfl)⟩ ⟨hq.1, hq.2.1, (hq.2.2.sift fun y hy => Or.inr (N y hy)).mono (by decide) (by decide)⟩⟩
theorem main_1_1 : Claimed_1_1 := comes_1 fun _ _ _ _ _ _ h hF => ⟨h.1, hF⟩
theorem main_1_2 : Claimed_1_2 := comes_1 fun _ _ _ _ _ _ h hF => ⟨h.2, hF⟩
end Jvm.Pilot.@@N@@
namespace Jvm.Pilot.@@N@@
open Jvm Jvm.ClassFile Sem Op Lib Jvm.Free Jvm.Stand Jvm.Pilot.@@N@@.Jvm.D
/-! MADE BY PROGRAM (witnessworld.py) out of the Statement's table words and the real class files: 15 classes; the members and pool entries that the words name. The judged class is class 1, her method 1. -/
namespace start1
open Jvm.ClassFile
def u (s : String) : CpInfo := .utf8 (stringToUtf16 s)
/-- a pool by its gaps: so many unusable entries, then the entry; so many at the end -/
def gap : Nat → List CpInfo → List CpInfo
  | 0, r => r
  | n + 1, r => .unusable :: gap n r
def poolList (es : List (Nat × CpInfo)) (last : Nat) : List CpInfo := es.foldr (fun e r => gap e.1 (e.2 :: r)) (gap last [])
def pool (es : List (Nat × CpInfo)) (last : Nat) : Array CpInfo := ⟨poolList es last⟩
def fileOf (pool : Array CpInfo) (this : Nat) (attrs : Array Attribute := #[]) (ms : Array MethodInfo := #[]) (fl : Nat := 33) (sup : Nat := 0) (ifs : Array Nat := #[]) (fds : Array FieldInfo := #[]) : ClassFile where
  minorVersion := 0
  majorVersion := 65
  constantPool := pool
  accessFlags := fl
  thisClass := this
  superClass := sup
  interfaces := ifs
  fields := fds
  methods := ms
  attributes := attrs
def plain (name : String) (sup : Option ClassId) : Class where
  name := name
  kind := .ordinary
  loader := none
  accessFlags := 33
  super := sup
  interfaces := #[]
  cf := none
  fields := #[]
  methods := #[]
  instanceTypes := #[]
  staticTypes := #[]
  resolved := #[]
  callSites := []
  init := .initialized
  statics := none
  mirror := none

def pool0 : Array CpInfo := pool [(5, u "<init>"), (0, u "()V"), (1, .class_ 10), (1, u "java/lang/Object")] 113

def k0m0 : Method := { name := "<init>", desc := "()V", sig := { parameters := [], returnType := none }, accessFlags := 1, code := none }
/-- java/lang/Object -/
def k0 : Class := { plain "java/lang/Object" none with
  accessFlags := 33
  interfaces := #[]
  cf := some (fileOf pool0 8 #[] #[{ accessFlags := 1, nameIndex := 5, descriptorIndex := 6, attributes := #[] }] 33 0 #[] #[])
  fields := #[]
  methods := #[k0m0]
  instanceTypes := #[]
  staticTypes := #[]
  resolved := Array.replicate 124 none
  statics := none }

def pool1 : Array CpInfo := pool [(2, .class_ 4), (1, u "java/lang/Object"), (0, u "<init>"), (0, u "()V"), (0, .class_ 8), (0, u "com/example/nameroll/nameroll/core/Domain$Status"), (0, .fieldref 7 10), (0, .nameAndType 11 12), (0, u "CLIENT_DELETE_PROHIBITED"), (0, u "Lcom/example/nameroll/nameroll/core/Domain$Status;"), (0, .fieldref 7 14), (0, .nameAndType 15 12), (0, u "CLIENT_HOLD"), (0, .fieldref 7 17), (0, .nameAndType 18 12), (0, u "CLIENT_RENEW_PROHIBITED"), (0, .fieldref 7 20), (0, .nameAndType 21 12), (0, u "CLIENT_TRANSFER_PROHIBITED"), (0, .fieldref 7 23), (0, .nameAndType 24 12), (0, u "CLIENT_UPDATE_PROHIBITED"), (0, .fieldref 7 26), (0, .nameAndType 27 12), (0, u "INACTIVE"), (0, .fieldref 7 29), (0, .nameAndType 30 12), (0, u "OK"), (0, .fieldref 7 32), (0, .nameAndType 33 12), (0, u "PENDING_CREATE"), (0, .fieldref 7 35), (0, .nameAndType 36 12), (0, u "PENDING_DELETE"), (0, .fieldref 7 38), (0, .nameAndType 39 12), (0, u "PENDING_RENEW"), (0, .fieldref 7 41), (0, .nameAndType 42 12), (0, u "PENDING_TRANSFER"), (0, .fieldref 7 44), (0, .nameAndType 45 12), (0, u "PENDING_UPDATE"), (0, .fieldref 7 47), (0, .nameAndType 48 12), (0, u "SERVER_DELETE_PROHIBITED"), (0, .fieldref 7 50), (0, .nameAndType 51 12), (0, u "SERVER_HOLD"), (0, .fieldref 7 53), (0, .nameAndType 54 12), (0, u "SERVER_RENEW_PROHIBITED"), (0, .fieldref 7 56), (0, .nameAndType 57 12), (0, u "SERVER_TRANSFER_PROHIBITED"), (0, .fieldref 7 59), (0, .nameAndType 60 12), (0, u "SERVER_UPDATE_PROHIBITED"), (0, .integer 2147483647), (0, .methodref 7 63), (0, .nameAndType 64 65), (0, u "withholdsDelegation"), (0, u "()Z"), (0, .class_ 67), (0, u "com/example/nameroll/nameroll/core/StatusWithholdsDelegationPinLaw"), (2, u "law"), (0, u "(I)Z")] 11

def k1m0 : Method := { name := "<init>", desc := "()V", sig := { parameters := [], returnType := none }, accessFlags := 2, code := none }
def k1c1 : Code := { maxStack := 4, maxLocals := 4, code := code, exceptionTable := #[], attributes := #[] }
def k1m1 : Method := { name := "law", desc := "(I)Z", sig := { parameters := [.int], returnType := some .boolean }, accessFlags := 9, code := some k1c1 }
/-- com/example/nameroll/nameroll/core/StatusWithholdsDelegationPinLaw -/
def k1 : Class := { plain "com/example/nameroll/nameroll/core/StatusWithholdsDelegationPinLaw" (some 0) with
  accessFlags := 49
  interfaces := #[]
  cf := some (fileOf pool1 66 #[] #[{ accessFlags := 2, nameIndex := 5, descriptorIndex := 6, attributes := #[] }, { accessFlags := 9, nameIndex := 70, descriptorIndex := 71, attributes := #[] }] 49 2 #[] #[])
  fields := #[]
  methods := #[k1m0, k1m1]
  instanceTypes := #[]
  staticTypes := #[]
  resolved := Array.replicate 83 none
  statics := none }

def pool2 : Array CpInfo := pool [(1, .class_ 2), (0, u "java/lang/constant/Constable"), (0, .class_ 4), (0, u "java/lang/Object")] 6

/-- java/lang/constant/Constable -/
def k2 : Class := { plain "java/lang/constant/Constable" (some 0) with
  accessFlags := 1537
  interfaces := #[]
  cf := some (fileOf pool2 1 #[] #[] 1537 3 #[] #[])
  fields := #[]
  methods := #[]
  instanceTypes := #[]
  staticTypes := #[]
  resolved := Array.replicate 11 none
  statics := none }

def pool3 : Array CpInfo := pool [(1, .class_ 2), (0, u "java/lang/Comparable"), (0, .class_ 4), (0, u "java/lang/Object")] 7

/-- java/lang/Comparable -/
def k3 : Class := { plain "java/lang/Comparable" (some 0) with
  accessFlags := 1537
  interfaces := #[]
  cf := some (fileOf pool3 1 #[] #[] 1537 3 #[] #[])
  fields := #[]
  methods := #[]
  instanceTypes := #[]
  staticTypes := #[]
  resolved := Array.replicate 12 none
  statics := none }

def pool4 : Array CpInfo := pool [(1, .class_ 2), (0, u "java/io/Serializable"), (0, .class_ 4), (0, u "java/lang/Object")] 2

/-- java/io/Serializable -/
def k4 : Class := { plain "java/io/Serializable" (some 0) with
  accessFlags := 1537
  interfaces := #[]
  cf := some (fileOf pool4 1 #[] #[] 1537 3 #[] #[])
  fields := #[]
  methods := #[]
  instanceTypes := #[]
  staticTypes := #[]
  resolved := Array.replicate 7 none
  statics := none }

def pool5 : Array CpInfo := pool [(2, .class_ 4), (1, u "java/lang/Enum"), (0, u "name"), (0, u "Ljava/lang/String;"), (2, u "ordinal"), (0, u "I"), (1, .class_ 14), (1, u "java/lang/Object"), (4, u "hash"), (86, .class_ 108), (1, u "java/lang/Enum$EnumDesc"), (2, .class_ 112), (0, u "java/lang/constant/Constable"), (0, .class_ 114), (0, u "java/lang/Comparable"), (0, .class_ 116), (0, u "java/io/Serializable")] 87

/-- java/lang/Enum -/
def k5 : Class := { plain "java/lang/Enum" (some 0) with
  accessFlags := 1057
  interfaces := #[2, 3, 4]
  cf := some (fileOf pool5 2 #[.nestMembers #[106]] #[] 1057 12 #[111, 113, 115] #[{ accessFlags := 18, nameIndex := 5, descriptorIndex := 6, attributes := #[] }, { accessFlags := 18, nameIndex := 9, descriptorIndex := 10, attributes := #[] }, { accessFlags := 2, nameIndex := 19, descriptorIndex := 10, attributes := #[] }])
  fields := #[{ name := "name", type := (.object "java/lang/String"), accessFlags := 18, slot := 0, constantValue := 0 }, { name := "ordinal", type := .int, accessFlags := 18, slot := 1, constantValue := 0 }, { name := "hash", type := .int, accessFlags := 2, slot := 2, constantValue := 0 }]
  methods := #[]
  instanceTypes := #[(.object "java/lang/String"), .int, .int]
  staticTypes := #[]
  resolved := Array.replicate 204 none
  statics := none }

def pool6 : Array CpInfo := pool [(1, .class_ 2), (0, u "com/example/nameroll/nameroll/core/Domain$Status"), (2, u "CLIENT_DELETE_PROHIBITED"), (0, u "Lcom/example/nameroll/nameroll/core/Domain$Status;"), (0, .fieldref 1 8), (0, .nameAndType 9 6), (0, u "CLIENT_HOLD"), (2, u "CLIENT_RENEW_PROHIBITED"), (2, u "CLIENT_TRANSFER_PROHIBITED"), (2, u "CLIENT_UPDATE_PROHIBITED"), (0, .fieldref 1 20), (0, .nameAndType 21 6), (0, u "INACTIVE"), (2, u "OK"), (2, u "PENDING_CREATE"), (0, .fieldref 1 29), (0, .nameAndType 30 6), (0, u "PENDING_DELETE"), (2, u "PENDING_RENEW"), (2, u "PENDING_TRANSFER"), (2, u "PENDING_UPDATE"), (2, u "SERVER_DELETE_PROHIBITED"), (0, .fieldref 1 44), (0, .nameAndType 45 6), (0, u "SERVER_HOLD"), (2, u "SERVER_RENEW_PROHIBITED"), (2, u "SERVER_TRANSFER_PROHIBITED"), (2, u "SERVER_UPDATE_PROHIBITED"), (2, u "$VALUES"), (0, u "[Lcom/example/nameroll/nameroll/core/Domain$Status;"), (6, .class_ 67), (1, u "java/lang/Enum"), (59, u "code"), (0, u "Ljava/lang/String;"), (8, u "prohibited"), (0, u "Ljava/util/Set;"), (102, u "()Z"), (0, u "withholdsDelegation"), (12, .class_ 256), (0, u "com/example/nameroll/nameroll/core/Domain")] 36

def k6c0 : Code := { maxStack := 2, maxLocals := 1, code := prog_14_method_6_code, exceptionTable := #[], attributes := #[] }
def k6m0 : Method := { name := "withholdsDelegation", desc := "()Z", sig := { parameters := [], returnType := some .boolean }, accessFlags := 1, code := some k6c0 }
/-- com/example/nameroll/nameroll/core/Domain$Status -/
def k6 : Class := { plain "com/example/nameroll/nameroll/core/Domain$Status" (some 5) with
  accessFlags := 16433
  interfaces := #[]
  cf := some (fileOf pool6 1 #[.nestHost 255] #[{ accessFlags := 1, nameIndex := 242, descriptorIndex := 241, attributes := #[] }] 16433 65 #[] #[{ accessFlags := 16409, nameIndex := 5, descriptorIndex := 6, attributes := #[] }, { accessFlags := 16409, nameIndex := 9, descriptorIndex := 6, attributes := #[] }, { accessFlags := 16409, nameIndex := 12, descriptorIndex := 6, attributes := #[] }, { accessFlags := 16409, nameIndex := 15, descriptorIndex := 6, attributes := #[] }, { accessFlags := 16409, nameIndex := 18, descriptorIndex := 6, attributes := #[] }, { accessFlags := 16409, nameIndex := 21, descriptorIndex := 6, attributes := #[] }, { accessFlags := 16409, nameIndex := 24, descriptorIndex := 6, attributes := #[] }, { accessFlags := 16409, nameIndex := 27, descriptorIndex := 6, attributes := #[] }, { accessFlags := 16409, nameIndex := 30, descriptorIndex := 6, attributes := #[] }, { accessFlags := 16409, nameIndex := 33, descriptorIndex := 6, attributes := #[] }, { accessFlags := 16409, nameIndex := 36, descriptorIndex := 6, attributes := #[] }, { accessFlags := 16409, nameIndex := 39, descriptorIndex := 6, attributes := #[] }, { accessFlags := 16409, nameIndex := 42, descriptorIndex := 6, attributes := #[] }, { accessFlags := 16409, nameIndex := 45, descriptorIndex := 6, attributes := #[] }, { accessFlags := 16409, nameIndex := 48, descriptorIndex := 6, attributes := #[] }, { accessFlags := 16409, nameIndex := 51, descriptorIndex := 6, attributes := #[] }, { accessFlags := 16409, nameIndex := 54, descriptorIndex := 6, attributes := #[] }, { accessFlags := 18, nameIndex := 127, descriptorIndex := 128, attributes := #[] }, { accessFlags := 18, nameIndex := 137, descriptorIndex := 138, attributes := #[] }, { accessFlags := 4122, nameIndex := 57, descriptorIndex := 58, attributes := #[] }])
  fields := #[{ name := "CLIENT_DELETE_PROHIBITED", type := (.object "com/example/nameroll/nameroll/core/Domain$Status"), accessFlags := 16409, slot := 0, constantValue := 0 }, { name := "CLIENT_HOLD", type := (.object "com/example/nameroll/nameroll/core/Domain$Status"), accessFlags := 16409, slot := 1, constantValue := 0 }, { name := "CLIENT_RENEW_PROHIBITED", type := (.object "com/example/nameroll/nameroll/core/Domain$Status"), accessFlags := 16409, slot := 2, constantValue := 0 }, { name := "CLIENT_TRANSFER_PROHIBITED", type := (.object "com/example/nameroll/nameroll/core/Domain$Status"), accessFlags := 16409, slot := 3, constantValue := 0 }, { name := "CLIENT_UPDATE_PROHIBITED", type := (.object "com/example/nameroll/nameroll/core/Domain$Status"), accessFlags := 16409, slot := 4, constantValue := 0 }, { name := "INACTIVE", type := (.object "com/example/nameroll/nameroll/core/Domain$Status"), accessFlags := 16409, slot := 5, constantValue := 0 }, { name := "OK", type := (.object "com/example/nameroll/nameroll/core/Domain$Status"), accessFlags := 16409, slot := 6, constantValue := 0 }, { name := "PENDING_CREATE", type := (.object "com/example/nameroll/nameroll/core/Domain$Status"), accessFlags := 16409, slot := 7, constantValue := 0 }, { name := "PENDING_DELETE", type := (.object "com/example/nameroll/nameroll/core/Domain$Status"), accessFlags := 16409, slot := 8, constantValue := 0 }, { name := "PENDING_RENEW", type := (.object "com/example/nameroll/nameroll/core/Domain$Status"), accessFlags := 16409, slot := 9, constantValue := 0 }, { name := "PENDING_TRANSFER", type := (.object "com/example/nameroll/nameroll/core/Domain$Status"), accessFlags := 16409, slot := 10, constantValue := 0 }, { name := "PENDING_UPDATE", type := (.object "com/example/nameroll/nameroll/core/Domain$Status"), accessFlags := 16409, slot := 11, constantValue := 0 }, { name := "SERVER_DELETE_PROHIBITED", type := (.object "com/example/nameroll/nameroll/core/Domain$Status"), accessFlags := 16409, slot := 12, constantValue := 0 }, { name := "SERVER_HOLD", type := (.object "com/example/nameroll/nameroll/core/Domain$Status"), accessFlags := 16409, slot := 13, constantValue := 0 }, { name := "SERVER_RENEW_PROHIBITED", type := (.object "com/example/nameroll/nameroll/core/Domain$Status"), accessFlags := 16409, slot := 14, constantValue := 0 }, { name := "SERVER_TRANSFER_PROHIBITED", type := (.object "com/example/nameroll/nameroll/core/Domain$Status"), accessFlags := 16409, slot := 15, constantValue := 0 }, { name := "SERVER_UPDATE_PROHIBITED", type := (.object "com/example/nameroll/nameroll/core/Domain$Status"), accessFlags := 16409, slot := 16, constantValue := 0 }, { name := "code", type := (.object "java/lang/String"), accessFlags := 18, slot := 3, constantValue := 0 }, { name := "prohibited", type := (.object "java/util/Set"), accessFlags := 18, slot := 4, constantValue := 0 }, { name := "$VALUES", type := (.array (.object "com/example/nameroll/nameroll/core/Domain$Status")), accessFlags := 4122, slot := 17, constantValue := 0 }]
  methods := #[k6m0]
  instanceTypes := #[(.object "java/lang/String"), .int, .int, (.object "java/lang/String"), (.object "java/util/Set")]
  staticTypes := #[(.object "com/example/nameroll/nameroll/core/Domain$Status"), (.object "com/example/nameroll/nameroll/core/Domain$Status"), (.object "com/example/nameroll/nameroll/core/Domain$Status"), (.object "com/example/nameroll/nameroll/core/Domain$Status"), (.object "com/example/nameroll/nameroll/core/Domain$Status"), (.object "com/example/nameroll/nameroll/core/Domain$Status"), (.object "com/example/nameroll/nameroll/core/Domain$Status"), (.object "com/example/nameroll/nameroll/core/Domain$Status"), (.object "com/example/nameroll/nameroll/core/Domain$Status"), (.object "com/example/nameroll/nameroll/core/Domain$Status"), (.object "com/example/nameroll/nameroll/core/Domain$Status"), (.object "com/example/nameroll/nameroll/core/Domain$Status"), (.object "com/example/nameroll/nameroll/core/Domain$Status"), (.object "com/example/nameroll/nameroll/core/Domain$Status"), (.object "com/example/nameroll/nameroll/core/Domain$Status"), (.object "com/example/nameroll/nameroll/core/Domain$Status"), (.object "com/example/nameroll/nameroll/core/Domain$Status"), (.array (.object "com/example/nameroll/nameroll/core/Domain$Status"))]
  resolved := Array.replicate 293 none
  statics := some 0 }

def pool7 : Array CpInfo := pool [(1, u "java/lang/Cloneable"), (0, .class_ 1), (0, u "java/lang/Object"), (0, .class_ 3)] 3

/-- java/lang/Cloneable -/
def k7 : Class := { plain "java/lang/Cloneable" (some 0) with
  accessFlags := 1537
  interfaces := #[]
  cf := some (fileOf pool7 2 #[] #[] 1537 4 #[] #[])
  fields := #[]
  methods := #[]
  instanceTypes := #[]
  staticTypes := #[]
  resolved := Array.replicate 8 none
  statics := none }

/-- the primitive boolean -/
def k8 : Class := { plain "boolean" none with kind := .primitive 'Z', accessFlags := 0x411 }
/-- [Z -/
def k9 : Class := { plain "[Z" (some 0) with kind := .array 8 .boolean, interfaces := #[7, 4], accessFlags := 1041 }

/-- the primitive byte -/
def k10 : Class := { plain "byte" none with kind := .primitive 'B', accessFlags := 0x411 }
/-- [B -/
def k11 : Class := { plain "[B" (some 0) with kind := .array 10 .byte, interfaces := #[7, 4], accessFlags := 1041 }

/-- the primitive int -/
def k12 : Class := { plain "int" none with kind := .primitive 'I', accessFlags := 0x411 }
/-- [I -/
def k13 : Class := { plain "[I" (some 0) with kind := .array 12 .int, interfaces := #[7, 4], accessFlags := 1041 }

/-- [Lcom/example/nameroll/nameroll/core/Domain$Status; -/
def k14 : Class := { plain "[Lcom/example/nameroll/nameroll/core/Domain$Status;" (some 0) with kind := .array 6 (.object "com/example/nameroll/nameroll/core/Domain$Status"), interfaces := #[7, 4], accessFlags := 1041 }

def heap : Heap := #[{ cls := 6, slots := #[.ref 1, .ref 2, .ref 3, .ref 4, .ref 5, .ref 6, .ref 7, .ref 8, .ref 9, .ref 10, .ref 11, .ref 12, .ref 13, .ref 14, .ref 15, .ref 16, .ref 17, .null], vm := .statics 6 },
  { cls := 6, slots := #[.null, .int 0, .int 0, .null, .null], vm := .none },
  { cls := 6, slots := #[.null, .int 1, .int 0, .null, .null], vm := .none },
  { cls := 6, slots := #[.null, .int 2, .int 0, .null, .null], vm := .none },
  { cls := 6, slots := #[.null, .int 3, .int 0, .null, .null], vm := .none },
  { cls := 6, slots := #[.null, .int 4, .int 0, .null, .null], vm := .none },
  { cls := 6, slots := #[.null, .int 5, .int 0, .null, .null], vm := .none },
  { cls := 6, slots := #[.null, .int 6, .int 0, .null, .null], vm := .none },
  { cls := 6, slots := #[.null, .int 7, .int 0, .null, .null], vm := .none },
  { cls := 6, slots := #[.null, .int 8, .int 0, .null, .null], vm := .none },
  { cls := 6, slots := #[.null, .int 9, .int 0, .null, .null], vm := .none },
  { cls := 6, slots := #[.null, .int 10, .int 0, .null, .null], vm := .none },
  { cls := 6, slots := #[.null, .int 11, .int 0, .null, .null], vm := .none },
  { cls := 6, slots := #[.null, .int 12, .int 0, .null, .null], vm := .none },
  { cls := 6, slots := #[.null, .int 13, .int 0, .null, .null], vm := .none },
  { cls := 6, slots := #[.null, .int 14, .int 0, .null, .null], vm := .none },
  { cls := 6, slots := #[.null, .int 15, .int 0, .null, .null], vm := .none },
  { cls := 6, slots := #[.null, .int 16, .int 0, .null, .null], vm := .none }]
def classes : Array Class := #[k0, k1, k2, k3, k4, k5, k6, k7, k8, k9, k10, k11, k12, k13, k14]
def interned : List (Array UInt16 × Addr) := []
def slotsUsed : Nat := 103
def theMethod : MethodId := ⟨1, 1⟩
def args0 : Array Value := #[.int 5]
def aboutOver (below : List Frame) : State where
  vm := { classes := classes, interned := interned.toArray }
  heap := heap
  slotsUsed := slotsUsed
  threads := #[{ frames := .invoking theMethod args0 :: below }]
def below0 : List Frame := [.native { method := ⟨0, 0⟩, args := #[] }]
def about1 : State := aboutOver below0
def p0 : Program := .bare "" "" ""
def e0 : Env := launch0.env 0 0 0
theorem w_frames : about1.frames = Frame.invoking theMethod args0 :: below0 := rfl
set_option maxRecDepth 65536 in
theorem w_args : argsFit about1.vm theMethod args0 = true := by decide +kernel
set_option maxRecDepth 65536 in
theorem w_heap : heapFits about1 = true := by decide +kernel
set_option maxRecDepth 65536 in
theorem w_runnable : about1.curStatus? = some .runnable := by decide +kernel
set_option maxRecDepth 65536 in
theorem w_alone : about1.alone = true := by decide +kernel
set_option maxRecDepth 65536 in
theorem w_named : about1.methodNamed? x = some theMethod := by decide +kernel
set_option maxRecDepth 65536 in
theorem w_hears : about1.hears theMethod below0 = true := by decide +kernel
set_option maxRecDepth 65536 in
theorem w_ripe : about1.ripe theMethod args0 below0 = true := by decide +kernel
theorem w_running : about1.status = .running := rfl
set_option maxRecDepth 65536 in
theorem w_room : about1.hasRoom e0.platform room_1 = true :=
  launch0.hasRoom_least _ room_1 (by decide +kernel) (by decide +kernel) (by decide +kernel) (by decide +kernel) (by decide +kernel) (by decide +kernel)
theorem allAtoms_all (ts : List Jvm.Cond) (a : Array Jvm.Value) (st : Jvm.State) : (allAtoms ts).before a st = ts.all (fun c => c.before a st) := by
  induction ts with
  | nil => rfl
  | cons c t ih =>
    show (Jvm.Cond.and c (allAtoms t)).before a st = _
    rw [Jvm.Cond.before_and, ih, List.all_cons]
def words1 : List Jvm.Cond := Jvm.Cond.code x code maxLocals ret :: tables_1
/-- a 'code' word, met by the world's own term for the bytes: nothing is compared byte by byte -/
theorem code_word {y : MethodName} {bytes : ByteArray} {mx : Nat} {rt : Option FieldType} {a : Array Value} {s : State} {m : MethodId} {meth : Method} {c : Code} (h1 : s.methodNamed? y = some m) (h2 : s.vm.method? m = some meth) (h3 : meth.code = some c) (h4 : c.code = bytes)
    (h5 : (c.maxLocals == mx && c.exceptionTable.isEmpty && decide (c.maxStack ≤ mostOperands) && decide (meth.sig.returnType = rt) && !meth.locks && decide (parseMethodDescriptor y.desc = some meth.sig)) = true) : (Jvm.Cond.code y bytes mx rt).before a s = true := by
  simp only [Bool.and_eq_true, beq_iff_eq, Bool.not_eq_true', decide_eq_true_eq] at h5
  obtain ⟨⟨⟨⟨⟨g1, g2⟩, g3⟩, g4⟩, g5⟩, g6⟩ := h5
  simp [Cond.before, Cond.holds, Cond.value, h1, h2, h3, h4, g1, g2, g3, g4, g5, g6]
def isCode : Jvm.Cond → Bool
  | .code _ _ _ _ => true
  | _ => false
theorem all_split {L : List Jvm.Cond} {P : Jvm.Cond → Bool} (h1 : L.all (fun c => isCode c || P c) = true) (h2 : ∀ c ∈ L.filter isCode, P c = true) : L.all P = true := by
  refine List.all_eq_true.mpr fun c hc => ?_
  have h := List.all_eq_true.mp h1 c hc
  rcases Bool.eq_false_or_eq_true (isCode c) with hi | hi
  · exact h2 c (List.mem_filter.mpr ⟨hc, hi⟩)
  · simpa [hi] using h
set_option maxRecDepth 65536 in
theorem w_c0 : (Jvm.Cond.code x code maxLocals ret).before args0 about1 = true := code_word (m := ⟨1, 1⟩) (meth := k1m1) (c := k1c1) (by decide +kernel) rfl rfl rfl (by decide +kernel)
set_option maxRecDepth 65536 in
theorem w_c1 : (Jvm.Cond.code ({ cls := "com/example/nameroll/nameroll/core/Domain$Status", name := "withholdsDelegation", desc := "()Z" } : Jvm.MethodName) prog_14_method_6_code (1 : Nat) (Option.some Jvm.ClassFile.FieldType.boolean)).before args0 about1 = true := code_word (m := ⟨6, 0⟩) (meth := k6m0) (c := k6c0) (by decide +kernel) rfl rfl rfl (by decide +kernel)
def codes1 : List Jvm.Cond := [Jvm.Cond.code x code maxLocals ret, Jvm.Cond.code ({ cls := "com/example/nameroll/nameroll/core/Domain$Status", name := "withholdsDelegation", desc := "()Z" } : Jvm.MethodName) prog_14_method_6_code (1 : Nat) (Option.some Jvm.ClassFile.FieldType.boolean)]
set_option maxRecDepth 65536 in
theorem codes_eq : words1.filter isCode = codes1 := rfl
theorem w_codes : ∀ c ∈ words1.filter isCode, c.before args0 about1 = true := by
  rw [codes_eq]
  intro c hc
  simp only [codes1, List.mem_cons, List.not_mem_nil, or_false] at hc
  rcases hc with rfl | rfl
  · exact w_c0
  · exact w_c1
set_option maxRecDepth 65536 in
theorem w_t1 : (words1.take 24).all (fun c => isCode c || c.before args0 about1) = true := by decide +kernel
set_option maxRecDepth 65536 in
theorem w_t2 : ((words1.drop 24).take 24).all (fun c => isCode c || c.before args0 about1) = true := by decide +kernel
set_option maxRecDepth 65536 in
theorem w_t3 : ((words1.drop 24).drop 24).all (fun c => isCode c || c.before args0 about1) = true := by decide +kernel
theorem w_tables : (allAtoms (Jvm.Cond.code x code maxLocals ret :: tables_1)).before args0 about1 = true := by
  rw [allAtoms_all]
  show words1.all (fun c => c.before args0 about1) = true
  refine all_split ?_ w_codes
  rw [← List.take_append_drop 24 words1, List.all_append, w_t1, ← List.take_append_drop 24 (words1.drop 24), List.all_append, w_t2, w_t3]
  rfl
set_option maxRecDepth 65536 in
theorem w_case : (Jvm.Cond.and given_1 narrow_1).before args0 about1 = true := by decide +kernel
theorem w_applies : (headSpec (Jvm.Cond.code x code maxLocals ret :: tables_1) room_1).applies x e0.platform about1 = true :=
  (Spec.applies_iff w_frames).mpr ⟨w_running, w_runnable, w_alone, w_named, w_hears, w_ripe, w_room, w_tables⟩
theorem atStart : AtStart classFile x code maxLocals ret World_1 tables_1 room_1 Calls_1 rest_1 Pre_1 launch0 p0 e0 about1 theMethod args0 below0 :=
  ⟨lists_1, trivial, launch0.admits_env _ _ _, launch0.least_env, fairChoices_fair.cas, fairChoices_fair.clock, w_frames, w_args, w_heap, w_applies, trivial, trivial, w_case⟩
end start1
theorem witness_1 : WitnessClaimed_1 := ⟨start1.p0, start1.e0, start1.about1, start1.theMethod, start1.args0, start1.below0, start1.atStart⟩
end Jvm.Pilot.@@N@@
