import JvmDerived
import JvmDerived.Pilot.@@N@@Statement
import JvmDerived.Pilot.@@N@@Code
set_option linter.unusedVariables false
set_option linter.unusedSimpArgs false
@@BLOCK:NumsL.lean.txt@@
namespace Jvm.Pilot.@@N@@
open Jvm Jvm.ClassFile Sem Op Lib Jvm.Free Jvm.Stand Jvm.LawKit Jvm.RoadKit Bundle Jvm.Pilot.@@N@@.Jvm.D
abbrev oI (x : Int32) : Slot := .val (.int x)
abbrev oJ (x : Int64) : Slot := .val (.long x)
abbrev oA (x : Addr) : Slot := .val (.ref x)
abbrev oN : Slot := .val .null
abbrev oU : Slot := .unset
abbrev oS : Slot := .second
theorem own_w {Z : State} {a0 : Array Value} (hw : ∀ d ∈ tables_1, d.before a0 Z = true) (i : Nat) {d : Jvm.Cond} (h : tables_1[i]? = some d) : d.before a0 Z = true := hw d (List.mem_of_getElem? h)
section Own
variable {p : Program} {l : Launch} {e : Env} {R : Room} {s : State} {m : MethodId} {args : Array Value} {below : List Frame} {meth : Method} {c : Code} {T : State} {locs : List Loc} {cells slots : Nat} {P : State → Outcome → Prop} {pc : Nat} {ls : Array Slot} {st : List Value} {Z : State} {a0 : Array Value} {h : Heap} {bytes : ByteArray}
/-- the run goes on from A and ends so that P holds -/
def Go (p : Program) (e : Env) (below : List Frame) (P : State → Outcome → Prop) (A : State) : Prop := ∃ s₂ o, Steps p.tables e below A s₂ ∧ P s₂ o
theorem own_go {A A' : State} (h : ∀ t, Steps p.tables e below A' t → Steps p.tables e below A t) (k : Go p e below P A') : Go p e below P A := by
  obtain ⟨s₂, o, h1, h2⟩ := k
  exact ⟨s₂, o, h _ h1, h2⟩
/-! loads, stores, constants -/
theorem own_iload_n (pc' : Nat) (X : Stand p l e R s m args below meth c T locs cells slots) (hx : p.tables.exec = Jvm.exec) (hby : c.code = bytes) {k : Fin 4} {v : Int32} (hd : decode bytes pc = .ok (.iload_n k, 1)) (hp : pc + 1 = pc') (hl : ls[k.val]? = some (.val (.int v))) (r : Go p e below P (T.setTop (mkF m pc' ls (.int v :: st)))) : Go p e below P (T.setTop (mkF m pc ls st)) := by
  subst hp; exact own_go (fun t q => XS.iloadN X.here hx rfl (hb hby hd) hl q) r
theorem own_iload (pc' : Nat) (X : Stand p l e R s m args below meth c T locs cells slots) (hx : p.tables.exec = Jvm.exec) (hby : c.code = bytes) {k : Nat} {v : Int32} (hd : decode bytes pc = .ok (.iload k, 2)) (hp : pc + 2 = pc') (hl : ls[k]? = some (.val (.int v))) (r : Go p e below P (T.setTop (mkF m pc' ls (.int v :: st)))) : Go p e below P (T.setTop (mkF m pc ls st)) := by
  subst hp; exact own_go (fun t q => XS.iload X.here hx rfl (hb hby hd) hl q) r
theorem own_lload_n (pc' : Nat) (X : Stand p l e R s m args below meth c T locs cells slots) (hx : p.tables.exec = Jvm.exec) (hby : c.code = bytes) {k : Fin 4} {v : Int64} (hd : decode bytes pc = .ok (.lload_n k, 1)) (hp : pc + 1 = pc') (hl : ls[k.val]? = some (.val (.long v))) (r : Go p e below P (T.setTop (mkF m pc' ls (.long v :: st)))) : Go p e below P (T.setTop (mkF m pc ls st)) := by
  subst hp; exact own_go (fun t q => XT.lloadN X.here hx rfl (hb hby hd) hl q) r
theorem own_lload (pc' : Nat) (X : Stand p l e R s m args below meth c T locs cells slots) (hx : p.tables.exec = Jvm.exec) (hby : c.code = bytes) {k : Nat} {v : Int64} (hd : decode bytes pc = .ok (.lload k, 2)) (hp : pc + 2 = pc') (hl : ls[k]? = some (.val (.long v))) (r : Go p e below P (T.setTop (mkF m pc' ls (.long v :: st)))) : Go p e below P (T.setTop (mkF m pc ls st)) := by
  subst hp; exact own_go (fun t q => XT.lload X.here hx rfl (hb hby hd) hl q) r
theorem own_aload_n (pc' : Nat) (X : Stand p l e R s m args below meth c T locs cells slots) (hx : p.tables.exec = Jvm.exec) (hby : c.code = bytes) {k : Fin 4} {v : Value} (hd : decode bytes pc = .ok (.aload_n k, 1)) (hp : pc + 1 = pc') (hl : ls[k.val]? = some (.val v)) (hv : v.isRef = true) (r : Go p e below P (T.setTop (mkF m pc' ls (v :: st)))) : Go p e below P (T.setTop (mkF m pc ls st)) := by
  subst hp; exact own_go (fun t q => XS.aloadN X.here hx rfl (hb hby hd) hl hv q) r
theorem own_aload (pc' : Nat) (X : Stand p l e R s m args below meth c T locs cells slots) (hx : p.tables.exec = Jvm.exec) (hby : c.code = bytes) {k : Nat} {v : Value} (hd : decode bytes pc = .ok (.aload k, 2)) (hp : pc + 2 = pc') (hl : ls[k]? = some (.val v)) (hv : v.isRef = true) (r : Go p e below P (T.setTop (mkF m pc' ls (v :: st)))) : Go p e below P (T.setTop (mkF m pc ls st)) := by
  subst hp; exact own_go (fun t q => XS.aload X.here hx rfl (hb hby hd) hl hv q) r
theorem own_istore_n (pc' : Nat) (l' : Array Slot) (X : Stand p l e R s m args below meth c T locs cells slots) (hx : p.tables.exec = Jvm.exec) (hby : c.code = bytes) {k : Fin 4} {v : Int32} (hd : decode bytes pc = .ok (.istore_n k, 1)) (hp : pc + 1 = pc') (hl : storeLocals ls k.val (.int v) = some l') (r : Go p e below P (T.setTop (mkF m pc' l' st))) : Go p e below P (T.setTop (mkF m pc ls (.int v :: st))) := by
  subst hp; exact own_go (fun t q => XS.istoreN X.here hx rfl (hb hby hd) rfl hl q) r
theorem own_istore (pc' : Nat) (l' : Array Slot) (X : Stand p l e R s m args below meth c T locs cells slots) (hx : p.tables.exec = Jvm.exec) (hby : c.code = bytes) {k : Nat} {v : Int32} (hd : decode bytes pc = .ok (.istore k, 2)) (hp : pc + 2 = pc') (hl : storeLocals ls k (.int v) = some l') (r : Go p e below P (T.setTop (mkF m pc' l' st))) : Go p e below P (T.setTop (mkF m pc ls (.int v :: st))) := by
  subst hp; exact own_go (fun t q => XS.istore X.here hx rfl (hb hby hd) rfl hl q) r
theorem own_lstore_n (pc' : Nat) (l' : Array Slot) (X : Stand p l e R s m args below meth c T locs cells slots) (hx : p.tables.exec = Jvm.exec) (hby : c.code = bytes) {k : Fin 4} {v : Int64} (hd : decode bytes pc = .ok (.lstore_n k, 1)) (hp : pc + 1 = pc') (hl : storeLocals ls k.val (.long v) = some l') (r : Go p e below P (T.setTop (mkF m pc' l' st))) : Go p e below P (T.setTop (mkF m pc ls (.long v :: st))) := by
  subst hp; exact own_go (fun t q => XT.lstoreN X.here hx rfl (hb hby hd) rfl hl q) r
theorem own_lstore (pc' : Nat) (l' : Array Slot) (X : Stand p l e R s m args below meth c T locs cells slots) (hx : p.tables.exec = Jvm.exec) (hby : c.code = bytes) {k : Nat} {v : Int64} (hd : decode bytes pc = .ok (.lstore k, 2)) (hp : pc + 2 = pc') (hl : storeLocals ls k (.long v) = some l') (r : Go p e below P (T.setTop (mkF m pc' l' st))) : Go p e below P (T.setTop (mkF m pc ls (.long v :: st))) := by
  subst hp; exact own_go (fun t q => XT.lstore X.here hx rfl (hb hby hd) rfl hl q) r
theorem own_astore_n (pc' : Nat) (l' : Array Slot) (X : Stand p l e R s m args below meth c T locs cells slots) (hx : p.tables.exec = Jvm.exec) (hby : c.code = bytes) {k : Fin 4} {v : Value} (hd : decode bytes pc = .ok (.astore_n k, 1)) (hp : pc + 1 = pc') (hv : v.isRef = true) (hl : storeLocals ls k.val v = some l') (r : Go p e below P (T.setTop (mkF m pc' l' st))) : Go p e below P (T.setTop (mkF m pc ls (v :: st))) := by
  subst hp; exact own_go (fun t q => XS.astoreN X.here hx rfl (hb hby hd) rfl hv hl q) r
theorem own_astore (pc' : Nat) (l' : Array Slot) (X : Stand p l e R s m args below meth c T locs cells slots) (hx : p.tables.exec = Jvm.exec) (hby : c.code = bytes) {k : Nat} {v : Value} (hd : decode bytes pc = .ok (.astore k, 2)) (hp : pc + 2 = pc') (hv : v.isRef = true) (hl : storeLocals ls k v = some l') (r : Go p e below P (T.setTop (mkF m pc' l' st))) : Go p e below P (T.setTop (mkF m pc ls (v :: st))) := by
  subst hp; exact own_go (fun t q => XS.astore X.here hx rfl (hb hby hd) rfl hv hl q) r
theorem own_iconst (pc' : Nat) (w : Int32) (X : Stand p l e R s m args below meth c T locs cells slots) (hx : p.tables.exec = Jvm.exec) (hby : c.code = bytes) {i : Int} (hd : decode bytes pc = .ok (.iconst i, 1)) (hp : pc + 1 = pc') (hw : Int32.ofInt i = w) (r : Go p e below P (T.setTop (mkF m pc' ls (.int w :: st)))) : Go p e below P (T.setTop (mkF m pc ls st)) := by
  subst hp hw; exact own_go (fun t q => XS.iconst X.here hx rfl (hb hby hd) q) r
theorem own_bipush (pc' : Nat) (w : Int32) (X : Stand p l e R s m args below meth c T locs cells slots) (hx : p.tables.exec = Jvm.exec) (hby : c.code = bytes) {i : Int} (hd : decode bytes pc = .ok (.bipush i, 2)) (hp : pc + 2 = pc') (hw : (Int8.ofInt i).toInt32 = w) (r : Go p e below P (T.setTop (mkF m pc' ls (.int w :: st)))) : Go p e below P (T.setTop (mkF m pc ls st)) := by
  subst hp hw; exact own_go (fun t q => XS.bipush X.here hx rfl (hb hby hd) q) r
theorem own_sipush (pc' : Nat) (w : Int32) (X : Stand p l e R s m args below meth c T locs cells slots) (hx : p.tables.exec = Jvm.exec) (hby : c.code = bytes) {i : Int} (hd : decode bytes pc = .ok (.sipush i, 3)) (hp : pc + 3 = pc') (hw : (Int16.ofInt i).toInt32 = w) (r : Go p e below P (T.setTop (mkF m pc' ls (.int w :: st)))) : Go p e below P (T.setTop (mkF m pc ls st)) := by
  subst hp hw; exact own_go (fun t q => XS.sipush X.here hx rfl (hb hby hd) q) r
theorem own_lconst (pc' : Nat) (w : Int64) (X : Stand p l e R s m args below meth c T locs cells slots) (hx : p.tables.exec = Jvm.exec) (hby : c.code = bytes) {k : Fin 2} (hd : decode bytes pc = .ok (.lconst k, 1)) (hp : pc + 1 = pc') (hw : Int64.ofNat k = w) (r : Go p e below P (T.setTop (mkF m pc' ls (.long w :: st)))) : Go p e below P (T.setTop (mkF m pc ls st)) := by
  subst hp hw; exact own_go (fun t q => XT.lconst X.here hx rfl (hb hby hd) q) r
theorem own_null (pc' : Nat) (X : Stand p l e R s m args below meth c T locs cells slots) (hx : p.tables.exec = Jvm.exec) (hby : c.code = bytes) (hd : decode bytes pc = .ok (.aconst_null, 1)) (hp : pc + 1 = pc') (r : Go p e below P (T.setTop (mkF m pc' ls (.null :: st)))) : Go p e below P (T.setTop (mkF m pc ls st)) := by
  subst hp; exact own_go (fun t q => XS.aconstNull X.here hx rfl (hb hby hd) q) r
theorem own_ldc (pc' : Nat) (X : Stand p l e R s m args below meth c T locs cells slots) (hx : p.tables.exec = Jvm.exec) (hby : c.code = bytes) (hZ : Z.Warmed39 s.vm) {own : String} {index : Nat} {v : Int32} (hown : s.vm.findClass own = some m.cls) (w : (Cond.constant own index v).before a0 Z = true) (hd : decode bytes pc = .ok (.ldc index, 2)) (hp : pc + 2 = pc') (r : Go p e below P (T.setTop (mkF m pc' ls (.int v :: st)))) : Go p e below P (T.setTop (mkF m pc ls st)) := by
  subst hp; exact own_go (fun t q => X.ldcI hx hown (mvT hZ w) rfl (hb hby hd) q) r
theorem own_ldc2 (pc' : Nat) (X : Stand p l e R s m args below meth c T locs cells slots) (hx : p.tables.exec = Jvm.exec) (hby : c.code = bytes) (hZ : Z.Warmed39 s.vm) {own : String} {index : Nat} {v : Int64} (hown : s.vm.findClass own = some m.cls) (w : (Cond.constantLong own index v).before a0 Z = true) (hd : decode bytes pc = .ok (.ldc2_w index, 3)) (hp : pc + 3 = pc') (r : Go p e below P (T.setTop (mkF m pc' ls (.long v :: st)))) : Go p e below P (T.setTop (mkF m pc ls st)) := by
  subst hp; exact own_go (fun t q => X.ldc2J hx hown (mvT hZ w) rfl (hb hby hd) q) r
/-! arithmetic -/
theorem own_iadd (pc' : Nat) (w : Int32) (X : Stand p l e R s m args below meth c T locs cells slots) (hx : p.tables.exec = Jvm.exec) (hby : c.code = bytes) {x y : Int32} (hd : decode bytes pc = .ok (.iadd, 1)) (hp : pc + 1 = pc') (hw : x + y = w) (r : Go p e below P (T.setTop (mkF m pc' ls (.int w :: st)))) : Go p e below P (T.setTop (mkF m pc ls (.int y :: .int x :: st))) := by
  subst hp hw; exact own_go (fun t q => XS.iadd X.here hx rfl (hb hby hd) rfl q) r
theorem own_isub (pc' : Nat) (w : Int32) (X : Stand p l e R s m args below meth c T locs cells slots) (hx : p.tables.exec = Jvm.exec) (hby : c.code = bytes) {x y : Int32} (hd : decode bytes pc = .ok (.isub, 1)) (hp : pc + 1 = pc') (hw : x - y = w) (r : Go p e below P (T.setTop (mkF m pc' ls (.int w :: st)))) : Go p e below P (T.setTop (mkF m pc ls (.int y :: .int x :: st))) := by
  subst hp hw; exact own_go (fun t q => XS.isub X.here hx rfl (hb hby hd) rfl q) r
theorem own_imul (pc' : Nat) (w : Int32) (X : Stand p l e R s m args below meth c T locs cells slots) (hx : p.tables.exec = Jvm.exec) (hby : c.code = bytes) {x y : Int32} (hd : decode bytes pc = .ok (.imul, 1)) (hp : pc + 1 = pc') (hw : x * y = w) (r : Go p e below P (T.setTop (mkF m pc' ls (.int w :: st)))) : Go p e below P (T.setTop (mkF m pc ls (.int y :: .int x :: st))) := by
  subst hp hw; exact own_go (fun t q => XS.imul X.here hx rfl (hb hby hd) rfl q) r
theorem own_idiv (pc' : Nat) (w : Int32) (X : Stand p l e R s m args below meth c T locs cells slots) (hx : p.tables.exec = Jvm.exec) (hby : c.code = bytes) {x y : Int32} (hd : decode bytes pc = .ok (.idiv, 1)) (hp : pc + 1 = pc') (hy : y ≠ 0) (hw : x / y = w) (r : Go p e below P (T.setTop (mkF m pc' ls (.int w :: st)))) : Go p e below P (T.setTop (mkF m pc ls (.int y :: .int x :: st))) := by
  subst hp hw; exact own_go (fun t q => XS.idiv X.here hx rfl (hb hby hd) rfl hy q) r
theorem own_irem (pc' : Nat) (w : Int32) (X : Stand p l e R s m args below meth c T locs cells slots) (hx : p.tables.exec = Jvm.exec) (hby : c.code = bytes) {x y : Int32} (hd : decode bytes pc = .ok (.irem, 1)) (hp : pc + 1 = pc') (hy : y ≠ 0) (hw : x % y = w) (r : Go p e below P (T.setTop (mkF m pc' ls (.int w :: st)))) : Go p e below P (T.setTop (mkF m pc ls (.int y :: .int x :: st))) := by
  subst hp hw; exact own_go (fun t q => iremM X hx rfl (hb hby hd) rfl hy q) r
theorem own_iand (pc' : Nat) (w : Int32) (X : Stand p l e R s m args below meth c T locs cells slots) (hx : p.tables.exec = Jvm.exec) (hby : c.code = bytes) {x y : Int32} (hd : decode bytes pc = .ok (.iand, 1)) (hp : pc + 1 = pc') (hw : x &&& y = w) (r : Go p e below P (T.setTop (mkF m pc' ls (.int w :: st)))) : Go p e below P (T.setTop (mkF m pc ls (.int y :: .int x :: st))) := by
  subst hp hw; exact own_go (fun t q => XS.iand X.here hx rfl (hb hby hd) rfl q) r
theorem own_ishr (pc' : Nat) (w : Int32) (X : Stand p l e R s m args below meth c T locs cells slots) (hx : p.tables.exec = Jvm.exec) (hby : c.code = bytes) {x y : Int32} (hd : decode bytes pc = .ok (.ishr, 1)) (hp : pc + 1 = pc') (hw : x >>> (y &&& 31) = w) (r : Go p e below P (T.setTop (mkF m pc' ls (.int w :: st)))) : Go p e below P (T.setTop (mkF m pc ls (.int y :: .int x :: st))) := by
  subst hp hw; exact own_go (fun t q => XT.ishr X.here hx rfl (hb hby hd) rfl q) r
theorem own_iushr (pc' : Nat) (w : Int32) (X : Stand p l e R s m args below meth c T locs cells slots) (hx : p.tables.exec = Jvm.exec) (hby : c.code = bytes) {x y : Int32} (hd : decode bytes pc = .ok (.iushr, 1)) (hp : pc + 1 = pc') (hw : XT.ushr x y = w) (r : Go p e below P (T.setTop (mkF m pc' ls (.int w :: st)))) : Go p e below P (T.setTop (mkF m pc ls (.int y :: .int x :: st))) := by
  subst hp hw; exact own_go (fun t q => XT.iushr X.here hx rfl (hb hby hd) rfl q) r
theorem own_ladd (pc' : Nat) (w : Int64) (X : Stand p l e R s m args below meth c T locs cells slots) (hx : p.tables.exec = Jvm.exec) (hby : c.code = bytes) {x y : Int64} (hd : decode bytes pc = .ok (.ladd, 1)) (hp : pc + 1 = pc') (hw : x + y = w) (r : Go p e below P (T.setTop (mkF m pc' ls (.long w :: st)))) : Go p e below P (T.setTop (mkF m pc ls (.long y :: .long x :: st))) := by
  subst hp hw; exact own_go (fun t q => XT.ladd X.here hx rfl (hb hby hd) rfl q) r
theorem own_lsub (pc' : Nat) (w : Int64) (X : Stand p l e R s m args below meth c T locs cells slots) (hx : p.tables.exec = Jvm.exec) (hby : c.code = bytes) {x y : Int64} (hd : decode bytes pc = .ok (.lsub, 1)) (hp : pc + 1 = pc') (hw : x - y = w) (r : Go p e below P (T.setTop (mkF m pc' ls (.long w :: st)))) : Go p e below P (T.setTop (mkF m pc ls (.long y :: .long x :: st))) := by
  subst hp hw; exact own_go (fun t q => XT.lsub X.here hx rfl (hb hby hd) rfl q) r
theorem own_lmul (pc' : Nat) (w : Int64) (X : Stand p l e R s m args below meth c T locs cells slots) (hx : p.tables.exec = Jvm.exec) (hby : c.code = bytes) {x y : Int64} (hd : decode bytes pc = .ok (.lmul, 1)) (hp : pc + 1 = pc') (hw : x * y = w) (r : Go p e below P (T.setTop (mkF m pc' ls (.long w :: st)))) : Go p e below P (T.setTop (mkF m pc ls (.long y :: .long x :: st))) := by
  subst hp hw; exact own_go (fun t q => XT.lmul X.here hx rfl (hb hby hd) rfl q) r
theorem own_ldiv (pc' : Nat) (w : Int64) (X : Stand p l e R s m args below meth c T locs cells slots) (hx : p.tables.exec = Jvm.exec) (hby : c.code = bytes) {x y : Int64} (hd : decode bytes pc = .ok (.ldiv, 1)) (hp : pc + 1 = pc') (hy : y ≠ 0) (hw : x / y = w) (r : Go p e below P (T.setTop (mkF m pc' ls (.long w :: st)))) : Go p e below P (T.setTop (mkF m pc ls (.long y :: .long x :: st))) := by
  subst hp hw; exact own_go (fun t q => XT.ldiv X.here hx rfl (hb hby hd) rfl hy q) r
theorem own_lrem (pc' : Nat) (w : Int64) (X : Stand p l e R s m args below meth c T locs cells slots) (hx : p.tables.exec = Jvm.exec) (hby : c.code = bytes) {x y : Int64} (hd : decode bytes pc = .ok (.lrem, 1)) (hp : pc + 1 = pc') (hy : y ≠ 0) (hw : x - (x / y) * y = w) (r : Go p e below P (T.setTop (mkF m pc' ls (.long w :: st)))) : Go p e below P (T.setTop (mkF m pc ls (.long y :: .long x :: st))) := by
  subst hp hw; exact own_go (fun t q => XT.lrem X.here hx rfl (hb hby hd) rfl hy q) r
theorem own_land (pc' : Nat) (w : Int64) (X : Stand p l e R s m args below meth c T locs cells slots) (hx : p.tables.exec = Jvm.exec) (hby : c.code = bytes) {x y : Int64} (hd : decode bytes pc = .ok (.land, 1)) (hp : pc + 1 = pc') (hw : x &&& y = w) (r : Go p e below P (T.setTop (mkF m pc' ls (.long w :: st)))) : Go p e below P (T.setTop (mkF m pc ls (.long y :: .long x :: st))) := by
  subst hp hw; exact own_go (fun t q => XT.land X.here hx rfl (hb hby hd) rfl q) r
theorem own_lushr (pc' : Nat) (w : Int64) (X : Stand p l e R s m args below meth c T locs cells slots) (hx : p.tables.exec = Jvm.exec) (hby : c.code = bytes) {x : Int64} {y : Int32} (hd : decode bytes pc = .ok (.lushr, 1)) (hp : pc + 1 = pc') (hw : XT.ushrL x y = w) (r : Go p e below P (T.setTop (mkF m pc' ls (.long w :: st)))) : Go p e below P (T.setTop (mkF m pc ls (.int y :: .long x :: st))) := by
  subst hp hw; exact own_go (fun t q => XT.lushr X.here hx rfl (hb hby hd) rfl q) r
theorem own_i2l (pc' : Nat) (w : Int64) (X : Stand p l e R s m args below meth c T locs cells slots) (hx : p.tables.exec = Jvm.exec) (hby : c.code = bytes) {x : Int32} (hd : decode bytes pc = .ok (.i2l, 1)) (hp : pc + 1 = pc') (hw : x.toInt64 = w) (r : Go p e below P (T.setTop (mkF m pc' ls (.long w :: st)))) : Go p e below P (T.setTop (mkF m pc ls (.int x :: st))) := by
  subst hp hw; exact own_go (fun t q => XT.i2l X.here hx rfl (hb hby hd) rfl q) r
theorem own_l2i (pc' : Nat) (w : Int32) (X : Stand p l e R s m args below meth c T locs cells slots) (hx : p.tables.exec = Jvm.exec) (hby : c.code = bytes) {x : Int64} (hd : decode bytes pc = .ok (.l2i, 1)) (hp : pc + 1 = pc') (hw : x.toInt32 = w) (r : Go p e below P (T.setTop (mkF m pc' ls (.int w :: st)))) : Go p e below P (T.setTop (mkF m pc ls (.long x :: st))) := by
  subst hp hw; exact own_go (fun t q => XT.l2i X.here hx rfl (hb hby hd) rfl q) r
theorem own_lcmp (pc' : Nat) (w : Int32) (X : Stand p l e R s m args below meth c T locs cells slots) (hx : p.tables.exec = Jvm.exec) (hby : c.code = bytes) {x y : Int64} (hd : decode bytes pc = .ok (.lcmp, 1)) (hp : pc + 1 = pc') (hw : XT.cmpL x y = w) (r : Go p e below P (T.setTop (mkF m pc' ls (.int w :: st)))) : Go p e below P (T.setTop (mkF m pc ls (.long y :: .long x :: st))) := by
  subst hp hw; exact own_go (fun t q => XT.lcmp X.here hx rfl (hb hby hd) rfl q) r
theorem own_iinc (pc' : Nat) (l' : Array Slot) (X : Stand p l e R s m args below meth c T locs cells slots) (hx : p.tables.exec = Jvm.exec) (hby : c.code = bytes) {k : Nat} {i : Int} {x : Int32} (hd : decode bytes pc = .ok (.iinc k i, 3)) (hp : pc + 3 = pc') (hl : ls[k]? = some (.val (.int x))) (hl' : storeLocals ls k (.int (x + Int32.ofInt i)) = some l') (r : Go p e below P (T.setTop (mkF m pc' l' st))) : Go p e below P (T.setTop (mkF m pc ls st)) := by
  subst hp; exact own_go (fun t q => XS.iinc X.here hx rfl (hb hby hd) hl hl' q) r
theorem own_dup (pc' : Nat) (X : Stand p l e R s m args below meth c T locs cells slots) (hx : p.tables.exec = Jvm.exec) (hby : c.code = bytes) {v : Value} (hd : decode bytes pc = .ok (.dup, 1)) (hp : pc + 1 = pc') (hc : v.category = 1) (r : Go p e below P (T.setTop (mkF m pc' ls (v :: v :: st)))) : Go p e below P (T.setTop (mkF m pc ls (v :: st))) := by
  subst hp; exact own_go (fun t q => XS.dup X.here hx rfl (hb hby hd) rfl hc q) r
theorem own_pop (pc' : Nat) (X : Stand p l e R s m args below meth c T locs cells slots) (hx : p.tables.exec = Jvm.exec) (hby : c.code = bytes) {v : Value} (hd : decode bytes pc = .ok (.pop, 1)) (hp : pc + 1 = pc') (hc : v.category = 1) (r : Go p e below P (T.setTop (mkF m pc' ls st))) : Go p e below P (T.setTop (mkF m pc ls (v :: st))) := by
  subst hp; exact own_go (fun t q => XT.pop X.here hx rfl (hb hby hd) rfl hc q) r
/-! branches -/
theorem own_goto (pc' : Nat) (X : Stand p l e R s m args below meth c T locs cells slots) (hx : p.tables.exec = Jvm.exec) (hby : c.code = bytes) {o : Int} (hd : decode bytes pc = .ok (.goto o, 3)) (ho : 0 ≤ (pc : Int) + o) (hp : ((pc : Int) + o).toNat = pc') (r : Go p e below P (T.setTop (mkF m pc' ls st))) : Go p e below P (T.setTop (mkF m pc ls st)) :=
  own_go (fun t q => XS.goto X.here hx rfl rfl (hb hby hd) ho hp q) r
theorem own_ifY (pc' : Nat) (X : Stand p l e R s m args below meth c T locs cells slots) (hx : p.tables.exec = Jvm.exec) (hby : c.code = bytes) {cd : ClassFile.Cond} {x : Int32} {o : Int} (hd : decode bytes pc = .ok (.ifCond cd o, 3)) (ho : 0 ≤ (pc : Int) + o) (hp : ((pc : Int) + o).toNat = pc') (hc : ifCond.holds cd x = true) (r : Go p e below P (T.setTop (mkF m pc' ls st))) : Go p e below P (T.setTop (mkF m pc ls (.int x :: st))) :=
  own_go (fun t q => XS.ifYes X.here hx rfl rfl (hb hby hd) rfl hc ho hp q) r
theorem own_ifN (pc' : Nat) (X : Stand p l e R s m args below meth c T locs cells slots) (hx : p.tables.exec = Jvm.exec) (hby : c.code = bytes) {cd : ClassFile.Cond} {x : Int32} {o : Int} (hd : decode bytes pc = .ok (.ifCond cd o, 3)) (hp : pc + 3 = pc') (hc : ifCond.holds cd x = false) (r : Go p e below P (T.setTop (mkF m pc' ls st))) : Go p e below P (T.setTop (mkF m pc ls (.int x :: st))) := by
  subst hp; exact own_go (fun t q => XS.ifNo X.here hx rfl (hb hby hd) rfl hc q) r
theorem own_icY (pc' : Nat) (X : Stand p l e R s m args below meth c T locs cells slots) (hx : p.tables.exec = Jvm.exec) (hby : c.code = bytes) {cd : ClassFile.Cond} {x y : Int32} {o : Int} (hd : decode bytes pc = .ok (.if_icmp cd o, 3)) (ho : 0 ≤ (pc : Int) + o) (hp : ((pc : Int) + o).toNat = pc') (hc : if_icmp.holds cd x y = true) (r : Go p e below P (T.setTop (mkF m pc' ls st))) : Go p e below P (T.setTop (mkF m pc ls (.int y :: .int x :: st))) :=
  own_go (fun t q => XS.icmpYes X.here hx rfl rfl (hb hby hd) rfl hc ho hp q) r
theorem own_icN (pc' : Nat) (X : Stand p l e R s m args below meth c T locs cells slots) (hx : p.tables.exec = Jvm.exec) (hby : c.code = bytes) {cd : ClassFile.Cond} {x y : Int32} {o : Int} (hd : decode bytes pc = .ok (.if_icmp cd o, 3)) (hp : pc + 3 = pc') (hc : if_icmp.holds cd x y = false) (r : Go p e below P (T.setTop (mkF m pc' ls st))) : Go p e below P (T.setTop (mkF m pc ls (.int y :: .int x :: st))) := by
  subst hp; exact own_go (fun t q => XS.icmpNo X.here hx rfl (hb hby hd) rfl hc q) r
theorem own_acmp (pc' : Nat) (same : Bool) (X : Stand p l e R s m args below meth c T locs cells slots) (hx : p.tables.exec = Jvm.exec) (hby : c.code = bytes) {cd : ACond} {x y : Value} {o : Int} (hd : decode bytes pc = .ok (.if_acmp cd o, 3)) (h1 : x.isRef = true) (h2 : y.isRef = true) (ho : 0 ≤ (pc : Int) + o) (hp : pc' = if acV cd same = true then ((pc : Int) + o).toNat else pc + 3) (hq : decide (x = y) = same) (r : Go p e below P (T.setTop (mkF m pc' ls st))) : Go p e below P (T.setTop (mkF m pc ls (y :: x :: st))) :=
  own_go (fun t q => Jvm.RoadKit.acmp X hx rfl h1 h2 rfl (hb hby hd) rfl hq ho hp q) r
theorem own_nullY (pc' : Nat) (X : Stand p l e R s m args below meth c T locs cells slots) (hx : p.tables.exec = Jvm.exec) (hby : c.code = bytes) {o : Int} (hd : decode bytes pc = .ok (.ifnull o, 3)) (ho : 0 ≤ (pc : Int) + o) (hp : ((pc : Int) + o).toNat = pc') (r : Go p e below P (T.setTop (mkF m pc' ls st))) : Go p e below P (T.setTop (mkF m pc ls (.null :: st))) :=
  own_go (fun t q => XS.ifnullYes X.here hx rfl rfl (hb hby hd) rfl ho hp q) r
theorem own_nullN (pc' : Nat) (X : Stand p l e R s m args below meth c T locs cells slots) (hx : p.tables.exec = Jvm.exec) (hby : c.code = bytes) {o : Int} {b : Addr} (hd : decode bytes pc = .ok (.ifnull o, 3)) (hp : pc + 3 = pc') (r : Go p e below P (T.setTop (mkF m pc' ls st))) : Go p e below P (T.setTop (mkF m pc ls (.ref b :: st))) := by
  subst hp; exact own_go (fun t q => XS.ifnullNo X.here hx rfl (hb hby hd) rfl q) r
theorem own_nnY (pc' : Nat) (X : Stand p l e R s m args below meth c T locs cells slots) (hx : p.tables.exec = Jvm.exec) (hby : c.code = bytes) {o : Int} {b : Addr} (hd : decode bytes pc = .ok (.ifnonnull o, 3)) (ho : 0 ≤ (pc : Int) + o) (hp : ((pc : Int) + o).toNat = pc') (r : Go p e below P (T.setTop (mkF m pc' ls st))) : Go p e below P (T.setTop (mkF m pc ls (.ref b :: st))) :=
  own_go (fun t q => XT.ifnonnullYes X.here hx rfl rfl (hb hby hd) rfl ho hp q) r
theorem own_nnN (pc' : Nat) (X : Stand p l e R s m args below meth c T locs cells slots) (hx : p.tables.exec = Jvm.exec) (hby : c.code = bytes) {o : Int} (hd : decode bytes pc = .ok (.ifnonnull o, 3)) (hp : pc + 3 = pc') (r : Go p e below P (T.setTop (mkF m pc' ls st))) : Go p e below P (T.setTop (mkF m pc ls (.null :: st))) := by
  subst hp; exact own_go (fun t q => XT.ifnonnullNo X.here hx rfl (hb hby hd) rfl q) r
/-! what lcmp and a branch behind it say -/
theorem own_tltL {x y : Int64} (h : x < y) : ifCond.holds .lt (XT.cmpL x y) = true ∧ ifCond.holds .ge (XT.cmpL x y) = false ∧ ifCond.holds .gt (XT.cmpL y x) = true ∧ ifCond.holds .le (XT.cmpL y x) = false := by
  have h1 : ¬ y < x := fun q => absurd h (Int64.lt_asymm q)
  have h2 : ¬ x = y := fun q => absurd (q ▸ h) Int64.lt_irrefl
  have h3 : ¬ y = x := fun q => h2 q.symm
  simp only [XT.cmpL, h, h1, h2, h3, if_true, if_false]
  decide
theorem own_fltL {x y : Int64} (h : ¬ x < y) : ifCond.holds .lt (XT.cmpL x y) = false ∧ ifCond.holds .ge (XT.cmpL x y) = true ∧ ifCond.holds .gt (XT.cmpL y x) = false ∧ ifCond.holds .le (XT.cmpL y x) = true := by
  by_cases q : x = y
  · subst q
    simp only [XT.cmpL, h, if_true, if_false]
    decide
  · have h1 : y < x := by
      rw [Int64.lt_iff_toInt_lt] at h ⊢
      have : x.toInt ≠ y.toInt := fun z => q (Int64.toInt_inj.mp z)
      omega
    have h3 : ¬ y = x := fun z => q z.symm
    simp only [XT.cmpL, h, h1, q, h3, if_true, if_false]
    decide
theorem own_teqL {x y : Int64} (h : x = y) : ifCond.holds .eq (XT.cmpL x y) = true ∧ ifCond.holds .ne (XT.cmpL x y) = false := by
  subst h
  simp only [XT.cmpL, Int64.lt_irrefl, if_true, if_false]
  decide
theorem own_feqL {x y : Int64} (h : ¬ x = y) : ifCond.holds .eq (XT.cmpL x y) = false ∧ ifCond.holds .ne (XT.cmpL x y) = true := by
  by_cases q : y < x
  · simp only [XT.cmpL, q, if_true]
    decide
  · simp only [XT.cmpL, q, h, if_false]
    decide
/-! fields, statics -/
theorem own_getS (pc' : Nat) (X : Stand p l e R s m args below meth c T locs cells slots) (hx : p.tables.exec = Jvm.exec) (hby : c.code = bytes) (hZ : Z.Warmed39 s.vm) {own O n d : String} {index : Nat} (hown : s.vm.findClass own = some m.cls) (w : (Cond.fieldLink own index O n d).before a0 Z = true) (eT : T.heap = h) {v : Value} (F : Sta Z h O n d v) (hd : decode bytes pc = .ok (.getstatic index, 3)) (hp : pc + 3 = pc')
    (r : ∀ T', Stand p l e R s m args below meth c T' locs cells slots → T'.heap = h → Go p e below P (T'.setTop (mkF m pc' ls (v :: st)))) : Go p e below P (T.setTop (mkF m pc ls st)) := by
  subst hp
  obtain ⟨T', X', e', q⟩ := getS2 X hx hZ hown (host := "") (Or.inl w) Via.refl eT F (g := mkF m pc ls st) rfl (hb hby hd)
  exact own_go q (r T' X' e')
theorem own_getSN (pc' : Nat) (X : Stand p l e R s m args below meth c T locs cells slots) (hx : p.tables.exec = Jvm.exec) (hby : c.code = bytes) (hZ : Z.Warmed39 s.vm) {own O n d host : String} {index : Nat} (hown : s.vm.findClass own = some m.cls) (w : (Cond.fieldLinkNest own index O n d host).before a0 Z = true) (eT : T.heap = h) {v : Value} (F : Sta Z h O n d v) (hd : decode bytes pc = .ok (.getstatic index, 3)) (hp : pc + 3 = pc')
    (r : ∀ T', Stand p l e R s m args below meth c T' locs cells slots → T'.heap = h → Go p e below P (T'.setTop (mkF m pc' ls (v :: st)))) : Go p e below P (T.setTop (mkF m pc ls st)) := by
  subst hp
  obtain ⟨T', X', e', q⟩ := getS2 X hx hZ hown (Or.inr w) Via.refl eT F (g := mkF m pc ls st) rfl (hb hby hd)
  exact own_go q (r T' X' e')
theorem own_getF (pc' : Nat) (X : Stand p l e R s m args below meth c T locs cells slots) (hx : p.tables.exec = Jvm.exec) (hby : c.code = bytes) (hZ : Z.Warmed39 s.vm) {own O n d : String} {index : Nat} (hown : s.vm.findClass own = some m.cls) (w : (Cond.fieldLink own index O n d).before a0 Z = true) (eT : T.heap = h) {a : Addr} {v : Value} (F : Fld Z h a O n d v) (hd : decode bytes pc = .ok (.getfield index, 3)) (hp : pc + 3 = pc')
    (r : ∀ T', Stand p l e R s m args below meth c T' locs cells slots → T'.heap = h → Go p e below P (T'.setTop (mkF m pc' ls (v :: st)))) : Go p e below P (T.setTop (mkF m pc ls (.ref a :: st))) := by
  subst hp
  obtain ⟨T', X', e', q⟩ := getF X hx hZ hown (host := "") (Or.inl w) Via.refl eT F (g := mkF m pc ls (.ref a :: st)) rfl rfl (hb hby hd)
  exact own_go q (r T' X' e')
/-! arrays -/
theorem own_n0 {n0 : Nat} (O : Old Z n0 h) : n0 ≤ h.size := O.1 ▸ O.2.1
theorem own_newR (pc' : Nat) (N : Nat) (X : Stand p l e R s m args below meth c T locs cells slots) (hx : p.tables.exec = Jvm.exec) (hby : c.code = bytes) (hZ : Z.Warmed39 s.vm) {own C : String} {index : Nat} (hown : s.vm.findClass own = some m.cls) (w1 : (Cond.classLink own index C).before a0 Z = true) (w2 : (Cond.arrayOver (.object C)).before a0 Z = true) (eT : T.heap = h)
    (hd : decode bytes pc = .ok (.anewarray index, 3)) (hp : pc + 3 = pc') {n : Int32} (hn : ¬ n < 0) (hcap : n.toNatClampNeg ≤ N) (hbig : N * 8 ≤ 536870912) (hc : cells + 1 ≤ R.cells) (hl : slots + N ≤ R.slots)
    (r : ∀ T' h' cA b, Stand p l e R s m args below meth c T' locs (cells + 1) (slots + N) → T'.heap = h' → Ext h h' → b = h.size → Arv Z h' b cA (.object C) n (List.replicate N .null) .null → Ovr Z cA C → Go p e below P (T'.setTop (mkF m pc' ls (.ref b :: st)))) : Go p e below P (T.setTop (mkF m pc ls (.int n :: st))) := by
  subst hp
  obtain ⟨T', h', cA, X', e', E', A', O', q⟩ := newR X hx hZ hown w1 w2 eT (g := mkF m pc ls (.int n :: st)) rfl (hb hby hd) rfl hn hcap hbig hc hl
  exact own_go q (r T' h' cA h.size X' e' E' rfl ((Arv.new A' hn).pad (pad_rep [] .null N)) O')
theorem own_newP (pc' : Nat) (N : Nat) {aty : ArrayType} (X : Stand p l e R s m args below meth c T locs cells slots) (hx : p.tables.exec = Jvm.exec) (hby : c.code = bytes) (hZ : Z.Warmed39 s.vm) (w : (Cond.arrayClass (newarray.typeOf aty)).before a0 Z = true) (eT : T.heap = h)
    (hd : decode bytes pc = .ok (.newarray aty, 2)) (hp : pc + 2 = pc') {n : Int32} (hn : ¬ n < 0) (hcap : n.toNatClampNeg ≤ N) (hbig : N * 8 ≤ 536870912) (hc : cells + 1 ≤ R.cells) (hl : slots + N ≤ R.slots)
    (r : ∀ T' h' cA b, Stand p l e R s m args below meth c T' locs (cells + 1) (slots + N) → T'.heap = h' → Ext h h' → b = h.size → Arv Z h' b cA (newarray.typeOf aty) n (List.replicate N (defaultValue (newarray.typeOf aty))) (defaultValue (newarray.typeOf aty)) → Go p e below P (T'.setTop (mkF m pc' ls (.ref b :: st)))) : Go p e below P (T.setTop (mkF m pc ls (.int n :: st))) := by
  subst hp
  obtain ⟨T', h', cA, X', e', E', A', q⟩ := newP X hx hZ w eT (g := mkF m pc ls (.int n :: st)) rfl (hb hby hd) rfl hn hcap hbig hc hl
  exact own_go q (r T' h' cA h.size X' e' E' rfl ((Arv.new A' hn).pad (pad_rep [] _ N)))
theorem own_stR (pc' : Nat) (i : Nat) (X : Stand p l e R s m args below meth c T locs cells slots) (hx : p.tables.exec = Jvm.exec) (hby : c.code = bytes) (hZ : Z.Warmed39 s.vm) (eT : T.heap = h) {a y : Addr} {cA : ClassId} {C : String} {n j : Int32} {vs : List Value} (V : Arv Z h a cA (.object C) n vs .null) (O : Ovr Z cA C) (I : Ins Z h y C true)
    (hd : decode bytes pc = .ok (.aastore, 1)) (hp : pc + 1 = pc') (hj : ¬ j < 0 ∧ j < n) (hi : j.toNatClampNeg = i) (hv : i < vs.length)
    (r : ∀ T' h', Stand p l e R s m args below meth c T' (locs ++ [⟨a, j.toNatClampNeg⟩]) cells slots → T'.heap = h' → Wr h h' a j.toNatClampNeg (.ref y) → Arv Z h' a cA (.object C) n (vs.set i (.ref y)) .null → Go p e below P (T'.setTop (mkF m pc' ls st))) : Go p e below P (T.setTop (mkF m pc ls (.ref y :: .int j :: .ref a :: st))) := by
  subst hp
  obtain ⟨cl, A, q1, S, q3, H, G⟩ := V
  obtain ⟨T', h', X', e', W', q⟩ := stR X hx hZ eT A (j := j) (inb_of S hj) rfl (Sto.ofV A q1 O I) (g := mkF m pc ls (.ref y :: .int j :: .ref a :: st)) rfl rfl (hb hby hd)
  exact own_go q (r T' h' X' e' W' (Arv.set A q1 S q3 H G rfl W' i hi hv))
theorem own_stZ (pc' : Nat) (i : Nat) (X : Stand p l e R s m args below meth c T locs cells slots) (hx : p.tables.exec = Jvm.exec) (hby : c.code = bytes) (hZ : Z.Warmed39 s.vm) (eT : T.heap = h) {a : Addr} {cA : ClassId} {n j x : Int32} {vs : List Value} {dv : Value} (V : Arv Z h a cA .boolean n vs dv)
    (hd : decode bytes pc = .ok (.bastore, 1)) (hp : pc + 1 = pc') (hj : ¬ j < 0 ∧ j < n) (hi : j.toNatClampNeg = i) (hv : i < vs.length) (hx1 : nar .boolean x = x)
    (r : ∀ T' h', Stand p l e R s m args below meth c T' (locs ++ [⟨a, j.toNatClampNeg⟩]) cells slots → T'.heap = h' → Wr h h' a j.toNatClampNeg (.int x) → Arv Z h' a cA .boolean n (vs.set i (.int x)) dv → Go p e below P (T'.setTop (mkF m pc' ls st))) : Go p e below P (T.setTop (mkF m pc ls (.int x :: .int j :: .ref a :: st))) := by
  subst hp
  obtain ⟨cl, A, q1, S, q3, H, G⟩ := V
  obtain ⟨T', h', X', e', W', q⟩ := stZ X hx hZ eT A (j := j) (x := x) (inb_of S hj) (g := mkF m pc ls (.int x :: .int j :: .ref a :: st)) rfl rfl (hb hby hd)
  rw [hx1] at W'
  exact own_go q (r T' h' X' e' W' (Arv.set A q1 S q3 H G (hx1 ▸ fits_nar_bool x) W' i hi hv))
theorem own_aaload (pc' : Nat) (v : Value) (X : Stand p l e R s m args below meth c T locs cells slots) (hx : p.tables.exec = Jvm.exec) (hby : c.code = bytes) (hZ : Z.Warmed39 s.vm) (eT : T.heap = h) {a : Addr} {cA : ClassId} {ty : FieldType} {n j : Int32} {vs : List Value} {dv : Value} (V : Arv Z h a cA ty n vs dv) (hty : ty.isReference = true)
    (hd : decode bytes pc = .ok (.aaload, 1)) (hp : pc + 1 = pc') (hj : ¬ j < 0 ∧ j < n) (hv : vs.getD j.toNatClampNeg dv = v)
    (r : Go p e below P (T.setTop (mkF m pc' ls (v :: st)))) : Go p e below P (T.setTop (mkF m pc ls (.int j :: .ref a :: st))) := by
  subst hp
  obtain ⟨cl, A, q1, S, q3, H, G⟩ := V
  exact own_go (fun t q => X.aaload hx (j := j) (v := v) (by rw [eT]; exact A.1) (State.isArrayOf_alike hZ.alike A.2.1) hty A.2.2 (inb_of S hj) (H.at (inb_of S hj) hv) (g := mkF m pc ls (.int j :: .ref a :: st)) rfl rfl (hb hby hd) t q) r
theorem own_zaload (pc' : Nat) (v : Value) (X : Stand p l e R s m args below meth c T locs cells slots) (hx : p.tables.exec = Jvm.exec) (hby : c.code = bytes) (hZ : Z.Warmed39 s.vm) (eT : T.heap = h) {a : Addr} {cA : ClassId} {n j : Int32} {vs : List Value} {dv : Value} (V : Arv Z h a cA .boolean n vs dv)
    (hd : decode bytes pc = .ok (.baload, 1)) (hp : pc + 1 = pc') (hj : ¬ j < 0 ∧ j < n) (hv : vs.getD j.toNatClampNeg dv = v)
    (r : Go p e below P (T.setTop (mkF m pc' ls (v :: st)))) : Go p e below P (T.setTop (mkF m pc ls (.int j :: .ref a :: st))) := by
  subst hp
  obtain ⟨cl, A, q1, S, q3, H, G⟩ := V
  exact own_go (fun t q => X.baloadBooleans hx (j := j) (v := v) (by rw [eT]; exact A.1) (State.isArrayOf_alike hZ.alike A.2.1) A.2.2 (inb_of S hj) (H.at (inb_of S hj) hv) (g := mkF m pc ls (.int j :: .ref a :: st)) rfl rfl (hb hby hd) t q) r
theorem own_len (pc' : Nat) (X : Stand p l e R s m args below meth c T locs cells slots) (hx : p.tables.exec = Jvm.exec) (hby : c.code = bytes) (hZ : Z.Warmed39 s.vm) (eT : T.heap = h) {a : Addr} {cA : ClassId} {ty : FieldType} {n : Int32} {vs : List Value} {dv : Value} (V : Arv Z h a cA ty n vs dv)
    (hd : decode bytes pc = .ok (.arraylength, 1)) (hp : pc + 1 = pc')
    (r : Go p e below P (T.setTop (mkF m pc' ls (.int n :: st)))) : Go p e below P (T.setTop (mkF m pc ls (.ref a :: st))) := by
  subst hp
  obtain ⟨cl, A, q1, S, q3, H, G⟩ := V
  rw [← len_of S q3] at r
  exact own_go (fun t q => X.arraylength hx (by rw [eT]; exact A.1) (State.isArrayOf_alike hZ.alike A.2.1) (g := mkF m pc ls (.ref a :: st)) rfl rfl (hb hby hd) t q) r
/-! calls -/
theorem own_callS (pc' : Nat) {h : Heap} {as' : Array Value} {rm : Room} {Q : Option Value → Heap → List Loc → Prop} {y : MethodName} {code' : ByteArray} {maxL : Nat} {ret' : Option FieldType}
    (hM : MetFree l y (head1 [Cond.code y code' maxL ret'] rm) (fun a U => a = as' ∧ Z.Warmed39 U.vm ∧ U.heap = h) (fun _ _ _ _ _ => True) (fun _ U o U' => ∃ v L, o = .returned v ∧ Q v U'.heap L ∧ FrameEnd U o U' L rm.cells rm.slots))
    (X : Stand p l e R s m args below meth c T locs cells slots) (hx : p.tables.exec = Jvm.exec) (hby : c.code = bytes) (hZ : Z.Warmed39 s.vm) {own : String} {index W : Nat} (hown : s.vm.findClass own = some m.cls)
    (w1 : (Cond.methodLink own index y).before a0 Z = true) (w2 : (Cond.static y).before a0 Z = true) (w3 : (Cond.initialized y.cls).before a0 Z = true) (w4 : (Cond.code y code' maxL ret').before a0 Z = true)
    (hy : y.cls ≠ "java/lang/invoke/MethodHandle" ∧ y.cls ≠ "java/lang/invoke/VarHandle") (hsz : ls.size = c.maxLocals) (argsL rest : List Value) {ps : List FieldType} {rt : Option FieldType} (hps : parseMethodDescriptor y.desc = some ⟨ps, rt⟩) (hlen : argsL.length = ps.length)
    (hd : decode bytes pc = .ok (.invokestatic index, 3)) (hp : pc + 3 = pc') (eT : T.heap = h) (hst : st = argsL.reverse ++ rest) (has : argsL.toArray = as') (hW : (rest.map fun v => v.category).sum = W)
    (hf : rm.frames + 1 ≤ R.frames) (hl : W + (maxL + 11) + rm.locals ≤ R.locals) (hc : cells + rm.cells ≤ R.cells) (hs : slots + rm.slots ≤ R.slots)
    (r : ∀ v T' L, Stand p l e R s m args below meth c T' (locs ++ L) (cells + rm.cells) (slots + rm.slots) → Q v T'.heap L → Go p e below P (T'.setTop (mkF m pc' ls (v.toList ++ rest)))) : Go p e below P (T.setTop (mkF m pc ls st)) := by
  subst hp
  obtain ⟨v, _, ⟨T', L', k', n'⟩, -, X', ⟨L, hQ, l1, l2, l3⟩, q⟩ := Jvm.LawKit.callS X hx hown (mvT hZ w1) (mvT hZ w2) (mvT hZ w3) (mvT hZ w4) hy (backOf (W := W) hM hZ w4 w3 hf hl) (g := mkF m pc ls st) rfl hsz (argsL := argsL) (rest := rest) (lenOf hps hlen) hst (by show 2 * 0 + _ ≤ _; omega) (hb hby hd) (fun _ _ => ⟨has, eT, hc, hs⟩)
  dsimp only [Pt.U, Pt.locs, Pt.cells, Pt.slots] at X' l1 l2 l3 q hQ
  subst l1 l2 l3
  exact own_go q (r v T' L X' hQ)
theorem own_virt (pc' : Nat) {h : Heap} {as' : Array Value} {rm : Room} {Q : Option Value → Heap → List Loc → Prop} {y z : MethodName} {code' : ByteArray} {maxL : Nat} {ret' : Option FieldType}
    (hM : MetFree l z (head1 [Cond.code z code' maxL ret'] rm) (fun a U => a = as' ∧ Z.Warmed39 U.vm ∧ U.heap = h) (fun _ _ _ _ _ => True) (fun _ U o U' => ∃ v L, o = .returned v ∧ Q v U'.heap L ∧ FrameEnd U o U' L rm.cells rm.slots))
    (X : Stand p l e R s m args below meth c T locs cells slots) (hx : p.tables.exec = Jvm.exec) (hby : c.code = bytes) (hZ : Z.Warmed39 s.vm) {own C : String} {index W : Nat} (hown : s.vm.findClass own = some m.cls)
    (w1 : (Cond.methodLink own index y).before a0 Z = true) (w2 : (Cond.declares y).before a0 Z = true) (nf : NotFace s y) (w3 : (Cond.selects C y z).before a0 Z = true) (w4 : (Cond.instanceMethod z).before a0 Z = true) (w5 : (Cond.initialized z.cls).before a0 Z = true) (w6 : (Cond.code z code' maxL ret').before a0 Z = true)
    (hy : y.cls ≠ "java/lang/invoke/MethodHandle" ∧ y.cls ≠ "java/lang/invoke/VarHandle") (hsz : ls.size = c.maxLocals) (b : Addr) (argsL rest : List Value) {ps : List FieldType} {rt : Option FieldType} (hps : parseMethodDescriptor y.desc = some ⟨ps, rt⟩) (hlen : argsL.length = ps.length)
    (hd : decode bytes pc = .ok (.invokevirtual index, 3)) (hp : pc + 3 = pc') (eT : T.heap = h) (E : Exa Z h b C) (hst : st = argsL.reverse ++ .ref b :: rest) (has : (.ref b :: argsL).toArray = as') (hW : (rest.map fun v => v.category).sum = W)
    (hf : rm.frames + 1 ≤ R.frames) (hl : W + (maxL + 11) + rm.locals ≤ R.locals) (hc : cells + rm.cells ≤ R.cells) (hs : slots + rm.slots ≤ R.slots)
    (r : ∀ v T' L, Stand p l e R s m args below meth c T' (locs ++ L) (cells + rm.cells) (slots + rm.slots) → Q v T'.heap L → Go p e below P (T'.setTop (mkF m pc' ls (v.toList ++ rest)))) : Go p e below P (T.setTop (mkF m pc ls st)) := by
  subst hp
  obtain ⟨cq, kq, q1, q2, q3⟩ := isOf (s := s) (T := T) hZ eT E
  obtain ⟨v, _, ⟨T', L', k', n'⟩, -, X', ⟨L, hQ, l1, l2, l3⟩, q⟩ := X.virtualBack hx hown (mvT hZ w1) (mvT hZ w2) nf (mvT hZ w3) (mvT hZ w4) hy (backOf (W := W) hM hZ w6 w5 hf hl) q1 q3 (g := mkF m pc ls st) rfl hsz (Steps.refl _) (argsL := argsL) (rest := rest) (lenOf hps hlen) hst (by show 2 * 0 + _ ≤ _; omega) (hb hby hd) (fun _ _ => ⟨has, eT, hc, hs⟩)
  dsimp only [Pt.U, Pt.locs, Pt.cells, Pt.slots] at X' l1 l2 l3 q hQ
  subst l1 l2 l3
  exact own_go (fun t k => q.trans k) (r v T' L X' hQ)
/-! the end of a walk -/
theorem own_ret {Q : Option Value → Heap → List Loc → Prop} {K N : Nat} {t : FieldType} {w : Value} {i : Instr} (X : Stand p l e R s m args below meth c T locs cells slots) (hx : p.tables.exec = Jvm.exec) (hby : c.code = bytes) (hret : meth.sig.returnType = some t) (hlocks : meth.locks = false)
    (hd : decode bytes pc = .ok (i, 1)) (hn : narrow t w = w)
    (hi : (i = .ireturn ∧ (t = .int ∨ t = .boolean ∨ t = .byte ∨ t = .char ∨ t = .short) ∧ ∃ z, w = .int z) ∨ (i = .lreturn ∧ t = .long ∧ ∃ z, w = .long z) ∨ (i = .dreturn ∧ t = .double ∧ ∃ z, w = .double z) ∨ (i = .freturn ∧ t = .float ∧ ∃ z, w = .float z) ∨ (i = .areturn ∧ t.isReference = true ∧ w.isRef = true))
    (hK : cells ≤ K) (hN : slots ≤ N) (hQ : Q (some w) T.heap locs) :
    Go p e below (fun s₂ o => s₂.status = .running ∧ Ended s₂ below o ∧ ∃ v L, o = .returned v ∧ Q v s₂.heap L ∧ FrameEnd s o s₂ L K N) (T.setTop (mkF m pc ls (w :: st))) := by
  obtain ⟨fs, hr, hrun, hended, hW, hsame⟩ := X.leave (v := some w) (fun h => by rw [hret] at h; cases h) hlocks
  exact ⟨_, _, retOut X hx hret hn hi (hb hby hd) hr, hrun, hended, _, _, rfl, hQ, ⟨_, rfl⟩, hW, hsame.mono hK hN⟩
theorem own_ret0 {Q : Option Value → Heap → List Loc → Prop} {K N : Nat} (X : Stand p l e R s m args below meth c T locs cells slots) (hx : p.tables.exec = Jvm.exec) (hby : c.code = bytes) (hret : meth.sig.returnType = none) (hlocks : meth.locks = false)
    (hd : decode bytes pc = .ok (.return_, 1)) (hK : cells ≤ K) (hN : slots ≤ N) (hQ : Q none T.heap locs) :
    Go p e below (fun s₂ o => s₂.status = .running ∧ Ended s₂ below o ∧ ∃ v L, o = .returned v ∧ Q v s₂.heap L ∧ FrameEnd s o s₂ L K N) (T.setTop (mkF m pc ls [])) := by
  obtain ⟨fs, hr, hrun, hended, hW, hsame⟩ := X.leave (v := none) (fun _ => rfl) hlocks
  exact ⟨_, _, X.returnOut hx hret (hb hby hd) hr, hrun, hended, _, _, rfl, hQ, ⟨_, rfl⟩, hW, hsame.mono hK hN⟩
/-! the case's words -/
theorem own_fld {Z : State} {args : Array Value} {t : Term} {C n d : String} {v : Int32} {x : Addr} (h : (Cond.eq (Term.field t C n d) (Term.int v)).value args Z none Z [] = some true) (ht : t.eval args Z none [] Z = some (.ref x)) : Fld Z Z.heap x C n d (.int v) :=
  Fld.start ((fld_at ht).symm.trans (eqv_i (Term.int_eval v) h))
theorem own_fldN {Z : State} {args : Array Value} {t : Term} {C n d : String} {x : Addr} (h : (Cond.eq (Term.field t C n d) Term.null).value args Z none Z [] = some true) (ht : t.eval args Z none [] Z = some (.ref x)) : Fld Z Z.heap x C n d .null :=
  Fld.start ((fld_at ht).symm.trans (null_v h))
theorem own_eqvR {Z : State} {args : Array Value} {X F : Term} {y : Addr} (hF : F.eval args Z none [] Z = some (.ref y)) (h : (Cond.eq X F).value args Z none Z [] = some true) : X.eval args Z none [] Z = some (.ref y) := by
  obtain ⟨x, y', e1, e2, k1, k2⟩ := cmp_v (Or.inl h)
  cases hF.symm.trans e2
  have hx : x.isRef = true := k2.2
  exact e1.trans (congrArg some (gotT (eq_R e1 hF hx rfl) h))
theorem own_fldR {Z : State} {args : Array Value} {t F : Term} {C n d : String} {x y : Addr} (h : (Cond.eq (Term.field t C n d) F).value args Z none Z [] = some true) (ht : t.eval args Z none [] Z = some (.ref x)) (hF : F.eval args Z none [] Z = some (.ref y)) : Fld Z Z.heap x C n d (.ref y) :=
  Fld.start ((fld_at ht).symm.trans (own_eqvR hF h))
theorem own_len_at {Z : State} {args : Array Value} {t : Term} {z : Int32} {a : Addr} {cl : Cell} (h : (Term.length t).eval args Z none [] Z = some (.int z)) (ht : t.eval args Z none [] Z = some (.ref a)) (ha : Z.arrayAt? a = some cl) : cl.slots.size < 2 ^ 31 ∧ cl.slots.size.toInt32 = z := by
  by_cases q : cl.slots.size < 2 ^ 31
  · refine ⟨q, ?_⟩
    rw [len_f ht ha q] at h
    exact Value.int.inj (Option.some.inj h)
  · exfalso
    simp [Term.eval, ht, ha, q] at h
/-- what a callee that writes nothing leaves -/
def own_Q (r : Option Value) (n0 : Nat) (h0 : Heap) (v : Option Value) (h : Heap) (L : List Loc) : Prop := v = r ∧ Fr n0 L ∧ h = h0
/-- what the law leaves -/
def own_Q1 (n0 : Nat) (v : Option Value) (h : Heap) (L : List Loc) : Prop := v = some (.int 1) ∧ Fr n0 L
end Own
section Own2
variable {p : Program} {l : Launch} {e : Env} {R : Room} {s : State} {m : MethodId} {args : Array Value} {below : List Frame} {meth : Method} {c : Code} {T : State} {locs : List Loc} {cells slots : Nat} {P : State → Outcome → Prop} {pc : Nat} {ls : Array Slot} {st : List Value} {Z : State} {a0 : Array Value} {h : Heap} {bytes : ByteArray}
/-! objects -/
theorem own_new (pc' : Nat) (k : Nat) (X : Stand p l e R s m args below meth c T locs cells slots) (hx : p.tables.exec = Jvm.exec) (hby : c.code = bytes) (hZ : Z.Warmed39 s.vm) {own C : String} {index : Nat} (hown : s.vm.findClass own = some m.cls) (w : (Cond.classLink own index C).before a0 Z = true) (wi : (Cond.instantiable C k).before a0 Z = true) (wz : (Cond.initialized C).before a0 Z = true) (eT : T.heap = h)
    (hd : decode bytes pc = .ok (.new index, 3)) (hp : pc + 3 = pc') (hc : cells + 1 ≤ R.cells) (hl : slots + k ≤ R.slots)
    (r : ∀ T' h' b, Stand p l e R s m args below meth c T' locs (cells + 1) (slots + k) → T'.heap = h' → Ext h h' → b = h.size → Exa Z h' b C → (∀ {O nm d : String} {ty : FieldType}, Laid Z a0 C O nm d → parseFieldDescriptor d = some ty → Fld Z h' b O nm d (defaultValue ty)) → Go p e below P (T'.setTop (mkF m pc' ls (.ref b :: st)))) : Go p e below P (T.setTop (mkF m pc ls st)) := by
  subst hp
  obtain ⟨T', h', X', e', E', A', D', -, q⟩ := newO X hx hZ hown w wi wz eT (g := mkF m pc ls st) rfl (hb hby hd) hc hl
  exact own_go q (r T' h' h.size X' e' E' rfl A' D')
theorem own_putF (pc' : Nat) (X : Stand p l e R s m args below meth c T locs cells slots) (hx : p.tables.exec = Jvm.exec) (hby : c.code = bytes) (hZ : Z.Warmed39 s.vm) {own O n d C : String} {index kk : Nat} (ty : FieldType) (hown : s.vm.findClass own = some m.cls) (w : (Cond.fieldLink own index O n d).before a0 Z = true) (eT : T.heap = h) {a : Addr} {v old : Value} (F : Fld Z h a O n d old) (E : Exa Z h a C) (L : (Cond.lays C O n d).before a0 Z = true ∨ ((Cond.laysFinal C O n d).before a0 Z = true ∧ own = O ∧ meth.name = "<init>")) (wi : (Cond.instantiable C kk).before a0 Z = true)
    (hty : parseFieldDescriptor d = some ty) (hn : narrow ty v = v) (hf : fits ty v = true) (hd : decode bytes pc = .ok (.putfield index, 3)) (hp : pc + 3 = pc')
    (r : ∀ T' h', Stand p l e R s m args below meth c T' (locs ++ [⟨a, Jvm.RoadKit.slotOf Z O n d⟩]) cells slots → T'.heap = h' → Wr h h' a (Jvm.RoadKit.slotOf Z O n d) v → Go p e below P (T'.setTop (mkF m pc' ls st))) : Go p e below P (T.setTop (mkF m pc ls (v :: .ref a :: st))) := by
  subst hp
  obtain ⟨T', h', X', e', W', q⟩ := putF X hx hZ hown (host := "") (Or.inl w) Via.refl eT F E L wi hty hn hf (g := mkF m pc ls (v :: .ref a :: st)) rfl rfl (hb hby hd)
  exact own_go q (r T' h' X' e' W')
theorem own_initO (pc' : Nat) (W : Nat) (X : Stand p l e R s m args below meth c T locs cells slots) (hx : p.tables.exec = Jvm.exec) (hby : c.code = bytes) (hZ : Z.Warmed39 s.vm) {own : String} {idx : Nat} (hown : s.vm.findClass own = some m.cls) (w1 : (Cond.methodLink own idx Lib.objectInit).before a0 Z = true) (w2 : (Cond.instanceMethod Lib.objectInit).before a0 Z = true)
    (w3 : (Cond.code Lib.objectInit object_method_1_code 1 none).before a0 Z = true) (hsz : ls.size = c.maxLocals) {a : Addr} (hd : decode bytes pc = .ok (.invokespecial idx, 3)) (hp : pc + 3 = pc') (eT : T.heap = h) (hW : (st.map fun v => v.category).sum = W) (hf : 1 ≤ R.frames) (hl : W + 12 ≤ R.locals)
    (r : ∀ T', Stand p l e R s m args below meth c T' locs cells slots → T'.heap = h → Go p e below P (T'.setTop (mkF m pc' ls st))) : Go p e below P (T.setTop (mkF m pc ls (.ref a :: st))) := by
  subst hp
  obtain ⟨T', X', e', q⟩ := initO X hx hZ hown w1 w2 w3 eT (g := mkF m pc ls (.ref a :: st)) rfl hsz rfl (hb hby hd) hf (W := W) (by show 2 * 0 + _ ≤ _; omega) hl
  exact own_go q (r T' X' e')
theorem own_cast (pc' : Nat) (X : Stand p l e R s m args below meth c T locs cells slots) (hx : p.tables.exec = Jvm.exec) (hby : c.code = bytes) (hZ : Z.Warmed39 s.vm) {own K : String} {index : Nat} (hown : s.vm.findClass own = some m.cls) (w : (Cond.classLink own index K).before a0 Z = true) (eT : T.heap = h) {a : Addr} (F : Ins Z h a K true) (hd : decode bytes pc = .ok (.checkcast index, 3)) (hp : pc + 3 = pc')
    (r : ∀ T', Stand p l e R s m args below meth c T' locs cells slots → T'.heap = h → Go p e below P (T'.setTop (mkF m pc' ls (.ref a :: st)))) : Go p e below P (T.setTop (mkF m pc ls (.ref a :: st))) := by
  subst hp
  obtain ⟨T', X', e', q⟩ := castY X hx hZ hown w eT F (g := mkF m pc ls (.ref a :: st)) rfl rfl (hb hby hd)
  exact own_go q (r T' X' e')
theorem own_instY (pc' : Nat) (X : Stand p l e R s m args below meth c T locs cells slots) (hx : p.tables.exec = Jvm.exec) (hby : c.code = bytes) (hZ : Z.Warmed39 s.vm) {own K : String} {index : Nat} (hown : s.vm.findClass own = some m.cls) (w : (Cond.classLink own index K).before a0 Z = true) (eT : T.heap = h) {a : Addr} (F : Ins Z h a K true) (hd : decode bytes pc = .ok (.instanceof index, 3)) (hp : pc + 3 = pc')
    (r : ∀ T', Stand p l e R s m args below meth c T' locs cells slots → T'.heap = h → Go p e below P (T'.setTop (mkF m pc' ls (.int 1 :: st)))) : Go p e below P (T.setTop (mkF m pc ls (.ref a :: st))) := by
  subst hp
  obtain ⟨T', X', e', q⟩ := instY X hx hZ hown w eT F (g := mkF m pc ls (.ref a :: st)) rfl rfl (hb hby hd)
  exact own_go q (r T' X' e')
theorem own_instN (pc' : Nat) (X : Stand p l e R s m args below meth c T locs cells slots) (hx : p.tables.exec = Jvm.exec) (hby : c.code = bytes) (hZ : Z.Warmed39 s.vm) {own K C : String} {index : Nat} (hown : s.vm.findClass own = some m.cls) (w : (Cond.classLink own index K).before a0 Z = true) (eT : T.heap = h) {a : Addr} (E : Exa Z h a C) (F : ∃ c t, Z.vm.findClass C = some c ∧ Z.vm.findClass K = some t ∧ Z.vm.assignable c t = false) (hd : decode bytes pc = .ok (.instanceof index, 3)) (hp : pc + 3 = pc')
    (r : ∀ T', Stand p l e R s m args below meth c T' locs cells slots → T'.heap = h → Go p e below P (T'.setTop (mkF m pc' ls (.int 0 :: st)))) : Go p e below P (T.setTop (mkF m pc ls (.ref a :: st))) := by
  subst hp
  obtain ⟨T', X', e', q⟩ := instNo X hx hZ hown w eT E F (g := mkF m pc ls (.ref a :: st)) rfl rfl (hb hby hd)
  exact own_go q (r T' X' e')
theorem own_inst0 (pc' : Nat) (X : Stand p l e R s m args below meth c T locs cells slots) (hx : p.tables.exec = Jvm.exec) (hby : c.code = bytes) {index : Nat} (hd : decode bytes pc = .ok (.instanceof index, 3)) (hp : pc + 3 = pc')
    (r : Go p e below P (T.setTop (mkF m pc' ls (.int 0 :: st)))) : Go p e below P (T.setTop (mkF m pc ls (.null :: st))) := by
  subst hp
  exact own_go (fun t q => X.instanceofNull hx (g := mkF m pc ls (.null :: st)) rfl rfl (hb hby hd) t q) r
theorem own_lsw (pc' : Nat) (X : Stand p l e R s m args below meth c T locs cells slots) (hx : p.tables.exec = Jvm.exec) (hby : c.code = bytes) {k : Int32} {dflt : Int} {pairs : Array (Int × Int)} {len : Nat} (hd : decode bytes pc = .ok (.lookupswitch dflt pairs, len)) (hsorted : (pairs.toList.zip (pairs.toList.drop 1)).all (fun (a, next) => a.1 < next.1) = true) {a off : Int} (hfind : pairs.find? (·.1 == k.toInt) = some (a, off)) (ho : 0 ≤ (pc : Int) + off) (hp : ((pc : Int) + off).toNat = pc')
    (r : Go p e below P (T.setTop (mkF m pc' ls st))) : Go p e below P (T.setTop (mkF m pc ls (.int k :: st))) := by
  subst hp
  exact own_go (fun t q => X.lookupswitchHit hx (g := mkF m pc ls (.int k :: st)) rfl rfl (hb hby hd) hsorted hfind ho t q) r
/-! arrays of longs -/
theorem own_stJ (pc' : Nat) (i : Nat) (X : Stand p l e R s m args below meth c T locs cells slots) (hx : p.tables.exec = Jvm.exec) (hby : c.code = bytes) (hZ : Z.Warmed39 s.vm) (eT : T.heap = h) {a : Addr} {cA : ClassId} {n j : Int32} {x : Int64} {vs : List Value} {dv : Value} (V : Arv Z h a cA .long n vs dv)
    (hd : decode bytes pc = .ok (.lastore, 1)) (hp : pc + 1 = pc') (hj : ¬ j < 0 ∧ j < n) (hi : j.toNatClampNeg = i) (hv : i < vs.length)
    (r : ∀ T' h', Stand p l e R s m args below meth c T' (locs ++ [⟨a, j.toNatClampNeg⟩]) cells slots → T'.heap = h' → Wr h h' a j.toNatClampNeg (.long x) → Arv Z h' a cA .long n (vs.set i (.long x)) dv → Go p e below P (T'.setTop (mkF m pc' ls st))) : Go p e below P (T.setTop (mkF m pc ls (.long x :: .int j :: .ref a :: st))) := by
  subst hp
  obtain ⟨cl, A, q1, S, q3, H, G⟩ := V
  obtain ⟨T', h', X', e', W', q⟩ := stJ X hx hZ eT A (j := j) (inb_of S hj) (g := mkF m pc ls (.long x :: .int j :: .ref a :: st)) rfl rfl (hb hby hd)
  exact own_go q (r T' h' X' e' W' (Arv.set A q1 S q3 H G rfl W' i hi hv))
theorem own_shrink {a : Addr} {k : ClassId} {ty : FieldType} {z : Int32} {d : Value} {N : Nat} (M : Nat) (V : Arv Z h a k ty z (List.replicate N d) d) : Arv Z h a k ty z (List.replicate M d) d := V.pad fun i => (pad_rep [] d M i).trans (pad_rep [] d N i).symm
theorem own_laload (pc' : Nat) (v : Value) (X : Stand p l e R s m args below meth c T locs cells slots) (hx : p.tables.exec = Jvm.exec) (hby : c.code = bytes) (hZ : Z.Warmed39 s.vm) (eT : T.heap = h) {a : Addr} {cA : ClassId} {n j : Int32} {vs : List Value} {dv : Value} (V : Arv Z h a cA .long n vs dv)
    (hd : decode bytes pc = .ok (.laload, 1)) (hp : pc + 1 = pc') (hj : ¬ j < 0 ∧ j < n) (hv : vs.getD j.toNatClampNeg dv = v)
    (r : Go p e below P (T.setTop (mkF m pc' ls (v :: st)))) : Go p e below P (T.setTop (mkF m pc ls (.int j :: .ref a :: st))) := by
  subst hp
  obtain ⟨cl, A, q1, S, q3, H, G⟩ := V
  exact own_go (fun t q => X.laload hx (j := j) (v := v) (by rw [eT]; exact A.1) (State.isArrayOf_alike hZ.alike A.2.1) A.2.2 (inb_of S hj) (H.at (inb_of S hj) hv) (g := mkF m pc ls (.int j :: .ref a :: st)) rfl rfl (hb hby hd) t q) r
/-- System.arraycopy of no element at all -/
theorem own_cp0 (pc' : Nat) (W : Nat) (X : Stand p l e R s m args below meth c T locs cells slots) (hx : p.tables.exec = Jvm.exec) (hby : c.code = bytes) (hZ : Z.Warmed39 s.vm) {own : String} {index : Nat} (hown : s.vm.findClass own = some m.cls)
    (w1 : (Cond.methodLink own index Jvm.Stand.acN).before a0 Z = true) (w2 : (Cond.native Jvm.Stand.acN).before a0 Z = true) (w3 : (Cond.static Jvm.Stand.acN).before a0 Z = true) (w4 : (Cond.initialized "java/lang/System").before a0 Z = true) (eT : T.heap = h)
    {a b : Addr} {k k' : ClassId} {z z' : Int32} {vs vd : List Value} {dv dd : Value} (A : Arv Z h a k .long z vs dv) (B : Arv Z h b k' .long z' vd dd) {n0 : Nat} (N : Fr n0 locs) (ge : n0 ≤ b) (hsz : ls.size = c.maxLocals) (hd : decode bytes pc = .ok (.invokestatic index, 3)) (hp : pc + 3 = pc') (hW : (st.map fun v => v.category).sum = W)
    (hf : 1 ≤ R.frames) (hlo : W + (nativeFrameWords "java/lang/System" "arraycopy" 5 + 11) ≤ R.locals)
    (r : ∀ T' h' L, Stand p l e R s m args below meth c T' L cells slots → T'.heap = h' → Fr n0 L → Keep h h' [b] → Arv Z h' b k' .long z' vd dd → Go p e below P (T'.setTop (mkF m pc' ls st))) : Go p e below P (T.setTop (mkF m pc ls (.int 0 :: .int 0 :: .ref b :: .int 0 :: .ref a :: st))) := by
  subst hp
  obtain ⟨T', h', L, X', e', N', K', V', q⟩ := cpA X hx hZ hown w1 w2 w3 w4 eT A B (us := []) (sp := 0) (dp := 0) (nn := 0) (Or.inl ⟨rfl, rfl⟩) (by decide) (by decide) (by decide) (Nat.zero_le _) (Nat.zero_le _) rfl (Nat.zero_le _) N ge (g := mkF m pc ls (.int 0 :: .int 0 :: .ref b :: .int 0 :: .ref a :: st)) rfl hsz rfl (hb hby hd) hf (W := W) (by show 2 * 0 + _ ≤ _; omega) hlo
  exact own_go q (r T' h' L X' e' N' K' V')
/-! calls -/
theorem own_spec (pc' : Nat) {h : Heap} {as' : Array Value} {rm : Room} {Q : Option Value → Heap → List Loc → Prop} {y : MethodName} {code' : ByteArray} {maxL : Nat}
    (hM : MetFree l y (head1 [Cond.code y code' maxL none] rm) (fun a U => a = as' ∧ Z.Warmed39 U.vm ∧ U.heap = h) (fun _ _ _ _ _ => True) (fun _ U o U' => ∃ v L, o = .returned v ∧ Q v U'.heap L ∧ FrameEnd U o U' L rm.cells rm.slots))
    (X : Stand p l e R s m args below meth c T locs cells slots) (hx : p.tables.exec = Jvm.exec) (hby : c.code = bytes) (hZ : Z.Warmed39 s.vm) {own : String} {index W : Nat} (hown : s.vm.findClass own = some m.cls)
    (hn : y.name = "<init>") (w1 : (Cond.methodLink own index y).before a0 Z = true) (w4 : (Cond.instanceMethod y).before a0 Z = true) (w5 : (Cond.initialized y.cls).before a0 Z = true) (w6 : (Cond.code y code' maxL none).before a0 Z = true)
    (hy : y.cls ≠ "java/lang/invoke/MethodHandle" ∧ y.cls ≠ "java/lang/invoke/VarHandle") (hsz : ls.size = c.maxLocals) (b : Addr) (argsL rest : List Value) {ps : List FieldType} {rt : Option FieldType} (hps : parseMethodDescriptor y.desc = some ⟨ps, rt⟩) (hlen : argsL.length = ps.length)
    (hd : decode bytes pc = .ok (.invokespecial index, 3)) (hp : pc + 3 = pc') (eT : T.heap = h) (hst : st = argsL.reverse ++ .ref b :: rest) (has : (.ref b :: argsL).toArray = as') (hW : (rest.map fun v => v.category).sum = W)
    (hf : rm.frames + 1 ≤ R.frames) (hl : W + (maxL + 11) + rm.locals ≤ R.locals) (hc : cells + rm.cells ≤ R.cells) (hs : slots + rm.slots ≤ R.slots)
    (r : ∀ v T' L, Stand p l e R s m args below meth c T' (locs ++ L) (cells + rm.cells) (slots + rm.slots) → Q v T'.heap L → Go p e below P (T'.setTop (mkF m pc' ls (v.toList ++ rest)))) : Go p e below P (T.setTop (mkF m pc ls st)) := by
  subst hp
  obtain ⟨v, _, ⟨T', L', k', n'⟩, -, X', ⟨L, hQ, l1, l2, l3⟩, q⟩ := X.specialBack hx hn hown (mvT hZ w1) (mvT hZ w4) (mvT hZ w6) hy (backOf (W := W) hM hZ w6 w5 hf hl) (g := mkF m pc ls st) rfl hsz (Steps.refl _) (a := b) (argsL := argsL) (rest := rest) (lenOf hps hlen) hst (by show 2 * 0 + _ ≤ _; omega) (hb hby hd) (fun _ _ => ⟨has, eT, hc, hs⟩)
  dsimp only [Pt.U, Pt.locs, Pt.cells, Pt.slots] at X' l1 l2 l3 q hQ
  subst l1 l2 l3
  exact own_go (fun t k => q.trans k) (r v T' L X' hQ)
theorem own_priv (pc' : Nat) {h : Heap} {as' : Array Value} {rm : Room} {Q : Option Value → Heap → List Loc → Prop} {y : MethodName} {code' : ByteArray} {maxL : Nat} {ret' : Option FieldType}
    (hM : MetFree l y (head1 [Cond.code y code' maxL ret'] rm) (fun a U => a = as' ∧ Z.Warmed39 U.vm ∧ U.heap = h) (fun _ _ _ _ _ => True) (fun _ U o U' => ∃ v L, o = .returned v ∧ Q v U'.heap L ∧ FrameEnd U o U' L rm.cells rm.slots))
    (X : Stand p l e R s m args below meth c T locs cells slots) (hx : p.tables.exec = Jvm.exec) (hby : c.code = bytes) (hZ : Z.Warmed39 s.vm) {own : String} {index W : Nat} (hown : s.vm.findClass own = some m.cls)
    (w1 : (Cond.methodLink own index y).before a0 Z = true) (w4 : (Cond.instanceMethod y).before a0 Z = true) (wp : (Cond.privateMethod y).before a0 Z = true) {y2 : MethodName} {C2 : String} (wsel : (Cond.selects C2 y2 y2).before a0 Z = true) (w5 : (Cond.initialized y.cls).before a0 Z = true) (w6 : (Cond.code y code' maxL ret').before a0 Z = true)
    (hy2 : y2.cls = y.cls) (hy : y.cls ≠ "java/lang/invoke/MethodHandle" ∧ y.cls ≠ "java/lang/invoke/VarHandle") (hsz : ls.size = c.maxLocals) (b : Addr) (argsL rest : List Value) {ps : List FieldType} {rt : Option FieldType} (hps : parseMethodDescriptor y.desc = some ⟨ps, rt⟩) (hlen : argsL.length = ps.length)
    (hd : decode bytes pc = .ok (.invokevirtual index, 3)) (hp : pc + 3 = pc') (eT : T.heap = h) {C : String} (E : Exa Z h b C) (hst : st = argsL.reverse ++ .ref b :: rest) (has : (.ref b :: argsL).toArray = as') (hW : (rest.map fun v => v.category).sum = W)
    (hf : rm.frames + 1 ≤ R.frames) (hl : W + (maxL + 11) + rm.locals ≤ R.locals) (hc : cells + rm.cells ≤ R.cells) (hs : slots + rm.slots ≤ R.slots)
    (r : ∀ v T' L, Stand p l e R s m args below meth c T' (locs ++ L) (cells + rm.cells) (slots + rm.slots) → Q v T'.heap L → Go p e below P (T'.setTop (mkF m pc' ls (v.toList ++ rest)))) : Go p e below P (T.setTop (mkF m pc ls st)) := by
  subst hp
  have hpa : s.PrivateAt y := Cond.privateMethod_at (mvP hZ wp (args := #[]))
  have hsel : (Cond.selects y.cls y y).before args s = true := by
    obtain ⟨c2, r2, m2, q1, q2, q3, q4, kP, hkP, hkPi⟩ := Cond.selects_spec (mvT (args := args) hZ wsel)
    obtain ⟨kr, hkr, hni⟩ := notFace_of_selects (mvT (args := args) hZ wsel) _ q3
    have hc2 := findClass_of_methodNamed q3
    rw [hy2] at hc2
    exact selects_self_of_private hc2 hkr hni hpa (mvT hZ w4) hy
  obtain ⟨cq, q1, q2⟩ := E.cell
  obtain ⟨v, _, ⟨T', L', k', n'⟩, -, X', ⟨L, hQ, l1, l2, l3⟩, q⟩ := X.privateBack hx hown (mvT hZ w1) (mvT hZ w4) hsel hpa (mvT hZ w6) hy (backOf (W := W) hM hZ w6 w5 hf hl) (g := mkF m pc ls st) rfl hsz (Steps.refl _) (a := b) (by rw [eT]; exact q1) q2 (argsL := argsL) (rest := rest) (lenOf hps hlen) hst (by show 2 * 0 + _ ≤ _; omega) (hb hby hd) (fun _ _ => ⟨has, eT, hc, hs⟩)
  dsimp only [Pt.U, Pt.locs, Pt.cells, Pt.slots] at X' l1 l2 l3 q hQ
  subst l1 l2 l3
  exact own_go (fun t k => q.trans k) (r v T' L X' hQ)
theorem own_face (pc' : Nat) {h : Heap} {as' : Array Value} {rm : Room} {Q : Option Value → Heap → List Loc → Prop} {xi y : MethodName} {code' : ByteArray} {maxL : Nat} {ret' : Option FieldType}
    (hM : MetFree l y (head1 [Cond.code y code' maxL ret'] rm) (fun a U => a = as' ∧ Z.Warmed39 U.vm ∧ U.heap = h) (fun _ _ _ _ _ => True) (fun _ U o U' => ∃ v L, o = .returned v ∧ Q v U'.heap L ∧ FrameEnd U o U' L rm.cells rm.slots))
    (X : Stand p l e R s m args below meth c T locs cells slots) (hx : p.tables.exec = Jvm.exec) (hby : c.code = bytes) (hZ : Z.Warmed39 s.vm) {own C : String} {index count W : Nat} (hown : s.vm.findClass own = some m.cls)
    (w1 : (Cond.methodLink own index xi).before a0 Z = true) (w2 : (Cond.declares xi).before a0 Z = true) (w3 : ∀ A, (Cond.interfaceMethod xi.cls xi.cls xi.name xi.desc).before A s = true) (w4 : (Cond.selects C xi y).before a0 Z = true) (w5 : (Cond.instanceMethod y).before a0 Z = true) (w6 : (Cond.publicMethod y).before a0 Z = true) (w7 : (Cond.unhidden C xi.name xi.desc).before a0 Z = true) (w8 : (Cond.castable C xi.cls).before a0 Z = true) (w9 : (Cond.initialized y.cls).before a0 Z = true) (w10 : (Cond.code y code' maxL ret').before a0 Z = true)
    (hy : xi.cls ≠ "java/lang/invoke/MethodHandle" ∧ xi.cls ≠ "java/lang/invoke/VarHandle") (hsz : ls.size = c.maxLocals) (b : Addr) (argsL rest : List Value) {ps : List FieldType} {rt : Option FieldType} (hps : parseMethodDescriptor xi.desc = some ⟨ps, rt⟩) (hlen : argsL.length = ps.length)
    (hd : decode bytes pc = .ok (.invokeinterface index count, 5)) (hp : pc + 5 = pc') (eT : T.heap = h) (E : Exa Z h b C) (hst : st = argsL.reverse ++ .ref b :: rest) (has : (.ref b :: argsL).toArray = as') (hW : (rest.map fun v => v.category).sum = W)
    (hf : rm.frames + 1 ≤ R.frames) (hl : W + (maxL + 11) + rm.locals ≤ R.locals) (hc : cells + rm.cells ≤ R.cells) (hs : slots + rm.slots ≤ R.slots)
    (r : ∀ v T' L, Stand p l e R s m args below meth c T' (locs ++ L) (cells + rm.cells) (slots + rm.slots) → Q v T'.heap L → Go p e below P (T'.setTop (mkF m pc' ls (v.toList ++ rest)))) : Go p e below P (T.setTop (mkF m pc ls st)) := by
  subst hp
  obtain ⟨cq, kq, q1, q2, q3⟩ := isOf (s := s) (T := T) hZ eT E
  obtain ⟨v, _, ⟨T', L', k', n'⟩, -, X', ⟨L, hQ, l1, l2, l3⟩, q⟩ := X.interfaceBack hx hown (mvT hZ w1) (mvT hZ w2) (w3 args) (mvT hZ w4) (mvT hZ w5) (mvT hZ w6) (mvT hZ w7) (mvT hZ w8) hy (backOf (W := W) hM hZ w10 w9 hf hl) q1 q2 q3 (g := mkF m pc ls st) rfl hsz (Steps.refl _) (argsL := argsL) (rest := rest) (lenOf hps hlen) hst (by show 2 * 0 + _ ≤ _; omega) (hb hby hd) (fun _ _ => ⟨has, eT, hc, hs⟩)
  dsimp only [Pt.U, Pt.locs, Pt.cells, Pt.slots] at X' l1 l2 l3 q hQ
  subst l1 l2 l3
  exact own_go (fun t k => q.trans k) (r v T' L X' hQ)
theorem own_virtUp (pc' : Nat) {h : Heap} {as' : Array Value} {rm : Room} {Q : Option Value → Heap → List Loc → Prop} {y z : MethodName} {code' : ByteArray} {maxL : Nat} {ret' : Option FieldType} (owner : String)
    (hM : MetFree l z (head1 [Cond.code z code' maxL ret'] rm) (fun a U => a = as' ∧ Z.Warmed39 U.vm ∧ U.heap = h) (fun _ _ _ _ _ => True) (fun _ U o U' => ∃ v L, o = .returned v ∧ Q v U'.heap L ∧ FrameEnd U o U' L rm.cells rm.slots))
    (X : Stand p l e R s m args below meth c T locs cells slots) (hx : p.tables.exec = Jvm.exec) (hby : c.code = bytes) (hZ : Z.Warmed39 s.vm) {own C : String} {index W : Nat} (hown : s.vm.findClass own = some m.cls)
    (w1 : (Cond.methodLink own index y).before a0 Z = true) (wsm : (Cond.sameMethod y.cls owner y.name y.desc).before a0 Z = true) (w2 : (Cond.declares ⟨owner, y.name, y.desc⟩).before a0 Z = true) (ho : owner ≠ "java/lang/invoke/MethodHandle" ∧ owner ≠ "java/lang/invoke/VarHandle") (w3 : (Cond.selects C y z).before a0 Z = true) (w4 : (Cond.instanceMethod z).before a0 Z = true) (w5 : (Cond.initialized z.cls).before a0 Z = true) (w6 : (Cond.code z code' maxL ret').before a0 Z = true)
    (hsz : ls.size = c.maxLocals) (b : Addr) (argsL rest : List Value) {ps : List FieldType} {rt : Option FieldType} (hps : parseMethodDescriptor y.desc = some ⟨ps, rt⟩) (hlen : argsL.length = ps.length)
    (hd : decode bytes pc = .ok (.invokevirtual index, 3)) (hp : pc + 3 = pc') (eT : T.heap = h) (E : Exa Z h b C) (hst : st = argsL.reverse ++ .ref b :: rest) (has : (.ref b :: argsL).toArray = as') (hW : (rest.map fun v => v.category).sum = W)
    (hf : rm.frames + 1 ≤ R.frames) (hl : W + (maxL + 11) + rm.locals ≤ R.locals) (hc : cells + rm.cells ≤ R.cells) (hs : slots + rm.slots ≤ R.slots)
    (r : ∀ v T' L, Stand p l e R s m args below meth c T' (locs ++ L) (cells + rm.cells) (slots + rm.slots) → Q v T'.heap L → Go p e below P (T'.setTop (mkF m pc' ls (v.toList ++ rest)))) : Go p e below P (T.setTop (mkF m pc ls st)) := by
  subst hp
  obtain ⟨cq, kq, q1, q2, q3⟩ := isOf (s := s) (T := T) hZ eT E
  obtain ⟨v, _, ⟨T', L', k', n'⟩, -, X', ⟨L, hQ, l1, l2, l3⟩, q⟩ := X.virtualBackUp hx hown (mvT hZ w1) (mvT hZ wsm) (mvT hZ w2) ho (mvT hZ w3) (mvT hZ w4) (backOf (W := W) hM hZ w6 w5 hf hl) q1 q3 (g := mkF m pc ls st) rfl hsz (Steps.refl _) (argsL := argsL) (rest := rest) (lenOf hps hlen) hst (by show 2 * 0 + _ ≤ _; omega) (hb hby hd) (fun _ _ => ⟨has, eT, hc, hs⟩)
  dsimp only [Pt.U, Pt.locs, Pt.cells, Pt.slots] at X' l1 l2 l3 q hQ
  subst l1 l2 l3
  exact own_go (fun t k => q.trans k) (r v T' L X' hQ)
/-! the wide frame: a String constant may be booked -/
theorem own_ldcS (pc' : Nat) (n : Nat) {vm0 : Vm} (X : Stand p l e R (s.setVm vm0) m args below meth c T locs cells slots) (hx : p.tables.exec = Jvm.exec) (hby : c.code = bytes) (hZ : Z.Warmed39 (s.setVm vm0).vm) {own text : String} {index : Nat} (hown : (s.setVm vm0).vm.findClass own = some m.cls) (w : (Cond.stringLink own index text).before a0 Z = true) (wS : ∀ a ∈ Bundle.stringAtoms, a.before a0 Z = true)
    (eT : T.heap = h) {k0 : Nat} (hS : s.Since vm0 k0) (hk : k0 ≤ h.size) (hd : decode bytes pc = .ok (.ldc index, 2)) (hp : pc + 2 = pc') (hn : 4 * text.toList.length ≤ n) (hbig : n ≤ 536870912) (hc : cells + 2 ≤ R.cells) (hl : slots + (n + 4) ≤ R.slots)
    (r : ∀ (a : Addr) (T' : State) (h' : Heap) (k1 : Nat), Stand p l e R (s.setVm T'.vm) m args below meth c T' locs (cells + 2) (slots + (n + 4)) → T'.heap = h' → Ext h h' → s.Since T'.vm k1 → k1 ≤ h'.size → Z.Warmed39 (s.setVm T'.vm).vm → (s.setVm T'.vm).vm.findClass own = some m.cls → Go p e below P (T'.setTop (mkF m pc' ls (.ref a :: st)))) : Go p e below P (T.setTop (mkF m pc ls st)) := by
  subst hp
  obtain ⟨a, T', h', k1, X', e', E', S', k', Z', o', q⟩ := ldcS X hx hZ hown w wS eT hS hk (g := mkF m pc ls st) rfl (hb hby hd) hn hbig hc hl
  exact own_go q (r a T' h' k1 X' e' E' S' k' Z' o')
theorem own_specS (pc' : Nat) {vm0 : Vm} {h : Heap} {as' : Array Value} {rm : Room} {Q : Option Value → Heap → List Loc → Prop} {y : MethodName} {code' : ByteArray} {maxL : Nat}
    (hM : MetFree l y (head1 [Cond.code y code' maxL none] rm) (fun a U => a = as' ∧ Z.Warmed39 U.vm ∧ U.heap = h) (fun _ _ _ _ _ => True) (fun _ U o U' => ∃ v L, o = .returned v ∧ Q v U'.heap L ∧ ReturnedEndW U o U' L rm.cells rm.slots))
    (X : Stand p l e R (s.setVm vm0) m args below meth c T locs cells slots) (hx : p.tables.exec = Jvm.exec) (hby : c.code = bytes) (hZ : Z.Warmed39 (s.setVm vm0).vm) {own : String} {index W : Nat} (hown : (s.setVm vm0).vm.findClass own = some m.cls)
    (hn : y.name = "<init>") (w1 : (Cond.methodLink own index y).before a0 Z = true) (w4 : (Cond.instanceMethod y).before a0 Z = true) (w5 : (Cond.initialized y.cls).before a0 Z = true) (w6 : (Cond.code y code' maxL none).before a0 Z = true)
    (hy : y.cls ≠ "java/lang/invoke/MethodHandle" ∧ y.cls ≠ "java/lang/invoke/VarHandle") (hsz : ls.size = c.maxLocals) (b : Addr) (argsL rest : List Value) {ps : List FieldType} {rt : Option FieldType} (hps : parseMethodDescriptor y.desc = some ⟨ps, rt⟩) (hlen : argsL.length = ps.length)
    (hd : decode bytes pc = .ok (.invokespecial index, 3)) (hp : pc + 3 = pc') (eT : T.heap = h) (hst : st = argsL.reverse ++ .ref b :: rest) (has : (.ref b :: argsL).toArray = as') (hW : (rest.map fun v => v.category).sum = W)
    (hf : rm.frames + 1 ≤ R.frames) (hl : W + (maxL + 11) + rm.locals ≤ R.locals) (hc : cells + rm.cells ≤ R.cells) (hs : slots + rm.slots ≤ R.slots) {k0 : Nat} (hS : s.Since vm0 k0) (hk : k0 ≤ h.size)
    (r : ∀ v T' L, Stand p l e R (s.setVm T'.vm) m args below meth c T' (locs ++ L) (cells + rm.cells) (slots + rm.slots) → Q v T'.heap L → s.Since T'.vm T'.heap.size → Z.Warmed39 (s.setVm T'.vm).vm → (s.setVm T'.vm).vm.findClass own = some m.cls → Go p e below P (T'.setTop (mkF m pc' ls (v.toList ++ rest)))) : Go p e below P (T.setTop (mkF m pc ls st)) := by
  subst hp
  obtain ⟨v, _, ⟨T', L', k', n'⟩, -, X', S', g', ⟨L, hQ, l1, l2, l3⟩, q⟩ := X.specialBackS hx hn hown (mvT hZ w1) (mvT hZ w4) (mvT hZ w6) hy (backOfS (W := W) hM hZ w6 w5 hf hl) (g := mkF m pc ls st) rfl hsz (Steps.refl _) (a := b) (argsL := argsL) (rest := rest) (lenOf hps hlen) hst (by show 2 * 0 + _ ≤ _; omega) (hb hby hd) (fun _ _ => ⟨has, eT, hc, hs⟩)
  dsimp only [Pt.U, Pt.locs, Pt.cells, Pt.slots] at X' l1 l2 l3 q hQ S' g'
  subst l1 l2 l3
  have hk' : k0 ≤ T.heap.size := by rw [eT]; exact hk
  have S2 : s.Since T'.vm T'.heap.size := foldS hS hk' S' g'
  refine own_go (fun t k => q.trans k) (r v T' L X' hQ S2 (State.Warmed39.trans (t := s.setVm vm0) hZ S'.1) ?_)
  rw [show (s.setVm T'.vm).vm = T'.vm from rfl, S'.1.alike.findClass]; exact hown
theorem own_retW {Q : Option Value → Heap → List Loc → Prop} {K N : Nat} {vm0 : Vm} {t : FieldType} {w : Value} {i : Instr} (X : Stand p l e R (s.setVm vm0) m args below meth c T locs cells slots) (hx : p.tables.exec = Jvm.exec) (hby : c.code = bytes) (hret : meth.sig.returnType = some t) (hlocks : meth.locks = false) {k0 : Nat} (hS : s.Since vm0 k0) (hk : k0 ≤ T.heap.size)
    (hd : decode bytes pc = .ok (i, 1)) (hn : narrow t w = w)
    (hi : (i = .ireturn ∧ (t = .int ∨ t = .boolean ∨ t = .byte ∨ t = .char ∨ t = .short) ∧ ∃ z, w = .int z) ∨ (i = .lreturn ∧ t = .long ∧ ∃ z, w = .long z) ∨ (i = .dreturn ∧ t = .double ∧ ∃ z, w = .double z) ∨ (i = .freturn ∧ t = .float ∧ ∃ z, w = .float z) ∨ (i = .areturn ∧ t.isReference = true ∧ w.isRef = true))
    (hK : cells ≤ K) (hN : slots ≤ N) (hQ : Q (some w) T.heap locs) :
    Go p e below (fun s₂ o => s₂.status = .running ∧ Ended s₂ below o ∧ ∃ v L, o = .returned v ∧ Q v s₂.heap L ∧ ReturnedEndW s o s₂ L K N) (T.setTop (mkF m pc ls (w :: st))) := by
  obtain ⟨fs, hr, hrun, hended, r1, r2, r3, r4⟩ := X.leaveW hS hk (v := some w) (fun h => by rw [hret] at h; cases h) hlocks
  exact ⟨_, _, retOut X hx hret hn hi (hb hby hd) hr, hrun, hended, _, _, rfl, hQ, r1, r2, r3, r4.mono hK hN⟩
theorem own_ret0W {Q : Option Value → Heap → List Loc → Prop} {K N : Nat} {vm0 : Vm} (X : Stand p l e R (s.setVm vm0) m args below meth c T locs cells slots) (hx : p.tables.exec = Jvm.exec) (hby : c.code = bytes) (hret : meth.sig.returnType = none) (hlocks : meth.locks = false) {k0 : Nat} (hS : s.Since vm0 k0) (hk : k0 ≤ T.heap.size)
    (hd : decode bytes pc = .ok (.return_, 1)) (hK : cells ≤ K) (hN : slots ≤ N) (hQ : Q none T.heap locs) :
    Go p e below (fun s₂ o => s₂.status = .running ∧ Ended s₂ below o ∧ ∃ v L, o = .returned v ∧ Q v s₂.heap L ∧ ReturnedEndW s o s₂ L K N) (T.setTop (mkF m pc ls [])) := by
  obtain ⟨fs, hr, hrun, hended, r1, r2, r3, r4⟩ := X.leaveW hS hk (v := none) (fun _ => rfl) hlocks
  exact ⟨_, _, X.returnOut hx hret (hb hby hd) hr, hrun, hended, _, _, rfl, hQ, r1, r2, r3, r4.mono hK hN⟩
end Own2
/-! small facts on ints -/
theorem own_mask_nn (x : Int32) : 0 ≤ (x &&& 2147483647).toInt := by
  have h : (x &&& 2147483647).toInt = x.toInt % 2 ^ 31 := Jvm.Kit.i32_mask x 2147483647 (k := 31) (by decide) (by decide)
  omega
theorem own_mod_toInt (x y : Int32) (hy : 0 < y.toInt) (hx : 0 ≤ x.toInt) : (x % y).toInt = x.toInt % y.toInt := Jvm.Kit.i32_rem_nonneg hx
theorem own_and_toInt1 (x : Int32) : (x &&& 1).toInt = x.toInt % 2 := Jvm.Kit.i32_mask x 1 (k := 1) (by decide) (by decide)
theorem own_and_toInt3 (x : Int32) : (x &&& 3).toInt = x.toInt % 4 := Jvm.Kit.i32_mask x 3 (k := 2) (by decide) (by decide)
theorem own_and_toInt7 (x : Int32) : (x &&& 7).toInt = x.toInt % 8 := Jvm.Kit.i32_mask x 7 (k := 3) (by decide) (by decide)
theorem own_mkI (x m : Int32) (k : Nat) (hk : k < 32) (hm : m.toBitVec.toNat = 2 ^ k - 1) : 0 ≤ (x &&& m).toInt ∧ (x &&& m).toInt ≤ m.toInt := by
  have h1 := Jvm.Kit.i32_mask x m hk hm
  have h2 : m.toInt = 2 ^ k - 1 := by
    have h3 : m.toInt = (m.toBitVec).toInt := rfl
    have h4 : (2 : Nat) ^ k ≤ 2 ^ 31 := Nat.pow_le_pow_right (by decide) (by omega)
    rw [h3, BitVec.toInt_eq_toNat_cond, hm]
    have h5 : 0 < (2 : Nat) ^ k := Nat.pow_pos (by decide)
    have h6 : ((2 ^ k - 1 : Nat) : Int) = (2 : Int) ^ k - 1 := by
      rw [Int.natCast_sub h5]; simp
    split
    · exact h6
    · omega
  have h7 : (0 : Int) < 2 ^ k := Int.pow_pos (by decide)
  have h8 := Int.emod_nonneg x.toInt (Int.ne_of_gt h7)
  have h9 := Int.emod_lt_of_pos x.toInt h7
  omega
theorem own_mkJ (x m : Int64) (k : Nat) (hk : k < 64) (hm : m.toBitVec.toNat = 2 ^ k - 1) : 0 ≤ (x &&& m).toInt ∧ (x &&& m).toInt ≤ m.toInt := by
  have h1 := Jvm.Kit.i64_mask x m hk hm
  have h2 : m.toInt = 2 ^ k - 1 := by
    have h3 : m.toInt = (m.toBitVec).toInt := rfl
    have h4 : (2 : Nat) ^ k ≤ 2 ^ 63 := Nat.pow_le_pow_right (by decide) (by omega)
    rw [h3, BitVec.toInt_eq_toNat_cond, hm]
    have h5 : 0 < (2 : Nat) ^ k := Nat.pow_pos (by decide)
    have h6 : ((2 ^ k - 1 : Nat) : Int) = (2 : Int) ^ k - 1 := by
      rw [Int.natCast_sub h5]; simp
    split
    · exact h6
    · omega
  have h7 : (0 : Int) < 2 ^ k := Int.pow_pos (by decide)
  have h8 := Int.emod_nonneg x.toInt (Int.ne_of_gt h7)
  have h9 := Int.emod_lt_of_pos x.toInt h7
  omega
theorem own_rngI (x : Int32) : -2 ^ 31 ≤ x.toInt ∧ x.toInt < 2 ^ 31 := ⟨Int32.le_toInt x, Int32.toInt_lt x⟩
theorem own_rngJ (x : Int64) : -2 ^ 63 ≤ x.toInt ∧ x.toInt < 2 ^ 63 := ⟨Int64.le_toInt x, Int64.toInt_lt x⟩
theorem own_rmI {x : Int32} (hx : 0 ≤ x.toInt) (y : Int32) (hy : 0 < y.toInt) : 0 ≤ (x % y).toInt ∧ (x % y).toInt ≤ y.toInt - 1 := by
  rw [Jvm.Kit.i32_rem_nonneg hx]
  have h8 := Int.emod_nonneg x.toInt (Int.ne_of_gt hy)
  have h9 := Int.emod_lt_of_pos x.toInt hy
  omega
theorem own_rmJ (x y : Int64) (hy : 0 < y.toInt) : -(y.toInt - 1) ≤ (x - (x / y) * y).toInt ∧ (x - (x / y) * y).toInt ≤ y.toInt - 1 := by
  rw [Jvm.Kit.i64_rem]
  have h1 := Int.tmod_lt_of_pos x.toInt hy
  have h2 := Int.lt_tmod_of_pos x.toInt hy
  omega
theorem own_dvI {x : Int32} (hx : 0 ≤ x.toInt) (y : Int32) (hy : 0 < y.toInt) : (x / y).toInt = x.toInt / y.toInt := by
  rw [Jvm.Kit.i32_div (by omega), Int.tdiv_eq_ediv_of_nonneg hx]
theorem own_bdI {x a b : Int32} (h1 : ¬ (x < a)) (h2 : ¬ (b < x)) : a.toInt ≤ x.toInt ∧ x.toInt ≤ b.toInt := by
  rw [Int32.lt_iff_toInt_lt] at h1 h2
  omega
theorem own_bdJ {x a b : Int64} (h1 : ¬ (x < a)) (h2 : ¬ (b < x)) : a.toInt ≤ x.toInt ∧ x.toInt ≤ b.toInt := by
  rw [Int64.lt_iff_toInt_lt] at h1 h2
  omega
theorem own_and1 (x : Int32) : x &&& 1 = 0 ∨ x &&& 1 = 1 := by
  have h1 : (x &&& 1).toInt = x.toInt % 2 := own_and_toInt1 x
  have h3 : ∀ y : Int32, ∀ k : Int32, y.toInt = k.toInt → y = k := fun _ _ q => Int32.toInt_inj.mp q
  have h4 : x.toInt % 2 = 0 ∨ x.toInt % 2 = 1 := by omega
  rcases h4 with h4 | h4
  · exact Or.inl (h3 _ _ (h1.trans h4))
  · exact Or.inr (h3 _ _ (h1.trans h4))
def own_W (Z : State) (w_MONTHS w_YEARS : Addr) : Prop := Sta Z Z.heap "com/example/nameroll/nameroll/core/Period$Unit" "MONTHS" "Lcom/example/nameroll/nameroll/core/Period$Unit;" (.ref w_MONTHS) ∧ Exa Z Z.heap w_MONTHS "com/example/nameroll/nameroll/core/Period$Unit" ∧ Sta Z Z.heap "com/example/nameroll/nameroll/core/Period$Unit" "YEARS" "Lcom/example/nameroll/nameroll/core/Period$Unit;" (.ref w_YEARS) ∧ Exa Z Z.heap w_YEARS "com/example/nameroll/nameroll/core/Period$Unit" ∧ Fld Z Z.heap w_MONTHS "java/lang/Enum" "ordinal" "I" (.int (1 : Int32)) ∧ Fld Z Z.heap w_YEARS "java/lang/Enum" "ordinal" "I" (.int (0 : Int32))
theorem own_wS {Z : State} {a0 : Array Value} (hw : ∀ d ∈ tables_1, d.before a0 Z = true) : ∀ a ∈ Bundle.stringAtoms, a.before a0 Z = true := by
  intro d hd
  simp only [Bundle.stringAtoms, List.mem_cons, List.not_mem_nil, or_false] at hd
  rcases hd with rfl | rfl | rfl | rfl | rfl | rfl | rfl
  · exact (own_w hw 19 rfl)
  · exact (own_w hw 20 rfl)
  · exact (own_w hw 21 rfl)
  · exact (own_w hw 22 rfl)
  · exact (own_w hw 23 rfl)
  · exact (own_w hw 24 rfl)
  · exact (own_w hw 25 rfl)
theorem d1_0 : decode prog_41_method_1_code 0 = .ok (.aload_n 0, 1) := by decide +kernel
theorem d1_1 : decode prog_41_method_1_code 1 = .ok (.invokespecial 1, 3) := by decide +kernel
theorem d2_0 : decode jdk_30_method_1_code 0 = .ok (.aload_n 0, 1) := by decide +kernel
theorem d2_1 : decode jdk_30_method_1_code 1 = .ok (.invokespecial 1, 3) := by decide +kernel
theorem d2_4 : decode jdk_30_method_1_code 4 = .ok (.return_, 1) := by decide +kernel
theorem ef_2 (m : MethodId) (r0 : Addr) : entryFrame m #[(.ref r0)] 1 = mkF m 0 #[oA r0] [] := by first | (simp [entryFrame, mkF, argsToLocals, Value.category]; done) | rfl
theorem pn_0 : plainName "java/lang/Record" = true := by first | (simp [plainName, overriddenIn]; done) | decide +kernel
theorem pd_0 : parseMethodDescriptor "()V" = some ⟨[], none⟩ := by decide +kernel
theorem d1_4 : decode prog_41_method_1_code 4 = .ok (.aload_n 2, 1) := by decide +kernel
theorem d1_5 : decode prog_41_method_1_code 5 = .ok (.ldc 7, 2) := by decide +kernel
theorem d1_7 : decode prog_41_method_1_code 7 = .ok (.invokestatic 9, 3) := by decide +kernel
theorem d4_0 : decode jdk_31_method_11_code 0 = .ok (.aload_n 0, 1) := by decide +kernel
theorem d4_1 : decode jdk_31_method_11_code 1 = .ok (.ifnonnull 12, 3) := by decide +kernel
theorem d4_13 : decode jdk_31_method_11_code 13 = .ok (.aload_n 0, 1) := by decide +kernel
theorem d4_14 : decode jdk_31_method_11_code 14 = .ok (.areturn, 1) := by decide +kernel
theorem ef_4 (m : MethodId) (r0 : Addr) (r1 : Addr) : entryFrame m #[(.ref r0), (.ref r1)] 2 = mkF m 0 #[oA r0, oA r1] [] := by first | (simp [entryFrame, mkF, argsToLocals, Value.category]; done) | rfl
theorem pn_1 : plainName "java/util/Objects" = true := by first | (simp [plainName, overriddenIn]; done) | decide +kernel
theorem pd_1 : parseMethodDescriptor "(Ljava/lang/Object;Ljava/lang/String;)Ljava/lang/Object;" = some ⟨[(.object "java/lang/Object"), (.object "java/lang/String")], some (.object "java/lang/Object")⟩ := by decide +kernel
theorem d1_10 : decode prog_41_method_1_code 10 = .ok (.pop, 1) := by decide +kernel
theorem d1_11 : decode prog_41_method_1_code 11 = .ok (.iload_n 1, 1) := by decide +kernel
theorem d1_12 : decode prog_41_method_1_code 12 = .ok (.iconst 1, 1) := by decide +kernel
theorem d1_13 : decode prog_41_method_1_code 13 = .ok (.if_icmp .lt 9, 3) := by decide +kernel
theorem d1_22 : decode prog_41_method_1_code 22 = .ok (.new 17, 3) := by decide +kernel
theorem d1_16 : decode prog_41_method_1_code 16 = .ok (.iload_n 1, 1) := by decide +kernel
theorem d1_17 : decode prog_41_method_1_code 17 = .ok (.bipush 99, 2) := by decide +kernel
theorem d1_19 : decode prog_41_method_1_code 19 = .ok (.if_icmp .le 17, 3) := by decide +kernel
theorem d1_36 : decode prog_41_method_1_code 36 = .ok (.aload_n 0, 1) := by decide +kernel
theorem d1_37 : decode prog_41_method_1_code 37 = .ok (.iload_n 1, 1) := by decide +kernel
theorem d1_38 : decode prog_41_method_1_code 38 = .ok (.putfield 26, 3) := by decide +kernel
theorem d1_41 : decode prog_41_method_1_code 41 = .ok (.aload_n 0, 1) := by decide +kernel
theorem d1_42 : decode prog_41_method_1_code 42 = .ok (.aload_n 2, 1) := by decide +kernel
theorem d1_43 : decode prog_41_method_1_code 43 = .ok (.putfield 30, 3) := by decide +kernel
theorem d1_46 : decode prog_41_method_1_code 46 = .ok (.return_, 1) := by decide +kernel
theorem ef_1 (m : MethodId) (r0 : Addr) (x1 : Int32) (r2 : Addr) : entryFrame m #[(.ref r0), (.int x1), (.ref r2)] 3 = mkF m 0 #[oA r0, oI x1, oA r2] [] := by first | (simp [entryFrame, mkF, argsToLocals, Value.category]; done) | rfl
theorem pn_2 : plainName "com/example/nameroll/nameroll/core/Period" = true := by first | (simp [plainName, overriddenIn]; done) | decide +kernel
theorem pd_2 : parseMethodDescriptor "(ILcom/example/nameroll/nameroll/core/Period$Unit;)V" = some ⟨[.int, (.object "com/example/nameroll/nameroll/core/Period$Unit")], none⟩ := by decide +kernel
theorem d5_0 : decode prog_41_method_3_code 0 = .ok (.aload_n 0, 1) := by decide +kernel
theorem d5_1 : decode prog_41_method_3_code 1 = .ok (.getfield 30, 3) := by decide +kernel
theorem d5_4 : decode prog_41_method_3_code 4 = .ok (.invokevirtual 41, 3) := by decide +kernel
theorem d6_0 : decode jdk_37_method_2_code 0 = .ok (.aload_n 0, 1) := by decide +kernel
theorem d6_1 : decode jdk_37_method_2_code 1 = .ok (.getfield 7, 3) := by decide +kernel
theorem d6_4 : decode jdk_37_method_2_code 4 = .ok (.ireturn, 1) := by decide +kernel
theorem ef_6 (m : MethodId) (r0 : Addr) : entryFrame m #[(.ref r0)] 1 = mkF m 0 #[oA r0] [] := by first | (simp [entryFrame, mkF, argsToLocals, Value.category]; done) | rfl
theorem pn_3 : plainName "java/lang/Enum" = true := by first | (simp [plainName, overriddenIn]; done) | decide +kernel
theorem pd_3 : parseMethodDescriptor "()I" = some ⟨[], some .int⟩ := by decide +kernel
theorem d5_7 : decode prog_41_method_3_code 7 = .ok (.lookupswitch 25 #[(0, 35), (1, 42)], 25) := by decide +kernel
theorem d5_42 : decode prog_41_method_3_code 42 = .ok (.aload_n 0, 1) := by decide +kernel
theorem d5_43 : decode prog_41_method_3_code 43 = .ok (.getfield 26, 3) := by decide +kernel
theorem d5_46 : decode prog_41_method_3_code 46 = .ok (.goto 24, 3) := by decide +kernel
theorem d5_70 : decode prog_41_method_3_code 70 = .ok (.ireturn, 1) := by decide +kernel
theorem ef_5 (m : MethodId) (r0 : Addr) : entryFrame m #[(.ref r0)] 1 = mkF m 0 #[oA r0] [] := by first | (simp [entryFrame, mkF, argsToLocals, Value.category]; done) | rfl
theorem d5_49 : decode prog_41_method_3_code 49 = .ok (.aload_n 0, 1) := by decide +kernel
theorem d5_50 : decode prog_41_method_3_code 50 = .ok (.getfield 26, 3) := by decide +kernel
theorem d5_53 : decode prog_41_method_3_code 53 = .ok (.bipush 12, 2) := by decide +kernel
theorem d5_55 : decode prog_41_method_3_code 55 = .ok (.irem, 1) := by decide +kernel
theorem d5_56 : decode prog_41_method_3_code 56 = .ok (.ifCond .ne 13, 3) := by decide +kernel
theorem d5_59 : decode prog_41_method_3_code 59 = .ok (.aload_n 0, 1) := by decide +kernel
theorem d5_60 : decode prog_41_method_3_code 60 = .ok (.getfield 26, 3) := by decide +kernel
theorem d5_63 : decode prog_41_method_3_code 63 = .ok (.bipush 12, 2) := by decide +kernel
theorem d5_65 : decode prog_41_method_3_code 65 = .ok (.idiv, 1) := by decide +kernel
theorem d5_66 : decode prog_41_method_3_code 66 = .ok (.goto 4, 3) := by decide +kernel
theorem d5_69 : decode prog_41_method_3_code 69 = .ok (.iconst (-1), 1) := by decide +kernel
theorem ef_0 (m : MethodId) (x0 : Int32) (x1 : Int32) (x2 : Int32) (x3 : Int32) : entryFrame m #[(.int x0), (.int x1), (.int x2), (.int x3)] maxLocals = mkF m 0 #[oI x0, oI x1, oI x2, oI x3, oU, oU, oU, oU, oU] [] := by first | (simp [entryFrame, mkF, argsToLocals, Value.category, maxLocals]; done) | rfl
theorem pn_4 : plainName "com/example/nameroll/nameroll/core/PeriodWholeYearsPinLaw" = true := by first | (simp [plainName, overriddenIn]; done) | decide +kernel
set_option maxRecDepth 65536 in
set_option maxHeartbeats 40000000 in
theorem rm2_1 (l : Launch) (Z : State) (a0 : Array Value) (hw : ∀ d ∈ tables_1, d.before a0 Z = true) (ws : List Jvm.Cond) (w_MONTHS w_YEARS : Addr) (W : own_W Z w_MONTHS w_YEARS) (c0 : Addr) (h0 : Heap) (n0 : Nat) (O0 : Old Z n0 h0) (E_c0 : Exa Z h0 c0 "com/example/nameroll/nameroll/core/Period") (F_c0_unit : Fld Z h0 c0 "com/example/nameroll/nameroll/core/Period" "unit" "Lcom/example/nameroll/nameroll/core/Period$Unit;" .null) (F_c0_value : Fld Z h0 c0 "com/example/nameroll/nameroll/core/Period" "value" "I" (.int (0 : Int32))) (n_c0 : n0 ≤ c0) :
    MetFree l (⟨"java/lang/Record", "<init>", "()V"⟩ : MethodName) (head1 (Jvm.Cond.code (⟨"java/lang/Record", "<init>", "()V"⟩ : MethodName) jdk_30_method_1_code 1 none :: ws) ({ frames := 1, cells := 0, slots := 0, locals := 12 } : Room)) (fun a U => a = #[(.ref c0)] ∧ Z.Warmed39 U.vm ∧ U.heap = h0) (fun _ _ _ _ _ => True) (fun _ U o U' => ∃ v L, o = .returned v ∧ own_Q none n0 h0 v U'.heap L ∧ FrameEnd U o U' L ({ frames := 1, cells := 0, slots := 0, locals := 12 } : Room).cells ({ frames := 1, cells := 0, slots := 0, locals := 12 } : Room).slots) := by
  refine MetFree.of_bodySF (plainFor_of_name pn_0) hisR ?_
  intro p e s m args below meth c s₁ Bd hml0 hP hK
  obtain ⟨rfl, hZ, hh⟩ := hP
  have hx := Bd.exec
  have hby := Bd.bytes
  have hml : c.maxLocals = 1 := hml0
  have hlk := BodyLoose.notSynchronized Bd
  have hret := Bd.returns
  have hown : s.vm.findClass "java/lang/Record" = some m.cls := findClass_of_methodNamed Bd.named
  have hnm := (name_of_methodNamed Bd.named Bd.method).1
  have X0 : Stand p l e ({ frames := 1, cells := 0, slots := 0, locals := 12 } : Room) s m #[(.ref c0)] below meth c s₁ [] 0 0 := Stand.of_body Bd
  have e0 : s₁.heap = h0 := by rw [← hh, Bd.state]; rfl
  have N0 := Fr.nil n0
  rw [ef_2 m c0]
  show Go p e below _ (s₁.setTop (mkF m 0 #[oA c0] []))
  refine own_aload_n 1 X0 hx hby d2_0 rfl rfl rfl ?_
  refine own_initO 4 0 X0 hx hby hZ hown (own_w hw 15 rfl) (own_w hw 16 rfl) (own_w hw 17 rfl) (by rw [hml]; rfl) d2_1 rfl e0 rfl (by decide) (by decide) ?_
  intro T6 X6 e6
  exact own_ret0 (Q := own_Q none n0 h0) X6 hx hby hret hlk d2_4 (by decide) (by decide) ⟨rfl, N0, e6⟩
set_option maxRecDepth 65536 in
set_option maxHeartbeats 40000000 in
theorem rm4_2 (l : Launch) (Z : State) (a0 : Array Value) (hw : ∀ d ∈ tables_1, d.before a0 Z = true) (ws : List Jvm.Cond) (w_MONTHS w_YEARS : Addr) (W : own_W Z w_MONTHS w_YEARS) (z0 : Addr) (h0 : Heap) (n0 : Nat) (O0 : Old Z n0 h0)  :
    MetFree l (⟨"java/util/Objects", "requireNonNull", "(Ljava/lang/Object;Ljava/lang/String;)Ljava/lang/Object;"⟩ : MethodName) (head1 (Jvm.Cond.code (⟨"java/util/Objects", "requireNonNull", "(Ljava/lang/Object;Ljava/lang/String;)Ljava/lang/Object;"⟩ : MethodName) jdk_31_method_11_code 2 (some (.object "java/lang/Object")) :: ws) ({ frames := 0, cells := 0, slots := 0, locals := 0 } : Room)) (fun a U => a = #[(.ref w_YEARS), (.ref z0)] ∧ Z.Warmed39 U.vm ∧ U.heap = h0) (fun _ _ _ _ _ => True) (fun _ U o U' => ∃ v L, o = .returned v ∧ own_Q (some (.ref w_YEARS)) n0 h0 v U'.heap L ∧ FrameEnd U o U' L ({ frames := 0, cells := 0, slots := 0, locals := 0 } : Room).cells ({ frames := 0, cells := 0, slots := 0, locals := 0 } : Room).slots) := by
  refine MetFree.of_bodySF (plainFor_of_name pn_1) hisR ?_
  intro p e s m args below meth c s₁ Bd hml0 hP hK
  obtain ⟨rfl, hZ, hh⟩ := hP
  have hx := Bd.exec
  have hby := Bd.bytes
  have hml : c.maxLocals = 2 := hml0
  have hlk := BodyLoose.notSynchronized Bd
  have hret := Bd.returns
  have hown : s.vm.findClass "java/util/Objects" = some m.cls := findClass_of_methodNamed Bd.named
  have hnm := (name_of_methodNamed Bd.named Bd.method).1
  have X0 : Stand p l e ({ frames := 0, cells := 0, slots := 0, locals := 0 } : Room) s m #[(.ref w_YEARS), (.ref z0)] below meth c s₁ [] 0 0 := Stand.of_body Bd
  have e0 : s₁.heap = h0 := by rw [← hh, Bd.state]; rfl
  have N0 := Fr.nil n0
  rw [ef_4 m w_YEARS z0]
  show Go p e below _ (s₁.setTop (mkF m 0 #[oA w_YEARS, oA z0] []))
  refine own_aload_n 1 X0 hx hby d4_0 rfl rfl rfl ?_
  refine own_nnY 13 X0 hx hby d4_1 (by decide) (by decide) ?_
  refine own_aload_n 14 X0 hx hby d4_13 rfl rfl rfl ?_
  exact own_ret (Q := own_Q (some (.ref w_YEARS)) n0 h0) X0 hx hby hret hlk d4_14 rfl (Or.inr (Or.inr (Or.inr (Or.inr ⟨rfl, rfl, rfl⟩)))) (by decide) (by decide) ⟨rfl, N0, e0⟩
def Q_rm1_3 (Z : State) (w_MONTHS w_YEARS : Addr) (c0 : Addr) (x0 : Int32) (h0 : Heap) (n0 : Nat) (v : Option Value) (h : Heap) (L : List Loc) : Prop := v = none ∧ Fr n0 L ∧ Keep h0 h [c0] ∧ Exa Z h c0 "com/example/nameroll/nameroll/core/Period" ∧ Fld Z h c0 "com/example/nameroll/nameroll/core/Period" "unit" "Lcom/example/nameroll/nameroll/core/Period$Unit;" (.ref w_YEARS) ∧ Fld Z h c0 "com/example/nameroll/nameroll/core/Period" "value" "I" (.int x0)
set_option maxRecDepth 65536 in
set_option maxHeartbeats 40000000 in
theorem rm1_3 (l : Launch) (Z : State) (a0 : Array Value) (hw : ∀ d ∈ tables_1, d.before a0 Z = true) (ws : List Jvm.Cond) (w_MONTHS w_YEARS : Addr) (W : own_W Z w_MONTHS w_YEARS) (c0 : Addr) (x0 : Int32) (h0 : Heap) (n0 : Nat) (O0 : Old Z n0 h0) (E_c0 : Exa Z h0 c0 "com/example/nameroll/nameroll/core/Period") (F_c0_unit : Fld Z h0 c0 "com/example/nameroll/nameroll/core/Period" "unit" "Lcom/example/nameroll/nameroll/core/Period$Unit;" .null) (F_c0_value : Fld Z h0 c0 "com/example/nameroll/nameroll/core/Period" "value" "I" (.int (0 : Int32))) (n_c0 : n0 ≤ c0) (hc10 : ¬ (x0 < (1 : Int32))) (hc12 : ¬ ((99 : Int32) < x0)) :
    MetFree l (⟨"com/example/nameroll/nameroll/core/Period", "<init>", "(ILcom/example/nameroll/nameroll/core/Period$Unit;)V"⟩ : MethodName) (head1 (Jvm.Cond.code (⟨"com/example/nameroll/nameroll/core/Period", "<init>", "(ILcom/example/nameroll/nameroll/core/Period$Unit;)V"⟩ : MethodName) prog_41_method_1_code 3 none :: ws) ({ frames := 2, cells := 2, slots := 20, locals := 24 } : Room)) (fun a U => a = #[(.ref c0), (.int x0), (.ref w_YEARS)] ∧ Z.Warmed39 U.vm ∧ U.heap = h0) (fun _ _ _ _ _ => True) (fun _ U o U' => ∃ v L, o = .returned v ∧ Q_rm1_3 Z w_MONTHS w_YEARS c0 x0 h0 n0 v U'.heap L ∧ ReturnedEndW U o U' L ({ frames := 2, cells := 2, slots := 20, locals := 24 } : Room).cells ({ frames := 2, cells := 2, slots := 20, locals := 24 } : Room).slots) := by
  refine MetFree.of_bodySF (plainFor_of_name pn_2) hisR ?_
  intro p e s m args below meth c s₁ Bd hml0 hP hK
  obtain ⟨rfl, hZ, hh⟩ := hP
  have hx := Bd.exec
  have hby := Bd.bytes
  have hml : c.maxLocals = 3 := hml0
  have hlk := BodyLoose.notSynchronized Bd
  have hret := Bd.returns
  have hown : s.vm.findClass "com/example/nameroll/nameroll/core/Period" = some m.cls := findClass_of_methodNamed Bd.named
  have hnm := (name_of_methodNamed Bd.named Bd.method).1
  have X0 : Stand p l e ({ frames := 2, cells := 2, slots := 20, locals := 24 } : Room) (s.setVm s.vm) m #[(.ref c0), (.int x0), (.ref w_YEARS)] below meth c s₁ [] 0 0 := Stand.of_body Bd
  have e0 : s₁.heap = h0 := by rw [← hh, Bd.state]; rfl
  have N0 := Fr.nil n0
  have hZ : Z.Warmed39 (s.setVm s.vm).vm := hZ
  have hown : (s.setVm s.vm).vm.findClass "com/example/nameroll/nameroll/core/Period" = some m.cls := hown
  rw [ef_1 m c0 x0 w_YEARS]
  show Go p e below _ (s₁.setTop (mkF m 0 #[oA c0, oI x0, oA w_YEARS] []))
  have hS := (State.WarmedH.refl s).since 0
  have hk : 0 ≤ h0.size := Nat.zero_le _
  refine own_aload_n 1 X0 hx hby d1_0 rfl rfl rfl ?_
  refine own_spec (W := 0) 4 (rm2_1 l Z a0 hw [] w_MONTHS w_YEARS W c0 h0 n0 O0 E_c0 F_c0_unit F_c0_value n_c0) X0 hx hby hZ hown rfl (own_w hw 10 rfl) (own_w hw 11 rfl) (own_w hw 13 rfl) (own_w hw 14 rfl) (by decide) (by rw [hml]; rfl) c0 [] [] pd_0 rfl d1_1 rfl e0 rfl rfl rfl (by decide) (by decide) (by decide) (by decide) ?_
  rintro _ T7 L7 X7 ⟨rfl, N7, e7⟩
  have N7 := Fr.app N0 N7
  show Go p e below _ (T7.setTop (mkF m 4 _ []))
  refine own_aload_n 5 X7 hx hby d1_4 rfl rfl rfl ?_
  refine own_ldcS 7 16 X7 hx hby hZ hown (own_w hw 18 rfl) (own_wS hw) e7 hS hk d1_5 rfl (by decide) (by decide) (by decide) (by decide) ?_
  intro b8 T8 h8 q8 X8 e8 E8 hS hk' hZ hown
  have E_c0_8 := E_c0.ext E8
  have F_c0_unit_8 := F_c0_unit.ext E8
  have F_c0_value_8 := F_c0_value.ext E8
  have K8 : Keep h0 h8 [c0] := (Keep.refl h0 [c0]).ext E8
  have O8 := O0.ext E8
  have hk := Nat.le_trans hk E8.1
  have hk := hk'
  refine own_callS (W := 0) 10 (rm4_2 l Z a0 hw [] w_MONTHS w_YEARS W b8 h8 n0 O8) X8 hx hby hZ hown (own_w hw 26 rfl) (own_w hw 27 rfl) (own_w hw 28 rfl) (own_w hw 29 rfl) (by decide) (by rw [hml]; rfl) [(.ref w_YEARS), (.ref b8)] [] pd_1 rfl d1_7 rfl e8 rfl rfl rfl (by decide) (by decide) (by decide) (by decide) ?_
  rintro _ T9 L9 X9 ⟨rfl, N9, e9⟩
  have N9 := Fr.app N7 N9
  show Go p e below _ (T9.setTop (mkF m 10 _ [(.ref w_YEARS)]))
  refine own_pop 11 X9 hx hby d1_10 rfl rfl ?_
  refine own_iload_n 12 X9 hx hby d1_11 rfl rfl ?_
  refine own_iconst 13 (1 : Int32) X9 hx hby d1_12 rfl (by decide) ?_
  refine own_icN 16 X9 hx hby d1_13 rfl (flt hc10).1 ?_
  refine own_iload_n 17 X9 hx hby d1_16 rfl rfl ?_
  refine own_bipush 19 (99 : Int32) X9 hx hby d1_17 rfl (by decide) ?_
  refine own_icY 36 X9 hx hby d1_19 (by decide) (by decide) (flt hc12).2.2.2 ?_
  refine own_aload_n 37 X9 hx hby d1_36 rfl rfl rfl ?_
  refine own_iload_n 38 X9 hx hby d1_37 rfl rfl ?_
  refine own_putF 41 X9 hx hby hZ .int hown (own_w hw 30 rfl) e9 F_c0_value_8 E_c0_8 (Or.inr ⟨(own_w hw 31 rfl), rfl, hnm⟩) (own_w hw 2 rfl) (by decide) rfl rfl d1_38 rfl ?_
  intro T14 h14 X14 e14 W14
  have E_c0_14 := E_c0_8.wr W14
  have F_c0_unit_14 := F_c0_unit_8.other W14 (Or.inr (slot_ne (Or.inr (own_w hw 33 rfl)) (Or.inr (own_w hw 31 rfl)) (by decide) (t := (.object "com/example/nameroll/nameroll/core/Period$Unit")) (t' := .int) (by decide) (by decide)))
  have F_c0_value_14 := F_c0_value_8.same W14
  have K14 : Keep h0 h14 [c0] := K8.wr W14 (Or.inl (List.mem_of_getElem? (i := 0) rfl))
  have O14 := O8.wr W14 n_c0
  have N14 := Fr.snoc X14 N9 n_c0
  have hk := Nat.le_trans hk (Keep.of_wr W14).1
  refine own_aload_n 42 X14 hx hby d1_41 rfl rfl rfl ?_
  refine own_aload_n 43 X14 hx hby d1_42 rfl rfl rfl ?_
  refine own_putF 46 X14 hx hby hZ (.object "com/example/nameroll/nameroll/core/Period$Unit") hown (own_w hw 32 rfl) e14 F_c0_unit_14 E_c0_14 (Or.inr ⟨(own_w hw 33 rfl), rfl, hnm⟩) (own_w hw 2 rfl) (by decide) rfl rfl d1_43 rfl ?_
  intro T15 h15 X15 e15 W15
  have E_c0_15 := E_c0_14.wr W15
  have F_c0_unit_15 := F_c0_unit_14.same W15
  have F_c0_value_15 := F_c0_value_14.other W15 (Or.inr (slot_ne (Or.inr (own_w hw 31 rfl)) (Or.inr (own_w hw 33 rfl)) (by decide) (t := .int) (t' := (.object "com/example/nameroll/nameroll/core/Period$Unit")) (by decide) (by decide)))
  have K15 : Keep h0 h15 [c0] := K14.wr W15 (Or.inl (List.mem_of_getElem? (i := 0) rfl))
  have O15 := O14.wr W15 n_c0
  have N15 := Fr.snoc X15 N14 n_c0
  have hk := Nat.le_trans hk (Keep.of_wr W15).1
  exact own_ret0W (Q := Q_rm1_3 Z w_MONTHS w_YEARS c0 x0 h0 n0) X15 hx hby hret hlk hS (by rw [e15]; exact hk) d1_46 (by decide) (by decide) (by rw [e15]; exact ⟨rfl, N15, K15, E_c0_15, F_c0_unit_15, F_c0_value_15⟩)
set_option maxRecDepth 65536 in
set_option maxHeartbeats 40000000 in
theorem rm6_4 (l : Launch) (Z : State) (a0 : Array Value) (hw : ∀ d ∈ tables_1, d.before a0 Z = true) (ws : List Jvm.Cond) (w_MONTHS w_YEARS : Addr) (W : own_W Z w_MONTHS w_YEARS)  (h0 : Heap) (n0 : Nat) (O0 : Old Z n0 h0)  :
    MetFree l (⟨"java/lang/Enum", "ordinal", "()I"⟩ : MethodName) (head1 (Jvm.Cond.code (⟨"java/lang/Enum", "ordinal", "()I"⟩ : MethodName) jdk_37_method_2_code 1 (some .int) :: ws) ({ frames := 0, cells := 0, slots := 0, locals := 0 } : Room)) (fun a U => a = #[(.ref w_YEARS)] ∧ Z.Warmed39 U.vm ∧ U.heap = h0) (fun _ _ _ _ _ => True) (fun _ U o U' => ∃ v L, o = .returned v ∧ own_Q (some (.int (0 : Int32))) n0 h0 v U'.heap L ∧ FrameEnd U o U' L ({ frames := 0, cells := 0, slots := 0, locals := 0 } : Room).cells ({ frames := 0, cells := 0, slots := 0, locals := 0 } : Room).slots) := by
  refine MetFree.of_bodySF (plainFor_of_name pn_3) hisR ?_
  intro p e s m args below meth c s₁ Bd hml0 hP hK
  obtain ⟨rfl, hZ, hh⟩ := hP
  have hx := Bd.exec
  have hby := Bd.bytes
  have hml : c.maxLocals = 1 := hml0
  have hlk := BodyLoose.notSynchronized Bd
  have hret := Bd.returns
  have hown : s.vm.findClass "java/lang/Enum" = some m.cls := findClass_of_methodNamed Bd.named
  have hnm := (name_of_methodNamed Bd.named Bd.method).1
  have X0 : Stand p l e ({ frames := 0, cells := 0, slots := 0, locals := 0 } : Room) s m #[(.ref w_YEARS)] below meth c s₁ [] 0 0 := Stand.of_body Bd
  have e0 : s₁.heap = h0 := by rw [← hh, Bd.state]; rfl
  have N0 := Fr.nil n0
  rw [ef_6 m w_YEARS]
  show Go p e below _ (s₁.setTop (mkF m 0 #[oA w_YEARS] []))
  refine own_aload_n 1 X0 hx hby d6_0 rfl rfl rfl ?_
  refine own_getF 4 X0 hx hby hZ hown (own_w hw 46 rfl) e0 (W.2.2.2.2.2.ext O0.2) d6_1 rfl ?_
  intro T18 X18 e18
  exact own_ret (Q := own_Q (some (.int (0 : Int32))) n0 h0) X18 hx hby hret hlk d6_4 rfl (Or.inl ⟨rfl, by simp, _, rfl⟩) (by decide) (by decide) ⟨rfl, N0, e18⟩
set_option maxRecDepth 65536 in
set_option maxHeartbeats 40000000 in
theorem rm5_5 (l : Launch) (Z : State) (a0 : Array Value) (hw : ∀ d ∈ tables_1, d.before a0 Z = true) (ws : List Jvm.Cond) (w_MONTHS w_YEARS : Addr) (W : own_W Z w_MONTHS w_YEARS) (c0 : Addr) (x0 : Int32) (h0 : Heap) (n0 : Nat) (O0 : Old Z n0 h0) (E_c0 : Exa Z h0 c0 "com/example/nameroll/nameroll/core/Period") (F_c0_unit : Fld Z h0 c0 "com/example/nameroll/nameroll/core/Period" "unit" "Lcom/example/nameroll/nameroll/core/Period$Unit;" (.ref w_YEARS)) (F_c0_value : Fld Z h0 c0 "com/example/nameroll/nameroll/core/Period" "value" "I" (.int x0)) (n_c0 : n0 ≤ c0) :
    MetFree l (⟨"com/example/nameroll/nameroll/core/Period", "wholeYears", "()I"⟩ : MethodName) (head1 (Jvm.Cond.code (⟨"com/example/nameroll/nameroll/core/Period", "wholeYears", "()I"⟩ : MethodName) prog_41_method_3_code 1 (some .int) :: ws) ({ frames := 1, cells := 0, slots := 0, locals := 12 } : Room)) (fun a U => a = #[(.ref c0)] ∧ Z.Warmed39 U.vm ∧ U.heap = h0) (fun _ _ _ _ _ => True) (fun _ U o U' => ∃ v L, o = .returned v ∧ own_Q (some (.int x0)) n0 h0 v U'.heap L ∧ FrameEnd U o U' L ({ frames := 1, cells := 0, slots := 0, locals := 12 } : Room).cells ({ frames := 1, cells := 0, slots := 0, locals := 12 } : Room).slots) := by
  refine MetFree.of_bodySF (plainFor_of_name pn_2) hisR ?_
  intro p e s m args below meth c s₁ Bd hml0 hP hK
  obtain ⟨rfl, hZ, hh⟩ := hP
  have hx := Bd.exec
  have hby := Bd.bytes
  have hml : c.maxLocals = 1 := hml0
  have hlk := BodyLoose.notSynchronized Bd
  have hret := Bd.returns
  have hown : s.vm.findClass "com/example/nameroll/nameroll/core/Period" = some m.cls := findClass_of_methodNamed Bd.named
  have hnm := (name_of_methodNamed Bd.named Bd.method).1
  have X0 : Stand p l e ({ frames := 1, cells := 0, slots := 0, locals := 12 } : Room) s m #[(.ref c0)] below meth c s₁ [] 0 0 := Stand.of_body Bd
  have e0 : s₁.heap = h0 := by rw [← hh, Bd.state]; rfl
  have N0 := Fr.nil n0
  rw [ef_5 m c0]
  show Go p e below _ (s₁.setTop (mkF m 0 #[oA c0] []))
  refine own_aload_n 1 X0 hx hby d5_0 rfl rfl rfl ?_
  refine own_getF 4 X0 hx hby hZ hown (own_w hw 32 rfl) e0 F_c0_unit d5_1 rfl ?_
  intro T17 X17 e17
  refine own_virtUp (W := 0) 7 "java/lang/Enum" (rm6_4 l Z a0 hw [] w_MONTHS w_YEARS W  h0 n0 O0) X17 hx hby hZ hown (own_w hw 39 rfl) (own_w hw 40 rfl) (own_w hw 41 rfl) (by decide) (own_w hw 43 rfl) (own_w hw 42 rfl) (own_w hw 44 rfl) (own_w hw 45 rfl) (by rw [hml]; rfl) w_YEARS [] [] pd_3 rfl d5_4 rfl e17 (W.2.2.2.1.ext O0.2) rfl rfl rfl (by decide) (by decide) (by decide) (by decide) ?_
  rintro _ T19 L19 X19 ⟨rfl, N19, e19⟩
  have N19 := Fr.app N0 N19
  show Go p e below _ (T19.setTop (mkF m 7 _ [(.int (0 : Int32))]))
  refine own_lsw 42 X19 hx hby d5_7 (by decide) (a := 0) (off := 35) (by decide) (by decide) (by decide) ?_
  refine own_aload_n 43 X19 hx hby d5_42 rfl rfl rfl ?_
  refine own_getF 46 X19 hx hby hZ hown (own_w hw 30 rfl) e19 F_c0_value d5_43 rfl ?_
  intro T20 X20 e20
  refine own_goto 70 X20 hx hby d5_46 (by decide) (by decide) ?_
  exact own_ret (Q := own_Q (some (.int x0)) n0 h0) X20 hx hby hret hlk d5_70 rfl (Or.inl ⟨rfl, by simp, _, rfl⟩) (by decide) (by decide) ⟨rfl, N19, e20⟩
set_option maxRecDepth 65536 in
set_option maxHeartbeats 40000000 in
theorem rm4_6 (l : Launch) (Z : State) (a0 : Array Value) (hw : ∀ d ∈ tables_1, d.before a0 Z = true) (ws : List Jvm.Cond) (w_MONTHS w_YEARS : Addr) (W : own_W Z w_MONTHS w_YEARS) (z0 : Addr) (h0 : Heap) (n0 : Nat) (O0 : Old Z n0 h0)  :
    MetFree l (⟨"java/util/Objects", "requireNonNull", "(Ljava/lang/Object;Ljava/lang/String;)Ljava/lang/Object;"⟩ : MethodName) (head1 (Jvm.Cond.code (⟨"java/util/Objects", "requireNonNull", "(Ljava/lang/Object;Ljava/lang/String;)Ljava/lang/Object;"⟩ : MethodName) jdk_31_method_11_code 2 (some (.object "java/lang/Object")) :: ws) ({ frames := 0, cells := 0, slots := 0, locals := 0 } : Room)) (fun a U => a = #[(.ref w_MONTHS), (.ref z0)] ∧ Z.Warmed39 U.vm ∧ U.heap = h0) (fun _ _ _ _ _ => True) (fun _ U o U' => ∃ v L, o = .returned v ∧ own_Q (some (.ref w_MONTHS)) n0 h0 v U'.heap L ∧ FrameEnd U o U' L ({ frames := 0, cells := 0, slots := 0, locals := 0 } : Room).cells ({ frames := 0, cells := 0, slots := 0, locals := 0 } : Room).slots) := by
  refine MetFree.of_bodySF (plainFor_of_name pn_1) hisR ?_
  intro p e s m args below meth c s₁ Bd hml0 hP hK
  obtain ⟨rfl, hZ, hh⟩ := hP
  have hx := Bd.exec
  have hby := Bd.bytes
  have hml : c.maxLocals = 2 := hml0
  have hlk := BodyLoose.notSynchronized Bd
  have hret := Bd.returns
  have hown : s.vm.findClass "java/util/Objects" = some m.cls := findClass_of_methodNamed Bd.named
  have hnm := (name_of_methodNamed Bd.named Bd.method).1
  have X0 : Stand p l e ({ frames := 0, cells := 0, slots := 0, locals := 0 } : Room) s m #[(.ref w_MONTHS), (.ref z0)] below meth c s₁ [] 0 0 := Stand.of_body Bd
  have e0 : s₁.heap = h0 := by rw [← hh, Bd.state]; rfl
  have N0 := Fr.nil n0
  rw [ef_4 m w_MONTHS z0]
  show Go p e below _ (s₁.setTop (mkF m 0 #[oA w_MONTHS, oA z0] []))
  refine own_aload_n 1 X0 hx hby d4_0 rfl rfl rfl ?_
  refine own_nnY 13 X0 hx hby d4_1 (by decide) (by decide) ?_
  refine own_aload_n 14 X0 hx hby d4_13 rfl rfl rfl ?_
  exact own_ret (Q := own_Q (some (.ref w_MONTHS)) n0 h0) X0 hx hby hret hlk d4_14 rfl (Or.inr (Or.inr (Or.inr (Or.inr ⟨rfl, rfl, rfl⟩)))) (by decide) (by decide) ⟨rfl, N0, e0⟩
def Q_rm1_7 (Z : State) (w_MONTHS w_YEARS : Addr) (c0 : Addr) (x0 : Int32) (h0 : Heap) (n0 : Nat) (v : Option Value) (h : Heap) (L : List Loc) : Prop := v = none ∧ Fr n0 L ∧ Keep h0 h [c0] ∧ Exa Z h c0 "com/example/nameroll/nameroll/core/Period" ∧ Fld Z h c0 "com/example/nameroll/nameroll/core/Period" "unit" "Lcom/example/nameroll/nameroll/core/Period$Unit;" (.ref w_MONTHS) ∧ Fld Z h c0 "com/example/nameroll/nameroll/core/Period" "value" "I" (.int x0)
set_option maxRecDepth 65536 in
set_option maxHeartbeats 40000000 in
theorem rm1_7 (l : Launch) (Z : State) (a0 : Array Value) (hw : ∀ d ∈ tables_1, d.before a0 Z = true) (ws : List Jvm.Cond) (w_MONTHS w_YEARS : Addr) (W : own_W Z w_MONTHS w_YEARS) (c0 : Addr) (x0 : Int32) (h0 : Heap) (n0 : Nat) (O0 : Old Z n0 h0) (E_c0 : Exa Z h0 c0 "com/example/nameroll/nameroll/core/Period") (F_c0_unit : Fld Z h0 c0 "com/example/nameroll/nameroll/core/Period" "unit" "Lcom/example/nameroll/nameroll/core/Period$Unit;" .null) (F_c0_value : Fld Z h0 c0 "com/example/nameroll/nameroll/core/Period" "value" "I" (.int (0 : Int32))) (n_c0 : n0 ≤ c0) (hc34 : ¬ (x0 < (1 : Int32))) (hc36 : ¬ ((99 : Int32) < x0)) :
    MetFree l (⟨"com/example/nameroll/nameroll/core/Period", "<init>", "(ILcom/example/nameroll/nameroll/core/Period$Unit;)V"⟩ : MethodName) (head1 (Jvm.Cond.code (⟨"com/example/nameroll/nameroll/core/Period", "<init>", "(ILcom/example/nameroll/nameroll/core/Period$Unit;)V"⟩ : MethodName) prog_41_method_1_code 3 none :: ws) ({ frames := 2, cells := 2, slots := 20, locals := 24 } : Room)) (fun a U => a = #[(.ref c0), (.int x0), (.ref w_MONTHS)] ∧ Z.Warmed39 U.vm ∧ U.heap = h0) (fun _ _ _ _ _ => True) (fun _ U o U' => ∃ v L, o = .returned v ∧ Q_rm1_7 Z w_MONTHS w_YEARS c0 x0 h0 n0 v U'.heap L ∧ ReturnedEndW U o U' L ({ frames := 2, cells := 2, slots := 20, locals := 24 } : Room).cells ({ frames := 2, cells := 2, slots := 20, locals := 24 } : Room).slots) := by
  refine MetFree.of_bodySF (plainFor_of_name pn_2) hisR ?_
  intro p e s m args below meth c s₁ Bd hml0 hP hK
  obtain ⟨rfl, hZ, hh⟩ := hP
  have hx := Bd.exec
  have hby := Bd.bytes
  have hml : c.maxLocals = 3 := hml0
  have hlk := BodyLoose.notSynchronized Bd
  have hret := Bd.returns
  have hown : s.vm.findClass "com/example/nameroll/nameroll/core/Period" = some m.cls := findClass_of_methodNamed Bd.named
  have hnm := (name_of_methodNamed Bd.named Bd.method).1
  have X0 : Stand p l e ({ frames := 2, cells := 2, slots := 20, locals := 24 } : Room) (s.setVm s.vm) m #[(.ref c0), (.int x0), (.ref w_MONTHS)] below meth c s₁ [] 0 0 := Stand.of_body Bd
  have e0 : s₁.heap = h0 := by rw [← hh, Bd.state]; rfl
  have N0 := Fr.nil n0
  have hZ : Z.Warmed39 (s.setVm s.vm).vm := hZ
  have hown : (s.setVm s.vm).vm.findClass "com/example/nameroll/nameroll/core/Period" = some m.cls := hown
  rw [ef_1 m c0 x0 w_MONTHS]
  show Go p e below _ (s₁.setTop (mkF m 0 #[oA c0, oI x0, oA w_MONTHS] []))
  have hS := (State.WarmedH.refl s).since 0
  have hk : 0 ≤ h0.size := Nat.zero_le _
  refine own_aload_n 1 X0 hx hby d1_0 rfl rfl rfl ?_
  refine own_spec (W := 0) 4 (rm2_1 l Z a0 hw [] w_MONTHS w_YEARS W c0 h0 n0 O0 E_c0 F_c0_unit F_c0_value n_c0) X0 hx hby hZ hown rfl (own_w hw 10 rfl) (own_w hw 11 rfl) (own_w hw 13 rfl) (own_w hw 14 rfl) (by decide) (by rw [hml]; rfl) c0 [] [] pd_0 rfl d1_1 rfl e0 rfl rfl rfl (by decide) (by decide) (by decide) (by decide) ?_
  rintro _ T31 L31 X31 ⟨rfl, N31, e31⟩
  have N31 := Fr.app N0 N31
  show Go p e below _ (T31.setTop (mkF m 4 _ []))
  refine own_aload_n 5 X31 hx hby d1_4 rfl rfl rfl ?_
  refine own_ldcS 7 16 X31 hx hby hZ hown (own_w hw 18 rfl) (own_wS hw) e31 hS hk d1_5 rfl (by decide) (by decide) (by decide) (by decide) ?_
  intro b32 T32 h32 q32 X32 e32 E32 hS hk' hZ hown
  have E_c0_32 := E_c0.ext E32
  have F_c0_unit_32 := F_c0_unit.ext E32
  have F_c0_value_32 := F_c0_value.ext E32
  have K32 : Keep h0 h32 [c0] := (Keep.refl h0 [c0]).ext E32
  have O32 := O0.ext E32
  have hk := Nat.le_trans hk E32.1
  have hk := hk'
  refine own_callS (W := 0) 10 (rm4_6 l Z a0 hw [] w_MONTHS w_YEARS W b32 h32 n0 O32) X32 hx hby hZ hown (own_w hw 26 rfl) (own_w hw 27 rfl) (own_w hw 28 rfl) (own_w hw 29 rfl) (by decide) (by rw [hml]; rfl) [(.ref w_MONTHS), (.ref b32)] [] pd_1 rfl d1_7 rfl e32 rfl rfl rfl (by decide) (by decide) (by decide) (by decide) ?_
  rintro _ T33 L33 X33 ⟨rfl, N33, e33⟩
  have N33 := Fr.app N31 N33
  show Go p e below _ (T33.setTop (mkF m 10 _ [(.ref w_MONTHS)]))
  refine own_pop 11 X33 hx hby d1_10 rfl rfl ?_
  refine own_iload_n 12 X33 hx hby d1_11 rfl rfl ?_
  refine own_iconst 13 (1 : Int32) X33 hx hby d1_12 rfl (by decide) ?_
  refine own_icN 16 X33 hx hby d1_13 rfl (flt hc34).1 ?_
  refine own_iload_n 17 X33 hx hby d1_16 rfl rfl ?_
  refine own_bipush 19 (99 : Int32) X33 hx hby d1_17 rfl (by decide) ?_
  refine own_icY 36 X33 hx hby d1_19 (by decide) (by decide) (flt hc36).2.2.2 ?_
  refine own_aload_n 37 X33 hx hby d1_36 rfl rfl rfl ?_
  refine own_iload_n 38 X33 hx hby d1_37 rfl rfl ?_
  refine own_putF 41 X33 hx hby hZ .int hown (own_w hw 30 rfl) e33 F_c0_value_32 E_c0_32 (Or.inr ⟨(own_w hw 31 rfl), rfl, hnm⟩) (own_w hw 2 rfl) (by decide) rfl rfl d1_38 rfl ?_
  intro T38 h38 X38 e38 W38
  have E_c0_38 := E_c0_32.wr W38
  have F_c0_unit_38 := F_c0_unit_32.other W38 (Or.inr (slot_ne (Or.inr (own_w hw 33 rfl)) (Or.inr (own_w hw 31 rfl)) (by decide) (t := (.object "com/example/nameroll/nameroll/core/Period$Unit")) (t' := .int) (by decide) (by decide)))
  have F_c0_value_38 := F_c0_value_32.same W38
  have K38 : Keep h0 h38 [c0] := K32.wr W38 (Or.inl (List.mem_of_getElem? (i := 0) rfl))
  have O38 := O32.wr W38 n_c0
  have N38 := Fr.snoc X38 N33 n_c0
  have hk := Nat.le_trans hk (Keep.of_wr W38).1
  refine own_aload_n 42 X38 hx hby d1_41 rfl rfl rfl ?_
  refine own_aload_n 43 X38 hx hby d1_42 rfl rfl rfl ?_
  refine own_putF 46 X38 hx hby hZ (.object "com/example/nameroll/nameroll/core/Period$Unit") hown (own_w hw 32 rfl) e38 F_c0_unit_38 E_c0_38 (Or.inr ⟨(own_w hw 33 rfl), rfl, hnm⟩) (own_w hw 2 rfl) (by decide) rfl rfl d1_43 rfl ?_
  intro T39 h39 X39 e39 W39
  have E_c0_39 := E_c0_38.wr W39
  have F_c0_unit_39 := F_c0_unit_38.same W39
  have F_c0_value_39 := F_c0_value_38.other W39 (Or.inr (slot_ne (Or.inr (own_w hw 31 rfl)) (Or.inr (own_w hw 33 rfl)) (by decide) (t := .int) (t' := (.object "com/example/nameroll/nameroll/core/Period$Unit")) (by decide) (by decide)))
  have K39 : Keep h0 h39 [c0] := K38.wr W39 (Or.inl (List.mem_of_getElem? (i := 0) rfl))
  have O39 := O38.wr W39 n_c0
  have N39 := Fr.snoc X39 N38 n_c0
  have hk := Nat.le_trans hk (Keep.of_wr W39).1
  exact own_ret0W (Q := Q_rm1_7 Z w_MONTHS w_YEARS c0 x0 h0 n0) X39 hx hby hret hlk hS (by rw [e39]; exact hk) d1_46 (by decide) (by decide) (by rw [e39]; exact ⟨rfl, N39, K39, E_c0_39, F_c0_unit_39, F_c0_value_39⟩)
set_option maxRecDepth 65536 in
set_option maxHeartbeats 40000000 in
theorem rm6_8 (l : Launch) (Z : State) (a0 : Array Value) (hw : ∀ d ∈ tables_1, d.before a0 Z = true) (ws : List Jvm.Cond) (w_MONTHS w_YEARS : Addr) (W : own_W Z w_MONTHS w_YEARS)  (h0 : Heap) (n0 : Nat) (O0 : Old Z n0 h0)  :
    MetFree l (⟨"java/lang/Enum", "ordinal", "()I"⟩ : MethodName) (head1 (Jvm.Cond.code (⟨"java/lang/Enum", "ordinal", "()I"⟩ : MethodName) jdk_37_method_2_code 1 (some .int) :: ws) ({ frames := 0, cells := 0, slots := 0, locals := 0 } : Room)) (fun a U => a = #[(.ref w_MONTHS)] ∧ Z.Warmed39 U.vm ∧ U.heap = h0) (fun _ _ _ _ _ => True) (fun _ U o U' => ∃ v L, o = .returned v ∧ own_Q (some (.int (1 : Int32))) n0 h0 v U'.heap L ∧ FrameEnd U o U' L ({ frames := 0, cells := 0, slots := 0, locals := 0 } : Room).cells ({ frames := 0, cells := 0, slots := 0, locals := 0 } : Room).slots) := by
  refine MetFree.of_bodySF (plainFor_of_name pn_3) hisR ?_
  intro p e s m args below meth c s₁ Bd hml0 hP hK
  obtain ⟨rfl, hZ, hh⟩ := hP
  have hx := Bd.exec
  have hby := Bd.bytes
  have hml : c.maxLocals = 1 := hml0
  have hlk := BodyLoose.notSynchronized Bd
  have hret := Bd.returns
  have hown : s.vm.findClass "java/lang/Enum" = some m.cls := findClass_of_methodNamed Bd.named
  have hnm := (name_of_methodNamed Bd.named Bd.method).1
  have X0 : Stand p l e ({ frames := 0, cells := 0, slots := 0, locals := 0 } : Room) s m #[(.ref w_MONTHS)] below meth c s₁ [] 0 0 := Stand.of_body Bd
  have e0 : s₁.heap = h0 := by rw [← hh, Bd.state]; rfl
  have N0 := Fr.nil n0
  rw [ef_6 m w_MONTHS]
  show Go p e below _ (s₁.setTop (mkF m 0 #[oA w_MONTHS] []))
  refine own_aload_n 1 X0 hx hby d6_0 rfl rfl rfl ?_
  refine own_getF 4 X0 hx hby hZ hown (own_w hw 46 rfl) e0 (W.2.2.2.2.1.ext O0.2) d6_1 rfl ?_
  intro T42 X42 e42
  exact own_ret (Q := own_Q (some (.int (1 : Int32))) n0 h0) X42 hx hby hret hlk d6_4 rfl (Or.inl ⟨rfl, by simp, _, rfl⟩) (by decide) (by decide) ⟨rfl, N0, e42⟩
set_option maxRecDepth 65536 in
set_option maxHeartbeats 40000000 in
theorem rm5_9 (l : Launch) (Z : State) (a0 : Array Value) (hw : ∀ d ∈ tables_1, d.before a0 Z = true) (ws : List Jvm.Cond) (w_MONTHS w_YEARS : Addr) (W : own_W Z w_MONTHS w_YEARS) (c0 : Addr) (x0 : Int32) (h0 : Heap) (n0 : Nat) (O0 : Old Z n0 h0) (E_c0 : Exa Z h0 c0 "com/example/nameroll/nameroll/core/Period") (F_c0_unit : Fld Z h0 c0 "com/example/nameroll/nameroll/core/Period" "unit" "Lcom/example/nameroll/nameroll/core/Period$Unit;" (.ref w_MONTHS)) (F_c0_value : Fld Z h0 c0 "com/example/nameroll/nameroll/core/Period" "value" "I" (.int x0)) (n_c0 : n0 ≤ c0) (hc45 : (x0 % (12 : Int32)) = (0 : Int32)) :
    MetFree l (⟨"com/example/nameroll/nameroll/core/Period", "wholeYears", "()I"⟩ : MethodName) (head1 (Jvm.Cond.code (⟨"com/example/nameroll/nameroll/core/Period", "wholeYears", "()I"⟩ : MethodName) prog_41_method_3_code 1 (some .int) :: ws) ({ frames := 1, cells := 0, slots := 0, locals := 12 } : Room)) (fun a U => a = #[(.ref c0)] ∧ Z.Warmed39 U.vm ∧ U.heap = h0) (fun _ _ _ _ _ => True) (fun _ U o U' => ∃ v L, o = .returned v ∧ own_Q (some (.int (x0 / (12 : Int32)))) n0 h0 v U'.heap L ∧ FrameEnd U o U' L ({ frames := 1, cells := 0, slots := 0, locals := 12 } : Room).cells ({ frames := 1, cells := 0, slots := 0, locals := 12 } : Room).slots) := by
  refine MetFree.of_bodySF (plainFor_of_name pn_2) hisR ?_
  intro p e s m args below meth c s₁ Bd hml0 hP hK
  obtain ⟨rfl, hZ, hh⟩ := hP
  have hx := Bd.exec
  have hby := Bd.bytes
  have hml : c.maxLocals = 1 := hml0
  have hlk := BodyLoose.notSynchronized Bd
  have hret := Bd.returns
  have hown : s.vm.findClass "com/example/nameroll/nameroll/core/Period" = some m.cls := findClass_of_methodNamed Bd.named
  have hnm := (name_of_methodNamed Bd.named Bd.method).1
  have X0 : Stand p l e ({ frames := 1, cells := 0, slots := 0, locals := 12 } : Room) s m #[(.ref c0)] below meth c s₁ [] 0 0 := Stand.of_body Bd
  have e0 : s₁.heap = h0 := by rw [← hh, Bd.state]; rfl
  have N0 := Fr.nil n0
  rw [ef_5 m c0]
  show Go p e below _ (s₁.setTop (mkF m 0 #[oA c0] []))
  refine own_aload_n 1 X0 hx hby d5_0 rfl rfl rfl ?_
  refine own_getF 4 X0 hx hby hZ hown (own_w hw 32 rfl) e0 F_c0_unit d5_1 rfl ?_
  intro T41 X41 e41
  refine own_virtUp (W := 0) 7 "java/lang/Enum" (rm6_8 l Z a0 hw [] w_MONTHS w_YEARS W  h0 n0 O0) X41 hx hby hZ hown (own_w hw 39 rfl) (own_w hw 40 rfl) (own_w hw 41 rfl) (by decide) (own_w hw 43 rfl) (own_w hw 42 rfl) (own_w hw 44 rfl) (own_w hw 45 rfl) (by rw [hml]; rfl) w_MONTHS [] [] pd_3 rfl d5_4 rfl e41 (W.2.1.ext O0.2) rfl rfl rfl (by decide) (by decide) (by decide) (by decide) ?_
  rintro _ T43 L43 X43 ⟨rfl, N43, e43⟩
  have N43 := Fr.app N0 N43
  show Go p e below _ (T43.setTop (mkF m 7 _ [(.int (1 : Int32))]))
  refine own_lsw 49 X43 hx hby d5_7 (by decide) (a := 1) (off := 42) (by decide) (by decide) (by decide) ?_
  refine own_aload_n 50 X43 hx hby d5_49 rfl rfl rfl ?_
  refine own_getF 53 X43 hx hby hZ hown (own_w hw 30 rfl) e43 F_c0_value d5_50 rfl ?_
  intro T44 X44 e44
  refine own_bipush 55 (12 : Int32) X44 hx hby d5_53 rfl (by decide) ?_
  refine own_irem 56 (x0 % (12 : Int32)) X44 hx hby d5_55 rfl (by decide) rfl ?_
  refine own_ifN 59 X44 hx hby d5_56 rfl ((if0 _ _).trans (teq hc45).2) ?_
  refine own_aload_n 60 X44 hx hby d5_59 rfl rfl rfl ?_
  refine own_getF 63 X44 hx hby hZ hown (own_w hw 30 rfl) e44 F_c0_value d5_60 rfl ?_
  intro T46 X46 e46
  refine own_bipush 65 (12 : Int32) X46 hx hby d5_63 rfl (by decide) ?_
  refine own_idiv 66 (x0 / (12 : Int32)) X46 hx hby d5_65 rfl (by decide) rfl ?_
  refine own_goto 70 X46 hx hby d5_66 (by decide) (by decide) ?_
  exact own_ret (Q := own_Q (some (.int (x0 / (12 : Int32)))) n0 h0) X46 hx hby hret hlk d5_70 rfl (Or.inl ⟨rfl, by simp, _, rfl⟩) (by decide) (by decide) ⟨rfl, N43, e46⟩
set_option maxRecDepth 65536 in
set_option maxHeartbeats 40000000 in
theorem rm5_10 (l : Launch) (Z : State) (a0 : Array Value) (hw : ∀ d ∈ tables_1, d.before a0 Z = true) (ws : List Jvm.Cond) (w_MONTHS w_YEARS : Addr) (W : own_W Z w_MONTHS w_YEARS) (c0 : Addr) (x0 : Int32) (h0 : Heap) (n0 : Nat) (O0 : Old Z n0 h0) (E_c0 : Exa Z h0 c0 "com/example/nameroll/nameroll/core/Period") (F_c0_unit : Fld Z h0 c0 "com/example/nameroll/nameroll/core/Period" "unit" "Lcom/example/nameroll/nameroll/core/Period$Unit;" (.ref w_MONTHS)) (F_c0_value : Fld Z h0 c0 "com/example/nameroll/nameroll/core/Period" "value" "I" (.int x0)) (n_c0 : n0 ≤ c0) (hc45 : ¬ ((x0 % (12 : Int32)) = (0 : Int32))) :
    MetFree l (⟨"com/example/nameroll/nameroll/core/Period", "wholeYears", "()I"⟩ : MethodName) (head1 (Jvm.Cond.code (⟨"com/example/nameroll/nameroll/core/Period", "wholeYears", "()I"⟩ : MethodName) prog_41_method_3_code 1 (some .int) :: ws) ({ frames := 1, cells := 0, slots := 0, locals := 12 } : Room)) (fun a U => a = #[(.ref c0)] ∧ Z.Warmed39 U.vm ∧ U.heap = h0) (fun _ _ _ _ _ => True) (fun _ U o U' => ∃ v L, o = .returned v ∧ own_Q (some (.int (-1 : Int32))) n0 h0 v U'.heap L ∧ FrameEnd U o U' L ({ frames := 1, cells := 0, slots := 0, locals := 12 } : Room).cells ({ frames := 1, cells := 0, slots := 0, locals := 12 } : Room).slots) := by
  refine MetFree.of_bodySF (plainFor_of_name pn_2) hisR ?_
  intro p e s m args below meth c s₁ Bd hml0 hP hK
  obtain ⟨rfl, hZ, hh⟩ := hP
  have hx := Bd.exec
  have hby := Bd.bytes
  have hml : c.maxLocals = 1 := hml0
  have hlk := BodyLoose.notSynchronized Bd
  have hret := Bd.returns
  have hown : s.vm.findClass "com/example/nameroll/nameroll/core/Period" = some m.cls := findClass_of_methodNamed Bd.named
  have hnm := (name_of_methodNamed Bd.named Bd.method).1
  have X0 : Stand p l e ({ frames := 1, cells := 0, slots := 0, locals := 12 } : Room) s m #[(.ref c0)] below meth c s₁ [] 0 0 := Stand.of_body Bd
  have e0 : s₁.heap = h0 := by rw [← hh, Bd.state]; rfl
  have N0 := Fr.nil n0
  rw [ef_5 m c0]
  show Go p e below _ (s₁.setTop (mkF m 0 #[oA c0] []))
  refine own_aload_n 1 X0 hx hby d5_0 rfl rfl rfl ?_
  refine own_getF 4 X0 hx hby hZ hown (own_w hw 32 rfl) e0 F_c0_unit d5_1 rfl ?_
  intro T41 X41 e41
  refine own_virtUp (W := 0) 7 "java/lang/Enum" (rm6_8 l Z a0 hw [] w_MONTHS w_YEARS W  h0 n0 O0) X41 hx hby hZ hown (own_w hw 39 rfl) (own_w hw 40 rfl) (own_w hw 41 rfl) (by decide) (own_w hw 43 rfl) (own_w hw 42 rfl) (own_w hw 44 rfl) (own_w hw 45 rfl) (by rw [hml]; rfl) w_MONTHS [] [] pd_3 rfl d5_4 rfl e41 (W.2.1.ext O0.2) rfl rfl rfl (by decide) (by decide) (by decide) (by decide) ?_
  rintro _ T43 L43 X43 ⟨rfl, N43, e43⟩
  have N43 := Fr.app N0 N43
  show Go p e below _ (T43.setTop (mkF m 7 _ [(.int (1 : Int32))]))
  refine own_lsw 49 X43 hx hby d5_7 (by decide) (a := 1) (off := 42) (by decide) (by decide) (by decide) ?_
  refine own_aload_n 50 X43 hx hby d5_49 rfl rfl rfl ?_
  refine own_getF 53 X43 hx hby hZ hown (own_w hw 30 rfl) e43 F_c0_value d5_50 rfl ?_
  intro T44 X44 e44
  refine own_bipush 55 (12 : Int32) X44 hx hby d5_53 rfl (by decide) ?_
  refine own_irem 56 (x0 % (12 : Int32)) X44 hx hby d5_55 rfl (by decide) rfl ?_
  refine own_ifY 69 X44 hx hby d5_56 (by decide) (by decide) ((if0 _ _).trans (feq hc45).2) ?_
  refine own_iconst 70 (-1 : Int32) X44 hx hby d5_69 rfl (by decide) ?_
  exact own_ret (Q := own_Q (some (.int (-1 : Int32))) n0 h0) X44 hx hby hret hlk d5_70 rfl (Or.inl ⟨rfl, by simp, _, rfl⟩) (by decide) (by decide) ⟨rfl, N43, e44⟩
set_option maxRecDepth 65536 in
set_option maxHeartbeats 40000000 in
theorem rm0 (l : Launch) (Z : State) (a0 : Array Value) (hw : ∀ d ∈ tables_1, d.before a0 Z = true) (ws : List Jvm.Cond) (w_MONTHS w_YEARS : Addr) (W : own_W Z w_MONTHS w_YEARS) (x0 : Int32) (x1 : Int32) (x2 : Int32) (x3 : Int32) (h0 : Heap) (n0 : Nat) (O0 : Old Z n0 h0)  :
    MetFree l x (head1 (Jvm.Cond.code x code maxLocals ret :: ws) room_1) (fun a U => a = #[(.int x0), (.int x1), (.int x2), (.int x3)] ∧ Z.Warmed39 U.vm ∧ U.heap = h0) (fun _ _ _ _ _ => True) (fun _ U o U' => ∃ v L, o = .returned v ∧ own_Q1 n0 v U'.heap L ∧ ReturnedEndW U o U' L 16 1152) := by
  refine MetFree.of_bodySF (plainFor_of_name pn_4) hisR ?_
  intro p e s m args below meth c s₁ Bd hml0 hP hK
  obtain ⟨rfl, hZ, hh⟩ := hP
  have hx := Bd.exec
  have hby := Bd.bytes
  have hml : c.maxLocals = 9 := hml0
  have hlk := BodyLoose.notSynchronized Bd
  have hret := Bd.returns
  have hown : s.vm.findClass "com/example/nameroll/nameroll/core/PeriodWholeYearsPinLaw" = some m.cls := findClass_of_methodNamed Bd.named
  have hnm := (name_of_methodNamed Bd.named Bd.method).1
  have X0 : Stand p l e room_1 (s.setVm s.vm) m #[(.int x0), (.int x1), (.int x2), (.int x3)] below meth c s₁ [] 0 0 := Stand.of_body Bd
  have e0 : s₁.heap = h0 := by rw [← hh, Bd.state]; rfl
  have N0 := Fr.nil n0
  have hZ : Z.Warmed39 (s.setVm s.vm).vm := hZ
  have hown : (s.setVm s.vm).vm.findClass "com/example/nameroll/nameroll/core/PeriodWholeYearsPinLaw" = some m.cls := hown
  rw [ef_0 m x0 x1 x2 x3]
  show Go p e below _ (s₁.setTop (mkF m 0 #[oI x0, oI x1, oI x2, oI x3, oU, oU, oU, oU, oU] []))
  have hS := (State.WarmedH.refl s).since 0
  have hk : 0 ≤ h0.size := Nat.zero_le _
  refine own_iload_n 1 X0 hx hby at_0 rfl rfl ?_
  refine own_iconst 2 (1 : Int32) X0 hx hby at_1 rfl (by decide) ?_
  rcases own_and1 x3 with hv1 | hv1
  · refine own_iand 3 (0 : Int32) X0 hx hby at_2 rfl hv1 ?_
    refine own_ifY 10 X0 hx hby at_3 (by decide) (by decide) (by decide) ?_
    refine own_iconst 11 (0 : Int32) X0 hx hby at_10 rfl (by decide) ?_
    refine own_istore 13 #[oI x0, oI x1, oI x2, oI x3, oI (0 : Int32), oU, oU, oU, oU] X0 hx hby at_11 rfl rfl ?_
    refine own_iload 15 X0 hx hby at_13 rfl rfl ?_
    refine own_ifN 18 X0 hx hby at_15 rfl (by decide) ?_
    refine own_iconst 19 (1 : Int32) X0 hx hby at_18 rfl (by decide) ?_
    refine own_iload_n 20 X0 hx hby at_19 rfl rfl ?_
    refine own_ldc 22 X0 hx hby hZ hown (own_w hw 0 rfl) at_20 rfl ?_
    refine own_iand 23 (x0 &&& (2147483647 : Int32)) X0 hx hby at_22 rfl rfl ?_
    refine own_bipush 25 (99 : Int32) X0 hx hby at_23 rfl (by decide) ?_
    obtain ⟨v2, dv2⟩ : ∃ z, z = ((x0 &&& (2147483647 : Int32)) % (99 : Int32)) := ⟨_, rfl⟩
    refine own_irem 26 v2 X0 hx hby at_25 rfl (by decide) dv2.symm ?_
    obtain ⟨v3, dv3⟩ : ∃ z, z = ((1 : Int32) + v2) := ⟨_, rfl⟩
    refine own_iadd 27 v3 X0 hx hby at_26 rfl dv3.symm ?_
    refine own_istore 29 #[oI x0, oI x1, oI x2, oI x3, oI (0 : Int32), oI v3, oU, oU, oU] X0 hx hby at_27 rfl rfl ?_
    refine own_new 32 2 X0 hx hby hZ hown (own_w hw 1 rfl) (own_w hw 2 rfl) (own_w hw 3 rfl) e0 at_29 rfl (by decide) (by decide) ?_
    intro T4 h4 b4 X4 e4 E4 g4 A4 D4
    have n_b4 : n0 ≤ b4 := Nat.le_trans (own_n0 O0) (Nat.le_of_eq g4.symm)
    have O4 := O0.ext E4
    have hk := Nat.le_trans hk E4.1
    have F_b4_value : Fld Z h4 b4 "com/example/nameroll/nameroll/core/Period" "value" "I" (.int (0 : Int32)) := D4 (Or.inr (own_w hw 31 rfl)) (ty := .int) (by decide)
    have F_b4_unit : Fld Z h4 b4 "com/example/nameroll/nameroll/core/Period" "unit" "Lcom/example/nameroll/nameroll/core/Period$Unit;" .null := D4 (Or.inr (own_w hw 33 rfl)) (ty := (.object "com/example/nameroll/nameroll/core/Period$Unit")) (by decide)
    refine own_dup 33 X4 hx hby at_32 rfl rfl ?_
    refine own_iload 35 X4 hx hby at_33 rfl rfl ?_
    refine own_getS 38 X4 hx hby hZ hown (own_w hw 48 rfl) e4 (W.2.2.1.ext O4.2) at_35 rfl ?_
    intro T5 X5 e5
    refine own_specS (W := 1) 41 (rm1_3 l Z a0 hw [] w_MONTHS w_YEARS W b4 v3 h4 n0 O4 A4 F_b4_unit F_b4_value n_b4 (by have : ((1 : Int32)).toInt = 1 := rfl; have : 0 ≤ ((x0 &&& (2147483647 : Int32))).toInt ∧ ((x0 &&& (2147483647 : Int32))).toInt ≤ 2147483647 := own_mkI x0 (2147483647 : Int32) 31 (by decide) (by decide); have : 0 ≤ (((x0 &&& (2147483647 : Int32)) % (99 : Int32))).toInt ∧ (((x0 &&& (2147483647 : Int32)) % (99 : Int32))).toInt ≤ 98 := own_rmI (by omega) (99 : Int32) (by decide); have : (v2).toInt = (((x0 &&& (2147483647 : Int32)) % (99 : Int32))).toInt := congrArg Int32.toInt dv2; have : (((1 : Int32) + v2)).toInt = ((1 : Int32)).toInt + (v2).toInt := Jvm.Kit.i32_add (by omega) (by omega); have : (v3).toInt = (((1 : Int32) + v2)).toInt := congrArg Int32.toInt dv3; exact fun q => absurd (Int32.lt_iff_toInt_lt.mp q) (by omega)) (by have : ((99 : Int32)).toInt = 99 := rfl; have : ((1 : Int32)).toInt = 1 := rfl; have : 0 ≤ ((x0 &&& (2147483647 : Int32))).toInt ∧ ((x0 &&& (2147483647 : Int32))).toInt ≤ 2147483647 := own_mkI x0 (2147483647 : Int32) 31 (by decide) (by decide); have : 0 ≤ (((x0 &&& (2147483647 : Int32)) % (99 : Int32))).toInt ∧ (((x0 &&& (2147483647 : Int32)) % (99 : Int32))).toInt ≤ 98 := own_rmI (by omega) (99 : Int32) (by decide); have : (v2).toInt = (((x0 &&& (2147483647 : Int32)) % (99 : Int32))).toInt := congrArg Int32.toInt dv2; have : (((1 : Int32) + v2)).toInt = ((1 : Int32)).toInt + (v2).toInt := Jvm.Kit.i32_add (by omega) (by omega); have : (v3).toInt = (((1 : Int32) + v2)).toInt := congrArg Int32.toInt dv3; exact fun q => absurd (Int32.lt_iff_toInt_lt.mp q) (by omega))) X5 hx hby hZ hown rfl (own_w hw 7 rfl) (own_w hw 8 rfl) (own_w hw 3 rfl) (own_w hw 9 rfl) (by decide) (by rw [hml]; rfl) b4 [(.int v3), (.ref w_YEARS)] [(.ref b4)] pd_2 rfl at_38 rfl e5 rfl rfl rfl (by decide) (by decide) (by decide) (by decide) hS hk ?_
    rintro _ T16 L16 X16 ⟨rfl, N16, Kc16, E_b4_16, F_b4_unit_16, F_b4_value_16⟩ hS hZ hown
    have N16 := Fr.app N0 N16
    have O16 := O4.keep Kc16 (allS n_b4 all0)
    have hk := Nat.le_refl T16.heap.size
    show Go p e below _ (T16.setTop (mkF m 41 _ [(.ref b4)]))
    refine own_virt (W := 0) 44 (rm5_5 l Z a0 hw [] w_MONTHS w_YEARS W b4 v3 T16.heap n0 O16 E_b4_16 F_b4_unit_16 F_b4_value_16 n_b4) X16 hx hby hZ hown (own_w hw 34 rfl) (own_w hw 35 rfl) (notFace_of_selects (args := #[]) (mvT hZ (own_w hw 37 rfl))) (own_w hw 37 rfl) (own_w hw 36 rfl) (own_w hw 3 rfl) (own_w hw 38 rfl) (by decide) (by rw [hml]; rfl) b4 [] [] pd_3 rfl at_41 rfl rfl E_b4_16 rfl rfl rfl (by decide) (by decide) (by decide) (by decide) ?_
    rintro _ T21 L21 X21 ⟨rfl, N21, e21⟩
    have N21 := Fr.app N16 N21
    show Go p e below _ (T21.setTop (mkF m 44 _ [(.int v3)]))
    refine own_iload 46 X21 hx hby at_44 rfl rfl ?_
    refine own_icN 49 X21 hx hby at_46 rfl (teq rfl).2 ?_
    refine own_iconst 50 (1 : Int32) X21 hx hby at_49 rfl (by decide) ?_
    refine own_goto 54 X21 hx hby at_50 (by decide) (by decide) ?_
    exact own_retW (Q := own_Q1 n0) X21 hx hby hret hlk hS (by rw [e21]; exact hk) at_54 rfl (Or.inl ⟨rfl, by simp, _, rfl⟩) (by decide) (by decide) ⟨rfl, N21⟩
  · refine own_iand 3 (1 : Int32) X0 hx hby at_2 rfl hv1 ?_
    refine own_ifN 6 X0 hx hby at_3 rfl (by decide) ?_
    refine own_iconst 7 (1 : Int32) X0 hx hby at_6 rfl (by decide) ?_
    refine own_goto 11 X0 hx hby at_7 (by decide) (by decide) ?_
    refine own_istore 13 #[oI x0, oI x1, oI x2, oI x3, oI (1 : Int32), oU, oU, oU, oU] X0 hx hby at_11 rfl rfl ?_
    refine own_iload 15 X0 hx hby at_13 rfl rfl ?_
    refine own_ifY 55 X0 hx hby at_15 (by decide) (by decide) (by decide) ?_
    refine own_iload_n 56 X0 hx hby at_55 rfl rfl ?_
    refine own_ldc 58 X0 hx hby hZ hown (own_w hw 0 rfl) at_56 rfl ?_
    refine own_iand 59 (x1 &&& (2147483647 : Int32)) X0 hx hby at_58 rfl rfl ?_
    refine own_bipush 61 (9 : Int32) X0 hx hby at_59 rfl (by decide) ?_
    obtain ⟨v22, dv22⟩ : ∃ z, z = ((x1 &&& (2147483647 : Int32)) % (9 : Int32)) := ⟨_, rfl⟩
    refine own_irem 62 v22 X0 hx hby at_61 rfl (by decide) dv22.symm ?_
    refine own_istore 64 #[oI x0, oI x1, oI x2, oI x3, oI (1 : Int32), oI v22, oU, oU, oU] X0 hx hby at_62 rfl rfl ?_
    refine own_iload_n 65 X0 hx hby at_64 rfl rfl ?_
    refine own_ldc 67 X0 hx hby hZ hown (own_w hw 0 rfl) at_65 rfl ?_
    refine own_iand 68 (x2 &&& (2147483647 : Int32)) X0 hx hby at_67 rfl rfl ?_
    refine own_bipush 70 (12 : Int32) X0 hx hby at_68 rfl (by decide) ?_
    obtain ⟨v23, dv23⟩ : ∃ z, z = ((x2 &&& (2147483647 : Int32)) % (12 : Int32)) := ⟨_, rfl⟩
    refine own_irem 71 v23 X0 hx hby at_70 rfl (by decide) dv23.symm ?_
    refine own_istore 73 #[oI x0, oI x1, oI x2, oI x3, oI (1 : Int32), oI v22, oI v23, oU, oU] X0 hx hby at_71 rfl rfl ?_
    refine own_bipush 75 (12 : Int32) X0 hx hby at_73 rfl (by decide) ?_
    refine own_iload 77 X0 hx hby at_75 rfl rfl ?_
    obtain ⟨v24, dv24⟩ : ∃ z, z = ((12 : Int32) * v22) := ⟨_, rfl⟩
    refine own_imul 78 v24 X0 hx hby at_77 rfl dv24.symm ?_
    refine own_iload 80 X0 hx hby at_78 rfl rfl ?_
    obtain ⟨v25, dv25⟩ : ∃ z, z = (v24 + v23) := ⟨_, rfl⟩
    refine own_iadd 81 v25 X0 hx hby at_80 rfl dv25.symm ?_
    refine own_istore 83 #[oI x0, oI x1, oI x2, oI x3, oI (1 : Int32), oI v22, oI v23, oI v25, oU] X0 hx hby at_81 rfl rfl ?_
    refine own_iload 85 X0 hx hby at_83 rfl rfl ?_
    refine own_iconst 86 (1 : Int32) X0 hx hby at_85 rfl (by decide) ?_
    by_cases hc26 : v25 < (1 : Int32)
    · refine own_icY 96 X0 hx hby at_86 (by decide) (by decide) (tlt hc26).1 ?_
      refine own_iconst 97 (1 : Int32) X0 hx hby at_96 rfl (by decide) ?_
      exact own_retW (Q := own_Q1 n0) X0 hx hby hret hlk hS (by rw [e0]; exact hk) at_97 rfl (Or.inl ⟨rfl, by simp, _, rfl⟩) (by decide) (by decide) ⟨rfl, N0⟩
    refine own_icN 89 X0 hx hby at_86 rfl (flt hc26).1 ?_
    refine own_iload 91 X0 hx hby at_89 rfl rfl ?_
    refine own_bipush 93 (99 : Int32) X0 hx hby at_91 rfl (by decide) ?_
    by_cases hc27 : (99 : Int32) < v25
    · refine own_icN 96 X0 hx hby at_93 rfl (tlt hc27).2.2.2 ?_
      refine own_iconst 97 (1 : Int32) X0 hx hby at_96 rfl (by decide) ?_
      exact own_retW (Q := own_Q1 n0) X0 hx hby hret hlk hS (by rw [e0]; exact hk) at_97 rfl (Or.inl ⟨rfl, by simp, _, rfl⟩) (by decide) (by decide) ⟨rfl, N0⟩
    refine own_icY 98 X0 hx hby at_93 (by decide) (by decide) (flt hc27).2.2.2 ?_
    refine own_iload 100 X0 hx hby at_98 rfl rfl ?_
    by_cases hc28 : v23 = (0 : Int32)
    · refine own_ifN 103 X0 hx hby at_100 rfl ((if0 _ _).trans (teq hc28).2) ?_
      refine own_iload 105 X0 hx hby at_103 rfl rfl ?_
      refine own_goto 109 X0 hx hby at_105 (by decide) (by decide) ?_
      refine own_istore 111 #[oI x0, oI x1, oI x2, oI x3, oI (1 : Int32), oI v22, oI v23, oI v25, oI v22] X0 hx hby at_109 rfl rfl ?_
      refine own_new 114 2 X0 hx hby hZ hown (own_w hw 1 rfl) (own_w hw 2 rfl) (own_w hw 3 rfl) e0 at_111 rfl (by decide) (by decide) ?_
      intro T29 h29 b29 X29 e29 E29 g29 A29 D29
      have n_b29 : n0 ≤ b29 := Nat.le_trans (own_n0 O0) (Nat.le_of_eq g29.symm)
      have O29 := O0.ext E29
      have hk := Nat.le_trans hk E29.1
      have F_b29_value : Fld Z h29 b29 "com/example/nameroll/nameroll/core/Period" "value" "I" (.int (0 : Int32)) := D29 (Or.inr (own_w hw 31 rfl)) (ty := .int) (by decide)
      have F_b29_unit : Fld Z h29 b29 "com/example/nameroll/nameroll/core/Period" "unit" "Lcom/example/nameroll/nameroll/core/Period$Unit;" .null := D29 (Or.inr (own_w hw 33 rfl)) (ty := (.object "com/example/nameroll/nameroll/core/Period$Unit")) (by decide)
      refine own_dup 115 X29 hx hby at_114 rfl rfl ?_
      refine own_iload 117 X29 hx hby at_115 rfl rfl ?_
      refine own_getS 120 X29 hx hby hZ hown (own_w hw 4 rfl) e29 (W.1.ext O29.2) at_117 rfl ?_
      intro T30 X30 e30
      refine own_specS (W := 1) 123 (rm1_7 l Z a0 hw [] w_MONTHS w_YEARS W b29 v25 h29 n0 O29 A29 F_b29_unit F_b29_value n_b29 hc26 hc27) X30 hx hby hZ hown rfl (own_w hw 7 rfl) (own_w hw 8 rfl) (own_w hw 3 rfl) (own_w hw 9 rfl) (by decide) (by rw [hml]; rfl) b29 [(.int v25), (.ref w_MONTHS)] [(.ref b29)] pd_2 rfl at_120 rfl e30 rfl rfl rfl (by decide) (by decide) (by decide) (by decide) hS hk ?_
      rintro _ T40 L40 X40 ⟨rfl, N40, Kc40, E_b29_40, F_b29_unit_40, F_b29_value_40⟩ hS hZ hown
      have N40 := Fr.app N0 N40
      have O40 := O29.keep Kc40 (allS n_b29 all0)
      have hk := Nat.le_refl T40.heap.size
      show Go p e below _ (T40.setTop (mkF m 123 _ [(.ref b29)]))
      refine own_virt (W := 0) 126 (rm5_9 l Z a0 hw [] w_MONTHS w_YEARS W b29 v25 T40.heap n0 O40 E_b29_40 F_b29_unit_40 F_b29_value_40 n_b29 (by have : 0 ≤ ((x1 &&& (2147483647 : Int32))).toInt ∧ ((x1 &&& (2147483647 : Int32))).toInt ≤ 2147483647 := own_mkI x1 (2147483647 : Int32) 31 (by decide) (by decide); have : 0 ≤ (((x1 &&& (2147483647 : Int32)) % (9 : Int32))).toInt ∧ (((x1 &&& (2147483647 : Int32)) % (9 : Int32))).toInt ≤ 8 := own_rmI (by omega) (9 : Int32) (by decide); have : (v22).toInt = (((x1 &&& (2147483647 : Int32)) % (9 : Int32))).toInt := congrArg Int32.toInt dv22; have : ((12 : Int32)).toInt = 12 := rfl; have : (((12 : Int32) * v22)).toInt = ((12 : Int32)).toInt * (v22).toInt := Jvm.Kit.i32_mul (by rw [show ((12 : Int32)).toInt = 12 from rfl]; omega) (by rw [show ((12 : Int32)).toInt = 12 from rfl]; omega); have : (((12 : Int32) * v22)).toInt = 12 * (v22).toInt := Jvm.Kit.i32_mul (by rw [show ((12 : Int32)).toInt = 12 from rfl]; omega) (by rw [show ((12 : Int32)).toInt = 12 from rfl]; omega); have : (v24).toInt = (((12 : Int32) * v22)).toInt := congrArg Int32.toInt dv24; have : 0 ≤ ((x2 &&& (2147483647 : Int32))).toInt ∧ ((x2 &&& (2147483647 : Int32))).toInt ≤ 2147483647 := own_mkI x2 (2147483647 : Int32) 31 (by decide) (by decide); have : 0 ≤ (((x2 &&& (2147483647 : Int32)) % (12 : Int32))).toInt ∧ (((x2 &&& (2147483647 : Int32)) % (12 : Int32))).toInt ≤ 11 := own_rmI (by omega) (12 : Int32) (by decide); have : (v23).toInt = (((x2 &&& (2147483647 : Int32)) % (12 : Int32))).toInt := congrArg Int32.toInt dv23; have : ((v24 + v23)).toInt = (v24).toInt + (v23).toInt := Jvm.Kit.i32_add (by omega) (by omega); have : (v25).toInt = ((v24 + v23)).toInt := congrArg Int32.toInt dv25; have : ((v25 % (12 : Int32))).toInt = (v25).toInt % 12 := Jvm.Kit.i32_rem_nonneg (by omega); have : ((0 : Int32)).toInt = 0 := rfl; have : (v23).toInt = ((0 : Int32)).toInt := congrArg Int32.toInt hc28; exact Int32.toInt_inj.mp (by omega))) X40 hx hby hZ hown (own_w hw 34 rfl) (own_w hw 35 rfl) (notFace_of_selects (args := #[]) (mvT hZ (own_w hw 37 rfl))) (own_w hw 37 rfl) (own_w hw 36 rfl) (own_w hw 3 rfl) (own_w hw 38 rfl) (by decide) (by rw [hml]; rfl) b29 [] [] pd_3 rfl at_123 rfl rfl E_b29_40 rfl rfl rfl (by decide) (by decide) (by decide) (by decide) ?_
      rintro _ T47 L47 X47 ⟨rfl, N47, e47⟩
      have N47 := Fr.app N40 N47
      show Go p e below _ (T47.setTop (mkF m 126 _ [(.int (v25 / (12 : Int32)))]))
      refine own_iload 128 X47 hx hby at_126 rfl rfl ?_
      refine own_icN 131 X47 hx hby at_128 rfl (teq (by have : 0 ≤ ((x1 &&& (2147483647 : Int32))).toInt ∧ ((x1 &&& (2147483647 : Int32))).toInt ≤ 2147483647 := own_mkI x1 (2147483647 : Int32) 31 (by decide) (by decide); have : 0 ≤ (((x1 &&& (2147483647 : Int32)) % (9 : Int32))).toInt ∧ (((x1 &&& (2147483647 : Int32)) % (9 : Int32))).toInt ≤ 8 := own_rmI (by omega) (9 : Int32) (by decide); have : (v22).toInt = (((x1 &&& (2147483647 : Int32)) % (9 : Int32))).toInt := congrArg Int32.toInt dv22; have : ((12 : Int32)).toInt = 12 := rfl; have : (((12 : Int32) * v22)).toInt = ((12 : Int32)).toInt * (v22).toInt := Jvm.Kit.i32_mul (by rw [show ((12 : Int32)).toInt = 12 from rfl]; omega) (by rw [show ((12 : Int32)).toInt = 12 from rfl]; omega); have : (((12 : Int32) * v22)).toInt = 12 * (v22).toInt := Jvm.Kit.i32_mul (by rw [show ((12 : Int32)).toInt = 12 from rfl]; omega) (by rw [show ((12 : Int32)).toInt = 12 from rfl]; omega); have : (v24).toInt = (((12 : Int32) * v22)).toInt := congrArg Int32.toInt dv24; have : 0 ≤ ((x2 &&& (2147483647 : Int32))).toInt ∧ ((x2 &&& (2147483647 : Int32))).toInt ≤ 2147483647 := own_mkI x2 (2147483647 : Int32) 31 (by decide) (by decide); have : 0 ≤ (((x2 &&& (2147483647 : Int32)) % (12 : Int32))).toInt ∧ (((x2 &&& (2147483647 : Int32)) % (12 : Int32))).toInt ≤ 11 := own_rmI (by omega) (12 : Int32) (by decide); have : (v23).toInt = (((x2 &&& (2147483647 : Int32)) % (12 : Int32))).toInt := congrArg Int32.toInt dv23; have : ((v24 + v23)).toInt = (v24).toInt + (v23).toInt := Jvm.Kit.i32_add (by omega) (by omega); have : (v25).toInt = ((v24 + v23)).toInt := congrArg Int32.toInt dv25; have : ((v25 / (12 : Int32))).toInt = (v25).toInt / 12 := own_dvI (by omega) (12 : Int32) (by decide); exact Int32.toInt_inj.mp (by omega))).2 ?_
      refine own_iconst 132 (1 : Int32) X47 hx hby at_131 rfl (by decide) ?_
      refine own_goto 136 X47 hx hby at_132 (by decide) (by decide) ?_
      exact own_retW (Q := own_Q1 n0) X47 hx hby hret hlk hS (by rw [e47]; exact hk) at_136 rfl (Or.inl ⟨rfl, by simp, _, rfl⟩) (by decide) (by decide) ⟨rfl, N47⟩
    refine own_ifY 108 X0 hx hby at_100 (by decide) (by decide) ((if0 _ _).trans (feq hc28).2) ?_
    refine own_iconst 109 (-1 : Int32) X0 hx hby at_108 rfl (by decide) ?_
    refine own_istore 111 #[oI x0, oI x1, oI x2, oI x3, oI (1 : Int32), oI v22, oI v23, oI v25, oI (-1 : Int32)] X0 hx hby at_109 rfl rfl ?_
    refine own_new 114 2 X0 hx hby hZ hown (own_w hw 1 rfl) (own_w hw 2 rfl) (own_w hw 3 rfl) e0 at_111 rfl (by decide) (by decide) ?_
    intro T48 h48 b48 X48 e48 E48 g48 A48 D48
    have n_b48 : n0 ≤ b48 := Nat.le_trans (own_n0 O0) (Nat.le_of_eq g48.symm)
    have O48 := O0.ext E48
    have hk := Nat.le_trans hk E48.1
    have F_b48_value : Fld Z h48 b48 "com/example/nameroll/nameroll/core/Period" "value" "I" (.int (0 : Int32)) := D48 (Or.inr (own_w hw 31 rfl)) (ty := .int) (by decide)
    have F_b48_unit : Fld Z h48 b48 "com/example/nameroll/nameroll/core/Period" "unit" "Lcom/example/nameroll/nameroll/core/Period$Unit;" .null := D48 (Or.inr (own_w hw 33 rfl)) (ty := (.object "com/example/nameroll/nameroll/core/Period$Unit")) (by decide)
    refine own_dup 115 X48 hx hby at_114 rfl rfl ?_
    refine own_iload 117 X48 hx hby at_115 rfl rfl ?_
    refine own_getS 120 X48 hx hby hZ hown (own_w hw 4 rfl) e48 (W.1.ext O48.2) at_117 rfl ?_
    intro T49 X49 e49
    refine own_specS (W := 1) 123 (rm1_7 l Z a0 hw [] w_MONTHS w_YEARS W b48 v25 h48 n0 O48 A48 F_b48_unit F_b48_value n_b48 hc26 hc27) X49 hx hby hZ hown rfl (own_w hw 7 rfl) (own_w hw 8 rfl) (own_w hw 3 rfl) (own_w hw 9 rfl) (by decide) (by rw [hml]; rfl) b48 [(.int v25), (.ref w_MONTHS)] [(.ref b48)] pd_2 rfl at_120 rfl e49 rfl rfl rfl (by decide) (by decide) (by decide) (by decide) hS hk ?_
    rintro _ T50 L50 X50 ⟨rfl, N50, Kc50, E_b48_50, F_b48_unit_50, F_b48_value_50⟩ hS hZ hown
    have N50 := Fr.app N0 N50
    have O50 := O48.keep Kc50 (allS n_b48 all0)
    have hk := Nat.le_refl T50.heap.size
    show Go p e below _ (T50.setTop (mkF m 123 _ [(.ref b48)]))
    refine own_virt (W := 0) 126 (rm5_10 l Z a0 hw [] w_MONTHS w_YEARS W b48 v25 T50.heap n0 O50 E_b48_50 F_b48_unit_50 F_b48_value_50 n_b48 (by have : 0 ≤ ((x1 &&& (2147483647 : Int32))).toInt ∧ ((x1 &&& (2147483647 : Int32))).toInt ≤ 2147483647 := own_mkI x1 (2147483647 : Int32) 31 (by decide) (by decide); have : 0 ≤ (((x1 &&& (2147483647 : Int32)) % (9 : Int32))).toInt ∧ (((x1 &&& (2147483647 : Int32)) % (9 : Int32))).toInt ≤ 8 := own_rmI (by omega) (9 : Int32) (by decide); have : (v22).toInt = (((x1 &&& (2147483647 : Int32)) % (9 : Int32))).toInt := congrArg Int32.toInt dv22; have : ((12 : Int32)).toInt = 12 := rfl; have : (((12 : Int32) * v22)).toInt = ((12 : Int32)).toInt * (v22).toInt := Jvm.Kit.i32_mul (by rw [show ((12 : Int32)).toInt = 12 from rfl]; omega) (by rw [show ((12 : Int32)).toInt = 12 from rfl]; omega); have : (((12 : Int32) * v22)).toInt = 12 * (v22).toInt := Jvm.Kit.i32_mul (by rw [show ((12 : Int32)).toInt = 12 from rfl]; omega) (by rw [show ((12 : Int32)).toInt = 12 from rfl]; omega); have : (v24).toInt = (((12 : Int32) * v22)).toInt := congrArg Int32.toInt dv24; have : 0 ≤ ((x2 &&& (2147483647 : Int32))).toInt ∧ ((x2 &&& (2147483647 : Int32))).toInt ≤ 2147483647 := own_mkI x2 (2147483647 : Int32) 31 (by decide) (by decide); have : 0 ≤ (((x2 &&& (2147483647 : Int32)) % (12 : Int32))).toInt ∧ (((x2 &&& (2147483647 : Int32)) % (12 : Int32))).toInt ≤ 11 := own_rmI (by omega) (12 : Int32) (by decide); have : (v23).toInt = (((x2 &&& (2147483647 : Int32)) % (12 : Int32))).toInt := congrArg Int32.toInt dv23; have : ((v24 + v23)).toInt = (v24).toInt + (v23).toInt := Jvm.Kit.i32_add (by omega) (by omega); have : (v25).toInt = ((v24 + v23)).toInt := congrArg Int32.toInt dv25; have : ((v25 % (12 : Int32))).toInt = (v25).toInt % 12 := Jvm.Kit.i32_rem_nonneg (by omega); have : ((0 : Int32)).toInt = 0 := rfl; have : ¬ ((v23).toInt = ((0 : Int32)).toInt) := fun q => hc28 (Int32.toInt_inj.mp q); exact fun q => absurd (congrArg Int32.toInt q) (by omega))) X50 hx hby hZ hown (own_w hw 34 rfl) (own_w hw 35 rfl) (notFace_of_selects (args := #[]) (mvT hZ (own_w hw 37 rfl))) (own_w hw 37 rfl) (own_w hw 36 rfl) (own_w hw 3 rfl) (own_w hw 38 rfl) (by decide) (by rw [hml]; rfl) b48 [] [] pd_3 rfl at_123 rfl rfl E_b48_50 rfl rfl rfl (by decide) (by decide) (by decide) (by decide) ?_
    rintro _ T51 L51 X51 ⟨rfl, N51, e51⟩
    have N51 := Fr.app N50 N51
    show Go p e below _ (T51.setTop (mkF m 126 _ [(.int (-1 : Int32))]))
    refine own_iload 128 X51 hx hby at_126 rfl rfl ?_
    refine own_icN 131 X51 hx hby at_128 rfl (by decide) ?_
    refine own_iconst 132 (1 : Int32) X51 hx hby at_131 rfl (by decide) ?_
    refine own_goto 136 X51 hx hby at_132 (by decide) (by decide) ?_
    exact own_retW (Q := own_Q1 n0) X51 hx hby hret hlk hS (by rw [e51]; exact hk) at_136 rfl (Or.inl ⟨rfl, by simp, _, rfl⟩) (by decide) (by decide) ⟨rfl, N51⟩
set_option maxRecDepth 65536 in
set_option maxHeartbeats 40000000 in
theorem comes_1 {Post : Tables → Env → Array Value → State → Outcome → State → Prop} (hpost : ∀ tb e args s v u, (limb_1_1.after args s (.returned v) u = true ∧ limb_1_2.after args s (.returned v) u = true) → ReturnedEndW s (.returned v) u (Jvm.fieldLocs frame_1_writes args s ++ Jvm.arrayLocs frame_1_arrays args s ++ Jvm.staticLocs frame_1_statics s) 16 1152 → Post tb e args s (.returned v) u) :
    ArmFor flags0 classFile x code maxLocals ret World_1 tables_1 room_1 Calls_1 rest_1 Pre_1 Post := by
  intro l hfl _ _ p e ha hc hk s m args below hf hA hF happ hP
  obtain ⟨hcalls, hrest, hpre⟩ := hP
  obtain ⟨-, -, -, hnamed, -, -, -, hat⟩ := (Spec.applies_iff hf).mp happ
  obtain ⟨hg, hn⟩ := and_e (Cond.before_iff.mp (show (Jvm.Cond.and given_1 narrow_1).before args s = true from hpre))
  obtain ⟨ga0, gb0⟩ := and_e hg
  obtain ⟨ga1, gb1⟩ := and_e gb0
  obtain ⟨ga2, gb2⟩ := and_e gb1
  obtain ⟨ga3, ga4⟩ := and_e gb2
  obtain ⟨u0, u1, u2, u3, rfl⟩ : ∃ u0 u1 u2 u3 : Value, args = #[u0, u1, u2, u3] := by
    have hs : args.size = 4 := by simpa [Cond.value, given_1] using ga0
    obtain ⟨L⟩ := args
    match L, hs with
    | [u0, u1, u2, u3], _ => exact ⟨u0, u1, u2, u3, rfl⟩
  have hw := fun d (hd : d ∈ tables_1) => atoms_spec (ws := Jvm.Cond.code x code maxLocals ret :: tables_1) hat d (List.mem_cons_of_mem _ hd)
  have hfit : Fit s := fun {y c} hc i hi => by
    obtain ⟨ha, rfl⟩ := Array.getElem?_eq_some_iff.mp hc
    have q := List.all_eq_true.mp ((Array.all_eq_true_iff_forall_mem.mp hF) _ (Array.getElem_mem ha)) i (List.mem_range.mpr hi)
    simpa [Array.getElem?_eq_getElem hi] using q
  obtain ⟨i0, ei0⟩ := is_v ga1
  obtain rfl : u0 = (.int i0) := Option.some.inj ei0
  obtain ⟨i1, ei1⟩ := is_v ga2
  obtain rfl : u1 = (.int i1) := Option.some.inj ei1
  obtain ⟨i2, ei2⟩ := is_v ga3
  obtain rfl : u2 = (.int i2) := Option.some.inj ei2
  obtain ⟨i3, ei3⟩ := is_v ga4
  obtain rfl : u3 = (.int i3) := Option.some.inj ei3
  obtain ⟨na0, nb0⟩ := and_e hn
  obtain ⟨na1, nb1⟩ := and_e nb0
  obtain ⟨na2, na3⟩ := and_e nb1
  obtain ⟨w_MONTHS, v_w_MONTHS⟩ := exa_v na0
  have S_w_MONTHS := Sta.start v_w_MONTHS (Or.inr ⟨(own_w hw 5 rfl), (own_w hw 6 rfl)⟩)
  have E_w_MONTHS := Exa.start v_w_MONTHS na0
  obtain ⟨w_YEARS, v_w_YEARS⟩ := exa_v na2
  have S_w_YEARS := Sta.start v_w_YEARS (Or.inr ⟨(own_w hw 5 rfl), (own_w hw 49 rfl)⟩)
  have E_w_YEARS := Exa.start v_w_YEARS na2
  have F_ordinal_w_MONTHS := own_fld na1 v_w_MONTHS
  have F_ordinal_w_YEARS := own_fld na3 v_w_YEARS
  obtain ⟨n, o, h1, h2, h3, _, L, rfl, ⟨rfl, N⟩, hq⟩ := rm0 l s _ hw tables_1 w_MONTHS w_YEARS ⟨S_w_MONTHS, E_w_MONTHS, S_w_YEARS, E_w_YEARS, F_ordinal_w_MONTHS, F_ordinal_w_YEARS⟩ i0 i1 i2 i3 s.heap s.heap.size (Old.start s) p e ha hc hk s m _ below hf ((Spec.applies_iff_loose hf).mp happ).1 ⟨rfl, State.Warmed39.refl s, rfl⟩ trivial
  refine ⟨n, _, h1, h2, h3, hpost _ _ _ _ _ _ ⟨Cond.after_iff.mpr rfl, Cond.after_iff.mpr (eq_i res_at (Term.int_eval (1)) rfl)⟩ ⟨hq.1, hq.2.1, hq.2.2.1, (hq.2.2.2.sift fun y hy => Or.inr (N y hy)).mono (by decide) (by decide)⟩⟩
theorem main_1_1 : Claimed_1_1 := comes_1 fun _ _ _ _ _ _ h hF => ⟨h.1, hF⟩
theorem main_1_2 : Claimed_1_2 := comes_1 fun _ _ _ _ _ _ h hF => ⟨h.2, hF⟩
end Jvm.Pilot.@@N@@
namespace Jvm.Pilot.@@N@@
open Jvm Jvm.ClassFile Sem Op Lib Jvm.Free Jvm.Stand Jvm.Pilot.@@N@@.Jvm.D
/-! MADE BY PROGRAM (witnessworld.py) out of the Statement's table words and the real class files: 18 classes; the members and pool entries that the words name. The judged class is class 1, her method 1. -/
namespace start1
open Jvm.ClassFile
def u (s : String) : CpInfo := .utf8 (stringToUtf16 s)
/-- a pool by its gaps: so many unusable entries, then the entry; so many at the end -/
def gap : Nat → List CpInfo → List CpInfo
  | 0, r => r
  | n + 1, r => .unusable :: gap n r
def poolList (es : List (Nat × CpInfo)) (last : Nat) : List CpInfo := es.foldr (fun e r => gap e.1 (e.2 :: r)) (gap last [])
def pool (es : List (Nat × CpInfo)) (last : Nat) : Array CpInfo := ⟨poolList es last⟩
def fileOf (pool : Array CpInfo) (this : Nat) (attrs : Array Attribute := #[]) (ms : Array MethodInfo := #[]) (fl : Nat := 33) (sup : Nat := 0) (ifs : Array Nat := #[]) (fds : Array FieldInfo := #[]) : ClassFile where
  minorVersion := 0
  majorVersion := 65
  constantPool := pool
  accessFlags := fl
  thisClass := this
  superClass := sup
  interfaces := ifs
  fields := fds
  methods := ms
  attributes := attrs
def plain (name : String) (sup : Option ClassId) : Class where
  name := name
  kind := .ordinary
  loader := none
  accessFlags := 33
  super := sup
  interfaces := #[]
  cf := none
  fields := #[]
  methods := #[]
  instanceTypes := #[]
  staticTypes := #[]
  resolved := #[]
  callSites := []
  init := .initialized
  statics := none
  mirror := none

def pool0 : Array CpInfo := pool [(5, u "<init>"), (0, u "()V"), (1, .class_ 10), (1, u "java/lang/Object")] 113

def k0c0 : Code := { maxStack := 0, maxLocals := 1, code := object_method_1_code, exceptionTable := #[], attributes := #[] }
def k0m0 : Method := { name := "<init>", desc := "()V", sig := { parameters := [], returnType := none }, accessFlags := 1, code := some k0c0 }
/-- java/lang/Object -/
def k0 : Class := { plain "java/lang/Object" none with
  accessFlags := 33
  interfaces := #[]
  cf := some (fileOf pool0 8 #[] #[{ accessFlags := 1, nameIndex := 5, descriptorIndex := 6, attributes := #[] }] 33 0 #[] #[])
  fields := #[]
  methods := #[k0m0]
  instanceTypes := #[]
  staticTypes := #[]
  resolved := Array.replicate 124 none
  statics := none }

def pool1 : Array CpInfo := pool [(2, .class_ 4), (1, u "java/lang/Object"), (0, u "<init>"), (0, u "()V"), (0, .integer 2147483647), (0, .class_ 9), (0, u "com/example/nameroll/nameroll/core/Period"), (0, .fieldref 11 12), (0, .class_ 13), (0, .nameAndType 14 15), (0, u "com/example/nameroll/nameroll/core/Period$Unit"), (0, u "YEARS"), (0, u "Lcom/example/nameroll/nameroll/core/Period$Unit;"), (0, .methodref 8 17), (0, .nameAndType 5 18), (0, u "(ILcom/example/nameroll/nameroll/core/Period$Unit;)V"), (0, .methodref 8 20), (0, .nameAndType 21 22), (0, u "wholeYears"), (0, u "()I"), (0, .fieldref 11 24), (0, .nameAndType 25 15), (0, u "MONTHS"), (0, .class_ 27), (0, u "com/example/nameroll/nameroll/core/PeriodWholeYearsPinLaw"), (2, u "law"), (0, u "(IIII)Z")] 5

def k1m0 : Method := { name := "<init>", desc := "()V", sig := { parameters := [], returnType := none }, accessFlags := 2, code := none }
def k1c1 : Code := { maxStack := 4, maxLocals := 9, code := code, exceptionTable := #[], attributes := #[] }
def k1m1 : Method := { name := "law", desc := "(IIII)Z", sig := { parameters := [.int, .int, .int, .int], returnType := some .boolean }, accessFlags := 9, code := some k1c1 }
/-- com/example/nameroll/nameroll/core/PeriodWholeYearsPinLaw -/
def k1 : Class := { plain "com/example/nameroll/nameroll/core/PeriodWholeYearsPinLaw" (some 0) with
  accessFlags := 49
  interfaces := #[]
  cf := some (fileOf pool1 26 #[] #[{ accessFlags := 2, nameIndex := 5, descriptorIndex := 6, attributes := #[] }, { accessFlags := 9, nameIndex := 30, descriptorIndex := 31, attributes := #[] }] 49 2 #[] #[])
  fields := #[]
  methods := #[k1m0, k1m1]
  instanceTypes := #[]
  staticTypes := #[]
  resolved := Array.replicate 37 none
  statics := none }

def pool2 : Array CpInfo := pool [(1, .methodref 2 3), (0, .class_ 4), (0, .nameAndType 5 6), (0, u "java/lang/Object"), (0, u "<init>"), (0, u "()V"), (0, .class_ 8), (0, u "java/lang/Record")] 13

def k2c0 : Code := { maxStack := 1, maxLocals := 1, code := jdk_30_method_1_code, exceptionTable := #[], attributes := #[] }
def k2m0 : Method := { name := "<init>", desc := "()V", sig := { parameters := [], returnType := none }, accessFlags := 4, code := some k2c0 }
/-- java/lang/Record -/
def k2 : Class := { plain "java/lang/Record" (some 0) with
  accessFlags := 1057
  interfaces := #[]
  cf := some (fileOf pool2 7 #[] #[{ accessFlags := 4, nameIndex := 5, descriptorIndex := 6, attributes := #[] }] 1057 2 #[] #[])
  fields := #[]
  methods := #[k2m0]
  instanceTypes := #[]
  staticTypes := #[]
  resolved := Array.replicate 22 none
  statics := none }

def pool3 : Array CpInfo := pool [(1, .methodref 2 3), (0, .class_ 4), (0, .nameAndType 5 6), (0, u "java/lang/Record"), (0, u "<init>"), (0, u "()V"), (0, .string 8), (0, u "unit"), (0, .methodref 10 11), (0, .class_ 12), (0, .nameAndType 13 14), (0, u "java/util/Objects"), (0, u "requireNonNull"), (0, u "(Ljava/lang/Object;Ljava/lang/String;)Ljava/lang/Object;"), (0, .class_ 16), (0, u "com/example/nameroll/nameroll/core/Period"), (9, .fieldref 15 27), (0, .nameAndType 28 29), (0, u "value"), (0, u "I"), (0, .fieldref 15 31), (0, .nameAndType 8 32), (0, u "Lcom/example/nameroll/nameroll/core/Period$Unit;"), (1, .class_ 36), (1, u "com/example/nameroll/nameroll/core/Period$Unit"), (3, u "(ILcom/example/nameroll/nameroll/core/Period$Unit;)V"), (0, .methodref 34 42), (0, .nameAndType 43 44), (0, u "ordinal"), (0, u "()I"), (42, u "MAX_VALUE"), (8, u "wholeYears")] 36

def k3c0 : Code := { maxStack := 3, maxLocals := 3, code := prog_41_method_1_code, exceptionTable := #[], attributes := #[] }
def k3m0 : Method := { name := "<init>", desc := "(ILcom/example/nameroll/nameroll/core/Period$Unit;)V", sig := { parameters := [.int, (.object "com/example/nameroll/nameroll/core/Period$Unit")], returnType := none }, accessFlags := 1, code := some k3c0 }
def k3c1 : Code := { maxStack := 4, maxLocals := 1, code := prog_41_method_3_code, exceptionTable := #[], attributes := #[] }
def k3m1 : Method := { name := "wholeYears", desc := "()I", sig := { parameters := [], returnType := some .int }, accessFlags := 1, code := some k3c1 }
/-- com/example/nameroll/nameroll/core/Period -/
def k3 : Class := { plain "com/example/nameroll/nameroll/core/Period" (some 2) with
  accessFlags := 49
  interfaces := #[]
  cf := some (fileOf pool3 15 #[.nestMembers #[34]] #[{ accessFlags := 1, nameIndex := 5, descriptorIndex := 40, attributes := #[] }, { accessFlags := 1, nameIndex := 96, descriptorIndex := 44, attributes := #[] }] 49 2 #[] #[{ accessFlags := 18, nameIndex := 28, descriptorIndex := 29, attributes := #[] }, { accessFlags := 18, nameIndex := 8, descriptorIndex := 32, attributes := #[] }, { accessFlags := 25, nameIndex := 87, descriptorIndex := 29, attributes := #[] }])
  fields := #[{ name := "value", type := .int, accessFlags := 18, slot := 0, constantValue := 0 }, { name := "unit", type := (.object "com/example/nameroll/nameroll/core/Period$Unit"), accessFlags := 18, slot := 1, constantValue := 0 }, { name := "MAX_VALUE", type := .int, accessFlags := 25, slot := 0, constantValue := 0 }]
  methods := #[k3m0, k3m1]
  instanceTypes := #[.int, (.object "com/example/nameroll/nameroll/core/Period$Unit")]
  staticTypes := #[.int]
  resolved := Array.replicate 133 none
  statics := none }

def pool4 : Array CpInfo := pool [(1, .class_ 2), (0, u "java/lang/constant/Constable"), (0, .class_ 4), (0, u "java/lang/Object")] 6

/-- java/lang/constant/Constable -/
def k4 : Class := { plain "java/lang/constant/Constable" (some 0) with
  accessFlags := 1537
  interfaces := #[]
  cf := some (fileOf pool4 1 #[] #[] 1537 3 #[] #[])
  fields := #[]
  methods := #[]
  instanceTypes := #[]
  staticTypes := #[]
  resolved := Array.replicate 11 none
  statics := none }

def pool5 : Array CpInfo := pool [(1, .class_ 2), (0, u "java/lang/Comparable"), (0, .class_ 4), (0, u "java/lang/Object")] 7

/-- java/lang/Comparable -/
def k5 : Class := { plain "java/lang/Comparable" (some 0) with
  accessFlags := 1537
  interfaces := #[]
  cf := some (fileOf pool5 1 #[] #[] 1537 3 #[] #[])
  fields := #[]
  methods := #[]
  instanceTypes := #[]
  staticTypes := #[]
  resolved := Array.replicate 12 none
  statics := none }

def pool6 : Array CpInfo := pool [(1, .class_ 2), (0, u "java/io/Serializable"), (0, .class_ 4), (0, u "java/lang/Object")] 2

/-- java/io/Serializable -/
def k6 : Class := { plain "java/io/Serializable" (some 0) with
  accessFlags := 1537
  interfaces := #[]
  cf := some (fileOf pool6 1 #[] #[] 1537 3 #[] #[])
  fields := #[]
  methods := #[]
  instanceTypes := #[]
  staticTypes := #[]
  resolved := Array.replicate 7 none
  statics := none }

def pool7 : Array CpInfo := pool [(2, .class_ 4), (1, u "java/lang/Enum"), (0, u "name"), (0, u "Ljava/lang/String;"), (0, .fieldref 2 8), (0, .nameAndType 9 10), (0, u "ordinal"), (0, u "I"), (1, .class_ 14), (1, u "java/lang/Object"), (4, u "hash"), (86, .class_ 108), (1, u "java/lang/Enum$EnumDesc"), (2, .class_ 112), (0, u "java/lang/constant/Constable"), (0, .class_ 114), (0, u "java/lang/Comparable"), (0, .class_ 116), (0, u "java/io/Serializable"), (9, u "()I")] 77

def k7c0 : Code := { maxStack := 1, maxLocals := 1, code := jdk_37_method_2_code, exceptionTable := #[], attributes := #[] }
def k7m0 : Method := { name := "ordinal", desc := "()I", sig := { parameters := [], returnType := some .int }, accessFlags := 17, code := some k7c0 }
/-- java/lang/Enum -/
def k7 : Class := { plain "java/lang/Enum" (some 0) with
  accessFlags := 1057
  interfaces := #[4, 5, 6]
  cf := some (fileOf pool7 2 #[.nestMembers #[106]] #[{ accessFlags := 17, nameIndex := 9, descriptorIndex := 126, attributes := #[] }] 1057 12 #[111, 113, 115] #[{ accessFlags := 18, nameIndex := 5, descriptorIndex := 6, attributes := #[] }, { accessFlags := 18, nameIndex := 9, descriptorIndex := 10, attributes := #[] }, { accessFlags := 2, nameIndex := 19, descriptorIndex := 10, attributes := #[] }])
  fields := #[{ name := "name", type := (.object "java/lang/String"), accessFlags := 18, slot := 0, constantValue := 0 }, { name := "ordinal", type := .int, accessFlags := 18, slot := 1, constantValue := 0 }, { name := "hash", type := .int, accessFlags := 2, slot := 2, constantValue := 0 }]
  methods := #[k7m0]
  instanceTypes := #[(.object "java/lang/String"), .int, .int]
  staticTypes := #[]
  resolved := Array.replicate 204 none
  statics := none }

def pool8 : Array CpInfo := pool [(1, .class_ 2), (0, u "com/example/nameroll/nameroll/core/Period$Unit"), (2, u "YEARS"), (0, u "Lcom/example/nameroll/nameroll/core/Period$Unit;"), (2, u "MONTHS"), (2, u "$VALUES"), (0, u "[Lcom/example/nameroll/nameroll/core/Period$Unit;"), (6, .class_ 22), (1, u "java/lang/Enum"), (8, u "code"), (0, u "Ljava/lang/String;"), (75, .class_ 109), (0, u "com/example/nameroll/nameroll/core/Period")] 35

/-- com/example/nameroll/nameroll/core/Period$Unit -/
def k8 : Class := { plain "com/example/nameroll/nameroll/core/Period$Unit" (some 7) with
  accessFlags := 16433
  interfaces := #[]
  cf := some (fileOf pool8 1 #[.nestHost 108] #[] 16433 20 #[] #[{ accessFlags := 16409, nameIndex := 5, descriptorIndex := 6, attributes := #[] }, { accessFlags := 16409, nameIndex := 9, descriptorIndex := 6, attributes := #[] }, { accessFlags := 18, nameIndex := 31, descriptorIndex := 32, attributes := #[] }, { accessFlags := 4122, nameIndex := 12, descriptorIndex := 13, attributes := #[] }])
  fields := #[{ name := "YEARS", type := (.object "com/example/nameroll/nameroll/core/Period$Unit"), accessFlags := 16409, slot := 0, constantValue := 0 }, { name := "MONTHS", type := (.object "com/example/nameroll/nameroll/core/Period$Unit"), accessFlags := 16409, slot := 1, constantValue := 0 }, { name := "code", type := (.object "java/lang/String"), accessFlags := 18, slot := 3, constantValue := 0 }, { name := "$VALUES", type := (.array (.object "com/example/nameroll/nameroll/core/Period$Unit")), accessFlags := 4122, slot := 2, constantValue := 0 }]
  methods := #[]
  instanceTypes := #[(.object "java/lang/String"), .int, .int, (.object "java/lang/String")]
  staticTypes := #[(.object "com/example/nameroll/nameroll/core/Period$Unit"), (.object "com/example/nameroll/nameroll/core/Period$Unit"), (.array (.object "com/example/nameroll/nameroll/core/Period$Unit"))]
  resolved := Array.replicate 145 none
  statics := some 0 }

def pool9 : Array CpInfo := pool [(2, .class_ 4), (1, u "java/lang/CharSequence"), (42, .class_ 48), (0, u "java/lang/CharSequence$1CodePointIterator"), (10, .class_ 60), (0, u "java/lang/CharSequence$1CharIterator"), (5, .class_ 67), (0, u "java/lang/Object")] 63

/-- java/lang/CharSequence -/
def k9 : Class := { plain "java/lang/CharSequence" (some 0) with
  accessFlags := 1537
  interfaces := #[]
  cf := some (fileOf pool9 2 #[.nestMembers #[47, 59]] #[] 1537 66 #[] #[])
  fields := #[]
  methods := #[]
  instanceTypes := #[]
  staticTypes := #[]
  resolved := Array.replicate 131 none
  statics := none }

def pool10 : Array CpInfo := pool [(1, .class_ 2), (0, u "java/lang/constant/ConstantDesc"), (0, .class_ 4), (0, u "java/lang/Object")] 32

/-- java/lang/constant/ConstantDesc -/
def k10 : Class := { plain "java/lang/constant/ConstantDesc" (some 0) with
  accessFlags := 1537
  interfaces := #[]
  cf := some (fileOf pool10 1 #[] #[] 1537 3 #[] #[])
  fields := #[]
  methods := #[]
  instanceTypes := #[]
  staticTypes := #[]
  resolved := Array.replicate 37 none
  statics := none }

def pool11 : Array CpInfo := pool [(2, .class_ 4), (1, u "java/lang/Object"), (0, u "<init>"), (0, u "()V"), (3, .class_ 12), (1, u "java/lang/String"), (0, u "value"), (0, u "[B"), (2, u "coder"), (0, u "B"), (2, u "hash"), (0, u "I"), (2, u "hashIsZero"), (0, u "Z"), (13, u "COMPACT_STRINGS"), (534, .class_ 576), (0, u "java/lang/CharSequence"), (22, u "CASE_INSENSITIVE_ORDER"), (0, u "Ljava/util/Comparator;"), (500, u "serialPersistentFields"), (0, u "[Ljava/io/ObjectStreamField;"), (0, .class_ 1104), (0, u "java/lang/String$CaseInsensitiveComparator"), (1, .class_ 1107), (0, u "java/io/Serializable"), (0, .class_ 1109), (0, u "java/lang/Comparable"), (0, .class_ 1111), (0, u "java/lang/constant/Constable"), (0, .class_ 1113), (0, u "java/lang/constant/ConstantDesc"), (2, u "serialVersionUID"), (0, u "J"), (3, u "REPL"), (0, u "C"), (2, u "LATIN1"), (1, u "UTF16")] 323

def k11m0 : Method := { name := "<init>", desc := "()V", sig := { parameters := [], returnType := none }, accessFlags := 1, code := none }
/-- java/lang/String -/
def k11 : Class := { plain "java/lang/String" (some 0) with
  accessFlags := 49
  interfaces := #[6, 5, 9, 4, 10]
  cf := some (fileOf pool11 10 #[.nestMembers #[1103]] #[{ accessFlags := 1, nameIndex := 5, descriptorIndex := 6, attributes := #[] }] 49 2 #[1106, 1108, 575, 1110, 1112] #[{ accessFlags := 18, nameIndex := 13, descriptorIndex := 14, attributes := #[] }, { accessFlags := 18, nameIndex := 17, descriptorIndex := 18, attributes := #[] }, { accessFlags := 2, nameIndex := 21, descriptorIndex := 22, attributes := #[] }, { accessFlags := 2, nameIndex := 25, descriptorIndex := 26, attributes := #[] }, { accessFlags := 26, nameIndex := 1116, descriptorIndex := 1117, attributes := #[] }, { accessFlags := 24, nameIndex := 40, descriptorIndex := 26, attributes := #[] }, { accessFlags := 26, nameIndex := 1101, descriptorIndex := 1102, attributes := #[] }, { accessFlags := 26, nameIndex := 1121, descriptorIndex := 1122, attributes := #[] }, { accessFlags := 25, nameIndex := 599, descriptorIndex := 600, attributes := #[] }, { accessFlags := 24, nameIndex := 1125, descriptorIndex := 18, attributes := #[] }, { accessFlags := 24, nameIndex := 1127, descriptorIndex := 18, attributes := #[] }])
  fields := #[{ name := "value", type := (.array .byte), accessFlags := 18, slot := 0, constantValue := 0 }, { name := "coder", type := .byte, accessFlags := 18, slot := 1, constantValue := 0 }, { name := "hash", type := .int, accessFlags := 2, slot := 2, constantValue := 0 }, { name := "hashIsZero", type := .boolean, accessFlags := 2, slot := 3, constantValue := 0 }, { name := "serialVersionUID", type := .long, accessFlags := 26, slot := 0, constantValue := 0 }, { name := "COMPACT_STRINGS", type := .boolean, accessFlags := 24, slot := 1, constantValue := 0 }, { name := "serialPersistentFields", type := (.array (.object "java/io/ObjectStreamField")), accessFlags := 26, slot := 2, constantValue := 0 }, { name := "REPL", type := .char, accessFlags := 26, slot := 3, constantValue := 0 }, { name := "CASE_INSENSITIVE_ORDER", type := (.object "java/util/Comparator"), accessFlags := 25, slot := 4, constantValue := 0 }, { name := "LATIN1", type := .byte, accessFlags := 24, slot := 5, constantValue := 0 }, { name := "UTF16", type := .byte, accessFlags := 24, slot := 6, constantValue := 0 }]
  methods := #[k11m0]
  instanceTypes := #[(.array .byte), .byte, .int, .boolean]
  staticTypes := #[.long, .boolean, (.array (.object "java/io/ObjectStreamField")), .char, (.object "java/util/Comparator"), .byte, .byte]
  resolved := Array.replicate 1451 none
  statics := none }

def pool12 : Array CpInfo := pool [(2, .class_ 4), (1, u "java/lang/Object"), (0, u "<init>"), (0, u "()V"), (35, .class_ 44), (1, u "java/util/Objects"), (0, u "requireNonNull"), (48, u "(Ljava/lang/Object;Ljava/lang/String;)Ljava/lang/Object;")] 89

def k12m0 : Method := { name := "<init>", desc := "()V", sig := { parameters := [], returnType := none }, accessFlags := 2, code := none }
def k12c1 : Code := { maxStack := 3, maxLocals := 2, code := jdk_31_method_11_code, exceptionTable := #[], attributes := #[] }
def k12m1 : Method := { name := "requireNonNull", desc := "(Ljava/lang/Object;Ljava/lang/String;)Ljava/lang/Object;", sig := { parameters := [(.object "java/lang/Object"), (.object "java/lang/String")], returnType := some (.object "java/lang/Object") }, accessFlags := 9, code := some k12c1 }
/-- java/util/Objects -/
def k12 : Class := { plain "java/util/Objects" (some 0) with
  accessFlags := 49
  interfaces := #[]
  cf := some (fileOf pool12 42 #[] #[{ accessFlags := 2, nameIndex := 5, descriptorIndex := 6, attributes := #[] }, { accessFlags := 9, nameIndex := 45, descriptorIndex := 94, attributes := #[] }] 49 2 #[] #[])
  fields := #[]
  methods := #[k12m0, k12m1]
  instanceTypes := #[]
  staticTypes := #[]
  resolved := Array.replicate 184 none
  statics := none }

def pool13 : Array CpInfo := pool [(1, u "java/lang/Cloneable"), (0, .class_ 1), (0, u "java/lang/Object"), (0, .class_ 3)] 3

/-- java/lang/Cloneable -/
def k13 : Class := { plain "java/lang/Cloneable" (some 0) with
  accessFlags := 1537
  interfaces := #[]
  cf := some (fileOf pool13 2 #[] #[] 1537 4 #[] #[])
  fields := #[]
  methods := #[]
  instanceTypes := #[]
  staticTypes := #[]
  resolved := Array.replicate 8 none
  statics := none }

/-- the primitive byte -/
def k14 : Class := { plain "byte" none with kind := .primitive 'B', accessFlags := 0x411 }
/-- [B -/
def k15 : Class := { plain "[B" (some 0) with kind := .array 14 .byte, interfaces := #[13, 6], accessFlags := 1041 }

/-- the primitive int -/
def k16 : Class := { plain "int" none with kind := .primitive 'I', accessFlags := 0x411 }
/-- [I -/
def k17 : Class := { plain "[I" (some 0) with kind := .array 16 .int, interfaces := #[13, 6], accessFlags := 1041 }

def heap : Heap := #[{ cls := 8, slots := #[.ref 2, .ref 1, .null], vm := .statics 8 },
  { cls := 8, slots := #[.null, .int 1, .int 0, .null], vm := .none },
  { cls := 8, slots := #[.null, .int 0, .int 0, .null], vm := .none }]
def classes : Array Class := #[k0, k1, k2, k3, k4, k5, k6, k7, k8, k9, k10, k11, k12, k13, k14, k15, k16, k17]
def interned : List (Array UInt16 × Addr) := []
def slotsUsed : Nat := 11
def theMethod : MethodId := ⟨1, 1⟩
def args0 : Array Value := #[.int 5, .int 5, .int 5, .int 5]
def aboutOver (below : List Frame) : State where
  vm := { classes := classes, interned := interned.toArray }
  heap := heap
  slotsUsed := slotsUsed
  threads := #[{ frames := .invoking theMethod args0 :: below }]
def below0 : List Frame := [.native { method := ⟨0, 0⟩, args := #[] }]
def about1 : State := aboutOver below0
def p0 : Program := .bare "" "" ""
def e0 : Env := launch0.env 0 0 0
theorem w_frames : about1.frames = Frame.invoking theMethod args0 :: below0 := rfl
set_option maxRecDepth 65536 in
theorem w_args : argsFit about1.vm theMethod args0 = true := by decide +kernel
set_option maxRecDepth 65536 in
theorem w_heap : heapFits about1 = true := by decide +kernel
set_option maxRecDepth 65536 in
theorem w_runnable : about1.curStatus? = some .runnable := by decide +kernel
set_option maxRecDepth 65536 in
theorem w_alone : about1.alone = true := by decide +kernel
set_option maxRecDepth 65536 in
theorem w_named : about1.methodNamed? x = some theMethod := by decide +kernel
set_option maxRecDepth 65536 in
theorem w_hears : about1.hears theMethod below0 = true := by decide +kernel
set_option maxRecDepth 65536 in
theorem w_ripe : about1.ripe theMethod args0 below0 = true := by decide +kernel
theorem w_running : about1.status = .running := rfl
set_option maxRecDepth 65536 in
theorem w_room : about1.hasRoom e0.platform room_1 = true :=
  launch0.hasRoom_least _ room_1 (by decide +kernel) (by decide +kernel) (by decide +kernel) (by decide +kernel) (by decide +kernel) (by decide +kernel)
theorem allAtoms_all (ts : List Jvm.Cond) (a : Array Jvm.Value) (st : Jvm.State) : (allAtoms ts).before a st = ts.all (fun c => c.before a st) := by
  induction ts with
  | nil => rfl
  | cons c t ih =>
    show (Jvm.Cond.and c (allAtoms t)).before a st = _
    rw [Jvm.Cond.before_and, ih, List.all_cons]
def words1 : List Jvm.Cond := Jvm.Cond.code x code maxLocals ret :: tables_1
/-- a 'code' word, met by the world's own term for the bytes: nothing is compared byte by byte -/
theorem code_word {y : MethodName} {bytes : ByteArray} {mx : Nat} {rt : Option FieldType} {a : Array Value} {s : State} {m : MethodId} {meth : Method} {c : Code} (h1 : s.methodNamed? y = some m) (h2 : s.vm.method? m = some meth) (h3 : meth.code = some c) (h4 : c.code = bytes)
    (h5 : (c.maxLocals == mx && c.exceptionTable.isEmpty && decide (c.maxStack ≤ mostOperands) && decide (meth.sig.returnType = rt) && !meth.locks && decide (parseMethodDescriptor y.desc = some meth.sig)) = true) : (Jvm.Cond.code y bytes mx rt).before a s = true := by
  simp only [Bool.and_eq_true, beq_iff_eq, Bool.not_eq_true', decide_eq_true_eq] at h5
  obtain ⟨⟨⟨⟨⟨g1, g2⟩, g3⟩, g4⟩, g5⟩, g6⟩ := h5
  simp [Cond.before, Cond.holds, Cond.value, h1, h2, h3, h4, g1, g2, g3, g4, g5, g6]
def isCode : Jvm.Cond → Bool
  | .code _ _ _ _ => true
  | _ => false
theorem all_split {L : List Jvm.Cond} {P : Jvm.Cond → Bool} (h1 : L.all (fun c => isCode c || P c) = true) (h2 : ∀ c ∈ L.filter isCode, P c = true) : L.all P = true := by
  refine List.all_eq_true.mpr fun c hc => ?_
  have h := List.all_eq_true.mp h1 c hc
  rcases Bool.eq_false_or_eq_true (isCode c) with hi | hi
  · exact h2 c (List.mem_filter.mpr ⟨hc, hi⟩)
  · simpa [hi] using h
set_option maxRecDepth 65536 in
theorem w_c0 : (Jvm.Cond.code x code maxLocals ret).before args0 about1 = true := code_word (m := ⟨1, 1⟩) (meth := k1m1) (c := k1c1) (by decide +kernel) rfl rfl rfl (by decide +kernel)
set_option maxRecDepth 65536 in
theorem w_c1 : (Jvm.Cond.code ({ cls := "com/example/nameroll/nameroll/core/Period", name := "<init>", desc := "(ILcom/example/nameroll/nameroll/core/Period$Unit;)V" } : Jvm.MethodName) prog_41_method_1_code (3 : Nat) (Option.none : Option Jvm.ClassFile.FieldType)).before args0 about1 = true := code_word (m := ⟨3, 0⟩) (meth := k3m0) (c := k3c0) (by decide +kernel) rfl rfl rfl (by decide +kernel)
set_option maxRecDepth 65536 in
theorem w_c2 : (Jvm.Cond.code ({ cls := "java/lang/Record", name := "<init>", desc := "()V" } : Jvm.MethodName) jdk_30_method_1_code (1 : Nat) (Option.none : Option Jvm.ClassFile.FieldType)).before args0 about1 = true := code_word (m := ⟨2, 0⟩) (meth := k2m0) (c := k2c0) (by decide +kernel) rfl rfl rfl (by decide +kernel)
set_option maxRecDepth 65536 in
theorem w_c3 : (Jvm.Cond.code ({ cls := "java/lang/Object", name := "<init>", desc := "()V" } : Jvm.MethodName) object_method_1_code (1 : Nat) (Option.none : Option Jvm.ClassFile.FieldType)).before args0 about1 = true := code_word (m := ⟨0, 0⟩) (meth := k0m0) (c := k0c0) (by decide +kernel) rfl rfl rfl (by decide +kernel)
set_option maxRecDepth 65536 in
theorem w_c4 : (Jvm.Cond.code ({ cls := "java/util/Objects", name := "requireNonNull", desc := "(Ljava/lang/Object;Ljava/lang/String;)Ljava/lang/Object;" } : Jvm.MethodName) jdk_31_method_11_code (2 : Nat) (Option.some (Jvm.ClassFile.FieldType.object "java/lang/Object"))).before args0 about1 = true := code_word (m := ⟨12, 1⟩) (meth := k12m1) (c := k12c1) (by decide +kernel) rfl rfl rfl (by decide +kernel)
set_option maxRecDepth 65536 in
theorem w_c5 : (Jvm.Cond.code ({ cls := "com/example/nameroll/nameroll/core/Period", name := "wholeYears", desc := "()I" } : Jvm.MethodName) prog_41_method_3_code (1 : Nat) (Option.some Jvm.ClassFile.FieldType.int)).before args0 about1 = true := code_word (m := ⟨3, 1⟩) (meth := k3m1) (c := k3c1) (by decide +kernel) rfl rfl rfl (by decide +kernel)
set_option maxRecDepth 65536 in
theorem w_c6 : (Jvm.Cond.code ({ cls := "java/lang/Enum", name := "ordinal", desc := "()I" } : Jvm.MethodName) jdk_37_method_2_code (1 : Nat) (Option.some Jvm.ClassFile.FieldType.int)).before args0 about1 = true := code_word (m := ⟨7, 0⟩) (meth := k7m0) (c := k7c0) (by decide +kernel) rfl rfl rfl (by decide +kernel)
def codes1 : List Jvm.Cond := [Jvm.Cond.code x code maxLocals ret, Jvm.Cond.code ({ cls := "com/example/nameroll/nameroll/core/Period", name := "<init>", desc := "(ILcom/example/nameroll/nameroll/core/Period$Unit;)V" } : Jvm.MethodName) prog_41_method_1_code (3 : Nat) (Option.none : Option Jvm.ClassFile.FieldType), Jvm.Cond.code ({ cls := "java/lang/Record", name := "<init>", desc := "()V" } : Jvm.MethodName) jdk_30_method_1_code (1 : Nat) (Option.none : Option Jvm.ClassFile.FieldType), Jvm.Cond.code ({ cls := "java/lang/Object", name := "<init>", desc := "()V" } : Jvm.MethodName) object_method_1_code (1 : Nat) (Option.none : Option Jvm.ClassFile.FieldType), Jvm.Cond.code ({ cls := "java/util/Objects", name := "requireNonNull", desc := "(Ljava/lang/Object;Ljava/lang/String;)Ljava/lang/Object;" } : Jvm.MethodName) jdk_31_method_11_code (2 : Nat) (Option.some (Jvm.ClassFile.FieldType.object "java/lang/Object")), Jvm.Cond.code ({ cls := "com/example/nameroll/nameroll/core/Period", name := "wholeYears", desc := "()I" } : Jvm.MethodName) prog_41_method_3_code (1 : Nat) (Option.some Jvm.ClassFile.FieldType.int), Jvm.Cond.code ({ cls := "java/lang/Enum", name := "ordinal", desc := "()I" } : Jvm.MethodName) jdk_37_method_2_code (1 : Nat) (Option.some Jvm.ClassFile.FieldType.int)]
set_option maxRecDepth 65536 in
theorem codes_eq : words1.filter isCode = codes1 := rfl
theorem w_codes : ∀ c ∈ words1.filter isCode, c.before args0 about1 = true := by
  rw [codes_eq]
  intro c hc
  simp only [codes1, List.mem_cons, List.not_mem_nil, or_false] at hc
  rcases hc with rfl | rfl | rfl | rfl | rfl | rfl | rfl
  · exact w_c0
  · exact w_c1
  · exact w_c2
  · exact w_c3
  · exact w_c4
  · exact w_c5
  · exact w_c6
set_option maxRecDepth 65536 in
theorem w_t1 : (words1.take 24).all (fun c => isCode c || c.before args0 about1) = true := by decide +kernel
set_option maxRecDepth 65536 in
theorem w_t2 : ((words1.drop 24).take 24).all (fun c => isCode c || c.before args0 about1) = true := by decide +kernel
set_option maxRecDepth 65536 in
theorem w_t3 : ((words1.drop 24).drop 24).all (fun c => isCode c || c.before args0 about1) = true := by decide +kernel
theorem w_tables : (allAtoms (Jvm.Cond.code x code maxLocals ret :: tables_1)).before args0 about1 = true := by
  rw [allAtoms_all]
  show words1.all (fun c => c.before args0 about1) = true
  refine all_split ?_ w_codes
  rw [← List.take_append_drop 24 words1, List.all_append, w_t1, ← List.take_append_drop 24 (words1.drop 24), List.all_append, w_t2, w_t3]
  rfl
set_option maxRecDepth 65536 in
theorem w_case : (Jvm.Cond.and given_1 narrow_1).before args0 about1 = true := by decide +kernel
theorem w_applies : (headSpec (Jvm.Cond.code x code maxLocals ret :: tables_1) room_1).applies x e0.platform about1 = true :=
  (Spec.applies_iff w_frames).mpr ⟨w_running, w_runnable, w_alone, w_named, w_hears, w_ripe, w_room, w_tables⟩
theorem atStart : AtStart classFile x code maxLocals ret World_1 tables_1 room_1 Calls_1 rest_1 Pre_1 launch0 p0 e0 about1 theMethod args0 below0 :=
  ⟨lists_1, trivial, launch0.admits_env _ _ _, launch0.least_env, fairChoices_fair.cas, fairChoices_fair.clock, w_frames, w_args, w_heap, w_applies, trivial, trivial, w_case⟩
end start1
theorem witness_1 : WitnessClaimed_1 := ⟨start1.p0, start1.e0, start1.about1, start1.theMethod, start1.args0, start1.below0, start1.atStart⟩
end Jvm.Pilot.@@N@@
