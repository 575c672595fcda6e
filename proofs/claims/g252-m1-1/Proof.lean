import JvmDerived
import JvmDerived.Pilot.@@N@@Statement
import JvmDerived.Pilot.@@N@@Code
set_option linter.unusedVariables false
set_option linter.unusedSimpArgs false
@@BLOCK:NumsL.lean.txt@@
namespace Jvm.Pilot.@@N@@
open Jvm Jvm.ClassFile Sem Op Lib Jvm.Free Jvm.Stand Jvm.LawKit Jvm.RoadKit Bundle Jvm.Pilot.@@N@@.Jvm.D
abbrev oI (x : Int32) : Slot := .val (.int x)
abbrev oJ (x : Int64) : Slot := .val (.long x)
abbrev oA (x : Addr) : Slot := .val (.ref x)
abbrev oN : Slot := .val .null
abbrev oU : Slot := .unset
abbrev oS : Slot := .second
theorem own_w {Z : State} {a0 : Array Value} (hw : ∀ d ∈ tables_1, d.before a0 Z = true) (i : Nat) {d : Jvm.Cond} (h : tables_1[i]? = some d) : d.before a0 Z = true := hw d (List.mem_of_getElem? h)
section Own
variable {p : Program} {l : Launch} {e : Env} {R : Room} {s : State} {m : MethodId} {args : Array Value} {below : List Frame} {meth : Method} {c : Code} {T : State} {locs : List Loc} {cells slots : Nat} {P : State → Outcome → Prop} {pc : Nat} {ls : Array Slot} {st : List Value} {Z : State} {a0 : Array Value} {h : Heap} {bytes : ByteArray}
/-- the run goes on from A and ends so that P holds -/
def Go (p : Program) (e : Env) (below : List Frame) (P : State → Outcome → Prop) (A : State) : Prop := ∃ s₂ o, Steps p.tables e below A s₂ ∧ P s₂ o
theorem own_go {A A' : State} (h : ∀ t, Steps p.tables e below A' t → Steps p.tables e below A t) (k : Go p e below P A') : Go p e below P A := by
  obtain ⟨s₂, o, h1, h2⟩ := k
  exact ⟨s₂, o, h _ h1, h2⟩
/-! loads, stores, constants -/
theorem own_iload_n (pc' : Nat) (X : Stand p l e R s m args below meth c T locs cells slots) (hx : p.tables.exec = Jvm.exec) (hby : c.code = bytes) {k : Fin 4} {v : Int32} (hd : decode bytes pc = .ok (.iload_n k, 1)) (hp : pc + 1 = pc') (hl : ls[k.val]? = some (.val (.int v))) (r : Go p e below P (T.setTop (mkF m pc' ls (.int v :: st)))) : Go p e below P (T.setTop (mkF m pc ls st)) := by
  subst hp; exact own_go (fun t q => XS.iloadN X.here hx rfl (hb hby hd) hl q) r
theorem own_iload (pc' : Nat) (X : Stand p l e R s m args below meth c T locs cells slots) (hx : p.tables.exec = Jvm.exec) (hby : c.code = bytes) {k : Nat} {v : Int32} (hd : decode bytes pc = .ok (.iload k, 2)) (hp : pc + 2 = pc') (hl : ls[k]? = some (.val (.int v))) (r : Go p e below P (T.setTop (mkF m pc' ls (.int v :: st)))) : Go p e below P (T.setTop (mkF m pc ls st)) := by
  subst hp; exact own_go (fun t q => XS.iload X.here hx rfl (hb hby hd) hl q) r
theorem own_lload_n (pc' : Nat) (X : Stand p l e R s m args below meth c T locs cells slots) (hx : p.tables.exec = Jvm.exec) (hby : c.code = bytes) {k : Fin 4} {v : Int64} (hd : decode bytes pc = .ok (.lload_n k, 1)) (hp : pc + 1 = pc') (hl : ls[k.val]? = some (.val (.long v))) (r : Go p e below P (T.setTop (mkF m pc' ls (.long v :: st)))) : Go p e below P (T.setTop (mkF m pc ls st)) := by
  subst hp; exact own_go (fun t q => XT.lloadN X.here hx rfl (hb hby hd) hl q) r
theorem own_lload (pc' : Nat) (X : Stand p l e R s m args below meth c T locs cells slots) (hx : p.tables.exec = Jvm.exec) (hby : c.code = bytes) {k : Nat} {v : Int64} (hd : decode bytes pc = .ok (.lload k, 2)) (hp : pc + 2 = pc') (hl : ls[k]? = some (.val (.long v))) (r : Go p e below P (T.setTop (mkF m pc' ls (.long v :: st)))) : Go p e below P (T.setTop (mkF m pc ls st)) := by
  subst hp; exact own_go (fun t q => XT.lload X.here hx rfl (hb hby hd) hl q) r
theorem own_aload_n (pc' : Nat) (X : Stand p l e R s m args below meth c T locs cells slots) (hx : p.tables.exec = Jvm.exec) (hby : c.code = bytes) {k : Fin 4} {v : Value} (hd : decode bytes pc = .ok (.aload_n k, 1)) (hp : pc + 1 = pc') (hl : ls[k.val]? = some (.val v)) (hv : v.isRef = true) (r : Go p e below P (T.setTop (mkF m pc' ls (v :: st)))) : Go p e below P (T.setTop (mkF m pc ls st)) := by
  subst hp; exact own_go (fun t q => XS.aloadN X.here hx rfl (hb hby hd) hl hv q) r
theorem own_aload (pc' : Nat) (X : Stand p l e R s m args below meth c T locs cells slots) (hx : p.tables.exec = Jvm.exec) (hby : c.code = bytes) {k : Nat} {v : Value} (hd : decode bytes pc = .ok (.aload k, 2)) (hp : pc + 2 = pc') (hl : ls[k]? = some (.val v)) (hv : v.isRef = true) (r : Go p e below P (T.setTop (mkF m pc' ls (v :: st)))) : Go p e below P (T.setTop (mkF m pc ls st)) := by
  subst hp; exact own_go (fun t q => XS.aload X.here hx rfl (hb hby hd) hl hv q) r
theorem own_istore_n (pc' : Nat) (l' : Array Slot) (X : Stand p l e R s m args below meth c T locs cells slots) (hx : p.tables.exec = Jvm.exec) (hby : c.code = bytes) {k : Fin 4} {v : Int32} (hd : decode bytes pc = .ok (.istore_n k, 1)) (hp : pc + 1 = pc') (hl : storeLocals ls k.val (.int v) = some l') (r : Go p e below P (T.setTop (mkF m pc' l' st))) : Go p e below P (T.setTop (mkF m pc ls (.int v :: st))) := by
  subst hp; exact own_go (fun t q => XS.istoreN X.here hx rfl (hb hby hd) rfl hl q) r
theorem own_istore (pc' : Nat) (l' : Array Slot) (X : Stand p l e R s m args below meth c T locs cells slots) (hx : p.tables.exec = Jvm.exec) (hby : c.code = bytes) {k : Nat} {v : Int32} (hd : decode bytes pc = .ok (.istore k, 2)) (hp : pc + 2 = pc') (hl : storeLocals ls k (.int v) = some l') (r : Go p e below P (T.setTop (mkF m pc' l' st))) : Go p e below P (T.setTop (mkF m pc ls (.int v :: st))) := by
  subst hp; exact own_go (fun t q => XS.istore X.here hx rfl (hb hby hd) rfl hl q) r
theorem own_lstore_n (pc' : Nat) (l' : Array Slot) (X : Stand p l e R s m args below meth c T locs cells slots) (hx : p.tables.exec = Jvm.exec) (hby : c.code = bytes) {k : Fin 4} {v : Int64} (hd : decode bytes pc = .ok (.lstore_n k, 1)) (hp : pc + 1 = pc') (hl : storeLocals ls k.val (.long v) = some l') (r : Go p e below P (T.setTop (mkF m pc' l' st))) : Go p e below P (T.setTop (mkF m pc ls (.long v :: st))) := by
  subst hp; exact own_go (fun t q => XT.lstoreN X.here hx rfl (hb hby hd) rfl hl q) r
theorem own_lstore (pc' : Nat) (l' : Array Slot) (X : Stand p l e R s m args below meth c T locs cells slots) (hx : p.tables.exec = Jvm.exec) (hby : c.code = bytes) {k : Nat} {v : Int64} (hd : decode bytes pc = .ok (.lstore k, 2)) (hp : pc + 2 = pc') (hl : storeLocals ls k (.long v) = some l') (r : Go p e below P (T.setTop (mkF m pc' l' st))) : Go p e below P (T.setTop (mkF m pc ls (.long v :: st))) := by
  subst hp; exact own_go (fun t q => XT.lstore X.here hx rfl (hb hby hd) rfl hl q) r
theorem own_astore_n (pc' : Nat) (l' : Array Slot) (X : Stand p l e R s m args below meth c T locs cells slots) (hx : p.tables.exec = Jvm.exec) (hby : c.code = bytes) {k : Fin 4} {v : Value} (hd : decode bytes pc = .ok (.astore_n k, 1)) (hp : pc + 1 = pc') (hv : v.isRef = true) (hl : storeLocals ls k.val v = some l') (r : Go p e below P (T.setTop (mkF m pc' l' st))) : Go p e below P (T.setTop (mkF m pc ls (v :: st))) := by
  subst hp; exact own_go (fun t q => XS.astoreN X.here hx rfl (hb hby hd) rfl hv hl q) r
theorem own_astore (pc' : Nat) (l' : Array Slot) (X : Stand p l e R s m args below meth c T locs cells slots) (hx : p.tables.exec = Jvm.exec) (hby : c.code = bytes) {k : Nat} {v : Value} (hd : decode bytes pc = .ok (.astore k, 2)) (hp : pc + 2 = pc') (hv : v.isRef = true) (hl : storeLocals ls k v = some l') (r : Go p e below P (T.setTop (mkF m pc' l' st))) : Go p e below P (T.setTop (mkF m pc ls (v :: st))) := by
  subst hp; exact own_go (fun t q => XS.astore X.here hx rfl (hb hby hd) rfl hv hl q) r
theorem own_iconst (pc' : Nat) (w : Int32) (X : Stand p l e R s m args below meth c T locs cells slots) (hx : p.tables.exec = Jvm.exec) (hby : c.code = bytes) {i : Int} (hd : decode bytes pc = .ok (.iconst i, 1)) (hp : pc + 1 = pc') (hw : Int32.ofInt i = w) (r : Go p e below P (T.setTop (mkF m pc' ls (.int w :: st)))) : Go p e below P (T.setTop (mkF m pc ls st)) := by
  subst hp hw; exact own_go (fun t q => XS.iconst X.here hx rfl (hb hby hd) q) r
theorem own_bipush (pc' : Nat) (w : Int32) (X : Stand p l e R s m args below meth c T locs cells slots) (hx : p.tables.exec = Jvm.exec) (hby : c.code = bytes) {i : Int} (hd : decode bytes pc = .ok (.bipush i, 2)) (hp : pc + 2 = pc') (hw : (Int8.ofInt i).toInt32 = w) (r : Go p e below P (T.setTop (mkF m pc' ls (.int w :: st)))) : Go p e below P (T.setTop (mkF m pc ls st)) := by
  subst hp hw; exact own_go (fun t q => XS.bipush X.here hx rfl (hb hby hd) q) r
theorem own_sipush (pc' : Nat) (w : Int32) (X : Stand p l e R s m args below meth c T locs cells slots) (hx : p.tables.exec = Jvm.exec) (hby : c.code = bytes) {i : Int} (hd : decode bytes pc = .ok (.sipush i, 3)) (hp : pc + 3 = pc') (hw : (Int16.ofInt i).toInt32 = w) (r : Go p e below P (T.setTop (mkF m pc' ls (.int w :: st)))) : Go p e below P (T.setTop (mkF m pc ls st)) := by
  subst hp hw; exact own_go (fun t q => XS.sipush X.here hx rfl (hb hby hd) q) r
theorem own_lconst (pc' : Nat) (w : Int64) (X : Stand p l e R s m args below meth c T locs cells slots) (hx : p.tables.exec = Jvm.exec) (hby : c.code = bytes) {k : Fin 2} (hd : decode bytes pc = .ok (.lconst k, 1)) (hp : pc + 1 = pc') (hw : Int64.ofNat k = w) (r : Go p e below P (T.setTop (mkF m pc' ls (.long w :: st)))) : Go p e below P (T.setTop (mkF m pc ls st)) := by
  subst hp hw; exact own_go (fun t q => XT.lconst X.here hx rfl (hb hby hd) q) r
theorem own_null (pc' : Nat) (X : Stand p l e R s m args below meth c T locs cells slots) (hx : p.tables.exec = Jvm.exec) (hby : c.code = bytes) (hd : decode bytes pc = .ok (.aconst_null, 1)) (hp : pc + 1 = pc') (r : Go p e below P (T.setTop (mkF m pc' ls (.null :: st)))) : Go p e below P (T.setTop (mkF m pc ls st)) := by
  subst hp; exact own_go (fun t q => XS.aconstNull X.here hx rfl (hb hby hd) q) r
theorem own_ldc (pc' : Nat) (X : Stand p l e R s m args below meth c T locs cells slots) (hx : p.tables.exec = Jvm.exec) (hby : c.code = bytes) (hZ : Z.Warmed39 s.vm) {own : String} {index : Nat} {v : Int32} (hown : s.vm.findClass own = some m.cls) (w : (Cond.constant own index v).before a0 Z = true) (hd : decode bytes pc = .ok (.ldc index, 2)) (hp : pc + 2 = pc') (r : Go p e below P (T.setTop (mkF m pc' ls (.int v :: st)))) : Go p e below P (T.setTop (mkF m pc ls st)) := by
  subst hp; exact own_go (fun t q => X.ldcI hx hown (mvT hZ w) rfl (hb hby hd) q) r
theorem own_ldc2 (pc' : Nat) (X : Stand p l e R s m args below meth c T locs cells slots) (hx : p.tables.exec = Jvm.exec) (hby : c.code = bytes) (hZ : Z.Warmed39 s.vm) {own : String} {index : Nat} {v : Int64} (hown : s.vm.findClass own = some m.cls) (w : (Cond.constantLong own index v).before a0 Z = true) (hd : decode bytes pc = .ok (.ldc2_w index, 3)) (hp : pc + 3 = pc') (r : Go p e below P (T.setTop (mkF m pc' ls (.long v :: st)))) : Go p e below P (T.setTop (mkF m pc ls st)) := by
  subst hp; exact own_go (fun t q => X.ldc2J hx hown (mvT hZ w) rfl (hb hby hd) q) r
/-! arithmetic -/
theorem own_iadd (pc' : Nat) (w : Int32) (X : Stand p l e R s m args below meth c T locs cells slots) (hx : p.tables.exec = Jvm.exec) (hby : c.code = bytes) {x y : Int32} (hd : decode bytes pc = .ok (.iadd, 1)) (hp : pc + 1 = pc') (hw : x + y = w) (r : Go p e below P (T.setTop (mkF m pc' ls (.int w :: st)))) : Go p e below P (T.setTop (mkF m pc ls (.int y :: .int x :: st))) := by
  subst hp hw; exact own_go (fun t q => XS.iadd X.here hx rfl (hb hby hd) rfl q) r
theorem own_isub (pc' : Nat) (w : Int32) (X : Stand p l e R s m args below meth c T locs cells slots) (hx : p.tables.exec = Jvm.exec) (hby : c.code = bytes) {x y : Int32} (hd : decode bytes pc = .ok (.isub, 1)) (hp : pc + 1 = pc') (hw : x - y = w) (r : Go p e below P (T.setTop (mkF m pc' ls (.int w :: st)))) : Go p e below P (T.setTop (mkF m pc ls (.int y :: .int x :: st))) := by
  subst hp hw; exact own_go (fun t q => XS.isub X.here hx rfl (hb hby hd) rfl q) r
theorem own_imul (pc' : Nat) (w : Int32) (X : Stand p l e R s m args below meth c T locs cells slots) (hx : p.tables.exec = Jvm.exec) (hby : c.code = bytes) {x y : Int32} (hd : decode bytes pc = .ok (.imul, 1)) (hp : pc + 1 = pc') (hw : x * y = w) (r : Go p e below P (T.setTop (mkF m pc' ls (.int w :: st)))) : Go p e below P (T.setTop (mkF m pc ls (.int y :: .int x :: st))) := by
  subst hp hw; exact own_go (fun t q => XS.imul X.here hx rfl (hb hby hd) rfl q) r
theorem own_idiv (pc' : Nat) (w : Int32) (X : Stand p l e R s m args below meth c T locs cells slots) (hx : p.tables.exec = Jvm.exec) (hby : c.code = bytes) {x y : Int32} (hd : decode bytes pc = .ok (.idiv, 1)) (hp : pc + 1 = pc') (hy : y ≠ 0) (hw : x / y = w) (r : Go p e below P (T.setTop (mkF m pc' ls (.int w :: st)))) : Go p e below P (T.setTop (mkF m pc ls (.int y :: .int x :: st))) := by
  subst hp hw; exact own_go (fun t q => XS.idiv X.here hx rfl (hb hby hd) rfl hy q) r
theorem own_irem (pc' : Nat) (w : Int32) (X : Stand p l e R s m args below meth c T locs cells slots) (hx : p.tables.exec = Jvm.exec) (hby : c.code = bytes) {x y : Int32} (hd : decode bytes pc = .ok (.irem, 1)) (hp : pc + 1 = pc') (hy : y ≠ 0) (hw : x % y = w) (r : Go p e below P (T.setTop (mkF m pc' ls (.int w :: st)))) : Go p e below P (T.setTop (mkF m pc ls (.int y :: .int x :: st))) := by
  subst hp hw; exact own_go (fun t q => iremM X hx rfl (hb hby hd) rfl hy q) r
theorem own_iand (pc' : Nat) (w : Int32) (X : Stand p l e R s m args below meth c T locs cells slots) (hx : p.tables.exec = Jvm.exec) (hby : c.code = bytes) {x y : Int32} (hd : decode bytes pc = .ok (.iand, 1)) (hp : pc + 1 = pc') (hw : x &&& y = w) (r : Go p e below P (T.setTop (mkF m pc' ls (.int w :: st)))) : Go p e below P (T.setTop (mkF m pc ls (.int y :: .int x :: st))) := by
  subst hp hw; exact own_go (fun t q => XS.iand X.here hx rfl (hb hby hd) rfl q) r
theorem own_ishr (pc' : Nat) (w : Int32) (X : Stand p l e R s m args below meth c T locs cells slots) (hx : p.tables.exec = Jvm.exec) (hby : c.code = bytes) {x y : Int32} (hd : decode bytes pc = .ok (.ishr, 1)) (hp : pc + 1 = pc') (hw : x >>> (y &&& 31) = w) (r : Go p e below P (T.setTop (mkF m pc' ls (.int w :: st)))) : Go p e below P (T.setTop (mkF m pc ls (.int y :: .int x :: st))) := by
  subst hp hw; exact own_go (fun t q => XT.ishr X.here hx rfl (hb hby hd) rfl q) r
theorem own_iushr (pc' : Nat) (w : Int32) (X : Stand p l e R s m args below meth c T locs cells slots) (hx : p.tables.exec = Jvm.exec) (hby : c.code = bytes) {x y : Int32} (hd : decode bytes pc = .ok (.iushr, 1)) (hp : pc + 1 = pc') (hw : XT.ushr x y = w) (r : Go p e below P (T.setTop (mkF m pc' ls (.int w :: st)))) : Go p e below P (T.setTop (mkF m pc ls (.int y :: .int x :: st))) := by
  subst hp hw; exact own_go (fun t q => XT.iushr X.here hx rfl (hb hby hd) rfl q) r
theorem own_ladd (pc' : Nat) (w : Int64) (X : Stand p l e R s m args below meth c T locs cells slots) (hx : p.tables.exec = Jvm.exec) (hby : c.code = bytes) {x y : Int64} (hd : decode bytes pc = .ok (.ladd, 1)) (hp : pc + 1 = pc') (hw : x + y = w) (r : Go p e below P (T.setTop (mkF m pc' ls (.long w :: st)))) : Go p e below P (T.setTop (mkF m pc ls (.long y :: .long x :: st))) := by
  subst hp hw; exact own_go (fun t q => XT.ladd X.here hx rfl (hb hby hd) rfl q) r
theorem own_lsub (pc' : Nat) (w : Int64) (X : Stand p l e R s m args below meth c T locs cells slots) (hx : p.tables.exec = Jvm.exec) (hby : c.code = bytes) {x y : Int64} (hd : decode bytes pc = .ok (.lsub, 1)) (hp : pc + 1 = pc') (hw : x - y = w) (r : Go p e below P (T.setTop (mkF m pc' ls (.long w :: st)))) : Go p e below P (T.setTop (mkF m pc ls (.long y :: .long x :: st))) := by
  subst hp hw; exact own_go (fun t q => XT.lsub X.here hx rfl (hb hby hd) rfl q) r
theorem own_lmul (pc' : Nat) (w : Int64) (X : Stand p l e R s m args below meth c T locs cells slots) (hx : p.tables.exec = Jvm.exec) (hby : c.code = bytes) {x y : Int64} (hd : decode bytes pc = .ok (.lmul, 1)) (hp : pc + 1 = pc') (hw : x * y = w) (r : Go p e below P (T.setTop (mkF m pc' ls (.long w :: st)))) : Go p e below P (T.setTop (mkF m pc ls (.long y :: .long x :: st))) := by
  subst hp hw; exact own_go (fun t q => XT.lmul X.here hx rfl (hb hby hd) rfl q) r
theorem own_ldiv (pc' : Nat) (w : Int64) (X : Stand p l e R s m args below meth c T locs cells slots) (hx : p.tables.exec = Jvm.exec) (hby : c.code = bytes) {x y : Int64} (hd : decode bytes pc = .ok (.ldiv, 1)) (hp : pc + 1 = pc') (hy : y ≠ 0) (hw : x / y = w) (r : Go p e below P (T.setTop (mkF m pc' ls (.long w :: st)))) : Go p e below P (T.setTop (mkF m pc ls (.long y :: .long x :: st))) := by
  subst hp hw; exact own_go (fun t q => XT.ldiv X.here hx rfl (hb hby hd) rfl hy q) r
theorem own_lrem (pc' : Nat) (w : Int64) (X : Stand p l e R s m args below meth c T locs cells slots) (hx : p.tables.exec = Jvm.exec) (hby : c.code = bytes) {x y : Int64} (hd : decode bytes pc = .ok (.lrem, 1)) (hp : pc + 1 = pc') (hy : y ≠ 0) (hw : x - (x / y) * y = w) (r : Go p e below P (T.setTop (mkF m pc' ls (.long w :: st)))) : Go p e below P (T.setTop (mkF m pc ls (.long y :: .long x :: st))) := by
  subst hp hw; exact own_go (fun t q => XT.lrem X.here hx rfl (hb hby hd) rfl hy q) r
theorem own_land (pc' : Nat) (w : Int64) (X : Stand p l e R s m args below meth c T locs cells slots) (hx : p.tables.exec = Jvm.exec) (hby : c.code = bytes) {x y : Int64} (hd : decode bytes pc = .ok (.land, 1)) (hp : pc + 1 = pc') (hw : x &&& y = w) (r : Go p e below P (T.setTop (mkF m pc' ls (.long w :: st)))) : Go p e below P (T.setTop (mkF m pc ls (.long y :: .long x :: st))) := by
  subst hp hw; exact own_go (fun t q => XT.land X.here hx rfl (hb hby hd) rfl q) r
theorem own_lushr (pc' : Nat) (w : Int64) (X : Stand p l e R s m args below meth c T locs cells slots) (hx : p.tables.exec = Jvm.exec) (hby : c.code = bytes) {x : Int64} {y : Int32} (hd : decode bytes pc = .ok (.lushr, 1)) (hp : pc + 1 = pc') (hw : XT.ushrL x y = w) (r : Go p e below P (T.setTop (mkF m pc' ls (.long w :: st)))) : Go p e below P (T.setTop (mkF m pc ls (.int y :: .long x :: st))) := by
  subst hp hw; exact own_go (fun t q => XT.lushr X.here hx rfl (hb hby hd) rfl q) r
theorem own_i2l (pc' : Nat) (w : Int64) (X : Stand p l e R s m args below meth c T locs cells slots) (hx : p.tables.exec = Jvm.exec) (hby : c.code = bytes) {x : Int32} (hd : decode bytes pc = .ok (.i2l, 1)) (hp : pc + 1 = pc') (hw : x.toInt64 = w) (r : Go p e below P (T.setTop (mkF m pc' ls (.long w :: st)))) : Go p e below P (T.setTop (mkF m pc ls (.int x :: st))) := by
  subst hp hw; exact own_go (fun t q => XT.i2l X.here hx rfl (hb hby hd) rfl q) r
theorem own_l2i (pc' : Nat) (w : Int32) (X : Stand p l e R s m args below meth c T locs cells slots) (hx : p.tables.exec = Jvm.exec) (hby : c.code = bytes) {x : Int64} (hd : decode bytes pc = .ok (.l2i, 1)) (hp : pc + 1 = pc') (hw : x.toInt32 = w) (r : Go p e below P (T.setTop (mkF m pc' ls (.int w :: st)))) : Go p e below P (T.setTop (mkF m pc ls (.long x :: st))) := by
  subst hp hw; exact own_go (fun t q => XT.l2i X.here hx rfl (hb hby hd) rfl q) r
theorem own_lcmp (pc' : Nat) (w : Int32) (X : Stand p l e R s m args below meth c T locs cells slots) (hx : p.tables.exec = Jvm.exec) (hby : c.code = bytes) {x y : Int64} (hd : decode bytes pc = .ok (.lcmp, 1)) (hp : pc + 1 = pc') (hw : XT.cmpL x y = w) (r : Go p e below P (T.setTop (mkF m pc' ls (.int w :: st)))) : Go p e below P (T.setTop (mkF m pc ls (.long y :: .long x :: st))) := by
  subst hp hw; exact own_go (fun t q => XT.lcmp X.here hx rfl (hb hby hd) rfl q) r
theorem own_iinc (pc' : Nat) (l' : Array Slot) (X : Stand p l e R s m args below meth c T locs cells slots) (hx : p.tables.exec = Jvm.exec) (hby : c.code = bytes) {k : Nat} {i : Int} {x : Int32} (hd : decode bytes pc = .ok (.iinc k i, 3)) (hp : pc + 3 = pc') (hl : ls[k]? = some (.val (.int x))) (hl' : storeLocals ls k (.int (x + Int32.ofInt i)) = some l') (r : Go p e below P (T.setTop (mkF m pc' l' st))) : Go p e below P (T.setTop (mkF m pc ls st)) := by
  subst hp; exact own_go (fun t q => XS.iinc X.here hx rfl (hb hby hd) hl hl' q) r
theorem own_dup (pc' : Nat) (X : Stand p l e R s m args below meth c T locs cells slots) (hx : p.tables.exec = Jvm.exec) (hby : c.code = bytes) {v : Value} (hd : decode bytes pc = .ok (.dup, 1)) (hp : pc + 1 = pc') (hc : v.category = 1) (r : Go p e below P (T.setTop (mkF m pc' ls (v :: v :: st)))) : Go p e below P (T.setTop (mkF m pc ls (v :: st))) := by
  subst hp; exact own_go (fun t q => XS.dup X.here hx rfl (hb hby hd) rfl hc q) r
theorem own_pop (pc' : Nat) (X : Stand p l e R s m args below meth c T locs cells slots) (hx : p.tables.exec = Jvm.exec) (hby : c.code = bytes) {v : Value} (hd : decode bytes pc = .ok (.pop, 1)) (hp : pc + 1 = pc') (hc : v.category = 1) (r : Go p e below P (T.setTop (mkF m pc' ls st))) : Go p e below P (T.setTop (mkF m pc ls (v :: st))) := by
  subst hp; exact own_go (fun t q => XT.pop X.here hx rfl (hb hby hd) rfl hc q) r
/-! branches -/
theorem own_goto (pc' : Nat) (X : Stand p l e R s m args below meth c T locs cells slots) (hx : p.tables.exec = Jvm.exec) (hby : c.code = bytes) {o : Int} (hd : decode bytes pc = .ok (.goto o, 3)) (ho : 0 ≤ (pc : Int) + o) (hp : ((pc : Int) + o).toNat = pc') (r : Go p e below P (T.setTop (mkF m pc' ls st))) : Go p e below P (T.setTop (mkF m pc ls st)) :=
  own_go (fun t q => XS.goto X.here hx rfl rfl (hb hby hd) ho hp q) r
theorem own_ifY (pc' : Nat) (X : Stand p l e R s m args below meth c T locs cells slots) (hx : p.tables.exec = Jvm.exec) (hby : c.code = bytes) {cd : ClassFile.Cond} {x : Int32} {o : Int} (hd : decode bytes pc = .ok (.ifCond cd o, 3)) (ho : 0 ≤ (pc : Int) + o) (hp : ((pc : Int) + o).toNat = pc') (hc : ifCond.holds cd x = true) (r : Go p e below P (T.setTop (mkF m pc' ls st))) : Go p e below P (T.setTop (mkF m pc ls (.int x :: st))) :=
  own_go (fun t q => XS.ifYes X.here hx rfl rfl (hb hby hd) rfl hc ho hp q) r
theorem own_ifN (pc' : Nat) (X : Stand p l e R s m args below meth c T locs cells slots) (hx : p.tables.exec = Jvm.exec) (hby : c.code = bytes) {cd : ClassFile.Cond} {x : Int32} {o : Int} (hd : decode bytes pc = .ok (.ifCond cd o, 3)) (hp : pc + 3 = pc') (hc : ifCond.holds cd x = false) (r : Go p e below P (T.setTop (mkF m pc' ls st))) : Go p e below P (T.setTop (mkF m pc ls (.int x :: st))) := by
  subst hp; exact own_go (fun t q => XS.ifNo X.here hx rfl (hb hby hd) rfl hc q) r
theorem own_icY (pc' : Nat) (X : Stand p l e R s m args below meth c T locs cells slots) (hx : p.tables.exec = Jvm.exec) (hby : c.code = bytes) {cd : ClassFile.Cond} {x y : Int32} {o : Int} (hd : decode bytes pc = .ok (.if_icmp cd o, 3)) (ho : 0 ≤ (pc : Int) + o) (hp : ((pc : Int) + o).toNat = pc') (hc : if_icmp.holds cd x y = true) (r : Go p e below P (T.setTop (mkF m pc' ls st))) : Go p e below P (T.setTop (mkF m pc ls (.int y :: .int x :: st))) :=
  own_go (fun t q => XS.icmpYes X.here hx rfl rfl (hb hby hd) rfl hc ho hp q) r
theorem own_icN (pc' : Nat) (X : Stand p l e R s m args below meth c T locs cells slots) (hx : p.tables.exec = Jvm.exec) (hby : c.code = bytes) {cd : ClassFile.Cond} {x y : Int32} {o : Int} (hd : decode bytes pc = .ok (.if_icmp cd o, 3)) (hp : pc + 3 = pc') (hc : if_icmp.holds cd x y = false) (r : Go p e below P (T.setTop (mkF m pc' ls st))) : Go p e below P (T.setTop (mkF m pc ls (.int y :: .int x :: st))) := by
  subst hp; exact own_go (fun t q => XS.icmpNo X.here hx rfl (hb hby hd) rfl hc q) r
theorem own_acmp (pc' : Nat) (same : Bool) (X : Stand p l e R s m args below meth c T locs cells slots) (hx : p.tables.exec = Jvm.exec) (hby : c.code = bytes) {cd : ACond} {x y : Value} {o : Int} (hd : decode bytes pc = .ok (.if_acmp cd o, 3)) (h1 : x.isRef = true) (h2 : y.isRef = true) (ho : 0 ≤ (pc : Int) + o) (hp : pc' = if acV cd same = true then ((pc : Int) + o).toNat else pc + 3) (hq : decide (x = y) = same) (r : Go p e below P (T.setTop (mkF m pc' ls st))) : Go p e below P (T.setTop (mkF m pc ls (y :: x :: st))) :=
  own_go (fun t q => Jvm.RoadKit.acmp X hx rfl h1 h2 rfl (hb hby hd) rfl hq ho hp q) r
theorem own_nullY (pc' : Nat) (X : Stand p l e R s m args below meth c T locs cells slots) (hx : p.tables.exec = Jvm.exec) (hby : c.code = bytes) {o : Int} (hd : decode bytes pc = .ok (.ifnull o, 3)) (ho : 0 ≤ (pc : Int) + o) (hp : ((pc : Int) + o).toNat = pc') (r : Go p e below P (T.setTop (mkF m pc' ls st))) : Go p e below P (T.setTop (mkF m pc ls (.null :: st))) :=
  own_go (fun t q => XS.ifnullYes X.here hx rfl rfl (hb hby hd) rfl ho hp q) r
theorem own_nullN (pc' : Nat) (X : Stand p l e R s m args below meth c T locs cells slots) (hx : p.tables.exec = Jvm.exec) (hby : c.code = bytes) {o : Int} {b : Addr} (hd : decode bytes pc = .ok (.ifnull o, 3)) (hp : pc + 3 = pc') (r : Go p e below P (T.setTop (mkF m pc' ls st))) : Go p e below P (T.setTop (mkF m pc ls (.ref b :: st))) := by
  subst hp; exact own_go (fun t q => XS.ifnullNo X.here hx rfl (hb hby hd) rfl q) r
theorem own_nnY (pc' : Nat) (X : Stand p l e R s m args below meth c T locs cells slots) (hx : p.tables.exec = Jvm.exec) (hby : c.code = bytes) {o : Int} {b : Addr} (hd : decode bytes pc = .ok (.ifnonnull o, 3)) (ho : 0 ≤ (pc : Int) + o) (hp : ((pc : Int) + o).toNat = pc') (r : Go p e below P (T.setTop (mkF m pc' ls st))) : Go p e below P (T.setTop (mkF m pc ls (.ref b :: st))) :=
  own_go (fun t q => XT.ifnonnullYes X.here hx rfl rfl (hb hby hd) rfl ho hp q) r
theorem own_nnN (pc' : Nat) (X : Stand p l e R s m args below meth c T locs cells slots) (hx : p.tables.exec = Jvm.exec) (hby : c.code = bytes) {o : Int} (hd : decode bytes pc = .ok (.ifnonnull o, 3)) (hp : pc + 3 = pc') (r : Go p e below P (T.setTop (mkF m pc' ls st))) : Go p e below P (T.setTop (mkF m pc ls (.null :: st))) := by
  subst hp; exact own_go (fun t q => XT.ifnonnullNo X.here hx rfl (hb hby hd) rfl q) r
/-! what lcmp and a branch behind it say -/
theorem own_tltL {x y : Int64} (h : x < y) : ifCond.holds .lt (XT.cmpL x y) = true ∧ ifCond.holds .ge (XT.cmpL x y) = false ∧ ifCond.holds .gt (XT.cmpL y x) = true ∧ ifCond.holds .le (XT.cmpL y x) = false := by
  have h1 : ¬ y < x := fun q => absurd h (Int64.lt_asymm q)
  have h2 : ¬ x = y := fun q => absurd (q ▸ h) Int64.lt_irrefl
  have h3 : ¬ y = x := fun q => h2 q.symm
  simp only [XT.cmpL, h, h1, h2, h3, if_true, if_false]
  decide
theorem own_fltL {x y : Int64} (h : ¬ x < y) : ifCond.holds .lt (XT.cmpL x y) = false ∧ ifCond.holds .ge (XT.cmpL x y) = true ∧ ifCond.holds .gt (XT.cmpL y x) = false ∧ ifCond.holds .le (XT.cmpL y x) = true := by
  by_cases q : x = y
  · subst q
    simp only [XT.cmpL, h, if_true, if_false]
    decide
  · have h1 : y < x := by
      rw [Int64.lt_iff_toInt_lt] at h ⊢
      have : x.toInt ≠ y.toInt := fun z => q (Int64.toInt_inj.mp z)
      omega
    have h3 : ¬ y = x := fun z => q z.symm
    simp only [XT.cmpL, h, h1, q, h3, if_true, if_false]
    decide
theorem own_teqL {x y : Int64} (h : x = y) : ifCond.holds .eq (XT.cmpL x y) = true ∧ ifCond.holds .ne (XT.cmpL x y) = false := by
  subst h
  simp only [XT.cmpL, Int64.lt_irrefl, if_true, if_false]
  decide
theorem own_feqL {x y : Int64} (h : ¬ x = y) : ifCond.holds .eq (XT.cmpL x y) = false ∧ ifCond.holds .ne (XT.cmpL x y) = true := by
  by_cases q : y < x
  · simp only [XT.cmpL, q, if_true]
    decide
  · simp only [XT.cmpL, q, h, if_false]
    decide
/-! fields, statics -/
theorem own_getS (pc' : Nat) (X : Stand p l e R s m args below meth c T locs cells slots) (hx : p.tables.exec = Jvm.exec) (hby : c.code = bytes) (hZ : Z.Warmed39 s.vm) {own O n d : String} {index : Nat} (hown : s.vm.findClass own = some m.cls) (w : (Cond.fieldLink own index O n d).before a0 Z = true) (eT : T.heap = h) {v : Value} (F : Sta Z h O n d v) (hd : decode bytes pc = .ok (.getstatic index, 3)) (hp : pc + 3 = pc')
    (r : ∀ T', Stand p l e R s m args below meth c T' locs cells slots → T'.heap = h → Go p e below P (T'.setTop (mkF m pc' ls (v :: st)))) : Go p e below P (T.setTop (mkF m pc ls st)) := by
  subst hp
  obtain ⟨T', X', e', q⟩ := getS2 X hx hZ hown (host := "") (Or.inl w) Via.refl eT F (g := mkF m pc ls st) rfl (hb hby hd)
  exact own_go q (r T' X' e')
theorem own_getSN (pc' : Nat) (X : Stand p l e R s m args below meth c T locs cells slots) (hx : p.tables.exec = Jvm.exec) (hby : c.code = bytes) (hZ : Z.Warmed39 s.vm) {own O n d host : String} {index : Nat} (hown : s.vm.findClass own = some m.cls) (w : (Cond.fieldLinkNest own index O n d host).before a0 Z = true) (eT : T.heap = h) {v : Value} (F : Sta Z h O n d v) (hd : decode bytes pc = .ok (.getstatic index, 3)) (hp : pc + 3 = pc')
    (r : ∀ T', Stand p l e R s m args below meth c T' locs cells slots → T'.heap = h → Go p e below P (T'.setTop (mkF m pc' ls (v :: st)))) : Go p e below P (T.setTop (mkF m pc ls st)) := by
  subst hp
  obtain ⟨T', X', e', q⟩ := getS2 X hx hZ hown (Or.inr w) Via.refl eT F (g := mkF m pc ls st) rfl (hb hby hd)
  exact own_go q (r T' X' e')
theorem own_getF (pc' : Nat) (X : Stand p l e R s m args below meth c T locs cells slots) (hx : p.tables.exec = Jvm.exec) (hby : c.code = bytes) (hZ : Z.Warmed39 s.vm) {own O n d : String} {index : Nat} (hown : s.vm.findClass own = some m.cls) (w : (Cond.fieldLink own index O n d).before a0 Z = true) (eT : T.heap = h) {a : Addr} {v : Value} (F : Fld Z h a O n d v) (hd : decode bytes pc = .ok (.getfield index, 3)) (hp : pc + 3 = pc')
    (r : ∀ T', Stand p l e R s m args below meth c T' locs cells slots → T'.heap = h → Go p e below P (T'.setTop (mkF m pc' ls (v :: st)))) : Go p e below P (T.setTop (mkF m pc ls (.ref a :: st))) := by
  subst hp
  obtain ⟨T', X', e', q⟩ := getF X hx hZ hown (host := "") (Or.inl w) Via.refl eT F (g := mkF m pc ls (.ref a :: st)) rfl rfl (hb hby hd)
  exact own_go q (r T' X' e')
/-! arrays -/
theorem own_n0 {n0 : Nat} (O : Old Z n0 h) : n0 ≤ h.size := O.1 ▸ O.2.1
theorem own_newR (pc' : Nat) (N : Nat) (X : Stand p l e R s m args below meth c T locs cells slots) (hx : p.tables.exec = Jvm.exec) (hby : c.code = bytes) (hZ : Z.Warmed39 s.vm) {own C : String} {index : Nat} (hown : s.vm.findClass own = some m.cls) (w1 : (Cond.classLink own index C).before a0 Z = true) (w2 : (Cond.arrayOver (.object C)).before a0 Z = true) (eT : T.heap = h)
    (hd : decode bytes pc = .ok (.anewarray index, 3)) (hp : pc + 3 = pc') {n : Int32} (hn : ¬ n < 0) (hcap : n.toNatClampNeg ≤ N) (hbig : N * 8 ≤ 536870912) (hc : cells + 1 ≤ R.cells) (hl : slots + N ≤ R.slots)
    (r : ∀ T' h' cA b, Stand p l e R s m args below meth c T' locs (cells + 1) (slots + N) → T'.heap = h' → Ext h h' → b = h.size → Arv Z h' b cA (.object C) n (List.replicate N .null) .null → Ovr Z cA C → Go p e below P (T'.setTop (mkF m pc' ls (.ref b :: st)))) : Go p e below P (T.setTop (mkF m pc ls (.int n :: st))) := by
  subst hp
  obtain ⟨T', h', cA, X', e', E', A', O', q⟩ := newR X hx hZ hown w1 w2 eT (g := mkF m pc ls (.int n :: st)) rfl (hb hby hd) rfl hn hcap hbig hc hl
  exact own_go q (r T' h' cA h.size X' e' E' rfl ((Arv.new A' hn).pad (pad_rep [] .null N)) O')
theorem own_newP (pc' : Nat) (N : Nat) {aty : ArrayType} (X : Stand p l e R s m args below meth c T locs cells slots) (hx : p.tables.exec = Jvm.exec) (hby : c.code = bytes) (hZ : Z.Warmed39 s.vm) (w : (Cond.arrayClass (newarray.typeOf aty)).before a0 Z = true) (eT : T.heap = h)
    (hd : decode bytes pc = .ok (.newarray aty, 2)) (hp : pc + 2 = pc') {n : Int32} (hn : ¬ n < 0) (hcap : n.toNatClampNeg ≤ N) (hbig : N * 8 ≤ 536870912) (hc : cells + 1 ≤ R.cells) (hl : slots + N ≤ R.slots)
    (r : ∀ T' h' cA b, Stand p l e R s m args below meth c T' locs (cells + 1) (slots + N) → T'.heap = h' → Ext h h' → b = h.size → Arv Z h' b cA (newarray.typeOf aty) n (List.replicate N (defaultValue (newarray.typeOf aty))) (defaultValue (newarray.typeOf aty)) → Go p e below P (T'.setTop (mkF m pc' ls (.ref b :: st)))) : Go p e below P (T.setTop (mkF m pc ls (.int n :: st))) := by
  subst hp
  obtain ⟨T', h', cA, X', e', E', A', q⟩ := newP X hx hZ w eT (g := mkF m pc ls (.int n :: st)) rfl (hb hby hd) rfl hn hcap hbig hc hl
  exact own_go q (r T' h' cA h.size X' e' E' rfl ((Arv.new A' hn).pad (pad_rep [] _ N)))
theorem own_stR (pc' : Nat) (i : Nat) (X : Stand p l e R s m args below meth c T locs cells slots) (hx : p.tables.exec = Jvm.exec) (hby : c.code = bytes) (hZ : Z.Warmed39 s.vm) (eT : T.heap = h) {a y : Addr} {cA : ClassId} {C : String} {n j : Int32} {vs : List Value} (V : Arv Z h a cA (.object C) n vs .null) (O : Ovr Z cA C) (I : Ins Z h y C true)
    (hd : decode bytes pc = .ok (.aastore, 1)) (hp : pc + 1 = pc') (hj : ¬ j < 0 ∧ j < n) (hi : j.toNatClampNeg = i) (hv : i < vs.length)
    (r : ∀ T' h', Stand p l e R s m args below meth c T' (locs ++ [⟨a, j.toNatClampNeg⟩]) cells slots → T'.heap = h' → Wr h h' a j.toNatClampNeg (.ref y) → Arv Z h' a cA (.object C) n (vs.set i (.ref y)) .null → Go p e below P (T'.setTop (mkF m pc' ls st))) : Go p e below P (T.setTop (mkF m pc ls (.ref y :: .int j :: .ref a :: st))) := by
  subst hp
  obtain ⟨cl, A, q1, S, q3, H, G⟩ := V
  obtain ⟨T', h', X', e', W', q⟩ := stR X hx hZ eT A (j := j) (inb_of S hj) rfl (Sto.ofV A q1 O I) (g := mkF m pc ls (.ref y :: .int j :: .ref a :: st)) rfl rfl (hb hby hd)
  exact own_go q (r T' h' X' e' W' (Arv.set A q1 S q3 H G rfl W' i hi hv))
theorem own_stZ (pc' : Nat) (i : Nat) (X : Stand p l e R s m args below meth c T locs cells slots) (hx : p.tables.exec = Jvm.exec) (hby : c.code = bytes) (hZ : Z.Warmed39 s.vm) (eT : T.heap = h) {a : Addr} {cA : ClassId} {n j x : Int32} {vs : List Value} {dv : Value} (V : Arv Z h a cA .boolean n vs dv)
    (hd : decode bytes pc = .ok (.bastore, 1)) (hp : pc + 1 = pc') (hj : ¬ j < 0 ∧ j < n) (hi : j.toNatClampNeg = i) (hv : i < vs.length) (hx1 : nar .boolean x = x)
    (r : ∀ T' h', Stand p l e R s m args below meth c T' (locs ++ [⟨a, j.toNatClampNeg⟩]) cells slots → T'.heap = h' → Wr h h' a j.toNatClampNeg (.int x) → Arv Z h' a cA .boolean n (vs.set i (.int x)) dv → Go p e below P (T'.setTop (mkF m pc' ls st))) : Go p e below P (T.setTop (mkF m pc ls (.int x :: .int j :: .ref a :: st))) := by
  subst hp
  obtain ⟨cl, A, q1, S, q3, H, G⟩ := V
  obtain ⟨T', h', X', e', W', q⟩ := stZ X hx hZ eT A (j := j) (x := x) (inb_of S hj) (g := mkF m pc ls (.int x :: .int j :: .ref a :: st)) rfl rfl (hb hby hd)
  rw [hx1] at W'
  exact own_go q (r T' h' X' e' W' (Arv.set A q1 S q3 H G (hx1 ▸ fits_nar_bool x) W' i hi hv))
theorem own_aaload (pc' : Nat) (v : Value) (X : Stand p l e R s m args below meth c T locs cells slots) (hx : p.tables.exec = Jvm.exec) (hby : c.code = bytes) (hZ : Z.Warmed39 s.vm) (eT : T.heap = h) {a : Addr} {cA : ClassId} {ty : FieldType} {n j : Int32} {vs : List Value} {dv : Value} (V : Arv Z h a cA ty n vs dv) (hty : ty.isReference = true)
    (hd : decode bytes pc = .ok (.aaload, 1)) (hp : pc + 1 = pc') (hj : ¬ j < 0 ∧ j < n) (hv : vs.getD j.toNatClampNeg dv = v)
    (r : Go p e below P (T.setTop (mkF m pc' ls (v :: st)))) : Go p e below P (T.setTop (mkF m pc ls (.int j :: .ref a :: st))) := by
  subst hp
  obtain ⟨cl, A, q1, S, q3, H, G⟩ := V
  exact own_go (fun t q => X.aaload hx (j := j) (v := v) (by rw [eT]; exact A.1) (State.isArrayOf_alike hZ.alike A.2.1) hty A.2.2 (inb_of S hj) (H.at (inb_of S hj) hv) (g := mkF m pc ls (.int j :: .ref a :: st)) rfl rfl (hb hby hd) t q) r
theorem own_zaload (pc' : Nat) (v : Value) (X : Stand p l e R s m args below meth c T locs cells slots) (hx : p.tables.exec = Jvm.exec) (hby : c.code = bytes) (hZ : Z.Warmed39 s.vm) (eT : T.heap = h) {a : Addr} {cA : ClassId} {n j : Int32} {vs : List Value} {dv : Value} (V : Arv Z h a cA .boolean n vs dv)
    (hd : decode bytes pc = .ok (.baload, 1)) (hp : pc + 1 = pc') (hj : ¬ j < 0 ∧ j < n) (hv : vs.getD j.toNatClampNeg dv = v)
    (r : Go p e below P (T.setTop (mkF m pc' ls (v :: st)))) : Go p e below P (T.setTop (mkF m pc ls (.int j :: .ref a :: st))) := by
  subst hp
  obtain ⟨cl, A, q1, S, q3, H, G⟩ := V
  exact own_go (fun t q => X.baloadBooleans hx (j := j) (v := v) (by rw [eT]; exact A.1) (State.isArrayOf_alike hZ.alike A.2.1) A.2.2 (inb_of S hj) (H.at (inb_of S hj) hv) (g := mkF m pc ls (.int j :: .ref a :: st)) rfl rfl (hb hby hd) t q) r
theorem own_len (pc' : Nat) (X : Stand p l e R s m args below meth c T locs cells slots) (hx : p.tables.exec = Jvm.exec) (hby : c.code = bytes) (hZ : Z.Warmed39 s.vm) (eT : T.heap = h) {a : Addr} {cA : ClassId} {ty : FieldType} {n : Int32} {vs : List Value} {dv : Value} (V : Arv Z h a cA ty n vs dv)
    (hd : decode bytes pc = .ok (.arraylength, 1)) (hp : pc + 1 = pc')
    (r : Go p e below P (T.setTop (mkF m pc' ls (.int n :: st)))) : Go p e below P (T.setTop (mkF m pc ls (.ref a :: st))) := by
  subst hp
  obtain ⟨cl, A, q1, S, q3, H, G⟩ := V
  rw [← len_of S q3] at r
  exact own_go (fun t q => X.arraylength hx (by rw [eT]; exact A.1) (State.isArrayOf_alike hZ.alike A.2.1) (g := mkF m pc ls (.ref a :: st)) rfl rfl (hb hby hd) t q) r
/-! calls -/
theorem own_callS (pc' : Nat) {h : Heap} {as' : Array Value} {rm : Room} {Q : Option Value → Heap → List Loc → Prop} {y : MethodName} {code' : ByteArray} {maxL : Nat} {ret' : Option FieldType}
    (hM : MetFree l y (head1 [Cond.code y code' maxL ret'] rm) (fun a U => a = as' ∧ Z.Warmed39 U.vm ∧ U.heap = h) (fun _ _ _ _ _ => True) (fun _ U o U' => ∃ v L, o = .returned v ∧ Q v U'.heap L ∧ FrameEnd U o U' L rm.cells rm.slots))
    (X : Stand p l e R s m args below meth c T locs cells slots) (hx : p.tables.exec = Jvm.exec) (hby : c.code = bytes) (hZ : Z.Warmed39 s.vm) {own : String} {index W : Nat} (hown : s.vm.findClass own = some m.cls)
    (w1 : (Cond.methodLink own index y).before a0 Z = true) (w2 : (Cond.static y).before a0 Z = true) (w3 : (Cond.initialized y.cls).before a0 Z = true) (w4 : (Cond.code y code' maxL ret').before a0 Z = true)
    (hy : y.cls ≠ "java/lang/invoke/MethodHandle" ∧ y.cls ≠ "java/lang/invoke/VarHandle") (hsz : ls.size = c.maxLocals) (argsL rest : List Value) {ps : List FieldType} {rt : Option FieldType} (hps : parseMethodDescriptor y.desc = some ⟨ps, rt⟩) (hlen : argsL.length = ps.length)
    (hd : decode bytes pc = .ok (.invokestatic index, 3)) (hp : pc + 3 = pc') (eT : T.heap = h) (hst : st = argsL.reverse ++ rest) (has : argsL.toArray = as') (hW : (rest.map fun v => v.category).sum = W)
    (hf : rm.frames + 1 ≤ R.frames) (hl : W + (maxL + 11) + rm.locals ≤ R.locals) (hc : cells + rm.cells ≤ R.cells) (hs : slots + rm.slots ≤ R.slots)
    (r : ∀ v T' L, Stand p l e R s m args below meth c T' (locs ++ L) (cells + rm.cells) (slots + rm.slots) → Q v T'.heap L → Go p e below P (T'.setTop (mkF m pc' ls (v.toList ++ rest)))) : Go p e below P (T.setTop (mkF m pc ls st)) := by
  subst hp
  obtain ⟨v, _, ⟨T', L', k', n'⟩, -, X', ⟨L, hQ, l1, l2, l3⟩, q⟩ := Jvm.LawKit.callS X hx hown (mvT hZ w1) (mvT hZ w2) (mvT hZ w3) (mvT hZ w4) hy (backOf (W := W) hM hZ w4 w3 hf hl) (g := mkF m pc ls st) rfl hsz (argsL := argsL) (rest := rest) (lenOf hps hlen) hst (by show 2 * 0 + _ ≤ _; omega) (hb hby hd) (fun _ _ => ⟨has, eT, hc, hs⟩)
  dsimp only [Pt.U, Pt.locs, Pt.cells, Pt.slots] at X' l1 l2 l3 q hQ
  subst l1 l2 l3
  exact own_go q (r v T' L X' hQ)
theorem own_virt (pc' : Nat) {h : Heap} {as' : Array Value} {rm : Room} {Q : Option Value → Heap → List Loc → Prop} {y z : MethodName} {code' : ByteArray} {maxL : Nat} {ret' : Option FieldType}
    (hM : MetFree l z (head1 [Cond.code z code' maxL ret'] rm) (fun a U => a = as' ∧ Z.Warmed39 U.vm ∧ U.heap = h) (fun _ _ _ _ _ => True) (fun _ U o U' => ∃ v L, o = .returned v ∧ Q v U'.heap L ∧ FrameEnd U o U' L rm.cells rm.slots))
    (X : Stand p l e R s m args below meth c T locs cells slots) (hx : p.tables.exec = Jvm.exec) (hby : c.code = bytes) (hZ : Z.Warmed39 s.vm) {own C : String} {index W : Nat} (hown : s.vm.findClass own = some m.cls)
    (w1 : (Cond.methodLink own index y).before a0 Z = true) (w2 : (Cond.declares y).before a0 Z = true) (nf : NotFace s y) (w3 : (Cond.selects C y z).before a0 Z = true) (w4 : (Cond.instanceMethod z).before a0 Z = true) (w5 : (Cond.initialized z.cls).before a0 Z = true) (w6 : (Cond.code z code' maxL ret').before a0 Z = true)
    (hy : y.cls ≠ "java/lang/invoke/MethodHandle" ∧ y.cls ≠ "java/lang/invoke/VarHandle") (hsz : ls.size = c.maxLocals) (b : Addr) (argsL rest : List Value) {ps : List FieldType} {rt : Option FieldType} (hps : parseMethodDescriptor y.desc = some ⟨ps, rt⟩) (hlen : argsL.length = ps.length)
    (hd : decode bytes pc = .ok (.invokevirtual index, 3)) (hp : pc + 3 = pc') (eT : T.heap = h) (E : Exa Z h b C) (hst : st = argsL.reverse ++ .ref b :: rest) (has : (.ref b :: argsL).toArray = as') (hW : (rest.map fun v => v.category).sum = W)
    (hf : rm.frames + 1 ≤ R.frames) (hl : W + (maxL + 11) + rm.locals ≤ R.locals) (hc : cells + rm.cells ≤ R.cells) (hs : slots + rm.slots ≤ R.slots)
    (r : ∀ v T' L, Stand p l e R s m args below meth c T' (locs ++ L) (cells + rm.cells) (slots + rm.slots) → Q v T'.heap L → Go p e below P (T'.setTop (mkF m pc' ls (v.toList ++ rest)))) : Go p e below P (T.setTop (mkF m pc ls st)) := by
  subst hp
  obtain ⟨cq, kq, q1, q2, q3⟩ := isOf (s := s) (T := T) hZ eT E
  obtain ⟨v, _, ⟨T', L', k', n'⟩, -, X', ⟨L, hQ, l1, l2, l3⟩, q⟩ := X.virtualBack hx hown (mvT hZ w1) (mvT hZ w2) nf (mvT hZ w3) (mvT hZ w4) hy (backOf (W := W) hM hZ w6 w5 hf hl) q1 q3 (g := mkF m pc ls st) rfl hsz (Steps.refl _) (argsL := argsL) (rest := rest) (lenOf hps hlen) hst (by show 2 * 0 + _ ≤ _; omega) (hb hby hd) (fun _ _ => ⟨has, eT, hc, hs⟩)
  dsimp only [Pt.U, Pt.locs, Pt.cells, Pt.slots] at X' l1 l2 l3 q hQ
  subst l1 l2 l3
  exact own_go (fun t k => q.trans k) (r v T' L X' hQ)
/-! the end of a walk -/
theorem own_ret {Q : Option Value → Heap → List Loc → Prop} {K N : Nat} {t : FieldType} {w : Value} {i : Instr} (X : Stand p l e R s m args below meth c T locs cells slots) (hx : p.tables.exec = Jvm.exec) (hby : c.code = bytes) (hret : meth.sig.returnType = some t) (hlocks : meth.locks = false)
    (hd : decode bytes pc = .ok (i, 1)) (hn : narrow t w = w)
    (hi : (i = .ireturn ∧ (t = .int ∨ t = .boolean ∨ t = .byte ∨ t = .char ∨ t = .short) ∧ ∃ z, w = .int z) ∨ (i = .lreturn ∧ t = .long ∧ ∃ z, w = .long z) ∨ (i = .dreturn ∧ t = .double ∧ ∃ z, w = .double z) ∨ (i = .freturn ∧ t = .float ∧ ∃ z, w = .float z) ∨ (i = .areturn ∧ t.isReference = true ∧ w.isRef = true))
    (hK : cells ≤ K) (hN : slots ≤ N) (hQ : Q (some w) T.heap locs) :
    Go p e below (fun s₂ o => s₂.status = .running ∧ Ended s₂ below o ∧ ∃ v L, o = .returned v ∧ Q v s₂.heap L ∧ FrameEnd s o s₂ L K N) (T.setTop (mkF m pc ls (w :: st))) := by
  obtain ⟨fs, hr, hrun, hended, hW, hsame⟩ := X.leave (v := some w) (fun h => by rw [hret] at h; cases h) hlocks
  exact ⟨_, _, retOut X hx hret hn hi (hb hby hd) hr, hrun, hended, _, _, rfl, hQ, ⟨_, rfl⟩, hW, hsame.mono hK hN⟩
theorem own_ret0 {Q : Option Value → Heap → List Loc → Prop} {K N : Nat} (X : Stand p l e R s m args below meth c T locs cells slots) (hx : p.tables.exec = Jvm.exec) (hby : c.code = bytes) (hret : meth.sig.returnType = none) (hlocks : meth.locks = false)
    (hd : decode bytes pc = .ok (.return_, 1)) (hK : cells ≤ K) (hN : slots ≤ N) (hQ : Q none T.heap locs) :
    Go p e below (fun s₂ o => s₂.status = .running ∧ Ended s₂ below o ∧ ∃ v L, o = .returned v ∧ Q v s₂.heap L ∧ FrameEnd s o s₂ L K N) (T.setTop (mkF m pc ls [])) := by
  obtain ⟨fs, hr, hrun, hended, hW, hsame⟩ := X.leave (v := none) (fun _ => rfl) hlocks
  exact ⟨_, _, X.returnOut hx hret (hb hby hd) hr, hrun, hended, _, _, rfl, hQ, ⟨_, rfl⟩, hW, hsame.mono hK hN⟩
/-! the case's words -/
theorem own_fld {Z : State} {args : Array Value} {t : Term} {C n d : String} {v : Int32} {x : Addr} (h : (Cond.eq (Term.field t C n d) (Term.int v)).value args Z none Z [] = some true) (ht : t.eval args Z none [] Z = some (.ref x)) : Fld Z Z.heap x C n d (.int v) :=
  Fld.start ((fld_at ht).symm.trans (eqv_i (Term.int_eval v) h))
theorem own_fldN {Z : State} {args : Array Value} {t : Term} {C n d : String} {x : Addr} (h : (Cond.eq (Term.field t C n d) Term.null).value args Z none Z [] = some true) (ht : t.eval args Z none [] Z = some (.ref x)) : Fld Z Z.heap x C n d .null :=
  Fld.start ((fld_at ht).symm.trans (null_v h))
theorem own_eqvR {Z : State} {args : Array Value} {X F : Term} {y : Addr} (hF : F.eval args Z none [] Z = some (.ref y)) (h : (Cond.eq X F).value args Z none Z [] = some true) : X.eval args Z none [] Z = some (.ref y) := by
  obtain ⟨x, y', e1, e2, k1, k2⟩ := cmp_v (Or.inl h)
  cases hF.symm.trans e2
  have hx : x.isRef = true := k2.2
  exact e1.trans (congrArg some (gotT (eq_R e1 hF hx rfl) h))
theorem own_fldR {Z : State} {args : Array Value} {t F : Term} {C n d : String} {x y : Addr} (h : (Cond.eq (Term.field t C n d) F).value args Z none Z [] = some true) (ht : t.eval args Z none [] Z = some (.ref x)) (hF : F.eval args Z none [] Z = some (.ref y)) : Fld Z Z.heap x C n d (.ref y) :=
  Fld.start ((fld_at ht).symm.trans (own_eqvR hF h))
theorem own_len_at {Z : State} {args : Array Value} {t : Term} {z : Int32} {a : Addr} {cl : Cell} (h : (Term.length t).eval args Z none [] Z = some (.int z)) (ht : t.eval args Z none [] Z = some (.ref a)) (ha : Z.arrayAt? a = some cl) : cl.slots.size < 2 ^ 31 ∧ cl.slots.size.toInt32 = z := by
  by_cases q : cl.slots.size < 2 ^ 31
  · refine ⟨q, ?_⟩
    rw [len_f ht ha q] at h
    exact Value.int.inj (Option.some.inj h)
  · exfalso
    simp [Term.eval, ht, ha, q] at h
/-- what a callee that writes nothing leaves -/
def own_Q (r : Option Value) (n0 : Nat) (h0 : Heap) (v : Option Value) (h : Heap) (L : List Loc) : Prop := v = r ∧ Fr n0 L ∧ h = h0
/-- what the law leaves -/
def own_Q1 (n0 : Nat) (v : Option Value) (h : Heap) (L : List Loc) : Prop := v = some (.int 1) ∧ Fr n0 L
end Own
section Own2
variable {p : Program} {l : Launch} {e : Env} {R : Room} {s : State} {m : MethodId} {args : Array Value} {below : List Frame} {meth : Method} {c : Code} {T : State} {locs : List Loc} {cells slots : Nat} {P : State → Outcome → Prop} {pc : Nat} {ls : Array Slot} {st : List Value} {Z : State} {a0 : Array Value} {h : Heap} {bytes : ByteArray}
/-! objects -/
theorem own_new (pc' : Nat) (k : Nat) (X : Stand p l e R s m args below meth c T locs cells slots) (hx : p.tables.exec = Jvm.exec) (hby : c.code = bytes) (hZ : Z.Warmed39 s.vm) {own C : String} {index : Nat} (hown : s.vm.findClass own = some m.cls) (w : (Cond.classLink own index C).before a0 Z = true) (wi : (Cond.instantiable C k).before a0 Z = true) (wz : (Cond.initialized C).before a0 Z = true) (eT : T.heap = h)
    (hd : decode bytes pc = .ok (.new index, 3)) (hp : pc + 3 = pc') (hc : cells + 1 ≤ R.cells) (hl : slots + k ≤ R.slots)
    (r : ∀ T' h' b, Stand p l e R s m args below meth c T' locs (cells + 1) (slots + k) → T'.heap = h' → Ext h h' → b = h.size → Exa Z h' b C → (∀ {O nm d : String} {ty : FieldType}, Laid Z a0 C O nm d → parseFieldDescriptor d = some ty → Fld Z h' b O nm d (defaultValue ty)) → Go p e below P (T'.setTop (mkF m pc' ls (.ref b :: st)))) : Go p e below P (T.setTop (mkF m pc ls st)) := by
  subst hp
  obtain ⟨T', h', X', e', E', A', D', -, q⟩ := newO X hx hZ hown w wi wz eT (g := mkF m pc ls st) rfl (hb hby hd) hc hl
  exact own_go q (r T' h' h.size X' e' E' rfl A' D')
theorem own_putF (pc' : Nat) (X : Stand p l e R s m args below meth c T locs cells slots) (hx : p.tables.exec = Jvm.exec) (hby : c.code = bytes) (hZ : Z.Warmed39 s.vm) {own O n d C : String} {index kk : Nat} (ty : FieldType) (hown : s.vm.findClass own = some m.cls) (w : (Cond.fieldLink own index O n d).before a0 Z = true) (eT : T.heap = h) {a : Addr} {v old : Value} (F : Fld Z h a O n d old) (E : Exa Z h a C) (L : (Cond.lays C O n d).before a0 Z = true ∨ ((Cond.laysFinal C O n d).before a0 Z = true ∧ own = O ∧ meth.name = "<init>")) (wi : (Cond.instantiable C kk).before a0 Z = true)
    (hty : parseFieldDescriptor d = some ty) (hn : narrow ty v = v) (hf : fits ty v = true) (hd : decode bytes pc = .ok (.putfield index, 3)) (hp : pc + 3 = pc')
    (r : ∀ T' h', Stand p l e R s m args below meth c T' (locs ++ [⟨a, Jvm.RoadKit.slotOf Z O n d⟩]) cells slots → T'.heap = h' → Wr h h' a (Jvm.RoadKit.slotOf Z O n d) v → Go p e below P (T'.setTop (mkF m pc' ls st))) : Go p e below P (T.setTop (mkF m pc ls (v :: .ref a :: st))) := by
  subst hp
  obtain ⟨T', h', X', e', W', q⟩ := putF X hx hZ hown (host := "") (Or.inl w) Via.refl eT F E L wi hty hn hf (g := mkF m pc ls (v :: .ref a :: st)) rfl rfl (hb hby hd)
  exact own_go q (r T' h' X' e' W')
theorem own_initO (pc' : Nat) (W : Nat) (X : Stand p l e R s m args below meth c T locs cells slots) (hx : p.tables.exec = Jvm.exec) (hby : c.code = bytes) (hZ : Z.Warmed39 s.vm) {own : String} {idx : Nat} (hown : s.vm.findClass own = some m.cls) (w1 : (Cond.methodLink own idx Lib.objectInit).before a0 Z = true) (w2 : (Cond.instanceMethod Lib.objectInit).before a0 Z = true)
    (w3 : (Cond.code Lib.objectInit object_method_1_code 1 none).before a0 Z = true) (hsz : ls.size = c.maxLocals) {a : Addr} (hd : decode bytes pc = .ok (.invokespecial idx, 3)) (hp : pc + 3 = pc') (eT : T.heap = h) (hW : (st.map fun v => v.category).sum = W) (hf : 1 ≤ R.frames) (hl : W + 12 ≤ R.locals)
    (r : ∀ T', Stand p l e R s m args below meth c T' locs cells slots → T'.heap = h → Go p e below P (T'.setTop (mkF m pc' ls st))) : Go p e below P (T.setTop (mkF m pc ls (.ref a :: st))) := by
  subst hp
  obtain ⟨T', X', e', q⟩ := initO X hx hZ hown w1 w2 w3 eT (g := mkF m pc ls (.ref a :: st)) rfl hsz rfl (hb hby hd) hf (W := W) (by show 2 * 0 + _ ≤ _; omega) hl
  exact own_go q (r T' X' e')
theorem own_cast (pc' : Nat) (X : Stand p l e R s m args below meth c T locs cells slots) (hx : p.tables.exec = Jvm.exec) (hby : c.code = bytes) (hZ : Z.Warmed39 s.vm) {own K : String} {index : Nat} (hown : s.vm.findClass own = some m.cls) (w : (Cond.classLink own index K).before a0 Z = true) (eT : T.heap = h) {a : Addr} (F : Ins Z h a K true) (hd : decode bytes pc = .ok (.checkcast index, 3)) (hp : pc + 3 = pc')
    (r : ∀ T', Stand p l e R s m args below meth c T' locs cells slots → T'.heap = h → Go p e below P (T'.setTop (mkF m pc' ls (.ref a :: st)))) : Go p e below P (T.setTop (mkF m pc ls (.ref a :: st))) := by
  subst hp
  obtain ⟨T', X', e', q⟩ := castY X hx hZ hown w eT F (g := mkF m pc ls (.ref a :: st)) rfl rfl (hb hby hd)
  exact own_go q (r T' X' e')
theorem own_instY (pc' : Nat) (X : Stand p l e R s m args below meth c T locs cells slots) (hx : p.tables.exec = Jvm.exec) (hby : c.code = bytes) (hZ : Z.Warmed39 s.vm) {own K : String} {index : Nat} (hown : s.vm.findClass own = some m.cls) (w : (Cond.classLink own index K).before a0 Z = true) (eT : T.heap = h) {a : Addr} (F : Ins Z h a K true) (hd : decode bytes pc = .ok (.instanceof index, 3)) (hp : pc + 3 = pc')
    (r : ∀ T', Stand p l e R s m args below meth c T' locs cells slots → T'.heap = h → Go p e below P (T'.setTop (mkF m pc' ls (.int 1 :: st)))) : Go p e below P (T.setTop (mkF m pc ls (.ref a :: st))) := by
  subst hp
  obtain ⟨T', X', e', q⟩ := instY X hx hZ hown w eT F (g := mkF m pc ls (.ref a :: st)) rfl rfl (hb hby hd)
  exact own_go q (r T' X' e')
theorem own_instN (pc' : Nat) (X : Stand p l e R s m args below meth c T locs cells slots) (hx : p.tables.exec = Jvm.exec) (hby : c.code = bytes) (hZ : Z.Warmed39 s.vm) {own K C : String} {index : Nat} (hown : s.vm.findClass own = some m.cls) (w : (Cond.classLink own index K).before a0 Z = true) (eT : T.heap = h) {a : Addr} (E : Exa Z h a C) (F : ∃ c t, Z.vm.findClass C = some c ∧ Z.vm.findClass K = some t ∧ Z.vm.assignable c t = false) (hd : decode bytes pc = .ok (.instanceof index, 3)) (hp : pc + 3 = pc')
    (r : ∀ T', Stand p l e R s m args below meth c T' locs cells slots → T'.heap = h → Go p e below P (T'.setTop (mkF m pc' ls (.int 0 :: st)))) : Go p e below P (T.setTop (mkF m pc ls (.ref a :: st))) := by
  subst hp
  obtain ⟨T', X', e', q⟩ := instNo X hx hZ hown w eT E F (g := mkF m pc ls (.ref a :: st)) rfl rfl (hb hby hd)
  exact own_go q (r T' X' e')
theorem own_inst0 (pc' : Nat) (X : Stand p l e R s m args below meth c T locs cells slots) (hx : p.tables.exec = Jvm.exec) (hby : c.code = bytes) {index : Nat} (hd : decode bytes pc = .ok (.instanceof index, 3)) (hp : pc + 3 = pc')
    (r : Go p e below P (T.setTop (mkF m pc' ls (.int 0 :: st)))) : Go p e below P (T.setTop (mkF m pc ls (.null :: st))) := by
  subst hp
  exact own_go (fun t q => X.instanceofNull hx (g := mkF m pc ls (.null :: st)) rfl rfl (hb hby hd) t q) r
theorem own_lsw (pc' : Nat) (X : Stand p l e R s m args below meth c T locs cells slots) (hx : p.tables.exec = Jvm.exec) (hby : c.code = bytes) {k : Int32} {dflt : Int} {pairs : Array (Int × Int)} {len : Nat} (hd : decode bytes pc = .ok (.lookupswitch dflt pairs, len)) (hsorted : (pairs.toList.zip (pairs.toList.drop 1)).all (fun (a, next) => a.1 < next.1) = true) {a off : Int} (hfind : pairs.find? (·.1 == k.toInt) = some (a, off)) (ho : 0 ≤ (pc : Int) + off) (hp : ((pc : Int) + off).toNat = pc')
    (r : Go p e below P (T.setTop (mkF m pc' ls st))) : Go p e below P (T.setTop (mkF m pc ls (.int k :: st))) := by
  subst hp
  exact own_go (fun t q => X.lookupswitchHit hx (g := mkF m pc ls (.int k :: st)) rfl rfl (hb hby hd) hsorted hfind ho t q) r
/-! arrays of longs -/
theorem own_stJ (pc' : Nat) (i : Nat) (X : Stand p l e R s m args below meth c T locs cells slots) (hx : p.tables.exec = Jvm.exec) (hby : c.code = bytes) (hZ : Z.Warmed39 s.vm) (eT : T.heap = h) {a : Addr} {cA : ClassId} {n j : Int32} {x : Int64} {vs : List Value} {dv : Value} (V : Arv Z h a cA .long n vs dv)
    (hd : decode bytes pc = .ok (.lastore, 1)) (hp : pc + 1 = pc') (hj : ¬ j < 0 ∧ j < n) (hi : j.toNatClampNeg = i) (hv : i < vs.length)
    (r : ∀ T' h', Stand p l e R s m args below meth c T' (locs ++ [⟨a, j.toNatClampNeg⟩]) cells slots → T'.heap = h' → Wr h h' a j.toNatClampNeg (.long x) → Arv Z h' a cA .long n (vs.set i (.long x)) dv → Go p e below P (T'.setTop (mkF m pc' ls st))) : Go p e below P (T.setTop (mkF m pc ls (.long x :: .int j :: .ref a :: st))) := by
  subst hp
  obtain ⟨cl, A, q1, S, q3, H, G⟩ := V
  obtain ⟨T', h', X', e', W', q⟩ := stJ X hx hZ eT A (j := j) (inb_of S hj) (g := mkF m pc ls (.long x :: .int j :: .ref a :: st)) rfl rfl (hb hby hd)
  exact own_go q (r T' h' X' e' W' (Arv.set A q1 S q3 H G rfl W' i hi hv))
theorem own_shrink {a : Addr} {k : ClassId} {ty : FieldType} {z : Int32} {d : Value} {N : Nat} (M : Nat) (V : Arv Z h a k ty z (List.replicate N d) d) : Arv Z h a k ty z (List.replicate M d) d := V.pad fun i => (pad_rep [] d M i).trans (pad_rep [] d N i).symm
theorem own_laload (pc' : Nat) (v : Value) (X : Stand p l e R s m args below meth c T locs cells slots) (hx : p.tables.exec = Jvm.exec) (hby : c.code = bytes) (hZ : Z.Warmed39 s.vm) (eT : T.heap = h) {a : Addr} {cA : ClassId} {n j : Int32} {vs : List Value} {dv : Value} (V : Arv Z h a cA .long n vs dv)
    (hd : decode bytes pc = .ok (.laload, 1)) (hp : pc + 1 = pc') (hj : ¬ j < 0 ∧ j < n) (hv : vs.getD j.toNatClampNeg dv = v)
    (r : Go p e below P (T.setTop (mkF m pc' ls (v :: st)))) : Go p e below P (T.setTop (mkF m pc ls (.int j :: .ref a :: st))) := by
  subst hp
  obtain ⟨cl, A, q1, S, q3, H, G⟩ := V
  exact own_go (fun t q => X.laload hx (j := j) (v := v) (by rw [eT]; exact A.1) (State.isArrayOf_alike hZ.alike A.2.1) A.2.2 (inb_of S hj) (H.at (inb_of S hj) hv) (g := mkF m pc ls (.int j :: .ref a :: st)) rfl rfl (hb hby hd) t q) r
/-- System.arraycopy of no element at all -/
theorem own_cp0 (pc' : Nat) (W : Nat) (X : Stand p l e R s m args below meth c T locs cells slots) (hx : p.tables.exec = Jvm.exec) (hby : c.code = bytes) (hZ : Z.Warmed39 s.vm) {own : String} {index : Nat} (hown : s.vm.findClass own = some m.cls)
    (w1 : (Cond.methodLink own index Jvm.Stand.acN).before a0 Z = true) (w2 : (Cond.native Jvm.Stand.acN).before a0 Z = true) (w3 : (Cond.static Jvm.Stand.acN).before a0 Z = true) (w4 : (Cond.initialized "java/lang/System").before a0 Z = true) (eT : T.heap = h)
    {a b : Addr} {k k' : ClassId} {z z' : Int32} {vs vd : List Value} {dv dd : Value} (A : Arv Z h a k .long z vs dv) (B : Arv Z h b k' .long z' vd dd) {n0 : Nat} (N : Fr n0 locs) (ge : n0 ≤ b) (hsz : ls.size = c.maxLocals) (hd : decode bytes pc = .ok (.invokestatic index, 3)) (hp : pc + 3 = pc') (hW : (st.map fun v => v.category).sum = W)
    (hf : 1 ≤ R.frames) (hlo : W + (nativeFrameWords "java/lang/System" "arraycopy" 5 + 11) ≤ R.locals)
    (r : ∀ T' h' L, Stand p l e R s m args below meth c T' L cells slots → T'.heap = h' → Fr n0 L → Keep h h' [b] → Arv Z h' b k' .long z' vd dd → Go p e below P (T'.setTop (mkF m pc' ls st))) : Go p e below P (T.setTop (mkF m pc ls (.int 0 :: .int 0 :: .ref b :: .int 0 :: .ref a :: st))) := by
  subst hp
  obtain ⟨T', h', L, X', e', N', K', V', q⟩ := cpA X hx hZ hown w1 w2 w3 w4 eT A B (us := []) (sp := 0) (dp := 0) (nn := 0) (Or.inl ⟨rfl, rfl⟩) (by decide) (by decide) (by decide) (Nat.zero_le _) (Nat.zero_le _) rfl (Nat.zero_le _) N ge (g := mkF m pc ls (.int 0 :: .int 0 :: .ref b :: .int 0 :: .ref a :: st)) rfl hsz rfl (hb hby hd) hf (W := W) (by show 2 * 0 + _ ≤ _; omega) hlo
  exact own_go q (r T' h' L X' e' N' K' V')
/-! calls -/
theorem own_spec (pc' : Nat) {h : Heap} {as' : Array Value} {rm : Room} {Q : Option Value → Heap → List Loc → Prop} {y : MethodName} {code' : ByteArray} {maxL : Nat}
    (hM : MetFree l y (head1 [Cond.code y code' maxL none] rm) (fun a U => a = as' ∧ Z.Warmed39 U.vm ∧ U.heap = h) (fun _ _ _ _ _ => True) (fun _ U o U' => ∃ v L, o = .returned v ∧ Q v U'.heap L ∧ FrameEnd U o U' L rm.cells rm.slots))
    (X : Stand p l e R s m args below meth c T locs cells slots) (hx : p.tables.exec = Jvm.exec) (hby : c.code = bytes) (hZ : Z.Warmed39 s.vm) {own : String} {index W : Nat} (hown : s.vm.findClass own = some m.cls)
    (hn : y.name = "<init>") (w1 : (Cond.methodLink own index y).before a0 Z = true) (w4 : (Cond.instanceMethod y).before a0 Z = true) (w5 : (Cond.initialized y.cls).before a0 Z = true) (w6 : (Cond.code y code' maxL none).before a0 Z = true)
    (hy : y.cls ≠ "java/lang/invoke/MethodHandle" ∧ y.cls ≠ "java/lang/invoke/VarHandle") (hsz : ls.size = c.maxLocals) (b : Addr) (argsL rest : List Value) {ps : List FieldType} {rt : Option FieldType} (hps : parseMethodDescriptor y.desc = some ⟨ps, rt⟩) (hlen : argsL.length = ps.length)
    (hd : decode bytes pc = .ok (.invokespecial index, 3)) (hp : pc + 3 = pc') (eT : T.heap = h) (hst : st = argsL.reverse ++ .ref b :: rest) (has : (.ref b :: argsL).toArray = as') (hW : (rest.map fun v => v.category).sum = W)
    (hf : rm.frames + 1 ≤ R.frames) (hl : W + (maxL + 11) + rm.locals ≤ R.locals) (hc : cells + rm.cells ≤ R.cells) (hs : slots + rm.slots ≤ R.slots)
    (r : ∀ v T' L, Stand p l e R s m args below meth c T' (locs ++ L) (cells + rm.cells) (slots + rm.slots) → Q v T'.heap L → Go p e below P (T'.setTop (mkF m pc' ls (v.toList ++ rest)))) : Go p e below P (T.setTop (mkF m pc ls st)) := by
  subst hp
  obtain ⟨v, _, ⟨T', L', k', n'⟩, -, X', ⟨L, hQ, l1, l2, l3⟩, q⟩ := X.specialBack hx hn hown (mvT hZ w1) (mvT hZ w4) (mvT hZ w6) hy (backOf (W := W) hM hZ w6 w5 hf hl) (g := mkF m pc ls st) rfl hsz (Steps.refl _) (a := b) (argsL := argsL) (rest := rest) (lenOf hps hlen) hst (by show 2 * 0 + _ ≤ _; omega) (hb hby hd) (fun _ _ => ⟨has, eT, hc, hs⟩)
  dsimp only [Pt.U, Pt.locs, Pt.cells, Pt.slots] at X' l1 l2 l3 q hQ
  subst l1 l2 l3
  exact own_go (fun t k => q.trans k) (r v T' L X' hQ)
theorem own_priv (pc' : Nat) {h : Heap} {as' : Array Value} {rm : Room} {Q : Option Value → Heap → List Loc → Prop} {y : MethodName} {code' : ByteArray} {maxL : Nat} {ret' : Option FieldType}
    (hM : MetFree l y (head1 [Cond.code y code' maxL ret'] rm) (fun a U => a = as' ∧ Z.Warmed39 U.vm ∧ U.heap = h) (fun _ _ _ _ _ => True) (fun _ U o U' => ∃ v L, o = .returned v ∧ Q v U'.heap L ∧ FrameEnd U o U' L rm.cells rm.slots))
    (X : Stand p l e R s m args below meth c T locs cells slots) (hx : p.tables.exec = Jvm.exec) (hby : c.code = bytes) (hZ : Z.Warmed39 s.vm) {own : String} {index W : Nat} (hown : s.vm.findClass own = some m.cls)
    (w1 : (Cond.methodLink own index y).before a0 Z = true) (w4 : (Cond.instanceMethod y).before a0 Z = true) (wp : (Cond.privateMethod y).before a0 Z = true) {y2 : MethodName} {C2 : String} (wsel : (Cond.selects C2 y2 y2).before a0 Z = true) (w5 : (Cond.initialized y.cls).before a0 Z = true) (w6 : (Cond.code y code' maxL ret').before a0 Z = true)
    (hy2 : y2.cls = y.cls) (hy : y.cls ≠ "java/lang/invoke/MethodHandle" ∧ y.cls ≠ "java/lang/invoke/VarHandle") (hsz : ls.size = c.maxLocals) (b : Addr) (argsL rest : List Value) {ps : List FieldType} {rt : Option FieldType} (hps : parseMethodDescriptor y.desc = some ⟨ps, rt⟩) (hlen : argsL.length = ps.length)
    (hd : decode bytes pc = .ok (.invokevirtual index, 3)) (hp : pc + 3 = pc') (eT : T.heap = h) {C : String} (E : Exa Z h b C) (hst : st = argsL.reverse ++ .ref b :: rest) (has : (.ref b :: argsL).toArray = as') (hW : (rest.map fun v => v.category).sum = W)
    (hf : rm.frames + 1 ≤ R.frames) (hl : W + (maxL + 11) + rm.locals ≤ R.locals) (hc : cells + rm.cells ≤ R.cells) (hs : slots + rm.slots ≤ R.slots)
    (r : ∀ v T' L, Stand p l e R s m args below meth c T' (locs ++ L) (cells + rm.cells) (slots + rm.slots) → Q v T'.heap L → Go p e below P (T'.setTop (mkF m pc' ls (v.toList ++ rest)))) : Go p e below P (T.setTop (mkF m pc ls st)) := by
  subst hp
  have hpa : s.PrivateAt y := Cond.privateMethod_at (mvP hZ wp (args := #[]))
  have hsel : (Cond.selects y.cls y y).before args s = true := by
    obtain ⟨c2, r2, m2, q1, q2, q3, q4, kP, hkP, hkPi⟩ := Cond.selects_spec (mvT (args := args) hZ wsel)
    obtain ⟨kr, hkr, hni⟩ := notFace_of_selects (mvT (args := args) hZ wsel) _ q3
    have hc2 := findClass_of_methodNamed q3
    rw [hy2] at hc2
    exact selects_self_of_private hc2 hkr hni hpa (mvT hZ w4) hy
  obtain ⟨cq, q1, q2⟩ := E.cell
  obtain ⟨v, _, ⟨T', L', k', n'⟩, -, X', ⟨L, hQ, l1, l2, l3⟩, q⟩ := X.privateBack hx hown (mvT hZ w1) (mvT hZ w4) hsel hpa (mvT hZ w6) hy (backOf (W := W) hM hZ w6 w5 hf hl) (g := mkF m pc ls st) rfl hsz (Steps.refl _) (a := b) (by rw [eT]; exact q1) q2 (argsL := argsL) (rest := rest) (lenOf hps hlen) hst (by show 2 * 0 + _ ≤ _; omega) (hb hby hd) (fun _ _ => ⟨has, eT, hc, hs⟩)
  dsimp only [Pt.U, Pt.locs, Pt.cells, Pt.slots] at X' l1 l2 l3 q hQ
  subst l1 l2 l3
  exact own_go (fun t k => q.trans k) (r v T' L X' hQ)
theorem own_face (pc' : Nat) {h : Heap} {as' : Array Value} {rm : Room} {Q : Option Value → Heap → List Loc → Prop} {xi y : MethodName} {code' : ByteArray} {maxL : Nat} {ret' : Option FieldType}
    (hM : MetFree l y (head1 [Cond.code y code' maxL ret'] rm) (fun a U => a = as' ∧ Z.Warmed39 U.vm ∧ U.heap = h) (fun _ _ _ _ _ => True) (fun _ U o U' => ∃ v L, o = .returned v ∧ Q v U'.heap L ∧ FrameEnd U o U' L rm.cells rm.slots))
    (X : Stand p l e R s m args below meth c T locs cells slots) (hx : p.tables.exec = Jvm.exec) (hby : c.code = bytes) (hZ : Z.Warmed39 s.vm) {own C : String} {index count W : Nat} (hown : s.vm.findClass own = some m.cls)
    (w1 : (Cond.methodLink own index xi).before a0 Z = true) (w2 : (Cond.declares xi).before a0 Z = true) (w3 : ∀ A, (Cond.interfaceMethod xi.cls xi.cls xi.name xi.desc).before A s = true) (w4 : (Cond.selects C xi y).before a0 Z = true) (w5 : (Cond.instanceMethod y).before a0 Z = true) (w6 : (Cond.publicMethod y).before a0 Z = true) (w7 : (Cond.unhidden C xi.name xi.desc).before a0 Z = true) (w8 : (Cond.castable C xi.cls).before a0 Z = true) (w9 : (Cond.initialized y.cls).before a0 Z = true) (w10 : (Cond.code y code' maxL ret').before a0 Z = true)
    (hy : xi.cls ≠ "java/lang/invoke/MethodHandle" ∧ xi.cls ≠ "java/lang/invoke/VarHandle") (hsz : ls.size = c.maxLocals) (b : Addr) (argsL rest : List Value) {ps : List FieldType} {rt : Option FieldType} (hps : parseMethodDescriptor xi.desc = some ⟨ps, rt⟩) (hlen : argsL.length = ps.length)
    (hd : decode bytes pc = .ok (.invokeinterface index count, 5)) (hp : pc + 5 = pc') (eT : T.heap = h) (E : Exa Z h b C) (hst : st = argsL.reverse ++ .ref b :: rest) (has : (.ref b :: argsL).toArray = as') (hW : (rest.map fun v => v.category).sum = W)
    (hf : rm.frames + 1 ≤ R.frames) (hl : W + (maxL + 11) + rm.locals ≤ R.locals) (hc : cells + rm.cells ≤ R.cells) (hs : slots + rm.slots ≤ R.slots)
    (r : ∀ v T' L, Stand p l e R s m args below meth c T' (locs ++ L) (cells + rm.cells) (slots + rm.slots) → Q v T'.heap L → Go p e below P (T'.setTop (mkF m pc' ls (v.toList ++ rest)))) : Go p e below P (T.setTop (mkF m pc ls st)) := by
  subst hp
  obtain ⟨cq, kq, q1, q2, q3⟩ := isOf (s := s) (T := T) hZ eT E
  obtain ⟨v, _, ⟨T', L', k', n'⟩, -, X', ⟨L, hQ, l1, l2, l3⟩, q⟩ := X.interfaceBack hx hown (mvT hZ w1) (mvT hZ w2) (w3 args) (mvT hZ w4) (mvT hZ w5) (mvT hZ w6) (mvT hZ w7) (mvT hZ w8) hy (backOf (W := W) hM hZ w10 w9 hf hl) q1 q2 q3 (g := mkF m pc ls st) rfl hsz (Steps.refl _) (argsL := argsL) (rest := rest) (lenOf hps hlen) hst (by show 2 * 0 + _ ≤ _; omega) (hb hby hd) (fun _ _ => ⟨has, eT, hc, hs⟩)
  dsimp only [Pt.U, Pt.locs, Pt.cells, Pt.slots] at X' l1 l2 l3 q hQ
  subst l1 l2 l3
  exact own_go (fun t k => q.trans k) (r v T' L X' hQ)
theorem own_virtUp (pc' : Nat) {h : Heap} {as' : Array Value} {rm : Room} {Q : Option Value → Heap → List Loc → Prop} {y z : MethodName} {code' : ByteArray} {maxL : Nat} {ret' : Option FieldType} (owner : String)
    (hM : MetFree l z (head1 [Cond.code z code' maxL ret'] rm) (fun a U => a = as' ∧ Z.Warmed39 U.vm ∧ U.heap = h) (fun _ _ _ _ _ => True) (fun _ U o U' => ∃ v L, o = .returned v ∧ Q v U'.heap L ∧ FrameEnd U o U' L rm.cells rm.slots))
    (X : Stand p l e R s m args below meth c T locs cells slots) (hx : p.tables.exec = Jvm.exec) (hby : c.code = bytes) (hZ : Z.Warmed39 s.vm) {own C : String} {index W : Nat} (hown : s.vm.findClass own = some m.cls)
    (w1 : (Cond.methodLink own index y).before a0 Z = true) (wsm : (Cond.sameMethod y.cls owner y.name y.desc).before a0 Z = true) (w2 : (Cond.declares ⟨owner, y.name, y.desc⟩).before a0 Z = true) (ho : owner ≠ "java/lang/invoke/MethodHandle" ∧ owner ≠ "java/lang/invoke/VarHandle") (w3 : (Cond.selects C y z).before a0 Z = true) (w4 : (Cond.instanceMethod z).before a0 Z = true) (w5 : (Cond.initialized z.cls).before a0 Z = true) (w6 : (Cond.code z code' maxL ret').before a0 Z = true)
    (hsz : ls.size = c.maxLocals) (b : Addr) (argsL rest : List Value) {ps : List FieldType} {rt : Option FieldType} (hps : parseMethodDescriptor y.desc = some ⟨ps, rt⟩) (hlen : argsL.length = ps.length)
    (hd : decode bytes pc = .ok (.invokevirtual index, 3)) (hp : pc + 3 = pc') (eT : T.heap = h) (E : Exa Z h b C) (hst : st = argsL.reverse ++ .ref b :: rest) (has : (.ref b :: argsL).toArray = as') (hW : (rest.map fun v => v.category).sum = W)
    (hf : rm.frames + 1 ≤ R.frames) (hl : W + (maxL + 11) + rm.locals ≤ R.locals) (hc : cells + rm.cells ≤ R.cells) (hs : slots + rm.slots ≤ R.slots)
    (r : ∀ v T' L, Stand p l e R s m args below meth c T' (locs ++ L) (cells + rm.cells) (slots + rm.slots) → Q v T'.heap L → Go p e below P (T'.setTop (mkF m pc' ls (v.toList ++ rest)))) : Go p e below P (T.setTop (mkF m pc ls st)) := by
  subst hp
  obtain ⟨cq, kq, q1, q2, q3⟩ := isOf (s := s) (T := T) hZ eT E
  obtain ⟨v, _, ⟨T', L', k', n'⟩, -, X', ⟨L, hQ, l1, l2, l3⟩, q⟩ := X.virtualBackUp hx hown (mvT hZ w1) (mvT hZ wsm) (mvT hZ w2) ho (mvT hZ w3) (mvT hZ w4) (backOf (W := W) hM hZ w6 w5 hf hl) q1 q3 (g := mkF m pc ls st) rfl hsz (Steps.refl _) (argsL := argsL) (rest := rest) (lenOf hps hlen) hst (by show 2 * 0 + _ ≤ _; omega) (hb hby hd) (fun _ _ => ⟨has, eT, hc, hs⟩)
  dsimp only [Pt.U, Pt.locs, Pt.cells, Pt.slots] at X' l1 l2 l3 q hQ
  subst l1 l2 l3
  exact own_go (fun t k => q.trans k) (r v T' L X' hQ)
/-! the wide frame: a String constant may be booked -/
theorem own_ldcS (pc' : Nat) (n : Nat) {vm0 : Vm} (X : Stand p l e R (s.setVm vm0) m args below meth c T locs cells slots) (hx : p.tables.exec = Jvm.exec) (hby : c.code = bytes) (hZ : Z.Warmed39 (s.setVm vm0).vm) {own text : String} {index : Nat} (hown : (s.setVm vm0).vm.findClass own = some m.cls) (w : (Cond.stringLink own index text).before a0 Z = true) (wS : ∀ a ∈ Bundle.stringAtoms, a.before a0 Z = true)
    (eT : T.heap = h) {k0 : Nat} (hS : s.Since vm0 k0) (hk : k0 ≤ h.size) (hd : decode bytes pc = .ok (.ldc index, 2)) (hp : pc + 2 = pc') (hn : 4 * text.toList.length ≤ n) (hbig : n ≤ 536870912) (hc : cells + 2 ≤ R.cells) (hl : slots + (n + 4) ≤ R.slots)
    (r : ∀ (a : Addr) (T' : State) (h' : Heap) (k1 : Nat), Stand p l e R (s.setVm T'.vm) m args below meth c T' locs (cells + 2) (slots + (n + 4)) → T'.heap = h' → Ext h h' → s.Since T'.vm k1 → k1 ≤ h'.size → Z.Warmed39 (s.setVm T'.vm).vm → (s.setVm T'.vm).vm.findClass own = some m.cls → Go p e below P (T'.setTop (mkF m pc' ls (.ref a :: st)))) : Go p e below P (T.setTop (mkF m pc ls st)) := by
  subst hp
  obtain ⟨a, T', h', k1, X', e', E', S', k', Z', o', q⟩ := ldcS X hx hZ hown w wS eT hS hk (g := mkF m pc ls st) rfl (hb hby hd) hn hbig hc hl
  exact own_go q (r a T' h' k1 X' e' E' S' k' Z' o')
theorem own_specS (pc' : Nat) {vm0 : Vm} {h : Heap} {as' : Array Value} {rm : Room} {Q : Option Value → Heap → List Loc → Prop} {y : MethodName} {code' : ByteArray} {maxL : Nat}
    (hM : MetFree l y (head1 [Cond.code y code' maxL none] rm) (fun a U => a = as' ∧ Z.Warmed39 U.vm ∧ U.heap = h) (fun _ _ _ _ _ => True) (fun _ U o U' => ∃ v L, o = .returned v ∧ Q v U'.heap L ∧ ReturnedEndW U o U' L rm.cells rm.slots))
    (X : Stand p l e R (s.setVm vm0) m args below meth c T locs cells slots) (hx : p.tables.exec = Jvm.exec) (hby : c.code = bytes) (hZ : Z.Warmed39 (s.setVm vm0).vm) {own : String} {index W : Nat} (hown : (s.setVm vm0).vm.findClass own = some m.cls)
    (hn : y.name = "<init>") (w1 : (Cond.methodLink own index y).before a0 Z = true) (w4 : (Cond.instanceMethod y).before a0 Z = true) (w5 : (Cond.initialized y.cls).before a0 Z = true) (w6 : (Cond.code y code' maxL none).before a0 Z = true)
    (hy : y.cls ≠ "java/lang/invoke/MethodHandle" ∧ y.cls ≠ "java/lang/invoke/VarHandle") (hsz : ls.size = c.maxLocals) (b : Addr) (argsL rest : List Value) {ps : List FieldType} {rt : Option FieldType} (hps : parseMethodDescriptor y.desc = some ⟨ps, rt⟩) (hlen : argsL.length = ps.length)
    (hd : decode bytes pc = .ok (.invokespecial index, 3)) (hp : pc + 3 = pc') (eT : T.heap = h) (hst : st = argsL.reverse ++ .ref b :: rest) (has : (.ref b :: argsL).toArray = as') (hW : (rest.map fun v => v.category).sum = W)
    (hf : rm.frames + 1 ≤ R.frames) (hl : W + (maxL + 11) + rm.locals ≤ R.locals) (hc : cells + rm.cells ≤ R.cells) (hs : slots + rm.slots ≤ R.slots) {k0 : Nat} (hS : s.Since vm0 k0) (hk : k0 ≤ h.size)
    (r : ∀ v T' L, Stand p l e R (s.setVm T'.vm) m args below meth c T' (locs ++ L) (cells + rm.cells) (slots + rm.slots) → Q v T'.heap L → s.Since T'.vm T'.heap.size → Z.Warmed39 (s.setVm T'.vm).vm → (s.setVm T'.vm).vm.findClass own = some m.cls → Go p e below P (T'.setTop (mkF m pc' ls (v.toList ++ rest)))) : Go p e below P (T.setTop (mkF m pc ls st)) := by
  subst hp
  obtain ⟨v, _, ⟨T', L', k', n'⟩, -, X', S', g', ⟨L, hQ, l1, l2, l3⟩, q⟩ := X.specialBackS hx hn hown (mvT hZ w1) (mvT hZ w4) (mvT hZ w6) hy (backOfS (W := W) hM hZ w6 w5 hf hl) (g := mkF m pc ls st) rfl hsz (Steps.refl _) (a := b) (argsL := argsL) (rest := rest) (lenOf hps hlen) hst (by show 2 * 0 + _ ≤ _; omega) (hb hby hd) (fun _ _ => ⟨has, eT, hc, hs⟩)
  dsimp only [Pt.U, Pt.locs, Pt.cells, Pt.slots] at X' l1 l2 l3 q hQ S' g'
  subst l1 l2 l3
  have hk' : k0 ≤ T.heap.size := by rw [eT]; exact hk
  have S2 : s.Since T'.vm T'.heap.size := foldS hS hk' S' g'
  refine own_go (fun t k => q.trans k) (r v T' L X' hQ S2 (State.Warmed39.trans (t := s.setVm vm0) hZ S'.1) ?_)
  rw [show (s.setVm T'.vm).vm = T'.vm from rfl, S'.1.alike.findClass]; exact hown
theorem own_retW {Q : Option Value → Heap → List Loc → Prop} {K N : Nat} {vm0 : Vm} {t : FieldType} {w : Value} {i : Instr} (X : Stand p l e R (s.setVm vm0) m args below meth c T locs cells slots) (hx : p.tables.exec = Jvm.exec) (hby : c.code = bytes) (hret : meth.sig.returnType = some t) (hlocks : meth.locks = false) {k0 : Nat} (hS : s.Since vm0 k0) (hk : k0 ≤ T.heap.size)
    (hd : decode bytes pc = .ok (i, 1)) (hn : narrow t w = w)
    (hi : (i = .ireturn ∧ (t = .int ∨ t = .boolean ∨ t = .byte ∨ t = .char ∨ t = .short) ∧ ∃ z, w = .int z) ∨ (i = .lreturn ∧ t = .long ∧ ∃ z, w = .long z) ∨ (i = .dreturn ∧ t = .double ∧ ∃ z, w = .double z) ∨ (i = .freturn ∧ t = .float ∧ ∃ z, w = .float z) ∨ (i = .areturn ∧ t.isReference = true ∧ w.isRef = true))
    (hK : cells ≤ K) (hN : slots ≤ N) (hQ : Q (some w) T.heap locs) :
    Go p e below (fun s₂ o => s₂.status = .running ∧ Ended s₂ below o ∧ ∃ v L, o = .returned v ∧ Q v s₂.heap L ∧ ReturnedEndW s o s₂ L K N) (T.setTop (mkF m pc ls (w :: st))) := by
  obtain ⟨fs, hr, hrun, hended, r1, r2, r3, r4⟩ := X.leaveW hS hk (v := some w) (fun h => by rw [hret] at h; cases h) hlocks
  exact ⟨_, _, retOut X hx hret hn hi (hb hby hd) hr, hrun, hended, _, _, rfl, hQ, r1, r2, r3, r4.mono hK hN⟩
theorem own_ret0W {Q : Option Value → Heap → List Loc → Prop} {K N : Nat} {vm0 : Vm} (X : Stand p l e R (s.setVm vm0) m args below meth c T locs cells slots) (hx : p.tables.exec = Jvm.exec) (hby : c.code = bytes) (hret : meth.sig.returnType = none) (hlocks : meth.locks = false) {k0 : Nat} (hS : s.Since vm0 k0) (hk : k0 ≤ T.heap.size)
    (hd : decode bytes pc = .ok (.return_, 1)) (hK : cells ≤ K) (hN : slots ≤ N) (hQ : Q none T.heap locs) :
    Go p e below (fun s₂ o => s₂.status = .running ∧ Ended s₂ below o ∧ ∃ v L, o = .returned v ∧ Q v s₂.heap L ∧ ReturnedEndW s o s₂ L K N) (T.setTop (mkF m pc ls [])) := by
  obtain ⟨fs, hr, hrun, hended, r1, r2, r3, r4⟩ := X.leaveW hS hk (v := none) (fun _ => rfl) hlocks
  exact ⟨_, _, X.returnOut hx hret (hb hby hd) hr, hrun, hended, _, _, rfl, hQ, r1, r2, r3, r4.mono hK hN⟩
end Own2
/-! small facts on ints -/
theorem own_mask_nn (x : Int32) : 0 ≤ (x &&& 2147483647).toInt := by
  have h : (x &&& 2147483647).toInt = x.toInt % 2 ^ 31 := Jvm.Kit.i32_mask x 2147483647 (k := 31) (by decide) (by decide)
  omega
theorem own_mod_toInt (x y : Int32) (hy : 0 < y.toInt) (hx : 0 ≤ x.toInt) : (x % y).toInt = x.toInt % y.toInt := Jvm.Kit.i32_rem_nonneg hx
theorem own_and_toInt1 (x : Int32) : (x &&& 1).toInt = x.toInt % 2 := Jvm.Kit.i32_mask x 1 (k := 1) (by decide) (by decide)
theorem own_and_toInt3 (x : Int32) : (x &&& 3).toInt = x.toInt % 4 := Jvm.Kit.i32_mask x 3 (k := 2) (by decide) (by decide)
theorem own_and_toInt7 (x : Int32) : (x &&& 7).toInt = x.toInt % 8 := Jvm.Kit.i32_mask x 7 (k := 3) (by decide) (by decide)
theorem own_mkI (x m : Int32) (k : Nat) (hk : k < 32) (hm : m.toBitVec.toNat = 2 ^ k - 1) : 0 ≤ (x &&& m).toInt ∧ (x &&& m).toInt ≤ m.toInt := by
  have h1 := Jvm.Kit.i32_mask x m hk hm
  have h2 : m.toInt = 2 ^ k - 1 := by
    have h3 : m.toInt = (m.toBitVec).toInt := rfl
    have h4 : (2 : Nat) ^ k ≤ 2 ^ 31 := Nat.pow_le_pow_right (by decide) (by omega)
    rw [h3, BitVec.toInt_eq_toNat_cond, hm]
    have h5 : 0 < (2 : Nat) ^ k := Nat.pow_pos (by decide)
    have h6 : ((2 ^ k - 1 : Nat) : Int) = (2 : Int) ^ k - 1 := by
      rw [Int.natCast_sub h5]; simp
    split
    · exact h6
    · omega
  have h7 : (0 : Int) < 2 ^ k := Int.pow_pos (by decide)
  have h8 := Int.emod_nonneg x.toInt (Int.ne_of_gt h7)
  have h9 := Int.emod_lt_of_pos x.toInt h7
  omega
theorem own_mkJ (x m : Int64) (k : Nat) (hk : k < 64) (hm : m.toBitVec.toNat = 2 ^ k - 1) : 0 ≤ (x &&& m).toInt ∧ (x &&& m).toInt ≤ m.toInt := by
  have h1 := Jvm.Kit.i64_mask x m hk hm
  have h2 : m.toInt = 2 ^ k - 1 := by
    have h3 : m.toInt = (m.toBitVec).toInt := rfl
    have h4 : (2 : Nat) ^ k ≤ 2 ^ 63 := Nat.pow_le_pow_right (by decide) (by omega)
    rw [h3, BitVec.toInt_eq_toNat_cond, hm]
    have h5 : 0 < (2 : Nat) ^ k := Nat.pow_pos (by decide)
    have h6 : ((2 ^ k - 1 : Nat) : Int) = (2 : Int) ^ k - 1 := by
      rw [Int.natCast_sub h5]; simp
    split
    · exact h6
    · omega
  have h7 : (0 : Int) < 2 ^ k := Int.pow_pos (by decide)
  have h8 := Int.emod_nonneg x.toInt (Int.ne_of_gt h7)
  have h9 := Int.emod_lt_of_pos x.toInt h7
  omega
theorem own_rngI (x : Int32) : -2 ^ 31 ≤ x.toInt ∧ x.toInt < 2 ^ 31 := ⟨Int32.le_toInt x, Int32.toInt_lt x⟩
theorem own_rngJ (x : Int64) : -2 ^ 63 ≤ x.toInt ∧ x.toInt < 2 ^ 63 := ⟨Int64.le_toInt x, Int64.toInt_lt x⟩
theorem own_rmI {x : Int32} (hx : 0 ≤ x.toInt) (y : Int32) (hy : 0 < y.toInt) : 0 ≤ (x % y).toInt ∧ (x % y).toInt ≤ y.toInt - 1 := by
  rw [Jvm.Kit.i32_rem_nonneg hx]
  have h8 := Int.emod_nonneg x.toInt (Int.ne_of_gt hy)
  have h9 := Int.emod_lt_of_pos x.toInt hy
  omega
theorem own_rmJ (x y : Int64) (hy : 0 < y.toInt) : -(y.toInt - 1) ≤ (x - (x / y) * y).toInt ∧ (x - (x / y) * y).toInt ≤ y.toInt - 1 := by
  rw [Jvm.Kit.i64_rem]
  have h1 := Int.tmod_lt_of_pos x.toInt hy
  have h2 := Int.lt_tmod_of_pos x.toInt hy
  omega
theorem own_dvI {x : Int32} (hx : 0 ≤ x.toInt) (y : Int32) (hy : 0 < y.toInt) : (x / y).toInt = x.toInt / y.toInt := by
  rw [Jvm.Kit.i32_div (by omega), Int.tdiv_eq_ediv_of_nonneg hx]
theorem own_bdI {x a b : Int32} (h1 : ¬ (x < a)) (h2 : ¬ (b < x)) : a.toInt ≤ x.toInt ∧ x.toInt ≤ b.toInt := by
  rw [Int32.lt_iff_toInt_lt] at h1 h2
  omega
theorem own_bdJ {x a b : Int64} (h1 : ¬ (x < a)) (h2 : ¬ (b < x)) : a.toInt ≤ x.toInt ∧ x.toInt ≤ b.toInt := by
  rw [Int64.lt_iff_toInt_lt] at h1 h2
  omega
theorem own_and1 (x : Int32) : x &&& 1 = 0 ∨ x &&& 1 = 1 := by
  have h1 : (x &&& 1).toInt = x.toInt % 2 := own_and_toInt1 x
  have h3 : ∀ y : Int32, ∀ k : Int32, y.toInt = k.toInt → y = k := fun _ _ q => Int32.toInt_inj.mp q
  have h4 : x.toInt % 2 = 0 ∨ x.toInt % 2 = 1 := by omega
  rcases h4 with h4 | h4
  · exact Or.inl (h3 _ _ (h1.trans h4))
  · exact Or.inr (h3 _ _ (h1.trans h4))
theorem own_and3 (x : Int32) : x &&& 3 = 0 ∨ x &&& 3 = 1 ∨ x &&& 3 = 2 ∨ x &&& 3 = 3 := by
  have h1 : (x &&& 3).toInt = x.toInt % 4 := own_and_toInt3 x
  have h3 : ∀ y : Int32, ∀ k : Int32, y.toInt = k.toInt → y = k := fun _ _ q => Int32.toInt_inj.mp q
  have h4 : x.toInt % 4 = 0 ∨ x.toInt % 4 = 1 ∨ x.toInt % 4 = 2 ∨ x.toInt % 4 = 3 := by omega
  rcases h4 with h4 | h4 | h4 | h4
  · exact Or.inl (h3 _ _ (h1.trans h4))
  · exact Or.inr (Or.inl (h3 _ _ (h1.trans h4)))
  · exact Or.inr (Or.inr (Or.inl (h3 _ _ (h1.trans h4))))
  · exact Or.inr (Or.inr (Or.inr (h3 _ _ (h1.trans h4))))
def own_Bx (Z : State) (a : Addr) : Prop := ∃ c : Cell, Arr Z Z.heap a c (.object "java/lang/Long") ∧ c.slots.size = 256 ∧ ∀ j : Int32, ¬ j < 0 → j.toNatClampNeg < 256 → ∃ b : Addr, c.slots[j.toNatClampNeg]? = some (.ref b) ∧ Exa Z Z.heap b "java/lang/Long"
def own_QL (Z : State) (n0 : Nat) (h0 : Heap) (v : Option Value) (h : Heap) (L : List Loc) : Prop := ∃ b : Addr, v = some (.ref b) ∧ Fr n0 L ∧ Keep h0 h [] ∧ Exa Z h b "java/lang/Long"
theorem own_bx {Z : State} {args : Array Value} {t : Term} {F : Jvm.Cond} {a : Addr} (et : ∀ idx, t.eval args Z none idx Z = some (.ref a)) (hA : (Cond.arrayOf t (.object "java/lang/Long")).value args Z none Z [] = some true) (hl : (Cond.eq (Term.length t) (Term.int 256)).value args Z none Z [] = some true)
    (h : (Cond.all t (.and (.exactly (.elem t (.index 0)) "java/lang/Long") F)).value args Z none Z [] = some true) : own_Bx Z a := by
  obtain ⟨c, A⟩ := Arr.start (et []) hA
  obtain ⟨q, e⟩ := own_len_at (eqv_i (Term.int_eval _) hl) (et []) (A.fin (Vm.Alike.refl _))
  have hs : c.slots.size = 256 := by
    have h1 := congrArg Int32.toInt e
    rw [len_toInt q] at h1
    have h2 : (256 : Int32).toInt = 256 := rfl
    omega
  refine ⟨c, A, hs, fun j hn hj => ?_⟩
  obtain ⟨u1, u2⟩ := and_e (Cond.all_elim (et []) (A.fin (Vm.Alike.refl _)) h j.toNatClampNeg (by omega))
  obtain ⟨b, hb⟩ := exa_v u1
  exact ⟨b, (elem_in hb (et _) (idx_at hn) A.1).2, exa_at hb u1⟩
theorem own_cidx {y : Int64} (h1 : ¬ (y < (-128 : Int64))) (h2 : ¬ ((127 : Int64) < y)) : ¬ ((y.toInt32 + 128) < 0) ∧ (y.toInt32 + 128).toNatClampNeg < 256 := by
  rw [Int64.lt_iff_toInt_lt] at h1 h2
  have e1 : (-128 : Int64).toInt = -128 := rfl
  have e2 : (127 : Int64).toInt = 127 := rfl
  have e3 : (128 : Int32).toInt = 128 := rfl
  have e4 : (0 : Int32).toInt = 0 := rfl
  have e5 : y.toInt32.toInt = y.toInt := Jvm.Kit.i32_of_i64 (by omega) (by omega)
  have e6 : (y.toInt32 + 128).toInt = y.toInt32.toInt + (128 : Int32).toInt := Jvm.Kit.i32_add (by omega) (by omega)
  rw [Int32.lt_iff_toInt_lt]
  constructor
  · omega
  · simp only [Int32.toNatClampNeg]; omega
theorem own_aaloadB {p : Program} {l : Launch} {e : Env} {R : Room} {s : State} {m : MethodId} {args : Array Value} {below : List Frame} {meth : Method} {c : Code} {T : State} {locs : List Loc} {cells slots : Nat} {P : State → Outcome → Prop} {pc : Nat} {ls : Array Slot} {st : List Value} {Z : State} {h : Heap} {bytes : ByteArray} (pc' : Nat) (X : Stand p l e R s m args below meth c T locs cells slots) (hx : p.tables.exec = Jvm.exec) (hby : c.code = bytes) (hZ : Z.Warmed39 s.vm) (eT : T.heap = h) {a : Addr} {j : Int32} {n0 : Nat} (B : own_Bx Z a) (O : Old Z n0 h)
    (hd : decode bytes pc = .ok (.aaload, 1)) (hp : pc + 1 = pc') (hj : ¬ j < 0 ∧ j.toNatClampNeg < 256)
    (r : ∀ b, Exa Z Z.heap b "java/lang/Long" → Go p e below P (T.setTop (mkF m pc' ls (.ref b :: st)))) : Go p e below P (T.setTop (mkF m pc ls (.int j :: .ref a :: st))) := by
  subst hp
  obtain ⟨cl, A, hs, hv⟩ := B
  obtain ⟨b, h1, h2⟩ := hv _ hj.1 hj.2
  have A2 := A.ext O.2
  have hin : ¬ (j < 0 ∨ cl.slots.size ≤ j.toNatClampNeg) := fun q => q.elim hj.1 fun z => by rw [hs] at z; omega
  exact own_go (fun t q => X.aaload hx (j := j) (v := .ref b) (by rw [eT]; exact A2.1) (State.isArrayOf_alike hZ.alike A2.2.1) rfl A2.2.2 hin h1 (g := mkF m pc ls (.int j :: .ref a :: st)) rfl rfl (hb hby hd) t q) (r b h2)
theorem own_NSroot {Z : State} {a0 : Array Value} {O K : String} {n : Nat} (w : (Cond.noSuperclass O).before a0 Z = true) (wk : (Cond.instantiable K n).before a0 Z = true) (hn : O ≠ K) : NS Z O K := by
  obtain ⟨c, k, h1, h2, h3, -, -⟩ := Cond.noSuperclass_spec w
  obtain ⟨t, k', g1, g2, g3, g4, -⟩ := Cond.instantiable_spec wk
  have ne := ids_ne h1 g1 hn
  refine ⟨c, t, h1, g1, fun fuel => ?_⟩
  cases fuel with
  | zero => rfl
  | succ f => simp [Vm.isSubclassAux, ne, h2, h3]
theorem own_NSno {Z : State} {a0 : Array Value} {C S K : String} {i : Nat} (w : (Cond.superclass C S).before a0 Z = true) (wk : (Cond.instantiable K i).before a0 Z = true) (n : NS Z C K) (hn : C ≠ K) : ∃ c t, Z.vm.findClass C = some c ∧ Z.vm.findClass K = some t ∧ Z.vm.assignable c t = false := by
  obtain ⟨c, t, h0, g0, n3⟩ := n
  obtain ⟨p, k, kp, h1, h2, h3, h4, h5, -, h7⟩ := Cond.superclass_spec h0 w
  obtain ⟨t', k', g1, g2, g3, g4, -⟩ := Cond.instantiable_spec wk
  cases g0.symm.trans g1
  have ne := ids_ne h0 g0 hn
  have g5 : k'.isInterface = false := by simp only [Bool.or_eq_false_iff] at g4; exact g4.1
  refine ⟨c, t, h0, g0, ?_⟩
  show Z.vm.assignableAux (255 + 1) c t = false
  simp [Vm.assignableAux, ne, h2, g2, h5, g3, g5, Vm.isSubclass, n3]
def own_W (Z : State) (w_EXCLUSIVE w_SHARED w_cache : Addr) : Prop := Sta Z Z.heap "com/example/bare_turnstile/bareturnstile/EntryMode" "EXCLUSIVE" "Lcom/example/bare_turnstile/bareturnstile/EntryMode;" (.ref w_EXCLUSIVE) ∧ Exa Z Z.heap w_EXCLUSIVE "com/example/bare_turnstile/bareturnstile/EntryMode" ∧ Sta Z Z.heap "com/example/bare_turnstile/bareturnstile/EntryMode" "SHARED" "Lcom/example/bare_turnstile/bareturnstile/EntryMode;" (.ref w_SHARED) ∧ Exa Z Z.heap w_SHARED "com/example/bare_turnstile/bareturnstile/EntryMode" ∧ Fld Z Z.heap w_EXCLUSIVE "java/lang/Enum" "ordinal" "I" (.int (0 : Int32)) ∧ Fld Z Z.heap w_SHARED "java/lang/Enum" "ordinal" "I" (.int (1 : Int32)) ∧ Sta Z Z.heap "java/lang/Long$LongCache" "cache" "[Ljava/lang/Long;" (.ref w_cache) ∧ own_Bx Z w_cache
theorem own_wS {Z : State} {a0 : Array Value} (hw : ∀ d ∈ tables_1, d.before a0 Z = true) : ∀ a ∈ Bundle.stringAtoms, a.before a0 Z = true := by
  intro d hd
  simp only [Bundle.stringAtoms, List.mem_cons, List.not_mem_nil, or_false] at hd
  rcases hd with rfl | rfl | rfl | rfl | rfl | rfl | rfl
  · exact (own_w hw 30 rfl)
  · exact (own_w hw 31 rfl)
  · exact (own_w hw 32 rfl)
  · exact (own_w hw 33 rfl)
  · exact (own_w hw 34 rfl)
  · exact (own_w hw 35 rfl)
  · exact (own_w hw 36 rfl)
theorem d1_0 : decode method_2_code 0 = .ok (.lconst 1, 1) := by decide +kernel
theorem d1_1 : decode method_2_code 1 = .ok (.lload_n 0, 1) := by decide +kernel
theorem d1_2 : decode method_2_code 2 = .ok (.ldc2_w 9, 3) := by decide +kernel
theorem d1_5 : decode method_2_code 5 = .ok (.land, 1) := by decide +kernel
theorem d1_6 : decode method_2_code 6 = .ok (.invokestatic 11, 3) := by decide +kernel
theorem d2_0 : decode jdk_29_method_66_code 0 = .ok (.lload_n 0, 1) := by decide +kernel
theorem d2_1 : decode jdk_29_method_66_code 1 = .ok (.lload_n 2, 1) := by decide +kernel
theorem d2_2 : decode jdk_29_method_66_code 2 = .ok (.lcmp, 1) := by decide +kernel
theorem d2_3 : decode jdk_29_method_66_code 3 = .ok (.ifCond .lt 7, 3) := by decide +kernel
theorem d2_10 : decode jdk_29_method_66_code 10 = .ok (.lload_n 2, 1) := by decide +kernel
theorem d2_11 : decode jdk_29_method_66_code 11 = .ok (.lreturn, 1) := by decide +kernel
theorem ef_2 (m : MethodId) (q0 : Int64) (q1 : Int64) : entryFrame m #[(.long q0), (.long q1)] 4 = mkF m 0 #[oJ q0, oS, oJ q1, oS] [] := by first | (simp [entryFrame, mkF, argsToLocals, Value.category]; done) | rfl
theorem d2_6 : decode jdk_29_method_66_code 6 = .ok (.lload_n 0, 1) := by decide +kernel
theorem d2_7 : decode jdk_29_method_66_code 7 = .ok (.goto 4, 3) := by decide +kernel
theorem pd_0 : parseMethodDescriptor "(JJ)J" = some ⟨[.long, .long], some .long⟩ := by decide +kernel
theorem d1_9 : decode method_2_code 9 = .ok (.lreturn, 1) := by decide +kernel
theorem ef_1 (m : MethodId) (q0 : Int64) : entryFrame m #[(.long q0)] 2 = mkF m 0 #[oJ q0, oS] [] := by first | (simp [entryFrame, mkF, argsToLocals, Value.category]; done) | rfl
theorem pn_0 : plainName "com/example/bare_turnstile/bareturnstile/TicketEqualsPinLaw" = true := by first | (simp [plainName, overriddenIn]; done) | decide +kernel
theorem pd_1 : parseMethodDescriptor "(J)J" = some ⟨[.long], some .long⟩ := by decide +kernel
theorem d3_0 : decode method_3_code 0 = .ok (.iload_n 0, 1) := by decide +kernel
theorem d3_1 : decode method_3_code 1 = .ok (.ifCond .eq 7, 3) := by decide +kernel
theorem d3_8 : decode method_3_code 8 = .ok (.getstatic 23, 3) := by decide +kernel
theorem d3_11 : decode method_3_code 11 = .ok (.areturn, 1) := by decide +kernel
theorem ef_3 (m : MethodId) (x0 : Int32) : entryFrame m #[(.int x0)] 1 = mkF m 0 #[oI x0] [] := by first | (simp [entryFrame, mkF, argsToLocals, Value.category]; done) | rfl
theorem pd_2 : parseMethodDescriptor "(I)Lcom/example/bare_turnstile/bareturnstile/EntryMode;" = some ⟨[.int], some (.object "com/example/bare_turnstile/bareturnstile/EntryMode")⟩ := by decide +kernel
theorem d4_0 : decode prog_19_method_1_code 0 = .ok (.aload_n 0, 1) := by decide +kernel
theorem d4_1 : decode prog_19_method_1_code 1 = .ok (.invokespecial 1, 3) := by decide +kernel
theorem d4_4 : decode prog_19_method_1_code 4 = .ok (.lload_n 1, 1) := by decide +kernel
theorem d4_5 : decode prog_19_method_1_code 5 = .ok (.lconst 1, 1) := by decide +kernel
theorem d4_6 : decode prog_19_method_1_code 6 = .ok (.lcmp, 1) := by decide +kernel
theorem d4_7 : decode prog_19_method_1_code 7 = .ok (.ifCond .ge 17, 3) := by decide +kernel
theorem d4_10 : decode prog_19_method_1_code 10 = .ok (.new 7, 3) := by decide +kernel
theorem d4_24 : decode prog_19_method_1_code 24 = .ok (.iload_n 3, 1) := by decide +kernel
theorem d4_25 : decode prog_19_method_1_code 25 = .ok (.ifCond .ge 17, 3) := by decide +kernel
theorem d4_28 : decode prog_19_method_1_code 28 = .ok (.new 7, 3) := by decide +kernel
theorem d4_42 : decode prog_19_method_1_code 42 = .ok (.aload_n 0, 1) := by decide +kernel
theorem d4_43 : decode prog_19_method_1_code 43 = .ok (.lload_n 1, 1) := by decide +kernel
theorem d4_44 : decode prog_19_method_1_code 44 = .ok (.putfield 19, 3) := by decide +kernel
theorem d4_47 : decode prog_19_method_1_code 47 = .ok (.aload_n 0, 1) := by decide +kernel
theorem d4_48 : decode prog_19_method_1_code 48 = .ok (.iload_n 3, 1) := by decide +kernel
theorem d4_49 : decode prog_19_method_1_code 49 = .ok (.putfield 25, 3) := by decide +kernel
theorem d4_52 : decode prog_19_method_1_code 52 = .ok (.aload_n 0, 1) := by decide +kernel
theorem d4_53 : decode prog_19_method_1_code 53 = .ok (.aload 4, 2) := by decide +kernel
theorem d4_55 : decode prog_19_method_1_code 55 = .ok (.ldc 29, 2) := by decide +kernel
theorem d4_57 : decode prog_19_method_1_code 57 = .ok (.invokestatic 31, 3) := by decide +kernel
theorem d6_0 : decode jdk_31_method_11_code 0 = .ok (.aload_n 0, 1) := by decide +kernel
theorem d6_1 : decode jdk_31_method_11_code 1 = .ok (.ifnonnull 12, 3) := by decide +kernel
theorem d6_13 : decode jdk_31_method_11_code 13 = .ok (.aload_n 0, 1) := by decide +kernel
theorem d6_14 : decode jdk_31_method_11_code 14 = .ok (.areturn, 1) := by decide +kernel
theorem ef_6 (m : MethodId) (r0 : Addr) (r1 : Addr) : entryFrame m #[(.ref r0), (.ref r1)] 2 = mkF m 0 #[oA r0, oA r1] [] := by first | (simp [entryFrame, mkF, argsToLocals, Value.category]; done) | rfl
theorem pn_1 : plainName "java/util/Objects" = true := by first | (simp [plainName, overriddenIn]; done) | decide +kernel
theorem pd_3 : parseMethodDescriptor "(Ljava/lang/Object;Ljava/lang/String;)Ljava/lang/Object;" = some ⟨[(.object "java/lang/Object"), (.object "java/lang/String")], some (.object "java/lang/Object")⟩ := by decide +kernel
theorem d4_60 : decode prog_19_method_1_code 60 = .ok (.checkcast 37, 3) := by decide +kernel
theorem d4_63 : decode prog_19_method_1_code 63 = .ok (.putfield 39, 3) := by decide +kernel
theorem d4_66 : decode prog_19_method_1_code 66 = .ok (.return_, 1) := by decide +kernel
theorem ef_4 (m : MethodId) (r0 : Addr) (q1 : Int64) (x2 : Int32) (r3 : Addr) : entryFrame m #[(.ref r0), (.long q1), (.int x2), (.ref r3)] 5 = mkF m 0 #[oA r0, oJ q1, oS, oI x2, oA r3] [] := by first | (simp [entryFrame, mkF, argsToLocals, Value.category]; done) | rfl
theorem pn_2 : plainName "com/example/bare_turnstile/bareturnstile/Ticket" = true := by first | (simp [plainName, overriddenIn]; done) | decide +kernel
theorem pd_4 : parseMethodDescriptor "(JILcom/example/bare_turnstile/bareturnstile/EntryMode;)V" = some ⟨[.long, .int, (.object "com/example/bare_turnstile/bareturnstile/EntryMode")], none⟩ := by decide +kernel
theorem d7_0 : decode prog_19_method_8_code 0 = .ok (.aload_n 1, 1) := by decide +kernel
theorem d7_1 : decode prog_19_method_8_code 1 = .ok (.instanceof 20, 3) := by decide +kernel
theorem d7_4 : decode prog_19_method_8_code 4 = .ok (.ifCond .ne 5, 3) := by decide +kernel
theorem d7_9 : decode prog_19_method_8_code 9 = .ok (.aload_n 1, 1) := by decide +kernel
theorem d7_10 : decode prog_19_method_8_code 10 = .ok (.checkcast 20, 3) := by decide +kernel
theorem d7_13 : decode prog_19_method_8_code 13 = .ok (.astore_n 2, 1) := by decide +kernel
theorem d7_14 : decode prog_19_method_8_code 14 = .ok (.aload_n 0, 1) := by decide +kernel
theorem d7_15 : decode prog_19_method_8_code 15 = .ok (.getfield 19, 3) := by decide +kernel
theorem d7_18 : decode prog_19_method_8_code 18 = .ok (.aload_n 2, 1) := by decide +kernel
theorem d7_19 : decode prog_19_method_8_code 19 = .ok (.getfield 19, 3) := by decide +kernel
theorem d7_22 : decode prog_19_method_8_code 22 = .ok (.lcmp, 1) := by decide +kernel
theorem d7_23 : decode prog_19_method_8_code 23 = .ok (.ifCond .ne 29, 3) := by decide +kernel
theorem d7_26 : decode prog_19_method_8_code 26 = .ok (.aload_n 0, 1) := by decide +kernel
theorem d7_27 : decode prog_19_method_8_code 27 = .ok (.getfield 25, 3) := by decide +kernel
theorem d7_30 : decode prog_19_method_8_code 30 = .ok (.aload_n 2, 1) := by decide +kernel
theorem d7_31 : decode prog_19_method_8_code 31 = .ok (.getfield 25, 3) := by decide +kernel
theorem d7_34 : decode prog_19_method_8_code 34 = .ok (.if_icmp .ne 18, 3) := by decide +kernel
theorem d7_37 : decode prog_19_method_8_code 37 = .ok (.aload_n 0, 1) := by decide +kernel
theorem d7_38 : decode prog_19_method_8_code 38 = .ok (.getfield 39, 3) := by decide +kernel
theorem d7_41 : decode prog_19_method_8_code 41 = .ok (.aload_n 2, 1) := by decide +kernel
theorem d7_42 : decode prog_19_method_8_code 42 = .ok (.getfield 39, 3) := by decide +kernel
theorem d7_45 : decode prog_19_method_8_code 45 = .ok (.if_acmp .ne 7, 3) := by decide +kernel
theorem d7_48 : decode prog_19_method_8_code 48 = .ok (.iconst 1, 1) := by decide +kernel
theorem d7_49 : decode prog_19_method_8_code 49 = .ok (.goto 4, 3) := by decide +kernel
theorem d7_53 : decode prog_19_method_8_code 53 = .ok (.ireturn, 1) := by decide +kernel
theorem ef_7 (m : MethodId) (r0 : Addr) (r1 : Addr) : entryFrame m #[(.ref r0), (.ref r1)] 3 = mkF m 0 #[oA r0, oA r1, oU] [] := by first | (simp [entryFrame, mkF, argsToLocals, Value.category]; done) | rfl
theorem d7_52 : decode prog_19_method_8_code 52 = .ok (.iconst 0, 1) := by decide +kernel
theorem pd_5 : parseMethodDescriptor "(Ljava/lang/Object;)Z" = some ⟨[(.object "java/lang/Object")], some .boolean⟩ := by decide +kernel
theorem d7_7 : decode prog_19_method_8_code 7 = .ok (.iconst 0, 1) := by decide +kernel
theorem d7_8 : decode prog_19_method_8_code 8 = .ok (.ireturn, 1) := by decide +kernel
theorem ef_7n1 (m : MethodId) (r0 : Addr) : entryFrame m #[(.ref r0), .null] 3 = mkF m 0 #[oA r0, oN, oU] [] := by first | (simp [entryFrame, mkF, argsToLocals, Value.category]; done) | rfl
theorem d8_0 : decode jdk_35_method_24_code 0 = .ok (.sipush 128, 3) := by decide +kernel
theorem d8_3 : decode jdk_35_method_24_code 3 = .ok (.istore_n 2, 1) := by decide +kernel
theorem d8_4 : decode jdk_35_method_24_code 4 = .ok (.lload_n 0, 1) := by decide +kernel
theorem d8_5 : decode jdk_35_method_24_code 5 = .ok (.ldc2_w 230, 3) := by decide +kernel
theorem d8_8 : decode jdk_35_method_24_code 8 = .ok (.lcmp, 1) := by decide +kernel
theorem d8_9 : decode jdk_35_method_24_code 9 = .ok (.ifCond .lt 22, 3) := by decide +kernel
theorem d8_31 : decode jdk_35_method_24_code 31 = .ok (.new 1, 3) := by decide +kernel
theorem d8_34 : decode jdk_35_method_24_code 34 = .ok (.dup, 1) := by decide +kernel
theorem d8_35 : decode jdk_35_method_24_code 35 = .ok (.lload_n 0, 1) := by decide +kernel
theorem d8_36 : decode jdk_35_method_24_code 36 = .ok (.invokespecial 240, 3) := by decide +kernel
theorem d9_0 : decode jdk_35_method_26_code 0 = .ok (.aload_n 0, 1) := by decide +kernel
theorem d9_1 : decode jdk_35_method_26_code 1 = .ok (.invokespecial 270, 3) := by decide +kernel
theorem d10_0 : decode jdk_18_method_1_code 0 = .ok (.aload_n 0, 1) := by decide +kernel
theorem d10_1 : decode jdk_18_method_1_code 1 = .ok (.invokespecial 1, 3) := by decide +kernel
theorem d10_4 : decode jdk_18_method_1_code 4 = .ok (.return_, 1) := by decide +kernel
theorem ef_10 (m : MethodId) (r0 : Addr) : entryFrame m #[(.ref r0)] 1 = mkF m 0 #[oA r0] [] := by first | (simp [entryFrame, mkF, argsToLocals, Value.category]; done) | rfl
theorem pn_3 : plainName "java/lang/Number" = true := by first | (simp [plainName, overriddenIn]; done) | decide +kernel
theorem pd_6 : parseMethodDescriptor "()V" = some ⟨[], none⟩ := by decide +kernel
theorem d9_4 : decode jdk_35_method_26_code 4 = .ok (.aload_n 0, 1) := by decide +kernel
theorem d9_5 : decode jdk_35_method_26_code 5 = .ok (.lload_n 1, 1) := by decide +kernel
theorem d9_6 : decode jdk_35_method_26_code 6 = .ok (.putfield 273, 3) := by decide +kernel
theorem d9_9 : decode jdk_35_method_26_code 9 = .ok (.return_, 1) := by decide +kernel
theorem ef_9 (m : MethodId) (r0 : Addr) (q1 : Int64) : entryFrame m #[(.ref r0), (.long q1)] 3 = mkF m 0 #[oA r0, oJ q1, oS] [] := by first | (simp [entryFrame, mkF, argsToLocals, Value.category]; done) | rfl
theorem pn_4 : plainName "java/lang/Long" = true := by first | (simp [plainName, overriddenIn]; done) | decide +kernel
theorem pd_7 : parseMethodDescriptor "(J)V" = some ⟨[.long], none⟩ := by decide +kernel
theorem d8_39 : decode jdk_35_method_24_code 39 = .ok (.areturn, 1) := by decide +kernel
theorem ef_8 (m : MethodId) (q0 : Int64) : entryFrame m #[(.long q0)] 3 = mkF m 0 #[oJ q0, oS, oU] [] := by first | (simp [entryFrame, mkF, argsToLocals, Value.category]; done) | rfl
theorem d8_12 : decode jdk_35_method_24_code 12 = .ok (.lload_n 0, 1) := by decide +kernel
theorem d8_13 : decode jdk_35_method_24_code 13 = .ok (.ldc2_w 232, 3) := by decide +kernel
theorem d8_16 : decode jdk_35_method_24_code 16 = .ok (.lcmp, 1) := by decide +kernel
theorem d8_17 : decode jdk_35_method_24_code 17 = .ok (.ifCond .gt 14, 3) := by decide +kernel
theorem d8_20 : decode jdk_35_method_24_code 20 = .ok (.getstatic 234, 3) := by decide +kernel
theorem d8_23 : decode jdk_35_method_24_code 23 = .ok (.lload_n 0, 1) := by decide +kernel
theorem d8_24 : decode jdk_35_method_24_code 24 = .ok (.l2i, 1) := by decide +kernel
theorem d8_25 : decode jdk_35_method_24_code 25 = .ok (.sipush 128, 3) := by decide +kernel
theorem d8_28 : decode jdk_35_method_24_code 28 = .ok (.iadd, 1) := by decide +kernel
theorem d8_29 : decode jdk_35_method_24_code 29 = .ok (.aaload, 1) := by decide +kernel
theorem d8_30 : decode jdk_35_method_24_code 30 = .ok (.areturn, 1) := by decide +kernel
theorem pd_8 : parseMethodDescriptor "(J)Ljava/lang/Long;" = some ⟨[.long], some (.object "java/lang/Long")⟩ := by decide +kernel
theorem d3_4 : decode method_3_code 4 = .ok (.getstatic 17, 3) := by decide +kernel
theorem d3_7 : decode method_3_code 7 = .ok (.areturn, 1) := by decide +kernel
theorem ef_0 (m : MethodId) (q0 : Int64) (q1 : Int64) (x2 : Int32) (x3 : Int32) (x4 : Int32) : entryFrame m #[(.long q0), (.long q1), (.int x2), (.int x3), (.int x4)] maxLocals = mkF m 0 #[oJ q0, oS, oJ q1, oS, oI x2, oI x3, oI x4, oU, oU, oU, oU, oU, oU, oU, oU, oU, oU, oU, oU, oU, oU, oU, oU] [] := by first | (simp [entryFrame, mkF, argsToLocals, Value.category, maxLocals]; done) | rfl
set_option maxRecDepth 65536 in
set_option maxHeartbeats 40000000 in
theorem rm2_1 (l : Launch) (Z : State) (a0 : Array Value) (hw : ∀ d ∈ tables_1, d.before a0 Z = true) (ws : List Jvm.Cond) (w_EXCLUSIVE w_SHARED w_cache : Addr) (W : own_W Z w_EXCLUSIVE w_SHARED w_cache) (y0 : Int64) (h0 : Heap) (n0 : Nat) (O0 : Old Z n0 h0) (hc1 : (1 : Int64) < y0) :
    MetFree l (⟨"java/lang/Math", "max", "(JJ)J"⟩ : MethodName) (head1 (Jvm.Cond.code (⟨"java/lang/Math", "max", "(JJ)J"⟩ : MethodName) jdk_29_method_66_code 4 (some .long) :: ws) ({ frames := 0, cells := 0, slots := 0, locals := 0 } : Room)) (fun a U => a = #[(.long (1 : Int64)), (.long y0)] ∧ Z.Warmed39 U.vm ∧ U.heap = h0) (fun _ _ _ _ _ => True) (fun _ U o U' => ∃ v L, o = .returned v ∧ own_Q (some (.long y0)) n0 h0 v U'.heap L ∧ FrameEnd U o U' L ({ frames := 0, cells := 0, slots := 0, locals := 0 } : Room).cells ({ frames := 0, cells := 0, slots := 0, locals := 0 } : Room).slots) := by
  refine MetFree.of_bodySF (Jvm.Free.JP.mathPlain rfl (by decide +kernel)) hisR ?_
  intro p e s m args below meth c s₁ Bd hml0 hP hK
  obtain ⟨rfl, hZ, hh⟩ := hP
  have hx := Bd.exec
  have hby := Bd.bytes
  have hml : c.maxLocals = 4 := hml0
  have hlk := BodyLoose.notSynchronized Bd
  have hret := Bd.returns
  have hown : s.vm.findClass "java/lang/Math" = some m.cls := findClass_of_methodNamed Bd.named
  have hnm := (name_of_methodNamed Bd.named Bd.method).1
  have X0 : Stand p l e ({ frames := 0, cells := 0, slots := 0, locals := 0 } : Room) s m #[(.long (1 : Int64)), (.long y0)] below meth c s₁ [] 0 0 := Stand.of_body Bd
  have e0 : s₁.heap = h0 := by rw [← hh, Bd.state]; rfl
  have N0 := Fr.nil n0
  rw [ef_2 m (1 : Int64) y0]
  show Go p e below _ (s₁.setTop (mkF m 0 #[oJ (1 : Int64), oS, oJ y0, oS] []))
  refine own_lload_n 1 X0 hx hby d2_0 rfl rfl ?_
  refine own_lload_n 2 X0 hx hby d2_1 rfl rfl ?_
  refine own_lcmp 3 (XT.cmpL (1 : Int64) y0) X0 hx hby d2_2 rfl rfl ?_
  refine own_ifY 10 X0 hx hby d2_3 (by decide) (by decide) (own_tltL hc1).1 ?_
  refine own_lload_n 11 X0 hx hby d2_10 rfl rfl ?_
  exact own_ret (Q := own_Q (some (.long y0)) n0 h0) X0 hx hby hret hlk d2_11 rfl (Or.inr (Or.inl ⟨rfl, rfl, _, rfl⟩)) (by decide) (by decide) ⟨rfl, N0, e0⟩
set_option maxRecDepth 65536 in
set_option maxHeartbeats 40000000 in
theorem rm2_2 (l : Launch) (Z : State) (a0 : Array Value) (hw : ∀ d ∈ tables_1, d.before a0 Z = true) (ws : List Jvm.Cond) (w_EXCLUSIVE w_SHARED w_cache : Addr) (W : own_W Z w_EXCLUSIVE w_SHARED w_cache) (y0 : Int64) (h0 : Heap) (n0 : Nat) (O0 : Old Z n0 h0) (hc1 : ¬ ((1 : Int64) < y0)) :
    MetFree l (⟨"java/lang/Math", "max", "(JJ)J"⟩ : MethodName) (head1 (Jvm.Cond.code (⟨"java/lang/Math", "max", "(JJ)J"⟩ : MethodName) jdk_29_method_66_code 4 (some .long) :: ws) ({ frames := 0, cells := 0, slots := 0, locals := 0 } : Room)) (fun a U => a = #[(.long (1 : Int64)), (.long y0)] ∧ Z.Warmed39 U.vm ∧ U.heap = h0) (fun _ _ _ _ _ => True) (fun _ U o U' => ∃ v L, o = .returned v ∧ own_Q (some (.long (1 : Int64))) n0 h0 v U'.heap L ∧ FrameEnd U o U' L ({ frames := 0, cells := 0, slots := 0, locals := 0 } : Room).cells ({ frames := 0, cells := 0, slots := 0, locals := 0 } : Room).slots) := by
  refine MetFree.of_bodySF (Jvm.Free.JP.mathPlain rfl (by decide +kernel)) hisR ?_
  intro p e s m args below meth c s₁ Bd hml0 hP hK
  obtain ⟨rfl, hZ, hh⟩ := hP
  have hx := Bd.exec
  have hby := Bd.bytes
  have hml : c.maxLocals = 4 := hml0
  have hlk := BodyLoose.notSynchronized Bd
  have hret := Bd.returns
  have hown : s.vm.findClass "java/lang/Math" = some m.cls := findClass_of_methodNamed Bd.named
  have hnm := (name_of_methodNamed Bd.named Bd.method).1
  have X0 : Stand p l e ({ frames := 0, cells := 0, slots := 0, locals := 0 } : Room) s m #[(.long (1 : Int64)), (.long y0)] below meth c s₁ [] 0 0 := Stand.of_body Bd
  have e0 : s₁.heap = h0 := by rw [← hh, Bd.state]; rfl
  have N0 := Fr.nil n0
  rw [ef_2 m (1 : Int64) y0]
  show Go p e below _ (s₁.setTop (mkF m 0 #[oJ (1 : Int64), oS, oJ y0, oS] []))
  refine own_lload_n 1 X0 hx hby d2_0 rfl rfl ?_
  refine own_lload_n 2 X0 hx hby d2_1 rfl rfl ?_
  refine own_lcmp 3 (XT.cmpL (1 : Int64) y0) X0 hx hby d2_2 rfl rfl ?_
  refine own_ifN 6 X0 hx hby d2_3 rfl (own_fltL hc1).1 ?_
  refine own_lload_n 7 X0 hx hby d2_6 rfl rfl ?_
  refine own_goto 11 X0 hx hby d2_7 (by decide) (by decide) ?_
  exact own_ret (Q := own_Q (some (.long (1 : Int64))) n0 h0) X0 hx hby hret hlk d2_11 rfl (Or.inr (Or.inl ⟨rfl, rfl, _, rfl⟩)) (by decide) (by decide) ⟨rfl, N0, e0⟩
set_option maxRecDepth 65536 in
set_option maxHeartbeats 40000000 in
theorem rm1_3 (l : Launch) (Z : State) (a0 : Array Value) (hw : ∀ d ∈ tables_1, d.before a0 Z = true) (ws : List Jvm.Cond) (w_EXCLUSIVE w_SHARED w_cache : Addr) (W : own_W Z w_EXCLUSIVE w_SHARED w_cache) (y0 : Int64) (h0 : Heap) (n0 : Nat) (O0 : Old Z n0 h0) (hc2 : (1 : Int64) < (y0 &&& (9223372036854775807 : Int64))) :
    MetFree l (⟨"com/example/bare_turnstile/bareturnstile/TicketEqualsPinLaw", "num", "(J)J"⟩ : MethodName) (head1 (Jvm.Cond.code (⟨"com/example/bare_turnstile/bareturnstile/TicketEqualsPinLaw", "num", "(J)J"⟩ : MethodName) method_2_code 2 (some .long) :: ws) ({ frames := 1, cells := 0, slots := 0, locals := 15 } : Room)) (fun a U => a = #[(.long y0)] ∧ Z.Warmed39 U.vm ∧ U.heap = h0) (fun _ _ _ _ _ => True) (fun _ U o U' => ∃ v L, o = .returned v ∧ own_Q (some (.long (y0 &&& (9223372036854775807 : Int64)))) n0 h0 v U'.heap L ∧ FrameEnd U o U' L ({ frames := 1, cells := 0, slots := 0, locals := 15 } : Room).cells ({ frames := 1, cells := 0, slots := 0, locals := 15 } : Room).slots) := by
  refine MetFree.of_bodySF (plainFor_of_name pn_0) hisR ?_
  intro p e s m args below meth c s₁ Bd hml0 hP hK
  obtain ⟨rfl, hZ, hh⟩ := hP
  have hx := Bd.exec
  have hby := Bd.bytes
  have hml : c.maxLocals = 2 := hml0
  have hlk := BodyLoose.notSynchronized Bd
  have hret := Bd.returns
  have hown : s.vm.findClass "com/example/bare_turnstile/bareturnstile/TicketEqualsPinLaw" = some m.cls := findClass_of_methodNamed Bd.named
  have hnm := (name_of_methodNamed Bd.named Bd.method).1
  have X0 : Stand p l e ({ frames := 1, cells := 0, slots := 0, locals := 15 } : Room) s m #[(.long y0)] below meth c s₁ [] 0 0 := Stand.of_body Bd
  have e0 : s₁.heap = h0 := by rw [← hh, Bd.state]; rfl
  have N0 := Fr.nil n0
  rw [ef_1 m y0]
  show Go p e below _ (s₁.setTop (mkF m 0 #[oJ y0, oS] []))
  refine own_lconst 1 (1 : Int64) X0 hx hby d1_0 rfl (by decide) ?_
  refine own_lload_n 2 X0 hx hby d1_1 rfl rfl ?_
  refine own_ldc2 5 X0 hx hby hZ hown (own_w hw 4 rfl) d1_2 rfl ?_
  refine own_land 6 (y0 &&& (9223372036854775807 : Int64)) X0 hx hby d1_5 rfl rfl ?_
  refine own_callS (W := 0) 9 (rm2_1 l Z a0 hw [] w_EXCLUSIVE w_SHARED w_cache W (y0 &&& (9223372036854775807 : Int64)) h0 n0 O0 hc2) X0 hx hby hZ hown (own_w hw 5 rfl) (own_w hw 6 rfl) (own_w hw 7 rfl) (own_w hw 8 rfl) (by decide) (by rw [hml]; rfl) [(.long (1 : Int64)), (.long (y0 &&& (9223372036854775807 : Int64)))] [] pd_0 rfl d1_6 rfl e0 rfl rfl rfl (by decide) (by decide) (by decide) (by decide) ?_
  rintro _ T3 L3 X3 ⟨rfl, N3, e3⟩
  have N3 := Fr.app N0 N3
  show Go p e below _ (T3.setTop (mkF m 9 _ [(.long (y0 &&& (9223372036854775807 : Int64)))]))
  exact own_ret (Q := own_Q (some (.long (y0 &&& (9223372036854775807 : Int64)))) n0 h0) X3 hx hby hret hlk d1_9 rfl (Or.inr (Or.inl ⟨rfl, rfl, _, rfl⟩)) (by decide) (by decide) ⟨rfl, N3, e3⟩
set_option maxRecDepth 65536 in
set_option maxHeartbeats 40000000 in
theorem rm1_4 (l : Launch) (Z : State) (a0 : Array Value) (hw : ∀ d ∈ tables_1, d.before a0 Z = true) (ws : List Jvm.Cond) (w_EXCLUSIVE w_SHARED w_cache : Addr) (W : own_W Z w_EXCLUSIVE w_SHARED w_cache) (y0 : Int64) (h0 : Heap) (n0 : Nat) (O0 : Old Z n0 h0) (hc2 : ¬ ((1 : Int64) < (y0 &&& (9223372036854775807 : Int64)))) :
    MetFree l (⟨"com/example/bare_turnstile/bareturnstile/TicketEqualsPinLaw", "num", "(J)J"⟩ : MethodName) (head1 (Jvm.Cond.code (⟨"com/example/bare_turnstile/bareturnstile/TicketEqualsPinLaw", "num", "(J)J"⟩ : MethodName) method_2_code 2 (some .long) :: ws) ({ frames := 1, cells := 0, slots := 0, locals := 15 } : Room)) (fun a U => a = #[(.long y0)] ∧ Z.Warmed39 U.vm ∧ U.heap = h0) (fun _ _ _ _ _ => True) (fun _ U o U' => ∃ v L, o = .returned v ∧ own_Q (some (.long (1 : Int64))) n0 h0 v U'.heap L ∧ FrameEnd U o U' L ({ frames := 1, cells := 0, slots := 0, locals := 15 } : Room).cells ({ frames := 1, cells := 0, slots := 0, locals := 15 } : Room).slots) := by
  refine MetFree.of_bodySF (plainFor_of_name pn_0) hisR ?_
  intro p e s m args below meth c s₁ Bd hml0 hP hK
  obtain ⟨rfl, hZ, hh⟩ := hP
  have hx := Bd.exec
  have hby := Bd.bytes
  have hml : c.maxLocals = 2 := hml0
  have hlk := BodyLoose.notSynchronized Bd
  have hret := Bd.returns
  have hown : s.vm.findClass "com/example/bare_turnstile/bareturnstile/TicketEqualsPinLaw" = some m.cls := findClass_of_methodNamed Bd.named
  have hnm := (name_of_methodNamed Bd.named Bd.method).1
  have X0 : Stand p l e ({ frames := 1, cells := 0, slots := 0, locals := 15 } : Room) s m #[(.long y0)] below meth c s₁ [] 0 0 := Stand.of_body Bd
  have e0 : s₁.heap = h0 := by rw [← hh, Bd.state]; rfl
  have N0 := Fr.nil n0
  rw [ef_1 m y0]
  show Go p e below _ (s₁.setTop (mkF m 0 #[oJ y0, oS] []))
  refine own_lconst 1 (1 : Int64) X0 hx hby d1_0 rfl (by decide) ?_
  refine own_lload_n 2 X0 hx hby d1_1 rfl rfl ?_
  refine own_ldc2 5 X0 hx hby hZ hown (own_w hw 4 rfl) d1_2 rfl ?_
  refine own_land 6 (y0 &&& (9223372036854775807 : Int64)) X0 hx hby d1_5 rfl rfl ?_
  refine own_callS (W := 0) 9 (rm2_2 l Z a0 hw [] w_EXCLUSIVE w_SHARED w_cache W (y0 &&& (9223372036854775807 : Int64)) h0 n0 O0 hc2) X0 hx hby hZ hown (own_w hw 5 rfl) (own_w hw 6 rfl) (own_w hw 7 rfl) (own_w hw 8 rfl) (by decide) (by rw [hml]; rfl) [(.long (1 : Int64)), (.long (y0 &&& (9223372036854775807 : Int64)))] [] pd_0 rfl d1_6 rfl e0 rfl rfl rfl (by decide) (by decide) (by decide) (by decide) ?_
  rintro _ T4 L4 X4 ⟨rfl, N4, e4⟩
  have N4 := Fr.app N0 N4
  show Go p e below _ (T4.setTop (mkF m 9 _ [(.long (1 : Int64))]))
  exact own_ret (Q := own_Q (some (.long (1 : Int64))) n0 h0) X4 hx hby hret hlk d1_9 rfl (Or.inr (Or.inl ⟨rfl, rfl, _, rfl⟩)) (by decide) (by decide) ⟨rfl, N4, e4⟩
set_option maxRecDepth 65536 in
set_option maxHeartbeats 40000000 in
theorem rm3_5 (l : Launch) (Z : State) (a0 : Array Value) (hw : ∀ d ∈ tables_1, d.before a0 Z = true) (ws : List Jvm.Cond) (w_EXCLUSIVE w_SHARED w_cache : Addr) (W : own_W Z w_EXCLUSIVE w_SHARED w_cache)  (h0 : Heap) (n0 : Nat) (O0 : Old Z n0 h0)  :
    MetFree l (⟨"com/example/bare_turnstile/bareturnstile/TicketEqualsPinLaw", "mode", "(I)Lcom/example/bare_turnstile/bareturnstile/EntryMode;"⟩ : MethodName) (head1 (Jvm.Cond.code (⟨"com/example/bare_turnstile/bareturnstile/TicketEqualsPinLaw", "mode", "(I)Lcom/example/bare_turnstile/bareturnstile/EntryMode;"⟩ : MethodName) method_3_code 1 (some (.object "com/example/bare_turnstile/bareturnstile/EntryMode")) :: ws) ({ frames := 0, cells := 0, slots := 0, locals := 0 } : Room)) (fun a U => a = #[(.int (0 : Int32))] ∧ Z.Warmed39 U.vm ∧ U.heap = h0) (fun _ _ _ _ _ => True) (fun _ U o U' => ∃ v L, o = .returned v ∧ own_Q (some (.ref w_EXCLUSIVE)) n0 h0 v U'.heap L ∧ FrameEnd U o U' L ({ frames := 0, cells := 0, slots := 0, locals := 0 } : Room).cells ({ frames := 0, cells := 0, slots := 0, locals := 0 } : Room).slots) := by
  refine MetFree.of_bodySF (plainFor_of_name pn_0) hisR ?_
  intro p e s m args below meth c s₁ Bd hml0 hP hK
  obtain ⟨rfl, hZ, hh⟩ := hP
  have hx := Bd.exec
  have hby := Bd.bytes
  have hml : c.maxLocals = 1 := hml0
  have hlk := BodyLoose.notSynchronized Bd
  have hret := Bd.returns
  have hown : s.vm.findClass "com/example/bare_turnstile/bareturnstile/TicketEqualsPinLaw" = some m.cls := findClass_of_methodNamed Bd.named
  have hnm := (name_of_methodNamed Bd.named Bd.method).1
  have X0 : Stand p l e ({ frames := 0, cells := 0, slots := 0, locals := 0 } : Room) s m #[(.int (0 : Int32))] below meth c s₁ [] 0 0 := Stand.of_body Bd
  have e0 : s₁.heap = h0 := by rw [← hh, Bd.state]; rfl
  have N0 := Fr.nil n0
  rw [ef_3 m (0 : Int32)]
  show Go p e below _ (s₁.setTop (mkF m 0 #[oI (0 : Int32)] []))
  refine own_iload_n 1 X0 hx hby d3_0 rfl rfl ?_
  refine own_ifY 8 X0 hx hby d3_1 (by decide) (by decide) (by decide) ?_
  refine own_getS 11 X0 hx hby hZ hown (own_w hw 13 rfl) e0 (W.1.ext O0.2) d3_8 rfl ?_
  intro T16 X16 e16
  exact own_ret (Q := own_Q (some (.ref w_EXCLUSIVE)) n0 h0) X16 hx hby hret hlk d3_11 rfl (Or.inr (Or.inr (Or.inr (Or.inr ⟨rfl, rfl, rfl⟩)))) (by decide) (by decide) ⟨rfl, N0, e16⟩
set_option maxRecDepth 65536 in
set_option maxHeartbeats 40000000 in
theorem rm6_6 (l : Launch) (Z : State) (a0 : Array Value) (hw : ∀ d ∈ tables_1, d.before a0 Z = true) (ws : List Jvm.Cond) (w_EXCLUSIVE w_SHARED w_cache : Addr) (W : own_W Z w_EXCLUSIVE w_SHARED w_cache) (c0 : Addr) (z0 : Addr) (h0 : Heap) (n0 : Nat) (O0 : Old Z n0 h0) (EZ_c0 : Exa Z Z.heap c0 "com/example/bare_turnstile/bareturnstile/EntryMode") :
    MetFree l (⟨"java/util/Objects", "requireNonNull", "(Ljava/lang/Object;Ljava/lang/String;)Ljava/lang/Object;"⟩ : MethodName) (head1 (Jvm.Cond.code (⟨"java/util/Objects", "requireNonNull", "(Ljava/lang/Object;Ljava/lang/String;)Ljava/lang/Object;"⟩ : MethodName) jdk_31_method_11_code 2 (some (.object "java/lang/Object")) :: ws) ({ frames := 0, cells := 0, slots := 0, locals := 0 } : Room)) (fun a U => a = #[(.ref c0), (.ref z0)] ∧ Z.Warmed39 U.vm ∧ U.heap = h0) (fun _ _ _ _ _ => True) (fun _ U o U' => ∃ v L, o = .returned v ∧ own_Q (some (.ref c0)) n0 h0 v U'.heap L ∧ FrameEnd U o U' L ({ frames := 0, cells := 0, slots := 0, locals := 0 } : Room).cells ({ frames := 0, cells := 0, slots := 0, locals := 0 } : Room).slots) := by
  refine MetFree.of_bodySF (plainFor_of_name pn_1) hisR ?_
  intro p e s m args below meth c s₁ Bd hml0 hP hK
  obtain ⟨rfl, hZ, hh⟩ := hP
  have hx := Bd.exec
  have hby := Bd.bytes
  have hml : c.maxLocals = 2 := hml0
  have hlk := BodyLoose.notSynchronized Bd
  have hret := Bd.returns
  have hown : s.vm.findClass "java/util/Objects" = some m.cls := findClass_of_methodNamed Bd.named
  have hnm := (name_of_methodNamed Bd.named Bd.method).1
  have X0 : Stand p l e ({ frames := 0, cells := 0, slots := 0, locals := 0 } : Room) s m #[(.ref c0), (.ref z0)] below meth c s₁ [] 0 0 := Stand.of_body Bd
  have e0 : s₁.heap = h0 := by rw [← hh, Bd.state]; rfl
  have N0 := Fr.nil n0
  rw [ef_6 m c0 z0]
  show Go p e below _ (s₁.setTop (mkF m 0 #[oA c0, oA z0] []))
  refine own_aload_n 1 X0 hx hby d6_0 rfl rfl rfl ?_
  refine own_nnY 13 X0 hx hby d6_1 (by decide) (by decide) ?_
  refine own_aload_n 14 X0 hx hby d6_13 rfl rfl rfl ?_
  exact own_ret (Q := own_Q (some (.ref c0)) n0 h0) X0 hx hby hret hlk d6_14 rfl (Or.inr (Or.inr (Or.inr (Or.inr ⟨rfl, rfl, rfl⟩)))) (by decide) (by decide) ⟨rfl, N0, e0⟩
def Q_rm4_7 (Z : State) (w_EXCLUSIVE w_SHARED w_cache : Addr) (c0 : Addr) (c1 : Addr) (y0 : Int64) (x1 : Int32) (h0 : Heap) (n0 : Nat) (v : Option Value) (h : Heap) (L : List Loc) : Prop := v = none ∧ Fr n0 L ∧ Keep h0 h [c0] ∧ Exa Z h c0 "com/example/bare_turnstile/bareturnstile/Ticket" ∧ Fld Z h c0 "com/example/bare_turnstile/bareturnstile/Ticket" "mode" "Lcom/example/bare_turnstile/bareturnstile/EntryMode;" (.ref c1) ∧ Fld Z h c0 "com/example/bare_turnstile/bareturnstile/Ticket" "number" "J" (.long y0) ∧ Fld Z h c0 "com/example/bare_turnstile/bareturnstile/Ticket" "participant" "I" (.int x1)
set_option maxRecDepth 65536 in
set_option maxHeartbeats 40000000 in
theorem rm4_7 (l : Launch) (Z : State) (a0 : Array Value) (hw : ∀ d ∈ tables_1, d.before a0 Z = true) (ws : List Jvm.Cond) (w_EXCLUSIVE w_SHARED w_cache : Addr) (W : own_W Z w_EXCLUSIVE w_SHARED w_cache) (c0 : Addr) (c1 : Addr) (y0 : Int64) (x1 : Int32) (h0 : Heap) (n0 : Nat) (O0 : Old Z n0 h0) (E_c0 : Exa Z h0 c0 "com/example/bare_turnstile/bareturnstile/Ticket") (F_c0_mode : Fld Z h0 c0 "com/example/bare_turnstile/bareturnstile/Ticket" "mode" "Lcom/example/bare_turnstile/bareturnstile/EntryMode;" .null) (F_c0_number : Fld Z h0 c0 "com/example/bare_turnstile/bareturnstile/Ticket" "number" "J" (.long (0 : Int64))) (F_c0_participant : Fld Z h0 c0 "com/example/bare_turnstile/bareturnstile/Ticket" "participant" "I" (.int (0 : Int32))) (n_c0 : n0 ≤ c0) (EZ_c1 : Exa Z Z.heap c1 "com/example/bare_turnstile/bareturnstile/EntryMode") (hc23 : ¬ (y0 < (1 : Int64))) (hc25 : ¬ (x1 < (0 : Int32))) :
    MetFree l (⟨"com/example/bare_turnstile/bareturnstile/Ticket", "<init>", "(JILcom/example/bare_turnstile/bareturnstile/EntryMode;)V"⟩ : MethodName) (head1 (Jvm.Cond.code (⟨"com/example/bare_turnstile/bareturnstile/Ticket", "<init>", "(JILcom/example/bare_turnstile/bareturnstile/EntryMode;)V"⟩ : MethodName) prog_19_method_1_code 5 none :: ws) ({ frames := 1, cells := 2, slots := 20, locals := 14 } : Room)) (fun a U => a = #[(.ref c0), (.long y0), (.int x1), (.ref c1)] ∧ Z.Warmed39 U.vm ∧ U.heap = h0) (fun _ _ _ _ _ => True) (fun _ U o U' => ∃ v L, o = .returned v ∧ Q_rm4_7 Z w_EXCLUSIVE w_SHARED w_cache c0 c1 y0 x1 h0 n0 v U'.heap L ∧ ReturnedEndW U o U' L ({ frames := 1, cells := 2, slots := 20, locals := 14 } : Room).cells ({ frames := 1, cells := 2, slots := 20, locals := 14 } : Room).slots) := by
  refine MetFree.of_bodySF (plainFor_of_name pn_2) hisR ?_
  intro p e s m args below meth c s₁ Bd hml0 hP hK
  obtain ⟨rfl, hZ, hh⟩ := hP
  have hx := Bd.exec
  have hby := Bd.bytes
  have hml : c.maxLocals = 5 := hml0
  have hlk := BodyLoose.notSynchronized Bd
  have hret := Bd.returns
  have hown : s.vm.findClass "com/example/bare_turnstile/bareturnstile/Ticket" = some m.cls := findClass_of_methodNamed Bd.named
  have hnm := (name_of_methodNamed Bd.named Bd.method).1
  have X0 : Stand p l e ({ frames := 1, cells := 2, slots := 20, locals := 14 } : Room) (s.setVm s.vm) m #[(.ref c0), (.long y0), (.int x1), (.ref c1)] below meth c s₁ [] 0 0 := Stand.of_body Bd
  have e0 : s₁.heap = h0 := by rw [← hh, Bd.state]; rfl
  have N0 := Fr.nil n0
  have hZ : Z.Warmed39 (s.setVm s.vm).vm := hZ
  have hown : (s.setVm s.vm).vm.findClass "com/example/bare_turnstile/bareturnstile/Ticket" = some m.cls := hown
  rw [ef_4 m c0 y0 x1 c1]
  show Go p e below _ (s₁.setTop (mkF m 0 #[oA c0, oJ y0, oS, oI x1, oA c1] []))
  have hS := (State.WarmedH.refl s).since 0
  have hk : 0 ≤ h0.size := Nat.zero_le _
  refine own_aload_n 1 X0 hx hby d4_0 rfl rfl rfl ?_
  refine own_initO 4 0 X0 hx hby hZ hown (own_w hw 22 rfl) (own_w hw 23 rfl) (own_w hw 24 rfl) (by rw [hml]; rfl) d4_1 rfl e0 rfl (by decide) (by decide) ?_
  intro T22 X22 e22
  refine own_lload_n 5 X22 hx hby d4_4 rfl rfl ?_
  refine own_lconst 6 (1 : Int64) X22 hx hby d4_5 rfl (by decide) ?_
  refine own_lcmp 7 (XT.cmpL y0 (1 : Int64)) X22 hx hby d4_6 rfl rfl ?_
  refine own_ifY 24 X22 hx hby d4_7 (by decide) (by decide) (own_fltL hc23).2.1 ?_
  refine own_iload_n 25 X22 hx hby d4_24 rfl rfl ?_
  refine own_ifY 42 X22 hx hby d4_25 (by decide) (by decide) ((if0 _ _).trans (flt hc25).2.1) ?_
  refine own_aload_n 43 X22 hx hby d4_42 rfl rfl rfl ?_
  refine own_lload_n 44 X22 hx hby d4_43 rfl rfl ?_
  refine own_putF 47 X22 hx hby hZ .long hown (own_w hw 25 rfl) e22 F_c0_number E_c0 (Or.inr ⟨(own_w hw 26 rfl), rfl, hnm⟩) (own_w hw 17 rfl) (by decide) rfl rfl d4_44 rfl ?_
  intro T27 h27 X27 e27 W27
  have E_c0_27 := E_c0.wr W27
  have F_c0_mode_27 := F_c0_mode.other W27 (Or.inr (slot_ne (Or.inr (own_w hw 44 rfl)) (Or.inr (own_w hw 26 rfl)) (by decide) (t := (.object "com/example/bare_turnstile/bareturnstile/EntryMode")) (t' := .long) (by decide) (by decide)))
  have F_c0_number_27 := F_c0_number.same W27
  have F_c0_participant_27 := F_c0_participant.other W27 (Or.inr (slot_ne (Or.inr (own_w hw 28 rfl)) (Or.inr (own_w hw 26 rfl)) (by decide) (t := .int) (t' := .long) (by decide) (by decide)))
  have K27 : Keep h0 h27 [c0] := (Keep.refl h0 [c0]).wr W27 (Or.inl (List.mem_of_getElem? (i := 0) rfl))
  have O27 := O0.wr W27 n_c0
  have N27 := Fr.snoc X27 N0 n_c0
  have hk := Nat.le_trans hk (Keep.of_wr W27).1
  refine own_aload_n 48 X27 hx hby d4_47 rfl rfl rfl ?_
  refine own_iload_n 49 X27 hx hby d4_48 rfl rfl ?_
  refine own_putF 52 X27 hx hby hZ .int hown (own_w hw 27 rfl) e27 F_c0_participant_27 E_c0_27 (Or.inr ⟨(own_w hw 28 rfl), rfl, hnm⟩) (own_w hw 17 rfl) (by decide) rfl rfl d4_49 rfl ?_
  intro T28 h28 X28 e28 W28
  have E_c0_28 := E_c0_27.wr W28
  have F_c0_mode_28 := F_c0_mode_27.other W28 (Or.inr (slot_ne (Or.inr (own_w hw 44 rfl)) (Or.inr (own_w hw 28 rfl)) (by decide) (t := (.object "com/example/bare_turnstile/bareturnstile/EntryMode")) (t' := .int) (by decide) (by decide)))
  have F_c0_number_28 := F_c0_number_27.other W28 (Or.inr (slot_ne (Or.inr (own_w hw 26 rfl)) (Or.inr (own_w hw 28 rfl)) (by decide) (t := .long) (t' := .int) (by decide) (by decide)))
  have F_c0_participant_28 := F_c0_participant_27.same W28
  have K28 : Keep h0 h28 [c0] := K27.wr W28 (Or.inl (List.mem_of_getElem? (i := 0) rfl))
  have O28 := O27.wr W28 n_c0
  have N28 := Fr.snoc X28 N27 n_c0
  have hk := Nat.le_trans hk (Keep.of_wr W28).1
  refine own_aload_n 53 X28 hx hby d4_52 rfl rfl rfl ?_
  refine own_aload 55 X28 hx hby d4_53 rfl rfl rfl ?_
  refine own_ldcS 57 16 X28 hx hby hZ hown (own_w hw 29 rfl) (own_wS hw) e28 hS hk d4_55 rfl (by decide) (by decide) (by decide) (by decide) ?_
  intro b29 T29 h29 q29 X29 e29 E29 hS hk' hZ hown
  have E_c0_29 := E_c0_28.ext E29
  have F_c0_mode_29 := F_c0_mode_28.ext E29
  have F_c0_number_29 := F_c0_number_28.ext E29
  have F_c0_participant_29 := F_c0_participant_28.ext E29
  have K29 : Keep h0 h29 [c0] := K28.ext E29
  have O29 := O28.ext E29
  have hk := Nat.le_trans hk E29.1
  have hk := hk'
  refine own_callS (W := 1) 60 (rm6_6 l Z a0 hw [] w_EXCLUSIVE w_SHARED w_cache W c1 b29 h29 n0 O29 EZ_c1) X29 hx hby hZ hown (own_w hw 37 rfl) (own_w hw 38 rfl) (own_w hw 39 rfl) (own_w hw 40 rfl) (by decide) (by rw [hml]; rfl) [(.ref c1), (.ref b29)] [(.ref c0)] pd_3 rfl d4_57 rfl e29 rfl rfl rfl (by decide) (by decide) (by decide) (by decide) ?_
  rintro _ T30 L30 X30 ⟨rfl, N30, e30⟩
  have N30 := Fr.app N28 N30
  show Go p e below _ (T30.setTop (mkF m 60 _ [(.ref c1), (.ref c0)]))
  refine own_cast 63 X30 hx hby hZ hown (own_w hw 41 rfl) e30 (Ins.self (EZ_c1.ext O29.2)) d4_60 rfl ?_
  intro T31 X31 e31
  refine own_putF 66 X31 hx hby hZ (.object "com/example/bare_turnstile/bareturnstile/EntryMode") hown (own_w hw 43 rfl) e31 F_c0_mode_29 E_c0_29 (Or.inr ⟨(own_w hw 44 rfl), rfl, hnm⟩) (own_w hw 17 rfl) (by decide) rfl rfl d4_63 rfl ?_
  intro T32 h32 X32 e32 W32
  have E_c0_32 := E_c0_29.wr W32
  have F_c0_mode_32 := F_c0_mode_29.same W32
  have F_c0_number_32 := F_c0_number_29.other W32 (Or.inr (slot_ne (Or.inr (own_w hw 26 rfl)) (Or.inr (own_w hw 44 rfl)) (by decide) (t := .long) (t' := (.object "com/example/bare_turnstile/bareturnstile/EntryMode")) (by decide) (by decide)))
  have F_c0_participant_32 := F_c0_participant_29.other W32 (Or.inr (slot_ne (Or.inr (own_w hw 28 rfl)) (Or.inr (own_w hw 44 rfl)) (by decide) (t := .int) (t' := (.object "com/example/bare_turnstile/bareturnstile/EntryMode")) (by decide) (by decide)))
  have K32 : Keep h0 h32 [c0] := K29.wr W32 (Or.inl (List.mem_of_getElem? (i := 0) rfl))
  have O32 := O29.wr W32 n_c0
  have N32 := Fr.snoc X32 N30 n_c0
  have hk := Nat.le_trans hk (Keep.of_wr W32).1
  exact own_ret0W (Q := Q_rm4_7 Z w_EXCLUSIVE w_SHARED w_cache c0 c1 y0 x1 h0 n0) X32 hx hby hret hlk hS (by rw [e32]; exact hk) d4_66 (by decide) (by decide) (by rw [e32]; exact ⟨rfl, N32, K32, E_c0_32, F_c0_mode_32, F_c0_number_32, F_c0_participant_32⟩)
set_option maxRecDepth 65536 in
set_option maxHeartbeats 40000000 in
theorem rm7_8 (l : Launch) (Z : State) (a0 : Array Value) (hw : ∀ d ∈ tables_1, d.before a0 Z = true) (ws : List Jvm.Cond) (w_EXCLUSIVE w_SHARED w_cache : Addr) (W : own_W Z w_EXCLUSIVE w_SHARED w_cache) (c0 : Addr) (c1 : Addr) (c2 : Addr) (c3 : Addr) (y0 : Int64) (x1 : Int32) (y2 : Int64) (x3 : Int32) (h0 : Heap) (n0 : Nat) (O0 : Old Z n0 h0) (E_c0 : Exa Z h0 c0 "com/example/bare_turnstile/bareturnstile/Ticket") (F_c0_mode : Fld Z h0 c0 "com/example/bare_turnstile/bareturnstile/Ticket" "mode" "Lcom/example/bare_turnstile/bareturnstile/EntryMode;" (.ref c1)) (F_c0_number : Fld Z h0 c0 "com/example/bare_turnstile/bareturnstile/Ticket" "number" "J" (.long y0)) (F_c0_participant : Fld Z h0 c0 "com/example/bare_turnstile/bareturnstile/Ticket" "participant" "I" (.int x1)) (n_c0 : n0 ≤ c0) (EZ_c1 : Exa Z Z.heap c1 "com/example/bare_turnstile/bareturnstile/EntryMode") (E_c2 : Exa Z h0 c2 "com/example/bare_turnstile/bareturnstile/Ticket") (F_c2_mode : Fld Z h0 c2 "com/example/bare_turnstile/bareturnstile/Ticket" "mode" "Lcom/example/bare_turnstile/bareturnstile/EntryMode;" (.ref c3)) (F_c2_number : Fld Z h0 c2 "com/example/bare_turnstile/bareturnstile/Ticket" "number" "J" (.long y2)) (F_c2_participant : Fld Z h0 c2 "com/example/bare_turnstile/bareturnstile/Ticket" "participant" "I" (.int x3)) (n_c2 : n0 ≤ c2) (EZ_c3 : Exa Z Z.heap c3 "com/example/bare_turnstile/bareturnstile/EntryMode") (ne_c0_c2 : c0 ≠ c2) (hc42 : y0 = y2) (hc45 : x1 = x3) (hc48 : c1 = c3) :
    MetFree l (⟨"com/example/bare_turnstile/bareturnstile/Ticket", "equals", "(Ljava/lang/Object;)Z"⟩ : MethodName) (head1 (Jvm.Cond.code (⟨"com/example/bare_turnstile/bareturnstile/Ticket", "equals", "(Ljava/lang/Object;)Z"⟩ : MethodName) prog_19_method_8_code 3 (some .boolean) :: ws) ({ frames := 0, cells := 0, slots := 0, locals := 0 } : Room)) (fun a U => a = #[(.ref c0), (.ref c2)] ∧ Z.Warmed39 U.vm ∧ U.heap = h0) (fun _ _ _ _ _ => True) (fun _ U o U' => ∃ v L, o = .returned v ∧ own_Q (some (.int (1 : Int32))) n0 h0 v U'.heap L ∧ FrameEnd U o U' L ({ frames := 0, cells := 0, slots := 0, locals := 0 } : Room).cells ({ frames := 0, cells := 0, slots := 0, locals := 0 } : Room).slots) := by
  refine MetFree.of_bodySF (plainFor_of_name pn_2) hisR ?_
  intro p e s m args below meth c s₁ Bd hml0 hP hK
  obtain ⟨rfl, hZ, hh⟩ := hP
  have hx := Bd.exec
  have hby := Bd.bytes
  have hml : c.maxLocals = 3 := hml0
  have hlk := BodyLoose.notSynchronized Bd
  have hret := Bd.returns
  have hown : s.vm.findClass "com/example/bare_turnstile/bareturnstile/Ticket" = some m.cls := findClass_of_methodNamed Bd.named
  have hnm := (name_of_methodNamed Bd.named Bd.method).1
  have X0 : Stand p l e ({ frames := 0, cells := 0, slots := 0, locals := 0 } : Room) s m #[(.ref c0), (.ref c2)] below meth c s₁ [] 0 0 := Stand.of_body Bd
  have e0 : s₁.heap = h0 := by rw [← hh, Bd.state]; rfl
  have N0 := Fr.nil n0
  rw [ef_7 m c0 c2]
  show Go p e below _ (s₁.setTop (mkF m 0 #[oA c0, oA c2, oU] []))
  refine own_aload_n 1 X0 hx hby d7_0 rfl rfl rfl ?_
  refine own_instY 4 X0 hx hby hZ hown (own_w hw 50 rfl) e0 (Ins.self E_c2) d7_1 rfl ?_
  intro T38 X38 e38
  refine own_ifY 9 X38 hx hby d7_4 (by decide) (by decide) (by decide) ?_
  refine own_aload_n 10 X38 hx hby d7_9 rfl rfl rfl ?_
  refine own_cast 13 X38 hx hby hZ hown (own_w hw 50 rfl) e38 (Ins.self E_c2) d7_10 rfl ?_
  intro T39 X39 e39
  refine own_astore_n 14 #[oA c0, oA c2, oA c2] X39 hx hby d7_13 rfl rfl rfl ?_
  refine own_aload_n 15 X39 hx hby d7_14 rfl rfl rfl ?_
  refine own_getF 18 X39 hx hby hZ hown (own_w hw 25 rfl) e39 F_c0_number d7_15 rfl ?_
  intro T40 X40 e40
  refine own_aload_n 19 X40 hx hby d7_18 rfl rfl rfl ?_
  refine own_getF 22 X40 hx hby hZ hown (own_w hw 25 rfl) e40 F_c2_number d7_19 rfl ?_
  intro T41 X41 e41
  refine own_lcmp 23 (XT.cmpL y0 y2) X41 hx hby d7_22 rfl rfl ?_
  refine own_ifN 26 X41 hx hby d7_23 rfl (own_teqL hc42).2 ?_
  refine own_aload_n 27 X41 hx hby d7_26 rfl rfl rfl ?_
  refine own_getF 30 X41 hx hby hZ hown (own_w hw 27 rfl) e41 F_c0_participant d7_27 rfl ?_
  intro T43 X43 e43
  refine own_aload_n 31 X43 hx hby d7_30 rfl rfl rfl ?_
  refine own_getF 34 X43 hx hby hZ hown (own_w hw 27 rfl) e43 F_c2_participant d7_31 rfl ?_
  intro T44 X44 e44
  refine own_icN 37 X44 hx hby d7_34 rfl (teq hc45).2 ?_
  refine own_aload_n 38 X44 hx hby d7_37 rfl rfl rfl ?_
  refine own_getF 41 X44 hx hby hZ hown (own_w hw 43 rfl) e44 F_c0_mode d7_38 rfl ?_
  intro T46 X46 e46
  refine own_aload_n 42 X46 hx hby d7_41 rfl rfl rfl ?_
  refine own_getF 45 X46 hx hby hZ hown (own_w hw 43 rfl) e46 F_c2_mode d7_42 rfl ?_
  intro T47 X47 e47
  refine own_acmp 48 true X47 hx hby d7_45 rfl rfl (by decide) (by decide) (decide_eq_true (congrArg Value.ref hc48)) ?_
  refine own_iconst 49 (1 : Int32) X47 hx hby d7_48 rfl (by decide) ?_
  refine own_goto 53 X47 hx hby d7_49 (by decide) (by decide) ?_
  exact own_ret (Q := own_Q (some (.int (1 : Int32))) n0 h0) X47 hx hby hret hlk d7_53 rfl (Or.inl ⟨rfl, by simp, _, rfl⟩) (by decide) (by decide) ⟨rfl, N0, e47⟩
set_option maxRecDepth 65536 in
set_option maxHeartbeats 40000000 in
theorem rm7_9 (l : Launch) (Z : State) (a0 : Array Value) (hw : ∀ d ∈ tables_1, d.before a0 Z = true) (ws : List Jvm.Cond) (w_EXCLUSIVE w_SHARED w_cache : Addr) (W : own_W Z w_EXCLUSIVE w_SHARED w_cache) (c0 : Addr) (c1 : Addr) (c2 : Addr) (c3 : Addr) (y0 : Int64) (x1 : Int32) (y2 : Int64) (x3 : Int32) (h0 : Heap) (n0 : Nat) (O0 : Old Z n0 h0) (E_c0 : Exa Z h0 c0 "com/example/bare_turnstile/bareturnstile/Ticket") (F_c0_mode : Fld Z h0 c0 "com/example/bare_turnstile/bareturnstile/Ticket" "mode" "Lcom/example/bare_turnstile/bareturnstile/EntryMode;" (.ref c1)) (F_c0_number : Fld Z h0 c0 "com/example/bare_turnstile/bareturnstile/Ticket" "number" "J" (.long y0)) (F_c0_participant : Fld Z h0 c0 "com/example/bare_turnstile/bareturnstile/Ticket" "participant" "I" (.int x1)) (n_c0 : n0 ≤ c0) (EZ_c1 : Exa Z Z.heap c1 "com/example/bare_turnstile/bareturnstile/EntryMode") (E_c2 : Exa Z h0 c2 "com/example/bare_turnstile/bareturnstile/Ticket") (F_c2_mode : Fld Z h0 c2 "com/example/bare_turnstile/bareturnstile/Ticket" "mode" "Lcom/example/bare_turnstile/bareturnstile/EntryMode;" (.ref c3)) (F_c2_number : Fld Z h0 c2 "com/example/bare_turnstile/bareturnstile/Ticket" "number" "J" (.long y2)) (F_c2_participant : Fld Z h0 c2 "com/example/bare_turnstile/bareturnstile/Ticket" "participant" "I" (.int x3)) (n_c2 : n0 ≤ c2) (EZ_c3 : Exa Z Z.heap c3 "com/example/bare_turnstile/bareturnstile/EntryMode") (ne_c0_c2 : c0 ≠ c2) (hc42 : y0 = y2) (hc45 : x1 = x3) (hc48 : ¬ (c1 = c3)) :
    MetFree l (⟨"com/example/bare_turnstile/bareturnstile/Ticket", "equals", "(Ljava/lang/Object;)Z"⟩ : MethodName) (head1 (Jvm.Cond.code (⟨"com/example/bare_turnstile/bareturnstile/Ticket", "equals", "(Ljava/lang/Object;)Z"⟩ : MethodName) prog_19_method_8_code 3 (some .boolean) :: ws) ({ frames := 0, cells := 0, slots := 0, locals := 0 } : Room)) (fun a U => a = #[(.ref c0), (.ref c2)] ∧ Z.Warmed39 U.vm ∧ U.heap = h0) (fun _ _ _ _ _ => True) (fun _ U o U' => ∃ v L, o = .returned v ∧ own_Q (some (.int (0 : Int32))) n0 h0 v U'.heap L ∧ FrameEnd U o U' L ({ frames := 0, cells := 0, slots := 0, locals := 0 } : Room).cells ({ frames := 0, cells := 0, slots := 0, locals := 0 } : Room).slots) := by
  refine MetFree.of_bodySF (plainFor_of_name pn_2) hisR ?_
  intro p e s m args below meth c s₁ Bd hml0 hP hK
  obtain ⟨rfl, hZ, hh⟩ := hP
  have hx := Bd.exec
  have hby := Bd.bytes
  have hml : c.maxLocals = 3 := hml0
  have hlk := BodyLoose.notSynchronized Bd
  have hret := Bd.returns
  have hown : s.vm.findClass "com/example/bare_turnstile/bareturnstile/Ticket" = some m.cls := findClass_of_methodNamed Bd.named
  have hnm := (name_of_methodNamed Bd.named Bd.method).1
  have X0 : Stand p l e ({ frames := 0, cells := 0, slots := 0, locals := 0 } : Room) s m #[(.ref c0), (.ref c2)] below meth c s₁ [] 0 0 := Stand.of_body Bd
  have e0 : s₁.heap = h0 := by rw [← hh, Bd.state]; rfl
  have N0 := Fr.nil n0
  rw [ef_7 m c0 c2]
  show Go p e below _ (s₁.setTop (mkF m 0 #[oA c0, oA c2, oU] []))
  refine own_aload_n 1 X0 hx hby d7_0 rfl rfl rfl ?_
  refine own_instY 4 X0 hx hby hZ hown (own_w hw 50 rfl) e0 (Ins.self E_c2) d7_1 rfl ?_
  intro T38 X38 e38
  refine own_ifY 9 X38 hx hby d7_4 (by decide) (by decide) (by decide) ?_
  refine own_aload_n 10 X38 hx hby d7_9 rfl rfl rfl ?_
  refine own_cast 13 X38 hx hby hZ hown (own_w hw 50 rfl) e38 (Ins.self E_c2) d7_10 rfl ?_
  intro T39 X39 e39
  refine own_astore_n 14 #[oA c0, oA c2, oA c2] X39 hx hby d7_13 rfl rfl rfl ?_
  refine own_aload_n 15 X39 hx hby d7_14 rfl rfl rfl ?_
  refine own_getF 18 X39 hx hby hZ hown (own_w hw 25 rfl) e39 F_c0_number d7_15 rfl ?_
  intro T40 X40 e40
  refine own_aload_n 19 X40 hx hby d7_18 rfl rfl rfl ?_
  refine own_getF 22 X40 hx hby hZ hown (own_w hw 25 rfl) e40 F_c2_number d7_19 rfl ?_
  intro T41 X41 e41
  refine own_lcmp 23 (XT.cmpL y0 y2) X41 hx hby d7_22 rfl rfl ?_
  refine own_ifN 26 X41 hx hby d7_23 rfl (own_teqL hc42).2 ?_
  refine own_aload_n 27 X41 hx hby d7_26 rfl rfl rfl ?_
  refine own_getF 30 X41 hx hby hZ hown (own_w hw 27 rfl) e41 F_c0_participant d7_27 rfl ?_
  intro T43 X43 e43
  refine own_aload_n 31 X43 hx hby d7_30 rfl rfl rfl ?_
  refine own_getF 34 X43 hx hby hZ hown (own_w hw 27 rfl) e43 F_c2_participant d7_31 rfl ?_
  intro T44 X44 e44
  refine own_icN 37 X44 hx hby d7_34 rfl (teq hc45).2 ?_
  refine own_aload_n 38 X44 hx hby d7_37 rfl rfl rfl ?_
  refine own_getF 41 X44 hx hby hZ hown (own_w hw 43 rfl) e44 F_c0_mode d7_38 rfl ?_
  intro T46 X46 e46
  refine own_aload_n 42 X46 hx hby d7_41 rfl rfl rfl ?_
  refine own_getF 45 X46 hx hby hZ hown (own_w hw 43 rfl) e46 F_c2_mode d7_42 rfl ?_
  intro T47 X47 e47
  refine own_acmp 52 false X47 hx hby d7_45 rfl rfl (by decide) (by decide) (decide_eq_false fun q => hc48 (Value.ref.inj q)) ?_
  refine own_iconst 53 (0 : Int32) X47 hx hby d7_52 rfl (by decide) ?_
  exact own_ret (Q := own_Q (some (.int (0 : Int32))) n0 h0) X47 hx hby hret hlk d7_53 rfl (Or.inl ⟨rfl, by simp, _, rfl⟩) (by decide) (by decide) ⟨rfl, N0, e47⟩
set_option maxRecDepth 65536 in
set_option maxHeartbeats 40000000 in
theorem rm7_10 (l : Launch) (Z : State) (a0 : Array Value) (hw : ∀ d ∈ tables_1, d.before a0 Z = true) (ws : List Jvm.Cond) (w_EXCLUSIVE w_SHARED w_cache : Addr) (W : own_W Z w_EXCLUSIVE w_SHARED w_cache) (c0 : Addr) (c1 : Addr) (c2 : Addr) (c3 : Addr) (y0 : Int64) (x1 : Int32) (y2 : Int64) (x3 : Int32) (h0 : Heap) (n0 : Nat) (O0 : Old Z n0 h0) (E_c0 : Exa Z h0 c0 "com/example/bare_turnstile/bareturnstile/Ticket") (F_c0_mode : Fld Z h0 c0 "com/example/bare_turnstile/bareturnstile/Ticket" "mode" "Lcom/example/bare_turnstile/bareturnstile/EntryMode;" (.ref c1)) (F_c0_number : Fld Z h0 c0 "com/example/bare_turnstile/bareturnstile/Ticket" "number" "J" (.long y0)) (F_c0_participant : Fld Z h0 c0 "com/example/bare_turnstile/bareturnstile/Ticket" "participant" "I" (.int x1)) (n_c0 : n0 ≤ c0) (EZ_c1 : Exa Z Z.heap c1 "com/example/bare_turnstile/bareturnstile/EntryMode") (E_c2 : Exa Z h0 c2 "com/example/bare_turnstile/bareturnstile/Ticket") (F_c2_mode : Fld Z h0 c2 "com/example/bare_turnstile/bareturnstile/Ticket" "mode" "Lcom/example/bare_turnstile/bareturnstile/EntryMode;" (.ref c3)) (F_c2_number : Fld Z h0 c2 "com/example/bare_turnstile/bareturnstile/Ticket" "number" "J" (.long y2)) (F_c2_participant : Fld Z h0 c2 "com/example/bare_turnstile/bareturnstile/Ticket" "participant" "I" (.int x3)) (n_c2 : n0 ≤ c2) (EZ_c3 : Exa Z Z.heap c3 "com/example/bare_turnstile/bareturnstile/EntryMode") (ne_c0_c2 : c0 ≠ c2) (hc42 : y0 = y2) (hc45 : ¬ (x1 = x3)) :
    MetFree l (⟨"com/example/bare_turnstile/bareturnstile/Ticket", "equals", "(Ljava/lang/Object;)Z"⟩ : MethodName) (head1 (Jvm.Cond.code (⟨"com/example/bare_turnstile/bareturnstile/Ticket", "equals", "(Ljava/lang/Object;)Z"⟩ : MethodName) prog_19_method_8_code 3 (some .boolean) :: ws) ({ frames := 0, cells := 0, slots := 0, locals := 0 } : Room)) (fun a U => a = #[(.ref c0), (.ref c2)] ∧ Z.Warmed39 U.vm ∧ U.heap = h0) (fun _ _ _ _ _ => True) (fun _ U o U' => ∃ v L, o = .returned v ∧ own_Q (some (.int (0 : Int32))) n0 h0 v U'.heap L ∧ FrameEnd U o U' L ({ frames := 0, cells := 0, slots := 0, locals := 0 } : Room).cells ({ frames := 0, cells := 0, slots := 0, locals := 0 } : Room).slots) := by
  refine MetFree.of_bodySF (plainFor_of_name pn_2) hisR ?_
  intro p e s m args below meth c s₁ Bd hml0 hP hK
  obtain ⟨rfl, hZ, hh⟩ := hP
  have hx := Bd.exec
  have hby := Bd.bytes
  have hml : c.maxLocals = 3 := hml0
  have hlk := BodyLoose.notSynchronized Bd
  have hret := Bd.returns
  have hown : s.vm.findClass "com/example/bare_turnstile/bareturnstile/Ticket" = some m.cls := findClass_of_methodNamed Bd.named
  have hnm := (name_of_methodNamed Bd.named Bd.method).1
  have X0 : Stand p l e ({ frames := 0, cells := 0, slots := 0, locals := 0 } : Room) s m #[(.ref c0), (.ref c2)] below meth c s₁ [] 0 0 := Stand.of_body Bd
  have e0 : s₁.heap = h0 := by rw [← hh, Bd.state]; rfl
  have N0 := Fr.nil n0
  rw [ef_7 m c0 c2]
  show Go p e below _ (s₁.setTop (mkF m 0 #[oA c0, oA c2, oU] []))
  refine own_aload_n 1 X0 hx hby d7_0 rfl rfl rfl ?_
  refine own_instY 4 X0 hx hby hZ hown (own_w hw 50 rfl) e0 (Ins.self E_c2) d7_1 rfl ?_
  intro T38 X38 e38
  refine own_ifY 9 X38 hx hby d7_4 (by decide) (by decide) (by decide) ?_
  refine own_aload_n 10 X38 hx hby d7_9 rfl rfl rfl ?_
  refine own_cast 13 X38 hx hby hZ hown (own_w hw 50 rfl) e38 (Ins.self E_c2) d7_10 rfl ?_
  intro T39 X39 e39
  refine own_astore_n 14 #[oA c0, oA c2, oA c2] X39 hx hby d7_13 rfl rfl rfl ?_
  refine own_aload_n 15 X39 hx hby d7_14 rfl rfl rfl ?_
  refine own_getF 18 X39 hx hby hZ hown (own_w hw 25 rfl) e39 F_c0_number d7_15 rfl ?_
  intro T40 X40 e40
  refine own_aload_n 19 X40 hx hby d7_18 rfl rfl rfl ?_
  refine own_getF 22 X40 hx hby hZ hown (own_w hw 25 rfl) e40 F_c2_number d7_19 rfl ?_
  intro T41 X41 e41
  refine own_lcmp 23 (XT.cmpL y0 y2) X41 hx hby d7_22 rfl rfl ?_
  refine own_ifN 26 X41 hx hby d7_23 rfl (own_teqL hc42).2 ?_
  refine own_aload_n 27 X41 hx hby d7_26 rfl rfl rfl ?_
  refine own_getF 30 X41 hx hby hZ hown (own_w hw 27 rfl) e41 F_c0_participant d7_27 rfl ?_
  intro T43 X43 e43
  refine own_aload_n 31 X43 hx hby d7_30 rfl rfl rfl ?_
  refine own_getF 34 X43 hx hby hZ hown (own_w hw 27 rfl) e43 F_c2_participant d7_31 rfl ?_
  intro T44 X44 e44
  refine own_icY 52 X44 hx hby d7_34 (by decide) (by decide) (feq hc45).2 ?_
  refine own_iconst 53 (0 : Int32) X44 hx hby d7_52 rfl (by decide) ?_
  exact own_ret (Q := own_Q (some (.int (0 : Int32))) n0 h0) X44 hx hby hret hlk d7_53 rfl (Or.inl ⟨rfl, by simp, _, rfl⟩) (by decide) (by decide) ⟨rfl, N0, e44⟩
set_option maxRecDepth 65536 in
set_option maxHeartbeats 40000000 in
theorem rm7_11 (l : Launch) (Z : State) (a0 : Array Value) (hw : ∀ d ∈ tables_1, d.before a0 Z = true) (ws : List Jvm.Cond) (w_EXCLUSIVE w_SHARED w_cache : Addr) (W : own_W Z w_EXCLUSIVE w_SHARED w_cache) (c0 : Addr) (c1 : Addr) (c2 : Addr) (c3 : Addr) (y0 : Int64) (x1 : Int32) (y2 : Int64) (x3 : Int32) (h0 : Heap) (n0 : Nat) (O0 : Old Z n0 h0) (E_c0 : Exa Z h0 c0 "com/example/bare_turnstile/bareturnstile/Ticket") (F_c0_mode : Fld Z h0 c0 "com/example/bare_turnstile/bareturnstile/Ticket" "mode" "Lcom/example/bare_turnstile/bareturnstile/EntryMode;" (.ref c1)) (F_c0_number : Fld Z h0 c0 "com/example/bare_turnstile/bareturnstile/Ticket" "number" "J" (.long y0)) (F_c0_participant : Fld Z h0 c0 "com/example/bare_turnstile/bareturnstile/Ticket" "participant" "I" (.int x1)) (n_c0 : n0 ≤ c0) (EZ_c1 : Exa Z Z.heap c1 "com/example/bare_turnstile/bareturnstile/EntryMode") (E_c2 : Exa Z h0 c2 "com/example/bare_turnstile/bareturnstile/Ticket") (F_c2_mode : Fld Z h0 c2 "com/example/bare_turnstile/bareturnstile/Ticket" "mode" "Lcom/example/bare_turnstile/bareturnstile/EntryMode;" (.ref c3)) (F_c2_number : Fld Z h0 c2 "com/example/bare_turnstile/bareturnstile/Ticket" "number" "J" (.long y2)) (F_c2_participant : Fld Z h0 c2 "com/example/bare_turnstile/bareturnstile/Ticket" "participant" "I" (.int x3)) (n_c2 : n0 ≤ c2) (EZ_c3 : Exa Z Z.heap c3 "com/example/bare_turnstile/bareturnstile/EntryMode") (ne_c0_c2 : c0 ≠ c2) (hc42 : ¬ (y0 = y2)) :
    MetFree l (⟨"com/example/bare_turnstile/bareturnstile/Ticket", "equals", "(Ljava/lang/Object;)Z"⟩ : MethodName) (head1 (Jvm.Cond.code (⟨"com/example/bare_turnstile/bareturnstile/Ticket", "equals", "(Ljava/lang/Object;)Z"⟩ : MethodName) prog_19_method_8_code 3 (some .boolean) :: ws) ({ frames := 0, cells := 0, slots := 0, locals := 0 } : Room)) (fun a U => a = #[(.ref c0), (.ref c2)] ∧ Z.Warmed39 U.vm ∧ U.heap = h0) (fun _ _ _ _ _ => True) (fun _ U o U' => ∃ v L, o = .returned v ∧ own_Q (some (.int (0 : Int32))) n0 h0 v U'.heap L ∧ FrameEnd U o U' L ({ frames := 0, cells := 0, slots := 0, locals := 0 } : Room).cells ({ frames := 0, cells := 0, slots := 0, locals := 0 } : Room).slots) := by
  refine MetFree.of_bodySF (plainFor_of_name pn_2) hisR ?_
  intro p e s m args below meth c s₁ Bd hml0 hP hK
  obtain ⟨rfl, hZ, hh⟩ := hP
  have hx := Bd.exec
  have hby := Bd.bytes
  have hml : c.maxLocals = 3 := hml0
  have hlk := BodyLoose.notSynchronized Bd
  have hret := Bd.returns
  have hown : s.vm.findClass "com/example/bare_turnstile/bareturnstile/Ticket" = some m.cls := findClass_of_methodNamed Bd.named
  have hnm := (name_of_methodNamed Bd.named Bd.method).1
  have X0 : Stand p l e ({ frames := 0, cells := 0, slots := 0, locals := 0 } : Room) s m #[(.ref c0), (.ref c2)] below meth c s₁ [] 0 0 := Stand.of_body Bd
  have e0 : s₁.heap = h0 := by rw [← hh, Bd.state]; rfl
  have N0 := Fr.nil n0
  rw [ef_7 m c0 c2]
  show Go p e below _ (s₁.setTop (mkF m 0 #[oA c0, oA c2, oU] []))
  refine own_aload_n 1 X0 hx hby d7_0 rfl rfl rfl ?_
  refine own_instY 4 X0 hx hby hZ hown (own_w hw 50 rfl) e0 (Ins.self E_c2) d7_1 rfl ?_
  intro T38 X38 e38
  refine own_ifY 9 X38 hx hby d7_4 (by decide) (by decide) (by decide) ?_
  refine own_aload_n 10 X38 hx hby d7_9 rfl rfl rfl ?_
  refine own_cast 13 X38 hx hby hZ hown (own_w hw 50 rfl) e38 (Ins.self E_c2) d7_10 rfl ?_
  intro T39 X39 e39
  refine own_astore_n 14 #[oA c0, oA c2, oA c2] X39 hx hby d7_13 rfl rfl rfl ?_
  refine own_aload_n 15 X39 hx hby d7_14 rfl rfl rfl ?_
  refine own_getF 18 X39 hx hby hZ hown (own_w hw 25 rfl) e39 F_c0_number d7_15 rfl ?_
  intro T40 X40 e40
  refine own_aload_n 19 X40 hx hby d7_18 rfl rfl rfl ?_
  refine own_getF 22 X40 hx hby hZ hown (own_w hw 25 rfl) e40 F_c2_number d7_19 rfl ?_
  intro T41 X41 e41
  refine own_lcmp 23 (XT.cmpL y0 y2) X41 hx hby d7_22 rfl rfl ?_
  refine own_ifY 52 X41 hx hby d7_23 (by decide) (by decide) (own_feqL hc42).2 ?_
  refine own_iconst 53 (0 : Int32) X41 hx hby d7_52 rfl (by decide) ?_
  exact own_ret (Q := own_Q (some (.int (0 : Int32))) n0 h0) X41 hx hby hret hlk d7_53 rfl (Or.inl ⟨rfl, by simp, _, rfl⟩) (by decide) (by decide) ⟨rfl, N0, e41⟩
set_option maxRecDepth 65536 in
set_option maxHeartbeats 40000000 in
theorem cut_88_2 (l : Launch) (Z : State) (a0 : Array Value) (hw : ∀ d ∈ tables_1, d.before a0 Z = true) (w_EXCLUSIVE w_SHARED w_cache : Addr) (W : own_W Z w_EXCLUSIVE w_SHARED w_cache) (y0 : Int64) (y2 : Int64) (x4 : Int32) (x5 : Int32) (x6 : Int32) (y7 : Int64) (y9 : Int64) (x11 : Int32) (x12 : Int32) (x13 : Int32) (x14 : Int32) (m15 : Addr) (m16 : Addr) (h0 : Heap) (n0 : Nat) (O0 : Old Z n0 h0) (EZ_m15 : Exa Z Z.heap m15 "com/example/bare_turnstile/bareturnstile/EntryMode") (EZ_m16 : Exa Z Z.heap m16 "com/example/bare_turnstile/bareturnstile/EntryMode") (hq0 : ¬ (y7 < (1 : Int64))) (hq1 : ¬ (y9 < (1 : Int64))) (hq2 : ¬ (x11 < (0 : Int32))) (hq3 : ¬ (x12 < (0 : Int32))) (hq4 : x13 = x14) (hq5 : m15 = m16) {p : Program} {e : Env} {s : State} {m : MethodId} {args : Array Value} {below : List Frame} {meth : Method} {c : Code} {T : State} {vm0 : Vm} {locs : List Loc} {k0 : Nat}
    (X0 : Stand p l e room_1 (s.setVm vm0) m args below meth c T locs 0 0) (hx : p.tables.exec = Jvm.exec) (hby : c.code = code) (hml : c.maxLocals = 23) (hret : meth.sig.returnType = some .boolean) (hlk : meth.locks = false) (hZ : Z.Warmed39 (s.setVm vm0).vm) (hown : (s.setVm vm0).vm.findClass "com/example/bare_turnstile/bareturnstile/TicketEqualsPinLaw" = some m.cls) (e0 : T.heap = h0) (N0 : Fr n0 locs) (hS : s.Since vm0 k0) (hk : k0 ≤ h0.size) :
    Go p e below (fun s₂ o => s₂.status = .running ∧ Ended s₂ below o ∧ ∃ v L, o = .returned v ∧ own_Q1 n0 v s₂.heap L ∧ ReturnedEndW s o s₂ L 16 1152) (T.setTop (mkF m 88 #[oJ y0, oS, oJ y2, oS, oI x4, oI x5, oI x6, oJ y7, oS, oJ y9, oS, oI x11, oI x12, oI x13, oI x14, oA m15, oA m16, oI (0 : Int32), oU, oU, oU, oU, oU] [])) := by
  refine own_new 91 3 X0 hx hby hZ hown (own_w hw 16 rfl) (own_w hw 17 rfl) (own_w hw 18 rfl) e0 at_88 rfl (by decide) (by decide) ?_
  intro T21 h21 b21 X21 e21 E21 g21 A21 D21
  have n_b21 : n0 ≤ b21 := Nat.le_trans (own_n0 O0) (Nat.le_of_eq g21.symm)
  have O21 := O0.ext E21
  have hk := Nat.le_trans hk E21.1
  have F_b21_number : Fld Z h21 b21 "com/example/bare_turnstile/bareturnstile/Ticket" "number" "J" (.long (0 : Int64)) := D21 (Or.inr (own_w hw 26 rfl)) (ty := .long) (by decide)
  have F_b21_participant : Fld Z h21 b21 "com/example/bare_turnstile/bareturnstile/Ticket" "participant" "I" (.int (0 : Int32)) := D21 (Or.inr (own_w hw 28 rfl)) (ty := .int) (by decide)
  have F_b21_mode : Fld Z h21 b21 "com/example/bare_turnstile/bareturnstile/Ticket" "mode" "Lcom/example/bare_turnstile/bareturnstile/EntryMode;" .null := D21 (Or.inr (own_w hw 44 rfl)) (ty := (.object "com/example/bare_turnstile/bareturnstile/EntryMode")) (by decide)
  refine own_dup 92 X21 hx hby at_91 rfl rfl ?_
  refine own_lload 94 X21 hx hby at_92 rfl rfl ?_
  refine own_iload 96 X21 hx hby at_94 rfl rfl ?_
  refine own_aload 98 X21 hx hby at_96 rfl rfl rfl ?_
  refine own_specS (W := 1) 101 (rm4_7 l Z a0 hw [] w_EXCLUSIVE w_SHARED w_cache W b21 m15 y7 x11 h21 n0 O21 A21 F_b21_mode F_b21_number F_b21_participant n_b21 EZ_m15 hq0 hq2) X21 hx hby hZ hown rfl (own_w hw 19 rfl) (own_w hw 20 rfl) (own_w hw 18 rfl) (own_w hw 21 rfl) (by decide) (by rw [hml]; rfl) b21 [(.long y7), (.int x11), (.ref m15)] [(.ref b21)] pd_4 rfl at_98 rfl e21 rfl rfl rfl (by decide) (by decide) (by decide) (by decide) hS hk ?_
  rintro _ T33 L33 X33 ⟨rfl, N33, Kc33, E_b21_33, F_b21_mode_33, F_b21_number_33, F_b21_participant_33⟩ hS hZ hown
  have N33 := Fr.app N0 N33
  have O33 := O21.keep Kc33 (allS n_b21 all0)
  have hk := Nat.le_refl T33.heap.size
  show Go p e below _ (T33.setTop (mkF m 101 _ [(.ref b21)]))
  refine own_astore 103 #[oJ y0, oS, oJ y2, oS, oI x4, oI x5, oI x6, oJ y7, oS, oJ y9, oS, oI x11, oI x12, oI x13, oI x14, oA m15, oA m16, oI (0 : Int32), oA b21, oU, oU, oU, oU] X33 hx hby at_101 rfl rfl rfl ?_
  refine own_new 106 3 X33 hx hby hZ hown (own_w hw 16 rfl) (own_w hw 17 rfl) (own_w hw 18 rfl) rfl at_103 rfl (by decide) (by decide) ?_
  intro T34 h34 b34 X34 e34 E34 g34 A34 D34
  have ne_b21_b34 : b21 ≠ b34 := Nat.ne_of_lt (Nat.lt_of_lt_of_le E_b21_33.lt (Nat.le_of_eq g34.symm))
  have n_b34 : n0 ≤ b34 := Nat.le_trans (own_n0 O33) (Nat.le_of_eq g34.symm)
  have E_b21_34 := E_b21_33.ext E34
  have F_b21_mode_34 := F_b21_mode_33.ext E34
  have F_b21_number_34 := F_b21_number_33.ext E34
  have F_b21_participant_34 := F_b21_participant_33.ext E34
  have O34 := O33.ext E34
  have hk := Nat.le_trans hk E34.1
  have F_b34_number : Fld Z h34 b34 "com/example/bare_turnstile/bareturnstile/Ticket" "number" "J" (.long (0 : Int64)) := D34 (Or.inr (own_w hw 26 rfl)) (ty := .long) (by decide)
  have F_b34_participant : Fld Z h34 b34 "com/example/bare_turnstile/bareturnstile/Ticket" "participant" "I" (.int (0 : Int32)) := D34 (Or.inr (own_w hw 28 rfl)) (ty := .int) (by decide)
  have F_b34_mode : Fld Z h34 b34 "com/example/bare_turnstile/bareturnstile/Ticket" "mode" "Lcom/example/bare_turnstile/bareturnstile/EntryMode;" .null := D34 (Or.inr (own_w hw 44 rfl)) (ty := (.object "com/example/bare_turnstile/bareturnstile/EntryMode")) (by decide)
  refine own_dup 107 X34 hx hby at_106 rfl rfl ?_
  refine own_lload 109 X34 hx hby at_107 rfl rfl ?_
  refine own_iload 111 X34 hx hby at_109 rfl rfl ?_
  refine own_aload 113 X34 hx hby at_111 rfl rfl rfl ?_
  refine own_specS (W := 1) 116 (rm4_7 l Z a0 hw [] w_EXCLUSIVE w_SHARED w_cache W b34 m16 y9 x12 h34 n0 O34 A34 F_b34_mode F_b34_number F_b34_participant n_b34 EZ_m16 hq1 hq3) X34 hx hby hZ hown rfl (own_w hw 19 rfl) (own_w hw 20 rfl) (own_w hw 18 rfl) (own_w hw 21 rfl) (by decide) (by rw [hml]; rfl) b34 [(.long y9), (.int x12), (.ref m16)] [(.ref b34)] pd_4 rfl at_113 rfl e34 rfl rfl rfl (by decide) (by decide) (by decide) (by decide) hS hk ?_
  rintro _ T35 L35 X35 ⟨rfl, N35, Kc35, E_b34_35, F_b34_mode_35, F_b34_number_35, F_b34_participant_35⟩ hS hZ hown
  have N35 := Fr.app N33 N35
  have E_b21_35 := E_b21_34.keep Kc35
  have F_b21_mode_35 := F_b21_mode_34.keep Kc35 (ninS ne_b21_b34 nin0)
  have F_b21_number_35 := F_b21_number_34.keep Kc35 (ninS ne_b21_b34 nin0)
  have F_b21_participant_35 := F_b21_participant_34.keep Kc35 (ninS ne_b21_b34 nin0)
  have O35 := O34.keep Kc35 (allS n_b34 all0)
  have hk := Nat.le_refl T35.heap.size
  show Go p e below _ (T35.setTop (mkF m 116 _ [(.ref b34)]))
  refine own_astore 118 #[oJ y0, oS, oJ y2, oS, oI x4, oI x5, oI x6, oJ y7, oS, oJ y9, oS, oI x11, oI x12, oI x13, oI x14, oA m15, oA m16, oI (0 : Int32), oA b21, oA b34, oU, oU, oU] X35 hx hby at_116 rfl rfl rfl ?_
  refine own_iload 120 X35 hx hby at_118 rfl rfl ?_
  refine own_iconst 121 (2 : Int32) X35 hx hby at_120 rfl (by decide) ?_
  refine own_icN 124 X35 hx hby at_121 rfl (by decide) ?_
  refine own_aload 126 X35 hx hby at_124 rfl rfl rfl ?_
  refine own_astore 128 #[oJ y0, oS, oJ y2, oS, oI x4, oI x5, oI x6, oJ y7, oS, oJ y9, oS, oI x11, oI x12, oI x13, oI x14, oA m15, oA m16, oI (0 : Int32), oA b21, oA b34, oA b34, oU, oU] X35 hx hby at_126 rfl rfl rfl ?_
  refine own_goto 150 X35 hx hby at_128 (by decide) (by decide) ?_
  refine own_iload 152 X35 hx hby at_150 rfl rfl ?_
  refine own_iconst 153 (2 : Int32) X35 hx hby at_152 rfl (by decide) ?_
  refine own_icN 156 X35 hx hby at_153 rfl (by decide) ?_
  refine own_lload 158 X35 hx hby at_156 rfl rfl ?_
  refine own_lload 160 X35 hx hby at_158 rfl rfl ?_
  refine own_lcmp 161 (XT.cmpL y7 y9) X35 hx hby at_160 rfl rfl ?_
  by_cases hc36 : y7 = y9
  · refine own_ifN 164 X35 hx hby at_161 rfl (own_teqL hc36).2 ?_
    refine own_iload 166 X35 hx hby at_164 rfl rfl ?_
    refine own_iload 168 X35 hx hby at_166 rfl rfl ?_
    by_cases hc37 : x11 = x12
    · refine own_icN 171 X35 hx hby at_168 rfl (teq hc37).2 ?_
      refine own_iload 173 X35 hx hby at_171 rfl rfl ?_
      refine own_iload 175 X35 hx hby at_173 rfl rfl ?_
      refine own_icN 178 X35 hx hby at_175 rfl (teq hq4).2 ?_
      refine own_iconst 179 (1 : Int32) X35 hx hby at_178 rfl (by decide) ?_
      refine own_goto 183 X35 hx hby at_179 (by decide) (by decide) ?_
      refine own_istore 185 #[oJ y0, oS, oJ y2, oS, oI x4, oI x5, oI x6, oJ y7, oS, oJ y9, oS, oI x11, oI x12, oI x13, oI x14, oA m15, oA m16, oI (0 : Int32), oA b21, oA b34, oA b34, oI (1 : Int32), oU] X35 hx hby at_183 rfl rfl ?_
      refine own_goto 191 X35 hx hby at_185 (by decide) (by decide) ?_
      refine own_aload 193 X35 hx hby at_191 rfl rfl rfl ?_
      refine own_aload 195 X35 hx hby at_193 rfl rfl rfl ?_
      refine own_virt (W := 0) 198 (rm7_8 l Z a0 hw [] w_EXCLUSIVE w_SHARED w_cache W b21 m15 b34 m16 y7 x11 y9 x12 T35.heap n0 O35 E_b21_35 F_b21_mode_35 F_b21_number_35 F_b21_participant_35 n_b21 EZ_m15 E_b34_35 F_b34_mode_35 F_b34_number_35 F_b34_participant_35 n_b34 EZ_m16 ne_b21_b34 hc36 hc37 hq5) X35 hx hby hZ hown (own_w hw 45 rfl) (own_w hw 46 rfl) (notFace_of_selects (args := #[]) (mvT hZ (own_w hw 48 rfl))) (own_w hw 48 rfl) (own_w hw 47 rfl) (own_w hw 18 rfl) (own_w hw 49 rfl) (by decide) (by rw [hml]; rfl) b21 [(.ref b34)] [] pd_5 rfl at_195 rfl rfl E_b21_35 rfl rfl rfl (by decide) (by decide) (by decide) (by decide) ?_
      rintro _ T49 L49 X49 ⟨rfl, N49, e49⟩
      have N49 := Fr.app N35 N49
      show Go p e below _ (T49.setTop (mkF m 198 _ [(.int (1 : Int32))]))
      refine own_istore 200 #[oJ y0, oS, oJ y2, oS, oI x4, oI x5, oI x6, oJ y7, oS, oJ y9, oS, oI x11, oI x12, oI x13, oI x14, oA m15, oA m16, oI (0 : Int32), oA b21, oA b34, oA b34, oI (1 : Int32), oI (1 : Int32)] X49 hx hby at_198 rfl rfl ?_
      refine own_iload 202 X49 hx hby at_200 rfl rfl ?_
      refine own_iload 204 X49 hx hby at_202 rfl rfl ?_
      refine own_icY 209 X49 hx hby at_204 (by decide) (by decide) (by decide) ?_
      refine own_iload 211 X49 hx hby at_209 rfl rfl ?_
      refine own_iconst 212 (2 : Int32) X49 hx hby at_211 rfl (by decide) ?_
      refine own_icN 215 X49 hx hby at_212 rfl (by decide) ?_
      refine own_aload 217 X49 hx hby at_215 rfl rfl rfl ?_
      refine own_aload 219 X49 hx hby at_217 rfl rfl rfl ?_
      refine own_virt (W := 0) 222 (rm7_8 l Z a0 hw [] w_EXCLUSIVE w_SHARED w_cache W b34 m16 b21 m15 y9 x12 y7 x11 T35.heap n0 O35 E_b34_35 F_b34_mode_35 F_b34_number_35 F_b34_participant_35 n_b34 EZ_m16 E_b21_35 F_b21_mode_35 F_b21_number_35 F_b21_participant_35 n_b21 EZ_m15 (Ne.symm ne_b21_b34) hc36.symm hc37.symm hq5.symm) X49 hx hby hZ hown (own_w hw 45 rfl) (own_w hw 46 rfl) (notFace_of_selects (args := #[]) (mvT hZ (own_w hw 48 rfl))) (own_w hw 48 rfl) (own_w hw 47 rfl) (own_w hw 18 rfl) (own_w hw 49 rfl) (by decide) (by rw [hml]; rfl) b34 [(.ref b21)] [] pd_5 rfl at_219 rfl e49 E_b34_35 rfl rfl rfl (by decide) (by decide) (by decide) (by decide) ?_
      rintro _ T50 L50 X50 ⟨rfl, N50, e50⟩
      have N50 := Fr.app N49 N50
      show Go p e below _ (T50.setTop (mkF m 222 _ [(.int (1 : Int32))]))
      refine own_iload 224 X50 hx hby at_222 rfl rfl ?_
      refine own_icN 227 X50 hx hby at_224 rfl (by decide) ?_
      refine own_iconst 228 (1 : Int32) X50 hx hby at_227 rfl (by decide) ?_
      refine own_goto 232 X50 hx hby at_228 (by decide) (by decide) ?_
      exact own_retW (Q := own_Q1 n0) X50 hx hby hret hlk hS (by rw [e50]; exact hk) at_232 rfl (Or.inl ⟨rfl, by simp, _, rfl⟩) (by decide) (by decide) ⟨rfl, N50⟩
    refine own_icY 182 X35 hx hby at_168 (by decide) (by decide) (feq hc37).2 ?_
    refine own_iconst 183 (0 : Int32) X35 hx hby at_182 rfl (by decide) ?_
    refine own_istore 185 #[oJ y0, oS, oJ y2, oS, oI x4, oI x5, oI x6, oJ y7, oS, oJ y9, oS, oI x11, oI x12, oI x13, oI x14, oA m15, oA m16, oI (0 : Int32), oA b21, oA b34, oA b34, oI (0 : Int32), oU] X35 hx hby at_183 rfl rfl ?_
    refine own_goto 191 X35 hx hby at_185 (by decide) (by decide) ?_
    refine own_aload 193 X35 hx hby at_191 rfl rfl rfl ?_
    refine own_aload 195 X35 hx hby at_193 rfl rfl rfl ?_
    refine own_virt (W := 0) 198 (rm7_10 l Z a0 hw [] w_EXCLUSIVE w_SHARED w_cache W b21 m15 b34 m16 y7 x11 y9 x12 T35.heap n0 O35 E_b21_35 F_b21_mode_35 F_b21_number_35 F_b21_participant_35 n_b21 EZ_m15 E_b34_35 F_b34_mode_35 F_b34_number_35 F_b34_participant_35 n_b34 EZ_m16 ne_b21_b34 hc36 hc37) X35 hx hby hZ hown (own_w hw 45 rfl) (own_w hw 46 rfl) (notFace_of_selects (args := #[]) (mvT hZ (own_w hw 48 rfl))) (own_w hw 48 rfl) (own_w hw 47 rfl) (own_w hw 18 rfl) (own_w hw 49 rfl) (by decide) (by rw [hml]; rfl) b21 [(.ref b34)] [] pd_5 rfl at_195 rfl rfl E_b21_35 rfl rfl rfl (by decide) (by decide) (by decide) (by decide) ?_
    rintro _ T51 L51 X51 ⟨rfl, N51, e51⟩
    have N51 := Fr.app N35 N51
    show Go p e below _ (T51.setTop (mkF m 198 _ [(.int (0 : Int32))]))
    refine own_istore 200 #[oJ y0, oS, oJ y2, oS, oI x4, oI x5, oI x6, oJ y7, oS, oJ y9, oS, oI x11, oI x12, oI x13, oI x14, oA m15, oA m16, oI (0 : Int32), oA b21, oA b34, oA b34, oI (0 : Int32), oI (0 : Int32)] X51 hx hby at_198 rfl rfl ?_
    refine own_iload 202 X51 hx hby at_200 rfl rfl ?_
    refine own_iload 204 X51 hx hby at_202 rfl rfl ?_
    refine own_icY 209 X51 hx hby at_204 (by decide) (by decide) (by decide) ?_
    refine own_iload 211 X51 hx hby at_209 rfl rfl ?_
    refine own_iconst 212 (2 : Int32) X51 hx hby at_211 rfl (by decide) ?_
    refine own_icN 215 X51 hx hby at_212 rfl (by decide) ?_
    refine own_aload 217 X51 hx hby at_215 rfl rfl rfl ?_
    refine own_aload 219 X51 hx hby at_217 rfl rfl rfl ?_
    refine own_virt (W := 0) 222 (rm7_10 l Z a0 hw [] w_EXCLUSIVE w_SHARED w_cache W b34 m16 b21 m15 y9 x12 y7 x11 T35.heap n0 O35 E_b34_35 F_b34_mode_35 F_b34_number_35 F_b34_participant_35 n_b34 EZ_m16 E_b21_35 F_b21_mode_35 F_b21_number_35 F_b21_participant_35 n_b21 EZ_m15 (Ne.symm ne_b21_b34) hc36.symm (fun q => hc37 q.symm)) X51 hx hby hZ hown (own_w hw 45 rfl) (own_w hw 46 rfl) (notFace_of_selects (args := #[]) (mvT hZ (own_w hw 48 rfl))) (own_w hw 48 rfl) (own_w hw 47 rfl) (own_w hw 18 rfl) (own_w hw 49 rfl) (by decide) (by rw [hml]; rfl) b34 [(.ref b21)] [] pd_5 rfl at_219 rfl e51 E_b34_35 rfl rfl rfl (by decide) (by decide) (by decide) (by decide) ?_
    rintro _ T52 L52 X52 ⟨rfl, N52, e52⟩
    have N52 := Fr.app N51 N52
    show Go p e below _ (T52.setTop (mkF m 222 _ [(.int (0 : Int32))]))
    refine own_iload 224 X52 hx hby at_222 rfl rfl ?_
    refine own_icN 227 X52 hx hby at_224 rfl (by decide) ?_
    refine own_iconst 228 (1 : Int32) X52 hx hby at_227 rfl (by decide) ?_
    refine own_goto 232 X52 hx hby at_228 (by decide) (by decide) ?_
    exact own_retW (Q := own_Q1 n0) X52 hx hby hret hlk hS (by rw [e52]; exact hk) at_232 rfl (Or.inl ⟨rfl, by simp, _, rfl⟩) (by decide) (by decide) ⟨rfl, N52⟩
  refine own_ifY 182 X35 hx hby at_161 (by decide) (by decide) (own_feqL hc36).2 ?_
  refine own_iconst 183 (0 : Int32) X35 hx hby at_182 rfl (by decide) ?_
  refine own_istore 185 #[oJ y0, oS, oJ y2, oS, oI x4, oI x5, oI x6, oJ y7, oS, oJ y9, oS, oI x11, oI x12, oI x13, oI x14, oA m15, oA m16, oI (0 : Int32), oA b21, oA b34, oA b34, oI (0 : Int32), oU] X35 hx hby at_183 rfl rfl ?_
  refine own_goto 191 X35 hx hby at_185 (by decide) (by decide) ?_
  refine own_aload 193 X35 hx hby at_191 rfl rfl rfl ?_
  refine own_aload 195 X35 hx hby at_193 rfl rfl rfl ?_
  refine own_virt (W := 0) 198 (rm7_11 l Z a0 hw [] w_EXCLUSIVE w_SHARED w_cache W b21 m15 b34 m16 y7 x11 y9 x12 T35.heap n0 O35 E_b21_35 F_b21_mode_35 F_b21_number_35 F_b21_participant_35 n_b21 EZ_m15 E_b34_35 F_b34_mode_35 F_b34_number_35 F_b34_participant_35 n_b34 EZ_m16 ne_b21_b34 hc36) X35 hx hby hZ hown (own_w hw 45 rfl) (own_w hw 46 rfl) (notFace_of_selects (args := #[]) (mvT hZ (own_w hw 48 rfl))) (own_w hw 48 rfl) (own_w hw 47 rfl) (own_w hw 18 rfl) (own_w hw 49 rfl) (by decide) (by rw [hml]; rfl) b21 [(.ref b34)] [] pd_5 rfl at_195 rfl rfl E_b21_35 rfl rfl rfl (by decide) (by decide) (by decide) (by decide) ?_
  rintro _ T53 L53 X53 ⟨rfl, N53, e53⟩
  have N53 := Fr.app N35 N53
  show Go p e below _ (T53.setTop (mkF m 198 _ [(.int (0 : Int32))]))
  refine own_istore 200 #[oJ y0, oS, oJ y2, oS, oI x4, oI x5, oI x6, oJ y7, oS, oJ y9, oS, oI x11, oI x12, oI x13, oI x14, oA m15, oA m16, oI (0 : Int32), oA b21, oA b34, oA b34, oI (0 : Int32), oI (0 : Int32)] X53 hx hby at_198 rfl rfl ?_
  refine own_iload 202 X53 hx hby at_200 rfl rfl ?_
  refine own_iload 204 X53 hx hby at_202 rfl rfl ?_
  refine own_icY 209 X53 hx hby at_204 (by decide) (by decide) (by decide) ?_
  refine own_iload 211 X53 hx hby at_209 rfl rfl ?_
  refine own_iconst 212 (2 : Int32) X53 hx hby at_211 rfl (by decide) ?_
  refine own_icN 215 X53 hx hby at_212 rfl (by decide) ?_
  refine own_aload 217 X53 hx hby at_215 rfl rfl rfl ?_
  refine own_aload 219 X53 hx hby at_217 rfl rfl rfl ?_
  refine own_virt (W := 0) 222 (rm7_11 l Z a0 hw [] w_EXCLUSIVE w_SHARED w_cache W b34 m16 b21 m15 y9 x12 y7 x11 T35.heap n0 O35 E_b34_35 F_b34_mode_35 F_b34_number_35 F_b34_participant_35 n_b34 EZ_m16 E_b21_35 F_b21_mode_35 F_b21_number_35 F_b21_participant_35 n_b21 EZ_m15 (Ne.symm ne_b21_b34) (fun q => hc36 q.symm)) X53 hx hby hZ hown (own_w hw 45 rfl) (own_w hw 46 rfl) (notFace_of_selects (args := #[]) (mvT hZ (own_w hw 48 rfl))) (own_w hw 48 rfl) (own_w hw 47 rfl) (own_w hw 18 rfl) (own_w hw 49 rfl) (by decide) (by rw [hml]; rfl) b34 [(.ref b21)] [] pd_5 rfl at_219 rfl e53 E_b34_35 rfl rfl rfl (by decide) (by decide) (by decide) (by decide) ?_
  rintro _ T54 L54 X54 ⟨rfl, N54, e54⟩
  have N54 := Fr.app N53 N54
  show Go p e below _ (T54.setTop (mkF m 222 _ [(.int (0 : Int32))]))
  refine own_iload 224 X54 hx hby at_222 rfl rfl ?_
  refine own_icN 227 X54 hx hby at_224 rfl (by decide) ?_
  refine own_iconst 228 (1 : Int32) X54 hx hby at_227 rfl (by decide) ?_
  refine own_goto 232 X54 hx hby at_228 (by decide) (by decide) ?_
  exact own_retW (Q := own_Q1 n0) X54 hx hby hret hlk hS (by rw [e54]; exact hk) at_232 rfl (Or.inl ⟨rfl, by simp, _, rfl⟩) (by decide) (by decide) ⟨rfl, N54⟩
set_option maxRecDepth 65536 in
set_option maxHeartbeats 40000000 in
theorem cut_88_3 (l : Launch) (Z : State) (a0 : Array Value) (hw : ∀ d ∈ tables_1, d.before a0 Z = true) (w_EXCLUSIVE w_SHARED w_cache : Addr) (W : own_W Z w_EXCLUSIVE w_SHARED w_cache) (y0 : Int64) (y2 : Int64) (x4 : Int32) (x5 : Int32) (x6 : Int32) (y7 : Int64) (y9 : Int64) (x11 : Int32) (x12 : Int32) (x13 : Int32) (x14 : Int32) (m15 : Addr) (m16 : Addr) (h0 : Heap) (n0 : Nat) (O0 : Old Z n0 h0) (EZ_m15 : Exa Z Z.heap m15 "com/example/bare_turnstile/bareturnstile/EntryMode") (EZ_m16 : Exa Z Z.heap m16 "com/example/bare_turnstile/bareturnstile/EntryMode") (hq0 : ¬ (y7 < (1 : Int64))) (hq1 : ¬ (y9 < (1 : Int64))) (hq2 : ¬ (x11 < (0 : Int32))) (hq3 : ¬ (x12 < (0 : Int32))) (hq4 : x13 = x14) (hq5 : m15 = m16) {p : Program} {e : Env} {s : State} {m : MethodId} {args : Array Value} {below : List Frame} {meth : Method} {c : Code} {T : State} {vm0 : Vm} {locs : List Loc} {k0 : Nat}
    (X0 : Stand p l e room_1 (s.setVm vm0) m args below meth c T locs 0 0) (hx : p.tables.exec = Jvm.exec) (hby : c.code = code) (hml : c.maxLocals = 23) (hret : meth.sig.returnType = some .boolean) (hlk : meth.locks = false) (hZ : Z.Warmed39 (s.setVm vm0).vm) (hown : (s.setVm vm0).vm.findClass "com/example/bare_turnstile/bareturnstile/TicketEqualsPinLaw" = some m.cls) (e0 : T.heap = h0) (N0 : Fr n0 locs) (hS : s.Since vm0 k0) (hk : k0 ≤ h0.size) :
    Go p e below (fun s₂ o => s₂.status = .running ∧ Ended s₂ below o ∧ ∃ v L, o = .returned v ∧ own_Q1 n0 v s₂.heap L ∧ ReturnedEndW s o s₂ L 16 1152) (T.setTop (mkF m 88 #[oJ y0, oS, oJ y2, oS, oI x4, oI x5, oI x6, oJ y7, oS, oJ y9, oS, oI x11, oI x12, oI x13, oI x14, oA m15, oA m16, oI (1 : Int32), oU, oU, oU, oU, oU] [])) := by
  refine own_new 91 3 X0 hx hby hZ hown (own_w hw 16 rfl) (own_w hw 17 rfl) (own_w hw 18 rfl) e0 at_88 rfl (by decide) (by decide) ?_
  intro T55 h55 b55 X55 e55 E55 g55 A55 D55
  have n_b55 : n0 ≤ b55 := Nat.le_trans (own_n0 O0) (Nat.le_of_eq g55.symm)
  have O55 := O0.ext E55
  have hk := Nat.le_trans hk E55.1
  have F_b55_number : Fld Z h55 b55 "com/example/bare_turnstile/bareturnstile/Ticket" "number" "J" (.long (0 : Int64)) := D55 (Or.inr (own_w hw 26 rfl)) (ty := .long) (by decide)
  have F_b55_participant : Fld Z h55 b55 "com/example/bare_turnstile/bareturnstile/Ticket" "participant" "I" (.int (0 : Int32)) := D55 (Or.inr (own_w hw 28 rfl)) (ty := .int) (by decide)
  have F_b55_mode : Fld Z h55 b55 "com/example/bare_turnstile/bareturnstile/Ticket" "mode" "Lcom/example/bare_turnstile/bareturnstile/EntryMode;" .null := D55 (Or.inr (own_w hw 44 rfl)) (ty := (.object "com/example/bare_turnstile/bareturnstile/EntryMode")) (by decide)
  refine own_dup 92 X55 hx hby at_91 rfl rfl ?_
  refine own_lload 94 X55 hx hby at_92 rfl rfl ?_
  refine own_iload 96 X55 hx hby at_94 rfl rfl ?_
  refine own_aload 98 X55 hx hby at_96 rfl rfl rfl ?_
  refine own_specS (W := 1) 101 (rm4_7 l Z a0 hw [] w_EXCLUSIVE w_SHARED w_cache W b55 m15 y7 x11 h55 n0 O55 A55 F_b55_mode F_b55_number F_b55_participant n_b55 EZ_m15 hq0 hq2) X55 hx hby hZ hown rfl (own_w hw 19 rfl) (own_w hw 20 rfl) (own_w hw 18 rfl) (own_w hw 21 rfl) (by decide) (by rw [hml]; rfl) b55 [(.long y7), (.int x11), (.ref m15)] [(.ref b55)] pd_4 rfl at_98 rfl e55 rfl rfl rfl (by decide) (by decide) (by decide) (by decide) hS hk ?_
  rintro _ T56 L56 X56 ⟨rfl, N56, Kc56, E_b55_56, F_b55_mode_56, F_b55_number_56, F_b55_participant_56⟩ hS hZ hown
  have N56 := Fr.app N0 N56
  have O56 := O55.keep Kc56 (allS n_b55 all0)
  have hk := Nat.le_refl T56.heap.size
  show Go p e below _ (T56.setTop (mkF m 101 _ [(.ref b55)]))
  refine own_astore 103 #[oJ y0, oS, oJ y2, oS, oI x4, oI x5, oI x6, oJ y7, oS, oJ y9, oS, oI x11, oI x12, oI x13, oI x14, oA m15, oA m16, oI (1 : Int32), oA b55, oU, oU, oU, oU] X56 hx hby at_101 rfl rfl rfl ?_
  refine own_new 106 3 X56 hx hby hZ hown (own_w hw 16 rfl) (own_w hw 17 rfl) (own_w hw 18 rfl) rfl at_103 rfl (by decide) (by decide) ?_
  intro T57 h57 b57 X57 e57 E57 g57 A57 D57
  have ne_b55_b57 : b55 ≠ b57 := Nat.ne_of_lt (Nat.lt_of_lt_of_le E_b55_56.lt (Nat.le_of_eq g57.symm))
  have n_b57 : n0 ≤ b57 := Nat.le_trans (own_n0 O56) (Nat.le_of_eq g57.symm)
  have E_b55_57 := E_b55_56.ext E57
  have F_b55_mode_57 := F_b55_mode_56.ext E57
  have F_b55_number_57 := F_b55_number_56.ext E57
  have F_b55_participant_57 := F_b55_participant_56.ext E57
  have O57 := O56.ext E57
  have hk := Nat.le_trans hk E57.1
  have F_b57_number : Fld Z h57 b57 "com/example/bare_turnstile/bareturnstile/Ticket" "number" "J" (.long (0 : Int64)) := D57 (Or.inr (own_w hw 26 rfl)) (ty := .long) (by decide)
  have F_b57_participant : Fld Z h57 b57 "com/example/bare_turnstile/bareturnstile/Ticket" "participant" "I" (.int (0 : Int32)) := D57 (Or.inr (own_w hw 28 rfl)) (ty := .int) (by decide)
  have F_b57_mode : Fld Z h57 b57 "com/example/bare_turnstile/bareturnstile/Ticket" "mode" "Lcom/example/bare_turnstile/bareturnstile/EntryMode;" .null := D57 (Or.inr (own_w hw 44 rfl)) (ty := (.object "com/example/bare_turnstile/bareturnstile/EntryMode")) (by decide)
  refine own_dup 107 X57 hx hby at_106 rfl rfl ?_
  refine own_lload 109 X57 hx hby at_107 rfl rfl ?_
  refine own_iload 111 X57 hx hby at_109 rfl rfl ?_
  refine own_aload 113 X57 hx hby at_111 rfl rfl rfl ?_
  refine own_specS (W := 1) 116 (rm4_7 l Z a0 hw [] w_EXCLUSIVE w_SHARED w_cache W b57 m16 y9 x12 h57 n0 O57 A57 F_b57_mode F_b57_number F_b57_participant n_b57 EZ_m16 hq1 hq3) X57 hx hby hZ hown rfl (own_w hw 19 rfl) (own_w hw 20 rfl) (own_w hw 18 rfl) (own_w hw 21 rfl) (by decide) (by rw [hml]; rfl) b57 [(.long y9), (.int x12), (.ref m16)] [(.ref b57)] pd_4 rfl at_113 rfl e57 rfl rfl rfl (by decide) (by decide) (by decide) (by decide) hS hk ?_
  rintro _ T58 L58 X58 ⟨rfl, N58, Kc58, E_b57_58, F_b57_mode_58, F_b57_number_58, F_b57_participant_58⟩ hS hZ hown
  have N58 := Fr.app N56 N58
  have E_b55_58 := E_b55_57.keep Kc58
  have F_b55_mode_58 := F_b55_mode_57.keep Kc58 (ninS ne_b55_b57 nin0)
  have F_b55_number_58 := F_b55_number_57.keep Kc58 (ninS ne_b55_b57 nin0)
  have F_b55_participant_58 := F_b55_participant_57.keep Kc58 (ninS ne_b55_b57 nin0)
  have O58 := O57.keep Kc58 (allS n_b57 all0)
  have hk := Nat.le_refl T58.heap.size
  show Go p e below _ (T58.setTop (mkF m 116 _ [(.ref b57)]))
  refine own_astore 118 #[oJ y0, oS, oJ y2, oS, oI x4, oI x5, oI x6, oJ y7, oS, oJ y9, oS, oI x11, oI x12, oI x13, oI x14, oA m15, oA m16, oI (1 : Int32), oA b55, oA b57, oU, oU, oU] X58 hx hby at_116 rfl rfl rfl ?_
  refine own_iload 120 X58 hx hby at_118 rfl rfl ?_
  refine own_iconst 121 (2 : Int32) X58 hx hby at_120 rfl (by decide) ?_
  refine own_icN 124 X58 hx hby at_121 rfl (by decide) ?_
  refine own_aload 126 X58 hx hby at_124 rfl rfl rfl ?_
  refine own_astore 128 #[oJ y0, oS, oJ y2, oS, oI x4, oI x5, oI x6, oJ y7, oS, oJ y9, oS, oI x11, oI x12, oI x13, oI x14, oA m15, oA m16, oI (1 : Int32), oA b55, oA b57, oA b57, oU, oU] X58 hx hby at_126 rfl rfl rfl ?_
  refine own_goto 150 X58 hx hby at_128 (by decide) (by decide) ?_
  refine own_iload 152 X58 hx hby at_150 rfl rfl ?_
  refine own_iconst 153 (2 : Int32) X58 hx hby at_152 rfl (by decide) ?_
  refine own_icN 156 X58 hx hby at_153 rfl (by decide) ?_
  refine own_lload 158 X58 hx hby at_156 rfl rfl ?_
  refine own_lload 160 X58 hx hby at_158 rfl rfl ?_
  refine own_lcmp 161 (XT.cmpL y7 y9) X58 hx hby at_160 rfl rfl ?_
  by_cases hc59 : y7 = y9
  · refine own_ifN 164 X58 hx hby at_161 rfl (own_teqL hc59).2 ?_
    refine own_iload 166 X58 hx hby at_164 rfl rfl ?_
    refine own_iload 168 X58 hx hby at_166 rfl rfl ?_
    by_cases hc60 : x11 = x12
    · refine own_icN 171 X58 hx hby at_168 rfl (teq hc60).2 ?_
      refine own_iload 173 X58 hx hby at_171 rfl rfl ?_
      refine own_iload 175 X58 hx hby at_173 rfl rfl ?_
      refine own_icN 178 X58 hx hby at_175 rfl (teq hq4).2 ?_
      refine own_iconst 179 (1 : Int32) X58 hx hby at_178 rfl (by decide) ?_
      refine own_goto 183 X58 hx hby at_179 (by decide) (by decide) ?_
      refine own_istore 185 #[oJ y0, oS, oJ y2, oS, oI x4, oI x5, oI x6, oJ y7, oS, oJ y9, oS, oI x11, oI x12, oI x13, oI x14, oA m15, oA m16, oI (1 : Int32), oA b55, oA b57, oA b57, oI (1 : Int32), oU] X58 hx hby at_183 rfl rfl ?_
      refine own_goto 191 X58 hx hby at_185 (by decide) (by decide) ?_
      refine own_aload 193 X58 hx hby at_191 rfl rfl rfl ?_
      refine own_aload 195 X58 hx hby at_193 rfl rfl rfl ?_
      refine own_virt (W := 0) 198 (rm7_8 l Z a0 hw [] w_EXCLUSIVE w_SHARED w_cache W b55 m15 b57 m16 y7 x11 y9 x12 T58.heap n0 O58 E_b55_58 F_b55_mode_58 F_b55_number_58 F_b55_participant_58 n_b55 EZ_m15 E_b57_58 F_b57_mode_58 F_b57_number_58 F_b57_participant_58 n_b57 EZ_m16 ne_b55_b57 hc59 hc60 hq5) X58 hx hby hZ hown (own_w hw 45 rfl) (own_w hw 46 rfl) (notFace_of_selects (args := #[]) (mvT hZ (own_w hw 48 rfl))) (own_w hw 48 rfl) (own_w hw 47 rfl) (own_w hw 18 rfl) (own_w hw 49 rfl) (by decide) (by rw [hml]; rfl) b55 [(.ref b57)] [] pd_5 rfl at_195 rfl rfl E_b55_58 rfl rfl rfl (by decide) (by decide) (by decide) (by decide) ?_
      rintro _ T61 L61 X61 ⟨rfl, N61, e61⟩
      have N61 := Fr.app N58 N61
      show Go p e below _ (T61.setTop (mkF m 198 _ [(.int (1 : Int32))]))
      refine own_istore 200 #[oJ y0, oS, oJ y2, oS, oI x4, oI x5, oI x6, oJ y7, oS, oJ y9, oS, oI x11, oI x12, oI x13, oI x14, oA m15, oA m16, oI (1 : Int32), oA b55, oA b57, oA b57, oI (1 : Int32), oI (1 : Int32)] X61 hx hby at_198 rfl rfl ?_
      refine own_iload 202 X61 hx hby at_200 rfl rfl ?_
      refine own_iload 204 X61 hx hby at_202 rfl rfl ?_
      refine own_icY 209 X61 hx hby at_204 (by decide) (by decide) (by decide) ?_
      refine own_iload 211 X61 hx hby at_209 rfl rfl ?_
      refine own_iconst 212 (2 : Int32) X61 hx hby at_211 rfl (by decide) ?_
      refine own_icN 215 X61 hx hby at_212 rfl (by decide) ?_
      refine own_aload 217 X61 hx hby at_215 rfl rfl rfl ?_
      refine own_aload 219 X61 hx hby at_217 rfl rfl rfl ?_
      refine own_virt (W := 0) 222 (rm7_8 l Z a0 hw [] w_EXCLUSIVE w_SHARED w_cache W b57 m16 b55 m15 y9 x12 y7 x11 T58.heap n0 O58 E_b57_58 F_b57_mode_58 F_b57_number_58 F_b57_participant_58 n_b57 EZ_m16 E_b55_58 F_b55_mode_58 F_b55_number_58 F_b55_participant_58 n_b55 EZ_m15 (Ne.symm ne_b55_b57) hc59.symm hc60.symm hq5.symm) X61 hx hby hZ hown (own_w hw 45 rfl) (own_w hw 46 rfl) (notFace_of_selects (args := #[]) (mvT hZ (own_w hw 48 rfl))) (own_w hw 48 rfl) (own_w hw 47 rfl) (own_w hw 18 rfl) (own_w hw 49 rfl) (by decide) (by rw [hml]; rfl) b57 [(.ref b55)] [] pd_5 rfl at_219 rfl e61 E_b57_58 rfl rfl rfl (by decide) (by decide) (by decide) (by decide) ?_
      rintro _ T62 L62 X62 ⟨rfl, N62, e62⟩
      have N62 := Fr.app N61 N62
      show Go p e below _ (T62.setTop (mkF m 222 _ [(.int (1 : Int32))]))
      refine own_iload 224 X62 hx hby at_222 rfl rfl ?_
      refine own_icN 227 X62 hx hby at_224 rfl (by decide) ?_
      refine own_iconst 228 (1 : Int32) X62 hx hby at_227 rfl (by decide) ?_
      refine own_goto 232 X62 hx hby at_228 (by decide) (by decide) ?_
      exact own_retW (Q := own_Q1 n0) X62 hx hby hret hlk hS (by rw [e62]; exact hk) at_232 rfl (Or.inl ⟨rfl, by simp, _, rfl⟩) (by decide) (by decide) ⟨rfl, N62⟩
    refine own_icY 182 X58 hx hby at_168 (by decide) (by decide) (feq hc60).2 ?_
    refine own_iconst 183 (0 : Int32) X58 hx hby at_182 rfl (by decide) ?_
    refine own_istore 185 #[oJ y0, oS, oJ y2, oS, oI x4, oI x5, oI x6, oJ y7, oS, oJ y9, oS, oI x11, oI x12, oI x13, oI x14, oA m15, oA m16, oI (1 : Int32), oA b55, oA b57, oA b57, oI (0 : Int32), oU] X58 hx hby at_183 rfl rfl ?_
    refine own_goto 191 X58 hx hby at_185 (by decide) (by decide) ?_
    refine own_aload 193 X58 hx hby at_191 rfl rfl rfl ?_
    refine own_aload 195 X58 hx hby at_193 rfl rfl rfl ?_
    refine own_virt (W := 0) 198 (rm7_10 l Z a0 hw [] w_EXCLUSIVE w_SHARED w_cache W b55 m15 b57 m16 y7 x11 y9 x12 T58.heap n0 O58 E_b55_58 F_b55_mode_58 F_b55_number_58 F_b55_participant_58 n_b55 EZ_m15 E_b57_58 F_b57_mode_58 F_b57_number_58 F_b57_participant_58 n_b57 EZ_m16 ne_b55_b57 hc59 hc60) X58 hx hby hZ hown (own_w hw 45 rfl) (own_w hw 46 rfl) (notFace_of_selects (args := #[]) (mvT hZ (own_w hw 48 rfl))) (own_w hw 48 rfl) (own_w hw 47 rfl) (own_w hw 18 rfl) (own_w hw 49 rfl) (by decide) (by rw [hml]; rfl) b55 [(.ref b57)] [] pd_5 rfl at_195 rfl rfl E_b55_58 rfl rfl rfl (by decide) (by decide) (by decide) (by decide) ?_
    rintro _ T63 L63 X63 ⟨rfl, N63, e63⟩
    have N63 := Fr.app N58 N63
    show Go p e below _ (T63.setTop (mkF m 198 _ [(.int (0 : Int32))]))
    refine own_istore 200 #[oJ y0, oS, oJ y2, oS, oI x4, oI x5, oI x6, oJ y7, oS, oJ y9, oS, oI x11, oI x12, oI x13, oI x14, oA m15, oA m16, oI (1 : Int32), oA b55, oA b57, oA b57, oI (0 : Int32), oI (0 : Int32)] X63 hx hby at_198 rfl rfl ?_
    refine own_iload 202 X63 hx hby at_200 rfl rfl ?_
    refine own_iload 204 X63 hx hby at_202 rfl rfl ?_
    refine own_icY 209 X63 hx hby at_204 (by decide) (by decide) (by decide) ?_
    refine own_iload 211 X63 hx hby at_209 rfl rfl ?_
    refine own_iconst 212 (2 : Int32) X63 hx hby at_211 rfl (by decide) ?_
    refine own_icN 215 X63 hx hby at_212 rfl (by decide) ?_
    refine own_aload 217 X63 hx hby at_215 rfl rfl rfl ?_
    refine own_aload 219 X63 hx hby at_217 rfl rfl rfl ?_
    refine own_virt (W := 0) 222 (rm7_10 l Z a0 hw [] w_EXCLUSIVE w_SHARED w_cache W b57 m16 b55 m15 y9 x12 y7 x11 T58.heap n0 O58 E_b57_58 F_b57_mode_58 F_b57_number_58 F_b57_participant_58 n_b57 EZ_m16 E_b55_58 F_b55_mode_58 F_b55_number_58 F_b55_participant_58 n_b55 EZ_m15 (Ne.symm ne_b55_b57) hc59.symm (fun q => hc60 q.symm)) X63 hx hby hZ hown (own_w hw 45 rfl) (own_w hw 46 rfl) (notFace_of_selects (args := #[]) (mvT hZ (own_w hw 48 rfl))) (own_w hw 48 rfl) (own_w hw 47 rfl) (own_w hw 18 rfl) (own_w hw 49 rfl) (by decide) (by rw [hml]; rfl) b57 [(.ref b55)] [] pd_5 rfl at_219 rfl e63 E_b57_58 rfl rfl rfl (by decide) (by decide) (by decide) (by decide) ?_
    rintro _ T64 L64 X64 ⟨rfl, N64, e64⟩
    have N64 := Fr.app N63 N64
    show Go p e below _ (T64.setTop (mkF m 222 _ [(.int (0 : Int32))]))
    refine own_iload 224 X64 hx hby at_222 rfl rfl ?_
    refine own_icN 227 X64 hx hby at_224 rfl (by decide) ?_
    refine own_iconst 228 (1 : Int32) X64 hx hby at_227 rfl (by decide) ?_
    refine own_goto 232 X64 hx hby at_228 (by decide) (by decide) ?_
    exact own_retW (Q := own_Q1 n0) X64 hx hby hret hlk hS (by rw [e64]; exact hk) at_232 rfl (Or.inl ⟨rfl, by simp, _, rfl⟩) (by decide) (by decide) ⟨rfl, N64⟩
  refine own_ifY 182 X58 hx hby at_161 (by decide) (by decide) (own_feqL hc59).2 ?_
  refine own_iconst 183 (0 : Int32) X58 hx hby at_182 rfl (by decide) ?_
  refine own_istore 185 #[oJ y0, oS, oJ y2, oS, oI x4, oI x5, oI x6, oJ y7, oS, oJ y9, oS, oI x11, oI x12, oI x13, oI x14, oA m15, oA m16, oI (1 : Int32), oA b55, oA b57, oA b57, oI (0 : Int32), oU] X58 hx hby at_183 rfl rfl ?_
  refine own_goto 191 X58 hx hby at_185 (by decide) (by decide) ?_
  refine own_aload 193 X58 hx hby at_191 rfl rfl rfl ?_
  refine own_aload 195 X58 hx hby at_193 rfl rfl rfl ?_
  refine own_virt (W := 0) 198 (rm7_11 l Z a0 hw [] w_EXCLUSIVE w_SHARED w_cache W b55 m15 b57 m16 y7 x11 y9 x12 T58.heap n0 O58 E_b55_58 F_b55_mode_58 F_b55_number_58 F_b55_participant_58 n_b55 EZ_m15 E_b57_58 F_b57_mode_58 F_b57_number_58 F_b57_participant_58 n_b57 EZ_m16 ne_b55_b57 hc59) X58 hx hby hZ hown (own_w hw 45 rfl) (own_w hw 46 rfl) (notFace_of_selects (args := #[]) (mvT hZ (own_w hw 48 rfl))) (own_w hw 48 rfl) (own_w hw 47 rfl) (own_w hw 18 rfl) (own_w hw 49 rfl) (by decide) (by rw [hml]; rfl) b55 [(.ref b57)] [] pd_5 rfl at_195 rfl rfl E_b55_58 rfl rfl rfl (by decide) (by decide) (by decide) (by decide) ?_
  rintro _ T65 L65 X65 ⟨rfl, N65, e65⟩
  have N65 := Fr.app N58 N65
  show Go p e below _ (T65.setTop (mkF m 198 _ [(.int (0 : Int32))]))
  refine own_istore 200 #[oJ y0, oS, oJ y2, oS, oI x4, oI x5, oI x6, oJ y7, oS, oJ y9, oS, oI x11, oI x12, oI x13, oI x14, oA m15, oA m16, oI (1 : Int32), oA b55, oA b57, oA b57, oI (0 : Int32), oI (0 : Int32)] X65 hx hby at_198 rfl rfl ?_
  refine own_iload 202 X65 hx hby at_200 rfl rfl ?_
  refine own_iload 204 X65 hx hby at_202 rfl rfl ?_
  refine own_icY 209 X65 hx hby at_204 (by decide) (by decide) (by decide) ?_
  refine own_iload 211 X65 hx hby at_209 rfl rfl ?_
  refine own_iconst 212 (2 : Int32) X65 hx hby at_211 rfl (by decide) ?_
  refine own_icN 215 X65 hx hby at_212 rfl (by decide) ?_
  refine own_aload 217 X65 hx hby at_215 rfl rfl rfl ?_
  refine own_aload 219 X65 hx hby at_217 rfl rfl rfl ?_
  refine own_virt (W := 0) 222 (rm7_11 l Z a0 hw [] w_EXCLUSIVE w_SHARED w_cache W b57 m16 b55 m15 y9 x12 y7 x11 T58.heap n0 O58 E_b57_58 F_b57_mode_58 F_b57_number_58 F_b57_participant_58 n_b57 EZ_m16 E_b55_58 F_b55_mode_58 F_b55_number_58 F_b55_participant_58 n_b55 EZ_m15 (Ne.symm ne_b55_b57) (fun q => hc59 q.symm)) X65 hx hby hZ hown (own_w hw 45 rfl) (own_w hw 46 rfl) (notFace_of_selects (args := #[]) (mvT hZ (own_w hw 48 rfl))) (own_w hw 48 rfl) (own_w hw 47 rfl) (own_w hw 18 rfl) (own_w hw 49 rfl) (by decide) (by rw [hml]; rfl) b57 [(.ref b55)] [] pd_5 rfl at_219 rfl e65 E_b57_58 rfl rfl rfl (by decide) (by decide) (by decide) (by decide) ?_
  rintro _ T66 L66 X66 ⟨rfl, N66, e66⟩
  have N66 := Fr.app N65 N66
  show Go p e below _ (T66.setTop (mkF m 222 _ [(.int (0 : Int32))]))
  refine own_iload 224 X66 hx hby at_222 rfl rfl ?_
  refine own_icN 227 X66 hx hby at_224 rfl (by decide) ?_
  refine own_iconst 228 (1 : Int32) X66 hx hby at_227 rfl (by decide) ?_
  refine own_goto 232 X66 hx hby at_228 (by decide) (by decide) ?_
  exact own_retW (Q := own_Q1 n0) X66 hx hby hret hlk hS (by rw [e66]; exact hk) at_232 rfl (Or.inl ⟨rfl, by simp, _, rfl⟩) (by decide) (by decide) ⟨rfl, N66⟩
set_option maxRecDepth 65536 in
set_option maxHeartbeats 40000000 in
theorem rm7_12 (l : Launch) (Z : State) (a0 : Array Value) (hw : ∀ d ∈ tables_1, d.before a0 Z = true) (ws : List Jvm.Cond) (w_EXCLUSIVE w_SHARED w_cache : Addr) (W : own_W Z w_EXCLUSIVE w_SHARED w_cache) (c0 : Addr) (c1 : Addr) (y0 : Int64) (x1 : Int32) (h0 : Heap) (n0 : Nat) (O0 : Old Z n0 h0) (E_c0 : Exa Z h0 c0 "com/example/bare_turnstile/bareturnstile/Ticket") (F_c0_mode : Fld Z h0 c0 "com/example/bare_turnstile/bareturnstile/Ticket" "mode" "Lcom/example/bare_turnstile/bareturnstile/EntryMode;" (.ref c1)) (F_c0_number : Fld Z h0 c0 "com/example/bare_turnstile/bareturnstile/Ticket" "number" "J" (.long y0)) (F_c0_participant : Fld Z h0 c0 "com/example/bare_turnstile/bareturnstile/Ticket" "participant" "I" (.int x1)) (n_c0 : n0 ≤ c0) (EZ_c1 : Exa Z Z.heap c1 "com/example/bare_turnstile/bareturnstile/EntryMode") :
    MetFree l (⟨"com/example/bare_turnstile/bareturnstile/Ticket", "equals", "(Ljava/lang/Object;)Z"⟩ : MethodName) (head1 (Jvm.Cond.code (⟨"com/example/bare_turnstile/bareturnstile/Ticket", "equals", "(Ljava/lang/Object;)Z"⟩ : MethodName) prog_19_method_8_code 3 (some .boolean) :: ws) ({ frames := 0, cells := 0, slots := 0, locals := 0 } : Room)) (fun a U => a = #[(.ref c0), .null] ∧ Z.Warmed39 U.vm ∧ U.heap = h0) (fun _ _ _ _ _ => True) (fun _ U o U' => ∃ v L, o = .returned v ∧ own_Q (some (.int (0 : Int32))) n0 h0 v U'.heap L ∧ FrameEnd U o U' L ({ frames := 0, cells := 0, slots := 0, locals := 0 } : Room).cells ({ frames := 0, cells := 0, slots := 0, locals := 0 } : Room).slots) := by
  refine MetFree.of_bodySF (plainFor_of_name pn_2) hisR ?_
  intro p e s m args below meth c s₁ Bd hml0 hP hK
  obtain ⟨rfl, hZ, hh⟩ := hP
  have hx := Bd.exec
  have hby := Bd.bytes
  have hml : c.maxLocals = 3 := hml0
  have hlk := BodyLoose.notSynchronized Bd
  have hret := Bd.returns
  have hown : s.vm.findClass "com/example/bare_turnstile/bareturnstile/Ticket" = some m.cls := findClass_of_methodNamed Bd.named
  have hnm := (name_of_methodNamed Bd.named Bd.method).1
  have X0 : Stand p l e ({ frames := 0, cells := 0, slots := 0, locals := 0 } : Room) s m #[(.ref c0), .null] below meth c s₁ [] 0 0 := Stand.of_body Bd
  have e0 : s₁.heap = h0 := by rw [← hh, Bd.state]; rfl
  have N0 := Fr.nil n0
  rw [ef_7n1 m c0]
  show Go p e below _ (s₁.setTop (mkF m 0 #[oA c0, oN, oU] []))
  refine own_aload_n 1 X0 hx hby d7_0 rfl rfl rfl ?_
  refine own_inst0 4 X0 hx hby d7_1 rfl ?_
  refine own_ifN 7 X0 hx hby d7_4 rfl (by decide) ?_
  refine own_iconst 8 (0 : Int32) X0 hx hby d7_7 rfl (by decide) ?_
  exact own_ret (Q := own_Q (some (.int (0 : Int32))) n0 h0) X0 hx hby hret hlk d7_8 rfl (Or.inl ⟨rfl, by simp, _, rfl⟩) (by decide) (by decide) ⟨rfl, N0, e0⟩
set_option maxRecDepth 65536 in
set_option maxHeartbeats 40000000 in
theorem cut_88_4 (l : Launch) (Z : State) (a0 : Array Value) (hw : ∀ d ∈ tables_1, d.before a0 Z = true) (w_EXCLUSIVE w_SHARED w_cache : Addr) (W : own_W Z w_EXCLUSIVE w_SHARED w_cache) (y0 : Int64) (y2 : Int64) (x4 : Int32) (x5 : Int32) (x6 : Int32) (y7 : Int64) (y9 : Int64) (x11 : Int32) (x12 : Int32) (x13 : Int32) (x14 : Int32) (m15 : Addr) (m16 : Addr) (h0 : Heap) (n0 : Nat) (O0 : Old Z n0 h0) (EZ_m15 : Exa Z Z.heap m15 "com/example/bare_turnstile/bareturnstile/EntryMode") (EZ_m16 : Exa Z Z.heap m16 "com/example/bare_turnstile/bareturnstile/EntryMode") (hq0 : ¬ (y7 < (1 : Int64))) (hq1 : ¬ (y9 < (1 : Int64))) (hq2 : ¬ (x11 < (0 : Int32))) (hq3 : ¬ (x12 < (0 : Int32))) (hq4 : x13 = x14) (hq5 : m15 = m16) {p : Program} {e : Env} {s : State} {m : MethodId} {args : Array Value} {below : List Frame} {meth : Method} {c : Code} {T : State} {vm0 : Vm} {locs : List Loc} {k0 : Nat}
    (X0 : Stand p l e room_1 (s.setVm vm0) m args below meth c T locs 0 0) (hx : p.tables.exec = Jvm.exec) (hby : c.code = code) (hml : c.maxLocals = 23) (hret : meth.sig.returnType = some .boolean) (hlk : meth.locks = false) (hZ : Z.Warmed39 (s.setVm vm0).vm) (hown : (s.setVm vm0).vm.findClass "com/example/bare_turnstile/bareturnstile/TicketEqualsPinLaw" = some m.cls) (e0 : T.heap = h0) (N0 : Fr n0 locs) (hS : s.Since vm0 k0) (hk : k0 ≤ h0.size) :
    Go p e below (fun s₂ o => s₂.status = .running ∧ Ended s₂ below o ∧ ∃ v L, o = .returned v ∧ own_Q1 n0 v s₂.heap L ∧ ReturnedEndW s o s₂ L 16 1152) (T.setTop (mkF m 88 #[oJ y0, oS, oJ y2, oS, oI x4, oI x5, oI x6, oJ y7, oS, oJ y9, oS, oI x11, oI x12, oI x13, oI x14, oA m15, oA m16, oI (2 : Int32), oU, oU, oU, oU, oU] [])) := by
  refine own_new 91 3 X0 hx hby hZ hown (own_w hw 16 rfl) (own_w hw 17 rfl) (own_w hw 18 rfl) e0 at_88 rfl (by decide) (by decide) ?_
  intro T67 h67 b67 X67 e67 E67 g67 A67 D67
  have n_b67 : n0 ≤ b67 := Nat.le_trans (own_n0 O0) (Nat.le_of_eq g67.symm)
  have O67 := O0.ext E67
  have hk := Nat.le_trans hk E67.1
  have F_b67_number : Fld Z h67 b67 "com/example/bare_turnstile/bareturnstile/Ticket" "number" "J" (.long (0 : Int64)) := D67 (Or.inr (own_w hw 26 rfl)) (ty := .long) (by decide)
  have F_b67_participant : Fld Z h67 b67 "com/example/bare_turnstile/bareturnstile/Ticket" "participant" "I" (.int (0 : Int32)) := D67 (Or.inr (own_w hw 28 rfl)) (ty := .int) (by decide)
  have F_b67_mode : Fld Z h67 b67 "com/example/bare_turnstile/bareturnstile/Ticket" "mode" "Lcom/example/bare_turnstile/bareturnstile/EntryMode;" .null := D67 (Or.inr (own_w hw 44 rfl)) (ty := (.object "com/example/bare_turnstile/bareturnstile/EntryMode")) (by decide)
  refine own_dup 92 X67 hx hby at_91 rfl rfl ?_
  refine own_lload 94 X67 hx hby at_92 rfl rfl ?_
  refine own_iload 96 X67 hx hby at_94 rfl rfl ?_
  refine own_aload 98 X67 hx hby at_96 rfl rfl rfl ?_
  refine own_specS (W := 1) 101 (rm4_7 l Z a0 hw [] w_EXCLUSIVE w_SHARED w_cache W b67 m15 y7 x11 h67 n0 O67 A67 F_b67_mode F_b67_number F_b67_participant n_b67 EZ_m15 hq0 hq2) X67 hx hby hZ hown rfl (own_w hw 19 rfl) (own_w hw 20 rfl) (own_w hw 18 rfl) (own_w hw 21 rfl) (by decide) (by rw [hml]; rfl) b67 [(.long y7), (.int x11), (.ref m15)] [(.ref b67)] pd_4 rfl at_98 rfl e67 rfl rfl rfl (by decide) (by decide) (by decide) (by decide) hS hk ?_
  rintro _ T68 L68 X68 ⟨rfl, N68, Kc68, E_b67_68, F_b67_mode_68, F_b67_number_68, F_b67_participant_68⟩ hS hZ hown
  have N68 := Fr.app N0 N68
  have O68 := O67.keep Kc68 (allS n_b67 all0)
  have hk := Nat.le_refl T68.heap.size
  show Go p e below _ (T68.setTop (mkF m 101 _ [(.ref b67)]))
  refine own_astore 103 #[oJ y0, oS, oJ y2, oS, oI x4, oI x5, oI x6, oJ y7, oS, oJ y9, oS, oI x11, oI x12, oI x13, oI x14, oA m15, oA m16, oI (2 : Int32), oA b67, oU, oU, oU, oU] X68 hx hby at_101 rfl rfl rfl ?_
  refine own_new 106 3 X68 hx hby hZ hown (own_w hw 16 rfl) (own_w hw 17 rfl) (own_w hw 18 rfl) rfl at_103 rfl (by decide) (by decide) ?_
  intro T69 h69 b69 X69 e69 E69 g69 A69 D69
  have ne_b67_b69 : b67 ≠ b69 := Nat.ne_of_lt (Nat.lt_of_lt_of_le E_b67_68.lt (Nat.le_of_eq g69.symm))
  have n_b69 : n0 ≤ b69 := Nat.le_trans (own_n0 O68) (Nat.le_of_eq g69.symm)
  have E_b67_69 := E_b67_68.ext E69
  have F_b67_mode_69 := F_b67_mode_68.ext E69
  have F_b67_number_69 := F_b67_number_68.ext E69
  have F_b67_participant_69 := F_b67_participant_68.ext E69
  have O69 := O68.ext E69
  have hk := Nat.le_trans hk E69.1
  have F_b69_number : Fld Z h69 b69 "com/example/bare_turnstile/bareturnstile/Ticket" "number" "J" (.long (0 : Int64)) := D69 (Or.inr (own_w hw 26 rfl)) (ty := .long) (by decide)
  have F_b69_participant : Fld Z h69 b69 "com/example/bare_turnstile/bareturnstile/Ticket" "participant" "I" (.int (0 : Int32)) := D69 (Or.inr (own_w hw 28 rfl)) (ty := .int) (by decide)
  have F_b69_mode : Fld Z h69 b69 "com/example/bare_turnstile/bareturnstile/Ticket" "mode" "Lcom/example/bare_turnstile/bareturnstile/EntryMode;" .null := D69 (Or.inr (own_w hw 44 rfl)) (ty := (.object "com/example/bare_turnstile/bareturnstile/EntryMode")) (by decide)
  refine own_dup 107 X69 hx hby at_106 rfl rfl ?_
  refine own_lload 109 X69 hx hby at_107 rfl rfl ?_
  refine own_iload 111 X69 hx hby at_109 rfl rfl ?_
  refine own_aload 113 X69 hx hby at_111 rfl rfl rfl ?_
  refine own_specS (W := 1) 116 (rm4_7 l Z a0 hw [] w_EXCLUSIVE w_SHARED w_cache W b69 m16 y9 x12 h69 n0 O69 A69 F_b69_mode F_b69_number F_b69_participant n_b69 EZ_m16 hq1 hq3) X69 hx hby hZ hown rfl (own_w hw 19 rfl) (own_w hw 20 rfl) (own_w hw 18 rfl) (own_w hw 21 rfl) (by decide) (by rw [hml]; rfl) b69 [(.long y9), (.int x12), (.ref m16)] [(.ref b69)] pd_4 rfl at_113 rfl e69 rfl rfl rfl (by decide) (by decide) (by decide) (by decide) hS hk ?_
  rintro _ T70 L70 X70 ⟨rfl, N70, Kc70, E_b69_70, F_b69_mode_70, F_b69_number_70, F_b69_participant_70⟩ hS hZ hown
  have N70 := Fr.app N68 N70
  have E_b67_70 := E_b67_69.keep Kc70
  have F_b67_mode_70 := F_b67_mode_69.keep Kc70 (ninS ne_b67_b69 nin0)
  have F_b67_number_70 := F_b67_number_69.keep Kc70 (ninS ne_b67_b69 nin0)
  have F_b67_participant_70 := F_b67_participant_69.keep Kc70 (ninS ne_b67_b69 nin0)
  have O70 := O69.keep Kc70 (allS n_b69 all0)
  have hk := Nat.le_refl T70.heap.size
  show Go p e below _ (T70.setTop (mkF m 116 _ [(.ref b69)]))
  refine own_astore 118 #[oJ y0, oS, oJ y2, oS, oI x4, oI x5, oI x6, oJ y7, oS, oJ y9, oS, oI x11, oI x12, oI x13, oI x14, oA m15, oA m16, oI (2 : Int32), oA b67, oA b69, oU, oU, oU] X70 hx hby at_116 rfl rfl rfl ?_
  refine own_iload 120 X70 hx hby at_118 rfl rfl ?_
  refine own_iconst 121 (2 : Int32) X70 hx hby at_120 rfl (by decide) ?_
  refine own_icY 131 X70 hx hby at_121 (by decide) (by decide) (by decide) ?_
  refine own_iload 133 X70 hx hby at_131 rfl rfl ?_
  refine own_iconst 134 (2 : Int32) X70 hx hby at_133 rfl (by decide) ?_
  refine own_icN 137 X70 hx hby at_134 rfl (by decide) ?_
  refine own_null 138 X70 hx hby at_137 rfl ?_
  refine own_astore 140 #[oJ y0, oS, oJ y2, oS, oI x4, oI x5, oI x6, oJ y7, oS, oJ y9, oS, oI x11, oI x12, oI x13, oI x14, oA m15, oA m16, oI (2 : Int32), oA b67, oA b69, oN, oU, oU] X70 hx hby at_138 rfl rfl rfl ?_
  refine own_goto 150 X70 hx hby at_140 (by decide) (by decide) ?_
  refine own_iload 152 X70 hx hby at_150 rfl rfl ?_
  refine own_iconst 153 (2 : Int32) X70 hx hby at_152 rfl (by decide) ?_
  refine own_icY 188 X70 hx hby at_153 (by decide) (by decide) (by decide) ?_
  refine own_iconst 189 (0 : Int32) X70 hx hby at_188 rfl (by decide) ?_
  refine own_istore 191 #[oJ y0, oS, oJ y2, oS, oI x4, oI x5, oI x6, oJ y7, oS, oJ y9, oS, oI x11, oI x12, oI x13, oI x14, oA m15, oA m16, oI (2 : Int32), oA b67, oA b69, oN, oI (0 : Int32), oU] X70 hx hby at_189 rfl rfl ?_
  refine own_aload 193 X70 hx hby at_191 rfl rfl rfl ?_
  refine own_aload 195 X70 hx hby at_193 rfl rfl rfl ?_
  refine own_virt (W := 0) 198 (rm7_12 l Z a0 hw [] w_EXCLUSIVE w_SHARED w_cache W b67 m15 y7 x11 T70.heap n0 O70 E_b67_70 F_b67_mode_70 F_b67_number_70 F_b67_participant_70 n_b67 EZ_m15) X70 hx hby hZ hown (own_w hw 45 rfl) (own_w hw 46 rfl) (notFace_of_selects (args := #[]) (mvT hZ (own_w hw 48 rfl))) (own_w hw 48 rfl) (own_w hw 47 rfl) (own_w hw 18 rfl) (own_w hw 49 rfl) (by decide) (by rw [hml]; rfl) b67 [.null] [] pd_5 rfl at_195 rfl rfl E_b67_70 rfl rfl rfl (by decide) (by decide) (by decide) (by decide) ?_
  rintro _ T72 L72 X72 ⟨rfl, N72, e72⟩
  have N72 := Fr.app N70 N72
  show Go p e below _ (T72.setTop (mkF m 198 _ [(.int (0 : Int32))]))
  refine own_istore 200 #[oJ y0, oS, oJ y2, oS, oI x4, oI x5, oI x6, oJ y7, oS, oJ y9, oS, oI x11, oI x12, oI x13, oI x14, oA m15, oA m16, oI (2 : Int32), oA b67, oA b69, oN, oI (0 : Int32), oI (0 : Int32)] X72 hx hby at_198 rfl rfl ?_
  refine own_iload 202 X72 hx hby at_200 rfl rfl ?_
  refine own_iload 204 X72 hx hby at_202 rfl rfl ?_
  refine own_icY 209 X72 hx hby at_204 (by decide) (by decide) (by decide) ?_
  refine own_iload 211 X72 hx hby at_209 rfl rfl ?_
  refine own_iconst 212 (2 : Int32) X72 hx hby at_211 rfl (by decide) ?_
  refine own_icY 233 X72 hx hby at_212 (by decide) (by decide) (by decide) ?_
  refine own_iconst 234 (1 : Int32) X72 hx hby at_233 rfl (by decide) ?_
  exact own_retW (Q := own_Q1 n0) X72 hx hby hret hlk hS (by rw [e72]; exact hk) at_234 rfl (Or.inl ⟨rfl, by simp, _, rfl⟩) (by decide) (by decide) ⟨rfl, N72⟩
set_option maxRecDepth 65536 in
set_option maxHeartbeats 40000000 in
theorem rm10_13 (l : Launch) (Z : State) (a0 : Array Value) (hw : ∀ d ∈ tables_1, d.before a0 Z = true) (ws : List Jvm.Cond) (w_EXCLUSIVE w_SHARED w_cache : Addr) (W : own_W Z w_EXCLUSIVE w_SHARED w_cache) (c0 : Addr) (h0 : Heap) (n0 : Nat) (O0 : Old Z n0 h0) (E_c0 : Exa Z h0 c0 "java/lang/Long") (F_c0_value : Fld Z h0 c0 "java/lang/Long" "value" "J" (.long (0 : Int64))) (n_c0 : n0 ≤ c0) :
    MetFree l (⟨"java/lang/Number", "<init>", "()V"⟩ : MethodName) (head1 (Jvm.Cond.code (⟨"java/lang/Number", "<init>", "()V"⟩ : MethodName) jdk_18_method_1_code 1 none :: ws) ({ frames := 1, cells := 0, slots := 0, locals := 12 } : Room)) (fun a U => a = #[(.ref c0)] ∧ Z.Warmed39 U.vm ∧ U.heap = h0) (fun _ _ _ _ _ => True) (fun _ U o U' => ∃ v L, o = .returned v ∧ own_Q none n0 h0 v U'.heap L ∧ FrameEnd U o U' L ({ frames := 1, cells := 0, slots := 0, locals := 12 } : Room).cells ({ frames := 1, cells := 0, slots := 0, locals := 12 } : Room).slots) := by
  refine MetFree.of_bodySF (plainFor_of_name pn_3) hisR ?_
  intro p e s m args below meth c s₁ Bd hml0 hP hK
  obtain ⟨rfl, hZ, hh⟩ := hP
  have hx := Bd.exec
  have hby := Bd.bytes
  have hml : c.maxLocals = 1 := hml0
  have hlk := BodyLoose.notSynchronized Bd
  have hret := Bd.returns
  have hown : s.vm.findClass "java/lang/Number" = some m.cls := findClass_of_methodNamed Bd.named
  have hnm := (name_of_methodNamed Bd.named Bd.method).1
  have X0 : Stand p l e ({ frames := 1, cells := 0, slots := 0, locals := 12 } : Room) s m #[(.ref c0)] below meth c s₁ [] 0 0 := Stand.of_body Bd
  have e0 : s₁.heap = h0 := by rw [← hh, Bd.state]; rfl
  have N0 := Fr.nil n0
  rw [ef_10 m c0]
  show Go p e below _ (s₁.setTop (mkF m 0 #[oA c0] []))
  refine own_aload_n 1 X0 hx hby d10_0 rfl rfl rfl ?_
  refine own_initO 4 0 X0 hx hby hZ hown (own_w hw 72 rfl) (own_w hw 23 rfl) (own_w hw 24 rfl) (by rw [hml]; rfl) d10_1 rfl e0 rfl (by decide) (by decide) ?_
  intro T79 X79 e79
  exact own_ret0 (Q := own_Q none n0 h0) X79 hx hby hret hlk d10_4 (by decide) (by decide) ⟨rfl, N0, e79⟩
def Q_rm9_14 (Z : State) (w_EXCLUSIVE w_SHARED w_cache : Addr) (c0 : Addr) (y0 : Int64) (h0 : Heap) (n0 : Nat) (v : Option Value) (h : Heap) (L : List Loc) : Prop := v = none ∧ Fr n0 L ∧ Keep h0 h [c0] ∧ Exa Z h c0 "java/lang/Long" ∧ Fld Z h c0 "java/lang/Long" "value" "J" (.long y0)
set_option maxRecDepth 65536 in
set_option maxHeartbeats 40000000 in
theorem rm9_14 (l : Launch) (Z : State) (a0 : Array Value) (hw : ∀ d ∈ tables_1, d.before a0 Z = true) (ws : List Jvm.Cond) (w_EXCLUSIVE w_SHARED w_cache : Addr) (W : own_W Z w_EXCLUSIVE w_SHARED w_cache) (c0 : Addr) (y0 : Int64) (h0 : Heap) (n0 : Nat) (O0 : Old Z n0 h0) (E_c0 : Exa Z h0 c0 "java/lang/Long") (F_c0_value : Fld Z h0 c0 "java/lang/Long" "value" "J" (.long (0 : Int64))) (n_c0 : n0 ≤ c0) :
    MetFree l (⟨"java/lang/Long", "<init>", "(J)V"⟩ : MethodName) (head1 (Jvm.Cond.code (⟨"java/lang/Long", "<init>", "(J)V"⟩ : MethodName) jdk_35_method_26_code 3 none :: ws) ({ frames := 2, cells := 0, slots := 0, locals := 24 } : Room)) (fun a U => a = #[(.ref c0), (.long y0)] ∧ Z.Warmed39 U.vm ∧ U.heap = h0) (fun _ _ _ _ _ => True) (fun _ U o U' => ∃ v L, o = .returned v ∧ Q_rm9_14 Z w_EXCLUSIVE w_SHARED w_cache c0 y0 h0 n0 v U'.heap L ∧ FrameEnd U o U' L ({ frames := 2, cells := 0, slots := 0, locals := 24 } : Room).cells ({ frames := 2, cells := 0, slots := 0, locals := 24 } : Room).slots) := by
  refine MetFree.of_bodySF (plainFor_of_name pn_4) hisR ?_
  intro p e s m args below meth c s₁ Bd hml0 hP hK
  obtain ⟨rfl, hZ, hh⟩ := hP
  have hx := Bd.exec
  have hby := Bd.bytes
  have hml : c.maxLocals = 3 := hml0
  have hlk := BodyLoose.notSynchronized Bd
  have hret := Bd.returns
  have hown : s.vm.findClass "java/lang/Long" = some m.cls := findClass_of_methodNamed Bd.named
  have hnm := (name_of_methodNamed Bd.named Bd.method).1
  have X0 : Stand p l e ({ frames := 2, cells := 0, slots := 0, locals := 24 } : Room) s m #[(.ref c0), (.long y0)] below meth c s₁ [] 0 0 := Stand.of_body Bd
  have e0 : s₁.heap = h0 := by rw [← hh, Bd.state]; rfl
  have N0 := Fr.nil n0
  rw [ef_9 m c0 y0]
  show Go p e below _ (s₁.setTop (mkF m 0 #[oA c0, oJ y0, oS] []))
  refine own_aload_n 1 X0 hx hby d9_0 rfl rfl rfl ?_
  refine own_spec (W := 0) 4 (rm10_13 l Z a0 hw [] w_EXCLUSIVE w_SHARED w_cache W c0 h0 n0 O0 E_c0 F_c0_value n_c0) X0 hx hby hZ hown rfl (own_w hw 66 rfl) (own_w hw 67 rfl) (own_w hw 70 rfl) (own_w hw 71 rfl) (by decide) (by rw [hml]; rfl) c0 [] [] pd_6 rfl d9_1 rfl e0 rfl rfl rfl (by decide) (by decide) (by decide) (by decide) ?_
  rintro _ T80 L80 X80 ⟨rfl, N80, e80⟩
  have N80 := Fr.app N0 N80
  show Go p e below _ (T80.setTop (mkF m 4 _ []))
  refine own_aload_n 5 X80 hx hby d9_4 rfl rfl rfl ?_
  refine own_lload_n 6 X80 hx hby d9_5 rfl rfl ?_
  refine own_putF 9 X80 hx hby hZ .long hown (own_w hw 73 rfl) e80 F_c0_value E_c0 (Or.inr ⟨(own_w hw 74 rfl), rfl, hnm⟩) (own_w hw 61 rfl) (by decide) rfl rfl d9_6 rfl ?_
  intro T81 h81 X81 e81 W81
  have E_c0_81 := E_c0.wr W81
  have F_c0_value_81 := F_c0_value.same W81
  have K81 : Keep h0 h81 [c0] := (Keep.refl h0 [c0]).wr W81 (Or.inl (List.mem_of_getElem? (i := 0) rfl))
  have O81 := O0.wr W81 n_c0
  have N81 := Fr.snoc X81 N80 n_c0
  exact own_ret0 (Q := Q_rm9_14 Z w_EXCLUSIVE w_SHARED w_cache c0 y0 h0 n0) X81 hx hby hret hlk d9_9 (by decide) (by decide) (by rw [e81]; exact ⟨rfl, N81, K81, E_c0_81, F_c0_value_81⟩)
set_option maxRecDepth 65536 in
set_option maxHeartbeats 40000000 in
theorem rm8_15 (l : Launch) (Z : State) (a0 : Array Value) (hw : ∀ d ∈ tables_1, d.before a0 Z = true) (ws : List Jvm.Cond) (w_EXCLUSIVE w_SHARED w_cache : Addr) (W : own_W Z w_EXCLUSIVE w_SHARED w_cache) (y0 : Int64) (h0 : Heap) (n0 : Nat) (O0 : Old Z n0 h0) (hc77 : y0 < (-128 : Int64)) :
    MetFree l (⟨"java/lang/Long", "valueOf", "(J)Ljava/lang/Long;"⟩ : MethodName) (head1 (Jvm.Cond.code (⟨"java/lang/Long", "valueOf", "(J)Ljava/lang/Long;"⟩ : MethodName) jdk_35_method_24_code 3 (some (.object "java/lang/Long")) :: ws) ({ frames := 3, cells := 1, slots := 1, locals := 39 } : Room)) (fun a U => a = #[(.long y0)] ∧ Z.Warmed39 U.vm ∧ U.heap = h0) (fun _ _ _ _ _ => True) (fun _ U o U' => ∃ v L, o = .returned v ∧ own_QL Z n0 h0 v U'.heap L ∧ FrameEnd U o U' L ({ frames := 3, cells := 1, slots := 1, locals := 39 } : Room).cells ({ frames := 3, cells := 1, slots := 1, locals := 39 } : Room).slots) := by
  refine MetFree.of_bodySF (plainFor_of_name pn_4) hisR ?_
  intro p e s m args below meth c s₁ Bd hml0 hP hK
  obtain ⟨rfl, hZ, hh⟩ := hP
  have hx := Bd.exec
  have hby := Bd.bytes
  have hml : c.maxLocals = 3 := hml0
  have hlk := BodyLoose.notSynchronized Bd
  have hret := Bd.returns
  have hown : s.vm.findClass "java/lang/Long" = some m.cls := findClass_of_methodNamed Bd.named
  have hnm := (name_of_methodNamed Bd.named Bd.method).1
  have X0 : Stand p l e ({ frames := 3, cells := 1, slots := 1, locals := 39 } : Room) s m #[(.long y0)] below meth c s₁ [] 0 0 := Stand.of_body Bd
  have e0 : s₁.heap = h0 := by rw [← hh, Bd.state]; rfl
  have N0 := Fr.nil n0
  rw [ef_8 m y0]
  show Go p e below _ (s₁.setTop (mkF m 0 #[oJ y0, oS, oU] []))
  refine own_sipush 3 (128 : Int32) X0 hx hby d8_0 rfl (by decide) ?_
  refine own_istore_n 4 #[oJ y0, oS, oI (128 : Int32)] X0 hx hby d8_3 rfl rfl ?_
  refine own_lload_n 5 X0 hx hby d8_4 rfl rfl ?_
  refine own_ldc2 8 X0 hx hby hZ hown (own_w hw 58 rfl) d8_5 rfl ?_
  refine own_lcmp 9 (XT.cmpL y0 (-128 : Int64)) X0 hx hby d8_8 rfl rfl ?_
  refine own_ifY 31 X0 hx hby d8_9 (by decide) (by decide) (own_tltL hc77).1 ?_
  refine own_new 34 1 X0 hx hby hZ hown (own_w hw 60 rfl) (own_w hw 61 rfl) (own_w hw 56 rfl) e0 d8_31 rfl (by decide) (by decide) ?_
  intro T78 h78 b78 X78 e78 E78 g78 A78 D78
  have n_b78 : n0 ≤ b78 := Nat.le_trans (own_n0 O0) (Nat.le_of_eq g78.symm)
  have sz_b78 : h0.size ≤ b78 := Nat.le_trans (Keep.refl h0 []).1 (Nat.le_of_eq g78.symm)
  have K78 : Keep h0 h78 [] := (Keep.refl h0 []).ext E78
  have O78 := O0.ext E78
  have F_b78_value : Fld Z h78 b78 "java/lang/Long" "value" "J" (.long (0 : Int64)) := D78 (Or.inr (own_w hw 74 rfl)) (ty := .long) (by decide)
  refine own_dup 35 X78 hx hby d8_34 rfl rfl ?_
  refine own_lload_n 36 X78 hx hby d8_35 rfl rfl ?_
  refine own_spec (W := 1) 39 (rm9_14 l Z a0 hw [] w_EXCLUSIVE w_SHARED w_cache W b78 y0 h78 n0 O78 A78 F_b78_value n_b78) X78 hx hby hZ hown rfl (own_w hw 62 rfl) (own_w hw 63 rfl) (own_w hw 56 rfl) (own_w hw 65 rfl) (by decide) (by rw [hml]; rfl) b78 [(.long y0)] [(.ref b78)] pd_7 rfl d8_36 rfl e78 rfl rfl rfl (by decide) (by decide) (by decide) (by decide) ?_
  rintro _ T82 L82 X82 ⟨rfl, N82, Kc82, E_b78_82, F_b78_value_82⟩
  have N82 := Fr.app N0 N82
  have K82 : Keep h0 T82.heap [] := K78.trans Kc82 (allS (Or.inr sz_b78) all0)
  have O82 := O78.keep Kc82 (allS n_b78 all0)
  show Go p e below _ (T82.setTop (mkF m 39 _ [(.ref b78)]))
  exact own_ret (Q := own_QL Z n0 h0) X82 hx hby hret hlk d8_39 rfl (Or.inr (Or.inr (Or.inr (Or.inr ⟨rfl, rfl, rfl⟩)))) (by decide) (by decide) ⟨b78, rfl, N82, K82, E_b78_82⟩
set_option maxRecDepth 65536 in
set_option maxHeartbeats 40000000 in
theorem rm8_16 (l : Launch) (Z : State) (a0 : Array Value) (hw : ∀ d ∈ tables_1, d.before a0 Z = true) (ws : List Jvm.Cond) (w_EXCLUSIVE w_SHARED w_cache : Addr) (W : own_W Z w_EXCLUSIVE w_SHARED w_cache) (y0 : Int64) (h0 : Heap) (n0 : Nat) (O0 : Old Z n0 h0) (hc77 : ¬ (y0 < (-128 : Int64))) (hc83 : (127 : Int64) < y0) :
    MetFree l (⟨"java/lang/Long", "valueOf", "(J)Ljava/lang/Long;"⟩ : MethodName) (head1 (Jvm.Cond.code (⟨"java/lang/Long", "valueOf", "(J)Ljava/lang/Long;"⟩ : MethodName) jdk_35_method_24_code 3 (some (.object "java/lang/Long")) :: ws) ({ frames := 3, cells := 1, slots := 1, locals := 39 } : Room)) (fun a U => a = #[(.long y0)] ∧ Z.Warmed39 U.vm ∧ U.heap = h0) (fun _ _ _ _ _ => True) (fun _ U o U' => ∃ v L, o = .returned v ∧ own_QL Z n0 h0 v U'.heap L ∧ FrameEnd U o U' L ({ frames := 3, cells := 1, slots := 1, locals := 39 } : Room).cells ({ frames := 3, cells := 1, slots := 1, locals := 39 } : Room).slots) := by
  refine MetFree.of_bodySF (plainFor_of_name pn_4) hisR ?_
  intro p e s m args below meth c s₁ Bd hml0 hP hK
  obtain ⟨rfl, hZ, hh⟩ := hP
  have hx := Bd.exec
  have hby := Bd.bytes
  have hml : c.maxLocals = 3 := hml0
  have hlk := BodyLoose.notSynchronized Bd
  have hret := Bd.returns
  have hown : s.vm.findClass "java/lang/Long" = some m.cls := findClass_of_methodNamed Bd.named
  have hnm := (name_of_methodNamed Bd.named Bd.method).1
  have X0 : Stand p l e ({ frames := 3, cells := 1, slots := 1, locals := 39 } : Room) s m #[(.long y0)] below meth c s₁ [] 0 0 := Stand.of_body Bd
  have e0 : s₁.heap = h0 := by rw [← hh, Bd.state]; rfl
  have N0 := Fr.nil n0
  rw [ef_8 m y0]
  show Go p e below _ (s₁.setTop (mkF m 0 #[oJ y0, oS, oU] []))
  refine own_sipush 3 (128 : Int32) X0 hx hby d8_0 rfl (by decide) ?_
  refine own_istore_n 4 #[oJ y0, oS, oI (128 : Int32)] X0 hx hby d8_3 rfl rfl ?_
  refine own_lload_n 5 X0 hx hby d8_4 rfl rfl ?_
  refine own_ldc2 8 X0 hx hby hZ hown (own_w hw 58 rfl) d8_5 rfl ?_
  refine own_lcmp 9 (XT.cmpL y0 (-128 : Int64)) X0 hx hby d8_8 rfl rfl ?_
  refine own_ifN 12 X0 hx hby d8_9 rfl (own_fltL hc77).1 ?_
  refine own_lload_n 13 X0 hx hby d8_12 rfl rfl ?_
  refine own_ldc2 16 X0 hx hby hZ hown (own_w hw 59 rfl) d8_13 rfl ?_
  refine own_lcmp 17 (XT.cmpL y0 (127 : Int64)) X0 hx hby d8_16 rfl rfl ?_
  refine own_ifY 31 X0 hx hby d8_17 (by decide) (by decide) (own_tltL hc83).2.2.1 ?_
  refine own_new 34 1 X0 hx hby hZ hown (own_w hw 60 rfl) (own_w hw 61 rfl) (own_w hw 56 rfl) e0 d8_31 rfl (by decide) (by decide) ?_
  intro T84 h84 b84 X84 e84 E84 g84 A84 D84
  have n_b84 : n0 ≤ b84 := Nat.le_trans (own_n0 O0) (Nat.le_of_eq g84.symm)
  have sz_b84 : h0.size ≤ b84 := Nat.le_trans (Keep.refl h0 []).1 (Nat.le_of_eq g84.symm)
  have K84 : Keep h0 h84 [] := (Keep.refl h0 []).ext E84
  have O84 := O0.ext E84
  have F_b84_value : Fld Z h84 b84 "java/lang/Long" "value" "J" (.long (0 : Int64)) := D84 (Or.inr (own_w hw 74 rfl)) (ty := .long) (by decide)
  refine own_dup 35 X84 hx hby d8_34 rfl rfl ?_
  refine own_lload_n 36 X84 hx hby d8_35 rfl rfl ?_
  refine own_spec (W := 1) 39 (rm9_14 l Z a0 hw [] w_EXCLUSIVE w_SHARED w_cache W b84 y0 h84 n0 O84 A84 F_b84_value n_b84) X84 hx hby hZ hown rfl (own_w hw 62 rfl) (own_w hw 63 rfl) (own_w hw 56 rfl) (own_w hw 65 rfl) (by decide) (by rw [hml]; rfl) b84 [(.long y0)] [(.ref b84)] pd_7 rfl d8_36 rfl e84 rfl rfl rfl (by decide) (by decide) (by decide) (by decide) ?_
  rintro _ T85 L85 X85 ⟨rfl, N85, Kc85, E_b84_85, F_b84_value_85⟩
  have N85 := Fr.app N0 N85
  have K85 : Keep h0 T85.heap [] := K84.trans Kc85 (allS (Or.inr sz_b84) all0)
  have O85 := O84.keep Kc85 (allS n_b84 all0)
  show Go p e below _ (T85.setTop (mkF m 39 _ [(.ref b84)]))
  exact own_ret (Q := own_QL Z n0 h0) X85 hx hby hret hlk d8_39 rfl (Or.inr (Or.inr (Or.inr (Or.inr ⟨rfl, rfl, rfl⟩)))) (by decide) (by decide) ⟨b84, rfl, N85, K85, E_b84_85⟩
set_option maxRecDepth 65536 in
set_option maxHeartbeats 40000000 in
theorem rm8_17 (l : Launch) (Z : State) (a0 : Array Value) (hw : ∀ d ∈ tables_1, d.before a0 Z = true) (ws : List Jvm.Cond) (w_EXCLUSIVE w_SHARED w_cache : Addr) (W : own_W Z w_EXCLUSIVE w_SHARED w_cache) (y0 : Int64) (h0 : Heap) (n0 : Nat) (O0 : Old Z n0 h0) (hc77 : ¬ (y0 < (-128 : Int64))) (hc83 : ¬ ((127 : Int64) < y0)) :
    MetFree l (⟨"java/lang/Long", "valueOf", "(J)Ljava/lang/Long;"⟩ : MethodName) (head1 (Jvm.Cond.code (⟨"java/lang/Long", "valueOf", "(J)Ljava/lang/Long;"⟩ : MethodName) jdk_35_method_24_code 3 (some (.object "java/lang/Long")) :: ws) ({ frames := 0, cells := 0, slots := 0, locals := 0 } : Room)) (fun a U => a = #[(.long y0)] ∧ Z.Warmed39 U.vm ∧ U.heap = h0) (fun _ _ _ _ _ => True) (fun _ U o U' => ∃ v L, o = .returned v ∧ own_QL Z n0 h0 v U'.heap L ∧ FrameEnd U o U' L ({ frames := 0, cells := 0, slots := 0, locals := 0 } : Room).cells ({ frames := 0, cells := 0, slots := 0, locals := 0 } : Room).slots) := by
  refine MetFree.of_bodySF (plainFor_of_name pn_4) hisR ?_
  intro p e s m args below meth c s₁ Bd hml0 hP hK
  obtain ⟨rfl, hZ, hh⟩ := hP
  have hx := Bd.exec
  have hby := Bd.bytes
  have hml : c.maxLocals = 3 := hml0
  have hlk := BodyLoose.notSynchronized Bd
  have hret := Bd.returns
  have hown : s.vm.findClass "java/lang/Long" = some m.cls := findClass_of_methodNamed Bd.named
  have hnm := (name_of_methodNamed Bd.named Bd.method).1
  have X0 : Stand p l e ({ frames := 0, cells := 0, slots := 0, locals := 0 } : Room) s m #[(.long y0)] below meth c s₁ [] 0 0 := Stand.of_body Bd
  have e0 : s₁.heap = h0 := by rw [← hh, Bd.state]; rfl
  have N0 := Fr.nil n0
  rw [ef_8 m y0]
  show Go p e below _ (s₁.setTop (mkF m 0 #[oJ y0, oS, oU] []))
  refine own_sipush 3 (128 : Int32) X0 hx hby d8_0 rfl (by decide) ?_
  refine own_istore_n 4 #[oJ y0, oS, oI (128 : Int32)] X0 hx hby d8_3 rfl rfl ?_
  refine own_lload_n 5 X0 hx hby d8_4 rfl rfl ?_
  refine own_ldc2 8 X0 hx hby hZ hown (own_w hw 58 rfl) d8_5 rfl ?_
  refine own_lcmp 9 (XT.cmpL y0 (-128 : Int64)) X0 hx hby d8_8 rfl rfl ?_
  refine own_ifN 12 X0 hx hby d8_9 rfl (own_fltL hc77).1 ?_
  refine own_lload_n 13 X0 hx hby d8_12 rfl rfl ?_
  refine own_ldc2 16 X0 hx hby hZ hown (own_w hw 59 rfl) d8_13 rfl ?_
  refine own_lcmp 17 (XT.cmpL y0 (127 : Int64)) X0 hx hby d8_16 rfl rfl ?_
  refine own_ifN 20 X0 hx hby d8_17 rfl (own_fltL hc83).2.2.1 ?_
  refine own_getS 23 X0 hx hby hZ hown (own_w hw 78 rfl) e0 (W.2.2.2.2.2.2.1.ext O0.2) d8_20 rfl ?_
  intro T86 X86 e86
  refine own_lload_n 24 X86 hx hby d8_23 rfl rfl ?_
  refine own_l2i 25 (y0).toInt32 X86 hx hby d8_24 rfl rfl ?_
  refine own_sipush 28 (128 : Int32) X86 hx hby d8_25 rfl (by decide) ?_
  refine own_iadd 29 ((y0).toInt32 + (128 : Int32)) X86 hx hby d8_28 rfl rfl ?_
  refine own_aaloadB 30 X86 hx hby hZ e86 W.2.2.2.2.2.2.2 O0 d8_29 rfl (own_cidx hc77 hc83) ?_
  intro b87 E87
  exact own_ret (Q := own_QL Z n0 h0) X86 hx hby hret hlk d8_30 rfl (Or.inr (Or.inr (Or.inr (Or.inr ⟨rfl, rfl, rfl⟩)))) (by decide) (by decide) (by rw [e86]; exact ⟨b87, rfl, N0, (Keep.refl h0 []), (E87.ext O0.2)⟩)
set_option maxRecDepth 65536 in
set_option maxHeartbeats 40000000 in
theorem rm7_18 (l : Launch) (Z : State) (a0 : Array Value) (hw : ∀ d ∈ tables_1, d.before a0 Z = true) (ws : List Jvm.Cond) (w_EXCLUSIVE w_SHARED w_cache : Addr) (W : own_W Z w_EXCLUSIVE w_SHARED w_cache) (c0 : Addr) (c1 : Addr) (c2 : Addr) (y0 : Int64) (x1 : Int32) (h0 : Heap) (n0 : Nat) (O0 : Old Z n0 h0) (E_c0 : Exa Z h0 c0 "com/example/bare_turnstile/bareturnstile/Ticket") (F_c0_mode : Fld Z h0 c0 "com/example/bare_turnstile/bareturnstile/Ticket" "mode" "Lcom/example/bare_turnstile/bareturnstile/EntryMode;" (.ref c1)) (F_c0_number : Fld Z h0 c0 "com/example/bare_turnstile/bareturnstile/Ticket" "number" "J" (.long y0)) (F_c0_participant : Fld Z h0 c0 "com/example/bare_turnstile/bareturnstile/Ticket" "participant" "I" (.int x1)) (n_c0 : n0 ≤ c0) (EZ_c1 : Exa Z Z.heap c1 "com/example/bare_turnstile/bareturnstile/EntryMode") (E_c2 : Exa Z h0 c2 "java/lang/Long") :
    MetFree l (⟨"com/example/bare_turnstile/bareturnstile/Ticket", "equals", "(Ljava/lang/Object;)Z"⟩ : MethodName) (head1 (Jvm.Cond.code (⟨"com/example/bare_turnstile/bareturnstile/Ticket", "equals", "(Ljava/lang/Object;)Z"⟩ : MethodName) prog_19_method_8_code 3 (some .boolean) :: ws) ({ frames := 0, cells := 0, slots := 0, locals := 0 } : Room)) (fun a U => a = #[(.ref c0), (.ref c2)] ∧ Z.Warmed39 U.vm ∧ U.heap = h0) (fun _ _ _ _ _ => True) (fun _ U o U' => ∃ v L, o = .returned v ∧ own_Q (some (.int (0 : Int32))) n0 h0 v U'.heap L ∧ FrameEnd U o U' L ({ frames := 0, cells := 0, slots := 0, locals := 0 } : Room).cells ({ frames := 0, cells := 0, slots := 0, locals := 0 } : Room).slots) := by
  refine MetFree.of_bodySF (plainFor_of_name pn_2) hisR ?_
  intro p e s m args below meth c s₁ Bd hml0 hP hK
  obtain ⟨rfl, hZ, hh⟩ := hP
  have hx := Bd.exec
  have hby := Bd.bytes
  have hml : c.maxLocals = 3 := hml0
  have hlk := BodyLoose.notSynchronized Bd
  have hret := Bd.returns
  have hown : s.vm.findClass "com/example/bare_turnstile/bareturnstile/Ticket" = some m.cls := findClass_of_methodNamed Bd.named
  have hnm := (name_of_methodNamed Bd.named Bd.method).1
  have X0 : Stand p l e ({ frames := 0, cells := 0, slots := 0, locals := 0 } : Room) s m #[(.ref c0), (.ref c2)] below meth c s₁ [] 0 0 := Stand.of_body Bd
  have e0 : s₁.heap = h0 := by rw [← hh, Bd.state]; rfl
  have N0 := Fr.nil n0
  rw [ef_7 m c0 c2]
  show Go p e below _ (s₁.setTop (mkF m 0 #[oA c0, oA c2, oU] []))
  refine own_aload_n 1 X0 hx hby d7_0 rfl rfl rfl ?_
  refine own_instN 4 X0 hx hby hZ hown (own_w hw 50 rfl) e0 E_c2 (own_NSno (own_w hw 75 rfl) (own_w hw 17 rfl) (NS.step (own_w hw 75 rfl) (NS.step (own_w hw 76 rfl) (own_NSroot (own_w hw 77 rfl) (own_w hw 17 rfl) (by decide)) (by decide)) (by decide)) (by decide)) d7_1 rfl ?_
  intro T90 X90 e90
  refine own_ifN 7 X90 hx hby d7_4 rfl (by decide) ?_
  refine own_iconst 8 (0 : Int32) X90 hx hby d7_7 rfl (by decide) ?_
  exact own_ret (Q := own_Q (some (.int (0 : Int32))) n0 h0) X90 hx hby hret hlk d7_8 rfl (Or.inl ⟨rfl, by simp, _, rfl⟩) (by decide) (by decide) ⟨rfl, N0, e90⟩
set_option maxRecDepth 65536 in
set_option maxHeartbeats 40000000 in
theorem cut_88_5 (l : Launch) (Z : State) (a0 : Array Value) (hw : ∀ d ∈ tables_1, d.before a0 Z = true) (w_EXCLUSIVE w_SHARED w_cache : Addr) (W : own_W Z w_EXCLUSIVE w_SHARED w_cache) (y0 : Int64) (y2 : Int64) (x4 : Int32) (x5 : Int32) (x6 : Int32) (y7 : Int64) (y9 : Int64) (x11 : Int32) (x12 : Int32) (x13 : Int32) (x14 : Int32) (m15 : Addr) (m16 : Addr) (h0 : Heap) (n0 : Nat) (O0 : Old Z n0 h0) (EZ_m15 : Exa Z Z.heap m15 "com/example/bare_turnstile/bareturnstile/EntryMode") (EZ_m16 : Exa Z Z.heap m16 "com/example/bare_turnstile/bareturnstile/EntryMode") (hq0 : ¬ (y7 < (1 : Int64))) (hq1 : ¬ (y9 < (1 : Int64))) (hq2 : ¬ (x11 < (0 : Int32))) (hq3 : ¬ (x12 < (0 : Int32))) (hq4 : x13 = x14) (hq5 : m15 = m16) {p : Program} {e : Env} {s : State} {m : MethodId} {args : Array Value} {below : List Frame} {meth : Method} {c : Code} {T : State} {vm0 : Vm} {locs : List Loc} {k0 : Nat}
    (X0 : Stand p l e room_1 (s.setVm vm0) m args below meth c T locs 0 0) (hx : p.tables.exec = Jvm.exec) (hby : c.code = code) (hml : c.maxLocals = 23) (hret : meth.sig.returnType = some .boolean) (hlk : meth.locks = false) (hZ : Z.Warmed39 (s.setVm vm0).vm) (hown : (s.setVm vm0).vm.findClass "com/example/bare_turnstile/bareturnstile/TicketEqualsPinLaw" = some m.cls) (e0 : T.heap = h0) (N0 : Fr n0 locs) (hS : s.Since vm0 k0) (hk : k0 ≤ h0.size) :
    Go p e below (fun s₂ o => s₂.status = .running ∧ Ended s₂ below o ∧ ∃ v L, o = .returned v ∧ own_Q1 n0 v s₂.heap L ∧ ReturnedEndW s o s₂ L 16 1152) (T.setTop (mkF m 88 #[oJ y0, oS, oJ y2, oS, oI x4, oI x5, oI x6, oJ y7, oS, oJ y9, oS, oI x11, oI x12, oI x13, oI x14, oA m15, oA m16, oI (3 : Int32), oU, oU, oU, oU, oU] [])) := by
  refine own_new 91 3 X0 hx hby hZ hown (own_w hw 16 rfl) (own_w hw 17 rfl) (own_w hw 18 rfl) e0 at_88 rfl (by decide) (by decide) ?_
  intro T73 h73 b73 X73 e73 E73 g73 A73 D73
  have n_b73 : n0 ≤ b73 := Nat.le_trans (own_n0 O0) (Nat.le_of_eq g73.symm)
  have O73 := O0.ext E73
  have hk := Nat.le_trans hk E73.1
  have F_b73_number : Fld Z h73 b73 "com/example/bare_turnstile/bareturnstile/Ticket" "number" "J" (.long (0 : Int64)) := D73 (Or.inr (own_w hw 26 rfl)) (ty := .long) (by decide)
  have F_b73_participant : Fld Z h73 b73 "com/example/bare_turnstile/bareturnstile/Ticket" "participant" "I" (.int (0 : Int32)) := D73 (Or.inr (own_w hw 28 rfl)) (ty := .int) (by decide)
  have F_b73_mode : Fld Z h73 b73 "com/example/bare_turnstile/bareturnstile/Ticket" "mode" "Lcom/example/bare_turnstile/bareturnstile/EntryMode;" .null := D73 (Or.inr (own_w hw 44 rfl)) (ty := (.object "com/example/bare_turnstile/bareturnstile/EntryMode")) (by decide)
  refine own_dup 92 X73 hx hby at_91 rfl rfl ?_
  refine own_lload 94 X73 hx hby at_92 rfl rfl ?_
  refine own_iload 96 X73 hx hby at_94 rfl rfl ?_
  refine own_aload 98 X73 hx hby at_96 rfl rfl rfl ?_
  refine own_specS (W := 1) 101 (rm4_7 l Z a0 hw [] w_EXCLUSIVE w_SHARED w_cache W b73 m15 y7 x11 h73 n0 O73 A73 F_b73_mode F_b73_number F_b73_participant n_b73 EZ_m15 hq0 hq2) X73 hx hby hZ hown rfl (own_w hw 19 rfl) (own_w hw 20 rfl) (own_w hw 18 rfl) (own_w hw 21 rfl) (by decide) (by rw [hml]; rfl) b73 [(.long y7), (.int x11), (.ref m15)] [(.ref b73)] pd_4 rfl at_98 rfl e73 rfl rfl rfl (by decide) (by decide) (by decide) (by decide) hS hk ?_
  rintro _ T74 L74 X74 ⟨rfl, N74, Kc74, E_b73_74, F_b73_mode_74, F_b73_number_74, F_b73_participant_74⟩ hS hZ hown
  have N74 := Fr.app N0 N74
  have O74 := O73.keep Kc74 (allS n_b73 all0)
  have hk := Nat.le_refl T74.heap.size
  show Go p e below _ (T74.setTop (mkF m 101 _ [(.ref b73)]))
  refine own_astore 103 #[oJ y0, oS, oJ y2, oS, oI x4, oI x5, oI x6, oJ y7, oS, oJ y9, oS, oI x11, oI x12, oI x13, oI x14, oA m15, oA m16, oI (3 : Int32), oA b73, oU, oU, oU, oU] X74 hx hby at_101 rfl rfl rfl ?_
  refine own_new 106 3 X74 hx hby hZ hown (own_w hw 16 rfl) (own_w hw 17 rfl) (own_w hw 18 rfl) rfl at_103 rfl (by decide) (by decide) ?_
  intro T75 h75 b75 X75 e75 E75 g75 A75 D75
  have ne_b73_b75 : b73 ≠ b75 := Nat.ne_of_lt (Nat.lt_of_lt_of_le E_b73_74.lt (Nat.le_of_eq g75.symm))
  have n_b75 : n0 ≤ b75 := Nat.le_trans (own_n0 O74) (Nat.le_of_eq g75.symm)
  have E_b73_75 := E_b73_74.ext E75
  have F_b73_mode_75 := F_b73_mode_74.ext E75
  have F_b73_number_75 := F_b73_number_74.ext E75
  have F_b73_participant_75 := F_b73_participant_74.ext E75
  have O75 := O74.ext E75
  have hk := Nat.le_trans hk E75.1
  have F_b75_number : Fld Z h75 b75 "com/example/bare_turnstile/bareturnstile/Ticket" "number" "J" (.long (0 : Int64)) := D75 (Or.inr (own_w hw 26 rfl)) (ty := .long) (by decide)
  have F_b75_participant : Fld Z h75 b75 "com/example/bare_turnstile/bareturnstile/Ticket" "participant" "I" (.int (0 : Int32)) := D75 (Or.inr (own_w hw 28 rfl)) (ty := .int) (by decide)
  have F_b75_mode : Fld Z h75 b75 "com/example/bare_turnstile/bareturnstile/Ticket" "mode" "Lcom/example/bare_turnstile/bareturnstile/EntryMode;" .null := D75 (Or.inr (own_w hw 44 rfl)) (ty := (.object "com/example/bare_turnstile/bareturnstile/EntryMode")) (by decide)
  refine own_dup 107 X75 hx hby at_106 rfl rfl ?_
  refine own_lload 109 X75 hx hby at_107 rfl rfl ?_
  refine own_iload 111 X75 hx hby at_109 rfl rfl ?_
  refine own_aload 113 X75 hx hby at_111 rfl rfl rfl ?_
  refine own_specS (W := 1) 116 (rm4_7 l Z a0 hw [] w_EXCLUSIVE w_SHARED w_cache W b75 m16 y9 x12 h75 n0 O75 A75 F_b75_mode F_b75_number F_b75_participant n_b75 EZ_m16 hq1 hq3) X75 hx hby hZ hown rfl (own_w hw 19 rfl) (own_w hw 20 rfl) (own_w hw 18 rfl) (own_w hw 21 rfl) (by decide) (by rw [hml]; rfl) b75 [(.long y9), (.int x12), (.ref m16)] [(.ref b75)] pd_4 rfl at_113 rfl e75 rfl rfl rfl (by decide) (by decide) (by decide) (by decide) hS hk ?_
  rintro _ T76 L76 X76 ⟨rfl, N76, Kc76, E_b75_76, F_b75_mode_76, F_b75_number_76, F_b75_participant_76⟩ hS hZ hown
  have N76 := Fr.app N74 N76
  have E_b73_76 := E_b73_75.keep Kc76
  have F_b73_mode_76 := F_b73_mode_75.keep Kc76 (ninS ne_b73_b75 nin0)
  have F_b73_number_76 := F_b73_number_75.keep Kc76 (ninS ne_b73_b75 nin0)
  have F_b73_participant_76 := F_b73_participant_75.keep Kc76 (ninS ne_b73_b75 nin0)
  have O76 := O75.keep Kc76 (allS n_b75 all0)
  have hk := Nat.le_refl T76.heap.size
  show Go p e below _ (T76.setTop (mkF m 116 _ [(.ref b75)]))
  refine own_astore 118 #[oJ y0, oS, oJ y2, oS, oI x4, oI x5, oI x6, oJ y7, oS, oJ y9, oS, oI x11, oI x12, oI x13, oI x14, oA m15, oA m16, oI (3 : Int32), oA b73, oA b75, oU, oU, oU] X76 hx hby at_116 rfl rfl rfl ?_
  refine own_iload 120 X76 hx hby at_118 rfl rfl ?_
  refine own_iconst 121 (2 : Int32) X76 hx hby at_120 rfl (by decide) ?_
  refine own_icY 131 X76 hx hby at_121 (by decide) (by decide) (by decide) ?_
  refine own_iload 133 X76 hx hby at_131 rfl rfl ?_
  refine own_iconst 134 (2 : Int32) X76 hx hby at_133 rfl (by decide) ?_
  refine own_icY 143 X76 hx hby at_134 (by decide) (by decide) (by decide) ?_
  refine own_lload 145 X76 hx hby at_143 rfl rfl ?_
  by_cases hc88 : (127 : Int64) < y7
  · refine own_callS (W := 0) 148 (rm8_16 l Z a0 hw [] w_EXCLUSIVE w_SHARED w_cache W y7 T76.heap n0 O76 (by have : -2 ^ 63 ≤ (y7).toInt ∧ (y7).toInt < 2 ^ 63 := own_rngJ y7; have : ((-128 : Int64)).toInt = -128 := rfl; have : ((1 : Int64)).toInt = 1 := rfl; have : ¬ ((y7).toInt < ((1 : Int64)).toInt) := fun q => hq0 (Int64.lt_iff_toInt_lt.mpr q); exact fun q => absurd (Int64.lt_iff_toInt_lt.mp q) (by omega)) hc88) X76 hx hby hZ hown (own_w hw 54 rfl) (own_w hw 55 rfl) (own_w hw 56 rfl) (own_w hw 57 rfl) (by decide) (by rw [hml]; rfl) [(.long y7)] [] pd_8 rfl at_145 rfl rfl rfl rfl rfl (by decide) (by decide) (by decide) (by decide) ?_
    rintro _ T89 L89 X89 ⟨b89_g, rfl, N89, Kc89, E_b89_g⟩
    have N89 := Fr.app N76 N89
    have E_b73_89 := E_b73_76.keep Kc89
    have F_b73_mode_89 := F_b73_mode_76.keep Kc89 nin0
    have F_b73_number_89 := F_b73_number_76.keep Kc89 nin0
    have F_b73_participant_89 := F_b73_participant_76.keep Kc89 nin0
    have E_b75_89 := E_b75_76.keep Kc89
    have F_b75_mode_89 := F_b75_mode_76.keep Kc89 nin0
    have F_b75_number_89 := F_b75_number_76.keep Kc89 nin0
    have F_b75_participant_89 := F_b75_participant_76.keep Kc89 nin0
    have O89 := O76.keep Kc89 all0
    have hk := Nat.le_trans hk Kc89.1
    show Go p e below _ (T89.setTop (mkF m 148 _ [(.ref b89_g)]))
    refine own_astore 150 #[oJ y0, oS, oJ y2, oS, oI x4, oI x5, oI x6, oJ y7, oS, oJ y9, oS, oI x11, oI x12, oI x13, oI x14, oA m15, oA m16, oI (3 : Int32), oA b73, oA b75, oA b89_g, oU, oU] X89 hx hby at_148 rfl rfl rfl ?_
    refine own_iload 152 X89 hx hby at_150 rfl rfl ?_
    refine own_iconst 153 (2 : Int32) X89 hx hby at_152 rfl (by decide) ?_
    refine own_icY 188 X89 hx hby at_153 (by decide) (by decide) (by decide) ?_
    refine own_iconst 189 (0 : Int32) X89 hx hby at_188 rfl (by decide) ?_
    refine own_istore 191 #[oJ y0, oS, oJ y2, oS, oI x4, oI x5, oI x6, oJ y7, oS, oJ y9, oS, oI x11, oI x12, oI x13, oI x14, oA m15, oA m16, oI (3 : Int32), oA b73, oA b75, oA b89_g, oI (0 : Int32), oU] X89 hx hby at_189 rfl rfl ?_
    refine own_aload 193 X89 hx hby at_191 rfl rfl rfl ?_
    refine own_aload 195 X89 hx hby at_193 rfl rfl rfl ?_
    refine own_virt (W := 0) 198 (rm7_18 l Z a0 hw [] w_EXCLUSIVE w_SHARED w_cache W b73 m15 b89_g y7 x11 T89.heap n0 O89 E_b73_89 F_b73_mode_89 F_b73_number_89 F_b73_participant_89 n_b73 EZ_m15 E_b89_g) X89 hx hby hZ hown (own_w hw 45 rfl) (own_w hw 46 rfl) (notFace_of_selects (args := #[]) (mvT hZ (own_w hw 48 rfl))) (own_w hw 48 rfl) (own_w hw 47 rfl) (own_w hw 18 rfl) (own_w hw 49 rfl) (by decide) (by rw [hml]; rfl) b73 [(.ref b89_g)] [] pd_5 rfl at_195 rfl rfl E_b73_89 rfl rfl rfl (by decide) (by decide) (by decide) (by decide) ?_
    rintro _ T91 L91 X91 ⟨rfl, N91, e91⟩
    have N91 := Fr.app N89 N91
    show Go p e below _ (T91.setTop (mkF m 198 _ [(.int (0 : Int32))]))
    refine own_istore 200 #[oJ y0, oS, oJ y2, oS, oI x4, oI x5, oI x6, oJ y7, oS, oJ y9, oS, oI x11, oI x12, oI x13, oI x14, oA m15, oA m16, oI (3 : Int32), oA b73, oA b75, oA b89_g, oI (0 : Int32), oI (0 : Int32)] X91 hx hby at_198 rfl rfl ?_
    refine own_iload 202 X91 hx hby at_200 rfl rfl ?_
    refine own_iload 204 X91 hx hby at_202 rfl rfl ?_
    refine own_icY 209 X91 hx hby at_204 (by decide) (by decide) (by decide) ?_
    refine own_iload 211 X91 hx hby at_209 rfl rfl ?_
    refine own_iconst 212 (2 : Int32) X91 hx hby at_211 rfl (by decide) ?_
    refine own_icY 233 X91 hx hby at_212 (by decide) (by decide) (by decide) ?_
    refine own_iconst 234 (1 : Int32) X91 hx hby at_233 rfl (by decide) ?_
    exact own_retW (Q := own_Q1 n0) X91 hx hby hret hlk hS (by rw [e91]; exact hk) at_234 rfl (Or.inl ⟨rfl, by simp, _, rfl⟩) (by decide) (by decide) ⟨rfl, N91⟩
  refine own_callS (W := 0) 148 (rm8_17 l Z a0 hw [] w_EXCLUSIVE w_SHARED w_cache W y7 T76.heap n0 O76 (by have : 1 ≤ (y7).toInt ∧ (y7).toInt ≤ 127 := own_bdJ hq0 hc88; have : ((-128 : Int64)).toInt = -128 := rfl; exact fun q => absurd (Int64.lt_iff_toInt_lt.mp q) (by omega)) hc88) X76 hx hby hZ hown (own_w hw 54 rfl) (own_w hw 55 rfl) (own_w hw 56 rfl) (own_w hw 57 rfl) (by decide) (by rw [hml]; rfl) [(.long y7)] [] pd_8 rfl at_145 rfl rfl rfl rfl rfl (by decide) (by decide) (by decide) (by decide) ?_
  rintro _ T92 L92 X92 ⟨b92_g, rfl, N92, Kc92, E_b92_g⟩
  have N92 := Fr.app N76 N92
  have E_b73_92 := E_b73_76.keep Kc92
  have F_b73_mode_92 := F_b73_mode_76.keep Kc92 nin0
  have F_b73_number_92 := F_b73_number_76.keep Kc92 nin0
  have F_b73_participant_92 := F_b73_participant_76.keep Kc92 nin0
  have E_b75_92 := E_b75_76.keep Kc92
  have F_b75_mode_92 := F_b75_mode_76.keep Kc92 nin0
  have F_b75_number_92 := F_b75_number_76.keep Kc92 nin0
  have F_b75_participant_92 := F_b75_participant_76.keep Kc92 nin0
  have O92 := O76.keep Kc92 all0
  have hk := Nat.le_trans hk Kc92.1
  show Go p e below _ (T92.setTop (mkF m 148 _ [(.ref b92_g)]))
  refine own_astore 150 #[oJ y0, oS, oJ y2, oS, oI x4, oI x5, oI x6, oJ y7, oS, oJ y9, oS, oI x11, oI x12, oI x13, oI x14, oA m15, oA m16, oI (3 : Int32), oA b73, oA b75, oA b92_g, oU, oU] X92 hx hby at_148 rfl rfl rfl ?_
  refine own_iload 152 X92 hx hby at_150 rfl rfl ?_
  refine own_iconst 153 (2 : Int32) X92 hx hby at_152 rfl (by decide) ?_
  refine own_icY 188 X92 hx hby at_153 (by decide) (by decide) (by decide) ?_
  refine own_iconst 189 (0 : Int32) X92 hx hby at_188 rfl (by decide) ?_
  refine own_istore 191 #[oJ y0, oS, oJ y2, oS, oI x4, oI x5, oI x6, oJ y7, oS, oJ y9, oS, oI x11, oI x12, oI x13, oI x14, oA m15, oA m16, oI (3 : Int32), oA b73, oA b75, oA b92_g, oI (0 : Int32), oU] X92 hx hby at_189 rfl rfl ?_
  refine own_aload 193 X92 hx hby at_191 rfl rfl rfl ?_
  refine own_aload 195 X92 hx hby at_193 rfl rfl rfl ?_
  refine own_virt (W := 0) 198 (rm7_18 l Z a0 hw [] w_EXCLUSIVE w_SHARED w_cache W b73 m15 b92_g y7 x11 T92.heap n0 O92 E_b73_92 F_b73_mode_92 F_b73_number_92 F_b73_participant_92 n_b73 EZ_m15 E_b92_g) X92 hx hby hZ hown (own_w hw 45 rfl) (own_w hw 46 rfl) (notFace_of_selects (args := #[]) (mvT hZ (own_w hw 48 rfl))) (own_w hw 48 rfl) (own_w hw 47 rfl) (own_w hw 18 rfl) (own_w hw 49 rfl) (by decide) (by rw [hml]; rfl) b73 [(.ref b92_g)] [] pd_5 rfl at_195 rfl rfl E_b73_92 rfl rfl rfl (by decide) (by decide) (by decide) (by decide) ?_
  rintro _ T93 L93 X93 ⟨rfl, N93, e93⟩
  have N93 := Fr.app N92 N93
  show Go p e below _ (T93.setTop (mkF m 198 _ [(.int (0 : Int32))]))
  refine own_istore 200 #[oJ y0, oS, oJ y2, oS, oI x4, oI x5, oI x6, oJ y7, oS, oJ y9, oS, oI x11, oI x12, oI x13, oI x14, oA m15, oA m16, oI (3 : Int32), oA b73, oA b75, oA b92_g, oI (0 : Int32), oI (0 : Int32)] X93 hx hby at_198 rfl rfl ?_
  refine own_iload 202 X93 hx hby at_200 rfl rfl ?_
  refine own_iload 204 X93 hx hby at_202 rfl rfl ?_
  refine own_icY 209 X93 hx hby at_204 (by decide) (by decide) (by decide) ?_
  refine own_iload 211 X93 hx hby at_209 rfl rfl ?_
  refine own_iconst 212 (2 : Int32) X93 hx hby at_211 rfl (by decide) ?_
  refine own_icY 233 X93 hx hby at_212 (by decide) (by decide) (by decide) ?_
  refine own_iconst 234 (1 : Int32) X93 hx hby at_233 rfl (by decide) ?_
  exact own_retW (Q := own_Q1 n0) X93 hx hby hret hlk hS (by rw [e93]; exact hk) at_234 rfl (Or.inl ⟨rfl, by simp, _, rfl⟩) (by decide) (by decide) ⟨rfl, N93⟩
set_option maxRecDepth 65536 in
set_option maxHeartbeats 40000000 in
theorem rm3_19 (l : Launch) (Z : State) (a0 : Array Value) (hw : ∀ d ∈ tables_1, d.before a0 Z = true) (ws : List Jvm.Cond) (w_EXCLUSIVE w_SHARED w_cache : Addr) (W : own_W Z w_EXCLUSIVE w_SHARED w_cache)  (h0 : Heap) (n0 : Nat) (O0 : Old Z n0 h0)  :
    MetFree l (⟨"com/example/bare_turnstile/bareturnstile/TicketEqualsPinLaw", "mode", "(I)Lcom/example/bare_turnstile/bareturnstile/EntryMode;"⟩ : MethodName) (head1 (Jvm.Cond.code (⟨"com/example/bare_turnstile/bareturnstile/TicketEqualsPinLaw", "mode", "(I)Lcom/example/bare_turnstile/bareturnstile/EntryMode;"⟩ : MethodName) method_3_code 1 (some (.object "com/example/bare_turnstile/bareturnstile/EntryMode")) :: ws) ({ frames := 0, cells := 0, slots := 0, locals := 0 } : Room)) (fun a U => a = #[(.int (1 : Int32))] ∧ Z.Warmed39 U.vm ∧ U.heap = h0) (fun _ _ _ _ _ => True) (fun _ U o U' => ∃ v L, o = .returned v ∧ own_Q (some (.ref w_SHARED)) n0 h0 v U'.heap L ∧ FrameEnd U o U' L ({ frames := 0, cells := 0, slots := 0, locals := 0 } : Room).cells ({ frames := 0, cells := 0, slots := 0, locals := 0 } : Room).slots) := by
  refine MetFree.of_bodySF (plainFor_of_name pn_0) hisR ?_
  intro p e s m args below meth c s₁ Bd hml0 hP hK
  obtain ⟨rfl, hZ, hh⟩ := hP
  have hx := Bd.exec
  have hby := Bd.bytes
  have hml : c.maxLocals = 1 := hml0
  have hlk := BodyLoose.notSynchronized Bd
  have hret := Bd.returns
  have hown : s.vm.findClass "com/example/bare_turnstile/bareturnstile/TicketEqualsPinLaw" = some m.cls := findClass_of_methodNamed Bd.named
  have hnm := (name_of_methodNamed Bd.named Bd.method).1
  have X0 : Stand p l e ({ frames := 0, cells := 0, slots := 0, locals := 0 } : Room) s m #[(.int (1 : Int32))] below meth c s₁ [] 0 0 := Stand.of_body Bd
  have e0 : s₁.heap = h0 := by rw [← hh, Bd.state]; rfl
  have N0 := Fr.nil n0
  rw [ef_3 m (1 : Int32)]
  show Go p e below _ (s₁.setTop (mkF m 0 #[oI (1 : Int32)] []))
  refine own_iload_n 1 X0 hx hby d3_0 rfl rfl ?_
  refine own_ifN 4 X0 hx hby d3_1 rfl (by decide) ?_
  refine own_getS 7 X0 hx hby hZ hown (own_w hw 52 rfl) e0 (W.2.2.1.ext O0.2) d3_4 rfl ?_
  intro T95 X95 e95
  exact own_ret (Q := own_Q (some (.ref w_SHARED)) n0 h0) X95 hx hby hret hlk d3_7 rfl (Or.inr (Or.inr (Or.inr (Or.inr ⟨rfl, rfl, rfl⟩)))) (by decide) (by decide) ⟨rfl, N0, e95⟩
set_option maxRecDepth 65536 in
set_option maxHeartbeats 40000000 in
theorem cut_88_6 (l : Launch) (Z : State) (a0 : Array Value) (hw : ∀ d ∈ tables_1, d.before a0 Z = true) (w_EXCLUSIVE w_SHARED w_cache : Addr) (W : own_W Z w_EXCLUSIVE w_SHARED w_cache) (y0 : Int64) (y2 : Int64) (x4 : Int32) (x5 : Int32) (x6 : Int32) (y7 : Int64) (y9 : Int64) (x11 : Int32) (x12 : Int32) (x13 : Int32) (x14 : Int32) (m15 : Addr) (m16 : Addr) (h0 : Heap) (n0 : Nat) (O0 : Old Z n0 h0) (EZ_m15 : Exa Z Z.heap m15 "com/example/bare_turnstile/bareturnstile/EntryMode") (EZ_m16 : Exa Z Z.heap m16 "com/example/bare_turnstile/bareturnstile/EntryMode") (hq0 : ¬ (y7 < (1 : Int64))) (hq1 : ¬ (y9 < (1 : Int64))) (hq2 : ¬ (x11 < (0 : Int32))) (hq3 : ¬ (x12 < (0 : Int32))) (hq4 : ¬ (x13 = x14)) (hq5 : ¬ (m15 = m16)) {p : Program} {e : Env} {s : State} {m : MethodId} {args : Array Value} {below : List Frame} {meth : Method} {c : Code} {T : State} {vm0 : Vm} {locs : List Loc} {k0 : Nat}
    (X0 : Stand p l e room_1 (s.setVm vm0) m args below meth c T locs 0 0) (hx : p.tables.exec = Jvm.exec) (hby : c.code = code) (hml : c.maxLocals = 23) (hret : meth.sig.returnType = some .boolean) (hlk : meth.locks = false) (hZ : Z.Warmed39 (s.setVm vm0).vm) (hown : (s.setVm vm0).vm.findClass "com/example/bare_turnstile/bareturnstile/TicketEqualsPinLaw" = some m.cls) (e0 : T.heap = h0) (N0 : Fr n0 locs) (hS : s.Since vm0 k0) (hk : k0 ≤ h0.size) :
    Go p e below (fun s₂ o => s₂.status = .running ∧ Ended s₂ below o ∧ ∃ v L, o = .returned v ∧ own_Q1 n0 v s₂.heap L ∧ ReturnedEndW s o s₂ L 16 1152) (T.setTop (mkF m 88 #[oJ y0, oS, oJ y2, oS, oI x4, oI x5, oI x6, oJ y7, oS, oJ y9, oS, oI x11, oI x12, oI x13, oI x14, oA m15, oA m16, oI (0 : Int32), oU, oU, oU, oU, oU] [])) := by
  refine own_new 91 3 X0 hx hby hZ hown (own_w hw 16 rfl) (own_w hw 17 rfl) (own_w hw 18 rfl) e0 at_88 rfl (by decide) (by decide) ?_
  intro T99 h99 b99 X99 e99 E99 g99 A99 D99
  have n_b99 : n0 ≤ b99 := Nat.le_trans (own_n0 O0) (Nat.le_of_eq g99.symm)
  have O99 := O0.ext E99
  have hk := Nat.le_trans hk E99.1
  have F_b99_number : Fld Z h99 b99 "com/example/bare_turnstile/bareturnstile/Ticket" "number" "J" (.long (0 : Int64)) := D99 (Or.inr (own_w hw 26 rfl)) (ty := .long) (by decide)
  have F_b99_participant : Fld Z h99 b99 "com/example/bare_turnstile/bareturnstile/Ticket" "participant" "I" (.int (0 : Int32)) := D99 (Or.inr (own_w hw 28 rfl)) (ty := .int) (by decide)
  have F_b99_mode : Fld Z h99 b99 "com/example/bare_turnstile/bareturnstile/Ticket" "mode" "Lcom/example/bare_turnstile/bareturnstile/EntryMode;" .null := D99 (Or.inr (own_w hw 44 rfl)) (ty := (.object "com/example/bare_turnstile/bareturnstile/EntryMode")) (by decide)
  refine own_dup 92 X99 hx hby at_91 rfl rfl ?_
  refine own_lload 94 X99 hx hby at_92 rfl rfl ?_
  refine own_iload 96 X99 hx hby at_94 rfl rfl ?_
  refine own_aload 98 X99 hx hby at_96 rfl rfl rfl ?_
  refine own_specS (W := 1) 101 (rm4_7 l Z a0 hw [] w_EXCLUSIVE w_SHARED w_cache W b99 m15 y7 x11 h99 n0 O99 A99 F_b99_mode F_b99_number F_b99_participant n_b99 EZ_m15 hq0 hq2) X99 hx hby hZ hown rfl (own_w hw 19 rfl) (own_w hw 20 rfl) (own_w hw 18 rfl) (own_w hw 21 rfl) (by decide) (by rw [hml]; rfl) b99 [(.long y7), (.int x11), (.ref m15)] [(.ref b99)] pd_4 rfl at_98 rfl e99 rfl rfl rfl (by decide) (by decide) (by decide) (by decide) hS hk ?_
  rintro _ T100 L100 X100 ⟨rfl, N100, Kc100, E_b99_100, F_b99_mode_100, F_b99_number_100, F_b99_participant_100⟩ hS hZ hown
  have N100 := Fr.app N0 N100
  have O100 := O99.keep Kc100 (allS n_b99 all0)
  have hk := Nat.le_refl T100.heap.size
  show Go p e below _ (T100.setTop (mkF m 101 _ [(.ref b99)]))
  refine own_astore 103 #[oJ y0, oS, oJ y2, oS, oI x4, oI x5, oI x6, oJ y7, oS, oJ y9, oS, oI x11, oI x12, oI x13, oI x14, oA m15, oA m16, oI (0 : Int32), oA b99, oU, oU, oU, oU] X100 hx hby at_101 rfl rfl rfl ?_
  refine own_new 106 3 X100 hx hby hZ hown (own_w hw 16 rfl) (own_w hw 17 rfl) (own_w hw 18 rfl) rfl at_103 rfl (by decide) (by decide) ?_
  intro T101 h101 b101 X101 e101 E101 g101 A101 D101
  have ne_b99_b101 : b99 ≠ b101 := Nat.ne_of_lt (Nat.lt_of_lt_of_le E_b99_100.lt (Nat.le_of_eq g101.symm))
  have n_b101 : n0 ≤ b101 := Nat.le_trans (own_n0 O100) (Nat.le_of_eq g101.symm)
  have E_b99_101 := E_b99_100.ext E101
  have F_b99_mode_101 := F_b99_mode_100.ext E101
  have F_b99_number_101 := F_b99_number_100.ext E101
  have F_b99_participant_101 := F_b99_participant_100.ext E101
  have O101 := O100.ext E101
  have hk := Nat.le_trans hk E101.1
  have F_b101_number : Fld Z h101 b101 "com/example/bare_turnstile/bareturnstile/Ticket" "number" "J" (.long (0 : Int64)) := D101 (Or.inr (own_w hw 26 rfl)) (ty := .long) (by decide)
  have F_b101_participant : Fld Z h101 b101 "com/example/bare_turnstile/bareturnstile/Ticket" "participant" "I" (.int (0 : Int32)) := D101 (Or.inr (own_w hw 28 rfl)) (ty := .int) (by decide)
  have F_b101_mode : Fld Z h101 b101 "com/example/bare_turnstile/bareturnstile/Ticket" "mode" "Lcom/example/bare_turnstile/bareturnstile/EntryMode;" .null := D101 (Or.inr (own_w hw 44 rfl)) (ty := (.object "com/example/bare_turnstile/bareturnstile/EntryMode")) (by decide)
  refine own_dup 107 X101 hx hby at_106 rfl rfl ?_
  refine own_lload 109 X101 hx hby at_107 rfl rfl ?_
  refine own_iload 111 X101 hx hby at_109 rfl rfl ?_
  refine own_aload 113 X101 hx hby at_111 rfl rfl rfl ?_
  refine own_specS (W := 1) 116 (rm4_7 l Z a0 hw [] w_EXCLUSIVE w_SHARED w_cache W b101 m16 y9 x12 h101 n0 O101 A101 F_b101_mode F_b101_number F_b101_participant n_b101 EZ_m16 hq1 hq3) X101 hx hby hZ hown rfl (own_w hw 19 rfl) (own_w hw 20 rfl) (own_w hw 18 rfl) (own_w hw 21 rfl) (by decide) (by rw [hml]; rfl) b101 [(.long y9), (.int x12), (.ref m16)] [(.ref b101)] pd_4 rfl at_113 rfl e101 rfl rfl rfl (by decide) (by decide) (by decide) (by decide) hS hk ?_
  rintro _ T102 L102 X102 ⟨rfl, N102, Kc102, E_b101_102, F_b101_mode_102, F_b101_number_102, F_b101_participant_102⟩ hS hZ hown
  have N102 := Fr.app N100 N102
  have E_b99_102 := E_b99_101.keep Kc102
  have F_b99_mode_102 := F_b99_mode_101.keep Kc102 (ninS ne_b99_b101 nin0)
  have F_b99_number_102 := F_b99_number_101.keep Kc102 (ninS ne_b99_b101 nin0)
  have F_b99_participant_102 := F_b99_participant_101.keep Kc102 (ninS ne_b99_b101 nin0)
  have O102 := O101.keep Kc102 (allS n_b101 all0)
  have hk := Nat.le_refl T102.heap.size
  show Go p e below _ (T102.setTop (mkF m 116 _ [(.ref b101)]))
  refine own_astore 118 #[oJ y0, oS, oJ y2, oS, oI x4, oI x5, oI x6, oJ y7, oS, oJ y9, oS, oI x11, oI x12, oI x13, oI x14, oA m15, oA m16, oI (0 : Int32), oA b99, oA b101, oU, oU, oU] X102 hx hby at_116 rfl rfl rfl ?_
  refine own_iload 120 X102 hx hby at_118 rfl rfl ?_
  refine own_iconst 121 (2 : Int32) X102 hx hby at_120 rfl (by decide) ?_
  refine own_icN 124 X102 hx hby at_121 rfl (by decide) ?_
  refine own_aload 126 X102 hx hby at_124 rfl rfl rfl ?_
  refine own_astore 128 #[oJ y0, oS, oJ y2, oS, oI x4, oI x5, oI x6, oJ y7, oS, oJ y9, oS, oI x11, oI x12, oI x13, oI x14, oA m15, oA m16, oI (0 : Int32), oA b99, oA b101, oA b101, oU, oU] X102 hx hby at_126 rfl rfl rfl ?_
  refine own_goto 150 X102 hx hby at_128 (by decide) (by decide) ?_
  refine own_iload 152 X102 hx hby at_150 rfl rfl ?_
  refine own_iconst 153 (2 : Int32) X102 hx hby at_152 rfl (by decide) ?_
  refine own_icN 156 X102 hx hby at_153 rfl (by decide) ?_
  refine own_lload 158 X102 hx hby at_156 rfl rfl ?_
  refine own_lload 160 X102 hx hby at_158 rfl rfl ?_
  refine own_lcmp 161 (XT.cmpL y7 y9) X102 hx hby at_160 rfl rfl ?_
  by_cases hc103 : y7 = y9
  · refine own_ifN 164 X102 hx hby at_161 rfl (own_teqL hc103).2 ?_
    refine own_iload 166 X102 hx hby at_164 rfl rfl ?_
    refine own_iload 168 X102 hx hby at_166 rfl rfl ?_
    by_cases hc104 : x11 = x12
    · refine own_icN 171 X102 hx hby at_168 rfl (teq hc104).2 ?_
      refine own_iload 173 X102 hx hby at_171 rfl rfl ?_
      refine own_iload 175 X102 hx hby at_173 rfl rfl ?_
      refine own_icY 182 X102 hx hby at_175 (by decide) (by decide) (feq hq4).2 ?_
      refine own_iconst 183 (0 : Int32) X102 hx hby at_182 rfl (by decide) ?_
      refine own_istore 185 #[oJ y0, oS, oJ y2, oS, oI x4, oI x5, oI x6, oJ y7, oS, oJ y9, oS, oI x11, oI x12, oI x13, oI x14, oA m15, oA m16, oI (0 : Int32), oA b99, oA b101, oA b101, oI (0 : Int32), oU] X102 hx hby at_183 rfl rfl ?_
      refine own_goto 191 X102 hx hby at_185 (by decide) (by decide) ?_
      refine own_aload 193 X102 hx hby at_191 rfl rfl rfl ?_
      refine own_aload 195 X102 hx hby at_193 rfl rfl rfl ?_
      refine own_virt (W := 0) 198 (rm7_9 l Z a0 hw [] w_EXCLUSIVE w_SHARED w_cache W b99 m15 b101 m16 y7 x11 y9 x12 T102.heap n0 O102 E_b99_102 F_b99_mode_102 F_b99_number_102 F_b99_participant_102 n_b99 EZ_m15 E_b101_102 F_b101_mode_102 F_b101_number_102 F_b101_participant_102 n_b101 EZ_m16 ne_b99_b101 hc103 hc104 hq5) X102 hx hby hZ hown (own_w hw 45 rfl) (own_w hw 46 rfl) (notFace_of_selects (args := #[]) (mvT hZ (own_w hw 48 rfl))) (own_w hw 48 rfl) (own_w hw 47 rfl) (own_w hw 18 rfl) (own_w hw 49 rfl) (by decide) (by rw [hml]; rfl) b99 [(.ref b101)] [] pd_5 rfl at_195 rfl rfl E_b99_102 rfl rfl rfl (by decide) (by decide) (by decide) (by decide) ?_
      rintro _ T105 L105 X105 ⟨rfl, N105, e105⟩
      have N105 := Fr.app N102 N105
      show Go p e below _ (T105.setTop (mkF m 198 _ [(.int (0 : Int32))]))
      refine own_istore 200 #[oJ y0, oS, oJ y2, oS, oI x4, oI x5, oI x6, oJ y7, oS, oJ y9, oS, oI x11, oI x12, oI x13, oI x14, oA m15, oA m16, oI (0 : Int32), oA b99, oA b101, oA b101, oI (0 : Int32), oI (0 : Int32)] X105 hx hby at_198 rfl rfl ?_
      refine own_iload 202 X105 hx hby at_200 rfl rfl ?_
      refine own_iload 204 X105 hx hby at_202 rfl rfl ?_
      refine own_icY 209 X105 hx hby at_204 (by decide) (by decide) (by decide) ?_
      refine own_iload 211 X105 hx hby at_209 rfl rfl ?_
      refine own_iconst 212 (2 : Int32) X105 hx hby at_211 rfl (by decide) ?_
      refine own_icN 215 X105 hx hby at_212 rfl (by decide) ?_
      refine own_aload 217 X105 hx hby at_215 rfl rfl rfl ?_
      refine own_aload 219 X105 hx hby at_217 rfl rfl rfl ?_
      refine own_virt (W := 0) 222 (rm7_9 l Z a0 hw [] w_EXCLUSIVE w_SHARED w_cache W b101 m16 b99 m15 y9 x12 y7 x11 T102.heap n0 O102 E_b101_102 F_b101_mode_102 F_b101_number_102 F_b101_participant_102 n_b101 EZ_m16 E_b99_102 F_b99_mode_102 F_b99_number_102 F_b99_participant_102 n_b99 EZ_m15 (Ne.symm ne_b99_b101) hc103.symm hc104.symm (fun q => hq5 q.symm)) X105 hx hby hZ hown (own_w hw 45 rfl) (own_w hw 46 rfl) (notFace_of_selects (args := #[]) (mvT hZ (own_w hw 48 rfl))) (own_w hw 48 rfl) (own_w hw 47 rfl) (own_w hw 18 rfl) (own_w hw 49 rfl) (by decide) (by rw [hml]; rfl) b101 [(.ref b99)] [] pd_5 rfl at_219 rfl e105 E_b101_102 rfl rfl rfl (by decide) (by decide) (by decide) (by decide) ?_
      rintro _ T106 L106 X106 ⟨rfl, N106, e106⟩
      have N106 := Fr.app N105 N106
      show Go p e below _ (T106.setTop (mkF m 222 _ [(.int (0 : Int32))]))
      refine own_iload 224 X106 hx hby at_222 rfl rfl ?_
      refine own_icN 227 X106 hx hby at_224 rfl (by decide) ?_
      refine own_iconst 228 (1 : Int32) X106 hx hby at_227 rfl (by decide) ?_
      refine own_goto 232 X106 hx hby at_228 (by decide) (by decide) ?_
      exact own_retW (Q := own_Q1 n0) X106 hx hby hret hlk hS (by rw [e106]; exact hk) at_232 rfl (Or.inl ⟨rfl, by simp, _, rfl⟩) (by decide) (by decide) ⟨rfl, N106⟩
    refine own_icY 182 X102 hx hby at_168 (by decide) (by decide) (feq hc104).2 ?_
    refine own_iconst 183 (0 : Int32) X102 hx hby at_182 rfl (by decide) ?_
    refine own_istore 185 #[oJ y0, oS, oJ y2, oS, oI x4, oI x5, oI x6, oJ y7, oS, oJ y9, oS, oI x11, oI x12, oI x13, oI x14, oA m15, oA m16, oI (0 : Int32), oA b99, oA b101, oA b101, oI (0 : Int32), oU] X102 hx hby at_183 rfl rfl ?_
    refine own_goto 191 X102 hx hby at_185 (by decide) (by decide) ?_
    refine own_aload 193 X102 hx hby at_191 rfl rfl rfl ?_
    refine own_aload 195 X102 hx hby at_193 rfl rfl rfl ?_
    refine own_virt (W := 0) 198 (rm7_10 l Z a0 hw [] w_EXCLUSIVE w_SHARED w_cache W b99 m15 b101 m16 y7 x11 y9 x12 T102.heap n0 O102 E_b99_102 F_b99_mode_102 F_b99_number_102 F_b99_participant_102 n_b99 EZ_m15 E_b101_102 F_b101_mode_102 F_b101_number_102 F_b101_participant_102 n_b101 EZ_m16 ne_b99_b101 hc103 hc104) X102 hx hby hZ hown (own_w hw 45 rfl) (own_w hw 46 rfl) (notFace_of_selects (args := #[]) (mvT hZ (own_w hw 48 rfl))) (own_w hw 48 rfl) (own_w hw 47 rfl) (own_w hw 18 rfl) (own_w hw 49 rfl) (by decide) (by rw [hml]; rfl) b99 [(.ref b101)] [] pd_5 rfl at_195 rfl rfl E_b99_102 rfl rfl rfl (by decide) (by decide) (by decide) (by decide) ?_
    rintro _ T107 L107 X107 ⟨rfl, N107, e107⟩
    have N107 := Fr.app N102 N107
    show Go p e below _ (T107.setTop (mkF m 198 _ [(.int (0 : Int32))]))
    refine own_istore 200 #[oJ y0, oS, oJ y2, oS, oI x4, oI x5, oI x6, oJ y7, oS, oJ y9, oS, oI x11, oI x12, oI x13, oI x14, oA m15, oA m16, oI (0 : Int32), oA b99, oA b101, oA b101, oI (0 : Int32), oI (0 : Int32)] X107 hx hby at_198 rfl rfl ?_
    refine own_iload 202 X107 hx hby at_200 rfl rfl ?_
    refine own_iload 204 X107 hx hby at_202 rfl rfl ?_
    refine own_icY 209 X107 hx hby at_204 (by decide) (by decide) (by decide) ?_
    refine own_iload 211 X107 hx hby at_209 rfl rfl ?_
    refine own_iconst 212 (2 : Int32) X107 hx hby at_211 rfl (by decide) ?_
    refine own_icN 215 X107 hx hby at_212 rfl (by decide) ?_
    refine own_aload 217 X107 hx hby at_215 rfl rfl rfl ?_
    refine own_aload 219 X107 hx hby at_217 rfl rfl rfl ?_
    refine own_virt (W := 0) 222 (rm7_10 l Z a0 hw [] w_EXCLUSIVE w_SHARED w_cache W b101 m16 b99 m15 y9 x12 y7 x11 T102.heap n0 O102 E_b101_102 F_b101_mode_102 F_b101_number_102 F_b101_participant_102 n_b101 EZ_m16 E_b99_102 F_b99_mode_102 F_b99_number_102 F_b99_participant_102 n_b99 EZ_m15 (Ne.symm ne_b99_b101) hc103.symm (fun q => hc104 q.symm)) X107 hx hby hZ hown (own_w hw 45 rfl) (own_w hw 46 rfl) (notFace_of_selects (args := #[]) (mvT hZ (own_w hw 48 rfl))) (own_w hw 48 rfl) (own_w hw 47 rfl) (own_w hw 18 rfl) (own_w hw 49 rfl) (by decide) (by rw [hml]; rfl) b101 [(.ref b99)] [] pd_5 rfl at_219 rfl e107 E_b101_102 rfl rfl rfl (by decide) (by decide) (by decide) (by decide) ?_
    rintro _ T108 L108 X108 ⟨rfl, N108, e108⟩
    have N108 := Fr.app N107 N108
    show Go p e below _ (T108.setTop (mkF m 222 _ [(.int (0 : Int32))]))
    refine own_iload 224 X108 hx hby at_222 rfl rfl ?_
    refine own_icN 227 X108 hx hby at_224 rfl (by decide) ?_
    refine own_iconst 228 (1 : Int32) X108 hx hby at_227 rfl (by decide) ?_
    refine own_goto 232 X108 hx hby at_228 (by decide) (by decide) ?_
    exact own_retW (Q := own_Q1 n0) X108 hx hby hret hlk hS (by rw [e108]; exact hk) at_232 rfl (Or.inl ⟨rfl, by simp, _, rfl⟩) (by decide) (by decide) ⟨rfl, N108⟩
  refine own_ifY 182 X102 hx hby at_161 (by decide) (by decide) (own_feqL hc103).2 ?_
  refine own_iconst 183 (0 : Int32) X102 hx hby at_182 rfl (by decide) ?_
  refine own_istore 185 #[oJ y0, oS, oJ y2, oS, oI x4, oI x5, oI x6, oJ y7, oS, oJ y9, oS, oI x11, oI x12, oI x13, oI x14, oA m15, oA m16, oI (0 : Int32), oA b99, oA b101, oA b101, oI (0 : Int32), oU] X102 hx hby at_183 rfl rfl ?_
  refine own_goto 191 X102 hx hby at_185 (by decide) (by decide) ?_
  refine own_aload 193 X102 hx hby at_191 rfl rfl rfl ?_
  refine own_aload 195 X102 hx hby at_193 rfl rfl rfl ?_
  refine own_virt (W := 0) 198 (rm7_11 l Z a0 hw [] w_EXCLUSIVE w_SHARED w_cache W b99 m15 b101 m16 y7 x11 y9 x12 T102.heap n0 O102 E_b99_102 F_b99_mode_102 F_b99_number_102 F_b99_participant_102 n_b99 EZ_m15 E_b101_102 F_b101_mode_102 F_b101_number_102 F_b101_participant_102 n_b101 EZ_m16 ne_b99_b101 hc103) X102 hx hby hZ hown (own_w hw 45 rfl) (own_w hw 46 rfl) (notFace_of_selects (args := #[]) (mvT hZ (own_w hw 48 rfl))) (own_w hw 48 rfl) (own_w hw 47 rfl) (own_w hw 18 rfl) (own_w hw 49 rfl) (by decide) (by rw [hml]; rfl) b99 [(.ref b101)] [] pd_5 rfl at_195 rfl rfl E_b99_102 rfl rfl rfl (by decide) (by decide) (by decide) (by decide) ?_
  rintro _ T109 L109 X109 ⟨rfl, N109, e109⟩
  have N109 := Fr.app N102 N109
  show Go p e below _ (T109.setTop (mkF m 198 _ [(.int (0 : Int32))]))
  refine own_istore 200 #[oJ y0, oS, oJ y2, oS, oI x4, oI x5, oI x6, oJ y7, oS, oJ y9, oS, oI x11, oI x12, oI x13, oI x14, oA m15, oA m16, oI (0 : Int32), oA b99, oA b101, oA b101, oI (0 : Int32), oI (0 : Int32)] X109 hx hby at_198 rfl rfl ?_
  refine own_iload 202 X109 hx hby at_200 rfl rfl ?_
  refine own_iload 204 X109 hx hby at_202 rfl rfl ?_
  refine own_icY 209 X109 hx hby at_204 (by decide) (by decide) (by decide) ?_
  refine own_iload 211 X109 hx hby at_209 rfl rfl ?_
  refine own_iconst 212 (2 : Int32) X109 hx hby at_211 rfl (by decide) ?_
  refine own_icN 215 X109 hx hby at_212 rfl (by decide) ?_
  refine own_aload 217 X109 hx hby at_215 rfl rfl rfl ?_
  refine own_aload 219 X109 hx hby at_217 rfl rfl rfl ?_
  refine own_virt (W := 0) 222 (rm7_11 l Z a0 hw [] w_EXCLUSIVE w_SHARED w_cache W b101 m16 b99 m15 y9 x12 y7 x11 T102.heap n0 O102 E_b101_102 F_b101_mode_102 F_b101_number_102 F_b101_participant_102 n_b101 EZ_m16 E_b99_102 F_b99_mode_102 F_b99_number_102 F_b99_participant_102 n_b99 EZ_m15 (Ne.symm ne_b99_b101) (fun q => hc103 q.symm)) X109 hx hby hZ hown (own_w hw 45 rfl) (own_w hw 46 rfl) (notFace_of_selects (args := #[]) (mvT hZ (own_w hw 48 rfl))) (own_w hw 48 rfl) (own_w hw 47 rfl) (own_w hw 18 rfl) (own_w hw 49 rfl) (by decide) (by rw [hml]; rfl) b101 [(.ref b99)] [] pd_5 rfl at_219 rfl e109 E_b101_102 rfl rfl rfl (by decide) (by decide) (by decide) (by decide) ?_
  rintro _ T110 L110 X110 ⟨rfl, N110, e110⟩
  have N110 := Fr.app N109 N110
  show Go p e below _ (T110.setTop (mkF m 222 _ [(.int (0 : Int32))]))
  refine own_iload 224 X110 hx hby at_222 rfl rfl ?_
  refine own_icN 227 X110 hx hby at_224 rfl (by decide) ?_
  refine own_iconst 228 (1 : Int32) X110 hx hby at_227 rfl (by decide) ?_
  refine own_goto 232 X110 hx hby at_228 (by decide) (by decide) ?_
  exact own_retW (Q := own_Q1 n0) X110 hx hby hret hlk hS (by rw [e110]; exact hk) at_232 rfl (Or.inl ⟨rfl, by simp, _, rfl⟩) (by decide) (by decide) ⟨rfl, N110⟩
set_option maxRecDepth 65536 in
set_option maxHeartbeats 40000000 in
theorem cut_88_7 (l : Launch) (Z : State) (a0 : Array Value) (hw : ∀ d ∈ tables_1, d.before a0 Z = true) (w_EXCLUSIVE w_SHARED w_cache : Addr) (W : own_W Z w_EXCLUSIVE w_SHARED w_cache) (y0 : Int64) (y2 : Int64) (x4 : Int32) (x5 : Int32) (x6 : Int32) (y7 : Int64) (y9 : Int64) (x11 : Int32) (x12 : Int32) (x13 : Int32) (x14 : Int32) (m15 : Addr) (m16 : Addr) (h0 : Heap) (n0 : Nat) (O0 : Old Z n0 h0) (EZ_m15 : Exa Z Z.heap m15 "com/example/bare_turnstile/bareturnstile/EntryMode") (EZ_m16 : Exa Z Z.heap m16 "com/example/bare_turnstile/bareturnstile/EntryMode") (hq0 : ¬ (y7 < (1 : Int64))) (hq1 : ¬ (y9 < (1 : Int64))) (hq2 : ¬ (x11 < (0 : Int32))) (hq3 : ¬ (x12 < (0 : Int32))) (hq4 : ¬ (x13 = x14)) (hq5 : ¬ (m15 = m16)) {p : Program} {e : Env} {s : State} {m : MethodId} {args : Array Value} {below : List Frame} {meth : Method} {c : Code} {T : State} {vm0 : Vm} {locs : List Loc} {k0 : Nat}
    (X0 : Stand p l e room_1 (s.setVm vm0) m args below meth c T locs 0 0) (hx : p.tables.exec = Jvm.exec) (hby : c.code = code) (hml : c.maxLocals = 23) (hret : meth.sig.returnType = some .boolean) (hlk : meth.locks = false) (hZ : Z.Warmed39 (s.setVm vm0).vm) (hown : (s.setVm vm0).vm.findClass "com/example/bare_turnstile/bareturnstile/TicketEqualsPinLaw" = some m.cls) (e0 : T.heap = h0) (N0 : Fr n0 locs) (hS : s.Since vm0 k0) (hk : k0 ≤ h0.size) :
    Go p e below (fun s₂ o => s₂.status = .running ∧ Ended s₂ below o ∧ ∃ v L, o = .returned v ∧ own_Q1 n0 v s₂.heap L ∧ ReturnedEndW s o s₂ L 16 1152) (T.setTop (mkF m 88 #[oJ y0, oS, oJ y2, oS, oI x4, oI x5, oI x6, oJ y7, oS, oJ y9, oS, oI x11, oI x12, oI x13, oI x14, oA m15, oA m16, oI (1 : Int32), oU, oU, oU, oU, oU] [])) := by
  refine own_new 91 3 X0 hx hby hZ hown (own_w hw 16 rfl) (own_w hw 17 rfl) (own_w hw 18 rfl) e0 at_88 rfl (by decide) (by decide) ?_
  intro T111 h111 b111 X111 e111 E111 g111 A111 D111
  have n_b111 : n0 ≤ b111 := Nat.le_trans (own_n0 O0) (Nat.le_of_eq g111.symm)
  have O111 := O0.ext E111
  have hk := Nat.le_trans hk E111.1
  have F_b111_number : Fld Z h111 b111 "com/example/bare_turnstile/bareturnstile/Ticket" "number" "J" (.long (0 : Int64)) := D111 (Or.inr (own_w hw 26 rfl)) (ty := .long) (by decide)
  have F_b111_participant : Fld Z h111 b111 "com/example/bare_turnstile/bareturnstile/Ticket" "participant" "I" (.int (0 : Int32)) := D111 (Or.inr (own_w hw 28 rfl)) (ty := .int) (by decide)
  have F_b111_mode : Fld Z h111 b111 "com/example/bare_turnstile/bareturnstile/Ticket" "mode" "Lcom/example/bare_turnstile/bareturnstile/EntryMode;" .null := D111 (Or.inr (own_w hw 44 rfl)) (ty := (.object "com/example/bare_turnstile/bareturnstile/EntryMode")) (by decide)
  refine own_dup 92 X111 hx hby at_91 rfl rfl ?_
  refine own_lload 94 X111 hx hby at_92 rfl rfl ?_
  refine own_iload 96 X111 hx hby at_94 rfl rfl ?_
  refine own_aload 98 X111 hx hby at_96 rfl rfl rfl ?_
  refine own_specS (W := 1) 101 (rm4_7 l Z a0 hw [] w_EXCLUSIVE w_SHARED w_cache W b111 m15 y7 x11 h111 n0 O111 A111 F_b111_mode F_b111_number F_b111_participant n_b111 EZ_m15 hq0 hq2) X111 hx hby hZ hown rfl (own_w hw 19 rfl) (own_w hw 20 rfl) (own_w hw 18 rfl) (own_w hw 21 rfl) (by decide) (by rw [hml]; rfl) b111 [(.long y7), (.int x11), (.ref m15)] [(.ref b111)] pd_4 rfl at_98 rfl e111 rfl rfl rfl (by decide) (by decide) (by decide) (by decide) hS hk ?_
  rintro _ T112 L112 X112 ⟨rfl, N112, Kc112, E_b111_112, F_b111_mode_112, F_b111_number_112, F_b111_participant_112⟩ hS hZ hown
  have N112 := Fr.app N0 N112
  have O112 := O111.keep Kc112 (allS n_b111 all0)
  have hk := Nat.le_refl T112.heap.size
  show Go p e below _ (T112.setTop (mkF m 101 _ [(.ref b111)]))
  refine own_astore 103 #[oJ y0, oS, oJ y2, oS, oI x4, oI x5, oI x6, oJ y7, oS, oJ y9, oS, oI x11, oI x12, oI x13, oI x14, oA m15, oA m16, oI (1 : Int32), oA b111, oU, oU, oU, oU] X112 hx hby at_101 rfl rfl rfl ?_
  refine own_new 106 3 X112 hx hby hZ hown (own_w hw 16 rfl) (own_w hw 17 rfl) (own_w hw 18 rfl) rfl at_103 rfl (by decide) (by decide) ?_
  intro T113 h113 b113 X113 e113 E113 g113 A113 D113
  have ne_b111_b113 : b111 ≠ b113 := Nat.ne_of_lt (Nat.lt_of_lt_of_le E_b111_112.lt (Nat.le_of_eq g113.symm))
  have n_b113 : n0 ≤ b113 := Nat.le_trans (own_n0 O112) (Nat.le_of_eq g113.symm)
  have E_b111_113 := E_b111_112.ext E113
  have F_b111_mode_113 := F_b111_mode_112.ext E113
  have F_b111_number_113 := F_b111_number_112.ext E113
  have F_b111_participant_113 := F_b111_participant_112.ext E113
  have O113 := O112.ext E113
  have hk := Nat.le_trans hk E113.1
  have F_b113_number : Fld Z h113 b113 "com/example/bare_turnstile/bareturnstile/Ticket" "number" "J" (.long (0 : Int64)) := D113 (Or.inr (own_w hw 26 rfl)) (ty := .long) (by decide)
  have F_b113_participant : Fld Z h113 b113 "com/example/bare_turnstile/bareturnstile/Ticket" "participant" "I" (.int (0 : Int32)) := D113 (Or.inr (own_w hw 28 rfl)) (ty := .int) (by decide)
  have F_b113_mode : Fld Z h113 b113 "com/example/bare_turnstile/bareturnstile/Ticket" "mode" "Lcom/example/bare_turnstile/bareturnstile/EntryMode;" .null := D113 (Or.inr (own_w hw 44 rfl)) (ty := (.object "com/example/bare_turnstile/bareturnstile/EntryMode")) (by decide)
  refine own_dup 107 X113 hx hby at_106 rfl rfl ?_
  refine own_lload 109 X113 hx hby at_107 rfl rfl ?_
  refine own_iload 111 X113 hx hby at_109 rfl rfl ?_
  refine own_aload 113 X113 hx hby at_111 rfl rfl rfl ?_
  refine own_specS (W := 1) 116 (rm4_7 l Z a0 hw [] w_EXCLUSIVE w_SHARED w_cache W b113 m16 y9 x12 h113 n0 O113 A113 F_b113_mode F_b113_number F_b113_participant n_b113 EZ_m16 hq1 hq3) X113 hx hby hZ hown rfl (own_w hw 19 rfl) (own_w hw 20 rfl) (own_w hw 18 rfl) (own_w hw 21 rfl) (by decide) (by rw [hml]; rfl) b113 [(.long y9), (.int x12), (.ref m16)] [(.ref b113)] pd_4 rfl at_113 rfl e113 rfl rfl rfl (by decide) (by decide) (by decide) (by decide) hS hk ?_
  rintro _ T114 L114 X114 ⟨rfl, N114, Kc114, E_b113_114, F_b113_mode_114, F_b113_number_114, F_b113_participant_114⟩ hS hZ hown
  have N114 := Fr.app N112 N114
  have E_b111_114 := E_b111_113.keep Kc114
  have F_b111_mode_114 := F_b111_mode_113.keep Kc114 (ninS ne_b111_b113 nin0)
  have F_b111_number_114 := F_b111_number_113.keep Kc114 (ninS ne_b111_b113 nin0)
  have F_b111_participant_114 := F_b111_participant_113.keep Kc114 (ninS ne_b111_b113 nin0)
  have O114 := O113.keep Kc114 (allS n_b113 all0)
  have hk := Nat.le_refl T114.heap.size
  show Go p e below _ (T114.setTop (mkF m 116 _ [(.ref b113)]))
  refine own_astore 118 #[oJ y0, oS, oJ y2, oS, oI x4, oI x5, oI x6, oJ y7, oS, oJ y9, oS, oI x11, oI x12, oI x13, oI x14, oA m15, oA m16, oI (1 : Int32), oA b111, oA b113, oU, oU, oU] X114 hx hby at_116 rfl rfl rfl ?_
  refine own_iload 120 X114 hx hby at_118 rfl rfl ?_
  refine own_iconst 121 (2 : Int32) X114 hx hby at_120 rfl (by decide) ?_
  refine own_icN 124 X114 hx hby at_121 rfl (by decide) ?_
  refine own_aload 126 X114 hx hby at_124 rfl rfl rfl ?_
  refine own_astore 128 #[oJ y0, oS, oJ y2, oS, oI x4, oI x5, oI x6, oJ y7, oS, oJ y9, oS, oI x11, oI x12, oI x13, oI x14, oA m15, oA m16, oI (1 : Int32), oA b111, oA b113, oA b113, oU, oU] X114 hx hby at_126 rfl rfl rfl ?_
  refine own_goto 150 X114 hx hby at_128 (by decide) (by decide) ?_
  refine own_iload 152 X114 hx hby at_150 rfl rfl ?_
  refine own_iconst 153 (2 : Int32) X114 hx hby at_152 rfl (by decide) ?_
  refine own_icN 156 X114 hx hby at_153 rfl (by decide) ?_
  refine own_lload 158 X114 hx hby at_156 rfl rfl ?_
  refine own_lload 160 X114 hx hby at_158 rfl rfl ?_
  refine own_lcmp 161 (XT.cmpL y7 y9) X114 hx hby at_160 rfl rfl ?_
  by_cases hc115 : y7 = y9
  · refine own_ifN 164 X114 hx hby at_161 rfl (own_teqL hc115).2 ?_
    refine own_iload 166 X114 hx hby at_164 rfl rfl ?_
    refine own_iload 168 X114 hx hby at_166 rfl rfl ?_
    by_cases hc116 : x11 = x12
    · refine own_icN 171 X114 hx hby at_168 rfl (teq hc116).2 ?_
      refine own_iload 173 X114 hx hby at_171 rfl rfl ?_
      refine own_iload 175 X114 hx hby at_173 rfl rfl ?_
      refine own_icY 182 X114 hx hby at_175 (by decide) (by decide) (feq hq4).2 ?_
      refine own_iconst 183 (0 : Int32) X114 hx hby at_182 rfl (by decide) ?_
      refine own_istore 185 #[oJ y0, oS, oJ y2, oS, oI x4, oI x5, oI x6, oJ y7, oS, oJ y9, oS, oI x11, oI x12, oI x13, oI x14, oA m15, oA m16, oI (1 : Int32), oA b111, oA b113, oA b113, oI (0 : Int32), oU] X114 hx hby at_183 rfl rfl ?_
      refine own_goto 191 X114 hx hby at_185 (by decide) (by decide) ?_
      refine own_aload 193 X114 hx hby at_191 rfl rfl rfl ?_
      refine own_aload 195 X114 hx hby at_193 rfl rfl rfl ?_
      refine own_virt (W := 0) 198 (rm7_9 l Z a0 hw [] w_EXCLUSIVE w_SHARED w_cache W b111 m15 b113 m16 y7 x11 y9 x12 T114.heap n0 O114 E_b111_114 F_b111_mode_114 F_b111_number_114 F_b111_participant_114 n_b111 EZ_m15 E_b113_114 F_b113_mode_114 F_b113_number_114 F_b113_participant_114 n_b113 EZ_m16 ne_b111_b113 hc115 hc116 hq5) X114 hx hby hZ hown (own_w hw 45 rfl) (own_w hw 46 rfl) (notFace_of_selects (args := #[]) (mvT hZ (own_w hw 48 rfl))) (own_w hw 48 rfl) (own_w hw 47 rfl) (own_w hw 18 rfl) (own_w hw 49 rfl) (by decide) (by rw [hml]; rfl) b111 [(.ref b113)] [] pd_5 rfl at_195 rfl rfl E_b111_114 rfl rfl rfl (by decide) (by decide) (by decide) (by decide) ?_
      rintro _ T117 L117 X117 ⟨rfl, N117, e117⟩
      have N117 := Fr.app N114 N117
      show Go p e below _ (T117.setTop (mkF m 198 _ [(.int (0 : Int32))]))
      refine own_istore 200 #[oJ y0, oS, oJ y2, oS, oI x4, oI x5, oI x6, oJ y7, oS, oJ y9, oS, oI x11, oI x12, oI x13, oI x14, oA m15, oA m16, oI (1 : Int32), oA b111, oA b113, oA b113, oI (0 : Int32), oI (0 : Int32)] X117 hx hby at_198 rfl rfl ?_
      refine own_iload 202 X117 hx hby at_200 rfl rfl ?_
      refine own_iload 204 X117 hx hby at_202 rfl rfl ?_
      refine own_icY 209 X117 hx hby at_204 (by decide) (by decide) (by decide) ?_
      refine own_iload 211 X117 hx hby at_209 rfl rfl ?_
      refine own_iconst 212 (2 : Int32) X117 hx hby at_211 rfl (by decide) ?_
      refine own_icN 215 X117 hx hby at_212 rfl (by decide) ?_
      refine own_aload 217 X117 hx hby at_215 rfl rfl rfl ?_
      refine own_aload 219 X117 hx hby at_217 rfl rfl rfl ?_
      refine own_virt (W := 0) 222 (rm7_9 l Z a0 hw [] w_EXCLUSIVE w_SHARED w_cache W b113 m16 b111 m15 y9 x12 y7 x11 T114.heap n0 O114 E_b113_114 F_b113_mode_114 F_b113_number_114 F_b113_participant_114 n_b113 EZ_m16 E_b111_114 F_b111_mode_114 F_b111_number_114 F_b111_participant_114 n_b111 EZ_m15 (Ne.symm ne_b111_b113) hc115.symm hc116.symm (fun q => hq5 q.symm)) X117 hx hby hZ hown (own_w hw 45 rfl) (own_w hw 46 rfl) (notFace_of_selects (args := #[]) (mvT hZ (own_w hw 48 rfl))) (own_w hw 48 rfl) (own_w hw 47 rfl) (own_w hw 18 rfl) (own_w hw 49 rfl) (by decide) (by rw [hml]; rfl) b113 [(.ref b111)] [] pd_5 rfl at_219 rfl e117 E_b113_114 rfl rfl rfl (by decide) (by decide) (by decide) (by decide) ?_
      rintro _ T118 L118 X118 ⟨rfl, N118, e118⟩
      have N118 := Fr.app N117 N118
      show Go p e below _ (T118.setTop (mkF m 222 _ [(.int (0 : Int32))]))
      refine own_iload 224 X118 hx hby at_222 rfl rfl ?_
      refine own_icN 227 X118 hx hby at_224 rfl (by decide) ?_
      refine own_iconst 228 (1 : Int32) X118 hx hby at_227 rfl (by decide) ?_
      refine own_goto 232 X118 hx hby at_228 (by decide) (by decide) ?_
      exact own_retW (Q := own_Q1 n0) X118 hx hby hret hlk hS (by rw [e118]; exact hk) at_232 rfl (Or.inl ⟨rfl, by simp, _, rfl⟩) (by decide) (by decide) ⟨rfl, N118⟩
    refine own_icY 182 X114 hx hby at_168 (by decide) (by decide) (feq hc116).2 ?_
    refine own_iconst 183 (0 : Int32) X114 hx hby at_182 rfl (by decide) ?_
    refine own_istore 185 #[oJ y0, oS, oJ y2, oS, oI x4, oI x5, oI x6, oJ y7, oS, oJ y9, oS, oI x11, oI x12, oI x13, oI x14, oA m15, oA m16, oI (1 : Int32), oA b111, oA b113, oA b113, oI (0 : Int32), oU] X114 hx hby at_183 rfl rfl ?_
    refine own_goto 191 X114 hx hby at_185 (by decide) (by decide) ?_
    refine own_aload 193 X114 hx hby at_191 rfl rfl rfl ?_
    refine own_aload 195 X114 hx hby at_193 rfl rfl rfl ?_
    refine own_virt (W := 0) 198 (rm7_10 l Z a0 hw [] w_EXCLUSIVE w_SHARED w_cache W b111 m15 b113 m16 y7 x11 y9 x12 T114.heap n0 O114 E_b111_114 F_b111_mode_114 F_b111_number_114 F_b111_participant_114 n_b111 EZ_m15 E_b113_114 F_b113_mode_114 F_b113_number_114 F_b113_participant_114 n_b113 EZ_m16 ne_b111_b113 hc115 hc116) X114 hx hby hZ hown (own_w hw 45 rfl) (own_w hw 46 rfl) (notFace_of_selects (args := #[]) (mvT hZ (own_w hw 48 rfl))) (own_w hw 48 rfl) (own_w hw 47 rfl) (own_w hw 18 rfl) (own_w hw 49 rfl) (by decide) (by rw [hml]; rfl) b111 [(.ref b113)] [] pd_5 rfl at_195 rfl rfl E_b111_114 rfl rfl rfl (by decide) (by decide) (by decide) (by decide) ?_
    rintro _ T119 L119 X119 ⟨rfl, N119, e119⟩
    have N119 := Fr.app N114 N119
    show Go p e below _ (T119.setTop (mkF m 198 _ [(.int (0 : Int32))]))
    refine own_istore 200 #[oJ y0, oS, oJ y2, oS, oI x4, oI x5, oI x6, oJ y7, oS, oJ y9, oS, oI x11, oI x12, oI x13, oI x14, oA m15, oA m16, oI (1 : Int32), oA b111, oA b113, oA b113, oI (0 : Int32), oI (0 : Int32)] X119 hx hby at_198 rfl rfl ?_
    refine own_iload 202 X119 hx hby at_200 rfl rfl ?_
    refine own_iload 204 X119 hx hby at_202 rfl rfl ?_
    refine own_icY 209 X119 hx hby at_204 (by decide) (by decide) (by decide) ?_
    refine own_iload 211 X119 hx hby at_209 rfl rfl ?_
    refine own_iconst 212 (2 : Int32) X119 hx hby at_211 rfl (by decide) ?_
    refine own_icN 215 X119 hx hby at_212 rfl (by decide) ?_
    refine own_aload 217 X119 hx hby at_215 rfl rfl rfl ?_
    refine own_aload 219 X119 hx hby at_217 rfl rfl rfl ?_
    refine own_virt (W := 0) 222 (rm7_10 l Z a0 hw [] w_EXCLUSIVE w_SHARED w_cache W b113 m16 b111 m15 y9 x12 y7 x11 T114.heap n0 O114 E_b113_114 F_b113_mode_114 F_b113_number_114 F_b113_participant_114 n_b113 EZ_m16 E_b111_114 F_b111_mode_114 F_b111_number_114 F_b111_participant_114 n_b111 EZ_m15 (Ne.symm ne_b111_b113) hc115.symm (fun q => hc116 q.symm)) X119 hx hby hZ hown (own_w hw 45 rfl) (own_w hw 46 rfl) (notFace_of_selects (args := #[]) (mvT hZ (own_w hw 48 rfl))) (own_w hw 48 rfl) (own_w hw 47 rfl) (own_w hw 18 rfl) (own_w hw 49 rfl) (by decide) (by rw [hml]; rfl) b113 [(.ref b111)] [] pd_5 rfl at_219 rfl e119 E_b113_114 rfl rfl rfl (by decide) (by decide) (by decide) (by decide) ?_
    rintro _ T120 L120 X120 ⟨rfl, N120, e120⟩
    have N120 := Fr.app N119 N120
    show Go p e below _ (T120.setTop (mkF m 222 _ [(.int (0 : Int32))]))
    refine own_iload 224 X120 hx hby at_222 rfl rfl ?_
    refine own_icN 227 X120 hx hby at_224 rfl (by decide) ?_
    refine own_iconst 228 (1 : Int32) X120 hx hby at_227 rfl (by decide) ?_
    refine own_goto 232 X120 hx hby at_228 (by decide) (by decide) ?_
    exact own_retW (Q := own_Q1 n0) X120 hx hby hret hlk hS (by rw [e120]; exact hk) at_232 rfl (Or.inl ⟨rfl, by simp, _, rfl⟩) (by decide) (by decide) ⟨rfl, N120⟩
  refine own_ifY 182 X114 hx hby at_161 (by decide) (by decide) (own_feqL hc115).2 ?_
  refine own_iconst 183 (0 : Int32) X114 hx hby at_182 rfl (by decide) ?_
  refine own_istore 185 #[oJ y0, oS, oJ y2, oS, oI x4, oI x5, oI x6, oJ y7, oS, oJ y9, oS, oI x11, oI x12, oI x13, oI x14, oA m15, oA m16, oI (1 : Int32), oA b111, oA b113, oA b113, oI (0 : Int32), oU] X114 hx hby at_183 rfl rfl ?_
  refine own_goto 191 X114 hx hby at_185 (by decide) (by decide) ?_
  refine own_aload 193 X114 hx hby at_191 rfl rfl rfl ?_
  refine own_aload 195 X114 hx hby at_193 rfl rfl rfl ?_
  refine own_virt (W := 0) 198 (rm7_11 l Z a0 hw [] w_EXCLUSIVE w_SHARED w_cache W b111 m15 b113 m16 y7 x11 y9 x12 T114.heap n0 O114 E_b111_114 F_b111_mode_114 F_b111_number_114 F_b111_participant_114 n_b111 EZ_m15 E_b113_114 F_b113_mode_114 F_b113_number_114 F_b113_participant_114 n_b113 EZ_m16 ne_b111_b113 hc115) X114 hx hby hZ hown (own_w hw 45 rfl) (own_w hw 46 rfl) (notFace_of_selects (args := #[]) (mvT hZ (own_w hw 48 rfl))) (own_w hw 48 rfl) (own_w hw 47 rfl) (own_w hw 18 rfl) (own_w hw 49 rfl) (by decide) (by rw [hml]; rfl) b111 [(.ref b113)] [] pd_5 rfl at_195 rfl rfl E_b111_114 rfl rfl rfl (by decide) (by decide) (by decide) (by decide) ?_
  rintro _ T121 L121 X121 ⟨rfl, N121, e121⟩
  have N121 := Fr.app N114 N121
  show Go p e below _ (T121.setTop (mkF m 198 _ [(.int (0 : Int32))]))
  refine own_istore 200 #[oJ y0, oS, oJ y2, oS, oI x4, oI x5, oI x6, oJ y7, oS, oJ y9, oS, oI x11, oI x12, oI x13, oI x14, oA m15, oA m16, oI (1 : Int32), oA b111, oA b113, oA b113, oI (0 : Int32), oI (0 : Int32)] X121 hx hby at_198 rfl rfl ?_
  refine own_iload 202 X121 hx hby at_200 rfl rfl ?_
  refine own_iload 204 X121 hx hby at_202 rfl rfl ?_
  refine own_icY 209 X121 hx hby at_204 (by decide) (by decide) (by decide) ?_
  refine own_iload 211 X121 hx hby at_209 rfl rfl ?_
  refine own_iconst 212 (2 : Int32) X121 hx hby at_211 rfl (by decide) ?_
  refine own_icN 215 X121 hx hby at_212 rfl (by decide) ?_
  refine own_aload 217 X121 hx hby at_215 rfl rfl rfl ?_
  refine own_aload 219 X121 hx hby at_217 rfl rfl rfl ?_
  refine own_virt (W := 0) 222 (rm7_11 l Z a0 hw [] w_EXCLUSIVE w_SHARED w_cache W b113 m16 b111 m15 y9 x12 y7 x11 T114.heap n0 O114 E_b113_114 F_b113_mode_114 F_b113_number_114 F_b113_participant_114 n_b113 EZ_m16 E_b111_114 F_b111_mode_114 F_b111_number_114 F_b111_participant_114 n_b111 EZ_m15 (Ne.symm ne_b111_b113) (fun q => hc115 q.symm)) X121 hx hby hZ hown (own_w hw 45 rfl) (own_w hw 46 rfl) (notFace_of_selects (args := #[]) (mvT hZ (own_w hw 48 rfl))) (own_w hw 48 rfl) (own_w hw 47 rfl) (own_w hw 18 rfl) (own_w hw 49 rfl) (by decide) (by rw [hml]; rfl) b113 [(.ref b111)] [] pd_5 rfl at_219 rfl e121 E_b113_114 rfl rfl rfl (by decide) (by decide) (by decide) (by decide) ?_
  rintro _ T122 L122 X122 ⟨rfl, N122, e122⟩
  have N122 := Fr.app N121 N122
  show Go p e below _ (T122.setTop (mkF m 222 _ [(.int (0 : Int32))]))
  refine own_iload 224 X122 hx hby at_222 rfl rfl ?_
  refine own_icN 227 X122 hx hby at_224 rfl (by decide) ?_
  refine own_iconst 228 (1 : Int32) X122 hx hby at_227 rfl (by decide) ?_
  refine own_goto 232 X122 hx hby at_228 (by decide) (by decide) ?_
  exact own_retW (Q := own_Q1 n0) X122 hx hby hret hlk hS (by rw [e122]; exact hk) at_232 rfl (Or.inl ⟨rfl, by simp, _, rfl⟩) (by decide) (by decide) ⟨rfl, N122⟩
set_option maxRecDepth 65536 in
set_option maxHeartbeats 40000000 in
theorem cut_88_8 (l : Launch) (Z : State) (a0 : Array Value) (hw : ∀ d ∈ tables_1, d.before a0 Z = true) (w_EXCLUSIVE w_SHARED w_cache : Addr) (W : own_W Z w_EXCLUSIVE w_SHARED w_cache) (y0 : Int64) (y2 : Int64) (x4 : Int32) (x5 : Int32) (x6 : Int32) (y7 : Int64) (y9 : Int64) (x11 : Int32) (x12 : Int32) (x13 : Int32) (x14 : Int32) (m15 : Addr) (m16 : Addr) (h0 : Heap) (n0 : Nat) (O0 : Old Z n0 h0) (EZ_m15 : Exa Z Z.heap m15 "com/example/bare_turnstile/bareturnstile/EntryMode") (EZ_m16 : Exa Z Z.heap m16 "com/example/bare_turnstile/bareturnstile/EntryMode") (hq0 : ¬ (y7 < (1 : Int64))) (hq1 : ¬ (y9 < (1 : Int64))) (hq2 : ¬ (x11 < (0 : Int32))) (hq3 : ¬ (x12 < (0 : Int32))) (hq4 : ¬ (x13 = x14)) (hq5 : ¬ (m15 = m16)) {p : Program} {e : Env} {s : State} {m : MethodId} {args : Array Value} {below : List Frame} {meth : Method} {c : Code} {T : State} {vm0 : Vm} {locs : List Loc} {k0 : Nat}
    (X0 : Stand p l e room_1 (s.setVm vm0) m args below meth c T locs 0 0) (hx : p.tables.exec = Jvm.exec) (hby : c.code = code) (hml : c.maxLocals = 23) (hret : meth.sig.returnType = some .boolean) (hlk : meth.locks = false) (hZ : Z.Warmed39 (s.setVm vm0).vm) (hown : (s.setVm vm0).vm.findClass "com/example/bare_turnstile/bareturnstile/TicketEqualsPinLaw" = some m.cls) (e0 : T.heap = h0) (N0 : Fr n0 locs) (hS : s.Since vm0 k0) (hk : k0 ≤ h0.size) :
    Go p e below (fun s₂ o => s₂.status = .running ∧ Ended s₂ below o ∧ ∃ v L, o = .returned v ∧ own_Q1 n0 v s₂.heap L ∧ ReturnedEndW s o s₂ L 16 1152) (T.setTop (mkF m 88 #[oJ y0, oS, oJ y2, oS, oI x4, oI x5, oI x6, oJ y7, oS, oJ y9, oS, oI x11, oI x12, oI x13, oI x14, oA m15, oA m16, oI (2 : Int32), oU, oU, oU, oU, oU] [])) := by
  refine own_new 91 3 X0 hx hby hZ hown (own_w hw 16 rfl) (own_w hw 17 rfl) (own_w hw 18 rfl) e0 at_88 rfl (by decide) (by decide) ?_
  intro T123 h123 b123 X123 e123 E123 g123 A123 D123
  have n_b123 : n0 ≤ b123 := Nat.le_trans (own_n0 O0) (Nat.le_of_eq g123.symm)
  have O123 := O0.ext E123
  have hk := Nat.le_trans hk E123.1
  have F_b123_number : Fld Z h123 b123 "com/example/bare_turnstile/bareturnstile/Ticket" "number" "J" (.long (0 : Int64)) := D123 (Or.inr (own_w hw 26 rfl)) (ty := .long) (by decide)
  have F_b123_participant : Fld Z h123 b123 "com/example/bare_turnstile/bareturnstile/Ticket" "participant" "I" (.int (0 : Int32)) := D123 (Or.inr (own_w hw 28 rfl)) (ty := .int) (by decide)
  have F_b123_mode : Fld Z h123 b123 "com/example/bare_turnstile/bareturnstile/Ticket" "mode" "Lcom/example/bare_turnstile/bareturnstile/EntryMode;" .null := D123 (Or.inr (own_w hw 44 rfl)) (ty := (.object "com/example/bare_turnstile/bareturnstile/EntryMode")) (by decide)
  refine own_dup 92 X123 hx hby at_91 rfl rfl ?_
  refine own_lload 94 X123 hx hby at_92 rfl rfl ?_
  refine own_iload 96 X123 hx hby at_94 rfl rfl ?_
  refine own_aload 98 X123 hx hby at_96 rfl rfl rfl ?_
  refine own_specS (W := 1) 101 (rm4_7 l Z a0 hw [] w_EXCLUSIVE w_SHARED w_cache W b123 m15 y7 x11 h123 n0 O123 A123 F_b123_mode F_b123_number F_b123_participant n_b123 EZ_m15 hq0 hq2) X123 hx hby hZ hown rfl (own_w hw 19 rfl) (own_w hw 20 rfl) (own_w hw 18 rfl) (own_w hw 21 rfl) (by decide) (by rw [hml]; rfl) b123 [(.long y7), (.int x11), (.ref m15)] [(.ref b123)] pd_4 rfl at_98 rfl e123 rfl rfl rfl (by decide) (by decide) (by decide) (by decide) hS hk ?_
  rintro _ T124 L124 X124 ⟨rfl, N124, Kc124, E_b123_124, F_b123_mode_124, F_b123_number_124, F_b123_participant_124⟩ hS hZ hown
  have N124 := Fr.app N0 N124
  have O124 := O123.keep Kc124 (allS n_b123 all0)
  have hk := Nat.le_refl T124.heap.size
  show Go p e below _ (T124.setTop (mkF m 101 _ [(.ref b123)]))
  refine own_astore 103 #[oJ y0, oS, oJ y2, oS, oI x4, oI x5, oI x6, oJ y7, oS, oJ y9, oS, oI x11, oI x12, oI x13, oI x14, oA m15, oA m16, oI (2 : Int32), oA b123, oU, oU, oU, oU] X124 hx hby at_101 rfl rfl rfl ?_
  refine own_new 106 3 X124 hx hby hZ hown (own_w hw 16 rfl) (own_w hw 17 rfl) (own_w hw 18 rfl) rfl at_103 rfl (by decide) (by decide) ?_
  intro T125 h125 b125 X125 e125 E125 g125 A125 D125
  have ne_b123_b125 : b123 ≠ b125 := Nat.ne_of_lt (Nat.lt_of_lt_of_le E_b123_124.lt (Nat.le_of_eq g125.symm))
  have n_b125 : n0 ≤ b125 := Nat.le_trans (own_n0 O124) (Nat.le_of_eq g125.symm)
  have E_b123_125 := E_b123_124.ext E125
  have F_b123_mode_125 := F_b123_mode_124.ext E125
  have F_b123_number_125 := F_b123_number_124.ext E125
  have F_b123_participant_125 := F_b123_participant_124.ext E125
  have O125 := O124.ext E125
  have hk := Nat.le_trans hk E125.1
  have F_b125_number : Fld Z h125 b125 "com/example/bare_turnstile/bareturnstile/Ticket" "number" "J" (.long (0 : Int64)) := D125 (Or.inr (own_w hw 26 rfl)) (ty := .long) (by decide)
  have F_b125_participant : Fld Z h125 b125 "com/example/bare_turnstile/bareturnstile/Ticket" "participant" "I" (.int (0 : Int32)) := D125 (Or.inr (own_w hw 28 rfl)) (ty := .int) (by decide)
  have F_b125_mode : Fld Z h125 b125 "com/example/bare_turnstile/bareturnstile/Ticket" "mode" "Lcom/example/bare_turnstile/bareturnstile/EntryMode;" .null := D125 (Or.inr (own_w hw 44 rfl)) (ty := (.object "com/example/bare_turnstile/bareturnstile/EntryMode")) (by decide)
  refine own_dup 107 X125 hx hby at_106 rfl rfl ?_
  refine own_lload 109 X125 hx hby at_107 rfl rfl ?_
  refine own_iload 111 X125 hx hby at_109 rfl rfl ?_
  refine own_aload 113 X125 hx hby at_111 rfl rfl rfl ?_
  refine own_specS (W := 1) 116 (rm4_7 l Z a0 hw [] w_EXCLUSIVE w_SHARED w_cache W b125 m16 y9 x12 h125 n0 O125 A125 F_b125_mode F_b125_number F_b125_participant n_b125 EZ_m16 hq1 hq3) X125 hx hby hZ hown rfl (own_w hw 19 rfl) (own_w hw 20 rfl) (own_w hw 18 rfl) (own_w hw 21 rfl) (by decide) (by rw [hml]; rfl) b125 [(.long y9), (.int x12), (.ref m16)] [(.ref b125)] pd_4 rfl at_113 rfl e125 rfl rfl rfl (by decide) (by decide) (by decide) (by decide) hS hk ?_
  rintro _ T126 L126 X126 ⟨rfl, N126, Kc126, E_b125_126, F_b125_mode_126, F_b125_number_126, F_b125_participant_126⟩ hS hZ hown
  have N126 := Fr.app N124 N126
  have E_b123_126 := E_b123_125.keep Kc126
  have F_b123_mode_126 := F_b123_mode_125.keep Kc126 (ninS ne_b123_b125 nin0)
  have F_b123_number_126 := F_b123_number_125.keep Kc126 (ninS ne_b123_b125 nin0)
  have F_b123_participant_126 := F_b123_participant_125.keep Kc126 (ninS ne_b123_b125 nin0)
  have O126 := O125.keep Kc126 (allS n_b125 all0)
  have hk := Nat.le_refl T126.heap.size
  show Go p e below _ (T126.setTop (mkF m 116 _ [(.ref b125)]))
  refine own_astore 118 #[oJ y0, oS, oJ y2, oS, oI x4, oI x5, oI x6, oJ y7, oS, oJ y9, oS, oI x11, oI x12, oI x13, oI x14, oA m15, oA m16, oI (2 : Int32), oA b123, oA b125, oU, oU, oU] X126 hx hby at_116 rfl rfl rfl ?_
  refine own_iload 120 X126 hx hby at_118 rfl rfl ?_
  refine own_iconst 121 (2 : Int32) X126 hx hby at_120 rfl (by decide) ?_
  refine own_icY 131 X126 hx hby at_121 (by decide) (by decide) (by decide) ?_
  refine own_iload 133 X126 hx hby at_131 rfl rfl ?_
  refine own_iconst 134 (2 : Int32) X126 hx hby at_133 rfl (by decide) ?_
  refine own_icN 137 X126 hx hby at_134 rfl (by decide) ?_
  refine own_null 138 X126 hx hby at_137 rfl ?_
  refine own_astore 140 #[oJ y0, oS, oJ y2, oS, oI x4, oI x5, oI x6, oJ y7, oS, oJ y9, oS, oI x11, oI x12, oI x13, oI x14, oA m15, oA m16, oI (2 : Int32), oA b123, oA b125, oN, oU, oU] X126 hx hby at_138 rfl rfl rfl ?_
  refine own_goto 150 X126 hx hby at_140 (by decide) (by decide) ?_
  refine own_iload 152 X126 hx hby at_150 rfl rfl ?_
  refine own_iconst 153 (2 : Int32) X126 hx hby at_152 rfl (by decide) ?_
  refine own_icY 188 X126 hx hby at_153 (by decide) (by decide) (by decide) ?_
  refine own_iconst 189 (0 : Int32) X126 hx hby at_188 rfl (by decide) ?_
  refine own_istore 191 #[oJ y0, oS, oJ y2, oS, oI x4, oI x5, oI x6, oJ y7, oS, oJ y9, oS, oI x11, oI x12, oI x13, oI x14, oA m15, oA m16, oI (2 : Int32), oA b123, oA b125, oN, oI (0 : Int32), oU] X126 hx hby at_189 rfl rfl ?_
  refine own_aload 193 X126 hx hby at_191 rfl rfl rfl ?_
  refine own_aload 195 X126 hx hby at_193 rfl rfl rfl ?_
  refine own_virt (W := 0) 198 (rm7_12 l Z a0 hw [] w_EXCLUSIVE w_SHARED w_cache W b123 m15 y7 x11 T126.heap n0 O126 E_b123_126 F_b123_mode_126 F_b123_number_126 F_b123_participant_126 n_b123 EZ_m15) X126 hx hby hZ hown (own_w hw 45 rfl) (own_w hw 46 rfl) (notFace_of_selects (args := #[]) (mvT hZ (own_w hw 48 rfl))) (own_w hw 48 rfl) (own_w hw 47 rfl) (own_w hw 18 rfl) (own_w hw 49 rfl) (by decide) (by rw [hml]; rfl) b123 [.null] [] pd_5 rfl at_195 rfl rfl E_b123_126 rfl rfl rfl (by decide) (by decide) (by decide) (by decide) ?_
  rintro _ T127 L127 X127 ⟨rfl, N127, e127⟩
  have N127 := Fr.app N126 N127
  show Go p e below _ (T127.setTop (mkF m 198 _ [(.int (0 : Int32))]))
  refine own_istore 200 #[oJ y0, oS, oJ y2, oS, oI x4, oI x5, oI x6, oJ y7, oS, oJ y9, oS, oI x11, oI x12, oI x13, oI x14, oA m15, oA m16, oI (2 : Int32), oA b123, oA b125, oN, oI (0 : Int32), oI (0 : Int32)] X127 hx hby at_198 rfl rfl ?_
  refine own_iload 202 X127 hx hby at_200 rfl rfl ?_
  refine own_iload 204 X127 hx hby at_202 rfl rfl ?_
  refine own_icY 209 X127 hx hby at_204 (by decide) (by decide) (by decide) ?_
  refine own_iload 211 X127 hx hby at_209 rfl rfl ?_
  refine own_iconst 212 (2 : Int32) X127 hx hby at_211 rfl (by decide) ?_
  refine own_icY 233 X127 hx hby at_212 (by decide) (by decide) (by decide) ?_
  refine own_iconst 234 (1 : Int32) X127 hx hby at_233 rfl (by decide) ?_
  exact own_retW (Q := own_Q1 n0) X127 hx hby hret hlk hS (by rw [e127]; exact hk) at_234 rfl (Or.inl ⟨rfl, by simp, _, rfl⟩) (by decide) (by decide) ⟨rfl, N127⟩
set_option maxRecDepth 65536 in
set_option maxHeartbeats 40000000 in
theorem cut_88_9 (l : Launch) (Z : State) (a0 : Array Value) (hw : ∀ d ∈ tables_1, d.before a0 Z = true) (w_EXCLUSIVE w_SHARED w_cache : Addr) (W : own_W Z w_EXCLUSIVE w_SHARED w_cache) (y0 : Int64) (y2 : Int64) (x4 : Int32) (x5 : Int32) (x6 : Int32) (y7 : Int64) (y9 : Int64) (x11 : Int32) (x12 : Int32) (x13 : Int32) (x14 : Int32) (m15 : Addr) (m16 : Addr) (h0 : Heap) (n0 : Nat) (O0 : Old Z n0 h0) (EZ_m15 : Exa Z Z.heap m15 "com/example/bare_turnstile/bareturnstile/EntryMode") (EZ_m16 : Exa Z Z.heap m16 "com/example/bare_turnstile/bareturnstile/EntryMode") (hq0 : ¬ (y7 < (1 : Int64))) (hq1 : ¬ (y9 < (1 : Int64))) (hq2 : ¬ (x11 < (0 : Int32))) (hq3 : ¬ (x12 < (0 : Int32))) (hq4 : ¬ (x13 = x14)) (hq5 : ¬ (m15 = m16)) {p : Program} {e : Env} {s : State} {m : MethodId} {args : Array Value} {below : List Frame} {meth : Method} {c : Code} {T : State} {vm0 : Vm} {locs : List Loc} {k0 : Nat}
    (X0 : Stand p l e room_1 (s.setVm vm0) m args below meth c T locs 0 0) (hx : p.tables.exec = Jvm.exec) (hby : c.code = code) (hml : c.maxLocals = 23) (hret : meth.sig.returnType = some .boolean) (hlk : meth.locks = false) (hZ : Z.Warmed39 (s.setVm vm0).vm) (hown : (s.setVm vm0).vm.findClass "com/example/bare_turnstile/bareturnstile/TicketEqualsPinLaw" = some m.cls) (e0 : T.heap = h0) (N0 : Fr n0 locs) (hS : s.Since vm0 k0) (hk : k0 ≤ h0.size) :
    Go p e below (fun s₂ o => s₂.status = .running ∧ Ended s₂ below o ∧ ∃ v L, o = .returned v ∧ own_Q1 n0 v s₂.heap L ∧ ReturnedEndW s o s₂ L 16 1152) (T.setTop (mkF m 88 #[oJ y0, oS, oJ y2, oS, oI x4, oI x5, oI x6, oJ y7, oS, oJ y9, oS, oI x11, oI x12, oI x13, oI x14, oA m15, oA m16, oI (3 : Int32), oU, oU, oU, oU, oU] [])) := by
  refine own_new 91 3 X0 hx hby hZ hown (own_w hw 16 rfl) (own_w hw 17 rfl) (own_w hw 18 rfl) e0 at_88 rfl (by decide) (by decide) ?_
  intro T128 h128 b128 X128 e128 E128 g128 A128 D128
  have n_b128 : n0 ≤ b128 := Nat.le_trans (own_n0 O0) (Nat.le_of_eq g128.symm)
  have O128 := O0.ext E128
  have hk := Nat.le_trans hk E128.1
  have F_b128_number : Fld Z h128 b128 "com/example/bare_turnstile/bareturnstile/Ticket" "number" "J" (.long (0 : Int64)) := D128 (Or.inr (own_w hw 26 rfl)) (ty := .long) (by decide)
  have F_b128_participant : Fld Z h128 b128 "com/example/bare_turnstile/bareturnstile/Ticket" "participant" "I" (.int (0 : Int32)) := D128 (Or.inr (own_w hw 28 rfl)) (ty := .int) (by decide)
  have F_b128_mode : Fld Z h128 b128 "com/example/bare_turnstile/bareturnstile/Ticket" "mode" "Lcom/example/bare_turnstile/bareturnstile/EntryMode;" .null := D128 (Or.inr (own_w hw 44 rfl)) (ty := (.object "com/example/bare_turnstile/bareturnstile/EntryMode")) (by decide)
  refine own_dup 92 X128 hx hby at_91 rfl rfl ?_
  refine own_lload 94 X128 hx hby at_92 rfl rfl ?_
  refine own_iload 96 X128 hx hby at_94 rfl rfl ?_
  refine own_aload 98 X128 hx hby at_96 rfl rfl rfl ?_
  refine own_specS (W := 1) 101 (rm4_7 l Z a0 hw [] w_EXCLUSIVE w_SHARED w_cache W b128 m15 y7 x11 h128 n0 O128 A128 F_b128_mode F_b128_number F_b128_participant n_b128 EZ_m15 hq0 hq2) X128 hx hby hZ hown rfl (own_w hw 19 rfl) (own_w hw 20 rfl) (own_w hw 18 rfl) (own_w hw 21 rfl) (by decide) (by rw [hml]; rfl) b128 [(.long y7), (.int x11), (.ref m15)] [(.ref b128)] pd_4 rfl at_98 rfl e128 rfl rfl rfl (by decide) (by decide) (by decide) (by decide) hS hk ?_
  rintro _ T129 L129 X129 ⟨rfl, N129, Kc129, E_b128_129, F_b128_mode_129, F_b128_number_129, F_b128_participant_129⟩ hS hZ hown
  have N129 := Fr.app N0 N129
  have O129 := O128.keep Kc129 (allS n_b128 all0)
  have hk := Nat.le_refl T129.heap.size
  show Go p e below _ (T129.setTop (mkF m 101 _ [(.ref b128)]))
  refine own_astore 103 #[oJ y0, oS, oJ y2, oS, oI x4, oI x5, oI x6, oJ y7, oS, oJ y9, oS, oI x11, oI x12, oI x13, oI x14, oA m15, oA m16, oI (3 : Int32), oA b128, oU, oU, oU, oU] X129 hx hby at_101 rfl rfl rfl ?_
  refine own_new 106 3 X129 hx hby hZ hown (own_w hw 16 rfl) (own_w hw 17 rfl) (own_w hw 18 rfl) rfl at_103 rfl (by decide) (by decide) ?_
  intro T130 h130 b130 X130 e130 E130 g130 A130 D130
  have ne_b128_b130 : b128 ≠ b130 := Nat.ne_of_lt (Nat.lt_of_lt_of_le E_b128_129.lt (Nat.le_of_eq g130.symm))
  have n_b130 : n0 ≤ b130 := Nat.le_trans (own_n0 O129) (Nat.le_of_eq g130.symm)
  have E_b128_130 := E_b128_129.ext E130
  have F_b128_mode_130 := F_b128_mode_129.ext E130
  have F_b128_number_130 := F_b128_number_129.ext E130
  have F_b128_participant_130 := F_b128_participant_129.ext E130
  have O130 := O129.ext E130
  have hk := Nat.le_trans hk E130.1
  have F_b130_number : Fld Z h130 b130 "com/example/bare_turnstile/bareturnstile/Ticket" "number" "J" (.long (0 : Int64)) := D130 (Or.inr (own_w hw 26 rfl)) (ty := .long) (by decide)
  have F_b130_participant : Fld Z h130 b130 "com/example/bare_turnstile/bareturnstile/Ticket" "participant" "I" (.int (0 : Int32)) := D130 (Or.inr (own_w hw 28 rfl)) (ty := .int) (by decide)
  have F_b130_mode : Fld Z h130 b130 "com/example/bare_turnstile/bareturnstile/Ticket" "mode" "Lcom/example/bare_turnstile/bareturnstile/EntryMode;" .null := D130 (Or.inr (own_w hw 44 rfl)) (ty := (.object "com/example/bare_turnstile/bareturnstile/EntryMode")) (by decide)
  refine own_dup 107 X130 hx hby at_106 rfl rfl ?_
  refine own_lload 109 X130 hx hby at_107 rfl rfl ?_
  refine own_iload 111 X130 hx hby at_109 rfl rfl ?_
  refine own_aload 113 X130 hx hby at_111 rfl rfl rfl ?_
  refine own_specS (W := 1) 116 (rm4_7 l Z a0 hw [] w_EXCLUSIVE w_SHARED w_cache W b130 m16 y9 x12 h130 n0 O130 A130 F_b130_mode F_b130_number F_b130_participant n_b130 EZ_m16 hq1 hq3) X130 hx hby hZ hown rfl (own_w hw 19 rfl) (own_w hw 20 rfl) (own_w hw 18 rfl) (own_w hw 21 rfl) (by decide) (by rw [hml]; rfl) b130 [(.long y9), (.int x12), (.ref m16)] [(.ref b130)] pd_4 rfl at_113 rfl e130 rfl rfl rfl (by decide) (by decide) (by decide) (by decide) hS hk ?_
  rintro _ T131 L131 X131 ⟨rfl, N131, Kc131, E_b130_131, F_b130_mode_131, F_b130_number_131, F_b130_participant_131⟩ hS hZ hown
  have N131 := Fr.app N129 N131
  have E_b128_131 := E_b128_130.keep Kc131
  have F_b128_mode_131 := F_b128_mode_130.keep Kc131 (ninS ne_b128_b130 nin0)
  have F_b128_number_131 := F_b128_number_130.keep Kc131 (ninS ne_b128_b130 nin0)
  have F_b128_participant_131 := F_b128_participant_130.keep Kc131 (ninS ne_b128_b130 nin0)
  have O131 := O130.keep Kc131 (allS n_b130 all0)
  have hk := Nat.le_refl T131.heap.size
  show Go p e below _ (T131.setTop (mkF m 116 _ [(.ref b130)]))
  refine own_astore 118 #[oJ y0, oS, oJ y2, oS, oI x4, oI x5, oI x6, oJ y7, oS, oJ y9, oS, oI x11, oI x12, oI x13, oI x14, oA m15, oA m16, oI (3 : Int32), oA b128, oA b130, oU, oU, oU] X131 hx hby at_116 rfl rfl rfl ?_
  refine own_iload 120 X131 hx hby at_118 rfl rfl ?_
  refine own_iconst 121 (2 : Int32) X131 hx hby at_120 rfl (by decide) ?_
  refine own_icY 131 X131 hx hby at_121 (by decide) (by decide) (by decide) ?_
  refine own_iload 133 X131 hx hby at_131 rfl rfl ?_
  refine own_iconst 134 (2 : Int32) X131 hx hby at_133 rfl (by decide) ?_
  refine own_icY 143 X131 hx hby at_134 (by decide) (by decide) (by decide) ?_
  refine own_lload 145 X131 hx hby at_143 rfl rfl ?_
  by_cases hc132 : (127 : Int64) < y7
  · refine own_callS (W := 0) 148 (rm8_16 l Z a0 hw [] w_EXCLUSIVE w_SHARED w_cache W y7 T131.heap n0 O131 (by have : -2 ^ 63 ≤ (y7).toInt ∧ (y7).toInt < 2 ^ 63 := own_rngJ y7; have : ((-128 : Int64)).toInt = -128 := rfl; have : ((1 : Int64)).toInt = 1 := rfl; have : ¬ ((y7).toInt < ((1 : Int64)).toInt) := fun q => hq0 (Int64.lt_iff_toInt_lt.mpr q); exact fun q => absurd (Int64.lt_iff_toInt_lt.mp q) (by omega)) hc132) X131 hx hby hZ hown (own_w hw 54 rfl) (own_w hw 55 rfl) (own_w hw 56 rfl) (own_w hw 57 rfl) (by decide) (by rw [hml]; rfl) [(.long y7)] [] pd_8 rfl at_145 rfl rfl rfl rfl rfl (by decide) (by decide) (by decide) (by decide) ?_
    rintro _ T133 L133 X133 ⟨b133_g, rfl, N133, Kc133, E_b133_g⟩
    have N133 := Fr.app N131 N133
    have E_b128_133 := E_b128_131.keep Kc133
    have F_b128_mode_133 := F_b128_mode_131.keep Kc133 nin0
    have F_b128_number_133 := F_b128_number_131.keep Kc133 nin0
    have F_b128_participant_133 := F_b128_participant_131.keep Kc133 nin0
    have E_b130_133 := E_b130_131.keep Kc133
    have F_b130_mode_133 := F_b130_mode_131.keep Kc133 nin0
    have F_b130_number_133 := F_b130_number_131.keep Kc133 nin0
    have F_b130_participant_133 := F_b130_participant_131.keep Kc133 nin0
    have O133 := O131.keep Kc133 all0
    have hk := Nat.le_trans hk Kc133.1
    show Go p e below _ (T133.setTop (mkF m 148 _ [(.ref b133_g)]))
    refine own_astore 150 #[oJ y0, oS, oJ y2, oS, oI x4, oI x5, oI x6, oJ y7, oS, oJ y9, oS, oI x11, oI x12, oI x13, oI x14, oA m15, oA m16, oI (3 : Int32), oA b128, oA b130, oA b133_g, oU, oU] X133 hx hby at_148 rfl rfl rfl ?_
    refine own_iload 152 X133 hx hby at_150 rfl rfl ?_
    refine own_iconst 153 (2 : Int32) X133 hx hby at_152 rfl (by decide) ?_
    refine own_icY 188 X133 hx hby at_153 (by decide) (by decide) (by decide) ?_
    refine own_iconst 189 (0 : Int32) X133 hx hby at_188 rfl (by decide) ?_
    refine own_istore 191 #[oJ y0, oS, oJ y2, oS, oI x4, oI x5, oI x6, oJ y7, oS, oJ y9, oS, oI x11, oI x12, oI x13, oI x14, oA m15, oA m16, oI (3 : Int32), oA b128, oA b130, oA b133_g, oI (0 : Int32), oU] X133 hx hby at_189 rfl rfl ?_
    refine own_aload 193 X133 hx hby at_191 rfl rfl rfl ?_
    refine own_aload 195 X133 hx hby at_193 rfl rfl rfl ?_
    refine own_virt (W := 0) 198 (rm7_18 l Z a0 hw [] w_EXCLUSIVE w_SHARED w_cache W b128 m15 b133_g y7 x11 T133.heap n0 O133 E_b128_133 F_b128_mode_133 F_b128_number_133 F_b128_participant_133 n_b128 EZ_m15 E_b133_g) X133 hx hby hZ hown (own_w hw 45 rfl) (own_w hw 46 rfl) (notFace_of_selects (args := #[]) (mvT hZ (own_w hw 48 rfl))) (own_w hw 48 rfl) (own_w hw 47 rfl) (own_w hw 18 rfl) (own_w hw 49 rfl) (by decide) (by rw [hml]; rfl) b128 [(.ref b133_g)] [] pd_5 rfl at_195 rfl rfl E_b128_133 rfl rfl rfl (by decide) (by decide) (by decide) (by decide) ?_
    rintro _ T134 L134 X134 ⟨rfl, N134, e134⟩
    have N134 := Fr.app N133 N134
    show Go p e below _ (T134.setTop (mkF m 198 _ [(.int (0 : Int32))]))
    refine own_istore 200 #[oJ y0, oS, oJ y2, oS, oI x4, oI x5, oI x6, oJ y7, oS, oJ y9, oS, oI x11, oI x12, oI x13, oI x14, oA m15, oA m16, oI (3 : Int32), oA b128, oA b130, oA b133_g, oI (0 : Int32), oI (0 : Int32)] X134 hx hby at_198 rfl rfl ?_
    refine own_iload 202 X134 hx hby at_200 rfl rfl ?_
    refine own_iload 204 X134 hx hby at_202 rfl rfl ?_
    refine own_icY 209 X134 hx hby at_204 (by decide) (by decide) (by decide) ?_
    refine own_iload 211 X134 hx hby at_209 rfl rfl ?_
    refine own_iconst 212 (2 : Int32) X134 hx hby at_211 rfl (by decide) ?_
    refine own_icY 233 X134 hx hby at_212 (by decide) (by decide) (by decide) ?_
    refine own_iconst 234 (1 : Int32) X134 hx hby at_233 rfl (by decide) ?_
    exact own_retW (Q := own_Q1 n0) X134 hx hby hret hlk hS (by rw [e134]; exact hk) at_234 rfl (Or.inl ⟨rfl, by simp, _, rfl⟩) (by decide) (by decide) ⟨rfl, N134⟩
  refine own_callS (W := 0) 148 (rm8_17 l Z a0 hw [] w_EXCLUSIVE w_SHARED w_cache W y7 T131.heap n0 O131 (by have : 1 ≤ (y7).toInt ∧ (y7).toInt ≤ 127 := own_bdJ hq0 hc132; have : ((-128 : Int64)).toInt = -128 := rfl; exact fun q => absurd (Int64.lt_iff_toInt_lt.mp q) (by omega)) hc132) X131 hx hby hZ hown (own_w hw 54 rfl) (own_w hw 55 rfl) (own_w hw 56 rfl) (own_w hw 57 rfl) (by decide) (by rw [hml]; rfl) [(.long y7)] [] pd_8 rfl at_145 rfl rfl rfl rfl rfl (by decide) (by decide) (by decide) (by decide) ?_
  rintro _ T135 L135 X135 ⟨b135_g, rfl, N135, Kc135, E_b135_g⟩
  have N135 := Fr.app N131 N135
  have E_b128_135 := E_b128_131.keep Kc135
  have F_b128_mode_135 := F_b128_mode_131.keep Kc135 nin0
  have F_b128_number_135 := F_b128_number_131.keep Kc135 nin0
  have F_b128_participant_135 := F_b128_participant_131.keep Kc135 nin0
  have E_b130_135 := E_b130_131.keep Kc135
  have F_b130_mode_135 := F_b130_mode_131.keep Kc135 nin0
  have F_b130_number_135 := F_b130_number_131.keep Kc135 nin0
  have F_b130_participant_135 := F_b130_participant_131.keep Kc135 nin0
  have O135 := O131.keep Kc135 all0
  have hk := Nat.le_trans hk Kc135.1
  show Go p e below _ (T135.setTop (mkF m 148 _ [(.ref b135_g)]))
  refine own_astore 150 #[oJ y0, oS, oJ y2, oS, oI x4, oI x5, oI x6, oJ y7, oS, oJ y9, oS, oI x11, oI x12, oI x13, oI x14, oA m15, oA m16, oI (3 : Int32), oA b128, oA b130, oA b135_g, oU, oU] X135 hx hby at_148 rfl rfl rfl ?_
  refine own_iload 152 X135 hx hby at_150 rfl rfl ?_
  refine own_iconst 153 (2 : Int32) X135 hx hby at_152 rfl (by decide) ?_
  refine own_icY 188 X135 hx hby at_153 (by decide) (by decide) (by decide) ?_
  refine own_iconst 189 (0 : Int32) X135 hx hby at_188 rfl (by decide) ?_
  refine own_istore 191 #[oJ y0, oS, oJ y2, oS, oI x4, oI x5, oI x6, oJ y7, oS, oJ y9, oS, oI x11, oI x12, oI x13, oI x14, oA m15, oA m16, oI (3 : Int32), oA b128, oA b130, oA b135_g, oI (0 : Int32), oU] X135 hx hby at_189 rfl rfl ?_
  refine own_aload 193 X135 hx hby at_191 rfl rfl rfl ?_
  refine own_aload 195 X135 hx hby at_193 rfl rfl rfl ?_
  refine own_virt (W := 0) 198 (rm7_18 l Z a0 hw [] w_EXCLUSIVE w_SHARED w_cache W b128 m15 b135_g y7 x11 T135.heap n0 O135 E_b128_135 F_b128_mode_135 F_b128_number_135 F_b128_participant_135 n_b128 EZ_m15 E_b135_g) X135 hx hby hZ hown (own_w hw 45 rfl) (own_w hw 46 rfl) (notFace_of_selects (args := #[]) (mvT hZ (own_w hw 48 rfl))) (own_w hw 48 rfl) (own_w hw 47 rfl) (own_w hw 18 rfl) (own_w hw 49 rfl) (by decide) (by rw [hml]; rfl) b128 [(.ref b135_g)] [] pd_5 rfl at_195 rfl rfl E_b128_135 rfl rfl rfl (by decide) (by decide) (by decide) (by decide) ?_
  rintro _ T136 L136 X136 ⟨rfl, N136, e136⟩
  have N136 := Fr.app N135 N136
  show Go p e below _ (T136.setTop (mkF m 198 _ [(.int (0 : Int32))]))
  refine own_istore 200 #[oJ y0, oS, oJ y2, oS, oI x4, oI x5, oI x6, oJ y7, oS, oJ y9, oS, oI x11, oI x12, oI x13, oI x14, oA m15, oA m16, oI (3 : Int32), oA b128, oA b130, oA b135_g, oI (0 : Int32), oI (0 : Int32)] X136 hx hby at_198 rfl rfl ?_
  refine own_iload 202 X136 hx hby at_200 rfl rfl ?_
  refine own_iload 204 X136 hx hby at_202 rfl rfl ?_
  refine own_icY 209 X136 hx hby at_204 (by decide) (by decide) (by decide) ?_
  refine own_iload 211 X136 hx hby at_209 rfl rfl ?_
  refine own_iconst 212 (2 : Int32) X136 hx hby at_211 rfl (by decide) ?_
  refine own_icY 233 X136 hx hby at_212 (by decide) (by decide) (by decide) ?_
  refine own_iconst 234 (1 : Int32) X136 hx hby at_233 rfl (by decide) ?_
  exact own_retW (Q := own_Q1 n0) X136 hx hby hret hlk hS (by rw [e136]; exact hk) at_234 rfl (Or.inl ⟨rfl, by simp, _, rfl⟩) (by decide) (by decide) ⟨rfl, N136⟩
set_option maxRecDepth 65536 in
set_option maxHeartbeats 40000000 in
theorem cut_50_1 (l : Launch) (Z : State) (a0 : Array Value) (hw : ∀ d ∈ tables_1, d.before a0 Z = true) (w_EXCLUSIVE w_SHARED w_cache : Addr) (W : own_W Z w_EXCLUSIVE w_SHARED w_cache) (y0 : Int64) (y2 : Int64) (x4 : Int32) (x5 : Int32) (x6 : Int32) (y7 : Int64) (y9 : Int64) (x11 : Int32) (x12 : Int32) (h0 : Heap) (n0 : Nat) (O0 : Old Z n0 h0) (hq0 : ¬ (y7 < (1 : Int64))) (hq1 : ¬ (y9 < (1 : Int64))) (hq2 : ¬ (x11 < (0 : Int32))) (hq3 : ¬ (x12 < (0 : Int32))) {p : Program} {e : Env} {s : State} {m : MethodId} {args : Array Value} {below : List Frame} {meth : Method} {c : Code} {T : State} {vm0 : Vm} {locs : List Loc} {k0 : Nat}
    (X0 : Stand p l e room_1 (s.setVm vm0) m args below meth c T locs 0 0) (hx : p.tables.exec = Jvm.exec) (hby : c.code = code) (hml : c.maxLocals = 23) (hret : meth.sig.returnType = some .boolean) (hlk : meth.locks = false) (hZ : Z.Warmed39 (s.setVm vm0).vm) (hown : (s.setVm vm0).vm.findClass "com/example/bare_turnstile/bareturnstile/TicketEqualsPinLaw" = some m.cls) (e0 : T.heap = h0) (N0 : Fr n0 locs) (hS : s.Since vm0 k0) (hk : k0 ≤ h0.size) :
    Go p e below (fun s₂ o => s₂.status = .running ∧ Ended s₂ below o ∧ ∃ v L, o = .returned v ∧ own_Q1 n0 v s₂.heap L ∧ ReturnedEndW s o s₂ L 16 1152) (T.setTop (mkF m 50 #[oJ y0, oS, oJ y2, oS, oI x4, oI x5, oI x6, oJ y7, oS, oJ y9, oS, oI x11, oI x12, oU, oU, oU, oU, oU, oU, oU, oU, oU, oU] [])) := by
  refine own_iload 52 X0 hx hby at_50 rfl rfl ?_
  refine own_iconst 53 (2 : Int32) X0 hx hby at_52 rfl (by decide) ?_
  obtain ⟨v12, dv12⟩ : ∃ z, z = (x6 >>> ((2 : Int32) &&& 31)) := ⟨_, rfl⟩
  refine own_ishr 54 v12 X0 hx hby at_53 rfl dv12.symm ?_
  refine own_iconst 55 (1 : Int32) X0 hx hby at_54 rfl (by decide) ?_
  rcases own_and1 v12 with hv13 | hv13
  · refine own_iand 56 (0 : Int32) X0 hx hby at_55 rfl hv13 ?_
    refine own_istore 58 #[oJ y0, oS, oJ y2, oS, oI x4, oI x5, oI x6, oJ y7, oS, oJ y9, oS, oI x11, oI x12, oI (0 : Int32), oU, oU, oU, oU, oU, oU, oU, oU, oU] X0 hx hby at_56 rfl rfl ?_
    refine own_iload 60 X0 hx hby at_58 rfl rfl ?_
    refine own_iconst 61 (3 : Int32) X0 hx hby at_60 rfl (by decide) ?_
    obtain ⟨v14, dv14⟩ : ∃ z, z = (x6 >>> ((3 : Int32) &&& 31)) := ⟨_, rfl⟩
    refine own_ishr 62 v14 X0 hx hby at_61 rfl dv14.symm ?_
    refine own_iconst 63 (1 : Int32) X0 hx hby at_62 rfl (by decide) ?_
    rcases own_and1 v14 with hv15 | hv15
    · refine own_iand 64 (0 : Int32) X0 hx hby at_63 rfl hv15 ?_
      refine own_istore 66 #[oJ y0, oS, oJ y2, oS, oI x4, oI x5, oI x6, oJ y7, oS, oJ y9, oS, oI x11, oI x12, oI (0 : Int32), oI (0 : Int32), oU, oU, oU, oU, oU, oU, oU, oU] X0 hx hby at_64 rfl rfl ?_
      refine own_iload 68 X0 hx hby at_66 rfl rfl ?_
      refine own_callS (W := 0) 71 (rm3_5 l Z a0 hw [] w_EXCLUSIVE w_SHARED w_cache W  h0 n0 O0) X0 hx hby hZ hown (own_w hw 10 rfl) (own_w hw 11 rfl) (own_w hw 2 rfl) (own_w hw 12 rfl) (by decide) (by rw [hml]; rfl) [(.int (0 : Int32))] [] pd_2 rfl at_68 rfl e0 rfl rfl rfl (by decide) (by decide) (by decide) (by decide) ?_
      rintro _ T17 L17 X17 ⟨rfl, N17, e17⟩
      have N17 := Fr.app N0 N17
      show Go p e below _ (T17.setTop (mkF m 71 _ [(.ref w_EXCLUSIVE)]))
      refine own_astore 73 #[oJ y0, oS, oJ y2, oS, oI x4, oI x5, oI x6, oJ y7, oS, oJ y9, oS, oI x11, oI x12, oI (0 : Int32), oI (0 : Int32), oA w_EXCLUSIVE, oU, oU, oU, oU, oU, oU, oU] X17 hx hby at_71 rfl rfl rfl ?_
      refine own_iload 75 X17 hx hby at_73 rfl rfl ?_
      refine own_callS (W := 0) 78 (rm3_5 l Z a0 hw [] w_EXCLUSIVE w_SHARED w_cache W  h0 n0 O0) X17 hx hby hZ hown (own_w hw 10 rfl) (own_w hw 11 rfl) (own_w hw 2 rfl) (own_w hw 12 rfl) (by decide) (by rw [hml]; rfl) [(.int (0 : Int32))] [] pd_2 rfl at_75 rfl e17 rfl rfl rfl (by decide) (by decide) (by decide) (by decide) ?_
      rintro _ T18 L18 X18 ⟨rfl, N18, e18⟩
      have N18 := Fr.app N17 N18
      show Go p e below _ (T18.setTop (mkF m 78 _ [(.ref w_EXCLUSIVE)]))
      refine own_astore 80 #[oJ y0, oS, oJ y2, oS, oI x4, oI x5, oI x6, oJ y7, oS, oJ y9, oS, oI x11, oI x12, oI (0 : Int32), oI (0 : Int32), oA w_EXCLUSIVE, oA w_EXCLUSIVE, oU, oU, oU, oU, oU, oU] X18 hx hby at_78 rfl rfl rfl ?_
      refine own_iload 82 X18 hx hby at_80 rfl rfl ?_
      refine own_iconst 83 (4 : Int32) X18 hx hby at_82 rfl (by decide) ?_
      obtain ⟨v19, dv19⟩ : ∃ z, z = (x6 >>> ((4 : Int32) &&& 31)) := ⟨_, rfl⟩
      refine own_ishr 84 v19 X18 hx hby at_83 rfl dv19.symm ?_
      refine own_iconst 85 (3 : Int32) X18 hx hby at_84 rfl (by decide) ?_
      rcases own_and3 v19 with hv20 | hv20 | hv20 | hv20
      · refine own_iand 86 (0 : Int32) X18 hx hby at_85 rfl hv20 ?_
        refine own_istore 88 #[oJ y0, oS, oJ y2, oS, oI x4, oI x5, oI x6, oJ y7, oS, oJ y9, oS, oI x11, oI x12, oI (0 : Int32), oI (0 : Int32), oA w_EXCLUSIVE, oA w_EXCLUSIVE, oI (0 : Int32), oU, oU, oU, oU, oU] X18 hx hby at_86 rfl rfl ?_
        exact cut_88_2 l Z a0 hw w_EXCLUSIVE w_SHARED w_cache W y0 y2 x4 x5 x6 y7 y9 x11 x12 (0 : Int32) (0 : Int32) w_EXCLUSIVE w_EXCLUSIVE h0 n0 O0 W.2.1 W.2.1 hq0 hq1 hq2 hq3 (by decide) rfl X18 hx hby hml hret hlk hZ hown e18 N18 hS hk
      · refine own_iand 86 (1 : Int32) X18 hx hby at_85 rfl hv20 ?_
        refine own_istore 88 #[oJ y0, oS, oJ y2, oS, oI x4, oI x5, oI x6, oJ y7, oS, oJ y9, oS, oI x11, oI x12, oI (0 : Int32), oI (0 : Int32), oA w_EXCLUSIVE, oA w_EXCLUSIVE, oI (1 : Int32), oU, oU, oU, oU, oU] X18 hx hby at_86 rfl rfl ?_
        exact cut_88_3 l Z a0 hw w_EXCLUSIVE w_SHARED w_cache W y0 y2 x4 x5 x6 y7 y9 x11 x12 (0 : Int32) (0 : Int32) w_EXCLUSIVE w_EXCLUSIVE h0 n0 O0 W.2.1 W.2.1 hq0 hq1 hq2 hq3 (by decide) rfl X18 hx hby hml hret hlk hZ hown e18 N18 hS hk
      · refine own_iand 86 (2 : Int32) X18 hx hby at_85 rfl hv20 ?_
        refine own_istore 88 #[oJ y0, oS, oJ y2, oS, oI x4, oI x5, oI x6, oJ y7, oS, oJ y9, oS, oI x11, oI x12, oI (0 : Int32), oI (0 : Int32), oA w_EXCLUSIVE, oA w_EXCLUSIVE, oI (2 : Int32), oU, oU, oU, oU, oU] X18 hx hby at_86 rfl rfl ?_
        exact cut_88_4 l Z a0 hw w_EXCLUSIVE w_SHARED w_cache W y0 y2 x4 x5 x6 y7 y9 x11 x12 (0 : Int32) (0 : Int32) w_EXCLUSIVE w_EXCLUSIVE h0 n0 O0 W.2.1 W.2.1 hq0 hq1 hq2 hq3 (by decide) rfl X18 hx hby hml hret hlk hZ hown e18 N18 hS hk
      · refine own_iand 86 (3 : Int32) X18 hx hby at_85 rfl hv20 ?_
        refine own_istore 88 #[oJ y0, oS, oJ y2, oS, oI x4, oI x5, oI x6, oJ y7, oS, oJ y9, oS, oI x11, oI x12, oI (0 : Int32), oI (0 : Int32), oA w_EXCLUSIVE, oA w_EXCLUSIVE, oI (3 : Int32), oU, oU, oU, oU, oU] X18 hx hby at_86 rfl rfl ?_
        exact cut_88_5 l Z a0 hw w_EXCLUSIVE w_SHARED w_cache W y0 y2 x4 x5 x6 y7 y9 x11 x12 (0 : Int32) (0 : Int32) w_EXCLUSIVE w_EXCLUSIVE h0 n0 O0 W.2.1 W.2.1 hq0 hq1 hq2 hq3 (by decide) rfl X18 hx hby hml hret hlk hZ hown e18 N18 hS hk
    · refine own_iand 64 (1 : Int32) X0 hx hby at_63 rfl hv15 ?_
      refine own_istore 66 #[oJ y0, oS, oJ y2, oS, oI x4, oI x5, oI x6, oJ y7, oS, oJ y9, oS, oI x11, oI x12, oI (0 : Int32), oI (1 : Int32), oU, oU, oU, oU, oU, oU, oU, oU] X0 hx hby at_64 rfl rfl ?_
      refine own_iload 68 X0 hx hby at_66 rfl rfl ?_
      refine own_callS (W := 0) 71 (rm3_5 l Z a0 hw [] w_EXCLUSIVE w_SHARED w_cache W  h0 n0 O0) X0 hx hby hZ hown (own_w hw 10 rfl) (own_w hw 11 rfl) (own_w hw 2 rfl) (own_w hw 12 rfl) (by decide) (by rw [hml]; rfl) [(.int (0 : Int32))] [] pd_2 rfl at_68 rfl e0 rfl rfl rfl (by decide) (by decide) (by decide) (by decide) ?_
      rintro _ T94 L94 X94 ⟨rfl, N94, e94⟩
      have N94 := Fr.app N0 N94
      show Go p e below _ (T94.setTop (mkF m 71 _ [(.ref w_EXCLUSIVE)]))
      refine own_astore 73 #[oJ y0, oS, oJ y2, oS, oI x4, oI x5, oI x6, oJ y7, oS, oJ y9, oS, oI x11, oI x12, oI (0 : Int32), oI (1 : Int32), oA w_EXCLUSIVE, oU, oU, oU, oU, oU, oU, oU] X94 hx hby at_71 rfl rfl rfl ?_
      refine own_iload 75 X94 hx hby at_73 rfl rfl ?_
      refine own_callS (W := 0) 78 (rm3_19 l Z a0 hw [] w_EXCLUSIVE w_SHARED w_cache W  h0 n0 O0) X94 hx hby hZ hown (own_w hw 10 rfl) (own_w hw 11 rfl) (own_w hw 2 rfl) (own_w hw 12 rfl) (by decide) (by rw [hml]; rfl) [(.int (1 : Int32))] [] pd_2 rfl at_75 rfl e94 rfl rfl rfl (by decide) (by decide) (by decide) (by decide) ?_
      rintro _ T96 L96 X96 ⟨rfl, N96, e96⟩
      have N96 := Fr.app N94 N96
      show Go p e below _ (T96.setTop (mkF m 78 _ [(.ref w_SHARED)]))
      refine own_astore 80 #[oJ y0, oS, oJ y2, oS, oI x4, oI x5, oI x6, oJ y7, oS, oJ y9, oS, oI x11, oI x12, oI (0 : Int32), oI (1 : Int32), oA w_EXCLUSIVE, oA w_SHARED, oU, oU, oU, oU, oU, oU] X96 hx hby at_78 rfl rfl rfl ?_
      refine own_iload 82 X96 hx hby at_80 rfl rfl ?_
      refine own_iconst 83 (4 : Int32) X96 hx hby at_82 rfl (by decide) ?_
      obtain ⟨v97, dv97⟩ : ∃ z, z = (x6 >>> ((4 : Int32) &&& 31)) := ⟨_, rfl⟩
      refine own_ishr 84 v97 X96 hx hby at_83 rfl dv97.symm ?_
      refine own_iconst 85 (3 : Int32) X96 hx hby at_84 rfl (by decide) ?_
      rcases own_and3 v97 with hv98 | hv98 | hv98 | hv98
      · refine own_iand 86 (0 : Int32) X96 hx hby at_85 rfl hv98 ?_
        refine own_istore 88 #[oJ y0, oS, oJ y2, oS, oI x4, oI x5, oI x6, oJ y7, oS, oJ y9, oS, oI x11, oI x12, oI (0 : Int32), oI (1 : Int32), oA w_EXCLUSIVE, oA w_SHARED, oI (0 : Int32), oU, oU, oU, oU, oU] X96 hx hby at_86 rfl rfl ?_
        exact cut_88_6 l Z a0 hw w_EXCLUSIVE w_SHARED w_cache W y0 y2 x4 x5 x6 y7 y9 x11 x12 (0 : Int32) (1 : Int32) w_EXCLUSIVE w_SHARED h0 n0 O0 W.2.1 W.2.2.2.1 hq0 hq1 hq2 hq3 (by decide) (Fld.ne W.2.2.2.2.1 W.2.2.2.2.2.1 (fun q => absurd (Value.int.inj q) (by decide))) X96 hx hby hml hret hlk hZ hown e96 N96 hS hk
      · refine own_iand 86 (1 : Int32) X96 hx hby at_85 rfl hv98 ?_
        refine own_istore 88 #[oJ y0, oS, oJ y2, oS, oI x4, oI x5, oI x6, oJ y7, oS, oJ y9, oS, oI x11, oI x12, oI (0 : Int32), oI (1 : Int32), oA w_EXCLUSIVE, oA w_SHARED, oI (1 : Int32), oU, oU, oU, oU, oU] X96 hx hby at_86 rfl rfl ?_
        exact cut_88_7 l Z a0 hw w_EXCLUSIVE w_SHARED w_cache W y0 y2 x4 x5 x6 y7 y9 x11 x12 (0 : Int32) (1 : Int32) w_EXCLUSIVE w_SHARED h0 n0 O0 W.2.1 W.2.2.2.1 hq0 hq1 hq2 hq3 (by decide) (Fld.ne W.2.2.2.2.1 W.2.2.2.2.2.1 (fun q => absurd (Value.int.inj q) (by decide))) X96 hx hby hml hret hlk hZ hown e96 N96 hS hk
      · refine own_iand 86 (2 : Int32) X96 hx hby at_85 rfl hv98 ?_
        refine own_istore 88 #[oJ y0, oS, oJ y2, oS, oI x4, oI x5, oI x6, oJ y7, oS, oJ y9, oS, oI x11, oI x12, oI (0 : Int32), oI (1 : Int32), oA w_EXCLUSIVE, oA w_SHARED, oI (2 : Int32), oU, oU, oU, oU, oU] X96 hx hby at_86 rfl rfl ?_
        exact cut_88_8 l Z a0 hw w_EXCLUSIVE w_SHARED w_cache W y0 y2 x4 x5 x6 y7 y9 x11 x12 (0 : Int32) (1 : Int32) w_EXCLUSIVE w_SHARED h0 n0 O0 W.2.1 W.2.2.2.1 hq0 hq1 hq2 hq3 (by decide) (Fld.ne W.2.2.2.2.1 W.2.2.2.2.2.1 (fun q => absurd (Value.int.inj q) (by decide))) X96 hx hby hml hret hlk hZ hown e96 N96 hS hk
      · refine own_iand 86 (3 : Int32) X96 hx hby at_85 rfl hv98 ?_
        refine own_istore 88 #[oJ y0, oS, oJ y2, oS, oI x4, oI x5, oI x6, oJ y7, oS, oJ y9, oS, oI x11, oI x12, oI (0 : Int32), oI (1 : Int32), oA w_EXCLUSIVE, oA w_SHARED, oI (3 : Int32), oU, oU, oU, oU, oU] X96 hx hby at_86 rfl rfl ?_
        exact cut_88_9 l Z a0 hw w_EXCLUSIVE w_SHARED w_cache W y0 y2 x4 x5 x6 y7 y9 x11 x12 (0 : Int32) (1 : Int32) w_EXCLUSIVE w_SHARED h0 n0 O0 W.2.1 W.2.2.2.1 hq0 hq1 hq2 hq3 (by decide) (Fld.ne W.2.2.2.2.1 W.2.2.2.2.2.1 (fun q => absurd (Value.int.inj q) (by decide))) X96 hx hby hml hret hlk hZ hown e96 N96 hS hk
  · refine own_iand 56 (1 : Int32) X0 hx hby at_55 rfl hv13 ?_
    refine own_istore 58 #[oJ y0, oS, oJ y2, oS, oI x4, oI x5, oI x6, oJ y7, oS, oJ y9, oS, oI x11, oI x12, oI (1 : Int32), oU, oU, oU, oU, oU, oU, oU, oU, oU] X0 hx hby at_56 rfl rfl ?_
    refine own_iload 60 X0 hx hby at_58 rfl rfl ?_
    refine own_iconst 61 (3 : Int32) X0 hx hby at_60 rfl (by decide) ?_
    obtain ⟨v137, dv137⟩ : ∃ z, z = (x6 >>> ((3 : Int32) &&& 31)) := ⟨_, rfl⟩
    refine own_ishr 62 v137 X0 hx hby at_61 rfl dv137.symm ?_
    refine own_iconst 63 (1 : Int32) X0 hx hby at_62 rfl (by decide) ?_
    rcases own_and1 v137 with hv138 | hv138
    · refine own_iand 64 (0 : Int32) X0 hx hby at_63 rfl hv138 ?_
      refine own_istore 66 #[oJ y0, oS, oJ y2, oS, oI x4, oI x5, oI x6, oJ y7, oS, oJ y9, oS, oI x11, oI x12, oI (1 : Int32), oI (0 : Int32), oU, oU, oU, oU, oU, oU, oU, oU] X0 hx hby at_64 rfl rfl ?_
      refine own_iload 68 X0 hx hby at_66 rfl rfl ?_
      refine own_callS (W := 0) 71 (rm3_19 l Z a0 hw [] w_EXCLUSIVE w_SHARED w_cache W  h0 n0 O0) X0 hx hby hZ hown (own_w hw 10 rfl) (own_w hw 11 rfl) (own_w hw 2 rfl) (own_w hw 12 rfl) (by decide) (by rw [hml]; rfl) [(.int (1 : Int32))] [] pd_2 rfl at_68 rfl e0 rfl rfl rfl (by decide) (by decide) (by decide) (by decide) ?_
      rintro _ T139 L139 X139 ⟨rfl, N139, e139⟩
      have N139 := Fr.app N0 N139
      show Go p e below _ (T139.setTop (mkF m 71 _ [(.ref w_SHARED)]))
      refine own_astore 73 #[oJ y0, oS, oJ y2, oS, oI x4, oI x5, oI x6, oJ y7, oS, oJ y9, oS, oI x11, oI x12, oI (1 : Int32), oI (0 : Int32), oA w_SHARED, oU, oU, oU, oU, oU, oU, oU] X139 hx hby at_71 rfl rfl rfl ?_
      refine own_iload 75 X139 hx hby at_73 rfl rfl ?_
      refine own_callS (W := 0) 78 (rm3_5 l Z a0 hw [] w_EXCLUSIVE w_SHARED w_cache W  h0 n0 O0) X139 hx hby hZ hown (own_w hw 10 rfl) (own_w hw 11 rfl) (own_w hw 2 rfl) (own_w hw 12 rfl) (by decide) (by rw [hml]; rfl) [(.int (0 : Int32))] [] pd_2 rfl at_75 rfl e139 rfl rfl rfl (by decide) (by decide) (by decide) (by decide) ?_
      rintro _ T140 L140 X140 ⟨rfl, N140, e140⟩
      have N140 := Fr.app N139 N140
      show Go p e below _ (T140.setTop (mkF m 78 _ [(.ref w_EXCLUSIVE)]))
      refine own_astore 80 #[oJ y0, oS, oJ y2, oS, oI x4, oI x5, oI x6, oJ y7, oS, oJ y9, oS, oI x11, oI x12, oI (1 : Int32), oI (0 : Int32), oA w_SHARED, oA w_EXCLUSIVE, oU, oU, oU, oU, oU, oU] X140 hx hby at_78 rfl rfl rfl ?_
      refine own_iload 82 X140 hx hby at_80 rfl rfl ?_
      refine own_iconst 83 (4 : Int32) X140 hx hby at_82 rfl (by decide) ?_
      obtain ⟨v141, dv141⟩ : ∃ z, z = (x6 >>> ((4 : Int32) &&& 31)) := ⟨_, rfl⟩
      refine own_ishr 84 v141 X140 hx hby at_83 rfl dv141.symm ?_
      refine own_iconst 85 (3 : Int32) X140 hx hby at_84 rfl (by decide) ?_
      rcases own_and3 v141 with hv142 | hv142 | hv142 | hv142
      · refine own_iand 86 (0 : Int32) X140 hx hby at_85 rfl hv142 ?_
        refine own_istore 88 #[oJ y0, oS, oJ y2, oS, oI x4, oI x5, oI x6, oJ y7, oS, oJ y9, oS, oI x11, oI x12, oI (1 : Int32), oI (0 : Int32), oA w_SHARED, oA w_EXCLUSIVE, oI (0 : Int32), oU, oU, oU, oU, oU] X140 hx hby at_86 rfl rfl ?_
        exact cut_88_6 l Z a0 hw w_EXCLUSIVE w_SHARED w_cache W y0 y2 x4 x5 x6 y7 y9 x11 x12 (1 : Int32) (0 : Int32) w_SHARED w_EXCLUSIVE h0 n0 O0 W.2.2.2.1 W.2.1 hq0 hq1 hq2 hq3 (by decide) (Fld.ne W.2.2.2.2.2.1 W.2.2.2.2.1 (fun q => absurd (Value.int.inj q) (by decide))) X140 hx hby hml hret hlk hZ hown e140 N140 hS hk
      · refine own_iand 86 (1 : Int32) X140 hx hby at_85 rfl hv142 ?_
        refine own_istore 88 #[oJ y0, oS, oJ y2, oS, oI x4, oI x5, oI x6, oJ y7, oS, oJ y9, oS, oI x11, oI x12, oI (1 : Int32), oI (0 : Int32), oA w_SHARED, oA w_EXCLUSIVE, oI (1 : Int32), oU, oU, oU, oU, oU] X140 hx hby at_86 rfl rfl ?_
        exact cut_88_7 l Z a0 hw w_EXCLUSIVE w_SHARED w_cache W y0 y2 x4 x5 x6 y7 y9 x11 x12 (1 : Int32) (0 : Int32) w_SHARED w_EXCLUSIVE h0 n0 O0 W.2.2.2.1 W.2.1 hq0 hq1 hq2 hq3 (by decide) (Fld.ne W.2.2.2.2.2.1 W.2.2.2.2.1 (fun q => absurd (Value.int.inj q) (by decide))) X140 hx hby hml hret hlk hZ hown e140 N140 hS hk
      · refine own_iand 86 (2 : Int32) X140 hx hby at_85 rfl hv142 ?_
        refine own_istore 88 #[oJ y0, oS, oJ y2, oS, oI x4, oI x5, oI x6, oJ y7, oS, oJ y9, oS, oI x11, oI x12, oI (1 : Int32), oI (0 : Int32), oA w_SHARED, oA w_EXCLUSIVE, oI (2 : Int32), oU, oU, oU, oU, oU] X140 hx hby at_86 rfl rfl ?_
        exact cut_88_8 l Z a0 hw w_EXCLUSIVE w_SHARED w_cache W y0 y2 x4 x5 x6 y7 y9 x11 x12 (1 : Int32) (0 : Int32) w_SHARED w_EXCLUSIVE h0 n0 O0 W.2.2.2.1 W.2.1 hq0 hq1 hq2 hq3 (by decide) (Fld.ne W.2.2.2.2.2.1 W.2.2.2.2.1 (fun q => absurd (Value.int.inj q) (by decide))) X140 hx hby hml hret hlk hZ hown e140 N140 hS hk
      · refine own_iand 86 (3 : Int32) X140 hx hby at_85 rfl hv142 ?_
        refine own_istore 88 #[oJ y0, oS, oJ y2, oS, oI x4, oI x5, oI x6, oJ y7, oS, oJ y9, oS, oI x11, oI x12, oI (1 : Int32), oI (0 : Int32), oA w_SHARED, oA w_EXCLUSIVE, oI (3 : Int32), oU, oU, oU, oU, oU] X140 hx hby at_86 rfl rfl ?_
        exact cut_88_9 l Z a0 hw w_EXCLUSIVE w_SHARED w_cache W y0 y2 x4 x5 x6 y7 y9 x11 x12 (1 : Int32) (0 : Int32) w_SHARED w_EXCLUSIVE h0 n0 O0 W.2.2.2.1 W.2.1 hq0 hq1 hq2 hq3 (by decide) (Fld.ne W.2.2.2.2.2.1 W.2.2.2.2.1 (fun q => absurd (Value.int.inj q) (by decide))) X140 hx hby hml hret hlk hZ hown e140 N140 hS hk
    · refine own_iand 64 (1 : Int32) X0 hx hby at_63 rfl hv138 ?_
      refine own_istore 66 #[oJ y0, oS, oJ y2, oS, oI x4, oI x5, oI x6, oJ y7, oS, oJ y9, oS, oI x11, oI x12, oI (1 : Int32), oI (1 : Int32), oU, oU, oU, oU, oU, oU, oU, oU] X0 hx hby at_64 rfl rfl ?_
      refine own_iload 68 X0 hx hby at_66 rfl rfl ?_
      refine own_callS (W := 0) 71 (rm3_19 l Z a0 hw [] w_EXCLUSIVE w_SHARED w_cache W  h0 n0 O0) X0 hx hby hZ hown (own_w hw 10 rfl) (own_w hw 11 rfl) (own_w hw 2 rfl) (own_w hw 12 rfl) (by decide) (by rw [hml]; rfl) [(.int (1 : Int32))] [] pd_2 rfl at_68 rfl e0 rfl rfl rfl (by decide) (by decide) (by decide) (by decide) ?_
      rintro _ T143 L143 X143 ⟨rfl, N143, e143⟩
      have N143 := Fr.app N0 N143
      show Go p e below _ (T143.setTop (mkF m 71 _ [(.ref w_SHARED)]))
      refine own_astore 73 #[oJ y0, oS, oJ y2, oS, oI x4, oI x5, oI x6, oJ y7, oS, oJ y9, oS, oI x11, oI x12, oI (1 : Int32), oI (1 : Int32), oA w_SHARED, oU, oU, oU, oU, oU, oU, oU] X143 hx hby at_71 rfl rfl rfl ?_
      refine own_iload 75 X143 hx hby at_73 rfl rfl ?_
      refine own_callS (W := 0) 78 (rm3_19 l Z a0 hw [] w_EXCLUSIVE w_SHARED w_cache W  h0 n0 O0) X143 hx hby hZ hown (own_w hw 10 rfl) (own_w hw 11 rfl) (own_w hw 2 rfl) (own_w hw 12 rfl) (by decide) (by rw [hml]; rfl) [(.int (1 : Int32))] [] pd_2 rfl at_75 rfl e143 rfl rfl rfl (by decide) (by decide) (by decide) (by decide) ?_
      rintro _ T144 L144 X144 ⟨rfl, N144, e144⟩
      have N144 := Fr.app N143 N144
      show Go p e below _ (T144.setTop (mkF m 78 _ [(.ref w_SHARED)]))
      refine own_astore 80 #[oJ y0, oS, oJ y2, oS, oI x4, oI x5, oI x6, oJ y7, oS, oJ y9, oS, oI x11, oI x12, oI (1 : Int32), oI (1 : Int32), oA w_SHARED, oA w_SHARED, oU, oU, oU, oU, oU, oU] X144 hx hby at_78 rfl rfl rfl ?_
      refine own_iload 82 X144 hx hby at_80 rfl rfl ?_
      refine own_iconst 83 (4 : Int32) X144 hx hby at_82 rfl (by decide) ?_
      obtain ⟨v145, dv145⟩ : ∃ z, z = (x6 >>> ((4 : Int32) &&& 31)) := ⟨_, rfl⟩
      refine own_ishr 84 v145 X144 hx hby at_83 rfl dv145.symm ?_
      refine own_iconst 85 (3 : Int32) X144 hx hby at_84 rfl (by decide) ?_
      rcases own_and3 v145 with hv146 | hv146 | hv146 | hv146
      · refine own_iand 86 (0 : Int32) X144 hx hby at_85 rfl hv146 ?_
        refine own_istore 88 #[oJ y0, oS, oJ y2, oS, oI x4, oI x5, oI x6, oJ y7, oS, oJ y9, oS, oI x11, oI x12, oI (1 : Int32), oI (1 : Int32), oA w_SHARED, oA w_SHARED, oI (0 : Int32), oU, oU, oU, oU, oU] X144 hx hby at_86 rfl rfl ?_
        exact cut_88_2 l Z a0 hw w_EXCLUSIVE w_SHARED w_cache W y0 y2 x4 x5 x6 y7 y9 x11 x12 (1 : Int32) (1 : Int32) w_SHARED w_SHARED h0 n0 O0 W.2.2.2.1 W.2.2.2.1 hq0 hq1 hq2 hq3 (by decide) rfl X144 hx hby hml hret hlk hZ hown e144 N144 hS hk
      · refine own_iand 86 (1 : Int32) X144 hx hby at_85 rfl hv146 ?_
        refine own_istore 88 #[oJ y0, oS, oJ y2, oS, oI x4, oI x5, oI x6, oJ y7, oS, oJ y9, oS, oI x11, oI x12, oI (1 : Int32), oI (1 : Int32), oA w_SHARED, oA w_SHARED, oI (1 : Int32), oU, oU, oU, oU, oU] X144 hx hby at_86 rfl rfl ?_
        exact cut_88_3 l Z a0 hw w_EXCLUSIVE w_SHARED w_cache W y0 y2 x4 x5 x6 y7 y9 x11 x12 (1 : Int32) (1 : Int32) w_SHARED w_SHARED h0 n0 O0 W.2.2.2.1 W.2.2.2.1 hq0 hq1 hq2 hq3 (by decide) rfl X144 hx hby hml hret hlk hZ hown e144 N144 hS hk
      · refine own_iand 86 (2 : Int32) X144 hx hby at_85 rfl hv146 ?_
        refine own_istore 88 #[oJ y0, oS, oJ y2, oS, oI x4, oI x5, oI x6, oJ y7, oS, oJ y9, oS, oI x11, oI x12, oI (1 : Int32), oI (1 : Int32), oA w_SHARED, oA w_SHARED, oI (2 : Int32), oU, oU, oU, oU, oU] X144 hx hby at_86 rfl rfl ?_
        exact cut_88_4 l Z a0 hw w_EXCLUSIVE w_SHARED w_cache W y0 y2 x4 x5 x6 y7 y9 x11 x12 (1 : Int32) (1 : Int32) w_SHARED w_SHARED h0 n0 O0 W.2.2.2.1 W.2.2.2.1 hq0 hq1 hq2 hq3 (by decide) rfl X144 hx hby hml hret hlk hZ hown e144 N144 hS hk
      · refine own_iand 86 (3 : Int32) X144 hx hby at_85 rfl hv146 ?_
        refine own_istore 88 #[oJ y0, oS, oJ y2, oS, oI x4, oI x5, oI x6, oJ y7, oS, oJ y9, oS, oI x11, oI x12, oI (1 : Int32), oI (1 : Int32), oA w_SHARED, oA w_SHARED, oI (3 : Int32), oU, oU, oU, oU, oU] X144 hx hby at_86 rfl rfl ?_
        exact cut_88_5 l Z a0 hw w_EXCLUSIVE w_SHARED w_cache W y0 y2 x4 x5 x6 y7 y9 x11 x12 (1 : Int32) (1 : Int32) w_SHARED w_SHARED h0 n0 O0 W.2.2.2.1 W.2.2.2.1 hq0 hq1 hq2 hq3 (by decide) rfl X144 hx hby hml hret hlk hZ hown e144 N144 hS hk
set_option maxRecDepth 65536 in
set_option maxHeartbeats 40000000 in
theorem cut_24_0 (l : Launch) (Z : State) (a0 : Array Value) (hw : ∀ d ∈ tables_1, d.before a0 Z = true) (w_EXCLUSIVE w_SHARED w_cache : Addr) (W : own_W Z w_EXCLUSIVE w_SHARED w_cache) (y0 : Int64) (y2 : Int64) (x4 : Int32) (x5 : Int32) (x6 : Int32) (y7 : Int64) (y9 : Int64) (h0 : Heap) (n0 : Nat) (O0 : Old Z n0 h0) (hq0 : ¬ (y7 < (1 : Int64))) (hq1 : ¬ (y9 < (1 : Int64))) {p : Program} {e : Env} {s : State} {m : MethodId} {args : Array Value} {below : List Frame} {meth : Method} {c : Code} {T : State} {vm0 : Vm} {locs : List Loc} {k0 : Nat}
    (X0 : Stand p l e room_1 (s.setVm vm0) m args below meth c T locs 0 0) (hx : p.tables.exec = Jvm.exec) (hby : c.code = code) (hml : c.maxLocals = 23) (hret : meth.sig.returnType = some .boolean) (hlk : meth.locks = false) (hZ : Z.Warmed39 (s.setVm vm0).vm) (hown : (s.setVm vm0).vm.findClass "com/example/bare_turnstile/bareturnstile/TicketEqualsPinLaw" = some m.cls) (e0 : T.heap = h0) (N0 : Fr n0 locs) (hS : s.Since vm0 k0) (hk : k0 ≤ h0.size) :
    Go p e below (fun s₂ o => s₂.status = .running ∧ Ended s₂ below o ∧ ∃ v L, o = .returned v ∧ own_Q1 n0 v s₂.heap L ∧ ReturnedEndW s o s₂ L 16 1152) (T.setTop (mkF m 24 #[oJ y0, oS, oJ y2, oS, oI x4, oI x5, oI x6, oJ y7, oS, oJ y9, oS, oU, oU, oU, oU, oU, oU, oU, oU, oU, oU, oU, oU] [])) := by
  refine own_iload 26 X0 hx hby at_24 rfl rfl ?_
  refine own_ldc 28 X0 hx hby hZ hown (own_w hw 9 rfl) at_26 rfl ?_
  refine own_iand 29 (x4 &&& (2147483647 : Int32)) X0 hx hby at_28 rfl rfl ?_
  refine own_istore 31 #[oJ y0, oS, oJ y2, oS, oI x4, oI x5, oI x6, oJ y7, oS, oJ y9, oS, oI (x4 &&& (2147483647 : Int32)), oU, oU, oU, oU, oU, oU, oU, oU, oU, oU, oU] X0 hx hby at_29 rfl rfl ?_
  refine own_iload 33 X0 hx hby at_31 rfl rfl ?_
  refine own_iconst 34 (2 : Int32) X0 hx hby at_33 rfl (by decide) ?_
  obtain ⟨v10, dv10⟩ : ∃ z, z = (x6 &&& (2 : Int32)) := ⟨_, rfl⟩
  refine own_iand 35 v10 X0 hx hby at_34 rfl dv10.symm ?_
  by_cases hc11 : v10 = (0 : Int32)
  · refine own_ifY 43 X0 hx hby at_35 (by decide) (by decide) ((if0 _ _).trans (teq hc11).1) ?_
    refine own_iload 45 X0 hx hby at_43 rfl rfl ?_
    refine own_ldc 47 X0 hx hby hZ hown (own_w hw 9 rfl) at_45 rfl ?_
    refine own_iand 48 (x5 &&& (2147483647 : Int32)) X0 hx hby at_47 rfl rfl ?_
    refine own_istore 50 #[oJ y0, oS, oJ y2, oS, oI x4, oI x5, oI x6, oJ y7, oS, oJ y9, oS, oI (x4 &&& (2147483647 : Int32)), oI (x5 &&& (2147483647 : Int32)), oU, oU, oU, oU, oU, oU, oU, oU, oU, oU] X0 hx hby at_48 rfl rfl ?_
    exact cut_50_1 l Z a0 hw w_EXCLUSIVE w_SHARED w_cache W y0 y2 x4 x5 x6 y7 y9 (x4 &&& (2147483647 : Int32)) (x5 &&& (2147483647 : Int32)) h0 n0 O0 hq0 hq1 (by have : 0 ≤ ((x4 &&& (2147483647 : Int32))).toInt ∧ ((x4 &&& (2147483647 : Int32))).toInt ≤ 2147483647 := own_mkI x4 (2147483647 : Int32) 31 (by decide) (by decide); have : ((0 : Int32)).toInt = 0 := rfl; exact fun q => absurd (Int32.lt_iff_toInt_lt.mp q) (by omega)) (by have : 0 ≤ ((x5 &&& (2147483647 : Int32))).toInt ∧ ((x5 &&& (2147483647 : Int32))).toInt ≤ 2147483647 := own_mkI x5 (2147483647 : Int32) 31 (by decide) (by decide); have : ((0 : Int32)).toInt = 0 := rfl; exact fun q => absurd (Int32.lt_iff_toInt_lt.mp q) (by omega)) X0 hx hby hml hret hlk hZ hown e0 N0 hS hk
  refine own_ifN 38 X0 hx hby at_35 rfl ((if0 _ _).trans (feq hc11).1) ?_
  refine own_iload 40 X0 hx hby at_38 rfl rfl ?_
  refine own_goto 48 X0 hx hby at_40 (by decide) (by decide) ?_
  refine own_istore 50 #[oJ y0, oS, oJ y2, oS, oI x4, oI x5, oI x6, oJ y7, oS, oJ y9, oS, oI (x4 &&& (2147483647 : Int32)), oI (x4 &&& (2147483647 : Int32)), oU, oU, oU, oU, oU, oU, oU, oU, oU, oU] X0 hx hby at_48 rfl rfl ?_
  exact cut_50_1 l Z a0 hw w_EXCLUSIVE w_SHARED w_cache W y0 y2 x4 x5 x6 y7 y9 (x4 &&& (2147483647 : Int32)) (x4 &&& (2147483647 : Int32)) h0 n0 O0 hq0 hq1 (by have : 0 ≤ ((x4 &&& (2147483647 : Int32))).toInt ∧ ((x4 &&& (2147483647 : Int32))).toInt ≤ 2147483647 := own_mkI x4 (2147483647 : Int32) 31 (by decide) (by decide); have : ((0 : Int32)).toInt = 0 := rfl; exact fun q => absurd (Int32.lt_iff_toInt_lt.mp q) (by omega)) (by have : 0 ≤ ((x4 &&& (2147483647 : Int32))).toInt ∧ ((x4 &&& (2147483647 : Int32))).toInt ≤ 2147483647 := own_mkI x4 (2147483647 : Int32) 31 (by decide) (by decide); have : ((0 : Int32)).toInt = 0 := rfl; exact fun q => absurd (Int32.lt_iff_toInt_lt.mp q) (by omega)) X0 hx hby hml hret hlk hZ hown e0 N0 hS hk
set_option maxRecDepth 65536 in
set_option maxHeartbeats 40000000 in
theorem rm0 (l : Launch) (Z : State) (a0 : Array Value) (hw : ∀ d ∈ tables_1, d.before a0 Z = true) (ws : List Jvm.Cond) (w_EXCLUSIVE w_SHARED w_cache : Addr) (W : own_W Z w_EXCLUSIVE w_SHARED w_cache) (q0 : Int64) (q1 : Int64) (x2 : Int32) (x3 : Int32) (x4 : Int32) (h0 : Heap) (n0 : Nat) (O0 : Old Z n0 h0)  :
    MetFree l x (head1 (Jvm.Cond.code x code maxLocals ret :: ws) room_1) (fun a U => a = #[(.long q0), (.long q1), (.int x2), (.int x3), (.int x4)] ∧ Z.Warmed39 U.vm ∧ U.heap = h0) (fun _ _ _ _ _ => True) (fun _ U o U' => ∃ v L, o = .returned v ∧ own_Q1 n0 v U'.heap L ∧ ReturnedEndW U o U' L 16 1152) := by
  refine MetFree.of_bodySF (plainFor_of_name pn_0) hisR ?_
  intro p e s m args below meth c s₁ Bd hml0 hP hK
  obtain ⟨rfl, hZ, hh⟩ := hP
  have hx := Bd.exec
  have hby := Bd.bytes
  have hml : c.maxLocals = 23 := hml0
  have hlk := BodyLoose.notSynchronized Bd
  have hret := Bd.returns
  have hown : s.vm.findClass "com/example/bare_turnstile/bareturnstile/TicketEqualsPinLaw" = some m.cls := findClass_of_methodNamed Bd.named
  have hnm := (name_of_methodNamed Bd.named Bd.method).1
  have X0 : Stand p l e room_1 (s.setVm s.vm) m #[(.long q0), (.long q1), (.int x2), (.int x3), (.int x4)] below meth c s₁ [] 0 0 := Stand.of_body Bd
  have e0 : s₁.heap = h0 := by rw [← hh, Bd.state]; rfl
  have N0 := Fr.nil n0
  have hZ : Z.Warmed39 (s.setVm s.vm).vm := hZ
  have hown : (s.setVm s.vm).vm.findClass "com/example/bare_turnstile/bareturnstile/TicketEqualsPinLaw" = some m.cls := hown
  rw [ef_0 m q0 q1 x2 x3 x4]
  show Go p e below _ (s₁.setTop (mkF m 0 #[oJ q0, oS, oJ q1, oS, oI x2, oI x3, oI x4, oU, oU, oU, oU, oU, oU, oU, oU, oU, oU, oU, oU, oU, oU, oU, oU] []))
  have hS := (State.WarmedH.refl s).since 0
  have hk : 0 ≤ h0.size := Nat.zero_le _
  refine own_lload_n 1 X0 hx hby at_0 rfl rfl ?_
  by_cases hc5 : (1 : Int64) < (q0 &&& (9223372036854775807 : Int64))
  · refine own_callS (W := 0) 4 (rm1_3 l Z a0 hw [] w_EXCLUSIVE w_SHARED w_cache W q0 h0 n0 O0 hc5) X0 hx hby hZ hown (own_w hw 0 rfl) (own_w hw 1 rfl) (own_w hw 2 rfl) (own_w hw 3 rfl) (by decide) (by rw [hml]; rfl) [(.long q0)] [] pd_1 rfl at_1 rfl e0 rfl rfl rfl (by decide) (by decide) (by decide) (by decide) ?_
    rintro _ T6 L6 X6 ⟨rfl, N6, e6⟩
    have N6 := Fr.app N0 N6
    show Go p e below _ (T6.setTop (mkF m 4 _ [(.long (q0 &&& (9223372036854775807 : Int64)))]))
    refine own_lstore 6 #[oJ q0, oS, oJ q1, oS, oI x2, oI x3, oI x4, oJ (q0 &&& (9223372036854775807 : Int64)), oS, oU, oU, oU, oU, oU, oU, oU, oU, oU, oU, oU, oU, oU, oU] X6 hx hby at_4 rfl rfl ?_
    refine own_iload 8 X6 hx hby at_6 rfl rfl ?_
    refine own_iconst 9 (1 : Int32) X6 hx hby at_8 rfl (by decide) ?_
    rcases own_and1 x4 with hv7 | hv7
    · refine own_iand 10 (0 : Int32) X6 hx hby at_9 rfl hv7 ?_
      refine own_ifY 18 X6 hx hby at_10 (by decide) (by decide) (by decide) ?_
      refine own_lload_n 19 X6 hx hby at_18 rfl rfl ?_
      by_cases hc8 : (1 : Int64) < (q1 &&& (9223372036854775807 : Int64))
      · refine own_callS (W := 0) 22 (rm1_3 l Z a0 hw [] w_EXCLUSIVE w_SHARED w_cache W q1 h0 n0 O0 hc8) X6 hx hby hZ hown (own_w hw 0 rfl) (own_w hw 1 rfl) (own_w hw 2 rfl) (own_w hw 3 rfl) (by decide) (by rw [hml]; rfl) [(.long q1)] [] pd_1 rfl at_19 rfl e6 rfl rfl rfl (by decide) (by decide) (by decide) (by decide) ?_
        rintro _ T9 L9 X9 ⟨rfl, N9, e9⟩
        have N9 := Fr.app N6 N9
        show Go p e below _ (T9.setTop (mkF m 22 _ [(.long (q1 &&& (9223372036854775807 : Int64)))]))
        refine own_lstore 24 #[oJ q0, oS, oJ q1, oS, oI x2, oI x3, oI x4, oJ (q0 &&& (9223372036854775807 : Int64)), oS, oJ (q1 &&& (9223372036854775807 : Int64)), oS, oU, oU, oU, oU, oU, oU, oU, oU, oU, oU, oU, oU] X9 hx hby at_22 rfl rfl ?_
        exact cut_24_0 l Z a0 hw w_EXCLUSIVE w_SHARED w_cache W q0 q1 x2 x3 x4 (q0 &&& (9223372036854775807 : Int64)) (q1 &&& (9223372036854775807 : Int64)) h0 n0 O0 (by have : 0 ≤ ((q0 &&& (9223372036854775807 : Int64))).toInt ∧ ((q0 &&& (9223372036854775807 : Int64))).toInt ≤ 9223372036854775807 := own_mkJ q0 (9223372036854775807 : Int64) 63 (by decide) (by decide); have : ((1 : Int64)).toInt = 1 := rfl; have : ((1 : Int64)).toInt < ((q0 &&& (9223372036854775807 : Int64))).toInt := Int64.lt_iff_toInt_lt.mp hc5; exact fun q => absurd (Int64.lt_iff_toInt_lt.mp q) (by omega)) (by have : 0 ≤ ((q1 &&& (9223372036854775807 : Int64))).toInt ∧ ((q1 &&& (9223372036854775807 : Int64))).toInt ≤ 9223372036854775807 := own_mkJ q1 (9223372036854775807 : Int64) 63 (by decide) (by decide); have : ((1 : Int64)).toInt = 1 := rfl; have : ((1 : Int64)).toInt < ((q1 &&& (9223372036854775807 : Int64))).toInt := Int64.lt_iff_toInt_lt.mp hc8; exact fun q => absurd (Int64.lt_iff_toInt_lt.mp q) (by omega)) X9 hx hby hml hret hlk hZ hown e9 N9 hS hk
      refine own_callS (W := 0) 22 (rm1_4 l Z a0 hw [] w_EXCLUSIVE w_SHARED w_cache W q1 h0 n0 O0 hc8) X6 hx hby hZ hown (own_w hw 0 rfl) (own_w hw 1 rfl) (own_w hw 2 rfl) (own_w hw 3 rfl) (by decide) (by rw [hml]; rfl) [(.long q1)] [] pd_1 rfl at_19 rfl e6 rfl rfl rfl (by decide) (by decide) (by decide) (by decide) ?_
      rintro _ T147 L147 X147 ⟨rfl, N147, e147⟩
      have N147 := Fr.app N6 N147
      show Go p e below _ (T147.setTop (mkF m 22 _ [(.long (1 : Int64))]))
      refine own_lstore 24 #[oJ q0, oS, oJ q1, oS, oI x2, oI x3, oI x4, oJ (q0 &&& (9223372036854775807 : Int64)), oS, oJ (1 : Int64), oS, oU, oU, oU, oU, oU, oU, oU, oU, oU, oU, oU, oU] X147 hx hby at_22 rfl rfl ?_
      exact cut_24_0 l Z a0 hw w_EXCLUSIVE w_SHARED w_cache W q0 q1 x2 x3 x4 (q0 &&& (9223372036854775807 : Int64)) (1 : Int64) h0 n0 O0 (by have : 0 ≤ ((q0 &&& (9223372036854775807 : Int64))).toInt ∧ ((q0 &&& (9223372036854775807 : Int64))).toInt ≤ 9223372036854775807 := own_mkJ q0 (9223372036854775807 : Int64) 63 (by decide) (by decide); have : ((1 : Int64)).toInt = 1 := rfl; have : ((1 : Int64)).toInt < ((q0 &&& (9223372036854775807 : Int64))).toInt := Int64.lt_iff_toInt_lt.mp hc5; exact fun q => absurd (Int64.lt_iff_toInt_lt.mp q) (by omega)) (by decide) X147 hx hby hml hret hlk hZ hown e147 N147 hS hk
    · refine own_iand 10 (1 : Int32) X6 hx hby at_9 rfl hv7 ?_
      refine own_ifN 13 X6 hx hby at_10 rfl (by decide) ?_
      refine own_lload 15 X6 hx hby at_13 rfl rfl ?_
      refine own_goto 22 X6 hx hby at_15 (by decide) (by decide) ?_
      refine own_lstore 24 #[oJ q0, oS, oJ q1, oS, oI x2, oI x3, oI x4, oJ (q0 &&& (9223372036854775807 : Int64)), oS, oJ (q0 &&& (9223372036854775807 : Int64)), oS, oU, oU, oU, oU, oU, oU, oU, oU, oU, oU, oU, oU] X6 hx hby at_22 rfl rfl ?_
      exact cut_24_0 l Z a0 hw w_EXCLUSIVE w_SHARED w_cache W q0 q1 x2 x3 x4 (q0 &&& (9223372036854775807 : Int64)) (q0 &&& (9223372036854775807 : Int64)) h0 n0 O0 (by have : 0 ≤ ((q0 &&& (9223372036854775807 : Int64))).toInt ∧ ((q0 &&& (9223372036854775807 : Int64))).toInt ≤ 9223372036854775807 := own_mkJ q0 (9223372036854775807 : Int64) 63 (by decide) (by decide); have : ((1 : Int64)).toInt = 1 := rfl; have : ((1 : Int64)).toInt < ((q0 &&& (9223372036854775807 : Int64))).toInt := Int64.lt_iff_toInt_lt.mp hc5; exact fun q => absurd (Int64.lt_iff_toInt_lt.mp q) (by omega)) (by have : 0 ≤ ((q0 &&& (9223372036854775807 : Int64))).toInt ∧ ((q0 &&& (9223372036854775807 : Int64))).toInt ≤ 9223372036854775807 := own_mkJ q0 (9223372036854775807 : Int64) 63 (by decide) (by decide); have : ((1 : Int64)).toInt = 1 := rfl; have : ((1 : Int64)).toInt < ((q0 &&& (9223372036854775807 : Int64))).toInt := Int64.lt_iff_toInt_lt.mp hc5; exact fun q => absurd (Int64.lt_iff_toInt_lt.mp q) (by omega)) X6 hx hby hml hret hlk hZ hown e6 N6 hS hk
  refine own_callS (W := 0) 4 (rm1_4 l Z a0 hw [] w_EXCLUSIVE w_SHARED w_cache W q0 h0 n0 O0 hc5) X0 hx hby hZ hown (own_w hw 0 rfl) (own_w hw 1 rfl) (own_w hw 2 rfl) (own_w hw 3 rfl) (by decide) (by rw [hml]; rfl) [(.long q0)] [] pd_1 rfl at_1 rfl e0 rfl rfl rfl (by decide) (by decide) (by decide) (by decide) ?_
  rintro _ T148 L148 X148 ⟨rfl, N148, e148⟩
  have N148 := Fr.app N0 N148
  show Go p e below _ (T148.setTop (mkF m 4 _ [(.long (1 : Int64))]))
  refine own_lstore 6 #[oJ q0, oS, oJ q1, oS, oI x2, oI x3, oI x4, oJ (1 : Int64), oS, oU, oU, oU, oU, oU, oU, oU, oU, oU, oU, oU, oU, oU, oU] X148 hx hby at_4 rfl rfl ?_
  refine own_iload 8 X148 hx hby at_6 rfl rfl ?_
  refine own_iconst 9 (1 : Int32) X148 hx hby at_8 rfl (by decide) ?_
  rcases own_and1 x4 with hv149 | hv149
  · refine own_iand 10 (0 : Int32) X148 hx hby at_9 rfl hv149 ?_
    refine own_ifY 18 X148 hx hby at_10 (by decide) (by decide) (by decide) ?_
    refine own_lload_n 19 X148 hx hby at_18 rfl rfl ?_
    by_cases hc150 : (1 : Int64) < (q1 &&& (9223372036854775807 : Int64))
    · refine own_callS (W := 0) 22 (rm1_3 l Z a0 hw [] w_EXCLUSIVE w_SHARED w_cache W q1 h0 n0 O0 hc150) X148 hx hby hZ hown (own_w hw 0 rfl) (own_w hw 1 rfl) (own_w hw 2 rfl) (own_w hw 3 rfl) (by decide) (by rw [hml]; rfl) [(.long q1)] [] pd_1 rfl at_19 rfl e148 rfl rfl rfl (by decide) (by decide) (by decide) (by decide) ?_
      rintro _ T151 L151 X151 ⟨rfl, N151, e151⟩
      have N151 := Fr.app N148 N151
      show Go p e below _ (T151.setTop (mkF m 22 _ [(.long (q1 &&& (9223372036854775807 : Int64)))]))
      refine own_lstore 24 #[oJ q0, oS, oJ q1, oS, oI x2, oI x3, oI x4, oJ (1 : Int64), oS, oJ (q1 &&& (9223372036854775807 : Int64)), oS, oU, oU, oU, oU, oU, oU, oU, oU, oU, oU, oU, oU] X151 hx hby at_22 rfl rfl ?_
      exact cut_24_0 l Z a0 hw w_EXCLUSIVE w_SHARED w_cache W q0 q1 x2 x3 x4 (1 : Int64) (q1 &&& (9223372036854775807 : Int64)) h0 n0 O0 (by decide) (by have : 0 ≤ ((q1 &&& (9223372036854775807 : Int64))).toInt ∧ ((q1 &&& (9223372036854775807 : Int64))).toInt ≤ 9223372036854775807 := own_mkJ q1 (9223372036854775807 : Int64) 63 (by decide) (by decide); have : ((1 : Int64)).toInt = 1 := rfl; have : ((1 : Int64)).toInt < ((q1 &&& (9223372036854775807 : Int64))).toInt := Int64.lt_iff_toInt_lt.mp hc150; exact fun q => absurd (Int64.lt_iff_toInt_lt.mp q) (by omega)) X151 hx hby hml hret hlk hZ hown e151 N151 hS hk
    refine own_callS (W := 0) 22 (rm1_4 l Z a0 hw [] w_EXCLUSIVE w_SHARED w_cache W q1 h0 n0 O0 hc150) X148 hx hby hZ hown (own_w hw 0 rfl) (own_w hw 1 rfl) (own_w hw 2 rfl) (own_w hw 3 rfl) (by decide) (by rw [hml]; rfl) [(.long q1)] [] pd_1 rfl at_19 rfl e148 rfl rfl rfl (by decide) (by decide) (by decide) (by decide) ?_
    rintro _ T152 L152 X152 ⟨rfl, N152, e152⟩
    have N152 := Fr.app N148 N152
    show Go p e below _ (T152.setTop (mkF m 22 _ [(.long (1 : Int64))]))
    refine own_lstore 24 #[oJ q0, oS, oJ q1, oS, oI x2, oI x3, oI x4, oJ (1 : Int64), oS, oJ (1 : Int64), oS, oU, oU, oU, oU, oU, oU, oU, oU, oU, oU, oU, oU] X152 hx hby at_22 rfl rfl ?_
    exact cut_24_0 l Z a0 hw w_EXCLUSIVE w_SHARED w_cache W q0 q1 x2 x3 x4 (1 : Int64) (1 : Int64) h0 n0 O0 (by decide) (by decide) X152 hx hby hml hret hlk hZ hown e152 N152 hS hk
  · refine own_iand 10 (1 : Int32) X148 hx hby at_9 rfl hv149 ?_
    refine own_ifN 13 X148 hx hby at_10 rfl (by decide) ?_
    refine own_lload 15 X148 hx hby at_13 rfl rfl ?_
    refine own_goto 22 X148 hx hby at_15 (by decide) (by decide) ?_
    refine own_lstore 24 #[oJ q0, oS, oJ q1, oS, oI x2, oI x3, oI x4, oJ (1 : Int64), oS, oJ (1 : Int64), oS, oU, oU, oU, oU, oU, oU, oU, oU, oU, oU, oU, oU] X148 hx hby at_22 rfl rfl ?_
    exact cut_24_0 l Z a0 hw w_EXCLUSIVE w_SHARED w_cache W q0 q1 x2 x3 x4 (1 : Int64) (1 : Int64) h0 n0 O0 (by decide) (by decide) X148 hx hby hml hret hlk hZ hown e148 N148 hS hk
set_option maxRecDepth 65536 in
set_option maxHeartbeats 40000000 in
theorem comes_1 {Post : Tables → Env → Array Value → State → Outcome → State → Prop} (hpost : ∀ tb e args s v u, (limb_1_1.after args s (.returned v) u = true ∧ limb_1_2.after args s (.returned v) u = true) → ReturnedEndW s (.returned v) u (Jvm.fieldLocs frame_1_writes args s ++ Jvm.arrayLocs frame_1_arrays args s ++ Jvm.staticLocs frame_1_statics s) 16 1152 → Post tb e args s (.returned v) u) :
    ArmFor flags0 classFile x code maxLocals ret World_1 tables_1 room_1 Calls_1 rest_1 Pre_1 Post := by
  intro l hfl _ _ p e ha hc hk s m args below hf hA hF happ hP
  obtain ⟨hcalls, hrest, hpre⟩ := hP
  obtain ⟨-, -, -, hnamed, -, -, -, hat⟩ := (Spec.applies_iff hf).mp happ
  obtain ⟨hg, hn⟩ := and_e (Cond.before_iff.mp (show (Jvm.Cond.and given_1 narrow_1).before args s = true from hpre))
  obtain ⟨ga0, gb0⟩ := and_e hg
  obtain ⟨ga1, gb1⟩ := and_e gb0
  obtain ⟨ga2, gb2⟩ := and_e gb1
  obtain ⟨ga3, gb3⟩ := and_e gb2
  obtain ⟨ga4, ga5⟩ := and_e gb3
  obtain ⟨u0, u1, u2, u3, u4, rfl⟩ : ∃ u0 u1 u2 u3 u4 : Value, args = #[u0, u1, u2, u3, u4] := by
    have hs : args.size = 5 := by simpa [Cond.value, given_1] using ga0
    obtain ⟨L⟩ := args
    match L, hs with
    | [u0, u1, u2, u3, u4], _ => exact ⟨u0, u1, u2, u3, u4, rfl⟩
  have hw := fun d (hd : d ∈ tables_1) => atoms_spec (ws := Jvm.Cond.code x code maxLocals ret :: tables_1) hat d (List.mem_cons_of_mem _ hd)
  have hfit : Fit s := fun {y c} hc i hi => by
    obtain ⟨ha, rfl⟩ := Array.getElem?_eq_some_iff.mp hc
    have q := List.all_eq_true.mp ((Array.all_eq_true_iff_forall_mem.mp hF) _ (Array.getElem_mem ha)) i (List.mem_range.mpr hi)
    simpa [Array.getElem?_eq_getElem hi] using q
  obtain ⟨hsets, hown0⟩ := atoms_of _ (rest_1_c_eq ▸ (show rest_1_c.before _ s = true from hrest))
  obtain ⟨i0, ei0⟩ := isL_v ga1
  obtain rfl : u0 = (.long i0) := Option.some.inj ei0
  obtain ⟨i1, ei1⟩ := isL_v ga2
  obtain rfl : u1 = (.long i1) := Option.some.inj ei1
  obtain ⟨i2, ei2⟩ := is_v ga3
  obtain rfl : u2 = (.int i2) := Option.some.inj ei2
  obtain ⟨i3, ei3⟩ := is_v ga4
  obtain rfl : u3 = (.int i3) := Option.some.inj ei3
  obtain ⟨i4, ei4⟩ := is_v ga5
  obtain rfl : u4 = (.int i4) := Option.some.inj ei4
  obtain ⟨na0, nb0⟩ := and_e hn
  obtain ⟨na1, nb1⟩ := and_e nb0
  obtain ⟨na2, na3⟩ := and_e nb1
  obtain ⟨w_EXCLUSIVE, v_w_EXCLUSIVE⟩ := exa_v na0
  have S_w_EXCLUSIVE := Sta.start v_w_EXCLUSIVE (Or.inr ⟨(own_w hw 14 rfl), (own_w hw 15 rfl)⟩)
  have E_w_EXCLUSIVE := Exa.start v_w_EXCLUSIVE na0
  obtain ⟨w_SHARED, v_w_SHARED⟩ := exa_v na1
  have S_w_SHARED := Sta.start v_w_SHARED (Or.inr ⟨(own_w hw 14 rfl), (own_w hw 53 rfl)⟩)
  have E_w_SHARED := Exa.start v_w_SHARED na1
  have F_ordinal_w_EXCLUSIVE := own_fld na2 v_w_EXCLUSIVE
  have F_ordinal_w_SHARED := own_fld na3 v_w_SHARED
  obtain ⟨w_cache, v_w_cache⟩ := arr_v (Cond.before_iff.mp (hsets _ (List.mem_of_getElem? (i := 2) rfl)))
  have S_w_cache := Sta.start v_w_cache (Or.inl (hsets _ (List.mem_of_getElem? (i := 1) rfl)))
  have B_w_cache : own_Bx s w_cache := own_bx (fun _ => v_w_cache) (Cond.before_iff.mp (hsets _ (List.mem_of_getElem? (i := 2) rfl))) (Cond.before_iff.mp (hsets _ (List.mem_of_getElem? (i := 4) rfl))) (Cond.before_iff.mp (hsets _ (List.mem_of_getElem? (i := 5) rfl)))
  obtain ⟨n, o, h1, h2, h3, _, L, rfl, ⟨rfl, N⟩, hq⟩ := rm0 l s _ hw tables_1 w_EXCLUSIVE w_SHARED w_cache ⟨S_w_EXCLUSIVE, E_w_EXCLUSIVE, S_w_SHARED, E_w_SHARED, F_ordinal_w_EXCLUSIVE, F_ordinal_w_SHARED, S_w_cache, B_w_cache⟩ i0 i1 i2 i3 i4 s.heap s.heap.size (Old.start s) p e ha hc hk s m _ below hf ((Spec.applies_iff_loose hf).mp happ).1 ⟨rfl, State.Warmed39.refl s, rfl⟩ trivial
  refine ⟨n, _, h1, h2, h3, hpost _ _ _ _ _ _ ⟨Cond.after_iff.mpr rfl, Cond.after_iff.mpr (eq_i res_at (Term.int_eval (1)) rfl)⟩ ⟨hq.1, hq.2.1, hq.2.2.1, (hq.2.2.2.sift fun y hy => Or.inr (N y hy)).mono (by decide) (by decide)⟩⟩
theorem main_1_1 : Claimed_1_1 := comes_1 fun _ _ _ _ _ _ h hF => ⟨h.1, hF⟩
theorem main_1_2 : Claimed_1_2 := comes_1 fun _ _ _ _ _ _ h hF => ⟨h.2, hF⟩
end Jvm.Pilot.@@N@@
namespace Jvm.Pilot.@@N@@
open Jvm Jvm.ClassFile Sem Op Lib Jvm.Free Jvm.Stand Jvm.Pilot.@@N@@.Jvm.D
/-! MADE BY PROGRAM (witnessworld.py) out of the Statement's table words and the real class files: 22 classes; the members and pool entries that the words name. The judged class is class 1, her method 3. -/
namespace start1
open Jvm.ClassFile
def u (s : String) : CpInfo := .utf8 (stringToUtf16 s)
/-- a pool by its gaps: so many unusable entries, then the entry; so many at the end -/
def gap : Nat → List CpInfo → List CpInfo
  | 0, r => r
  | n + 1, r => .unusable :: gap n r
def poolList (es : List (Nat × CpInfo)) (last : Nat) : List CpInfo := es.foldr (fun e r => gap e.1 (e.2 :: r)) (gap last [])
def pool (es : List (Nat × CpInfo)) (last : Nat) : Array CpInfo := ⟨poolList es last⟩
def fileOf (pool : Array CpInfo) (this : Nat) (attrs : Array Attribute := #[]) (ms : Array MethodInfo := #[]) (fl : Nat := 33) (sup : Nat := 0) (ifs : Array Nat := #[]) (fds : Array FieldInfo := #[]) : ClassFile where
  minorVersion := 0
  majorVersion := 65
  constantPool := pool
  accessFlags := fl
  thisClass := this
  superClass := sup
  interfaces := ifs
  fields := fds
  methods := ms
  attributes := attrs
def plain (name : String) (sup : Option ClassId) : Class where
  name := name
  kind := .ordinary
  loader := none
  accessFlags := 33
  super := sup
  interfaces := #[]
  cf := none
  fields := #[]
  methods := #[]
  instanceTypes := #[]
  staticTypes := #[]
  resolved := #[]
  callSites := []
  init := .initialized
  statics := none
  mirror := none

def pool0 : Array CpInfo := pool [(5, u "<init>"), (0, u "()V"), (1, .class_ 10), (1, u "java/lang/Object")] 113

def k0c0 : Code := { maxStack := 0, maxLocals := 1, code := object_method_1_code, exceptionTable := #[], attributes := #[] }
def k0m0 : Method := { name := "<init>", desc := "()V", sig := { parameters := [], returnType := none }, accessFlags := 1, code := some k0c0 }
/-- java/lang/Object -/
def k0 : Class := { plain "java/lang/Object" none with
  accessFlags := 33
  interfaces := #[]
  cf := some (fileOf pool0 8 #[] #[{ accessFlags := 1, nameIndex := 5, descriptorIndex := 6, attributes := #[] }] 33 0 #[] #[])
  fields := #[]
  methods := #[k0m0]
  instanceTypes := #[]
  staticTypes := #[]
  resolved := Array.replicate 124 none
  statics := none }

def pool1 : Array CpInfo := pool [(2, .class_ 4), (1, u "java/lang/Object"), (0, u "<init>"), (0, u "()V"), (0, .class_ 8), (0, u "java/lang/Long"), (0, .long 9223372036854775807), (1, .methodref 12 13), (0, .class_ 14), (0, .nameAndType 15 16), (0, u "java/lang/Math"), (0, u "max"), (0, u "(JJ)J"), (0, .fieldref 18 19), (0, .class_ 20), (0, .nameAndType 21 22), (0, u "com/example/bare_turnstile/bareturnstile/EntryMode"), (0, u "SHARED"), (0, u "Lcom/example/bare_turnstile/bareturnstile/EntryMode;"), (0, .fieldref 18 24), (0, .nameAndType 25 22), (0, u "EXCLUSIVE"), (0, .methodref 27 28), (0, .class_ 29), (0, .nameAndType 30 31), (0, u "com/example/bare_turnstile/bareturnstile/TicketEqualsPinLaw"), (0, u "num"), (0, u "(J)J"), (0, .integer 2147483647), (0, .methodref 27 34), (0, .nameAndType 35 36), (0, u "mode"), (0, u "(I)Lcom/example/bare_turnstile/bareturnstile/EntryMode;"), (0, .class_ 38), (0, u "com/example/bare_turnstile/bareturnstile/Ticket"), (0, .methodref 37 40), (0, .nameAndType 5 41), (0, u "(JILcom/example/bare_turnstile/bareturnstile/EntryMode;)V"), (0, .methodref 7 43), (0, .nameAndType 44 45), (0, u "valueOf"), (0, u "(J)Ljava/lang/Long;"), (0, .methodref 37 47), (0, .nameAndType 48 49), (0, u "equals"), (0, u "(Ljava/lang/Object;)Z"), (3, u "law"), (0, u "(JJIII)Z")] 2

def k1m0 : Method := { name := "<init>", desc := "()V", sig := { parameters := [], returnType := none }, accessFlags := 1, code := none }
def k1c1 : Code := { maxStack := 6, maxLocals := 2, code := method_2_code, exceptionTable := #[], attributes := #[] }
def k1m1 : Method := { name := "num", desc := "(J)J", sig := { parameters := [.long], returnType := some .long }, accessFlags := 10, code := some k1c1 }
def k1c2 : Code := { maxStack := 1, maxLocals := 1, code := method_3_code, exceptionTable := #[], attributes := #[] }
def k1m2 : Method := { name := "mode", desc := "(I)Lcom/example/bare_turnstile/bareturnstile/EntryMode;", sig := { parameters := [.int], returnType := some (.object "com/example/bare_turnstile/bareturnstile/EntryMode") }, accessFlags := 10, code := some k1c2 }
def k1c3 : Code := { maxStack := 6, maxLocals := 23, code := code, exceptionTable := #[], attributes := #[] }
def k1m3 : Method := { name := "law", desc := "(JJIII)Z", sig := { parameters := [.long, .long, .int, .int, .int], returnType := some .boolean }, accessFlags := 9, code := some k1c3 }
/-- com/example/bare_turnstile/bareturnstile/TicketEqualsPinLaw -/
def k1 : Class := { plain "com/example/bare_turnstile/bareturnstile/TicketEqualsPinLaw" (some 0) with
  accessFlags := 49
  interfaces := #[]
  cf := some (fileOf pool1 27 #[] #[{ accessFlags := 1, nameIndex := 5, descriptorIndex := 6, attributes := #[] }, { accessFlags := 10, nameIndex := 30, descriptorIndex := 31, attributes := #[] }, { accessFlags := 10, nameIndex := 35, descriptorIndex := 36, attributes := #[] }, { accessFlags := 9, nameIndex := 53, descriptorIndex := 54, attributes := #[] }] 49 2 #[] #[])
  fields := #[]
  methods := #[k1m0, k1m1, k1m2, k1m3]
  instanceTypes := #[]
  staticTypes := #[]
  resolved := Array.replicate 57 none
  statics := none }

def pool2 : Array CpInfo := pool [(1, .class_ 2), (0, u "java/lang/Math"), (1, .class_ 6), (1, u "java/lang/Object"), (0, u "<init>"), (0, u "()V"), (89, .class_ 100), (1, u "java/lang/Math$RandomNumberGeneratorHolder"), (20, u "(JJ)J"), (50, u "negativeZeroFloatBits"), (0, u "J"), (2, u "negativeZeroDoubleBits"), (21, u "max"), (46, u "$assertionsDisabled"), (0, u "Z"), (91, u "twoToTheDoubleScaleDown"), (0, u "D"), (4, u "twoToTheDoubleScaleUp"), (9, u "E"), (3, u "PI"), (2, u "TAU"), (2, u "DEGREES_TO_RADIANS"), (0, u "RADIANS_TO_DEGREES")] 94

def k2m0 : Method := { name := "<init>", desc := "()V", sig := { parameters := [], returnType := none }, accessFlags := 2, code := none }
def k2c1 : Code := { maxStack := 4, maxLocals := 4, code := jdk_29_method_66_code, exceptionTable := #[], attributes := #[] }
def k2m1 : Method := { name := "max", desc := "(JJ)J", sig := { parameters := [.long, .long], returnType := some .long }, accessFlags := 9, code := some k2c1 }
/-- java/lang/Math -/
def k2 : Class := { plain "java/lang/Math" (some 0) with
  accessFlags := 49
  interfaces := #[]
  cf := some (fileOf pool2 1 #[.nestMembers #[98]] #[{ accessFlags := 2, nameIndex := 7, descriptorIndex := 8, attributes := #[] }, { accessFlags := 9, nameIndex := 198, descriptorIndex := 121, attributes := #[] }] 49 4 #[] #[{ accessFlags := 25, nameIndex := 354, descriptorIndex := 339, attributes := #[] }, { accessFlags := 25, nameIndex := 358, descriptorIndex := 339, attributes := #[] }, { accessFlags := 25, nameIndex := 361, descriptorIndex := 339, attributes := #[] }, { accessFlags := 26, nameIndex := 364, descriptorIndex := 339, attributes := #[] }, { accessFlags := 26, nameIndex := 365, descriptorIndex := 339, attributes := #[] }, { accessFlags := 26, nameIndex := 172, descriptorIndex := 173, attributes := #[] }, { accessFlags := 26, nameIndex := 176, descriptorIndex := 173, attributes := #[] }, { accessFlags := 8, nameIndex := 344, descriptorIndex := 339, attributes := #[] }, { accessFlags := 8, nameIndex := 338, descriptorIndex := 339, attributes := #[] }, { accessFlags := 4120, nameIndex := 245, descriptorIndex := 246, attributes := #[] }])
  fields := #[{ name := "E", type := .double, accessFlags := 25, slot := 0, constantValue := 0 }, { name := "PI", type := .double, accessFlags := 25, slot := 1, constantValue := 0 }, { name := "TAU", type := .double, accessFlags := 25, slot := 2, constantValue := 0 }, { name := "DEGREES_TO_RADIANS", type := .double, accessFlags := 26, slot := 3, constantValue := 0 }, { name := "RADIANS_TO_DEGREES", type := .double, accessFlags := 26, slot := 4, constantValue := 0 }, { name := "negativeZeroFloatBits", type := .long, accessFlags := 26, slot := 5, constantValue := 0 }, { name := "negativeZeroDoubleBits", type := .long, accessFlags := 26, slot := 6, constantValue := 0 }, { name := "twoToTheDoubleScaleUp", type := .double, accessFlags := 8, slot := 7, constantValue := 0 }, { name := "twoToTheDoubleScaleDown", type := .double, accessFlags := 8, slot := 8, constantValue := 0 }, { name := "$assertionsDisabled", type := .boolean, accessFlags := 4120, slot := 9, constantValue := 0 }]
  methods := #[k2m0, k2m1]
  instanceTypes := #[]
  staticTypes := #[.double, .double, .double, .double, .double, .long, .long, .double, .double, .boolean]
  resolved := Array.replicate 460 none
  statics := none }

def pool3 : Array CpInfo := pool [(1, .class_ 2), (0, u "java/lang/constant/Constable"), (0, .class_ 4), (0, u "java/lang/Object")] 6

/-- java/lang/constant/Constable -/
def k3 : Class := { plain "java/lang/constant/Constable" (some 0) with
  accessFlags := 1537
  interfaces := #[]
  cf := some (fileOf pool3 1 #[] #[] 1537 3 #[] #[])
  fields := #[]
  methods := #[]
  instanceTypes := #[]
  staticTypes := #[]
  resolved := Array.replicate 11 none
  statics := none }

def pool4 : Array CpInfo := pool [(1, .class_ 2), (0, u "java/lang/Comparable"), (0, .class_ 4), (0, u "java/lang/Object")] 7

/-- java/lang/Comparable -/
def k4 : Class := { plain "java/lang/Comparable" (some 0) with
  accessFlags := 1537
  interfaces := #[]
  cf := some (fileOf pool4 1 #[] #[] 1537 3 #[] #[])
  fields := #[]
  methods := #[]
  instanceTypes := #[]
  staticTypes := #[]
  resolved := Array.replicate 12 none
  statics := none }

def pool5 : Array CpInfo := pool [(1, .class_ 2), (0, u "java/io/Serializable"), (0, .class_ 4), (0, u "java/lang/Object")] 2

/-- java/io/Serializable -/
def k5 : Class := { plain "java/io/Serializable" (some 0) with
  accessFlags := 1537
  interfaces := #[]
  cf := some (fileOf pool5 1 #[] #[] 1537 3 #[] #[])
  fields := #[]
  methods := #[]
  instanceTypes := #[]
  staticTypes := #[]
  resolved := Array.replicate 7 none
  statics := none }

def pool6 : Array CpInfo := pool [(2, .class_ 4), (1, u "java/lang/Enum"), (0, u "name"), (0, u "Ljava/lang/String;"), (2, u "ordinal"), (0, u "I"), (1, .class_ 14), (1, u "java/lang/Object"), (4, u "hash"), (86, .class_ 108), (1, u "java/lang/Enum$EnumDesc"), (2, .class_ 112), (0, u "java/lang/constant/Constable"), (0, .class_ 114), (0, u "java/lang/Comparable"), (0, .class_ 116), (0, u "java/io/Serializable")] 87

/-- java/lang/Enum -/
def k6 : Class := { plain "java/lang/Enum" (some 0) with
  accessFlags := 1057
  interfaces := #[3, 4, 5]
  cf := some (fileOf pool6 2 #[.nestMembers #[106]] #[] 1057 12 #[111, 113, 115] #[{ accessFlags := 18, nameIndex := 5, descriptorIndex := 6, attributes := #[] }, { accessFlags := 18, nameIndex := 9, descriptorIndex := 10, attributes := #[] }, { accessFlags := 2, nameIndex := 19, descriptorIndex := 10, attributes := #[] }])
  fields := #[{ name := "name", type := (.object "java/lang/String"), accessFlags := 18, slot := 0, constantValue := 0 }, { name := "ordinal", type := .int, accessFlags := 18, slot := 1, constantValue := 0 }, { name := "hash", type := .int, accessFlags := 2, slot := 2, constantValue := 0 }]
  methods := #[]
  instanceTypes := #[(.object "java/lang/String"), .int, .int]
  staticTypes := #[]
  resolved := Array.replicate 204 none
  statics := none }

def pool7 : Array CpInfo := pool [(1, .class_ 2), (0, u "com/example/bare_turnstile/bareturnstile/EntryMode"), (2, u "EXCLUSIVE"), (0, u "Lcom/example/bare_turnstile/bareturnstile/EntryMode;"), (2, u "SHARED"), (2, u "$VALUES"), (0, u "[Lcom/example/bare_turnstile/bareturnstile/EntryMode;"), (6, .class_ 22), (1, u "java/lang/Enum")] 27

/-- com/example/bare_turnstile/bareturnstile/EntryMode -/
def k7 : Class := { plain "com/example/bare_turnstile/bareturnstile/EntryMode" (some 6) with
  accessFlags := 16433
  interfaces := #[]
  cf := some (fileOf pool7 1 #[] #[] 16433 20 #[] #[{ accessFlags := 16409, nameIndex := 5, descriptorIndex := 6, attributes := #[] }, { accessFlags := 16409, nameIndex := 9, descriptorIndex := 6, attributes := #[] }, { accessFlags := 4122, nameIndex := 12, descriptorIndex := 13, attributes := #[] }])
  fields := #[{ name := "EXCLUSIVE", type := (.object "com/example/bare_turnstile/bareturnstile/EntryMode"), accessFlags := 16409, slot := 0, constantValue := 0 }, { name := "SHARED", type := (.object "com/example/bare_turnstile/bareturnstile/EntryMode"), accessFlags := 16409, slot := 1, constantValue := 0 }, { name := "$VALUES", type := (.array (.object "com/example/bare_turnstile/bareturnstile/EntryMode")), accessFlags := 4122, slot := 2, constantValue := 0 }]
  methods := #[]
  instanceTypes := #[(.object "java/lang/String"), .int, .int]
  staticTypes := #[(.object "com/example/bare_turnstile/bareturnstile/EntryMode"), (.object "com/example/bare_turnstile/bareturnstile/EntryMode"), (.array (.object "com/example/bare_turnstile/bareturnstile/EntryMode"))]
  resolved := Array.replicate 50 none
  statics := some 0 }

def pool8 : Array CpInfo := pool [(1, .methodref 2 3), (0, .class_ 4), (0, .nameAndType 5 6), (0, u "java/lang/Object"), (0, u "<init>"), (0, u "()V"), (12, .fieldref 20 21), (0, .class_ 22), (0, .nameAndType 23 24), (0, u "com/example/bare_turnstile/bareturnstile/Ticket"), (0, u "number"), (0, u "J"), (0, .fieldref 20 26), (0, .nameAndType 27 28), (0, u "participant"), (0, u "I"), (0, .string 30), (0, u "mode"), (0, .methodref 32 33), (0, .class_ 34), (0, .nameAndType 35 36), (0, u "java/util/Objects"), (0, u "requireNonNull"), (0, u "(Ljava/lang/Object;Ljava/lang/String;)Ljava/lang/Object;"), (0, .class_ 38), (0, u "com/example/bare_turnstile/bareturnstile/EntryMode"), (0, .fieldref 20 40), (0, .nameAndType 30 41), (0, u "Lcom/example/bare_turnstile/bareturnstile/EntryMode;"), (44, .class_ 87), (0, u "java/lang/Comparable"), (0, u "(JILcom/example/bare_turnstile/bareturnstile/EntryMode;)V"), (9, u "equals"), (0, u "(Ljava/lang/Object;)Z")] 25

def k8c0 : Code := { maxStack := 4, maxLocals := 5, code := prog_19_method_1_code, exceptionTable := #[], attributes := #[] }
def k8m0 : Method := { name := "<init>", desc := "(JILcom/example/bare_turnstile/bareturnstile/EntryMode;)V", sig := { parameters := [.long, .int, (.object "com/example/bare_turnstile/bareturnstile/EntryMode")], returnType := none }, accessFlags := 1, code := some k8c0 }
def k8c1 : Code := { maxStack := 4, maxLocals := 3, code := prog_19_method_8_code, exceptionTable := #[], attributes := #[] }
def k8m1 : Method := { name := "equals", desc := "(Ljava/lang/Object;)Z", sig := { parameters := [(.object "java/lang/Object")], returnType := some .boolean }, accessFlags := 1, code := some k8c1 }
/-- com/example/bare_turnstile/bareturnstile/Ticket -/
def k8 : Class := { plain "com/example/bare_turnstile/bareturnstile/Ticket" (some 0) with
  accessFlags := 33
  interfaces := #[4]
  cf := some (fileOf pool8 20 #[] #[{ accessFlags := 1, nameIndex := 5, descriptorIndex := 88, attributes := #[] }, { accessFlags := 1, nameIndex := 98, descriptorIndex := 99, attributes := #[] }] 33 2 #[86] #[{ accessFlags := 18, nameIndex := 23, descriptorIndex := 24, attributes := #[] }, { accessFlags := 18, nameIndex := 27, descriptorIndex := 28, attributes := #[] }, { accessFlags := 18, nameIndex := 30, descriptorIndex := 41, attributes := #[] }])
  fields := #[{ name := "number", type := .long, accessFlags := 18, slot := 0, constantValue := 0 }, { name := "participant", type := .int, accessFlags := 18, slot := 1, constantValue := 0 }, { name := "mode", type := (.object "com/example/bare_turnstile/bareturnstile/EntryMode"), accessFlags := 18, slot := 2, constantValue := 0 }]
  methods := #[k8m0, k8m1]
  instanceTypes := #[.long, .int, (.object "com/example/bare_turnstile/bareturnstile/EntryMode")]
  staticTypes := #[]
  resolved := Array.replicate 125 none
  statics := none }

def pool9 : Array CpInfo := pool [(2, .class_ 4), (1, u "java/lang/CharSequence"), (42, .class_ 48), (0, u "java/lang/CharSequence$1CodePointIterator"), (10, .class_ 60), (0, u "java/lang/CharSequence$1CharIterator"), (5, .class_ 67), (0, u "java/lang/Object")] 63

/-- java/lang/CharSequence -/
def k9 : Class := { plain "java/lang/CharSequence" (some 0) with
  accessFlags := 1537
  interfaces := #[]
  cf := some (fileOf pool9 2 #[.nestMembers #[47, 59]] #[] 1537 66 #[] #[])
  fields := #[]
  methods := #[]
  instanceTypes := #[]
  staticTypes := #[]
  resolved := Array.replicate 131 none
  statics := none }

def pool10 : Array CpInfo := pool [(1, .class_ 2), (0, u "java/lang/constant/ConstantDesc"), (0, .class_ 4), (0, u "java/lang/Object")] 32

/-- java/lang/constant/ConstantDesc -/
def k10 : Class := { plain "java/lang/constant/ConstantDesc" (some 0) with
  accessFlags := 1537
  interfaces := #[]
  cf := some (fileOf pool10 1 #[] #[] 1537 3 #[] #[])
  fields := #[]
  methods := #[]
  instanceTypes := #[]
  staticTypes := #[]
  resolved := Array.replicate 37 none
  statics := none }

def pool11 : Array CpInfo := pool [(2, .class_ 4), (1, u "java/lang/Object"), (0, u "<init>"), (0, u "()V"), (3, .class_ 12), (1, u "java/lang/String"), (0, u "value"), (0, u "[B"), (2, u "coder"), (0, u "B"), (2, u "hash"), (0, u "I"), (2, u "hashIsZero"), (0, u "Z"), (13, u "COMPACT_STRINGS"), (534, .class_ 576), (0, u "java/lang/CharSequence"), (22, u "CASE_INSENSITIVE_ORDER"), (0, u "Ljava/util/Comparator;"), (500, u "serialPersistentFields"), (0, u "[Ljava/io/ObjectStreamField;"), (0, .class_ 1104), (0, u "java/lang/String$CaseInsensitiveComparator"), (1, .class_ 1107), (0, u "java/io/Serializable"), (0, .class_ 1109), (0, u "java/lang/Comparable"), (0, .class_ 1111), (0, u "java/lang/constant/Constable"), (0, .class_ 1113), (0, u "java/lang/constant/ConstantDesc"), (2, u "serialVersionUID"), (0, u "J"), (3, u "REPL"), (0, u "C"), (2, u "LATIN1"), (1, u "UTF16")] 323

def k11m0 : Method := { name := "<init>", desc := "()V", sig := { parameters := [], returnType := none }, accessFlags := 1, code := none }
/-- java/lang/String -/
def k11 : Class := { plain "java/lang/String" (some 0) with
  accessFlags := 49
  interfaces := #[5, 4, 9, 3, 10]
  cf := some (fileOf pool11 10 #[.nestMembers #[1103]] #[{ accessFlags := 1, nameIndex := 5, descriptorIndex := 6, attributes := #[] }] 49 2 #[1106, 1108, 575, 1110, 1112] #[{ accessFlags := 18, nameIndex := 13, descriptorIndex := 14, attributes := #[] }, { accessFlags := 18, nameIndex := 17, descriptorIndex := 18, attributes := #[] }, { accessFlags := 2, nameIndex := 21, descriptorIndex := 22, attributes := #[] }, { accessFlags := 2, nameIndex := 25, descriptorIndex := 26, attributes := #[] }, { accessFlags := 26, nameIndex := 1116, descriptorIndex := 1117, attributes := #[] }, { accessFlags := 24, nameIndex := 40, descriptorIndex := 26, attributes := #[] }, { accessFlags := 26, nameIndex := 1101, descriptorIndex := 1102, attributes := #[] }, { accessFlags := 26, nameIndex := 1121, descriptorIndex := 1122, attributes := #[] }, { accessFlags := 25, nameIndex := 599, descriptorIndex := 600, attributes := #[] }, { accessFlags := 24, nameIndex := 1125, descriptorIndex := 18, attributes := #[] }, { accessFlags := 24, nameIndex := 1127, descriptorIndex := 18, attributes := #[] }])
  fields := #[{ name := "value", type := (.array .byte), accessFlags := 18, slot := 0, constantValue := 0 }, { name := "coder", type := .byte, accessFlags := 18, slot := 1, constantValue := 0 }, { name := "hash", type := .int, accessFlags := 2, slot := 2, constantValue := 0 }, { name := "hashIsZero", type := .boolean, accessFlags := 2, slot := 3, constantValue := 0 }, { name := "serialVersionUID", type := .long, accessFlags := 26, slot := 0, constantValue := 0 }, { name := "COMPACT_STRINGS", type := .boolean, accessFlags := 24, slot := 1, constantValue := 0 }, { name := "serialPersistentFields", type := (.array (.object "java/io/ObjectStreamField")), accessFlags := 26, slot := 2, constantValue := 0 }, { name := "REPL", type := .char, accessFlags := 26, slot := 3, constantValue := 0 }, { name := "CASE_INSENSITIVE_ORDER", type := (.object "java/util/Comparator"), accessFlags := 25, slot := 4, constantValue := 0 }, { name := "LATIN1", type := .byte, accessFlags := 24, slot := 5, constantValue := 0 }, { name := "UTF16", type := .byte, accessFlags := 24, slot := 6, constantValue := 0 }]
  methods := #[k11m0]
  instanceTypes := #[(.array .byte), .byte, .int, .boolean]
  staticTypes := #[.long, .boolean, (.array (.object "java/io/ObjectStreamField")), .char, (.object "java/util/Comparator"), .byte, .byte]
  resolved := Array.replicate 1451 none
  statics := none }

def pool12 : Array CpInfo := pool [(2, .class_ 4), (1, u "java/lang/Object"), (0, u "<init>"), (0, u "()V"), (35, .class_ 44), (1, u "java/util/Objects"), (0, u "requireNonNull"), (48, u "(Ljava/lang/Object;Ljava/lang/String;)Ljava/lang/Object;")] 89

def k12m0 : Method := { name := "<init>", desc := "()V", sig := { parameters := [], returnType := none }, accessFlags := 2, code := none }
def k12c1 : Code := { maxStack := 3, maxLocals := 2, code := jdk_31_method_11_code, exceptionTable := #[], attributes := #[] }
def k12m1 : Method := { name := "requireNonNull", desc := "(Ljava/lang/Object;Ljava/lang/String;)Ljava/lang/Object;", sig := { parameters := [(.object "java/lang/Object"), (.object "java/lang/String")], returnType := some (.object "java/lang/Object") }, accessFlags := 9, code := some k12c1 }
/-- java/util/Objects -/
def k12 : Class := { plain "java/util/Objects" (some 0) with
  accessFlags := 49
  interfaces := #[]
  cf := some (fileOf pool12 42 #[] #[{ accessFlags := 2, nameIndex := 5, descriptorIndex := 6, attributes := #[] }, { accessFlags := 9, nameIndex := 45, descriptorIndex := 94, attributes := #[] }] 49 2 #[] #[])
  fields := #[]
  methods := #[k12m0, k12m1]
  instanceTypes := #[]
  staticTypes := #[]
  resolved := Array.replicate 184 none
  statics := none }

def pool13 : Array CpInfo := pool [(1, .methodref 2 3), (0, .class_ 4), (0, .nameAndType 5 6), (0, u "java/lang/Object"), (0, u "<init>"), (0, u "()V"), (1, .class_ 10), (1, u "java/lang/Number"), (2, .class_ 14), (0, u "java/io/Serializable"), (0, u "serialVersionUID"), (0, u "J")] 20

def k13c0 : Code := { maxStack := 1, maxLocals := 1, code := jdk_18_method_1_code, exceptionTable := #[], attributes := #[] }
def k13m0 : Method := { name := "<init>", desc := "()V", sig := { parameters := [], returnType := none }, accessFlags := 1, code := some k13c0 }
/-- java/lang/Number -/
def k13 : Class := { plain "java/lang/Number" (some 0) with
  accessFlags := 1057
  interfaces := #[5]
  cf := some (fileOf pool13 8 #[] #[{ accessFlags := 1, nameIndex := 5, descriptorIndex := 6, attributes := #[] }] 1057 2 #[13] #[{ accessFlags := 26, nameIndex := 15, descriptorIndex := 16, attributes := #[] }])
  fields := #[{ name := "serialVersionUID", type := .long, accessFlags := 26, slot := 0, constantValue := 0 }]
  methods := #[k13m0]
  instanceTypes := #[]
  staticTypes := #[.long]
  resolved := Array.replicate 37 none
  statics := none }

def pool14 : Array CpInfo := pool [(1, .class_ 2), (0, u "java/lang/Long"), (55, .nameAndType 59 60), (0, u "<init>"), (0, u "()V"), (24, u "valueOf"), (143, u "(J)Ljava/lang/Long;"), (0, .long 18446744073709551488), (1, .long 127), (1, .fieldref 235 236), (0, .class_ 237), (0, .nameAndType 238 239), (0, u "java/lang/Long$LongCache"), (0, u "cache"), (0, u "[Ljava/lang/Long;"), (0, .methodref 1 241), (0, .nameAndType 59 242), (0, u "(J)V"), (27, .methodref 271 58), (0, .class_ 272), (0, u "java/lang/Number"), (0, .fieldref 1 274), (0, .nameAndType 275 276), (0, u "value"), (0, u "J"), (84, u "TYPE"), (0, u "Ljava/lang/Class;"), (0, .class_ 364), (0, u "java/lang/Comparable"), (0, .class_ 366), (0, u "java/lang/constant/Constable"), (0, .class_ 368), (0, u "java/lang/constant/ConstantDesc"), (0, u "MIN_VALUE"), (1, u "MAX_VALUE"), (4, u "SIZE"), (0, u "I"), (1, u "BYTES"), (1, u "serialVersionUID")] 142

def k14c0 : Code := { maxStack := 4, maxLocals := 3, code := jdk_35_method_24_code, exceptionTable := #[], attributes := #[] }
def k14m0 : Method := { name := "valueOf", desc := "(J)Ljava/lang/Long;", sig := { parameters := [.long], returnType := some (.object "java/lang/Long") }, accessFlags := 9, code := some k14c0 }
def k14c1 : Code := { maxStack := 3, maxLocals := 3, code := jdk_35_method_26_code, exceptionTable := #[], attributes := #[] }
def k14m1 : Method := { name := "<init>", desc := "(J)V", sig := { parameters := [.long], returnType := none }, accessFlags := 1, code := some k14c1 }
/-- java/lang/Long -/
def k14 : Class := { plain "java/lang/Long" (some 13) with
  accessFlags := 49
  interfaces := #[4, 3, 10]
  cf := some (fileOf pool14 1 #[.nestMembers #[235]] #[{ accessFlags := 9, nameIndex := 85, descriptorIndex := 229, attributes := #[] }, { accessFlags := 1, nameIndex := 59, descriptorIndex := 242, attributes := #[] }] 49 271 #[363, 365, 367] #[{ accessFlags := 25, nameIndex := 369, descriptorIndex := 276, attributes := #[] }, { accessFlags := 25, nameIndex := 371, descriptorIndex := 276, attributes := #[] }, { accessFlags := 25, nameIndex := 361, descriptorIndex := 362, attributes := #[] }, { accessFlags := 18, nameIndex := 275, descriptorIndex := 276, attributes := #[] }, { accessFlags := 25, nameIndex := 376, descriptorIndex := 377, attributes := #[] }, { accessFlags := 25, nameIndex := 379, descriptorIndex := 377, attributes := #[] }, { accessFlags := 26, nameIndex := 381, descriptorIndex := 276, attributes := #[] }])
  fields := #[{ name := "MIN_VALUE", type := .long, accessFlags := 25, slot := 0, constantValue := 0 }, { name := "MAX_VALUE", type := .long, accessFlags := 25, slot := 1, constantValue := 0 }, { name := "TYPE", type := (.object "java/lang/Class"), accessFlags := 25, slot := 2, constantValue := 0 }, { name := "value", type := .long, accessFlags := 18, slot := 0, constantValue := 0 }, { name := "SIZE", type := .int, accessFlags := 25, slot := 3, constantValue := 0 }, { name := "BYTES", type := .int, accessFlags := 25, slot := 4, constantValue := 0 }, { name := "serialVersionUID", type := .long, accessFlags := 26, slot := 5, constantValue := 0 }]
  methods := #[k14m0, k14m1]
  instanceTypes := #[.long]
  staticTypes := #[.long, .long, (.object "java/lang/Class"), .int, .int, .long]
  resolved := Array.replicate 524 none
  statics := none }

def pool15 : Array CpInfo := pool [(2, .class_ 4), (1, u "java/lang/Object"), (0, u "<init>"), (0, u "()V"), (0, .class_ 8), (0, u "java/lang/Long"), (7, .class_ 18), (1, u "java/lang/Long$LongCache"), (0, u "$assertionsDisabled"), (0, u "Z"), (8, u "archivedCache"), (0, u "[Ljava/lang/Long;"), (7, u "cache")] 24

def k15m0 : Method := { name := "<init>", desc := "()V", sig := { parameters := [], returnType := none }, accessFlags := 2, code := none }
/-- java/lang/Long$LongCache -/
def k15 : Class := { plain "java/lang/Long$LongCache" (some 0) with
  accessFlags := 48
  interfaces := #[]
  cf := some (fileOf pool15 16 #[.nestHost 7] #[{ accessFlags := 2, nameIndex := 5, descriptorIndex := 6, attributes := #[] }] 48 2 #[] #[{ accessFlags := 24, nameIndex := 38, descriptorIndex := 30, attributes := #[] }, { accessFlags := 8, nameIndex := 29, descriptorIndex := 30, attributes := #[] }, { accessFlags := 4120, nameIndex := 19, descriptorIndex := 20, attributes := #[] }])
  fields := #[{ name := "cache", type := (.array (.object "java/lang/Long")), accessFlags := 24, slot := 0, constantValue := 0 }, { name := "archivedCache", type := (.array (.object "java/lang/Long")), accessFlags := 8, slot := 1, constantValue := 0 }, { name := "$assertionsDisabled", type := .boolean, accessFlags := 4120, slot := 2, constantValue := 0 }]
  methods := #[k15m0]
  instanceTypes := #[]
  staticTypes := #[(.array (.object "java/lang/Long")), (.array (.object "java/lang/Long")), .boolean]
  resolved := Array.replicate 63 none
  statics := some 1 }

def pool16 : Array CpInfo := pool [(1, u "java/lang/Cloneable"), (0, .class_ 1), (0, u "java/lang/Object"), (0, .class_ 3)] 3

/-- java/lang/Cloneable -/
def k16 : Class := { plain "java/lang/Cloneable" (some 0) with
  accessFlags := 1537
  interfaces := #[]
  cf := some (fileOf pool16 2 #[] #[] 1537 4 #[] #[])
  fields := #[]
  methods := #[]
  instanceTypes := #[]
  staticTypes := #[]
  resolved := Array.replicate 8 none
  statics := none }

/-- the primitive byte -/
def k17 : Class := { plain "byte" none with kind := .primitive 'B', accessFlags := 0x411 }
/-- [B -/
def k18 : Class := { plain "[B" (some 0) with kind := .array 17 .byte, interfaces := #[16, 5], accessFlags := 1041 }

/-- the primitive int -/
def k19 : Class := { plain "int" none with kind := .primitive 'I', accessFlags := 0x411 }
/-- [I -/
def k20 : Class := { plain "[I" (some 0) with kind := .array 19 .int, interfaces := #[16, 5], accessFlags := 1041 }

/-- [Ljava/lang/Long; -/
def k21 : Class := { plain "[Ljava/lang/Long;" (some 0) with kind := .array 14 (.object "java/lang/Long"), interfaces := #[16, 5], accessFlags := 1041 }

def heap : Heap := #[{ cls := 7, slots := #[.ref 3, .ref 4, .null], vm := .statics 7 },
  { cls := 15, slots := #[.ref 2, .null, .int 0], vm := .statics 15 },
  { cls := 21, slots := #[.ref 5, .ref 6, .ref 7, .ref 8, .ref 9, .ref 10, .ref 11, .ref 12, .ref 13, .ref 14, .ref 15, .ref 16, .ref 17, .ref 18, .ref 19, .ref 20, .ref 21, .ref 22, .ref 23, .ref 24, .ref 25, .ref 26, .ref 27, .ref 28, .ref 29, .ref 30, .ref 31, .ref 32, .ref 33, .ref 34, .ref 35, .ref 36, .ref 37, .ref 38, .ref 39, .ref 40, .ref 41, .ref 42, .ref 43, .ref 44, .ref 45, .ref 46, .ref 47, .ref 48, .ref 49, .ref 50, .ref 51, .ref 52, .ref 53, .ref 54, .ref 55, .ref 56, .ref 57, .ref 58, .ref 59, .ref 60, .ref 61, .ref 62, .ref 63, .ref 64, .ref 65, .ref 66, .ref 67, .ref 68, .ref 69, .ref 70, .ref 71, .ref 72, .ref 73, .ref 74, .ref 75, .ref 76, .ref 77, .ref 78, .ref 79, .ref 80, .ref 81, .ref 82, .ref 83, .ref 84, .ref 85, .ref 86, .ref 87, .ref 88, .ref 89, .ref 90, .ref 91, .ref 92, .ref 93, .ref 94, .ref 95, .ref 96, .ref 97, .ref 98, .ref 99, .ref 100, .ref 101, .ref 102, .ref 103, .ref 104, .ref 105, .ref 106, .ref 107, .ref 108, .ref 109, .ref 110, .ref 111, .ref 112, .ref 113, .ref 114, .ref 115, .ref 116, .ref 117, .ref 118, .ref 119, .ref 120, .ref 121, .ref 122, .ref 123, .ref 124, .ref 125, .ref 126, .ref 127, .ref 128, .ref 129, .ref 130, .ref 131, .ref 132, .ref 133, .ref 134, .ref 135, .ref 136, .ref 137, .ref 138, .ref 139, .ref 140, .ref 141, .ref 142, .ref 143, .ref 144, .ref 145, .ref 146, .ref 147, .ref 148, .ref 149, .ref 150, .ref 151, .ref 152, .ref 153, .ref 154, .ref 155, .ref 156, .ref 157, .ref 158, .ref 159, .ref 160, .ref 161, .ref 162, .ref 163, .ref 164, .ref 165, .ref 166, .ref 167, .ref 168, .ref 169, .ref 170, .ref 171, .ref 172, .ref 173, .ref 174, .ref 175, .ref 176, .ref 177, .ref 178, .ref 179, .ref 180, .ref 181, .ref 182, .ref 183, .ref 184, .ref 185, .ref 186, .ref 187, .ref 188, .ref 189, .ref 190, .ref 191, .ref 192, .ref 193, .ref 194, .ref 195, .ref 196, .ref 197, .ref 198, .ref 199, .ref 200, .ref 201, .ref 202, .ref 203, .ref 204, .ref 205, .ref 206, .ref 207, .ref 208, .ref 209, .ref 210, .ref 211, .ref 212, .ref 213, .ref 214, .ref 215, .ref 216, .ref 217, .ref 218, .ref 219, .ref 220, .ref 221, .ref 222, .ref 223, .ref 224, .ref 225, .ref 226, .ref 227, .ref 228, .ref 229, .ref 230, .ref 231, .ref 232, .ref 233, .ref 234, .ref 235, .ref 236, .ref 237, .ref 238, .ref 239, .ref 240, .ref 241, .ref 242, .ref 243, .ref 244, .ref 245, .ref 246, .ref 247, .ref 248, .ref 249, .ref 250, .ref 251, .ref 252, .ref 253, .ref 254, .ref 255, .ref 256, .ref 257, .ref 258, .ref 259, .ref 260], vm := .none },
  { cls := 7, slots := #[.null, .int 0, .int 0], vm := .none },
  { cls := 7, slots := #[.null, .int 1, .int 0], vm := .none },
  { cls := 14, slots := #[.long (-128)], vm := .none },
  { cls := 14, slots := #[.long (-127)], vm := .none },
  { cls := 14, slots := #[.long (-126)], vm := .none },
  { cls := 14, slots := #[.long (-125)], vm := .none },
  { cls := 14, slots := #[.long (-124)], vm := .none },
  { cls := 14, slots := #[.long (-123)], vm := .none },
  { cls := 14, slots := #[.long (-122)], vm := .none },
  { cls := 14, slots := #[.long (-121)], vm := .none },
  { cls := 14, slots := #[.long (-120)], vm := .none },
  { cls := 14, slots := #[.long (-119)], vm := .none },
  { cls := 14, slots := #[.long (-118)], vm := .none },
  { cls := 14, slots := #[.long (-117)], vm := .none },
  { cls := 14, slots := #[.long (-116)], vm := .none },
  { cls := 14, slots := #[.long (-115)], vm := .none },
  { cls := 14, slots := #[.long (-114)], vm := .none },
  { cls := 14, slots := #[.long (-113)], vm := .none },
  { cls := 14, slots := #[.long (-112)], vm := .none },
  { cls := 14, slots := #[.long (-111)], vm := .none },
  { cls := 14, slots := #[.long (-110)], vm := .none },
  { cls := 14, slots := #[.long (-109)], vm := .none },
  { cls := 14, slots := #[.long (-108)], vm := .none },
  { cls := 14, slots := #[.long (-107)], vm := .none },
  { cls := 14, slots := #[.long (-106)], vm := .none },
  { cls := 14, slots := #[.long (-105)], vm := .none },
  { cls := 14, slots := #[.long (-104)], vm := .none },
  { cls := 14, slots := #[.long (-103)], vm := .none },
  { cls := 14, slots := #[.long (-102)], vm := .none },
  { cls := 14, slots := #[.long (-101)], vm := .none },
  { cls := 14, slots := #[.long (-100)], vm := .none },
  { cls := 14, slots := #[.long (-99)], vm := .none },
  { cls := 14, slots := #[.long (-98)], vm := .none },
  { cls := 14, slots := #[.long (-97)], vm := .none },
  { cls := 14, slots := #[.long (-96)], vm := .none },
  { cls := 14, slots := #[.long (-95)], vm := .none },
  { cls := 14, slots := #[.long (-94)], vm := .none },
  { cls := 14, slots := #[.long (-93)], vm := .none },
  { cls := 14, slots := #[.long (-92)], vm := .none },
  { cls := 14, slots := #[.long (-91)], vm := .none },
  { cls := 14, slots := #[.long (-90)], vm := .none },
  { cls := 14, slots := #[.long (-89)], vm := .none },
  { cls := 14, slots := #[.long (-88)], vm := .none },
  { cls := 14, slots := #[.long (-87)], vm := .none },
  { cls := 14, slots := #[.long (-86)], vm := .none },
  { cls := 14, slots := #[.long (-85)], vm := .none },
  { cls := 14, slots := #[.long (-84)], vm := .none },
  { cls := 14, slots := #[.long (-83)], vm := .none },
  { cls := 14, slots := #[.long (-82)], vm := .none },
  { cls := 14, slots := #[.long (-81)], vm := .none },
  { cls := 14, slots := #[.long (-80)], vm := .none },
  { cls := 14, slots := #[.long (-79)], vm := .none },
  { cls := 14, slots := #[.long (-78)], vm := .none },
  { cls := 14, slots := #[.long (-77)], vm := .none },
  { cls := 14, slots := #[.long (-76)], vm := .none },
  { cls := 14, slots := #[.long (-75)], vm := .none },
  { cls := 14, slots := #[.long (-74)], vm := .none },
  { cls := 14, slots := #[.long (-73)], vm := .none },
  { cls := 14, slots := #[.long (-72)], vm := .none },
  { cls := 14, slots := #[.long (-71)], vm := .none },
  { cls := 14, slots := #[.long (-70)], vm := .none },
  { cls := 14, slots := #[.long (-69)], vm := .none },
  { cls := 14, slots := #[.long (-68)], vm := .none },
  { cls := 14, slots := #[.long (-67)], vm := .none },
  { cls := 14, slots := #[.long (-66)], vm := .none },
  { cls := 14, slots := #[.long (-65)], vm := .none },
  { cls := 14, slots := #[.long (-64)], vm := .none },
  { cls := 14, slots := #[.long (-63)], vm := .none },
  { cls := 14, slots := #[.long (-62)], vm := .none },
  { cls := 14, slots := #[.long (-61)], vm := .none },
  { cls := 14, slots := #[.long (-60)], vm := .none },
  { cls := 14, slots := #[.long (-59)], vm := .none },
  { cls := 14, slots := #[.long (-58)], vm := .none },
  { cls := 14, slots := #[.long (-57)], vm := .none },
  { cls := 14, slots := #[.long (-56)], vm := .none },
  { cls := 14, slots := #[.long (-55)], vm := .none },
  { cls := 14, slots := #[.long (-54)], vm := .none },
  { cls := 14, slots := #[.long (-53)], vm := .none },
  { cls := 14, slots := #[.long (-52)], vm := .none },
  { cls := 14, slots := #[.long (-51)], vm := .none },
  { cls := 14, slots := #[.long (-50)], vm := .none },
  { cls := 14, slots := #[.long (-49)], vm := .none },
  { cls := 14, slots := #[.long (-48)], vm := .none },
  { cls := 14, slots := #[.long (-47)], vm := .none },
  { cls := 14, slots := #[.long (-46)], vm := .none },
  { cls := 14, slots := #[.long (-45)], vm := .none },
  { cls := 14, slots := #[.long (-44)], vm := .none },
  { cls := 14, slots := #[.long (-43)], vm := .none },
  { cls := 14, slots := #[.long (-42)], vm := .none },
  { cls := 14, slots := #[.long (-41)], vm := .none },
  { cls := 14, slots := #[.long (-40)], vm := .none },
  { cls := 14, slots := #[.long (-39)], vm := .none },
  { cls := 14, slots := #[.long (-38)], vm := .none },
  { cls := 14, slots := #[.long (-37)], vm := .none },
  { cls := 14, slots := #[.long (-36)], vm := .none },
  { cls := 14, slots := #[.long (-35)], vm := .none },
  { cls := 14, slots := #[.long (-34)], vm := .none },
  { cls := 14, slots := #[.long (-33)], vm := .none },
  { cls := 14, slots := #[.long (-32)], vm := .none },
  { cls := 14, slots := #[.long (-31)], vm := .none },
  { cls := 14, slots := #[.long (-30)], vm := .none },
  { cls := 14, slots := #[.long (-29)], vm := .none },
  { cls := 14, slots := #[.long (-28)], vm := .none },
  { cls := 14, slots := #[.long (-27)], vm := .none },
  { cls := 14, slots := #[.long (-26)], vm := .none },
  { cls := 14, slots := #[.long (-25)], vm := .none },
  { cls := 14, slots := #[.long (-24)], vm := .none },
  { cls := 14, slots := #[.long (-23)], vm := .none },
  { cls := 14, slots := #[.long (-22)], vm := .none },
  { cls := 14, slots := #[.long (-21)], vm := .none },
  { cls := 14, slots := #[.long (-20)], vm := .none },
  { cls := 14, slots := #[.long (-19)], vm := .none },
  { cls := 14, slots := #[.long (-18)], vm := .none },
  { cls := 14, slots := #[.long (-17)], vm := .none },
  { cls := 14, slots := #[.long (-16)], vm := .none },
  { cls := 14, slots := #[.long (-15)], vm := .none },
  { cls := 14, slots := #[.long (-14)], vm := .none },
  { cls := 14, slots := #[.long (-13)], vm := .none },
  { cls := 14, slots := #[.long (-12)], vm := .none },
  { cls := 14, slots := #[.long (-11)], vm := .none },
  { cls := 14, slots := #[.long (-10)], vm := .none },
  { cls := 14, slots := #[.long (-9)], vm := .none },
  { cls := 14, slots := #[.long (-8)], vm := .none },
  { cls := 14, slots := #[.long (-7)], vm := .none },
  { cls := 14, slots := #[.long (-6)], vm := .none },
  { cls := 14, slots := #[.long (-5)], vm := .none },
  { cls := 14, slots := #[.long (-4)], vm := .none },
  { cls := 14, slots := #[.long (-3)], vm := .none },
  { cls := 14, slots := #[.long (-2)], vm := .none },
  { cls := 14, slots := #[.long (-1)], vm := .none },
  { cls := 14, slots := #[.long 0], vm := .none },
  { cls := 14, slots := #[.long 1], vm := .none },
  { cls := 14, slots := #[.long 2], vm := .none },
  { cls := 14, slots := #[.long 3], vm := .none },
  { cls := 14, slots := #[.long 4], vm := .none },
  { cls := 14, slots := #[.long 5], vm := .none },
  { cls := 14, slots := #[.long 6], vm := .none },
  { cls := 14, slots := #[.long 7], vm := .none },
  { cls := 14, slots := #[.long 8], vm := .none },
  { cls := 14, slots := #[.long 9], vm := .none },
  { cls := 14, slots := #[.long 10], vm := .none },
  { cls := 14, slots := #[.long 11], vm := .none },
  { cls := 14, slots := #[.long 12], vm := .none },
  { cls := 14, slots := #[.long 13], vm := .none },
  { cls := 14, slots := #[.long 14], vm := .none },
  { cls := 14, slots := #[.long 15], vm := .none },
  { cls := 14, slots := #[.long 16], vm := .none },
  { cls := 14, slots := #[.long 17], vm := .none },
  { cls := 14, slots := #[.long 18], vm := .none },
  { cls := 14, slots := #[.long 19], vm := .none },
  { cls := 14, slots := #[.long 20], vm := .none },
  { cls := 14, slots := #[.long 21], vm := .none },
  { cls := 14, slots := #[.long 22], vm := .none },
  { cls := 14, slots := #[.long 23], vm := .none },
  { cls := 14, slots := #[.long 24], vm := .none },
  { cls := 14, slots := #[.long 25], vm := .none },
  { cls := 14, slots := #[.long 26], vm := .none },
  { cls := 14, slots := #[.long 27], vm := .none },
  { cls := 14, slots := #[.long 28], vm := .none },
  { cls := 14, slots := #[.long 29], vm := .none },
  { cls := 14, slots := #[.long 30], vm := .none },
  { cls := 14, slots := #[.long 31], vm := .none },
  { cls := 14, slots := #[.long 32], vm := .none },
  { cls := 14, slots := #[.long 33], vm := .none },
  { cls := 14, slots := #[.long 34], vm := .none },
  { cls := 14, slots := #[.long 35], vm := .none },
  { cls := 14, slots := #[.long 36], vm := .none },
  { cls := 14, slots := #[.long 37], vm := .none },
  { cls := 14, slots := #[.long 38], vm := .none },
  { cls := 14, slots := #[.long 39], vm := .none },
  { cls := 14, slots := #[.long 40], vm := .none },
  { cls := 14, slots := #[.long 41], vm := .none },
  { cls := 14, slots := #[.long 42], vm := .none },
  { cls := 14, slots := #[.long 43], vm := .none },
  { cls := 14, slots := #[.long 44], vm := .none },
  { cls := 14, slots := #[.long 45], vm := .none },
  { cls := 14, slots := #[.long 46], vm := .none },
  { cls := 14, slots := #[.long 47], vm := .none },
  { cls := 14, slots := #[.long 48], vm := .none },
  { cls := 14, slots := #[.long 49], vm := .none },
  { cls := 14, slots := #[.long 50], vm := .none },
  { cls := 14, slots := #[.long 51], vm := .none },
  { cls := 14, slots := #[.long 52], vm := .none },
  { cls := 14, slots := #[.long 53], vm := .none },
  { cls := 14, slots := #[.long 54], vm := .none },
  { cls := 14, slots := #[.long 55], vm := .none },
  { cls := 14, slots := #[.long 56], vm := .none },
  { cls := 14, slots := #[.long 57], vm := .none },
  { cls := 14, slots := #[.long 58], vm := .none },
  { cls := 14, slots := #[.long 59], vm := .none },
  { cls := 14, slots := #[.long 60], vm := .none },
  { cls := 14, slots := #[.long 61], vm := .none },
  { cls := 14, slots := #[.long 62], vm := .none },
  { cls := 14, slots := #[.long 63], vm := .none },
  { cls := 14, slots := #[.long 64], vm := .none },
  { cls := 14, slots := #[.long 65], vm := .none },
  { cls := 14, slots := #[.long 66], vm := .none },
  { cls := 14, slots := #[.long 67], vm := .none },
  { cls := 14, slots := #[.long 68], vm := .none },
  { cls := 14, slots := #[.long 69], vm := .none },
  { cls := 14, slots := #[.long 70], vm := .none },
  { cls := 14, slots := #[.long 71], vm := .none },
  { cls := 14, slots := #[.long 72], vm := .none },
  { cls := 14, slots := #[.long 73], vm := .none },
  { cls := 14, slots := #[.long 74], vm := .none },
  { cls := 14, slots := #[.long 75], vm := .none },
  { cls := 14, slots := #[.long 76], vm := .none },
  { cls := 14, slots := #[.long 77], vm := .none },
  { cls := 14, slots := #[.long 78], vm := .none },
  { cls := 14, slots := #[.long 79], vm := .none },
  { cls := 14, slots := #[.long 80], vm := .none },
  { cls := 14, slots := #[.long 81], vm := .none },
  { cls := 14, slots := #[.long 82], vm := .none },
  { cls := 14, slots := #[.long 83], vm := .none },
  { cls := 14, slots := #[.long 84], vm := .none },
  { cls := 14, slots := #[.long 85], vm := .none },
  { cls := 14, slots := #[.long 86], vm := .none },
  { cls := 14, slots := #[.long 87], vm := .none },
  { cls := 14, slots := #[.long 88], vm := .none },
  { cls := 14, slots := #[.long 89], vm := .none },
  { cls := 14, slots := #[.long 90], vm := .none },
  { cls := 14, slots := #[.long 91], vm := .none },
  { cls := 14, slots := #[.long 92], vm := .none },
  { cls := 14, slots := #[.long 93], vm := .none },
  { cls := 14, slots := #[.long 94], vm := .none },
  { cls := 14, slots := #[.long 95], vm := .none },
  { cls := 14, slots := #[.long 96], vm := .none },
  { cls := 14, slots := #[.long 97], vm := .none },
  { cls := 14, slots := #[.long 98], vm := .none },
  { cls := 14, slots := #[.long 99], vm := .none },
  { cls := 14, slots := #[.long 100], vm := .none },
  { cls := 14, slots := #[.long 101], vm := .none },
  { cls := 14, slots := #[.long 102], vm := .none },
  { cls := 14, slots := #[.long 103], vm := .none },
  { cls := 14, slots := #[.long 104], vm := .none },
  { cls := 14, slots := #[.long 105], vm := .none },
  { cls := 14, slots := #[.long 106], vm := .none },
  { cls := 14, slots := #[.long 107], vm := .none },
  { cls := 14, slots := #[.long 108], vm := .none },
  { cls := 14, slots := #[.long 109], vm := .none },
  { cls := 14, slots := #[.long 110], vm := .none },
  { cls := 14, slots := #[.long 111], vm := .none },
  { cls := 14, slots := #[.long 112], vm := .none },
  { cls := 14, slots := #[.long 113], vm := .none },
  { cls := 14, slots := #[.long 114], vm := .none },
  { cls := 14, slots := #[.long 115], vm := .none },
  { cls := 14, slots := #[.long 116], vm := .none },
  { cls := 14, slots := #[.long 117], vm := .none },
  { cls := 14, slots := #[.long 118], vm := .none },
  { cls := 14, slots := #[.long 119], vm := .none },
  { cls := 14, slots := #[.long 120], vm := .none },
  { cls := 14, slots := #[.long 121], vm := .none },
  { cls := 14, slots := #[.long 122], vm := .none },
  { cls := 14, slots := #[.long 123], vm := .none },
  { cls := 14, slots := #[.long 124], vm := .none },
  { cls := 14, slots := #[.long 125], vm := .none },
  { cls := 14, slots := #[.long 126], vm := .none },
  { cls := 14, slots := #[.long 127], vm := .none }]
def classes : Array Class := #[k0, k1, k2, k3, k4, k5, k6, k7, k8, k9, k10, k11, k12, k13, k14, k15, k16, k17, k18, k19, k20, k21]
def interned : List (Array UInt16 × Addr) := []
def slotsUsed : Nat := 524
def theMethod : MethodId := ⟨1, 3⟩
def args0 : Array Value := #[.long 5, .long 5, .int 5, .int 5, .int 5]
def aboutOver (below : List Frame) : State where
  vm := { classes := classes, interned := interned.toArray }
  heap := heap
  slotsUsed := slotsUsed
  threads := #[{ frames := .invoking theMethod args0 :: below }]
def below0 : List Frame := [.native { method := ⟨0, 0⟩, args := #[] }]
def about1 : State := aboutOver below0
def p0 : Program := .bare "" "" ""
def e0 : Env := launch0.env 0 0 0
theorem w_frames : about1.frames = Frame.invoking theMethod args0 :: below0 := rfl
set_option maxRecDepth 65536 in
theorem w_args : argsFit about1.vm theMethod args0 = true := by decide +kernel
set_option maxRecDepth 65536 in
theorem w_heap : heapFits about1 = true := by decide +kernel
set_option maxRecDepth 65536 in
theorem w_runnable : about1.curStatus? = some .runnable := by decide +kernel
set_option maxRecDepth 65536 in
theorem w_alone : about1.alone = true := by decide +kernel
set_option maxRecDepth 65536 in
theorem w_named : about1.methodNamed? x = some theMethod := by decide +kernel
set_option maxRecDepth 65536 in
theorem w_hears : about1.hears theMethod below0 = true := by decide +kernel
set_option maxRecDepth 65536 in
theorem w_ripe : about1.ripe theMethod args0 below0 = true := by decide +kernel
theorem w_running : about1.status = .running := rfl
set_option maxRecDepth 65536 in
theorem w_room : about1.hasRoom e0.platform room_1 = true :=
  launch0.hasRoom_least _ room_1 (by decide +kernel) (by decide +kernel) (by decide +kernel) (by decide +kernel) (by decide +kernel) (by decide +kernel)
theorem allAtoms_all (ts : List Jvm.Cond) (a : Array Jvm.Value) (st : Jvm.State) : (allAtoms ts).before a st = ts.all (fun c => c.before a st) := by
  induction ts with
  | nil => rfl
  | cons c t ih =>
    show (Jvm.Cond.and c (allAtoms t)).before a st = _
    rw [Jvm.Cond.before_and, ih, List.all_cons]
def words1 : List Jvm.Cond := Jvm.Cond.code x code maxLocals ret :: tables_1
/-- a 'code' word, met by the world's own term for the bytes: nothing is compared byte by byte -/
theorem code_word {y : MethodName} {bytes : ByteArray} {mx : Nat} {rt : Option FieldType} {a : Array Value} {s : State} {m : MethodId} {meth : Method} {c : Code} (h1 : s.methodNamed? y = some m) (h2 : s.vm.method? m = some meth) (h3 : meth.code = some c) (h4 : c.code = bytes)
    (h5 : (c.maxLocals == mx && c.exceptionTable.isEmpty && decide (c.maxStack ≤ mostOperands) && decide (meth.sig.returnType = rt) && !meth.locks && decide (parseMethodDescriptor y.desc = some meth.sig)) = true) : (Jvm.Cond.code y bytes mx rt).before a s = true := by
  simp only [Bool.and_eq_true, beq_iff_eq, Bool.not_eq_true', decide_eq_true_eq] at h5
  obtain ⟨⟨⟨⟨⟨g1, g2⟩, g3⟩, g4⟩, g5⟩, g6⟩ := h5
  simp [Cond.before, Cond.holds, Cond.value, h1, h2, h3, h4, g1, g2, g3, g4, g5, g6]
def isCode : Jvm.Cond → Bool
  | .code _ _ _ _ => true
  | _ => false
theorem all_split {L : List Jvm.Cond} {P : Jvm.Cond → Bool} (h1 : L.all (fun c => isCode c || P c) = true) (h2 : ∀ c ∈ L.filter isCode, P c = true) : L.all P = true := by
  refine List.all_eq_true.mpr fun c hc => ?_
  have h := List.all_eq_true.mp h1 c hc
  rcases Bool.eq_false_or_eq_true (isCode c) with hi | hi
  · exact h2 c (List.mem_filter.mpr ⟨hc, hi⟩)
  · simpa [hi] using h
set_option maxRecDepth 65536 in
theorem w_c0 : (Jvm.Cond.code x code maxLocals ret).before args0 about1 = true := code_word (m := ⟨1, 3⟩) (meth := k1m3) (c := k1c3) (by decide +kernel) rfl rfl rfl (by decide +kernel)
set_option maxRecDepth 65536 in
theorem w_c1 : (Jvm.Cond.code ({ cls := "com/example/bare_turnstile/bareturnstile/TicketEqualsPinLaw", name := "num", desc := "(J)J" } : Jvm.MethodName) method_2_code (2 : Nat) (Option.some Jvm.ClassFile.FieldType.long)).before args0 about1 = true := code_word (m := ⟨1, 1⟩) (meth := k1m1) (c := k1c1) (by decide +kernel) rfl rfl rfl (by decide +kernel)
set_option maxRecDepth 65536 in
theorem w_c2 : (Jvm.Cond.code ({ cls := "java/lang/Math", name := "max", desc := "(JJ)J" } : Jvm.MethodName) jdk_29_method_66_code (4 : Nat) (Option.some Jvm.ClassFile.FieldType.long)).before args0 about1 = true := code_word (m := ⟨2, 1⟩) (meth := k2m1) (c := k2c1) (by decide +kernel) rfl rfl rfl (by decide +kernel)
set_option maxRecDepth 65536 in
theorem w_c3 : (Jvm.Cond.code ({ cls := "com/example/bare_turnstile/bareturnstile/TicketEqualsPinLaw", name := "mode", desc := "(I)Lcom/example/bare_turnstile/bareturnstile/EntryMode;" } : Jvm.MethodName) method_3_code (1 : Nat) (Option.some (Jvm.ClassFile.FieldType.object "com/example/bare_turnstile/bareturnstile/EntryMode"))).before args0 about1 = true := code_word (m := ⟨1, 2⟩) (meth := k1m2) (c := k1c2) (by decide +kernel) rfl rfl rfl (by decide +kernel)
set_option maxRecDepth 65536 in
theorem w_c4 : (Jvm.Cond.code ({ cls := "com/example/bare_turnstile/bareturnstile/Ticket", name := "<init>", desc := "(JILcom/example/bare_turnstile/bareturnstile/EntryMode;)V" } : Jvm.MethodName) prog_19_method_1_code (5 : Nat) (Option.none : Option Jvm.ClassFile.FieldType)).before args0 about1 = true := code_word (m := ⟨8, 0⟩) (meth := k8m0) (c := k8c0) (by decide +kernel) rfl rfl rfl (by decide +kernel)
set_option maxRecDepth 65536 in
theorem w_c5 : (Jvm.Cond.code ({ cls := "java/lang/Object", name := "<init>", desc := "()V" } : Jvm.MethodName) object_method_1_code (1 : Nat) (Option.none : Option Jvm.ClassFile.FieldType)).before args0 about1 = true := code_word (m := ⟨0, 0⟩) (meth := k0m0) (c := k0c0) (by decide +kernel) rfl rfl rfl (by decide +kernel)
set_option maxRecDepth 65536 in
theorem w_c6 : (Jvm.Cond.code ({ cls := "java/util/Objects", name := "requireNonNull", desc := "(Ljava/lang/Object;Ljava/lang/String;)Ljava/lang/Object;" } : Jvm.MethodName) jdk_31_method_11_code (2 : Nat) (Option.some (Jvm.ClassFile.FieldType.object "java/lang/Object"))).before args0 about1 = true := code_word (m := ⟨12, 1⟩) (meth := k12m1) (c := k12c1) (by decide +kernel) rfl rfl rfl (by decide +kernel)
set_option maxRecDepth 65536 in
theorem w_c7 : (Jvm.Cond.code ({ cls := "com/example/bare_turnstile/bareturnstile/Ticket", name := "equals", desc := "(Ljava/lang/Object;)Z" } : Jvm.MethodName) prog_19_method_8_code (3 : Nat) (Option.some Jvm.ClassFile.FieldType.boolean)).before args0 about1 = true := code_word (m := ⟨8, 1⟩) (meth := k8m1) (c := k8c1) (by decide +kernel) rfl rfl rfl (by decide +kernel)
set_option maxRecDepth 65536 in
theorem w_c8 : (Jvm.Cond.code ({ cls := "java/lang/Long", name := "valueOf", desc := "(J)Ljava/lang/Long;" } : Jvm.MethodName) jdk_35_method_24_code (3 : Nat) (Option.some (Jvm.ClassFile.FieldType.object "java/lang/Long"))).before args0 about1 = true := code_word (m := ⟨14, 0⟩) (meth := k14m0) (c := k14c0) (by decide +kernel) rfl rfl rfl (by decide +kernel)
set_option maxRecDepth 65536 in
theorem w_c9 : (Jvm.Cond.code ({ cls := "java/lang/Long", name := "<init>", desc := "(J)V" } : Jvm.MethodName) jdk_35_method_26_code (3 : Nat) (Option.none : Option Jvm.ClassFile.FieldType)).before args0 about1 = true := code_word (m := ⟨14, 1⟩) (meth := k14m1) (c := k14c1) (by decide +kernel) rfl rfl rfl (by decide +kernel)
set_option maxRecDepth 65536 in
theorem w_c10 : (Jvm.Cond.code ({ cls := "java/lang/Number", name := "<init>", desc := "()V" } : Jvm.MethodName) jdk_18_method_1_code (1 : Nat) (Option.none : Option Jvm.ClassFile.FieldType)).before args0 about1 = true := code_word (m := ⟨13, 0⟩) (meth := k13m0) (c := k13c0) (by decide +kernel) rfl rfl rfl (by decide +kernel)
def codes1 : List Jvm.Cond := [Jvm.Cond.code x code maxLocals ret, Jvm.Cond.code ({ cls := "com/example/bare_turnstile/bareturnstile/TicketEqualsPinLaw", name := "num", desc := "(J)J" } : Jvm.MethodName) method_2_code (2 : Nat) (Option.some Jvm.ClassFile.FieldType.long), Jvm.Cond.code ({ cls := "java/lang/Math", name := "max", desc := "(JJ)J" } : Jvm.MethodName) jdk_29_method_66_code (4 : Nat) (Option.some Jvm.ClassFile.FieldType.long), Jvm.Cond.code ({ cls := "com/example/bare_turnstile/bareturnstile/TicketEqualsPinLaw", name := "mode", desc := "(I)Lcom/example/bare_turnstile/bareturnstile/EntryMode;" } : Jvm.MethodName) method_3_code (1 : Nat) (Option.some (Jvm.ClassFile.FieldType.object "com/example/bare_turnstile/bareturnstile/EntryMode")), Jvm.Cond.code ({ cls := "com/example/bare_turnstile/bareturnstile/Ticket", name := "<init>", desc := "(JILcom/example/bare_turnstile/bareturnstile/EntryMode;)V" } : Jvm.MethodName) prog_19_method_1_code (5 : Nat) (Option.none : Option Jvm.ClassFile.FieldType), Jvm.Cond.code ({ cls := "java/lang/Object", name := "<init>", desc := "()V" } : Jvm.MethodName) object_method_1_code (1 : Nat) (Option.none : Option Jvm.ClassFile.FieldType), Jvm.Cond.code ({ cls := "java/util/Objects", name := "requireNonNull", desc := "(Ljava/lang/Object;Ljava/lang/String;)Ljava/lang/Object;" } : Jvm.MethodName) jdk_31_method_11_code (2 : Nat) (Option.some (Jvm.ClassFile.FieldType.object "java/lang/Object")), Jvm.Cond.code ({ cls := "com/example/bare_turnstile/bareturnstile/Ticket", name := "equals", desc := "(Ljava/lang/Object;)Z" } : Jvm.MethodName) prog_19_method_8_code (3 : Nat) (Option.some Jvm.ClassFile.FieldType.boolean), Jvm.Cond.code ({ cls := "java/lang/Long", name := "valueOf", desc := "(J)Ljava/lang/Long;" } : Jvm.MethodName) jdk_35_method_24_code (3 : Nat) (Option.some (Jvm.ClassFile.FieldType.object "java/lang/Long")), Jvm.Cond.code ({ cls := "java/lang/Long", name := "<init>", desc := "(J)V" } : Jvm.MethodName) jdk_35_method_26_code (3 : Nat) (Option.none : Option Jvm.ClassFile.FieldType), Jvm.Cond.code ({ cls := "java/lang/Number", name := "<init>", desc := "()V" } : Jvm.MethodName) jdk_18_method_1_code (1 : Nat) (Option.none : Option Jvm.ClassFile.FieldType)]
set_option maxRecDepth 65536 in
theorem codes_eq : words1.filter isCode = codes1 := rfl
theorem w_codes : ∀ c ∈ words1.filter isCode, c.before args0 about1 = true := by
  rw [codes_eq]
  intro c hc
  simp only [codes1, List.mem_cons, List.not_mem_nil, or_false] at hc
  rcases hc with rfl | rfl | rfl | rfl | rfl | rfl | rfl | rfl | rfl | rfl | rfl
  · exact w_c0
  · exact w_c1
  · exact w_c2
  · exact w_c3
  · exact w_c4
  · exact w_c5
  · exact w_c6
  · exact w_c7
  · exact w_c8
  · exact w_c9
  · exact w_c10
set_option maxRecDepth 65536 in
theorem w_t1 : (words1.take 24).all (fun c => isCode c || c.before args0 about1) = true := by decide +kernel
set_option maxRecDepth 65536 in
theorem w_t2 : ((words1.drop 24).take 24).all (fun c => isCode c || c.before args0 about1) = true := by decide +kernel
set_option maxRecDepth 65536 in
theorem w_t3 : (((words1.drop 24).drop 24).take 24).all (fun c => isCode c || c.before args0 about1) = true := by decide +kernel
set_option maxRecDepth 65536 in
theorem w_t4 : (((words1.drop 24).drop 24).drop 24).all (fun c => isCode c || c.before args0 about1) = true := by decide +kernel
theorem w_tables : (allAtoms (Jvm.Cond.code x code maxLocals ret :: tables_1)).before args0 about1 = true := by
  rw [allAtoms_all]
  show words1.all (fun c => c.before args0 about1) = true
  refine all_split ?_ w_codes
  rw [← List.take_append_drop 24 words1, List.all_append, w_t1, ← List.take_append_drop 24 (words1.drop 24), List.all_append, w_t2, ← List.take_append_drop 24 ((words1.drop 24).drop 24), List.all_append, w_t3, w_t4]
  rfl
set_option maxRecDepth 65536 in
theorem w_rest : rest_1_c.before args0 about1 = true := by decide +kernel
set_option maxRecDepth 65536 in
theorem w_case : (Jvm.Cond.and given_1 narrow_1).before args0 about1 = true := by decide +kernel
theorem w_applies : (headSpec (Jvm.Cond.code x code maxLocals ret :: tables_1) room_1).applies x e0.platform about1 = true :=
  (Spec.applies_iff w_frames).mpr ⟨w_running, w_runnable, w_alone, w_named, w_hears, w_ripe, w_room, w_tables⟩
theorem atStart : AtStart classFile x code maxLocals ret World_1 tables_1 room_1 Calls_1 rest_1 Pre_1 launch0 p0 e0 about1 theMethod args0 below0 :=
  ⟨lists_1, trivial, launch0.admits_env _ _ _, launch0.least_env, fairChoices_fair.cas, fairChoices_fair.clock, w_frames, w_args, w_heap, w_applies, trivial, w_rest, w_case⟩
end start1
theorem witness_1 : WitnessClaimed_1 := ⟨start1.p0, start1.e0, start1.about1, start1.theMethod, start1.args0, start1.below0, start1.atStart⟩
end Jvm.Pilot.@@N@@
