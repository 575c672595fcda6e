import JvmDerived
import JvmDerived.Pilot.@@N@@Statement
import JvmDerived.Pilot.@@N@@Code
set_option linter.unusedVariables false
set_option linter.unusedSimpArgs false
@@BLOCK:NumsL.lean.txt@@
namespace Jvm.Pilot.@@N@@
open Jvm Jvm.ClassFile Sem Op Lib Jvm.Free Jvm.Stand Jvm.LawKit Jvm.RoadKit Bundle Jvm.Pilot.@@N@@.Jvm.D
abbrev oI (x : Int32) : Slot := .val (.int x)
abbrev oJ (x : Int64) : Slot := .val (.long x)
abbrev oA (x : Addr) : Slot := .val (.ref x)
abbrev oN : Slot := .val .null
abbrev oU : Slot := .unset
abbrev oS : Slot := .second
theorem own_w {Z : State} {a0 : Array Value} (hw : ∀ d ∈ tables_1, d.before a0 Z = true) (i : Nat) {d : Jvm.Cond} (h : tables_1[i]? = some d) : d.before a0 Z = true := hw d (List.mem_of_getElem? h)
section Own
variable {p : Program} {l : Launch} {e : Env} {R : Room} {s : State} {m : MethodId} {args : Array Value} {below : List Frame} {meth : Method} {c : Code} {T : State} {locs : List Loc} {cells slots : Nat} {P : State → Outcome → Prop} {pc : Nat} {ls : Array Slot} {st : List Value} {Z : State} {a0 : Array Value} {h : Heap} {bytes : ByteArray}
/-- the run goes on from A and ends so that P holds -/
def Go (p : Program) (e : Env) (below : List Frame) (P : State → Outcome → Prop) (A : State) : Prop := ∃ s₂ o, Steps p.tables e below A s₂ ∧ P s₂ o
theorem own_go {A A' : State} (h : ∀ t, Steps p.tables e below A' t → Steps p.tables e below A t) (k : Go p e below P A') : Go p e below P A := by
  obtain ⟨s₂, o, h1, h2⟩ := k
  exact ⟨s₂, o, h _ h1, h2⟩
/-! loads, stores, constants -/
theorem own_iload_n (pc' : Nat) (X : Stand p l e R s m args below meth c T locs cells slots) (hx : p.tables.exec = Jvm.exec) (hby : c.code = bytes) {k : Fin 4} {v : Int32} (hd : decode bytes pc = .ok (.iload_n k, 1)) (hp : pc + 1 = pc') (hl : ls[k.val]? = some (.val (.int v))) (r : Go p e below P (T.setTop (mkF m pc' ls (.int v :: st)))) : Go p e below P (T.setTop (mkF m pc ls st)) := by
  subst hp; exact own_go (fun t q => XS.iloadN X.here hx rfl (hb hby hd) hl q) r
theorem own_iload (pc' : Nat) (X : Stand p l e R s m args below meth c T locs cells slots) (hx : p.tables.exec = Jvm.exec) (hby : c.code = bytes) {k : Nat} {v : Int32} (hd : decode bytes pc = .ok (.iload k, 2)) (hp : pc + 2 = pc') (hl : ls[k]? = some (.val (.int v))) (r : Go p e below P (T.setTop (mkF m pc' ls (.int v :: st)))) : Go p e below P (T.setTop (mkF m pc ls st)) := by
  subst hp; exact own_go (fun t q => XS.iload X.here hx rfl (hb hby hd) hl q) r
theorem own_lload_n (pc' : Nat) (X : Stand p l e R s m args below meth c T locs cells slots) (hx : p.tables.exec = Jvm.exec) (hby : c.code = bytes) {k : Fin 4} {v : Int64} (hd : decode bytes pc = .ok (.lload_n k, 1)) (hp : pc + 1 = pc') (hl : ls[k.val]? = some (.val (.long v))) (r : Go p e below P (T.setTop (mkF m pc' ls (.long v :: st)))) : Go p e below P (T.setTop (mkF m pc ls st)) := by
  subst hp; exact own_go (fun t q => XT.lloadN X.here hx rfl (hb hby hd) hl q) r
theorem own_lload (pc' : Nat) (X : Stand p l e R s m args below meth c T locs cells slots) (hx : p.tables.exec = Jvm.exec) (hby : c.code = bytes) {k : Nat} {v : Int64} (hd : decode bytes pc = .ok (.lload k, 2)) (hp : pc + 2 = pc') (hl : ls[k]? = some (.val (.long v))) (r : Go p e below P (T.setTop (mkF m pc' ls (.long v :: st)))) : Go p e below P (T.setTop (mkF m pc ls st)) := by
  subst hp; exact own_go (fun t q => XT.lload X.here hx rfl (hb hby hd) hl q) r
theorem own_aload_n (pc' : Nat) (X : Stand p l e R s m args below meth c T locs cells slots) (hx : p.tables.exec = Jvm.exec) (hby : c.code = bytes) {k : Fin 4} {v : Value} (hd : decode bytes pc = .ok (.aload_n k, 1)) (hp : pc + 1 = pc') (hl : ls[k.val]? = some (.val v)) (hv : v.isRef = true) (r : Go p e below P (T.setTop (mkF m pc' ls (v :: st)))) : Go p e below P (T.setTop (mkF m pc ls st)) := by
  subst hp; exact own_go (fun t q => XS.aloadN X.here hx rfl (hb hby hd) hl hv q) r
theorem own_aload (pc' : Nat) (X : Stand p l e R s m args below meth c T locs cells slots) (hx : p.tables.exec = Jvm.exec) (hby : c.code = bytes) {k : Nat} {v : Value} (hd : decode bytes pc = .ok (.aload k, 2)) (hp : pc + 2 = pc') (hl : ls[k]? = some (.val v)) (hv : v.isRef = true) (r : Go p e below P (T.setTop (mkF m pc' ls (v :: st)))) : Go p e below P (T.setTop (mkF m pc ls st)) := by
  subst hp; exact own_go (fun t q => XS.aload X.here hx rfl (hb hby hd) hl hv q) r
theorem own_istore_n (pc' : Nat) (l' : Array Slot) (X : Stand p l e R s m args below meth c T locs cells slots) (hx : p.tables.exec = Jvm.exec) (hby : c.code = bytes) {k : Fin 4} {v : Int32} (hd : decode bytes pc = .ok (.istore_n k, 1)) (hp : pc + 1 = pc') (hl : storeLocals ls k.val (.int v) = some l') (r : Go p e below P (T.setTop (mkF m pc' l' st))) : Go p e below P (T.setTop (mkF m pc ls (.int v :: st))) := by
  subst hp; exact own_go (fun t q => XS.istoreN X.here hx rfl (hb hby hd) rfl hl q) r
theorem own_istore (pc' : Nat) (l' : Array Slot) (X : Stand p l e R s m args below meth c T locs cells slots) (hx : p.tables.exec = Jvm.exec) (hby : c.code = bytes) {k : Nat} {v : Int32} (hd : decode bytes pc = .ok (.istore k, 2)) (hp : pc + 2 = pc') (hl : storeLocals ls k (.int v) = some l') (r : Go p e below P (T.setTop (mkF m pc' l' st))) : Go p e below P (T.setTop (mkF m pc ls (.int v :: st))) := by
  subst hp; exact own_go (fun t q => XS.istore X.here hx rfl (hb hby hd) rfl hl q) r
theorem own_lstore_n (pc' : Nat) (l' : Array Slot) (X : Stand p l e R s m args below meth c T locs cells slots) (hx : p.tables.exec = Jvm.exec) (hby : c.code = bytes) {k : Fin 4} {v : Int64} (hd : decode bytes pc = .ok (.lstore_n k, 1)) (hp : pc + 1 = pc') (hl : storeLocals ls k.val (.long v) = some l') (r : Go p e below P (T.setTop (mkF m pc' l' st))) : Go p e below P (T.setTop (mkF m pc ls (.long v :: st))) := by
  subst hp; exact own_go (fun t q => XT.lstoreN X.here hx rfl (hb hby hd) rfl hl q) r
theorem own_lstore (pc' : Nat) (l' : Array Slot) (X : Stand p l e R s m args below meth c T locs cells slots) (hx : p.tables.exec = Jvm.exec) (hby : c.code = bytes) {k : Nat} {v : Int64} (hd : decode bytes pc = .ok (.lstore k, 2)) (hp : pc + 2 = pc') (hl : storeLocals ls k (.long v) = some l') (r : Go p e below P (T.setTop (mkF m pc' l' st))) : Go p e below P (T.setTop (mkF m pc ls (.long v :: st))) := by
  subst hp; exact own_go (fun t q => XT.lstore X.here hx rfl (hb hby hd) rfl hl q) r
theorem own_astore_n (pc' : Nat) (l' : Array Slot) (X : Stand p l e R s m args below meth c T locs cells slots) (hx : p.tables.exec = Jvm.exec) (hby : c.code = bytes) {k : Fin 4} {v : Value} (hd : decode bytes pc = .ok (.astore_n k, 1)) (hp : pc + 1 = pc') (hv : v.isRef = true) (hl : storeLocals ls k.val v = some l') (r : Go p e below P (T.setTop (mkF m pc' l' st))) : Go p e below P (T.setTop (mkF m pc ls (v :: st))) := by
  subst hp; exact own_go (fun t q => XS.astoreN X.here hx rfl (hb hby hd) rfl hv hl q) r
theorem own_astore (pc' : Nat) (l' : Array Slot) (X : Stand p l e R s m args below meth c T locs cells slots) (hx : p.tables.exec = Jvm.exec) (hby : c.code = bytes) {k : Nat} {v : Value} (hd : decode bytes pc = .ok (.astore k, 2)) (hp : pc + 2 = pc') (hv : v.isRef = true) (hl : storeLocals ls k v = some l') (r : Go p e below P (T.setTop (mkF m pc' l' st))) : Go p e below P (T.setTop (mkF m pc ls (v :: st))) := by
  subst hp; exact own_go (fun t q => XS.astore X.here hx rfl (hb hby hd) rfl hv hl q) r
theorem own_iconst (pc' : Nat) (w : Int32) (X : Stand p l e R s m args below meth c T locs cells slots) (hx : p.tables.exec = Jvm.exec) (hby : c.code = bytes) {i : Int} (hd : decode bytes pc = .ok (.iconst i, 1)) (hp : pc + 1 = pc') (hw : Int32.ofInt i = w) (r : Go p e below P (T.setTop (mkF m pc' ls (.int w :: st)))) : Go p e below P (T.setTop (mkF m pc ls st)) := by
  subst hp hw; exact own_go (fun t q => XS.iconst X.here hx rfl (hb hby hd) q) r
theorem own_bipush (pc' : Nat) (w : Int32) (X : Stand p l e R s m args below meth c T locs cells slots) (hx : p.tables.exec = Jvm.exec) (hby : c.code = bytes) {i : Int} (hd : decode bytes pc = .ok (.bipush i, 2)) (hp : pc + 2 = pc') (hw : (Int8.ofInt i).toInt32 = w) (r : Go p e below P (T.setTop (mkF m pc' ls (.int w :: st)))) : Go p e below P (T.setTop (mkF m pc ls st)) := by
  subst hp hw; exact own_go (fun t q => XS.bipush X.here hx rfl (hb hby hd) q) r
theorem own_sipush (pc' : Nat) (w : Int32) (X : Stand p l e R s m args below meth c T locs cells slots) (hx : p.tables.exec = Jvm.exec) (hby : c.code = bytes) {i : Int} (hd : decode bytes pc = .ok (.sipush i, 3)) (hp : pc + 3 = pc') (hw : (Int16.ofInt i).toInt32 = w) (r : Go p e below P (T.setTop (mkF m pc' ls (.int w :: st)))) : Go p e below P (T.setTop (mkF m pc ls st)) := by
  subst hp hw; exact own_go (fun t q => XS.sipush X.here hx rfl (hb hby hd) q) r
theorem own_lconst (pc' : Nat) (w : Int64) (X : Stand p l e R s m args below meth c T locs cells slots) (hx : p.tables.exec = Jvm.exec) (hby : c.code = bytes) {k : Fin 2} (hd : decode bytes pc = .ok (.lconst k, 1)) (hp : pc + 1 = pc') (hw : Int64.ofNat k = w) (r : Go p e below P (T.setTop (mkF m pc' ls (.long w :: st)))) : Go p e below P (T.setTop (mkF m pc ls st)) := by
  subst hp hw; exact own_go (fun t q => XT.lconst X.here hx rfl (hb hby hd) q) r
theorem own_null (pc' : Nat) (X : Stand p l e R s m args below meth c T locs cells slots) (hx : p.tables.exec = Jvm.exec) (hby : c.code = bytes) (hd : decode bytes pc = .ok (.aconst_null, 1)) (hp : pc + 1 = pc') (r : Go p e below P (T.setTop (mkF m pc' ls (.null :: st)))) : Go p e below P (T.setTop (mkF m pc ls st)) := by
  subst hp; exact own_go (fun t q => XS.aconstNull X.here hx rfl (hb hby hd) q) r
theorem own_ldc (pc' : Nat) (X : Stand p l e R s m args below meth c T locs cells slots) (hx : p.tables.exec = Jvm.exec) (hby : c.code = bytes) (hZ : Z.Warmed39 s.vm) {own : String} {index : Nat} {v : Int32} (hown : s.vm.findClass own = some m.cls) (w : (Cond.constant own index v).before a0 Z = true) (hd : decode bytes pc = .ok (.ldc index, 2)) (hp : pc + 2 = pc') (r : Go p e below P (T.setTop (mkF m pc' ls (.int v :: st)))) : Go p e below P (T.setTop (mkF m pc ls st)) := by
  subst hp; exact own_go (fun t q => X.ldcI hx hown (mvT hZ w) rfl (hb hby hd) q) r
theorem own_ldc2 (pc' : Nat) (X : Stand p l e R s m args below meth c T locs cells slots) (hx : p.tables.exec = Jvm.exec) (hby : c.code = bytes) (hZ : Z.Warmed39 s.vm) {own : String} {index : Nat} {v : Int64} (hown : s.vm.findClass own = some m.cls) (w : (Cond.constantLong own index v).before a0 Z = true) (hd : decode bytes pc = .ok (.ldc2_w index, 3)) (hp : pc + 3 = pc') (r : Go p e below P (T.setTop (mkF m pc' ls (.long v :: st)))) : Go p e below P (T.setTop (mkF m pc ls st)) := by
  subst hp; exact own_go (fun t q => X.ldc2J hx hown (mvT hZ w) rfl (hb hby hd) q) r
/-! arithmetic -/
theorem own_iadd (pc' : Nat) (w : Int32) (X : Stand p l e R s m args below meth c T locs cells slots) (hx : p.tables.exec = Jvm.exec) (hby : c.code = bytes) {x y : Int32} (hd : decode bytes pc = .ok (.iadd, 1)) (hp : pc + 1 = pc') (hw : x + y = w) (r : Go p e below P (T.setTop (mkF m pc' ls (.int w :: st)))) : Go p e below P (T.setTop (mkF m pc ls (.int y :: .int x :: st))) := by
  subst hp hw; exact own_go (fun t q => XS.iadd X.here hx rfl (hb hby hd) rfl q) r
theorem own_isub (pc' : Nat) (w : Int32) (X : Stand p l e R s m args below meth c T locs cells slots) (hx : p.tables.exec = Jvm.exec) (hby : c.code = bytes) {x y : Int32} (hd : decode bytes pc = .ok (.isub, 1)) (hp : pc + 1 = pc') (hw : x - y = w) (r : Go p e below P (T.setTop (mkF m pc' ls (.int w :: st)))) : Go p e below P (T.setTop (mkF m pc ls (.int y :: .int x :: st))) := by
  subst hp hw; exact own_go (fun t q => XS.isub X.here hx rfl (hb hby hd) rfl q) r
theorem own_imul (pc' : Nat) (w : Int32) (X : Stand p l e R s m args below meth c T locs cells slots) (hx : p.tables.exec = Jvm.exec) (hby : c.code = bytes) {x y : Int32} (hd : decode bytes pc = .ok (.imul, 1)) (hp : pc + 1 = pc') (hw : x * y = w) (r : Go p e below P (T.setTop (mkF m pc' ls (.int w :: st)))) : Go p e below P (T.setTop (mkF m pc ls (.int y :: .int x :: st))) := by
  subst hp hw; exact own_go (fun t q => XS.imul X.here hx rfl (hb hby hd) rfl q) r
theorem own_idiv (pc' : Nat) (w : Int32) (X : Stand p l e R s m args below meth c T locs cells slots) (hx : p.tables.exec = Jvm.exec) (hby : c.code = bytes) {x y : Int32} (hd : decode bytes pc = .ok (.idiv, 1)) (hp : pc + 1 = pc') (hy : y ≠ 0) (hw : x / y = w) (r : Go p e below P (T.setTop (mkF m pc' ls (.int w :: st)))) : Go p e below P (T.setTop (mkF m pc ls (.int y :: .int x :: st))) := by
  subst hp hw; exact own_go (fun t q => XS.idiv X.here hx rfl (hb hby hd) rfl hy q) r
theorem own_irem (pc' : Nat) (w : Int32) (X : Stand p l e R s m args below meth c T locs cells slots) (hx : p.tables.exec = Jvm.exec) (hby : c.code = bytes) {x y : Int32} (hd : decode bytes pc = .ok (.irem, 1)) (hp : pc + 1 = pc') (hy : y ≠ 0) (hw : x % y = w) (r : Go p e below P (T.setTop (mkF m pc' ls (.int w :: st)))) : Go p e below P (T.setTop (mkF m pc ls (.int y :: .int x :: st))) := by
  subst hp hw; exact own_go (fun t q => iremM X hx rfl (hb hby hd) rfl hy q) r
theorem own_iand (pc' : Nat) (w : Int32) (X : Stand p l e R s m args below meth c T locs cells slots) (hx : p.tables.exec = Jvm.exec) (hby : c.code = bytes) {x y : Int32} (hd : decode bytes pc = .ok (.iand, 1)) (hp : pc + 1 = pc') (hw : x &&& y = w) (r : Go p e below P (T.setTop (mkF m pc' ls (.int w :: st)))) : Go p e below P (T.setTop (mkF m pc ls (.int y :: .int x :: st))) := by
  subst hp hw; exact own_go (fun t q => XS.iand X.here hx rfl (hb hby hd) rfl q) r
theorem own_ishr (pc' : Nat) (w : Int32) (X : Stand p l e R s m args below meth c T locs cells slots) (hx : p.tables.exec = Jvm.exec) (hby : c.code = bytes) {x y : Int32} (hd : decode bytes pc = .ok (.ishr, 1)) (hp : pc + 1 = pc') (hw : x >>> (y &&& 31) = w) (r : Go p e below P (T.setTop (mkF m pc' ls (.int w :: st)))) : Go p e below P (T.setTop (mkF m pc ls (.int y :: .int x :: st))) := by
  subst hp hw; exact own_go (fun t q => XT.ishr X.here hx rfl (hb hby hd) rfl q) r
theorem own_iushr (pc' : Nat) (w : Int32) (X : Stand p l e R s m args below meth c T locs cells slots) (hx : p.tables.exec = Jvm.exec) (hby : c.code = bytes) {x y : Int32} (hd : decode bytes pc = .ok (.iushr, 1)) (hp : pc + 1 = pc') (hw : XT.ushr x y = w) (r : Go p e below P (T.setTop (mkF m pc' ls (.int w :: st)))) : Go p e below P (T.setTop (mkF m pc ls (.int y :: .int x :: st))) := by
  subst hp hw; exact own_go (fun t q => XT.iushr X.here hx rfl (hb hby hd) rfl q) r
theorem own_ladd (pc' : Nat) (w : Int64) (X : Stand p l e R s m args below meth c T locs cells slots) (hx : p.tables.exec = Jvm.exec) (hby : c.code = bytes) {x y : Int64} (hd : decode bytes pc = .ok (.ladd, 1)) (hp : pc + 1 = pc') (hw : x + y = w) (r : Go p e below P (T.setTop (mkF m pc' ls (.long w :: st)))) : Go p e below P (T.setTop (mkF m pc ls (.long y :: .long x :: st))) := by
  subst hp hw; exact own_go (fun t q => XT.ladd X.here hx rfl (hb hby hd) rfl q) r
theorem own_lsub (pc' : Nat) (w : Int64) (X : Stand p l e R s m args below meth c T locs cells slots) (hx : p.tables.exec = Jvm.exec) (hby : c.code = bytes) {x y : Int64} (hd : decode bytes pc = .ok (.lsub, 1)) (hp : pc + 1 = pc') (hw : x - y = w) (r : Go p e below P (T.setTop (mkF m pc' ls (.long w :: st)))) : Go p e below P (T.setTop (mkF m pc ls (.long y :: .long x :: st))) := by
  subst hp hw; exact own_go (fun t q => XT.lsub X.here hx rfl (hb hby hd) rfl q) r
theorem own_lmul (pc' : Nat) (w : Int64) (X : Stand p l e R s m args below meth c T locs cells slots) (hx : p.tables.exec = Jvm.exec) (hby : c.code = bytes) {x y : Int64} (hd : decode bytes pc = .ok (.lmul, 1)) (hp : pc + 1 = pc') (hw : x * y = w) (r : Go p e below P (T.setTop (mkF m pc' ls (.long w :: st)))) : Go p e below P (T.setTop (mkF m pc ls (.long y :: .long x :: st))) := by
  subst hp hw; exact own_go (fun t q => XT.lmul X.here hx rfl (hb hby hd) rfl q) r
theorem own_ldiv (pc' : Nat) (w : Int64) (X : Stand p l e R s m args below meth c T locs cells slots) (hx : p.tables.exec = Jvm.exec) (hby : c.code = bytes) {x y : Int64} (hd : decode bytes pc = .ok (.ldiv, 1)) (hp : pc + 1 = pc') (hy : y ≠ 0) (hw : x / y = w) (r : Go p e below P (T.setTop (mkF m pc' ls (.long w :: st)))) : Go p e below P (T.setTop (mkF m pc ls (.long y :: .long x :: st))) := by
  subst hp hw; exact own_go (fun t q => XT.ldiv X.here hx rfl (hb hby hd) rfl hy q) r
theorem own_lrem (pc' : Nat) (w : Int64) (X : Stand p l e R s m args below meth c T locs cells slots) (hx : p.tables.exec = Jvm.exec) (hby : c.code = bytes) {x y : Int64} (hd : decode bytes pc = .ok (.lrem, 1)) (hp : pc + 1 = pc') (hy : y ≠ 0) (hw : x - (x / y) * y = w) (r : Go p e below P (T.setTop (mkF m pc' ls (.long w :: st)))) : Go p e below P (T.setTop (mkF m pc ls (.long y :: .long x :: st))) := by
  subst hp hw; exact own_go (fun t q => XT.lrem X.here hx rfl (hb hby hd) rfl hy q) r
theorem own_land (pc' : Nat) (w : Int64) (X : Stand p l e R s m args below meth c T locs cells slots) (hx : p.tables.exec = Jvm.exec) (hby : c.code = bytes) {x y : Int64} (hd : decode bytes pc = .ok (.land, 1)) (hp : pc + 1 = pc') (hw : x &&& y = w) (r : Go p e below P (T.setTop (mkF m pc' ls (.long w :: st)))) : Go p e below P (T.setTop (mkF m pc ls (.long y :: .long x :: st))) := by
  subst hp hw; exact own_go (fun t q => XT.land X.here hx rfl (hb hby hd) rfl q) r
theorem own_lushr (pc' : Nat) (w : Int64) (X : Stand p l e R s m args below meth c T locs cells slots) (hx : p.tables.exec = Jvm.exec) (hby : c.code = bytes) {x : Int64} {y : Int32} (hd : decode bytes pc = .ok (.lushr, 1)) (hp : pc + 1 = pc') (hw : XT.ushrL x y = w) (r : Go p e below P (T.setTop (mkF m pc' ls (.long w :: st)))) : Go p e below P (T.setTop (mkF m pc ls (.int y :: .long x :: st))) := by
  subst hp hw; exact own_go (fun t q => XT.lushr X.here hx rfl (hb hby hd) rfl q) r
theorem own_i2l (pc' : Nat) (w : Int64) (X : Stand p l e R s m args below meth c T locs cells slots) (hx : p.tables.exec = Jvm.exec) (hby : c.code = bytes) {x : Int32} (hd : decode bytes pc = .ok (.i2l, 1)) (hp : pc + 1 = pc') (hw : x.toInt64 = w) (r : Go p e below P (T.setTop (mkF m pc' ls (.long w :: st)))) : Go p e below P (T.setTop (mkF m pc ls (.int x :: st))) := by
  subst hp hw; exact own_go (fun t q => XT.i2l X.here hx rfl (hb hby hd) rfl q) r
theorem own_l2i (pc' : Nat) (w : Int32) (X : Stand p l e R s m args below meth c T locs cells slots) (hx : p.tables.exec = Jvm.exec) (hby : c.code = bytes) {x : Int64} (hd : decode bytes pc = .ok (.l2i, 1)) (hp : pc + 1 = pc') (hw : x.toInt32 = w) (r : Go p e below P (T.setTop (mkF m pc' ls (.int w :: st)))) : Go p e below P (T.setTop (mkF m pc ls (.long x :: st))) := by
  subst hp hw; exact own_go (fun t q => XT.l2i X.here hx rfl (hb hby hd) rfl q) r
theorem own_lcmp (pc' : Nat) (w : Int32) (X : Stand p l e R s m args below meth c T locs cells slots) (hx : p.tables.exec = Jvm.exec) (hby : c.code = bytes) {x y : Int64} (hd : decode bytes pc = .ok (.lcmp, 1)) (hp : pc + 1 = pc') (hw : XT.cmpL x y = w) (r : Go p e below P (T.setTop (mkF m pc' ls (.int w :: st)))) : Go p e below P (T.setTop (mkF m pc ls (.long y :: .long x :: st))) := by
  subst hp hw; exact own_go (fun t q => XT.lcmp X.here hx rfl (hb hby hd) rfl q) r
theorem own_iinc (pc' : Nat) (l' : Array Slot) (X : Stand p l e R s m args below meth c T locs cells slots) (hx : p.tables.exec = Jvm.exec) (hby : c.code = bytes) {k : Nat} {i : Int} {x : Int32} (hd : decode bytes pc = .ok (.iinc k i, 3)) (hp : pc + 3 = pc') (hl : ls[k]? = some (.val (.int x))) (hl' : storeLocals ls k (.int (x + Int32.ofInt i)) = some l') (r : Go p e below P (T.setTop (mkF m pc' l' st))) : Go p e below P (T.setTop (mkF m pc ls st)) := by
  subst hp; exact own_go (fun t q => XS.iinc X.here hx rfl (hb hby hd) hl hl' q) r
theorem own_dup (pc' : Nat) (X : Stand p l e R s m args below meth c T locs cells slots) (hx : p.tables.exec = Jvm.exec) (hby : c.code = bytes) {v : Value} (hd : decode bytes pc = .ok (.dup, 1)) (hp : pc + 1 = pc') (hc : v.category = 1) (r : Go p e below P (T.setTop (mkF m pc' ls (v :: v :: st)))) : Go p e below P (T.setTop (mkF m pc ls (v :: st))) := by
  subst hp; exact own_go (fun t q => XS.dup X.here hx rfl (hb hby hd) rfl hc q) r
theorem own_pop (pc' : Nat) (X : Stand p l e R s m args below meth c T locs cells slots) (hx : p.tables.exec = Jvm.exec) (hby : c.code = bytes) {v : Value} (hd : decode bytes pc = .ok (.pop, 1)) (hp : pc + 1 = pc') (hc : v.category = 1) (r : Go p e below P (T.setTop (mkF m pc' ls st))) : Go p e below P (T.setTop (mkF m pc ls (v :: st))) := by
  subst hp; exact own_go (fun t q => XT.pop X.here hx rfl (hb hby hd) rfl hc q) r
/-! branches -/
theorem own_goto (pc' : Nat) (X : Stand p l e R s m args below meth c T locs cells slots) (hx : p.tables.exec = Jvm.exec) (hby : c.code = bytes) {o : Int} (hd : decode bytes pc = .ok (.goto o, 3)) (ho : 0 ≤ (pc : Int) + o) (hp : ((pc : Int) + o).toNat = pc') (r : Go p e below P (T.setTop (mkF m pc' ls st))) : Go p e below P (T.setTop (mkF m pc ls st)) :=
  own_go (fun t q => XS.goto X.here hx rfl rfl (hb hby hd) ho hp q) r
theorem own_ifY (pc' : Nat) (X : Stand p l e R s m args below meth c T locs cells slots) (hx : p.tables.exec = Jvm.exec) (hby : c.code = bytes) {cd : ClassFile.Cond} {x : Int32} {o : Int} (hd : decode bytes pc = .ok (.ifCond cd o, 3)) (ho : 0 ≤ (pc : Int) + o) (hp : ((pc : Int) + o).toNat = pc') (hc : ifCond.holds cd x = true) (r : Go p e below P (T.setTop (mkF m pc' ls st))) : Go p e below P (T.setTop (mkF m pc ls (.int x :: st))) :=
  own_go (fun t q => XS.ifYes X.here hx rfl rfl (hb hby hd) rfl hc ho hp q) r
theorem own_ifN (pc' : Nat) (X : Stand p l e R s m args below meth c T locs cells slots) (hx : p.tables.exec = Jvm.exec) (hby : c.code = bytes) {cd : ClassFile.Cond} {x : Int32} {o : Int} (hd : decode bytes pc = .ok (.ifCond cd o, 3)) (hp : pc + 3 = pc') (hc : ifCond.holds cd x = false) (r : Go p e below P (T.setTop (mkF m pc' ls st))) : Go p e below P (T.setTop (mkF m pc ls (.int x :: st))) := by
  subst hp; exact own_go (fun t q => XS.ifNo X.here hx rfl (hb hby hd) rfl hc q) r
theorem own_icY (pc' : Nat) (X : Stand p l e R s m args below meth c T locs cells slots) (hx : p.tables.exec = Jvm.exec) (hby : c.code = bytes) {cd : ClassFile.Cond} {x y : Int32} {o : Int} (hd : decode bytes pc = .ok (.if_icmp cd o, 3)) (ho : 0 ≤ (pc : Int) + o) (hp : ((pc : Int) + o).toNat = pc') (hc : if_icmp.holds cd x y = true) (r : Go p e below P (T.setTop (mkF m pc' ls st))) : Go p e below P (T.setTop (mkF m pc ls (.int y :: .int x :: st))) :=
  own_go (fun t q => XS.icmpYes X.here hx rfl rfl (hb hby hd) rfl hc ho hp q) r
theorem own_icN (pc' : Nat) (X : Stand p l e R s m args below meth c T locs cells slots) (hx : p.tables.exec = Jvm.exec) (hby : c.code = bytes) {cd : ClassFile.Cond} {x y : Int32} {o : Int} (hd : decode bytes pc = .ok (.if_icmp cd o, 3)) (hp : pc + 3 = pc') (hc : if_icmp.holds cd x y = false) (r : Go p e below P (T.setTop (mkF m pc' ls st))) : Go p e below P (T.setTop (mkF m pc ls (.int y :: .int x :: st))) := by
  subst hp; exact own_go (fun t q => XS.icmpNo X.here hx rfl (hb hby hd) rfl hc q) r
theorem own_acmp (pc' : Nat) (same : Bool) (X : Stand p l e R s m args below meth c T locs cells slots) (hx : p.tables.exec = Jvm.exec) (hby : c.code = bytes) {cd : ACond} {x y : Value} {o : Int} (hd : decode bytes pc = .ok (.if_acmp cd o, 3)) (h1 : x.isRef = true) (h2 : y.isRef = true) (ho : 0 ≤ (pc : Int) + o) (hp : pc' = if acV cd same = true then ((pc : Int) + o).toNat else pc + 3) (hq : decide (x = y) = same) (r : Go p e below P (T.setTop (mkF m pc' ls st))) : Go p e below P (T.setTop (mkF m pc ls (y :: x :: st))) :=
  own_go (fun t q => Jvm.RoadKit.acmp X hx rfl h1 h2 rfl (hb hby hd) rfl hq ho hp q) r
theorem own_nullY (pc' : Nat) (X : Stand p l e R s m args below meth c T locs cells slots) (hx : p.tables.exec = Jvm.exec) (hby : c.code = bytes) {o : Int} (hd : decode bytes pc = .ok (.ifnull o, 3)) (ho : 0 ≤ (pc : Int) + o) (hp : ((pc : Int) + o).toNat = pc') (r : Go p e below P (T.setTop (mkF m pc' ls st))) : Go p e below P (T.setTop (mkF m pc ls (.null :: st))) :=
  own_go (fun t q => XS.ifnullYes X.here hx rfl rfl (hb hby hd) rfl ho hp q) r
theorem own_nullN (pc' : Nat) (X : Stand p l e R s m args below meth c T locs cells slots) (hx : p.tables.exec = Jvm.exec) (hby : c.code = bytes) {o : Int} {b : Addr} (hd : decode bytes pc = .ok (.ifnull o, 3)) (hp : pc + 3 = pc') (r : Go p e below P (T.setTop (mkF m pc' ls st))) : Go p e below P (T.setTop (mkF m pc ls (.ref b :: st))) := by
  subst hp; exact own_go (fun t q => XS.ifnullNo X.here hx rfl (hb hby hd) rfl q) r
theorem own_nnY (pc' : Nat) (X : Stand p l e R s m args below meth c T locs cells slots) (hx : p.tables.exec = Jvm.exec) (hby : c.code = bytes) {o : Int} {b : Addr} (hd : decode bytes pc = .ok (.ifnonnull o, 3)) (ho : 0 ≤ (pc : Int) + o) (hp : ((pc : Int) + o).toNat = pc') (r : Go p e below P (T.setTop (mkF m pc' ls st))) : Go p e below P (T.setTop (mkF m pc ls (.ref b :: st))) :=
  own_go (fun t q => XT.ifnonnullYes X.here hx rfl rfl (hb hby hd) rfl ho hp q) r
theorem own_nnN (pc' : Nat) (X : Stand p l e R s m args below meth c T locs cells slots) (hx : p.tables.exec = Jvm.exec) (hby : c.code = bytes) {o : Int} (hd : decode bytes pc = .ok (.ifnonnull o, 3)) (hp : pc + 3 = pc') (r : Go p e below P (T.setTop (mkF m pc' ls st))) : Go p e below P (T.setTop (mkF m pc ls (.null :: st))) := by
  subst hp; exact own_go (fun t q => XT.ifnonnullNo X.here hx rfl (hb hby hd) rfl q) r
/-! what lcmp and a branch behind it say -/
theorem own_tltL {x y : Int64} (h : x < y) : ifCond.holds .lt (XT.cmpL x y) = true ∧ ifCond.holds .ge (XT.cmpL x y) = false ∧ ifCond.holds .gt (XT.cmpL y x) = true ∧ ifCond.holds .le (XT.cmpL y x) = false := by
  have h1 : ¬ y < x := fun q => absurd h (Int64.lt_asymm q)
  have h2 : ¬ x = y := fun q => absurd (q ▸ h) Int64.lt_irrefl
  have h3 : ¬ y = x := fun q => h2 q.symm
  simp only [XT.cmpL, h, h1, h2, h3, if_true, if_false]
  decide
theorem own_fltL {x y : Int64} (h : ¬ x < y) : ifCond.holds .lt (XT.cmpL x y) = false ∧ ifCond.holds .ge (XT.cmpL x y) = true ∧ ifCond.holds .gt (XT.cmpL y x) = false ∧ ifCond.holds .le (XT.cmpL y x) = true := by
  by_cases q : x = y
  · subst q
    simp only [XT.cmpL, h, if_true, if_false]
    decide
  · have h1 : y < x := by
      rw [Int64.lt_iff_toInt_lt] at h ⊢
      have : x.toInt ≠ y.toInt := fun z => q (Int64.toInt_inj.mp z)
      omega
    have h3 : ¬ y = x := fun z => q z.symm
    simp only [XT.cmpL, h, h1, q, h3, if_true, if_false]
    decide
theorem own_teqL {x y : Int64} (h : x = y) : ifCond.holds .eq (XT.cmpL x y) = true ∧ ifCond.holds .ne (XT.cmpL x y) = false := by
  subst h
  simp only [XT.cmpL, Int64.lt_irrefl, if_true, if_false]
  decide
theorem own_feqL {x y : Int64} (h : ¬ x = y) : ifCond.holds .eq (XT.cmpL x y) = false ∧ ifCond.holds .ne (XT.cmpL x y) = true := by
  by_cases q : y < x
  · simp only [XT.cmpL, q, if_true]
    decide
  · simp only [XT.cmpL, q, h, if_false]
    decide
/-! fields, statics -/
theorem own_getS (pc' : Nat) (X : Stand p l e R s m args below meth c T locs cells slots) (hx : p.tables.exec = Jvm.exec) (hby : c.code = bytes) (hZ : Z.Warmed39 s.vm) {own O n d : String} {index : Nat} (hown : s.vm.findClass own = some m.cls) (w : (Cond.fieldLink own index O n d).before a0 Z = true) (eT : T.heap = h) {v : Value} (F : Sta Z h O n d v) (hd : decode bytes pc = .ok (.getstatic index, 3)) (hp : pc + 3 = pc')
    (r : ∀ T', Stand p l e R s m args below meth c T' locs cells slots → T'.heap = h → Go p e below P (T'.setTop (mkF m pc' ls (v :: st)))) : Go p e below P (T.setTop (mkF m pc ls st)) := by
  subst hp
  obtain ⟨T', X', e', q⟩ := getS2 X hx hZ hown (host := "") (Or.inl w) Via.refl eT F (g := mkF m pc ls st) rfl (hb hby hd)
  exact own_go q (r T' X' e')
theorem own_getSN (pc' : Nat) (X : Stand p l e R s m args below meth c T locs cells slots) (hx : p.tables.exec = Jvm.exec) (hby : c.code = bytes) (hZ : Z.Warmed39 s.vm) {own O n d host : String} {index : Nat} (hown : s.vm.findClass own = some m.cls) (w : (Cond.fieldLinkNest own index O n d host).before a0 Z = true) (eT : T.heap = h) {v : Value} (F : Sta Z h O n d v) (hd : decode bytes pc = .ok (.getstatic index, 3)) (hp : pc + 3 = pc')
    (r : ∀ T', Stand p l e R s m args below meth c T' locs cells slots → T'.heap = h → Go p e below P (T'.setTop (mkF m pc' ls (v :: st)))) : Go p e below P (T.setTop (mkF m pc ls st)) := by
  subst hp
  obtain ⟨T', X', e', q⟩ := getS2 X hx hZ hown (Or.inr w) Via.refl eT F (g := mkF m pc ls st) rfl (hb hby hd)
  exact own_go q (r T' X' e')
theorem own_getF (pc' : Nat) (X : Stand p l e R s m args below meth c T locs cells slots) (hx : p.tables.exec = Jvm.exec) (hby : c.code = bytes) (hZ : Z.Warmed39 s.vm) {own O n d : String} {index : Nat} (hown : s.vm.findClass own = some m.cls) (w : (Cond.fieldLink own index O n d).before a0 Z = true) (eT : T.heap = h) {a : Addr} {v : Value} (F : Fld Z h a O n d v) (hd : decode bytes pc = .ok (.getfield index, 3)) (hp : pc + 3 = pc')
    (r : ∀ T', Stand p l e R s m args below meth c T' locs cells slots → T'.heap = h → Go p e below P (T'.setTop (mkF m pc' ls (v :: st)))) : Go p e below P (T.setTop (mkF m pc ls (.ref a :: st))) := by
  subst hp
  obtain ⟨T', X', e', q⟩ := getF X hx hZ hown (host := "") (Or.inl w) Via.refl eT F (g := mkF m pc ls (.ref a :: st)) rfl rfl (hb hby hd)
  exact own_go q (r T' X' e')
/-! arrays -/
theorem own_n0 {n0 : Nat} (O : Old Z n0 h) : n0 ≤ h.size := O.1 ▸ O.2.1
theorem own_newR (pc' : Nat) (N : Nat) (X : Stand p l e R s m args below meth c T locs cells slots) (hx : p.tables.exec = Jvm.exec) (hby : c.code = bytes) (hZ : Z.Warmed39 s.vm) {own C : String} {index : Nat} (hown : s.vm.findClass own = some m.cls) (w1 : (Cond.classLink own index C).before a0 Z = true) (w2 : (Cond.arrayOver (.object C)).before a0 Z = true) (eT : T.heap = h)
    (hd : decode bytes pc = .ok (.anewarray index, 3)) (hp : pc + 3 = pc') {n : Int32} (hn : ¬ n < 0) (hcap : n.toNatClampNeg ≤ N) (hbig : N * 8 ≤ 536870912) (hc : cells + 1 ≤ R.cells) (hl : slots + N ≤ R.slots)
    (r : ∀ T' h' cA b, Stand p l e R s m args below meth c T' locs (cells + 1) (slots + N) → T'.heap = h' → Ext h h' → b = h.size → Arv Z h' b cA (.object C) n (List.replicate N .null) .null → Ovr Z cA C → Go p e below P (T'.setTop (mkF m pc' ls (.ref b :: st)))) : Go p e below P (T.setTop (mkF m pc ls (.int n :: st))) := by
  subst hp
  obtain ⟨T', h', cA, X', e', E', A', O', q⟩ := newR X hx hZ hown w1 w2 eT (g := mkF m pc ls (.int n :: st)) rfl (hb hby hd) rfl hn hcap hbig hc hl
  exact own_go q (r T' h' cA h.size X' e' E' rfl ((Arv.new A' hn).pad (pad_rep [] .null N)) O')
theorem own_newP (pc' : Nat) (N : Nat) {aty : ArrayType} (X : Stand p l e R s m args below meth c T locs cells slots) (hx : p.tables.exec = Jvm.exec) (hby : c.code = bytes) (hZ : Z.Warmed39 s.vm) (w : (Cond.arrayClass (newarray.typeOf aty)).before a0 Z = true) (eT : T.heap = h)
    (hd : decode bytes pc = .ok (.newarray aty, 2)) (hp : pc + 2 = pc') {n : Int32} (hn : ¬ n < 0) (hcap : n.toNatClampNeg ≤ N) (hbig : N * 8 ≤ 536870912) (hc : cells + 1 ≤ R.cells) (hl : slots + N ≤ R.slots)
    (r : ∀ T' h' cA b, Stand p l e R s m args below meth c T' locs (cells + 1) (slots + N) → T'.heap = h' → Ext h h' → b = h.size → Arv Z h' b cA (newarray.typeOf aty) n (List.replicate N (defaultValue (newarray.typeOf aty))) (defaultValue (newarray.typeOf aty)) → Go p e below P (T'.setTop (mkF m pc' ls (.ref b :: st)))) : Go p e below P (T.setTop (mkF m pc ls (.int n :: st))) := by
  subst hp
  obtain ⟨T', h', cA, X', e', E', A', q⟩ := newP X hx hZ w eT (g := mkF m pc ls (.int n :: st)) rfl (hb hby hd) rfl hn hcap hbig hc hl
  exact own_go q (r T' h' cA h.size X' e' E' rfl ((Arv.new A' hn).pad (pad_rep [] _ N)))
theorem own_stR (pc' : Nat) (i : Nat) (X : Stand p l e R s m args below meth c T locs cells slots) (hx : p.tables.exec = Jvm.exec) (hby : c.code = bytes) (hZ : Z.Warmed39 s.vm) (eT : T.heap = h) {a y : Addr} {cA : ClassId} {C : String} {n j : Int32} {vs : List Value} (V : Arv Z h a cA (.object C) n vs .null) (O : Ovr Z cA C) (I : Ins Z h y C true)
    (hd : decode bytes pc = .ok (.aastore, 1)) (hp : pc + 1 = pc') (hj : ¬ j < 0 ∧ j < n) (hi : j.toNatClampNeg = i) (hv : i < vs.length)
    (r : ∀ T' h', Stand p l e R s m args below meth c T' (locs ++ [⟨a, j.toNatClampNeg⟩]) cells slots → T'.heap = h' → Wr h h' a j.toNatClampNeg (.ref y) → Arv Z h' a cA (.object C) n (vs.set i (.ref y)) .null → Go p e below P (T'.setTop (mkF m pc' ls st))) : Go p e below P (T.setTop (mkF m pc ls (.ref y :: .int j :: .ref a :: st))) := by
  subst hp
  obtain ⟨cl, A, q1, S, q3, H, G⟩ := V
  obtain ⟨T', h', X', e', W', q⟩ := stR X hx hZ eT A (j := j) (inb_of S hj) rfl (Sto.ofV A q1 O I) (g := mkF m pc ls (.ref y :: .int j :: .ref a :: st)) rfl rfl (hb hby hd)
  exact own_go q (r T' h' X' e' W' (Arv.set A q1 S q3 H G rfl W' i hi hv))
theorem own_stZ (pc' : Nat) (i : Nat) (X : Stand p l e R s m args below meth c T locs cells slots) (hx : p.tables.exec = Jvm.exec) (hby : c.code = bytes) (hZ : Z.Warmed39 s.vm) (eT : T.heap = h) {a : Addr} {cA : ClassId} {n j x : Int32} {vs : List Value} {dv : Value} (V : Arv Z h a cA .boolean n vs dv)
    (hd : decode bytes pc = .ok (.bastore, 1)) (hp : pc + 1 = pc') (hj : ¬ j < 0 ∧ j < n) (hi : j.toNatClampNeg = i) (hv : i < vs.length) (hx1 : nar .boolean x = x)
    (r : ∀ T' h', Stand p l e R s m args below meth c T' (locs ++ [⟨a, j.toNatClampNeg⟩]) cells slots → T'.heap = h' → Wr h h' a j.toNatClampNeg (.int x) → Arv Z h' a cA .boolean n (vs.set i (.int x)) dv → Go p e below P (T'.setTop (mkF m pc' ls st))) : Go p e below P (T.setTop (mkF m pc ls (.int x :: .int j :: .ref a :: st))) := by
  subst hp
  obtain ⟨cl, A, q1, S, q3, H, G⟩ := V
  obtain ⟨T', h', X', e', W', q⟩ := stZ X hx hZ eT A (j := j) (x := x) (inb_of S hj) (g := mkF m pc ls (.int x :: .int j :: .ref a :: st)) rfl rfl (hb hby hd)
  rw [hx1] at W'
  exact own_go q (r T' h' X' e' W' (Arv.set A q1 S q3 H G (hx1 ▸ fits_nar_bool x) W' i hi hv))
theorem own_aaload (pc' : Nat) (v : Value) (X : Stand p l e R s m args below meth c T locs cells slots) (hx : p.tables.exec = Jvm.exec) (hby : c.code = bytes) (hZ : Z.Warmed39 s.vm) (eT : T.heap = h) {a : Addr} {cA : ClassId} {ty : FieldType} {n j : Int32} {vs : List Value} {dv : Value} (V : Arv Z h a cA ty n vs dv) (hty : ty.isReference = true)
    (hd : decode bytes pc = .ok (.aaload, 1)) (hp : pc + 1 = pc') (hj : ¬ j < 0 ∧ j < n) (hv : vs.getD j.toNatClampNeg dv = v)
    (r : Go p e below P (T.setTop (mkF m pc' ls (v :: st)))) : Go p e below P (T.setTop (mkF m pc ls (.int j :: .ref a :: st))) := by
  subst hp
  obtain ⟨cl, A, q1, S, q3, H, G⟩ := V
  exact own_go (fun t q => X.aaload hx (j := j) (v := v) (by rw [eT]; exact A.1) (State.isArrayOf_alike hZ.alike A.2.1) hty A.2.2 (inb_of S hj) (H.at (inb_of S hj) hv) (g := mkF m pc ls (.int j :: .ref a :: st)) rfl rfl (hb hby hd) t q) r
theorem own_zaload (pc' : Nat) (v : Value) (X : Stand p l e R s m args below meth c T locs cells slots) (hx : p.tables.exec = Jvm.exec) (hby : c.code = bytes) (hZ : Z.Warmed39 s.vm) (eT : T.heap = h) {a : Addr} {cA : ClassId} {n j : Int32} {vs : List Value} {dv : Value} (V : Arv Z h a cA .boolean n vs dv)
    (hd : decode bytes pc = .ok (.baload, 1)) (hp : pc + 1 = pc') (hj : ¬ j < 0 ∧ j < n) (hv : vs.getD j.toNatClampNeg dv = v)
    (r : Go p e below P (T.setTop (mkF m pc' ls (v :: st)))) : Go p e below P (T.setTop (mkF m pc ls (.int j :: .ref a :: st))) := by
  subst hp
  obtain ⟨cl, A, q1, S, q3, H, G⟩ := V
  exact own_go (fun t q => X.baloadBooleans hx (j := j) (v := v) (by rw [eT]; exact A.1) (State.isArrayOf_alike hZ.alike A.2.1) A.2.2 (inb_of S hj) (H.at (inb_of S hj) hv) (g := mkF m pc ls (.int j :: .ref a :: st)) rfl rfl (hb hby hd) t q) r
theorem own_len (pc' : Nat) (X : Stand p l e R s m args below meth c T locs cells slots) (hx : p.tables.exec = Jvm.exec) (hby : c.code = bytes) (hZ : Z.Warmed39 s.vm) (eT : T.heap = h) {a : Addr} {cA : ClassId} {ty : FieldType} {n : Int32} {vs : List Value} {dv : Value} (V : Arv Z h a cA ty n vs dv)
    (hd : decode bytes pc = .ok (.arraylength, 1)) (hp : pc + 1 = pc')
    (r : Go p e below P (T.setTop (mkF m pc' ls (.int n :: st)))) : Go p e below P (T.setTop (mkF m pc ls (.ref a :: st))) := by
  subst hp
  obtain ⟨cl, A, q1, S, q3, H, G⟩ := V
  rw [← len_of S q3] at r
  exact own_go (fun t q => X.arraylength hx (by rw [eT]; exact A.1) (State.isArrayOf_alike hZ.alike A.2.1) (g := mkF m pc ls (.ref a :: st)) rfl rfl (hb hby hd) t q) r
/-! calls -/
theorem own_callS (pc' : Nat) {h : Heap} {as' : Array Value} {rm : Room} {Q : Option Value → Heap → List Loc → Prop} {y : MethodName} {code' : ByteArray} {maxL : Nat} {ret' : Option FieldType}
    (hM : MetFree l y (head1 [Cond.code y code' maxL ret'] rm) (fun a U => a = as' ∧ Z.Warmed39 U.vm ∧ U.heap = h) (fun _ _ _ _ _ => True) (fun _ U o U' => ∃ v L, o = .returned v ∧ Q v U'.heap L ∧ FrameEnd U o U' L rm.cells rm.slots))
    (X : Stand p l e R s m args below meth c T locs cells slots) (hx : p.tables.exec = Jvm.exec) (hby : c.code = bytes) (hZ : Z.Warmed39 s.vm) {own : String} {index W : Nat} (hown : s.vm.findClass own = some m.cls)
    (w1 : (Cond.methodLink own index y).before a0 Z = true) (w2 : (Cond.static y).before a0 Z = true) (w3 : (Cond.initialized y.cls).before a0 Z = true) (w4 : (Cond.code y code' maxL ret').before a0 Z = true)
    (hy : y.cls ≠ "java/lang/invoke/MethodHandle" ∧ y.cls ≠ "java/lang/invoke/VarHandle") (hsz : ls.size = c.maxLocals) (argsL rest : List Value) {ps : List FieldType} {rt : Option FieldType} (hps : parseMethodDescriptor y.desc = some ⟨ps, rt⟩) (hlen : argsL.length = ps.length)
    (hd : decode bytes pc = .ok (.invokestatic index, 3)) (hp : pc + 3 = pc') (eT : T.heap = h) (hst : st = argsL.reverse ++ rest) (has : argsL.toArray = as') (hW : (rest.map fun v => v.category).sum = W)
    (hf : rm.frames + 1 ≤ R.frames) (hl : W + (maxL + 11) + rm.locals ≤ R.locals) (hc : cells + rm.cells ≤ R.cells) (hs : slots + rm.slots ≤ R.slots)
    (r : ∀ v T' L, Stand p l e R s m args below meth c T' (locs ++ L) (cells + rm.cells) (slots + rm.slots) → Q v T'.heap L → Go p e below P (T'.setTop (mkF m pc' ls (v.toList ++ rest)))) : Go p e below P (T.setTop (mkF m pc ls st)) := by
  subst hp
  obtain ⟨v, _, ⟨T', L', k', n'⟩, -, X', ⟨L, hQ, l1, l2, l3⟩, q⟩ := Jvm.LawKit.callS X hx hown (mvT hZ w1) (mvT hZ w2) (mvT hZ w3) (mvT hZ w4) hy (backOf (W := W) hM hZ w4 w3 hf hl) (g := mkF m pc ls st) rfl hsz (argsL := argsL) (rest := rest) (lenOf hps hlen) hst (by show 2 * 0 + _ ≤ _; omega) (hb hby hd) (fun _ _ => ⟨has, eT, hc, hs⟩)
  dsimp only [Pt.U, Pt.locs, Pt.cells, Pt.slots] at X' l1 l2 l3 q hQ
  subst l1 l2 l3
  exact own_go q (r v T' L X' hQ)
theorem own_virt (pc' : Nat) {h : Heap} {as' : Array Value} {rm : Room} {Q : Option Value → Heap → List Loc → Prop} {y z : MethodName} {code' : ByteArray} {maxL : Nat} {ret' : Option FieldType}
    (hM : MetFree l z (head1 [Cond.code z code' maxL ret'] rm) (fun a U => a = as' ∧ Z.Warmed39 U.vm ∧ U.heap = h) (fun _ _ _ _ _ => True) (fun _ U o U' => ∃ v L, o = .returned v ∧ Q v U'.heap L ∧ FrameEnd U o U' L rm.cells rm.slots))
    (X : Stand p l e R s m args below meth c T locs cells slots) (hx : p.tables.exec = Jvm.exec) (hby : c.code = bytes) (hZ : Z.Warmed39 s.vm) {own C : String} {index W : Nat} (hown : s.vm.findClass own = some m.cls)
    (w1 : (Cond.methodLink own index y).before a0 Z = true) (w2 : (Cond.declares y).before a0 Z = true) (nf : NotFace s y) (w3 : (Cond.selects C y z).before a0 Z = true) (w4 : (Cond.instanceMethod z).before a0 Z = true) (w5 : (Cond.initialized z.cls).before a0 Z = true) (w6 : (Cond.code z code' maxL ret').before a0 Z = true)
    (hy : y.cls ≠ "java/lang/invoke/MethodHandle" ∧ y.cls ≠ "java/lang/invoke/VarHandle") (hsz : ls.size = c.maxLocals) (b : Addr) (argsL rest : List Value) {ps : List FieldType} {rt : Option FieldType} (hps : parseMethodDescriptor y.desc = some ⟨ps, rt⟩) (hlen : argsL.length = ps.length)
    (hd : decode bytes pc = .ok (.invokevirtual index, 3)) (hp : pc + 3 = pc') (eT : T.heap = h) (E : Exa Z h b C) (hst : st = argsL.reverse ++ .ref b :: rest) (has : (.ref b :: argsL).toArray = as') (hW : (rest.map fun v => v.category).sum = W)
    (hf : rm.frames + 1 ≤ R.frames) (hl : W + (maxL + 11) + rm.locals ≤ R.locals) (hc : cells + rm.cells ≤ R.cells) (hs : slots + rm.slots ≤ R.slots)
    (r : ∀ v T' L, Stand p l e R s m args below meth c T' (locs ++ L) (cells + rm.cells) (slots + rm.slots) → Q v T'.heap L → Go p e below P (T'.setTop (mkF m pc' ls (v.toList ++ rest)))) : Go p e below P (T.setTop (mkF m pc ls st)) := by
  subst hp
  obtain ⟨cq, kq, q1, q2, q3⟩ := isOf (s := s) (T := T) hZ eT E
  obtain ⟨v, _, ⟨T', L', k', n'⟩, -, X', ⟨L, hQ, l1, l2, l3⟩, q⟩ := X.virtualBack hx hown (mvT hZ w1) (mvT hZ w2) nf (mvT hZ w3) (mvT hZ w4) hy (backOf (W := W) hM hZ w6 w5 hf hl) q1 q3 (g := mkF m pc ls st) rfl hsz (Steps.refl _) (argsL := argsL) (rest := rest) (lenOf hps hlen) hst (by show 2 * 0 + _ ≤ _; omega) (hb hby hd) (fun _ _ => ⟨has, eT, hc, hs⟩)
  dsimp only [Pt.U, Pt.locs, Pt.cells, Pt.slots] at X' l1 l2 l3 q hQ
  subst l1 l2 l3
  exact own_go (fun t k => q.trans k) (r v T' L X' hQ)
/-! the end of a walk -/
theorem own_ret {Q : Option Value → Heap → List Loc → Prop} {K N : Nat} {t : FieldType} {w : Value} {i : Instr} (X : Stand p l e R s m args below meth c T locs cells slots) (hx : p.tables.exec = Jvm.exec) (hby : c.code = bytes) (hret : meth.sig.returnType = some t) (hlocks : meth.locks = false)
    (hd : decode bytes pc = .ok (i, 1)) (hn : narrow t w = w)
    (hi : (i = .ireturn ∧ (t = .int ∨ t = .boolean ∨ t = .byte ∨ t = .char ∨ t = .short) ∧ ∃ z, w = .int z) ∨ (i = .lreturn ∧ t = .long ∧ ∃ z, w = .long z) ∨ (i = .dreturn ∧ t = .double ∧ ∃ z, w = .double z) ∨ (i = .freturn ∧ t = .float ∧ ∃ z, w = .float z) ∨ (i = .areturn ∧ t.isReference = true ∧ w.isRef = true))
    (hK : cells ≤ K) (hN : slots ≤ N) (hQ : Q (some w) T.heap locs) :
    Go p e below (fun s₂ o => s₂.status = .running ∧ Ended s₂ below o ∧ ∃ v L, o = .returned v ∧ Q v s₂.heap L ∧ FrameEnd s o s₂ L K N) (T.setTop (mkF m pc ls (w :: st))) := by
  obtain ⟨fs, hr, hrun, hended, hW, hsame⟩ := X.leave (v := some w) (fun h => by rw [hret] at h; cases h) hlocks
  exact ⟨_, _, retOut X hx hret hn hi (hb hby hd) hr, hrun, hended, _, _, rfl, hQ, ⟨_, rfl⟩, hW, hsame.mono hK hN⟩
theorem own_ret0 {Q : Option Value → Heap → List Loc → Prop} {K N : Nat} (X : Stand p l e R s m args below meth c T locs cells slots) (hx : p.tables.exec = Jvm.exec) (hby : c.code = bytes) (hret : meth.sig.returnType = none) (hlocks : meth.locks = false)
    (hd : decode bytes pc = .ok (.return_, 1)) (hK : cells ≤ K) (hN : slots ≤ N) (hQ : Q none T.heap locs) :
    Go p e below (fun s₂ o => s₂.status = .running ∧ Ended s₂ below o ∧ ∃ v L, o = .returned v ∧ Q v s₂.heap L ∧ FrameEnd s o s₂ L K N) (T.setTop (mkF m pc ls [])) := by
  obtain ⟨fs, hr, hrun, hended, hW, hsame⟩ := X.leave (v := none) (fun _ => rfl) hlocks
  exact ⟨_, _, X.returnOut hx hret (hb hby hd) hr, hrun, hended, _, _, rfl, hQ, ⟨_, rfl⟩, hW, hsame.mono hK hN⟩
/-! the case's words -/
theorem own_fld {Z : State} {args : Array Value} {t : Term} {C n d : String} {v : Int32} {x : Addr} (h : (Cond.eq (Term.field t C n d) (Term.int v)).value args Z none Z [] = some true) (ht : t.eval args Z none [] Z = some (.ref x)) : Fld Z Z.heap x C n d (.int v) :=
  Fld.start ((fld_at ht).symm.trans (eqv_i (Term.int_eval v) h))
theorem own_fldN {Z : State} {args : Array Value} {t : Term} {C n d : String} {x : Addr} (h : (Cond.eq (Term.field t C n d) Term.null).value args Z none Z [] = some true) (ht : t.eval args Z none [] Z = some (.ref x)) : Fld Z Z.heap x C n d .null :=
  Fld.start ((fld_at ht).symm.trans (null_v h))
theorem own_eqvR {Z : State} {args : Array Value} {X F : Term} {y : Addr} (hF : F.eval args Z none [] Z = some (.ref y)) (h : (Cond.eq X F).value args Z none Z [] = some true) : X.eval args Z none [] Z = some (.ref y) := by
  obtain ⟨x, y', e1, e2, k1, k2⟩ := cmp_v (Or.inl h)
  cases hF.symm.trans e2
  have hx : x.isRef = true := k2.2
  exact e1.trans (congrArg some (gotT (eq_R e1 hF hx rfl) h))
theorem own_fldR {Z : State} {args : Array Value} {t F : Term} {C n d : String} {x y : Addr} (h : (Cond.eq (Term.field t C n d) F).value args Z none Z [] = some true) (ht : t.eval args Z none [] Z = some (.ref x)) (hF : F.eval args Z none [] Z = some (.ref y)) : Fld Z Z.heap x C n d (.ref y) :=
  Fld.start ((fld_at ht).symm.trans (own_eqvR hF h))
theorem own_len_at {Z : State} {args : Array Value} {t : Term} {z : Int32} {a : Addr} {cl : Cell} (h : (Term.length t).eval args Z none [] Z = some (.int z)) (ht : t.eval args Z none [] Z = some (.ref a)) (ha : Z.arrayAt? a = some cl) : cl.slots.size < 2 ^ 31 ∧ cl.slots.size.toInt32 = z := by
  by_cases q : cl.slots.size < 2 ^ 31
  · refine ⟨q, ?_⟩
    rw [len_f ht ha q] at h
    exact Value.int.inj (Option.some.inj h)
  · exfalso
    simp [Term.eval, ht, ha, q] at h
/-- what a callee that writes nothing leaves -/
def own_Q (r : Option Value) (n0 : Nat) (h0 : Heap) (v : Option Value) (h : Heap) (L : List Loc) : Prop := v = r ∧ Fr n0 L ∧ h = h0
/-- what the law leaves -/
def own_Q1 (n0 : Nat) (v : Option Value) (h : Heap) (L : List Loc) : Prop := v = some (.int 1) ∧ Fr n0 L
end Own
/-! small facts on ints -/
theorem own_mask_nn (x : Int32) : 0 ≤ (x &&& 2147483647).toInt := by
  have h : (x &&& 2147483647).toInt = x.toInt % 2 ^ 31 := Jvm.Kit.i32_mask x 2147483647 (k := 31) (by decide) (by decide)
  omega
theorem own_mod_toInt (x y : Int32) (hy : 0 < y.toInt) (hx : 0 ≤ x.toInt) : (x % y).toInt = x.toInt % y.toInt := Jvm.Kit.i32_rem_nonneg hx
theorem own_and_toInt1 (x : Int32) : (x &&& 1).toInt = x.toInt % 2 := Jvm.Kit.i32_mask x 1 (k := 1) (by decide) (by decide)
theorem own_and_toInt3 (x : Int32) : (x &&& 3).toInt = x.toInt % 4 := Jvm.Kit.i32_mask x 3 (k := 2) (by decide) (by decide)
theorem own_and_toInt7 (x : Int32) : (x &&& 7).toInt = x.toInt % 8 := Jvm.Kit.i32_mask x 7 (k := 3) (by decide) (by decide)
theorem own_mkI (x m : Int32) (k : Nat) (hk : k < 32) (hm : m.toBitVec.toNat = 2 ^ k - 1) : 0 ≤ (x &&& m).toInt ∧ (x &&& m).toInt ≤ m.toInt := by
  have h1 := Jvm.Kit.i32_mask x m hk hm
  have h2 : m.toInt = 2 ^ k - 1 := by
    have h3 : m.toInt = (m.toBitVec).toInt := rfl
    have h4 : (2 : Nat) ^ k ≤ 2 ^ 31 := Nat.pow_le_pow_right (by decide) (by omega)
    rw [h3, BitVec.toInt_eq_toNat_cond, hm]
    have h5 : 0 < (2 : Nat) ^ k := Nat.pow_pos (by decide)
    have h6 : ((2 ^ k - 1 : Nat) : Int) = (2 : Int) ^ k - 1 := by
      rw [Int.natCast_sub h5]; simp
    split
    · exact h6
    · omega
  have h7 : (0 : Int) < 2 ^ k := Int.pow_pos (by decide)
  have h8 := Int.emod_nonneg x.toInt (Int.ne_of_gt h7)
  have h9 := Int.emod_lt_of_pos x.toInt h7
  omega
theorem own_mkJ (x m : Int64) (k : Nat) (hk : k < 64) (hm : m.toBitVec.toNat = 2 ^ k - 1) : 0 ≤ (x &&& m).toInt ∧ (x &&& m).toInt ≤ m.toInt := by
  have h1 := Jvm.Kit.i64_mask x m hk hm
  have h2 : m.toInt = 2 ^ k - 1 := by
    have h3 : m.toInt = (m.toBitVec).toInt := rfl
    have h4 : (2 : Nat) ^ k ≤ 2 ^ 63 := Nat.pow_le_pow_right (by decide) (by omega)
    rw [h3, BitVec.toInt_eq_toNat_cond, hm]
    have h5 : 0 < (2 : Nat) ^ k := Nat.pow_pos (by decide)
    have h6 : ((2 ^ k - 1 : Nat) : Int) = (2 : Int) ^ k - 1 := by
      rw [Int.natCast_sub h5]; simp
    split
    · exact h6
    · omega
  have h7 : (0 : Int) < 2 ^ k := Int.pow_pos (by decide)
  have h8 := Int.emod_nonneg x.toInt (Int.ne_of_gt h7)
  have h9 := Int.emod_lt_of_pos x.toInt h7
  omega
theorem own_rngI (x : Int32) : -2 ^ 31 ≤ x.toInt ∧ x.toInt < 2 ^ 31 := ⟨Int32.le_toInt x, Int32.toInt_lt x⟩
theorem own_rngJ (x : Int64) : -2 ^ 63 ≤ x.toInt ∧ x.toInt < 2 ^ 63 := ⟨Int64.le_toInt x, Int64.toInt_lt x⟩
theorem own_rmI {x : Int32} (hx : 0 ≤ x.toInt) (y : Int32) (hy : 0 < y.toInt) : 0 ≤ (x % y).toInt ∧ (x % y).toInt ≤ y.toInt - 1 := by
  rw [Jvm.Kit.i32_rem_nonneg hx]
  have h8 := Int.emod_nonneg x.toInt (Int.ne_of_gt hy)
  have h9 := Int.emod_lt_of_pos x.toInt hy
  omega
theorem own_rmJ (x y : Int64) (hy : 0 < y.toInt) : -(y.toInt - 1) ≤ (x - (x / y) * y).toInt ∧ (x - (x / y) * y).toInt ≤ y.toInt - 1 := by
  rw [Jvm.Kit.i64_rem]
  have h1 := Int.tmod_lt_of_pos x.toInt hy
  have h2 := Int.lt_tmod_of_pos x.toInt hy
  omega
theorem own_dvI {x : Int32} (hx : 0 ≤ x.toInt) (y : Int32) (hy : 0 < y.toInt) : (x / y).toInt = x.toInt / y.toInt := by
  rw [Jvm.Kit.i32_div (by omega), Int.tdiv_eq_ediv_of_nonneg hx]
theorem own_bdI {x a b : Int32} (h1 : ¬ (x < a)) (h2 : ¬ (b < x)) : a.toInt ≤ x.toInt ∧ x.toInt ≤ b.toInt := by
  rw [Int32.lt_iff_toInt_lt] at h1 h2
  omega
theorem own_bdJ {x a b : Int64} (h1 : ¬ (x < a)) (h2 : ¬ (b < x)) : a.toInt ≤ x.toInt ∧ x.toInt ≤ b.toInt := by
  rw [Int64.lt_iff_toInt_lt] at h1 h2
  omega
theorem own_mod3 (x : Int32) : (x &&& 2147483647) % 3 = 0 ∨ (x &&& 2147483647) % 3 = 1 ∨ (x &&& 2147483647) % 3 = 2 := by
  have h1 : ((x &&& 2147483647) % 3).toInt = (x &&& 2147483647).toInt % 3 := own_mod_toInt _ 3 (by decide) (own_mask_nn x)
  have h2 := own_mask_nn x
  have h3 : ∀ y : Int32, ∀ k : Int32, y.toInt = k.toInt → y = k := fun _ _ q => Int32.toInt_inj.mp q
  have h4 : (x &&& 2147483647).toInt % 3 = 0 ∨ (x &&& 2147483647).toInt % 3 = 1 ∨ (x &&& 2147483647).toInt % 3 = 2 := by omega
  rcases h4 with h4 | h4 | h4
  · exact Or.inl (h3 _ _ (h1.trans h4))
  · exact Or.inr (Or.inl (h3 _ _ (h1.trans h4)))
  · exact Or.inr (Or.inr (h3 _ _ (h1.trans h4)))
def own_W (Z : State) (w_FALSE w_TRUE w_UNKNOWN : Addr) : Prop := Sta Z Z.heap "com/example/foram/foram/Truth" "FALSE" "Lcom/example/foram/foram/Truth;" (.ref w_FALSE) ∧ Exa Z Z.heap w_FALSE "com/example/foram/foram/Truth" ∧ Sta Z Z.heap "com/example/foram/foram/Truth" "TRUE" "Lcom/example/foram/foram/Truth;" (.ref w_TRUE) ∧ Exa Z Z.heap w_TRUE "com/example/foram/foram/Truth" ∧ Sta Z Z.heap "com/example/foram/foram/Truth" "UNKNOWN" "Lcom/example/foram/foram/Truth;" (.ref w_UNKNOWN) ∧ Exa Z Z.heap w_UNKNOWN "com/example/foram/foram/Truth" ∧ Fld Z Z.heap w_TRUE "java/lang/Enum" "ordinal" "I" (.int (0 : Int32)) ∧ Fld Z Z.heap w_FALSE "java/lang/Enum" "ordinal" "I" (.int (1 : Int32)) ∧ Fld Z Z.heap w_UNKNOWN "java/lang/Enum" "ordinal" "I" (.int (2 : Int32))
theorem d1_0 : decode method_2_code 0 = .ok (.iload_n 0, 1) := by decide +kernel
theorem d1_1 : decode method_2_code 1 = .ok (.ifCond .ne 7, 3) := by decide +kernel
theorem d1_4 : decode method_2_code 4 = .ok (.getstatic 7, 3) := by decide +kernel
theorem d1_7 : decode method_2_code 7 = .ok (.areturn, 1) := by decide +kernel
theorem ef_1 (m : MethodId) (x0 : Int32) : entryFrame m #[(.int x0)] 1 = mkF m 0 #[oI x0] [] := by first | (simp [entryFrame, mkF, argsToLocals, Value.category]; done) | rfl
theorem pn_0 : plainName "com/example/foram/foram/TruthAndPinLaw" = true := by first | (simp [plainName, overriddenIn]; done) | decide +kernel
theorem d1_8 : decode method_2_code 8 = .ok (.iload_n 0, 1) := by decide +kernel
theorem d1_9 : decode method_2_code 9 = .ok (.iconst 1, 1) := by decide +kernel
theorem d1_10 : decode method_2_code 10 = .ok (.if_icmp .ne 7, 3) := by decide +kernel
theorem d1_13 : decode method_2_code 13 = .ok (.getstatic 13, 3) := by decide +kernel
theorem d1_16 : decode method_2_code 16 = .ok (.areturn, 1) := by decide +kernel
theorem d1_17 : decode method_2_code 17 = .ok (.getstatic 16, 3) := by decide +kernel
theorem d1_20 : decode method_2_code 20 = .ok (.areturn, 1) := by decide +kernel
theorem pd_0 : parseMethodDescriptor "(I)Lcom/example/foram/foram/Truth;" = some ⟨[.int], some (.object "com/example/foram/foram/Truth")⟩ := by decide +kernel
theorem d2_0 : decode prog_55_method_5_code 0 = .ok (.aload_n 0, 1) := by decide +kernel
theorem d2_1 : decode prog_55_method_5_code 1 = .ok (.getstatic 7, 3) := by decide +kernel
theorem d2_4 : decode prog_55_method_5_code 4 = .ok (.if_acmp .eq 10, 3) := by decide +kernel
theorem d2_14 : decode prog_55_method_5_code 14 = .ok (.getstatic 7, 3) := by decide +kernel
theorem d2_17 : decode prog_55_method_5_code 17 = .ok (.astore_n 2, 1) := by decide +kernel
theorem d2_18 : decode prog_55_method_5_code 18 = .ok (.goto 28, 3) := by decide +kernel
theorem d2_46 : decode prog_55_method_5_code 46 = .ok (.aload_n 2, 1) := by decide +kernel
theorem d2_47 : decode prog_55_method_5_code 47 = .ok (.areturn, 1) := by decide +kernel
theorem ef_2 (m : MethodId) (a0 : Addr) (a1 : Addr) : entryFrame m #[(.ref a0), (.ref a1)] 3 = mkF m 0 #[oA a0, oA a1, oU] [] := by first | (simp [entryFrame, mkF, argsToLocals, Value.category]; done) | rfl
theorem pn_1 : plainName "com/example/foram/foram/Truth" = true := by first | (simp [plainName, overriddenIn]; done) | decide +kernel
theorem d2_7 : decode prog_55_method_5_code 7 = .ok (.aload_n 1, 1) := by decide +kernel
theorem d2_8 : decode prog_55_method_5_code 8 = .ok (.getstatic 7, 3) := by decide +kernel
theorem d2_11 : decode prog_55_method_5_code 11 = .ok (.if_acmp .ne 10, 3) := by decide +kernel
theorem d2_21 : decode prog_55_method_5_code 21 = .ok (.aload_n 0, 1) := by decide +kernel
theorem d2_22 : decode prog_55_method_5_code 22 = .ok (.getstatic 3, 3) := by decide +kernel
theorem d2_25 : decode prog_55_method_5_code 25 = .ok (.if_acmp .ne 17, 3) := by decide +kernel
theorem d2_28 : decode prog_55_method_5_code 28 = .ok (.aload_n 1, 1) := by decide +kernel
theorem d2_29 : decode prog_55_method_5_code 29 = .ok (.getstatic 3, 3) := by decide +kernel
theorem d2_32 : decode prog_55_method_5_code 32 = .ok (.if_acmp .ne 10, 3) := by decide +kernel
theorem d2_35 : decode prog_55_method_5_code 35 = .ok (.getstatic 3, 3) := by decide +kernel
theorem d2_38 : decode prog_55_method_5_code 38 = .ok (.astore_n 2, 1) := by decide +kernel
theorem d2_39 : decode prog_55_method_5_code 39 = .ok (.goto 7, 3) := by decide +kernel
theorem d2_42 : decode prog_55_method_5_code 42 = .ok (.getstatic 10, 3) := by decide +kernel
theorem d2_45 : decode prog_55_method_5_code 45 = .ok (.astore_n 2, 1) := by decide +kernel
theorem pd_1 : parseMethodDescriptor "(Lcom/example/foram/foram/Truth;)Lcom/example/foram/foram/Truth;" = some ⟨[(.object "com/example/foram/foram/Truth")], some (.object "com/example/foram/foram/Truth")⟩ := by decide +kernel
theorem d3_0 : decode method_3_code 0 = .ok (.aload_n 0, 1) := by decide +kernel
theorem d3_1 : decode method_3_code 1 = .ok (.getstatic 7, 3) := by decide +kernel
theorem d3_4 : decode method_3_code 4 = .ok (.if_acmp .ne 5, 3) := by decide +kernel
theorem d3_7 : decode method_3_code 7 = .ok (.iconst 0, 1) := by decide +kernel
theorem d3_8 : decode method_3_code 8 = .ok (.ireturn, 1) := by decide +kernel
theorem ef_3 (m : MethodId) (a0 : Addr) : entryFrame m #[(.ref a0)] 1 = mkF m 0 #[oA a0] [] := by first | (simp [entryFrame, mkF, argsToLocals, Value.category]; done) | rfl
theorem d3_9 : decode method_3_code 9 = .ok (.aload_n 0, 1) := by decide +kernel
theorem d3_10 : decode method_3_code 10 = .ok (.getstatic 13, 3) := by decide +kernel
theorem d3_13 : decode method_3_code 13 = .ok (.if_acmp .ne 5, 3) := by decide +kernel
theorem d3_16 : decode method_3_code 16 = .ok (.iconst 1, 1) := by decide +kernel
theorem d3_17 : decode method_3_code 17 = .ok (.ireturn, 1) := by decide +kernel
theorem d3_18 : decode method_3_code 18 = .ok (.aload_n 0, 1) := by decide +kernel
theorem d3_19 : decode method_3_code 19 = .ok (.getstatic 16, 3) := by decide +kernel
theorem d3_22 : decode method_3_code 22 = .ok (.if_acmp .ne 5, 3) := by decide +kernel
theorem d3_25 : decode method_3_code 25 = .ok (.iconst 2, 1) := by decide +kernel
theorem d3_26 : decode method_3_code 26 = .ok (.ireturn, 1) := by decide +kernel
theorem d3_27 : decode method_3_code 27 = .ok (.iconst (-1), 1) := by decide +kernel
theorem d3_28 : decode method_3_code 28 = .ok (.ireturn, 1) := by decide +kernel
theorem pd_2 : parseMethodDescriptor "(Lcom/example/foram/foram/Truth;)I" = some ⟨[(.object "com/example/foram/foram/Truth")], some .int⟩ := by decide +kernel
theorem d4_0 : decode jdk_29_method_69_code 0 = .ok (.iload_n 0, 1) := by decide +kernel
theorem d4_1 : decode jdk_29_method_69_code 1 = .ok (.iload_n 1, 1) := by decide +kernel
theorem d4_2 : decode jdk_29_method_69_code 2 = .ok (.if_icmp .gt 7, 3) := by decide +kernel
theorem d4_9 : decode jdk_29_method_69_code 9 = .ok (.iload_n 1, 1) := by decide +kernel
theorem d4_10 : decode jdk_29_method_69_code 10 = .ok (.ireturn, 1) := by decide +kernel
theorem ef_4 (m : MethodId) (x0 : Int32) (x1 : Int32) : entryFrame m #[(.int x0), (.int x1)] 2 = mkF m 0 #[oI x0, oI x1] [] := by first | (simp [entryFrame, mkF, argsToLocals, Value.category]; done) | rfl
theorem d4_5 : decode jdk_29_method_69_code 5 = .ok (.iload_n 0, 1) := by decide +kernel
theorem d4_6 : decode jdk_29_method_69_code 6 = .ok (.goto 4, 3) := by decide +kernel
theorem pd_3 : parseMethodDescriptor "(II)I" = some ⟨[.int, .int], some .int⟩ := by decide +kernel
theorem ef_0 (m : MethodId) (x0 : Int32) (x1 : Int32) : entryFrame m #[(.int x0), (.int x1)] maxLocals = mkF m 0 #[oI x0, oI x1, oU, oU, oU, oU, oU] [] := by first | (simp [entryFrame, mkF, argsToLocals, Value.category, maxLocals]; done) | rfl
set_option maxRecDepth 65536 in
set_option maxHeartbeats 40000000 in
theorem rm1_1 (l : Launch) (Z : State) (a0 : Array Value) (hw : ∀ d ∈ tables_1, d.before a0 Z = true) (ws : List Jvm.Cond) (w_FALSE w_TRUE w_UNKNOWN : Addr) (W : own_W Z w_FALSE w_TRUE w_UNKNOWN) (x0 : Int32) (h0 : Heap) (n0 : Nat) (O0 : Old Z n0 h0) (hc3 : x0 = (0 : Int32)) :
    MetFree l (⟨"com/example/foram/foram/TruthAndPinLaw", "pick", "(I)Lcom/example/foram/foram/Truth;"⟩ : MethodName) (head1 (Jvm.Cond.code (⟨"com/example/foram/foram/TruthAndPinLaw", "pick", "(I)Lcom/example/foram/foram/Truth;"⟩ : MethodName) method_2_code 1 (some (.object "com/example/foram/foram/Truth")) :: ws) ({ frames := 0, cells := 0, slots := 0, locals := 0 } : Room)) (fun a U => a = #[(.int x0)] ∧ Z.Warmed39 U.vm ∧ U.heap = h0) (fun _ _ _ _ _ => True) (fun _ U o U' => ∃ v L, o = .returned v ∧ own_Q (some (.ref w_FALSE)) n0 h0 v U'.heap L ∧ FrameEnd U o U' L ({ frames := 0, cells := 0, slots := 0, locals := 0 } : Room).cells ({ frames := 0, cells := 0, slots := 0, locals := 0 } : Room).slots) := by
  refine MetFree.of_bodySF (plainFor_of_name pn_0) hisR ?_
  intro p e s m args below meth c s₁ Bd hml0 hP hK
  obtain ⟨rfl, hZ, hh⟩ := hP
  have hx := Bd.exec
  have hby := Bd.bytes
  have hml : c.maxLocals = 1 := hml0
  have hlk := BodyLoose.notSynchronized Bd
  have hret := Bd.returns
  have hown : s.vm.findClass "com/example/foram/foram/TruthAndPinLaw" = some m.cls := findClass_of_methodNamed Bd.named
  have hnm := (name_of_methodNamed Bd.named Bd.method).1
  have X0 : Stand p l e ({ frames := 0, cells := 0, slots := 0, locals := 0 } : Room) s m #[(.int x0)] below meth c s₁ [] 0 0 := Stand.of_body Bd
  have e0 : s₁.heap = h0 := by rw [← hh, Bd.state]; rfl
  have N0 := Fr.nil n0
  rw [ef_1 m x0]
  show Go p e below _ (s₁.setTop (mkF m 0 #[oI x0] []))
  refine own_iload_n 1 X0 hx hby d1_0 rfl rfl ?_
  refine own_ifN 4 X0 hx hby d1_1 rfl ((if0 _ _).trans (teq hc3).2) ?_
  refine own_getS 7 X0 hx hby hZ hown (own_w hw 5 rfl) e0 (W.1.ext O0.2) d1_4 rfl ?_
  intro T4 X4 e4
  exact own_ret (Q := own_Q _ n0 h0) X4 hx hby hret hlk d1_7 rfl (Or.inr (Or.inr (Or.inr (Or.inr ⟨rfl, rfl, rfl⟩)))) (by decide) (by decide) ⟨rfl, N0, e4⟩
set_option maxRecDepth 65536 in
set_option maxHeartbeats 40000000 in
theorem rm1_2 (l : Launch) (Z : State) (a0 : Array Value) (hw : ∀ d ∈ tables_1, d.before a0 Z = true) (ws : List Jvm.Cond) (w_FALSE w_TRUE w_UNKNOWN : Addr) (W : own_W Z w_FALSE w_TRUE w_UNKNOWN) (x0 : Int32) (h0 : Heap) (n0 : Nat) (O0 : Old Z n0 h0) (hc3 : ¬ (x0 = (0 : Int32))) (hc5 : x0 = (1 : Int32)) :
    MetFree l (⟨"com/example/foram/foram/TruthAndPinLaw", "pick", "(I)Lcom/example/foram/foram/Truth;"⟩ : MethodName) (head1 (Jvm.Cond.code (⟨"com/example/foram/foram/TruthAndPinLaw", "pick", "(I)Lcom/example/foram/foram/Truth;"⟩ : MethodName) method_2_code 1 (some (.object "com/example/foram/foram/Truth")) :: ws) ({ frames := 0, cells := 0, slots := 0, locals := 0 } : Room)) (fun a U => a = #[(.int x0)] ∧ Z.Warmed39 U.vm ∧ U.heap = h0) (fun _ _ _ _ _ => True) (fun _ U o U' => ∃ v L, o = .returned v ∧ own_Q (some (.ref w_UNKNOWN)) n0 h0 v U'.heap L ∧ FrameEnd U o U' L ({ frames := 0, cells := 0, slots := 0, locals := 0 } : Room).cells ({ frames := 0, cells := 0, slots := 0, locals := 0 } : Room).slots) := by
  refine MetFree.of_bodySF (plainFor_of_name pn_0) hisR ?_
  intro p e s m args below meth c s₁ Bd hml0 hP hK
  obtain ⟨rfl, hZ, hh⟩ := hP
  have hx := Bd.exec
  have hby := Bd.bytes
  have hml : c.maxLocals = 1 := hml0
  have hlk := BodyLoose.notSynchronized Bd
  have hret := Bd.returns
  have hown : s.vm.findClass "com/example/foram/foram/TruthAndPinLaw" = some m.cls := findClass_of_methodNamed Bd.named
  have hnm := (name_of_methodNamed Bd.named Bd.method).1
  have X0 : Stand p l e ({ frames := 0, cells := 0, slots := 0, locals := 0 } : Room) s m #[(.int x0)] below meth c s₁ [] 0 0 := Stand.of_body Bd
  have e0 : s₁.heap = h0 := by rw [← hh, Bd.state]; rfl
  have N0 := Fr.nil n0
  rw [ef_1 m x0]
  show Go p e below _ (s₁.setTop (mkF m 0 #[oI x0] []))
  refine own_iload_n 1 X0 hx hby d1_0 rfl rfl ?_
  refine own_ifY 8 X0 hx hby d1_1 (by decide) (by decide) ((if0 _ _).trans (feq hc3).2) ?_
  refine own_iload_n 9 X0 hx hby d1_8 rfl rfl ?_
  refine own_iconst 10 (1 : Int32) X0 hx hby d1_9 rfl (by decide) ?_
  refine own_icN 13 X0 hx hby d1_10 rfl (teq hc5).2 ?_
  refine own_getS 16 X0 hx hby hZ hown (own_w hw 23 rfl) e0 (W.2.2.2.2.1.ext O0.2) d1_13 rfl ?_
  intro T6 X6 e6
  exact own_ret (Q := own_Q _ n0 h0) X6 hx hby hret hlk d1_16 rfl (Or.inr (Or.inr (Or.inr (Or.inr ⟨rfl, rfl, rfl⟩)))) (by decide) (by decide) ⟨rfl, N0, e6⟩
set_option maxRecDepth 65536 in
set_option maxHeartbeats 40000000 in
theorem rm1_3 (l : Launch) (Z : State) (a0 : Array Value) (hw : ∀ d ∈ tables_1, d.before a0 Z = true) (ws : List Jvm.Cond) (w_FALSE w_TRUE w_UNKNOWN : Addr) (W : own_W Z w_FALSE w_TRUE w_UNKNOWN) (x0 : Int32) (h0 : Heap) (n0 : Nat) (O0 : Old Z n0 h0) (hc3 : ¬ (x0 = (0 : Int32))) (hc5 : ¬ (x0 = (1 : Int32))) :
    MetFree l (⟨"com/example/foram/foram/TruthAndPinLaw", "pick", "(I)Lcom/example/foram/foram/Truth;"⟩ : MethodName) (head1 (Jvm.Cond.code (⟨"com/example/foram/foram/TruthAndPinLaw", "pick", "(I)Lcom/example/foram/foram/Truth;"⟩ : MethodName) method_2_code 1 (some (.object "com/example/foram/foram/Truth")) :: ws) ({ frames := 0, cells := 0, slots := 0, locals := 0 } : Room)) (fun a U => a = #[(.int x0)] ∧ Z.Warmed39 U.vm ∧ U.heap = h0) (fun _ _ _ _ _ => True) (fun _ U o U' => ∃ v L, o = .returned v ∧ own_Q (some (.ref w_TRUE)) n0 h0 v U'.heap L ∧ FrameEnd U o U' L ({ frames := 0, cells := 0, slots := 0, locals := 0 } : Room).cells ({ frames := 0, cells := 0, slots := 0, locals := 0 } : Room).slots) := by
  refine MetFree.of_bodySF (plainFor_of_name pn_0) hisR ?_
  intro p e s m args below meth c s₁ Bd hml0 hP hK
  obtain ⟨rfl, hZ, hh⟩ := hP
  have hx := Bd.exec
  have hby := Bd.bytes
  have hml : c.maxLocals = 1 := hml0
  have hlk := BodyLoose.notSynchronized Bd
  have hret := Bd.returns
  have hown : s.vm.findClass "com/example/foram/foram/TruthAndPinLaw" = some m.cls := findClass_of_methodNamed Bd.named
  have hnm := (name_of_methodNamed Bd.named Bd.method).1
  have X0 : Stand p l e ({ frames := 0, cells := 0, slots := 0, locals := 0 } : Room) s m #[(.int x0)] below meth c s₁ [] 0 0 := Stand.of_body Bd
  have e0 : s₁.heap = h0 := by rw [← hh, Bd.state]; rfl
  have N0 := Fr.nil n0
  rw [ef_1 m x0]
  show Go p e below _ (s₁.setTop (mkF m 0 #[oI x0] []))
  refine own_iload_n 1 X0 hx hby d1_0 rfl rfl ?_
  refine own_ifY 8 X0 hx hby d1_1 (by decide) (by decide) ((if0 _ _).trans (feq hc3).2) ?_
  refine own_iload_n 9 X0 hx hby d1_8 rfl rfl ?_
  refine own_iconst 10 (1 : Int32) X0 hx hby d1_9 rfl (by decide) ?_
  refine own_icY 17 X0 hx hby d1_10 (by decide) (by decide) (feq hc5).2 ?_
  refine own_getS 20 X0 hx hby hZ hown (own_w hw 21 rfl) e0 (W.2.2.1.ext O0.2) d1_17 rfl ?_
  intro T7 X7 e7
  exact own_ret (Q := own_Q _ n0 h0) X7 hx hby hret hlk d1_20 rfl (Or.inr (Or.inr (Or.inr (Or.inr ⟨rfl, rfl, rfl⟩)))) (by decide) (by decide) ⟨rfl, N0, e7⟩
set_option maxRecDepth 65536 in
set_option maxHeartbeats 40000000 in
theorem rm2_1 (l : Launch) (Z : State) (a0 : Array Value) (hw : ∀ d ∈ tables_1, d.before a0 Z = true) (ws : List Jvm.Cond) (w_FALSE w_TRUE w_UNKNOWN : Addr) (W : own_W Z w_FALSE w_TRUE w_UNKNOWN) (a0 : Addr) (a1 : Addr) (h0 : Heap) (n0 : Nat) (O0 : Old Z n0 h0) (hc11 : a0 = w_FALSE) :
    MetFree l (⟨"com/example/foram/foram/Truth", "and", "(Lcom/example/foram/foram/Truth;)Lcom/example/foram/foram/Truth;"⟩ : MethodName) (head1 (Jvm.Cond.code (⟨"com/example/foram/foram/Truth", "and", "(Lcom/example/foram/foram/Truth;)Lcom/example/foram/foram/Truth;"⟩ : MethodName) prog_55_method_5_code 3 (some (.object "com/example/foram/foram/Truth")) :: ws) ({ frames := 0, cells := 0, slots := 0, locals := 0 } : Room)) (fun a U => a = #[(.ref a0), (.ref a1)] ∧ Z.Warmed39 U.vm ∧ U.heap = h0) (fun _ _ _ _ _ => True) (fun _ U o U' => ∃ v L, o = .returned v ∧ own_Q (some (.ref w_FALSE)) n0 h0 v U'.heap L ∧ FrameEnd U o U' L ({ frames := 0, cells := 0, slots := 0, locals := 0 } : Room).cells ({ frames := 0, cells := 0, slots := 0, locals := 0 } : Room).slots) := by
  refine MetFree.of_bodySF (plainFor_of_name pn_1) hisR ?_
  intro p e s m args below meth c s₁ Bd hml0 hP hK
  obtain ⟨rfl, hZ, hh⟩ := hP
  have hx := Bd.exec
  have hby := Bd.bytes
  have hml : c.maxLocals = 3 := hml0
  have hlk := BodyLoose.notSynchronized Bd
  have hret := Bd.returns
  have hown : s.vm.findClass "com/example/foram/foram/Truth" = some m.cls := findClass_of_methodNamed Bd.named
  have hnm := (name_of_methodNamed Bd.named Bd.method).1
  have X0 : Stand p l e ({ frames := 0, cells := 0, slots := 0, locals := 0 } : Room) s m #[(.ref a0), (.ref a1)] below meth c s₁ [] 0 0 := Stand.of_body Bd
  have e0 : s₁.heap = h0 := by rw [← hh, Bd.state]; rfl
  have N0 := Fr.nil n0
  rw [ef_2 m a0 a1]
  show Go p e below _ (s₁.setTop (mkF m 0 #[oA a0, oA a1, oU] []))
  refine own_aload_n 1 X0 hx hby d2_0 rfl rfl rfl ?_
  refine own_getS 4 X0 hx hby hZ hown (own_w hw 13 rfl) e0 (W.1.ext O0.2) d2_1 rfl ?_
  intro T10 X10 e10
  refine own_acmp 14 true X10 hx hby d2_4 rfl rfl (by decide) (by decide) (decide_eq_true (congrArg Value.ref hc11)) ?_
  refine own_getS 17 X10 hx hby hZ hown (own_w hw 13 rfl) e10 (W.1.ext O0.2) d2_14 rfl ?_
  intro T12 X12 e12
  refine own_astore_n 18 #[oA a0, oA a1, oA w_FALSE] X12 hx hby d2_17 rfl rfl rfl ?_
  refine own_goto 46 X12 hx hby d2_18 (by decide) (by decide) ?_
  refine own_aload_n 47 X12 hx hby d2_46 rfl rfl rfl ?_
  exact own_ret (Q := own_Q _ n0 h0) X12 hx hby hret hlk d2_47 rfl (Or.inr (Or.inr (Or.inr (Or.inr ⟨rfl, rfl, rfl⟩)))) (by decide) (by decide) ⟨rfl, N0, e12⟩
set_option maxRecDepth 65536 in
set_option maxHeartbeats 40000000 in
theorem rm2_2 (l : Launch) (Z : State) (a0 : Array Value) (hw : ∀ d ∈ tables_1, d.before a0 Z = true) (ws : List Jvm.Cond) (w_FALSE w_TRUE w_UNKNOWN : Addr) (W : own_W Z w_FALSE w_TRUE w_UNKNOWN) (a0 : Addr) (a1 : Addr) (h0 : Heap) (n0 : Nat) (O0 : Old Z n0 h0) (hc11 : ¬ (a0 = w_FALSE)) (hc14 : a1 = w_FALSE) :
    MetFree l (⟨"com/example/foram/foram/Truth", "and", "(Lcom/example/foram/foram/Truth;)Lcom/example/foram/foram/Truth;"⟩ : MethodName) (head1 (Jvm.Cond.code (⟨"com/example/foram/foram/Truth", "and", "(Lcom/example/foram/foram/Truth;)Lcom/example/foram/foram/Truth;"⟩ : MethodName) prog_55_method_5_code 3 (some (.object "com/example/foram/foram/Truth")) :: ws) ({ frames := 0, cells := 0, slots := 0, locals := 0 } : Room)) (fun a U => a = #[(.ref a0), (.ref a1)] ∧ Z.Warmed39 U.vm ∧ U.heap = h0) (fun _ _ _ _ _ => True) (fun _ U o U' => ∃ v L, o = .returned v ∧ own_Q (some (.ref w_FALSE)) n0 h0 v U'.heap L ∧ FrameEnd U o U' L ({ frames := 0, cells := 0, slots := 0, locals := 0 } : Room).cells ({ frames := 0, cells := 0, slots := 0, locals := 0 } : Room).slots) := by
  refine MetFree.of_bodySF (plainFor_of_name pn_1) hisR ?_
  intro p e s m args below meth c s₁ Bd hml0 hP hK
  obtain ⟨rfl, hZ, hh⟩ := hP
  have hx := Bd.exec
  have hby := Bd.bytes
  have hml : c.maxLocals = 3 := hml0
  have hlk := BodyLoose.notSynchronized Bd
  have hret := Bd.returns
  have hown : s.vm.findClass "com/example/foram/foram/Truth" = some m.cls := findClass_of_methodNamed Bd.named
  have hnm := (name_of_methodNamed Bd.named Bd.method).1
  have X0 : Stand p l e ({ frames := 0, cells := 0, slots := 0, locals := 0 } : Room) s m #[(.ref a0), (.ref a1)] below meth c s₁ [] 0 0 := Stand.of_body Bd
  have e0 : s₁.heap = h0 := by rw [← hh, Bd.state]; rfl
  have N0 := Fr.nil n0
  rw [ef_2 m a0 a1]
  show Go p e below _ (s₁.setTop (mkF m 0 #[oA a0, oA a1, oU] []))
  refine own_aload_n 1 X0 hx hby d2_0 rfl rfl rfl ?_
  refine own_getS 4 X0 hx hby hZ hown (own_w hw 13 rfl) e0 (W.1.ext O0.2) d2_1 rfl ?_
  intro T10 X10 e10
  refine own_acmp 7 false X10 hx hby d2_4 rfl rfl (by decide) (by decide) (decide_eq_false fun q => hc11 (Value.ref.inj q)) ?_
  refine own_aload_n 8 X10 hx hby d2_7 rfl rfl rfl ?_
  refine own_getS 11 X10 hx hby hZ hown (own_w hw 13 rfl) e10 (W.1.ext O0.2) d2_8 rfl ?_
  intro T13 X13 e13
  refine own_acmp 14 true X13 hx hby d2_11 rfl rfl (by decide) (by decide) (decide_eq_true (congrArg Value.ref hc14)) ?_
  refine own_getS 17 X13 hx hby hZ hown (own_w hw 13 rfl) e13 (W.1.ext O0.2) d2_14 rfl ?_
  intro T15 X15 e15
  refine own_astore_n 18 #[oA a0, oA a1, oA w_FALSE] X15 hx hby d2_17 rfl rfl rfl ?_
  refine own_goto 46 X15 hx hby d2_18 (by decide) (by decide) ?_
  refine own_aload_n 47 X15 hx hby d2_46 rfl rfl rfl ?_
  exact own_ret (Q := own_Q _ n0 h0) X15 hx hby hret hlk d2_47 rfl (Or.inr (Or.inr (Or.inr (Or.inr ⟨rfl, rfl, rfl⟩)))) (by decide) (by decide) ⟨rfl, N0, e15⟩
set_option maxRecDepth 65536 in
set_option maxHeartbeats 40000000 in
theorem rm2_3 (l : Launch) (Z : State) (a0 : Array Value) (hw : ∀ d ∈ tables_1, d.before a0 Z = true) (ws : List Jvm.Cond) (w_FALSE w_TRUE w_UNKNOWN : Addr) (W : own_W Z w_FALSE w_TRUE w_UNKNOWN) (a0 : Addr) (a1 : Addr) (h0 : Heap) (n0 : Nat) (O0 : Old Z n0 h0) (hc11 : ¬ (a0 = w_FALSE)) (hc14 : ¬ (a1 = w_FALSE)) (hc17 : a0 = w_TRUE) (hc19 : a1 = w_TRUE) :
    MetFree l (⟨"com/example/foram/foram/Truth", "and", "(Lcom/example/foram/foram/Truth;)Lcom/example/foram/foram/Truth;"⟩ : MethodName) (head1 (Jvm.Cond.code (⟨"com/example/foram/foram/Truth", "and", "(Lcom/example/foram/foram/Truth;)Lcom/example/foram/foram/Truth;"⟩ : MethodName) prog_55_method_5_code 3 (some (.object "com/example/foram/foram/Truth")) :: ws) ({ frames := 0, cells := 0, slots := 0, locals := 0 } : Room)) (fun a U => a = #[(.ref a0), (.ref a1)] ∧ Z.Warmed39 U.vm ∧ U.heap = h0) (fun _ _ _ _ _ => True) (fun _ U o U' => ∃ v L, o = .returned v ∧ own_Q (some (.ref w_TRUE)) n0 h0 v U'.heap L ∧ FrameEnd U o U' L ({ frames := 0, cells := 0, slots := 0, locals := 0 } : Room).cells ({ frames := 0, cells := 0, slots := 0, locals := 0 } : Room).slots) := by
  refine MetFree.of_bodySF (plainFor_of_name pn_1) hisR ?_
  intro p e s m args below meth c s₁ Bd hml0 hP hK
  obtain ⟨rfl, hZ, hh⟩ := hP
  have hx := Bd.exec
  have hby := Bd.bytes
  have hml : c.maxLocals = 3 := hml0
  have hlk := BodyLoose.notSynchronized Bd
  have hret := Bd.returns
  have hown : s.vm.findClass "com/example/foram/foram/Truth" = some m.cls := findClass_of_methodNamed Bd.named
  have hnm := (name_of_methodNamed Bd.named Bd.method).1
  have X0 : Stand p l e ({ frames := 0, cells := 0, slots := 0, locals := 0 } : Room) s m #[(.ref a0), (.ref a1)] below meth c s₁ [] 0 0 := Stand.of_body Bd
  have e0 : s₁.heap = h0 := by rw [← hh, Bd.state]; rfl
  have N0 := Fr.nil n0
  rw [ef_2 m a0 a1]
  show Go p e below _ (s₁.setTop (mkF m 0 #[oA a0, oA a1, oU] []))
  refine own_aload_n 1 X0 hx hby d2_0 rfl rfl rfl ?_
  refine own_getS 4 X0 hx hby hZ hown (own_w hw 13 rfl) e0 (W.1.ext O0.2) d2_1 rfl ?_
  intro T10 X10 e10
  refine own_acmp 7 false X10 hx hby d2_4 rfl rfl (by decide) (by decide) (decide_eq_false fun q => hc11 (Value.ref.inj q)) ?_
  refine own_aload_n 8 X10 hx hby d2_7 rfl rfl rfl ?_
  refine own_getS 11 X10 hx hby hZ hown (own_w hw 13 rfl) e10 (W.1.ext O0.2) d2_8 rfl ?_
  intro T13 X13 e13
  refine own_acmp 21 false X13 hx hby d2_11 rfl rfl (by decide) (by decide) (decide_eq_false fun q => hc14 (Value.ref.inj q)) ?_
  refine own_aload_n 22 X13 hx hby d2_21 rfl rfl rfl ?_
  refine own_getS 25 X13 hx hby hZ hown (own_w hw 25 rfl) e13 (W.2.2.1.ext O0.2) d2_22 rfl ?_
  intro T16 X16 e16
  refine own_acmp 28 true X16 hx hby d2_25 rfl rfl (by decide) (by decide) (decide_eq_true (congrArg Value.ref hc17)) ?_
  refine own_aload_n 29 X16 hx hby d2_28 rfl rfl rfl ?_
  refine own_getS 32 X16 hx hby hZ hown (own_w hw 25 rfl) e16 (W.2.2.1.ext O0.2) d2_29 rfl ?_
  intro T18 X18 e18
  refine own_acmp 35 true X18 hx hby d2_32 rfl rfl (by decide) (by decide) (decide_eq_true (congrArg Value.ref hc19)) ?_
  refine own_getS 38 X18 hx hby hZ hown (own_w hw 25 rfl) e18 (W.2.2.1.ext O0.2) d2_35 rfl ?_
  intro T20 X20 e20
  refine own_astore_n 39 #[oA a0, oA a1, oA w_TRUE] X20 hx hby d2_38 rfl rfl rfl ?_
  refine own_goto 46 X20 hx hby d2_39 (by decide) (by decide) ?_
  refine own_aload_n 47 X20 hx hby d2_46 rfl rfl rfl ?_
  exact own_ret (Q := own_Q _ n0 h0) X20 hx hby hret hlk d2_47 rfl (Or.inr (Or.inr (Or.inr (Or.inr ⟨rfl, rfl, rfl⟩)))) (by decide) (by decide) ⟨rfl, N0, e20⟩
set_option maxRecDepth 65536 in
set_option maxHeartbeats 40000000 in
theorem rm2_4 (l : Launch) (Z : State) (a0 : Array Value) (hw : ∀ d ∈ tables_1, d.before a0 Z = true) (ws : List Jvm.Cond) (w_FALSE w_TRUE w_UNKNOWN : Addr) (W : own_W Z w_FALSE w_TRUE w_UNKNOWN) (a0 : Addr) (a1 : Addr) (h0 : Heap) (n0 : Nat) (O0 : Old Z n0 h0) (hc11 : ¬ (a0 = w_FALSE)) (hc14 : ¬ (a1 = w_FALSE)) (hc17 : a0 = w_TRUE) (hc19 : ¬ (a1 = w_TRUE)) :
    MetFree l (⟨"com/example/foram/foram/Truth", "and", "(Lcom/example/foram/foram/Truth;)Lcom/example/foram/foram/Truth;"⟩ : MethodName) (head1 (Jvm.Cond.code (⟨"com/example/foram/foram/Truth", "and", "(Lcom/example/foram/foram/Truth;)Lcom/example/foram/foram/Truth;"⟩ : MethodName) prog_55_method_5_code 3 (some (.object "com/example/foram/foram/Truth")) :: ws) ({ frames := 0, cells := 0, slots := 0, locals := 0 } : Room)) (fun a U => a = #[(.ref a0), (.ref a1)] ∧ Z.Warmed39 U.vm ∧ U.heap = h0) (fun _ _ _ _ _ => True) (fun _ U o U' => ∃ v L, o = .returned v ∧ own_Q (some (.ref w_UNKNOWN)) n0 h0 v U'.heap L ∧ FrameEnd U o U' L ({ frames := 0, cells := 0, slots := 0, locals := 0 } : Room).cells ({ frames := 0, cells := 0, slots := 0, locals := 0 } : Room).slots) := by
  refine MetFree.of_bodySF (plainFor_of_name pn_1) hisR ?_
  intro p e s m args below meth c s₁ Bd hml0 hP hK
  obtain ⟨rfl, hZ, hh⟩ := hP
  have hx := Bd.exec
  have hby := Bd.bytes
  have hml : c.maxLocals = 3 := hml0
  have hlk := BodyLoose.notSynchronized Bd
  have hret := Bd.returns
  have hown : s.vm.findClass "com/example/foram/foram/Truth" = some m.cls := findClass_of_methodNamed Bd.named
  have hnm := (name_of_methodNamed Bd.named Bd.method).1
  have X0 : Stand p l e ({ frames := 0, cells := 0, slots := 0, locals := 0 } : Room) s m #[(.ref a0), (.ref a1)] below meth c s₁ [] 0 0 := Stand.of_body Bd
  have e0 : s₁.heap = h0 := by rw [← hh, Bd.state]; rfl
  have N0 := Fr.nil n0
  rw [ef_2 m a0 a1]
  show Go p e below _ (s₁.setTop (mkF m 0 #[oA a0, oA a1, oU] []))
  refine own_aload_n 1 X0 hx hby d2_0 rfl rfl rfl ?_
  refine own_getS 4 X0 hx hby hZ hown (own_w hw 13 rfl) e0 (W.1.ext O0.2) d2_1 rfl ?_
  intro T10 X10 e10
  refine own_acmp 7 false X10 hx hby d2_4 rfl rfl (by decide) (by decide) (decide_eq_false fun q => hc11 (Value.ref.inj q)) ?_
  refine own_aload_n 8 X10 hx hby d2_7 rfl rfl rfl ?_
  refine own_getS 11 X10 hx hby hZ hown (own_w hw 13 rfl) e10 (W.1.ext O0.2) d2_8 rfl ?_
  intro T13 X13 e13
  refine own_acmp 21 false X13 hx hby d2_11 rfl rfl (by decide) (by decide) (decide_eq_false fun q => hc14 (Value.ref.inj q)) ?_
  refine own_aload_n 22 X13 hx hby d2_21 rfl rfl rfl ?_
  refine own_getS 25 X13 hx hby hZ hown (own_w hw 25 rfl) e13 (W.2.2.1.ext O0.2) d2_22 rfl ?_
  intro T16 X16 e16
  refine own_acmp 28 true X16 hx hby d2_25 rfl rfl (by decide) (by decide) (decide_eq_true (congrArg Value.ref hc17)) ?_
  refine own_aload_n 29 X16 hx hby d2_28 rfl rfl rfl ?_
  refine own_getS 32 X16 hx hby hZ hown (own_w hw 25 rfl) e16 (W.2.2.1.ext O0.2) d2_29 rfl ?_
  intro T18 X18 e18
  refine own_acmp 42 false X18 hx hby d2_32 rfl rfl (by decide) (by decide) (decide_eq_false fun q => hc19 (Value.ref.inj q)) ?_
  refine own_getS 45 X18 hx hby hZ hown (own_w hw 26 rfl) e18 (W.2.2.2.2.1.ext O0.2) d2_42 rfl ?_
  intro T21 X21 e21
  refine own_astore_n 46 #[oA a0, oA a1, oA w_UNKNOWN] X21 hx hby d2_45 rfl rfl rfl ?_
  refine own_aload_n 47 X21 hx hby d2_46 rfl rfl rfl ?_
  exact own_ret (Q := own_Q _ n0 h0) X21 hx hby hret hlk d2_47 rfl (Or.inr (Or.inr (Or.inr (Or.inr ⟨rfl, rfl, rfl⟩)))) (by decide) (by decide) ⟨rfl, N0, e21⟩
set_option maxRecDepth 65536 in
set_option maxHeartbeats 40000000 in
theorem rm2_5 (l : Launch) (Z : State) (a0 : Array Value) (hw : ∀ d ∈ tables_1, d.before a0 Z = true) (ws : List Jvm.Cond) (w_FALSE w_TRUE w_UNKNOWN : Addr) (W : own_W Z w_FALSE w_TRUE w_UNKNOWN) (a0 : Addr) (a1 : Addr) (h0 : Heap) (n0 : Nat) (O0 : Old Z n0 h0) (hc11 : ¬ (a0 = w_FALSE)) (hc14 : ¬ (a1 = w_FALSE)) (hc17 : ¬ (a0 = w_TRUE)) :
    MetFree l (⟨"com/example/foram/foram/Truth", "and", "(Lcom/example/foram/foram/Truth;)Lcom/example/foram/foram/Truth;"⟩ : MethodName) (head1 (Jvm.Cond.code (⟨"com/example/foram/foram/Truth", "and", "(Lcom/example/foram/foram/Truth;)Lcom/example/foram/foram/Truth;"⟩ : MethodName) prog_55_method_5_code 3 (some (.object "com/example/foram/foram/Truth")) :: ws) ({ frames := 0, cells := 0, slots := 0, locals := 0 } : Room)) (fun a U => a = #[(.ref a0), (.ref a1)] ∧ Z.Warmed39 U.vm ∧ U.heap = h0) (fun _ _ _ _ _ => True) (fun _ U o U' => ∃ v L, o = .returned v ∧ own_Q (some (.ref w_UNKNOWN)) n0 h0 v U'.heap L ∧ FrameEnd U o U' L ({ frames := 0, cells := 0, slots := 0, locals := 0 } : Room).cells ({ frames := 0, cells := 0, slots := 0, locals := 0 } : Room).slots) := by
  refine MetFree.of_bodySF (plainFor_of_name pn_1) hisR ?_
  intro p e s m args below meth c s₁ Bd hml0 hP hK
  obtain ⟨rfl, hZ, hh⟩ := hP
  have hx := Bd.exec
  have hby := Bd.bytes
  have hml : c.maxLocals = 3 := hml0
  have hlk := BodyLoose.notSynchronized Bd
  have hret := Bd.returns
  have hown : s.vm.findClass "com/example/foram/foram/Truth" = some m.cls := findClass_of_methodNamed Bd.named
  have hnm := (name_of_methodNamed Bd.named Bd.method).1
  have X0 : Stand p l e ({ frames := 0, cells := 0, slots := 0, locals := 0 } : Room) s m #[(.ref a0), (.ref a1)] below meth c s₁ [] 0 0 := Stand.of_body Bd
  have e0 : s₁.heap = h0 := by rw [← hh, Bd.state]; rfl
  have N0 := Fr.nil n0
  rw [ef_2 m a0 a1]
  show Go p e below _ (s₁.setTop (mkF m 0 #[oA a0, oA a1, oU] []))
  refine own_aload_n 1 X0 hx hby d2_0 rfl rfl rfl ?_
  refine own_getS 4 X0 hx hby hZ hown (own_w hw 13 rfl) e0 (W.1.ext O0.2) d2_1 rfl ?_
  intro T10 X10 e10
  refine own_acmp 7 false X10 hx hby d2_4 rfl rfl (by decide) (by decide) (decide_eq_false fun q => hc11 (Value.ref.inj q)) ?_
  refine own_aload_n 8 X10 hx hby d2_7 rfl rfl rfl ?_
  refine own_getS 11 X10 hx hby hZ hown (own_w hw 13 rfl) e10 (W.1.ext O0.2) d2_8 rfl ?_
  intro T13 X13 e13
  refine own_acmp 21 false X13 hx hby d2_11 rfl rfl (by decide) (by decide) (decide_eq_false fun q => hc14 (Value.ref.inj q)) ?_
  refine own_aload_n 22 X13 hx hby d2_21 rfl rfl rfl ?_
  refine own_getS 25 X13 hx hby hZ hown (own_w hw 25 rfl) e13 (W.2.2.1.ext O0.2) d2_22 rfl ?_
  intro T16 X16 e16
  refine own_acmp 42 false X16 hx hby d2_25 rfl rfl (by decide) (by decide) (decide_eq_false fun q => hc17 (Value.ref.inj q)) ?_
  refine own_getS 45 X16 hx hby hZ hown (own_w hw 26 rfl) e16 (W.2.2.2.2.1.ext O0.2) d2_42 rfl ?_
  intro T22 X22 e22
  refine own_astore_n 46 #[oA a0, oA a1, oA w_UNKNOWN] X22 hx hby d2_45 rfl rfl rfl ?_
  refine own_aload_n 47 X22 hx hby d2_46 rfl rfl rfl ?_
  exact own_ret (Q := own_Q _ n0 h0) X22 hx hby hret hlk d2_47 rfl (Or.inr (Or.inr (Or.inr (Or.inr ⟨rfl, rfl, rfl⟩)))) (by decide) (by decide) ⟨rfl, N0, e22⟩
set_option maxRecDepth 65536 in
set_option maxHeartbeats 40000000 in
theorem rm3_1 (l : Launch) (Z : State) (a0 : Array Value) (hw : ∀ d ∈ tables_1, d.before a0 Z = true) (ws : List Jvm.Cond) (w_FALSE w_TRUE w_UNKNOWN : Addr) (W : own_W Z w_FALSE w_TRUE w_UNKNOWN) (a0 : Addr) (h0 : Heap) (n0 : Nat) (O0 : Old Z n0 h0) (hc25 : a0 = w_FALSE) :
    MetFree l (⟨"com/example/foram/foram/TruthAndPinLaw", "rank", "(Lcom/example/foram/foram/Truth;)I"⟩ : MethodName) (head1 (Jvm.Cond.code (⟨"com/example/foram/foram/TruthAndPinLaw", "rank", "(Lcom/example/foram/foram/Truth;)I"⟩ : MethodName) method_3_code 1 (some .int) :: ws) ({ frames := 0, cells := 0, slots := 0, locals := 0 } : Room)) (fun a U => a = #[(.ref a0)] ∧ Z.Warmed39 U.vm ∧ U.heap = h0) (fun _ _ _ _ _ => True) (fun _ U o U' => ∃ v L, o = .returned v ∧ own_Q (some (.int (0 : Int32))) n0 h0 v U'.heap L ∧ FrameEnd U o U' L ({ frames := 0, cells := 0, slots := 0, locals := 0 } : Room).cells ({ frames := 0, cells := 0, slots := 0, locals := 0 } : Room).slots) := by
  refine MetFree.of_bodySF (plainFor_of_name pn_0) hisR ?_
  intro p e s m args below meth c s₁ Bd hml0 hP hK
  obtain ⟨rfl, hZ, hh⟩ := hP
  have hx := Bd.exec
  have hby := Bd.bytes
  have hml : c.maxLocals = 1 := hml0
  have hlk := BodyLoose.notSynchronized Bd
  have hret := Bd.returns
  have hown : s.vm.findClass "com/example/foram/foram/TruthAndPinLaw" = some m.cls := findClass_of_methodNamed Bd.named
  have hnm := (name_of_methodNamed Bd.named Bd.method).1
  have X0 : Stand p l e ({ frames := 0, cells := 0, slots := 0, locals := 0 } : Room) s m #[(.ref a0)] below meth c s₁ [] 0 0 := Stand.of_body Bd
  have e0 : s₁.heap = h0 := by rw [← hh, Bd.state]; rfl
  have N0 := Fr.nil n0
  rw [ef_3 m a0]
  show Go p e below _ (s₁.setTop (mkF m 0 #[oA a0] []))
  refine own_aload_n 1 X0 hx hby d3_0 rfl rfl rfl ?_
  refine own_getS 4 X0 hx hby hZ hown (own_w hw 5 rfl) e0 (W.1.ext O0.2) d3_1 rfl ?_
  intro T24 X24 e24
  refine own_acmp 7 true X24 hx hby d3_4 rfl rfl (by decide) (by decide) (decide_eq_true (congrArg Value.ref hc25)) ?_
  refine own_iconst 8 (0 : Int32) X24 hx hby d3_7 rfl (by decide) ?_
  exact own_ret (Q := own_Q _ n0 h0) X24 hx hby hret hlk d3_8 rfl (Or.inl ⟨rfl, by simp, _, rfl⟩) (by decide) (by decide) ⟨rfl, N0, e24⟩
set_option maxRecDepth 65536 in
set_option maxHeartbeats 40000000 in
theorem rm3_2 (l : Launch) (Z : State) (a0 : Array Value) (hw : ∀ d ∈ tables_1, d.before a0 Z = true) (ws : List Jvm.Cond) (w_FALSE w_TRUE w_UNKNOWN : Addr) (W : own_W Z w_FALSE w_TRUE w_UNKNOWN) (a0 : Addr) (h0 : Heap) (n0 : Nat) (O0 : Old Z n0 h0) (hc25 : ¬ (a0 = w_FALSE)) (hc27 : a0 = w_UNKNOWN) :
    MetFree l (⟨"com/example/foram/foram/TruthAndPinLaw", "rank", "(Lcom/example/foram/foram/Truth;)I"⟩ : MethodName) (head1 (Jvm.Cond.code (⟨"com/example/foram/foram/TruthAndPinLaw", "rank", "(Lcom/example/foram/foram/Truth;)I"⟩ : MethodName) method_3_code 1 (some .int) :: ws) ({ frames := 0, cells := 0, slots := 0, locals := 0 } : Room)) (fun a U => a = #[(.ref a0)] ∧ Z.Warmed39 U.vm ∧ U.heap = h0) (fun _ _ _ _ _ => True) (fun _ U o U' => ∃ v L, o = .returned v ∧ own_Q (some (.int (1 : Int32))) n0 h0 v U'.heap L ∧ FrameEnd U o U' L ({ frames := 0, cells := 0, slots := 0, locals := 0 } : Room).cells ({ frames := 0, cells := 0, slots := 0, locals := 0 } : Room).slots) := by
  refine MetFree.of_bodySF (plainFor_of_name pn_0) hisR ?_
  intro p e s m args below meth c s₁ Bd hml0 hP hK
  obtain ⟨rfl, hZ, hh⟩ := hP
  have hx := Bd.exec
  have hby := Bd.bytes
  have hml : c.maxLocals = 1 := hml0
  have hlk := BodyLoose.notSynchronized Bd
  have hret := Bd.returns
  have hown : s.vm.findClass "com/example/foram/foram/TruthAndPinLaw" = some m.cls := findClass_of_methodNamed Bd.named
  have hnm := (name_of_methodNamed Bd.named Bd.method).1
  have X0 : Stand p l e ({ frames := 0, cells := 0, slots := 0, locals := 0 } : Room) s m #[(.ref a0)] below meth c s₁ [] 0 0 := Stand.of_body Bd
  have e0 : s₁.heap = h0 := by rw [← hh, Bd.state]; rfl
  have N0 := Fr.nil n0
  rw [ef_3 m a0]
  show Go p e below _ (s₁.setTop (mkF m 0 #[oA a0] []))
  refine own_aload_n 1 X0 hx hby d3_0 rfl rfl rfl ?_
  refine own_getS 4 X0 hx hby hZ hown (own_w hw 5 rfl) e0 (W.1.ext O0.2) d3_1 rfl ?_
  intro T24 X24 e24
  refine own_acmp 9 false X24 hx hby d3_4 rfl rfl (by decide) (by decide) (decide_eq_false fun q => hc25 (Value.ref.inj q)) ?_
  refine own_aload_n 10 X24 hx hby d3_9 rfl rfl rfl ?_
  refine own_getS 13 X24 hx hby hZ hown (own_w hw 23 rfl) e24 (W.2.2.2.2.1.ext O0.2) d3_10 rfl ?_
  intro T26 X26 e26
  refine own_acmp 16 true X26 hx hby d3_13 rfl rfl (by decide) (by decide) (decide_eq_true (congrArg Value.ref hc27)) ?_
  refine own_iconst 17 (1 : Int32) X26 hx hby d3_16 rfl (by decide) ?_
  exact own_ret (Q := own_Q _ n0 h0) X26 hx hby hret hlk d3_17 rfl (Or.inl ⟨rfl, by simp, _, rfl⟩) (by decide) (by decide) ⟨rfl, N0, e26⟩
set_option maxRecDepth 65536 in
set_option maxHeartbeats 40000000 in
theorem rm3_3 (l : Launch) (Z : State) (a0 : Array Value) (hw : ∀ d ∈ tables_1, d.before a0 Z = true) (ws : List Jvm.Cond) (w_FALSE w_TRUE w_UNKNOWN : Addr) (W : own_W Z w_FALSE w_TRUE w_UNKNOWN) (a0 : Addr) (h0 : Heap) (n0 : Nat) (O0 : Old Z n0 h0) (hc25 : ¬ (a0 = w_FALSE)) (hc27 : ¬ (a0 = w_UNKNOWN)) (hc29 : a0 = w_TRUE) :
    MetFree l (⟨"com/example/foram/foram/TruthAndPinLaw", "rank", "(Lcom/example/foram/foram/Truth;)I"⟩ : MethodName) (head1 (Jvm.Cond.code (⟨"com/example/foram/foram/TruthAndPinLaw", "rank", "(Lcom/example/foram/foram/Truth;)I"⟩ : MethodName) method_3_code 1 (some .int) :: ws) ({ frames := 0, cells := 0, slots := 0, locals := 0 } : Room)) (fun a U => a = #[(.ref a0)] ∧ Z.Warmed39 U.vm ∧ U.heap = h0) (fun _ _ _ _ _ => True) (fun _ U o U' => ∃ v L, o = .returned v ∧ own_Q (some (.int (2 : Int32))) n0 h0 v U'.heap L ∧ FrameEnd U o U' L ({ frames := 0, cells := 0, slots := 0, locals := 0 } : Room).cells ({ frames := 0, cells := 0, slots := 0, locals := 0 } : Room).slots) := by
  refine MetFree.of_bodySF (plainFor_of_name pn_0) hisR ?_
  intro p e s m args below meth c s₁ Bd hml0 hP hK
  obtain ⟨rfl, hZ, hh⟩ := hP
  have hx := Bd.exec
  have hby := Bd.bytes
  have hml : c.maxLocals = 1 := hml0
  have hlk := BodyLoose.notSynchronized Bd
  have hret := Bd.returns
  have hown : s.vm.findClass "com/example/foram/foram/TruthAndPinLaw" = some m.cls := findClass_of_methodNamed Bd.named
  have hnm := (name_of_methodNamed Bd.named Bd.method).1
  have X0 : Stand p l e ({ frames := 0, cells := 0, slots := 0, locals := 0 } : Room) s m #[(.ref a0)] below meth c s₁ [] 0 0 := Stand.of_body Bd
  have e0 : s₁.heap = h0 := by rw [← hh, Bd.state]; rfl
  have N0 := Fr.nil n0
  rw [ef_3 m a0]
  show Go p e below _ (s₁.setTop (mkF m 0 #[oA a0] []))
  refine own_aload_n 1 X0 hx hby d3_0 rfl rfl rfl ?_
  refine own_getS 4 X0 hx hby hZ hown (own_w hw 5 rfl) e0 (W.1.ext O0.2) d3_1 rfl ?_
  intro T24 X24 e24
  refine own_acmp 9 false X24 hx hby d3_4 rfl rfl (by decide) (by decide) (decide_eq_false fun q => hc25 (Value.ref.inj q)) ?_
  refine own_aload_n 10 X24 hx hby d3_9 rfl rfl rfl ?_
  refine own_getS 13 X24 hx hby hZ hown (own_w hw 23 rfl) e24 (W.2.2.2.2.1.ext O0.2) d3_10 rfl ?_
  intro T26 X26 e26
  refine own_acmp 18 false X26 hx hby d3_13 rfl rfl (by decide) (by decide) (decide_eq_false fun q => hc27 (Value.ref.inj q)) ?_
  refine own_aload_n 19 X26 hx hby d3_18 rfl rfl rfl ?_
  refine own_getS 22 X26 hx hby hZ hown (own_w hw 21 rfl) e26 (W.2.2.1.ext O0.2) d3_19 rfl ?_
  intro T28 X28 e28
  refine own_acmp 25 true X28 hx hby d3_22 rfl rfl (by decide) (by decide) (decide_eq_true (congrArg Value.ref hc29)) ?_
  refine own_iconst 26 (2 : Int32) X28 hx hby d3_25 rfl (by decide) ?_
  exact own_ret (Q := own_Q _ n0 h0) X28 hx hby hret hlk d3_26 rfl (Or.inl ⟨rfl, by simp, _, rfl⟩) (by decide) (by decide) ⟨rfl, N0, e28⟩
set_option maxRecDepth 65536 in
set_option maxHeartbeats 40000000 in
theorem rm3_4 (l : Launch) (Z : State) (a0 : Array Value) (hw : ∀ d ∈ tables_1, d.before a0 Z = true) (ws : List Jvm.Cond) (w_FALSE w_TRUE w_UNKNOWN : Addr) (W : own_W Z w_FALSE w_TRUE w_UNKNOWN) (a0 : Addr) (h0 : Heap) (n0 : Nat) (O0 : Old Z n0 h0) (hc25 : ¬ (a0 = w_FALSE)) (hc27 : ¬ (a0 = w_UNKNOWN)) (hc29 : ¬ (a0 = w_TRUE)) :
    MetFree l (⟨"com/example/foram/foram/TruthAndPinLaw", "rank", "(Lcom/example/foram/foram/Truth;)I"⟩ : MethodName) (head1 (Jvm.Cond.code (⟨"com/example/foram/foram/TruthAndPinLaw", "rank", "(Lcom/example/foram/foram/Truth;)I"⟩ : MethodName) method_3_code 1 (some .int) :: ws) ({ frames := 0, cells := 0, slots := 0, locals := 0 } : Room)) (fun a U => a = #[(.ref a0)] ∧ Z.Warmed39 U.vm ∧ U.heap = h0) (fun _ _ _ _ _ => True) (fun _ U o U' => ∃ v L, o = .returned v ∧ own_Q (some (.int (-1 : Int32))) n0 h0 v U'.heap L ∧ FrameEnd U o U' L ({ frames := 0, cells := 0, slots := 0, locals := 0 } : Room).cells ({ frames := 0, cells := 0, slots := 0, locals := 0 } : Room).slots) := by
  refine MetFree.of_bodySF (plainFor_of_name pn_0) hisR ?_
  intro p e s m args below meth c s₁ Bd hml0 hP hK
  obtain ⟨rfl, hZ, hh⟩ := hP
  have hx := Bd.exec
  have hby := Bd.bytes
  have hml : c.maxLocals = 1 := hml0
  have hlk := BodyLoose.notSynchronized Bd
  have hret := Bd.returns
  have hown : s.vm.findClass "com/example/foram/foram/TruthAndPinLaw" = some m.cls := findClass_of_methodNamed Bd.named
  have hnm := (name_of_methodNamed Bd.named Bd.method).1
  have X0 : Stand p l e ({ frames := 0, cells := 0, slots := 0, locals := 0 } : Room) s m #[(.ref a0)] below meth c s₁ [] 0 0 := Stand.of_body Bd
  have e0 : s₁.heap = h0 := by rw [← hh, Bd.state]; rfl
  have N0 := Fr.nil n0
  rw [ef_3 m a0]
  show Go p e below _ (s₁.setTop (mkF m 0 #[oA a0] []))
  refine own_aload_n 1 X0 hx hby d3_0 rfl rfl rfl ?_
  refine own_getS 4 X0 hx hby hZ hown (own_w hw 5 rfl) e0 (W.1.ext O0.2) d3_1 rfl ?_
  intro T24 X24 e24
  refine own_acmp 9 false X24 hx hby d3_4 rfl rfl (by decide) (by decide) (decide_eq_false fun q => hc25 (Value.ref.inj q)) ?_
  refine own_aload_n 10 X24 hx hby d3_9 rfl rfl rfl ?_
  refine own_getS 13 X24 hx hby hZ hown (own_w hw 23 rfl) e24 (W.2.2.2.2.1.ext O0.2) d3_10 rfl ?_
  intro T26 X26 e26
  refine own_acmp 18 false X26 hx hby d3_13 rfl rfl (by decide) (by decide) (decide_eq_false fun q => hc27 (Value.ref.inj q)) ?_
  refine own_aload_n 19 X26 hx hby d3_18 rfl rfl rfl ?_
  refine own_getS 22 X26 hx hby hZ hown (own_w hw 21 rfl) e26 (W.2.2.1.ext O0.2) d3_19 rfl ?_
  intro T28 X28 e28
  refine own_acmp 27 false X28 hx hby d3_22 rfl rfl (by decide) (by decide) (decide_eq_false fun q => hc29 (Value.ref.inj q)) ?_
  refine own_iconst 28 (-1 : Int32) X28 hx hby d3_27 rfl (by decide) ?_
  exact own_ret (Q := own_Q _ n0 h0) X28 hx hby hret hlk d3_28 rfl (Or.inl ⟨rfl, by simp, _, rfl⟩) (by decide) (by decide) ⟨rfl, N0, e28⟩
set_option maxRecDepth 65536 in
set_option maxHeartbeats 40000000 in
theorem rm4_1 (l : Launch) (Z : State) (a0 : Array Value) (hw : ∀ d ∈ tables_1, d.before a0 Z = true) (ws : List Jvm.Cond) (w_FALSE w_TRUE w_UNKNOWN : Addr) (W : own_W Z w_FALSE w_TRUE w_UNKNOWN) (x0 : Int32) (x1 : Int32) (h0 : Heap) (n0 : Nat) (O0 : Old Z n0 h0) (hc31 : x1 < x0) :
    MetFree l (⟨"java/lang/Math", "min", "(II)I"⟩ : MethodName) (head1 (Jvm.Cond.code (⟨"java/lang/Math", "min", "(II)I"⟩ : MethodName) jdk_29_method_69_code 2 (some .int) :: ws) ({ frames := 0, cells := 0, slots := 0, locals := 0 } : Room)) (fun a U => a = #[(.int x0), (.int x1)] ∧ Z.Warmed39 U.vm ∧ U.heap = h0) (fun _ _ _ _ _ => True) (fun _ U o U' => ∃ v L, o = .returned v ∧ own_Q (some (.int x1)) n0 h0 v U'.heap L ∧ FrameEnd U o U' L ({ frames := 0, cells := 0, slots := 0, locals := 0 } : Room).cells ({ frames := 0, cells := 0, slots := 0, locals := 0 } : Room).slots) := by
  refine MetFree.of_bodySF (Jvm.Free.JP.mathPlain rfl (by decide +kernel)) hisR ?_
  intro p e s m args below meth c s₁ Bd hml0 hP hK
  obtain ⟨rfl, hZ, hh⟩ := hP
  have hx := Bd.exec
  have hby := Bd.bytes
  have hml : c.maxLocals = 2 := hml0
  have hlk := BodyLoose.notSynchronized Bd
  have hret := Bd.returns
  have hown : s.vm.findClass "java/lang/Math" = some m.cls := findClass_of_methodNamed Bd.named
  have hnm := (name_of_methodNamed Bd.named Bd.method).1
  have X0 : Stand p l e ({ frames := 0, cells := 0, slots := 0, locals := 0 } : Room) s m #[(.int x0), (.int x1)] below meth c s₁ [] 0 0 := Stand.of_body Bd
  have e0 : s₁.heap = h0 := by rw [← hh, Bd.state]; rfl
  have N0 := Fr.nil n0
  rw [ef_4 m x0 x1]
  show Go p e below _ (s₁.setTop (mkF m 0 #[oI x0, oI x1] []))
  refine own_iload_n 1 X0 hx hby d4_0 rfl rfl ?_
  refine own_iload_n 2 X0 hx hby d4_1 rfl rfl ?_
  refine own_icY 9 X0 hx hby d4_2 (by decide) (by decide) (tlt hc31).2.2.1 ?_
  refine own_iload_n 10 X0 hx hby d4_9 rfl rfl ?_
  exact own_ret (Q := own_Q _ n0 h0) X0 hx hby hret hlk d4_10 rfl (Or.inl ⟨rfl, by simp, _, rfl⟩) (by decide) (by decide) ⟨rfl, N0, e0⟩
set_option maxRecDepth 65536 in
set_option maxHeartbeats 40000000 in
theorem rm4_2 (l : Launch) (Z : State) (a0 : Array Value) (hw : ∀ d ∈ tables_1, d.before a0 Z = true) (ws : List Jvm.Cond) (w_FALSE w_TRUE w_UNKNOWN : Addr) (W : own_W Z w_FALSE w_TRUE w_UNKNOWN) (x0 : Int32) (x1 : Int32) (h0 : Heap) (n0 : Nat) (O0 : Old Z n0 h0) (hc31 : ¬ (x1 < x0)) :
    MetFree l (⟨"java/lang/Math", "min", "(II)I"⟩ : MethodName) (head1 (Jvm.Cond.code (⟨"java/lang/Math", "min", "(II)I"⟩ : MethodName) jdk_29_method_69_code 2 (some .int) :: ws) ({ frames := 0, cells := 0, slots := 0, locals := 0 } : Room)) (fun a U => a = #[(.int x0), (.int x1)] ∧ Z.Warmed39 U.vm ∧ U.heap = h0) (fun _ _ _ _ _ => True) (fun _ U o U' => ∃ v L, o = .returned v ∧ own_Q (some (.int x0)) n0 h0 v U'.heap L ∧ FrameEnd U o U' L ({ frames := 0, cells := 0, slots := 0, locals := 0 } : Room).cells ({ frames := 0, cells := 0, slots := 0, locals := 0 } : Room).slots) := by
  refine MetFree.of_bodySF (Jvm.Free.JP.mathPlain rfl (by decide +kernel)) hisR ?_
  intro p e s m args below meth c s₁ Bd hml0 hP hK
  obtain ⟨rfl, hZ, hh⟩ := hP
  have hx := Bd.exec
  have hby := Bd.bytes
  have hml : c.maxLocals = 2 := hml0
  have hlk := BodyLoose.notSynchronized Bd
  have hret := Bd.returns
  have hown : s.vm.findClass "java/lang/Math" = some m.cls := findClass_of_methodNamed Bd.named
  have hnm := (name_of_methodNamed Bd.named Bd.method).1
  have X0 : Stand p l e ({ frames := 0, cells := 0, slots := 0, locals := 0 } : Room) s m #[(.int x0), (.int x1)] below meth c s₁ [] 0 0 := Stand.of_body Bd
  have e0 : s₁.heap = h0 := by rw [← hh, Bd.state]; rfl
  have N0 := Fr.nil n0
  rw [ef_4 m x0 x1]
  show Go p e below _ (s₁.setTop (mkF m 0 #[oI x0, oI x1] []))
  refine own_iload_n 1 X0 hx hby d4_0 rfl rfl ?_
  refine own_iload_n 2 X0 hx hby d4_1 rfl rfl ?_
  refine own_icN 5 X0 hx hby d4_2 rfl (flt hc31).2.2.1 ?_
  refine own_iload_n 6 X0 hx hby d4_5 rfl rfl ?_
  refine own_goto 10 X0 hx hby d4_6 (by decide) (by decide) ?_
  exact own_ret (Q := own_Q _ n0 h0) X0 hx hby hret hlk d4_10 rfl (Or.inl ⟨rfl, by simp, _, rfl⟩) (by decide) (by decide) ⟨rfl, N0, e0⟩
set_option maxRecDepth 65536 in
set_option maxHeartbeats 40000000 in
theorem rm0 (l : Launch) (Z : State) (a0 : Array Value) (hw : ∀ d ∈ tables_1, d.before a0 Z = true) (ws : List Jvm.Cond) (w_FALSE w_TRUE w_UNKNOWN : Addr) (W : own_W Z w_FALSE w_TRUE w_UNKNOWN) (x0 : Int32) (x1 : Int32) (h0 : Heap) (n0 : Nat) (O0 : Old Z n0 h0)  :
    MetFree l x (head1 (Jvm.Cond.code x code maxLocals ret :: ws) room_1) (fun a U => a = #[(.int x0), (.int x1)] ∧ Z.Warmed39 U.vm ∧ U.heap = h0) (fun _ _ _ _ _ => True) (fun _ U o U' => ∃ v L, o = .returned v ∧ own_Q1 n0 v U'.heap L ∧ FrameEnd U o U' L 0 0) := by
  refine MetFree.of_bodySF (plainFor_of_name pn_0) hisR ?_
  intro p e s m args below meth c s₁ Bd hml0 hP hK
  obtain ⟨rfl, hZ, hh⟩ := hP
  have hx := Bd.exec
  have hby := Bd.bytes
  have hml : c.maxLocals = 7 := hml0
  have hlk := BodyLoose.notSynchronized Bd
  have hret := Bd.returns
  have hown : s.vm.findClass "com/example/foram/foram/TruthAndPinLaw" = some m.cls := findClass_of_methodNamed Bd.named
  have hnm := (name_of_methodNamed Bd.named Bd.method).1
  have X0 : Stand p l e room_1 s m #[(.int x0), (.int x1)] below meth c s₁ [] 0 0 := Stand.of_body Bd
  have e0 : s₁.heap = h0 := by rw [← hh, Bd.state]; rfl
  have N0 := Fr.nil n0
  rw [ef_0 m x0 x1]
  show Go p e below _ (s₁.setTop (mkF m 0 #[oI x0, oI x1, oU, oU, oU, oU, oU] []))
  refine own_iload_n 1 X0 hx hby at_0 rfl rfl ?_
  refine own_ldc 3 X0 hx hby hZ hown (own_w hw 0 rfl) at_1 rfl ?_
  refine own_iand 4 (x0 &&& (2147483647 : Int32)) X0 hx hby at_3 rfl rfl ?_
  refine own_iconst 5 (3 : Int32) X0 hx hby at_4 rfl (by decide) ?_
  rcases own_mod3 x0 with hv1 | hv1 | hv1
  · refine own_irem 6 (0 : Int32) X0 hx hby at_5 rfl (by decide) hv1 ?_
    refine own_istore_n 7 #[oI x0, oI x1, oI (0 : Int32), oU, oU, oU, oU] X0 hx hby at_6 rfl rfl ?_
    refine own_iload_n 8 X0 hx hby at_7 rfl rfl ?_
    refine own_ldc 10 X0 hx hby hZ hown (own_w hw 0 rfl) at_8 rfl ?_
    refine own_iand 11 (x1 &&& (2147483647 : Int32)) X0 hx hby at_10 rfl rfl ?_
    refine own_iconst 12 (3 : Int32) X0 hx hby at_11 rfl (by decide) ?_
    rcases own_mod3 x1 with hv2 | hv2 | hv2
    · refine own_irem 13 (0 : Int32) X0 hx hby at_12 rfl (by decide) hv2 ?_
      refine own_istore_n 14 #[oI x0, oI x1, oI (0 : Int32), oI (0 : Int32), oU, oU, oU] X0 hx hby at_13 rfl rfl ?_
      refine own_iload_n 15 X0 hx hby at_14 rfl rfl ?_
      refine own_callS 18 (rm1_1 l Z a0 hw [] w_FALSE w_TRUE w_UNKNOWN W (0 : Int32) h0 n0 O0 (by decide)) X0 hx hby hZ hown (own_w hw 1 rfl) (own_w hw 2 rfl) (own_w hw 3 rfl) (own_w hw 4 rfl) (by decide) (by rw [hml]; rfl) [(.int (0 : Int32))] [] pd_0 rfl at_15 rfl e0 rfl rfl rfl (by decide) (by decide) (by decide) (by decide) ?_
      rintro _ T8 L8 X8 ⟨rfl, N8, e8⟩
      have N8 := Fr.app N0 N8
      show Go p e below _ (T8.setTop (mkF m 18 _ [(.ref w_FALSE)]))
      refine own_astore 20 #[oI x0, oI x1, oI (0 : Int32), oI (0 : Int32), oA w_FALSE, oU, oU] X8 hx hby at_18 rfl rfl rfl ?_
      refine own_iload_n 21 X8 hx hby at_20 rfl rfl ?_
      refine own_callS 24 (rm1_1 l Z a0 hw [] w_FALSE w_TRUE w_UNKNOWN W (0 : Int32) h0 n0 O0 (by decide)) X8 hx hby hZ hown (own_w hw 1 rfl) (own_w hw 2 rfl) (own_w hw 3 rfl) (own_w hw 4 rfl) (by decide) (by rw [hml]; rfl) [(.int (0 : Int32))] [] pd_0 rfl at_21 rfl e8 rfl rfl rfl (by decide) (by decide) (by decide) (by decide) ?_
      rintro _ T9 L9 X9 ⟨rfl, N9, e9⟩
      have N9 := Fr.app N8 N9
      show Go p e below _ (T9.setTop (mkF m 24 _ [(.ref w_FALSE)]))
      refine own_astore 26 #[oI x0, oI x1, oI (0 : Int32), oI (0 : Int32), oA w_FALSE, oA w_FALSE, oU] X9 hx hby at_24 rfl rfl rfl ?_
      refine own_aload 28 X9 hx hby at_26 rfl rfl rfl ?_
      refine own_aload 30 X9 hx hby at_28 rfl rfl rfl ?_
      refine own_virt 33 (rm2_1 l Z a0 hw [] w_FALSE w_TRUE w_UNKNOWN W w_FALSE w_FALSE h0 n0 O0 rfl) X9 hx hby hZ hown (own_w hw 8 rfl) (own_w hw 9 rfl) (notFace_of_selects (args := #[]) (mvT hZ (own_w hw 11 rfl))) (own_w hw 11 rfl) (own_w hw 10 rfl) (own_w hw 6 rfl) (own_w hw 12 rfl) (by decide) (by rw [hml]; rfl) w_FALSE [(.ref w_FALSE)] [] pd_1 rfl at_30 rfl e9 (W.2.1.ext O0.2) rfl rfl rfl (by decide) (by decide) (by decide) (by decide) ?_
      rintro _ T23 L23 X23 ⟨rfl, N23, e23⟩
      have N23 := Fr.app N9 N23
      show Go p e below _ (T23.setTop (mkF m 33 _ [(.ref w_FALSE)]))
      refine own_astore 35 #[oI x0, oI x1, oI (0 : Int32), oI (0 : Int32), oA w_FALSE, oA w_FALSE, oA w_FALSE] X23 hx hby at_33 rfl rfl rfl ?_
      refine own_aload 37 X23 hx hby at_35 rfl rfl rfl ?_
      refine own_callS 40 (rm3_1 l Z a0 hw [] w_FALSE w_TRUE w_UNKNOWN W w_FALSE h0 n0 O0 rfl) X23 hx hby hZ hown (own_w hw 14 rfl) (own_w hw 15 rfl) (own_w hw 3 rfl) (own_w hw 16 rfl) (by decide) (by rw [hml]; rfl) [(.ref w_FALSE)] [] pd_2 rfl at_37 rfl e23 rfl rfl rfl (by decide) (by decide) (by decide) (by decide) ?_
      rintro _ T30 L30 X30 ⟨rfl, N30, e30⟩
      have N30 := Fr.app N23 N30
      show Go p e below _ (T30.setTop (mkF m 40 _ [(.int (0 : Int32))]))
      refine own_iload_n 41 X30 hx hby at_40 rfl rfl ?_
      refine own_iload_n 42 X30 hx hby at_41 rfl rfl ?_
      refine own_callS 45 (rm4_2 l Z a0 hw [] w_FALSE w_TRUE w_UNKNOWN W (0 : Int32) (0 : Int32) h0 n0 O0 (by decide)) X30 hx hby hZ hown (own_w hw 17 rfl) (own_w hw 18 rfl) (own_w hw 19 rfl) (own_w hw 20 rfl) (by decide) (by rw [hml]; rfl) [(.int (0 : Int32)), (.int (0 : Int32))] [(.int (0 : Int32))] pd_3 rfl at_42 rfl e30 rfl rfl rfl (by decide) (by decide) (by decide) (by decide) ?_
      rintro _ T32 L32 X32 ⟨rfl, N32, e32⟩
      have N32 := Fr.app N30 N32
      show Go p e below _ (T32.setTop (mkF m 45 _ [(.int (0 : Int32)), (.int (0 : Int32))]))
      refine own_icN 48 X32 hx hby at_45 rfl (by decide) ?_
      refine own_iconst 49 (1 : Int32) X32 hx hby at_48 rfl (by decide) ?_
      refine own_goto 53 X32 hx hby at_49 (by decide) (by decide) ?_
      exact own_ret (Q := own_Q1 n0) X32 hx hby hret hlk at_53 rfl (Or.inl ⟨rfl, by simp, _, rfl⟩) (by decide) (by decide) ⟨rfl, N32⟩
    · refine own_irem 13 (1 : Int32) X0 hx hby at_12 rfl (by decide) hv2 ?_
      refine own_istore_n 14 #[oI x0, oI x1, oI (0 : Int32), oI (1 : Int32), oU, oU, oU] X0 hx hby at_13 rfl rfl ?_
      refine own_iload_n 15 X0 hx hby at_14 rfl rfl ?_
      refine own_callS 18 (rm1_1 l Z a0 hw [] w_FALSE w_TRUE w_UNKNOWN W (0 : Int32) h0 n0 O0 (by decide)) X0 hx hby hZ hown (own_w hw 1 rfl) (own_w hw 2 rfl) (own_w hw 3 rfl) (own_w hw 4 rfl) (by decide) (by rw [hml]; rfl) [(.int (0 : Int32))] [] pd_0 rfl at_15 rfl e0 rfl rfl rfl (by decide) (by decide) (by decide) (by decide) ?_
      rintro _ T33 L33 X33 ⟨rfl, N33, e33⟩
      have N33 := Fr.app N0 N33
      show Go p e below _ (T33.setTop (mkF m 18 _ [(.ref w_FALSE)]))
      refine own_astore 20 #[oI x0, oI x1, oI (0 : Int32), oI (1 : Int32), oA w_FALSE, oU, oU] X33 hx hby at_18 rfl rfl rfl ?_
      refine own_iload_n 21 X33 hx hby at_20 rfl rfl ?_
      refine own_callS 24 (rm1_2 l Z a0 hw [] w_FALSE w_TRUE w_UNKNOWN W (1 : Int32) h0 n0 O0 (by decide) (by decide)) X33 hx hby hZ hown (own_w hw 1 rfl) (own_w hw 2 rfl) (own_w hw 3 rfl) (own_w hw 4 rfl) (by decide) (by rw [hml]; rfl) [(.int (1 : Int32))] [] pd_0 rfl at_21 rfl e33 rfl rfl rfl (by decide) (by decide) (by decide) (by decide) ?_
      rintro _ T34 L34 X34 ⟨rfl, N34, e34⟩
      have N34 := Fr.app N33 N34
      show Go p e below _ (T34.setTop (mkF m 24 _ [(.ref w_UNKNOWN)]))
      refine own_astore 26 #[oI x0, oI x1, oI (0 : Int32), oI (1 : Int32), oA w_FALSE, oA w_UNKNOWN, oU] X34 hx hby at_24 rfl rfl rfl ?_
      refine own_aload 28 X34 hx hby at_26 rfl rfl rfl ?_
      refine own_aload 30 X34 hx hby at_28 rfl rfl rfl ?_
      refine own_virt 33 (rm2_1 l Z a0 hw [] w_FALSE w_TRUE w_UNKNOWN W w_FALSE w_UNKNOWN h0 n0 O0 rfl) X34 hx hby hZ hown (own_w hw 8 rfl) (own_w hw 9 rfl) (notFace_of_selects (args := #[]) (mvT hZ (own_w hw 11 rfl))) (own_w hw 11 rfl) (own_w hw 10 rfl) (own_w hw 6 rfl) (own_w hw 12 rfl) (by decide) (by rw [hml]; rfl) w_FALSE [(.ref w_UNKNOWN)] [] pd_1 rfl at_30 rfl e34 (W.2.1.ext O0.2) rfl rfl rfl (by decide) (by decide) (by decide) (by decide) ?_
      rintro _ T35 L35 X35 ⟨rfl, N35, e35⟩
      have N35 := Fr.app N34 N35
      show Go p e below _ (T35.setTop (mkF m 33 _ [(.ref w_FALSE)]))
      refine own_astore 35 #[oI x0, oI x1, oI (0 : Int32), oI (1 : Int32), oA w_FALSE, oA w_UNKNOWN, oA w_FALSE] X35 hx hby at_33 rfl rfl rfl ?_
      refine own_aload 37 X35 hx hby at_35 rfl rfl rfl ?_
      refine own_callS 40 (rm3_1 l Z a0 hw [] w_FALSE w_TRUE w_UNKNOWN W w_FALSE h0 n0 O0 rfl) X35 hx hby hZ hown (own_w hw 14 rfl) (own_w hw 15 rfl) (own_w hw 3 rfl) (own_w hw 16 rfl) (by decide) (by rw [hml]; rfl) [(.ref w_FALSE)] [] pd_2 rfl at_37 rfl e35 rfl rfl rfl (by decide) (by decide) (by decide) (by decide) ?_
      rintro _ T36 L36 X36 ⟨rfl, N36, e36⟩
      have N36 := Fr.app N35 N36
      show Go p e below _ (T36.setTop (mkF m 40 _ [(.int (0 : Int32))]))
      refine own_iload_n 41 X36 hx hby at_40 rfl rfl ?_
      refine own_iload_n 42 X36 hx hby at_41 rfl rfl ?_
      refine own_callS 45 (rm4_2 l Z a0 hw [] w_FALSE w_TRUE w_UNKNOWN W (0 : Int32) (1 : Int32) h0 n0 O0 (by decide)) X36 hx hby hZ hown (own_w hw 17 rfl) (own_w hw 18 rfl) (own_w hw 19 rfl) (own_w hw 20 rfl) (by decide) (by rw [hml]; rfl) [(.int (0 : Int32)), (.int (1 : Int32))] [(.int (0 : Int32))] pd_3 rfl at_42 rfl e36 rfl rfl rfl (by decide) (by decide) (by decide) (by decide) ?_
      rintro _ T37 L37 X37 ⟨rfl, N37, e37⟩
      have N37 := Fr.app N36 N37
      show Go p e below _ (T37.setTop (mkF m 45 _ [(.int (0 : Int32)), (.int (0 : Int32))]))
      refine own_icN 48 X37 hx hby at_45 rfl (by decide) ?_
      refine own_iconst 49 (1 : Int32) X37 hx hby at_48 rfl (by decide) ?_
      refine own_goto 53 X37 hx hby at_49 (by decide) (by decide) ?_
      exact own_ret (Q := own_Q1 n0) X37 hx hby hret hlk at_53 rfl (Or.inl ⟨rfl, by simp, _, rfl⟩) (by decide) (by decide) ⟨rfl, N37⟩
    · refine own_irem 13 (2 : Int32) X0 hx hby at_12 rfl (by decide) hv2 ?_
      refine own_istore_n 14 #[oI x0, oI x1, oI (0 : Int32), oI (2 : Int32), oU, oU, oU] X0 hx hby at_13 rfl rfl ?_
      refine own_iload_n 15 X0 hx hby at_14 rfl rfl ?_
      refine own_callS 18 (rm1_1 l Z a0 hw [] w_FALSE w_TRUE w_UNKNOWN W (0 : Int32) h0 n0 O0 (by decide)) X0 hx hby hZ hown (own_w hw 1 rfl) (own_w hw 2 rfl) (own_w hw 3 rfl) (own_w hw 4 rfl) (by decide) (by rw [hml]; rfl) [(.int (0 : Int32))] [] pd_0 rfl at_15 rfl e0 rfl rfl rfl (by decide) (by decide) (by decide) (by decide) ?_
      rintro _ T38 L38 X38 ⟨rfl, N38, e38⟩
      have N38 := Fr.app N0 N38
      show Go p e below _ (T38.setTop (mkF m 18 _ [(.ref w_FALSE)]))
      refine own_astore 20 #[oI x0, oI x1, oI (0 : Int32), oI (2 : Int32), oA w_FALSE, oU, oU] X38 hx hby at_18 rfl rfl rfl ?_
      refine own_iload_n 21 X38 hx hby at_20 rfl rfl ?_
      refine own_callS 24 (rm1_3 l Z a0 hw [] w_FALSE w_TRUE w_UNKNOWN W (2 : Int32) h0 n0 O0 (by decide) (by decide)) X38 hx hby hZ hown (own_w hw 1 rfl) (own_w hw 2 rfl) (own_w hw 3 rfl) (own_w hw 4 rfl) (by decide) (by rw [hml]; rfl) [(.int (2 : Int32))] [] pd_0 rfl at_21 rfl e38 rfl rfl rfl (by decide) (by decide) (by decide) (by decide) ?_
      rintro _ T39 L39 X39 ⟨rfl, N39, e39⟩
      have N39 := Fr.app N38 N39
      show Go p e below _ (T39.setTop (mkF m 24 _ [(.ref w_TRUE)]))
      refine own_astore 26 #[oI x0, oI x1, oI (0 : Int32), oI (2 : Int32), oA w_FALSE, oA w_TRUE, oU] X39 hx hby at_24 rfl rfl rfl ?_
      refine own_aload 28 X39 hx hby at_26 rfl rfl rfl ?_
      refine own_aload 30 X39 hx hby at_28 rfl rfl rfl ?_
      refine own_virt 33 (rm2_1 l Z a0 hw [] w_FALSE w_TRUE w_UNKNOWN W w_FALSE w_TRUE h0 n0 O0 rfl) X39 hx hby hZ hown (own_w hw 8 rfl) (own_w hw 9 rfl) (notFace_of_selects (args := #[]) (mvT hZ (own_w hw 11 rfl))) (own_w hw 11 rfl) (own_w hw 10 rfl) (own_w hw 6 rfl) (own_w hw 12 rfl) (by decide) (by rw [hml]; rfl) w_FALSE [(.ref w_TRUE)] [] pd_1 rfl at_30 rfl e39 (W.2.1.ext O0.2) rfl rfl rfl (by decide) (by decide) (by decide) (by decide) ?_
      rintro _ T40 L40 X40 ⟨rfl, N40, e40⟩
      have N40 := Fr.app N39 N40
      show Go p e below _ (T40.setTop (mkF m 33 _ [(.ref w_FALSE)]))
      refine own_astore 35 #[oI x0, oI x1, oI (0 : Int32), oI (2 : Int32), oA w_FALSE, oA w_TRUE, oA w_FALSE] X40 hx hby at_33 rfl rfl rfl ?_
      refine own_aload 37 X40 hx hby at_35 rfl rfl rfl ?_
      refine own_callS 40 (rm3_1 l Z a0 hw [] w_FALSE w_TRUE w_UNKNOWN W w_FALSE h0 n0 O0 rfl) X40 hx hby hZ hown (own_w hw 14 rfl) (own_w hw 15 rfl) (own_w hw 3 rfl) (own_w hw 16 rfl) (by decide) (by rw [hml]; rfl) [(.ref w_FALSE)] [] pd_2 rfl at_37 rfl e40 rfl rfl rfl (by decide) (by decide) (by decide) (by decide) ?_
      rintro _ T41 L41 X41 ⟨rfl, N41, e41⟩
      have N41 := Fr.app N40 N41
      show Go p e below _ (T41.setTop (mkF m 40 _ [(.int (0 : Int32))]))
      refine own_iload_n 41 X41 hx hby at_40 rfl rfl ?_
      refine own_iload_n 42 X41 hx hby at_41 rfl rfl ?_
      refine own_callS 45 (rm4_2 l Z a0 hw [] w_FALSE w_TRUE w_UNKNOWN W (0 : Int32) (2 : Int32) h0 n0 O0 (by decide)) X41 hx hby hZ hown (own_w hw 17 rfl) (own_w hw 18 rfl) (own_w hw 19 rfl) (own_w hw 20 rfl) (by decide) (by rw [hml]; rfl) [(.int (0 : Int32)), (.int (2 : Int32))] [(.int (0 : Int32))] pd_3 rfl at_42 rfl e41 rfl rfl rfl (by decide) (by decide) (by decide) (by decide) ?_
      rintro _ T42 L42 X42 ⟨rfl, N42, e42⟩
      have N42 := Fr.app N41 N42
      show Go p e below _ (T42.setTop (mkF m 45 _ [(.int (0 : Int32)), (.int (0 : Int32))]))
      refine own_icN 48 X42 hx hby at_45 rfl (by decide) ?_
      refine own_iconst 49 (1 : Int32) X42 hx hby at_48 rfl (by decide) ?_
      refine own_goto 53 X42 hx hby at_49 (by decide) (by decide) ?_
      exact own_ret (Q := own_Q1 n0) X42 hx hby hret hlk at_53 rfl (Or.inl ⟨rfl, by simp, _, rfl⟩) (by decide) (by decide) ⟨rfl, N42⟩
  · refine own_irem 6 (1 : Int32) X0 hx hby at_5 rfl (by decide) hv1 ?_
    refine own_istore_n 7 #[oI x0, oI x1, oI (1 : Int32), oU, oU, oU, oU] X0 hx hby at_6 rfl rfl ?_
    refine own_iload_n 8 X0 hx hby at_7 rfl rfl ?_
    refine own_ldc 10 X0 hx hby hZ hown (own_w hw 0 rfl) at_8 rfl ?_
    refine own_iand 11 (x1 &&& (2147483647 : Int32)) X0 hx hby at_10 rfl rfl ?_
    refine own_iconst 12 (3 : Int32) X0 hx hby at_11 rfl (by decide) ?_
    rcases own_mod3 x1 with hv43 | hv43 | hv43
    · refine own_irem 13 (0 : Int32) X0 hx hby at_12 rfl (by decide) hv43 ?_
      refine own_istore_n 14 #[oI x0, oI x1, oI (1 : Int32), oI (0 : Int32), oU, oU, oU] X0 hx hby at_13 rfl rfl ?_
      refine own_iload_n 15 X0 hx hby at_14 rfl rfl ?_
      refine own_callS 18 (rm1_2 l Z a0 hw [] w_FALSE w_TRUE w_UNKNOWN W (1 : Int32) h0 n0 O0 (by decide) (by decide)) X0 hx hby hZ hown (own_w hw 1 rfl) (own_w hw 2 rfl) (own_w hw 3 rfl) (own_w hw 4 rfl) (by decide) (by rw [hml]; rfl) [(.int (1 : Int32))] [] pd_0 rfl at_15 rfl e0 rfl rfl rfl (by decide) (by decide) (by decide) (by decide) ?_
      rintro _ T44 L44 X44 ⟨rfl, N44, e44⟩
      have N44 := Fr.app N0 N44
      show Go p e below _ (T44.setTop (mkF m 18 _ [(.ref w_UNKNOWN)]))
      refine own_astore 20 #[oI x0, oI x1, oI (1 : Int32), oI (0 : Int32), oA w_UNKNOWN, oU, oU] X44 hx hby at_18 rfl rfl rfl ?_
      refine own_iload_n 21 X44 hx hby at_20 rfl rfl ?_
      refine own_callS 24 (rm1_1 l Z a0 hw [] w_FALSE w_TRUE w_UNKNOWN W (0 : Int32) h0 n0 O0 (by decide)) X44 hx hby hZ hown (own_w hw 1 rfl) (own_w hw 2 rfl) (own_w hw 3 rfl) (own_w hw 4 rfl) (by decide) (by rw [hml]; rfl) [(.int (0 : Int32))] [] pd_0 rfl at_21 rfl e44 rfl rfl rfl (by decide) (by decide) (by decide) (by decide) ?_
      rintro _ T45 L45 X45 ⟨rfl, N45, e45⟩
      have N45 := Fr.app N44 N45
      show Go p e below _ (T45.setTop (mkF m 24 _ [(.ref w_FALSE)]))
      refine own_astore 26 #[oI x0, oI x1, oI (1 : Int32), oI (0 : Int32), oA w_UNKNOWN, oA w_FALSE, oU] X45 hx hby at_24 rfl rfl rfl ?_
      refine own_aload 28 X45 hx hby at_26 rfl rfl rfl ?_
      refine own_aload 30 X45 hx hby at_28 rfl rfl rfl ?_
      refine own_virt 33 (rm2_2 l Z a0 hw [] w_FALSE w_TRUE w_UNKNOWN W w_UNKNOWN w_FALSE h0 n0 O0 (Fld.ne W.2.2.2.2.2.2.2.2 W.2.2.2.2.2.2.2.1 (fun q => absurd (Value.int.inj q) (by decide))) rfl) X45 hx hby hZ hown (own_w hw 8 rfl) (own_w hw 9 rfl) (notFace_of_selects (args := #[]) (mvT hZ (own_w hw 11 rfl))) (own_w hw 11 rfl) (own_w hw 10 rfl) (own_w hw 6 rfl) (own_w hw 12 rfl) (by decide) (by rw [hml]; rfl) w_UNKNOWN [(.ref w_FALSE)] [] pd_1 rfl at_30 rfl e45 (W.2.2.2.2.2.1.ext O0.2) rfl rfl rfl (by decide) (by decide) (by decide) (by decide) ?_
      rintro _ T46 L46 X46 ⟨rfl, N46, e46⟩
      have N46 := Fr.app N45 N46
      show Go p e below _ (T46.setTop (mkF m 33 _ [(.ref w_FALSE)]))
      refine own_astore 35 #[oI x0, oI x1, oI (1 : Int32), oI (0 : Int32), oA w_UNKNOWN, oA w_FALSE, oA w_FALSE] X46 hx hby at_33 rfl rfl rfl ?_
      refine own_aload 37 X46 hx hby at_35 rfl rfl rfl ?_
      refine own_callS 40 (rm3_1 l Z a0 hw [] w_FALSE w_TRUE w_UNKNOWN W w_FALSE h0 n0 O0 rfl) X46 hx hby hZ hown (own_w hw 14 rfl) (own_w hw 15 rfl) (own_w hw 3 rfl) (own_w hw 16 rfl) (by decide) (by rw [hml]; rfl) [(.ref w_FALSE)] [] pd_2 rfl at_37 rfl e46 rfl rfl rfl (by decide) (by decide) (by decide) (by decide) ?_
      rintro _ T47 L47 X47 ⟨rfl, N47, e47⟩
      have N47 := Fr.app N46 N47
      show Go p e below _ (T47.setTop (mkF m 40 _ [(.int (0 : Int32))]))
      refine own_iload_n 41 X47 hx hby at_40 rfl rfl ?_
      refine own_iload_n 42 X47 hx hby at_41 rfl rfl ?_
      refine own_callS 45 (rm4_1 l Z a0 hw [] w_FALSE w_TRUE w_UNKNOWN W (1 : Int32) (0 : Int32) h0 n0 O0 (by decide)) X47 hx hby hZ hown (own_w hw 17 rfl) (own_w hw 18 rfl) (own_w hw 19 rfl) (own_w hw 20 rfl) (by decide) (by rw [hml]; rfl) [(.int (1 : Int32)), (.int (0 : Int32))] [(.int (0 : Int32))] pd_3 rfl at_42 rfl e47 rfl rfl rfl (by decide) (by decide) (by decide) (by decide) ?_
      rintro _ T48 L48 X48 ⟨rfl, N48, e48⟩
      have N48 := Fr.app N47 N48
      show Go p e below _ (T48.setTop (mkF m 45 _ [(.int (0 : Int32)), (.int (0 : Int32))]))
      refine own_icN 48 X48 hx hby at_45 rfl (by decide) ?_
      refine own_iconst 49 (1 : Int32) X48 hx hby at_48 rfl (by decide) ?_
      refine own_goto 53 X48 hx hby at_49 (by decide) (by decide) ?_
      exact own_ret (Q := own_Q1 n0) X48 hx hby hret hlk at_53 rfl (Or.inl ⟨rfl, by simp, _, rfl⟩) (by decide) (by decide) ⟨rfl, N48⟩
    · refine own_irem 13 (1 : Int32) X0 hx hby at_12 rfl (by decide) hv43 ?_
      refine own_istore_n 14 #[oI x0, oI x1, oI (1 : Int32), oI (1 : Int32), oU, oU, oU] X0 hx hby at_13 rfl rfl ?_
      refine own_iload_n 15 X0 hx hby at_14 rfl rfl ?_
      refine own_callS 18 (rm1_2 l Z a0 hw [] w_FALSE w_TRUE w_UNKNOWN W (1 : Int32) h0 n0 O0 (by decide) (by decide)) X0 hx hby hZ hown (own_w hw 1 rfl) (own_w hw 2 rfl) (own_w hw 3 rfl) (own_w hw 4 rfl) (by decide) (by rw [hml]; rfl) [(.int (1 : Int32))] [] pd_0 rfl at_15 rfl e0 rfl rfl rfl (by decide) (by decide) (by decide) (by decide) ?_
      rintro _ T49 L49 X49 ⟨rfl, N49, e49⟩
      have N49 := Fr.app N0 N49
      show Go p e below _ (T49.setTop (mkF m 18 _ [(.ref w_UNKNOWN)]))
      refine own_astore 20 #[oI x0, oI x1, oI (1 : Int32), oI (1 : Int32), oA w_UNKNOWN, oU, oU] X49 hx hby at_18 rfl rfl rfl ?_
      refine own_iload_n 21 X49 hx hby at_20 rfl rfl ?_
      refine own_callS 24 (rm1_2 l Z a0 hw [] w_FALSE w_TRUE w_UNKNOWN W (1 : Int32) h0 n0 O0 (by decide) (by decide)) X49 hx hby hZ hown (own_w hw 1 rfl) (own_w hw 2 rfl) (own_w hw 3 rfl) (own_w hw 4 rfl) (by decide) (by rw [hml]; rfl) [(.int (1 : Int32))] [] pd_0 rfl at_21 rfl e49 rfl rfl rfl (by decide) (by decide) (by decide) (by decide) ?_
      rintro _ T50 L50 X50 ⟨rfl, N50, e50⟩
      have N50 := Fr.app N49 N50
      show Go p e below _ (T50.setTop (mkF m 24 _ [(.ref w_UNKNOWN)]))
      refine own_astore 26 #[oI x0, oI x1, oI (1 : Int32), oI (1 : Int32), oA w_UNKNOWN, oA w_UNKNOWN, oU] X50 hx hby at_24 rfl rfl rfl ?_
      refine own_aload 28 X50 hx hby at_26 rfl rfl rfl ?_
      refine own_aload 30 X50 hx hby at_28 rfl rfl rfl ?_
      refine own_virt 33 (rm2_5 l Z a0 hw [] w_FALSE w_TRUE w_UNKNOWN W w_UNKNOWN w_UNKNOWN h0 n0 O0 (Fld.ne W.2.2.2.2.2.2.2.2 W.2.2.2.2.2.2.2.1 (fun q => absurd (Value.int.inj q) (by decide))) (Fld.ne W.2.2.2.2.2.2.2.2 W.2.2.2.2.2.2.2.1 (fun q => absurd (Value.int.inj q) (by decide))) (Fld.ne W.2.2.2.2.2.2.2.2 W.2.2.2.2.2.2.1 (fun q => absurd (Value.int.inj q) (by decide)))) X50 hx hby hZ hown (own_w hw 8 rfl) (own_w hw 9 rfl) (notFace_of_selects (args := #[]) (mvT hZ (own_w hw 11 rfl))) (own_w hw 11 rfl) (own_w hw 10 rfl) (own_w hw 6 rfl) (own_w hw 12 rfl) (by decide) (by rw [hml]; rfl) w_UNKNOWN [(.ref w_UNKNOWN)] [] pd_1 rfl at_30 rfl e50 (W.2.2.2.2.2.1.ext O0.2) rfl rfl rfl (by decide) (by decide) (by decide) (by decide) ?_
      rintro _ T51 L51 X51 ⟨rfl, N51, e51⟩
      have N51 := Fr.app N50 N51
      show Go p e below _ (T51.setTop (mkF m 33 _ [(.ref w_UNKNOWN)]))
      refine own_astore 35 #[oI x0, oI x1, oI (1 : Int32), oI (1 : Int32), oA w_UNKNOWN, oA w_UNKNOWN, oA w_UNKNOWN] X51 hx hby at_33 rfl rfl rfl ?_
      refine own_aload 37 X51 hx hby at_35 rfl rfl rfl ?_
      refine own_callS 40 (rm3_2 l Z a0 hw [] w_FALSE w_TRUE w_UNKNOWN W w_UNKNOWN h0 n0 O0 (Fld.ne W.2.2.2.2.2.2.2.2 W.2.2.2.2.2.2.2.1 (fun q => absurd (Value.int.inj q) (by decide))) rfl) X51 hx hby hZ hown (own_w hw 14 rfl) (own_w hw 15 rfl) (own_w hw 3 rfl) (own_w hw 16 rfl) (by decide) (by rw [hml]; rfl) [(.ref w_UNKNOWN)] [] pd_2 rfl at_37 rfl e51 rfl rfl rfl (by decide) (by decide) (by decide) (by decide) ?_
      rintro _ T52 L52 X52 ⟨rfl, N52, e52⟩
      have N52 := Fr.app N51 N52
      show Go p e below _ (T52.setTop (mkF m 40 _ [(.int (1 : Int32))]))
      refine own_iload_n 41 X52 hx hby at_40 rfl rfl ?_
      refine own_iload_n 42 X52 hx hby at_41 rfl rfl ?_
      refine own_callS 45 (rm4_2 l Z a0 hw [] w_FALSE w_TRUE w_UNKNOWN W (1 : Int32) (1 : Int32) h0 n0 O0 (by decide)) X52 hx hby hZ hown (own_w hw 17 rfl) (own_w hw 18 rfl) (own_w hw 19 rfl) (own_w hw 20 rfl) (by decide) (by rw [hml]; rfl) [(.int (1 : Int32)), (.int (1 : Int32))] [(.int (1 : Int32))] pd_3 rfl at_42 rfl e52 rfl rfl rfl (by decide) (by decide) (by decide) (by decide) ?_
      rintro _ T53 L53 X53 ⟨rfl, N53, e53⟩
      have N53 := Fr.app N52 N53
      show Go p e below _ (T53.setTop (mkF m 45 _ [(.int (1 : Int32)), (.int (1 : Int32))]))
      refine own_icN 48 X53 hx hby at_45 rfl (by decide) ?_
      refine own_iconst 49 (1 : Int32) X53 hx hby at_48 rfl (by decide) ?_
      refine own_goto 53 X53 hx hby at_49 (by decide) (by decide) ?_
      exact own_ret (Q := own_Q1 n0) X53 hx hby hret hlk at_53 rfl (Or.inl ⟨rfl, by simp, _, rfl⟩) (by decide) (by decide) ⟨rfl, N53⟩
    · refine own_irem 13 (2 : Int32) X0 hx hby at_12 rfl (by decide) hv43 ?_
      refine own_istore_n 14 #[oI x0, oI x1, oI (1 : Int32), oI (2 : Int32), oU, oU, oU] X0 hx hby at_13 rfl rfl ?_
      refine own_iload_n 15 X0 hx hby at_14 rfl rfl ?_
      refine own_callS 18 (rm1_2 l Z a0 hw [] w_FALSE w_TRUE w_UNKNOWN W (1 : Int32) h0 n0 O0 (by decide) (by decide)) X0 hx hby hZ hown (own_w hw 1 rfl) (own_w hw 2 rfl) (own_w hw 3 rfl) (own_w hw 4 rfl) (by decide) (by rw [hml]; rfl) [(.int (1 : Int32))] [] pd_0 rfl at_15 rfl e0 rfl rfl rfl (by decide) (by decide) (by decide) (by decide) ?_
      rintro _ T54 L54 X54 ⟨rfl, N54, e54⟩
      have N54 := Fr.app N0 N54
      show Go p e below _ (T54.setTop (mkF m 18 _ [(.ref w_UNKNOWN)]))
      refine own_astore 20 #[oI x0, oI x1, oI (1 : Int32), oI (2 : Int32), oA w_UNKNOWN, oU, oU] X54 hx hby at_18 rfl rfl rfl ?_
      refine own_iload_n 21 X54 hx hby at_20 rfl rfl ?_
      refine own_callS 24 (rm1_3 l Z a0 hw [] w_FALSE w_TRUE w_UNKNOWN W (2 : Int32) h0 n0 O0 (by decide) (by decide)) X54 hx hby hZ hown (own_w hw 1 rfl) (own_w hw 2 rfl) (own_w hw 3 rfl) (own_w hw 4 rfl) (by decide) (by rw [hml]; rfl) [(.int (2 : Int32))] [] pd_0 rfl at_21 rfl e54 rfl rfl rfl (by decide) (by decide) (by decide) (by decide) ?_
      rintro _ T55 L55 X55 ⟨rfl, N55, e55⟩
      have N55 := Fr.app N54 N55
      show Go p e below _ (T55.setTop (mkF m 24 _ [(.ref w_TRUE)]))
      refine own_astore 26 #[oI x0, oI x1, oI (1 : Int32), oI (2 : Int32), oA w_UNKNOWN, oA w_TRUE, oU] X55 hx hby at_24 rfl rfl rfl ?_
      refine own_aload 28 X55 hx hby at_26 rfl rfl rfl ?_
      refine own_aload 30 X55 hx hby at_28 rfl rfl rfl ?_
      refine own_virt 33 (rm2_5 l Z a0 hw [] w_FALSE w_TRUE w_UNKNOWN W w_UNKNOWN w_TRUE h0 n0 O0 (Fld.ne W.2.2.2.2.2.2.2.2 W.2.2.2.2.2.2.2.1 (fun q => absurd (Value.int.inj q) (by decide))) (Fld.ne W.2.2.2.2.2.2.1 W.2.2.2.2.2.2.2.1 (fun q => absurd (Value.int.inj q) (by decide))) (Fld.ne W.2.2.2.2.2.2.2.2 W.2.2.2.2.2.2.1 (fun q => absurd (Value.int.inj q) (by decide)))) X55 hx hby hZ hown (own_w hw 8 rfl) (own_w hw 9 rfl) (notFace_of_selects (args := #[]) (mvT hZ (own_w hw 11 rfl))) (own_w hw 11 rfl) (own_w hw 10 rfl) (own_w hw 6 rfl) (own_w hw 12 rfl) (by decide) (by rw [hml]; rfl) w_UNKNOWN [(.ref w_TRUE)] [] pd_1 rfl at_30 rfl e55 (W.2.2.2.2.2.1.ext O0.2) rfl rfl rfl (by decide) (by decide) (by decide) (by decide) ?_
      rintro _ T56 L56 X56 ⟨rfl, N56, e56⟩
      have N56 := Fr.app N55 N56
      show Go p e below _ (T56.setTop (mkF m 33 _ [(.ref w_UNKNOWN)]))
      refine own_astore 35 #[oI x0, oI x1, oI (1 : Int32), oI (2 : Int32), oA w_UNKNOWN, oA w_TRUE, oA w_UNKNOWN] X56 hx hby at_33 rfl rfl rfl ?_
      refine own_aload 37 X56 hx hby at_35 rfl rfl rfl ?_
      refine own_callS 40 (rm3_2 l Z a0 hw [] w_FALSE w_TRUE w_UNKNOWN W w_UNKNOWN h0 n0 O0 (Fld.ne W.2.2.2.2.2.2.2.2 W.2.2.2.2.2.2.2.1 (fun q => absurd (Value.int.inj q) (by decide))) rfl) X56 hx hby hZ hown (own_w hw 14 rfl) (own_w hw 15 rfl) (own_w hw 3 rfl) (own_w hw 16 rfl) (by decide) (by rw [hml]; rfl) [(.ref w_UNKNOWN)] [] pd_2 rfl at_37 rfl e56 rfl rfl rfl (by decide) (by decide) (by decide) (by decide) ?_
      rintro _ T57 L57 X57 ⟨rfl, N57, e57⟩
      have N57 := Fr.app N56 N57
      show Go p e below _ (T57.setTop (mkF m 40 _ [(.int (1 : Int32))]))
      refine own_iload_n 41 X57 hx hby at_40 rfl rfl ?_
      refine own_iload_n 42 X57 hx hby at_41 rfl rfl ?_
      refine own_callS 45 (rm4_2 l Z a0 hw [] w_FALSE w_TRUE w_UNKNOWN W (1 : Int32) (2 : Int32) h0 n0 O0 (by decide)) X57 hx hby hZ hown (own_w hw 17 rfl) (own_w hw 18 rfl) (own_w hw 19 rfl) (own_w hw 20 rfl) (by decide) (by rw [hml]; rfl) [(.int (1 : Int32)), (.int (2 : Int32))] [(.int (1 : Int32))] pd_3 rfl at_42 rfl e57 rfl rfl rfl (by decide) (by decide) (by decide) (by decide) ?_
      rintro _ T58 L58 X58 ⟨rfl, N58, e58⟩
      have N58 := Fr.app N57 N58
      show Go p e below _ (T58.setTop (mkF m 45 _ [(.int (1 : Int32)), (.int (1 : Int32))]))
      refine own_icN 48 X58 hx hby at_45 rfl (by decide) ?_
      refine own_iconst 49 (1 : Int32) X58 hx hby at_48 rfl (by decide) ?_
      refine own_goto 53 X58 hx hby at_49 (by decide) (by decide) ?_
      exact own_ret (Q := own_Q1 n0) X58 hx hby hret hlk at_53 rfl (Or.inl ⟨rfl, by simp, _, rfl⟩) (by decide) (by decide) ⟨rfl, N58⟩
  · refine own_irem 6 (2 : Int32) X0 hx hby at_5 rfl (by decide) hv1 ?_
    refine own_istore_n 7 #[oI x0, oI x1, oI (2 : Int32), oU, oU, oU, oU] X0 hx hby at_6 rfl rfl ?_
    refine own_iload_n 8 X0 hx hby at_7 rfl rfl ?_
    refine own_ldc 10 X0 hx hby hZ hown (own_w hw 0 rfl) at_8 rfl ?_
    refine own_iand 11 (x1 &&& (2147483647 : Int32)) X0 hx hby at_10 rfl rfl ?_
    refine own_iconst 12 (3 : Int32) X0 hx hby at_11 rfl (by decide) ?_
    rcases own_mod3 x1 with hv59 | hv59 | hv59
    · refine own_irem 13 (0 : Int32) X0 hx hby at_12 rfl (by decide) hv59 ?_
      refine own_istore_n 14 #[oI x0, oI x1, oI (2 : Int32), oI (0 : Int32), oU, oU, oU] X0 hx hby at_13 rfl rfl ?_
      refine own_iload_n 15 X0 hx hby at_14 rfl rfl ?_
      refine own_callS 18 (rm1_3 l Z a0 hw [] w_FALSE w_TRUE w_UNKNOWN W (2 : Int32) h0 n0 O0 (by decide) (by decide)) X0 hx hby hZ hown (own_w hw 1 rfl) (own_w hw 2 rfl) (own_w hw 3 rfl) (own_w hw 4 rfl) (by decide) (by rw [hml]; rfl) [(.int (2 : Int32))] [] pd_0 rfl at_15 rfl e0 rfl rfl rfl (by decide) (by decide) (by decide) (by decide) ?_
      rintro _ T60 L60 X60 ⟨rfl, N60, e60⟩
      have N60 := Fr.app N0 N60
      show Go p e below _ (T60.setTop (mkF m 18 _ [(.ref w_TRUE)]))
      refine own_astore 20 #[oI x0, oI x1, oI (2 : Int32), oI (0 : Int32), oA w_TRUE, oU, oU] X60 hx hby at_18 rfl rfl rfl ?_
      refine own_iload_n 21 X60 hx hby at_20 rfl rfl ?_
      refine own_callS 24 (rm1_1 l Z a0 hw [] w_FALSE w_TRUE w_UNKNOWN W (0 : Int32) h0 n0 O0 (by decide)) X60 hx hby hZ hown (own_w hw 1 rfl) (own_w hw 2 rfl) (own_w hw 3 rfl) (own_w hw 4 rfl) (by decide) (by rw [hml]; rfl) [(.int (0 : Int32))] [] pd_0 rfl at_21 rfl e60 rfl rfl rfl (by decide) (by decide) (by decide) (by decide) ?_
      rintro _ T61 L61 X61 ⟨rfl, N61, e61⟩
      have N61 := Fr.app N60 N61
      show Go p e below _ (T61.setTop (mkF m 24 _ [(.ref w_FALSE)]))
      refine own_astore 26 #[oI x0, oI x1, oI (2 : Int32), oI (0 : Int32), oA w_TRUE, oA w_FALSE, oU] X61 hx hby at_24 rfl rfl rfl ?_
      refine own_aload 28 X61 hx hby at_26 rfl rfl rfl ?_
      refine own_aload 30 X61 hx hby at_28 rfl rfl rfl ?_
      refine own_virt 33 (rm2_2 l Z a0 hw [] w_FALSE w_TRUE w_UNKNOWN W w_TRUE w_FALSE h0 n0 O0 (Fld.ne W.2.2.2.2.2.2.1 W.2.2.2.2.2.2.2.1 (fun q => absurd (Value.int.inj q) (by decide))) rfl) X61 hx hby hZ hown (own_w hw 8 rfl) (own_w hw 9 rfl) (notFace_of_selects (args := #[]) (mvT hZ (own_w hw 11 rfl))) (own_w hw 11 rfl) (own_w hw 10 rfl) (own_w hw 6 rfl) (own_w hw 12 rfl) (by decide) (by rw [hml]; rfl) w_TRUE [(.ref w_FALSE)] [] pd_1 rfl at_30 rfl e61 (W.2.2.2.1.ext O0.2) rfl rfl rfl (by decide) (by decide) (by decide) (by decide) ?_
      rintro _ T62 L62 X62 ⟨rfl, N62, e62⟩
      have N62 := Fr.app N61 N62
      show Go p e below _ (T62.setTop (mkF m 33 _ [(.ref w_FALSE)]))
      refine own_astore 35 #[oI x0, oI x1, oI (2 : Int32), oI (0 : Int32), oA w_TRUE, oA w_FALSE, oA w_FALSE] X62 hx hby at_33 rfl rfl rfl ?_
      refine own_aload 37 X62 hx hby at_35 rfl rfl rfl ?_
      refine own_callS 40 (rm3_1 l Z a0 hw [] w_FALSE w_TRUE w_UNKNOWN W w_FALSE h0 n0 O0 rfl) X62 hx hby hZ hown (own_w hw 14 rfl) (own_w hw 15 rfl) (own_w hw 3 rfl) (own_w hw 16 rfl) (by decide) (by rw [hml]; rfl) [(.ref w_FALSE)] [] pd_2 rfl at_37 rfl e62 rfl rfl rfl (by decide) (by decide) (by decide) (by decide) ?_
      rintro _ T63 L63 X63 ⟨rfl, N63, e63⟩
      have N63 := Fr.app N62 N63
      show Go p e below _ (T63.setTop (mkF m 40 _ [(.int (0 : Int32))]))
      refine own_iload_n 41 X63 hx hby at_40 rfl rfl ?_
      refine own_iload_n 42 X63 hx hby at_41 rfl rfl ?_
      refine own_callS 45 (rm4_1 l Z a0 hw [] w_FALSE w_TRUE w_UNKNOWN W (2 : Int32) (0 : Int32) h0 n0 O0 (by decide)) X63 hx hby hZ hown (own_w hw 17 rfl) (own_w hw 18 rfl) (own_w hw 19 rfl) (own_w hw 20 rfl) (by decide) (by rw [hml]; rfl) [(.int (2 : Int32)), (.int (0 : Int32))] [(.int (0 : Int32))] pd_3 rfl at_42 rfl e63 rfl rfl rfl (by decide) (by decide) (by decide) (by decide) ?_
      rintro _ T64 L64 X64 ⟨rfl, N64, e64⟩
      have N64 := Fr.app N63 N64
      show Go p e below _ (T64.setTop (mkF m 45 _ [(.int (0 : Int32)), (.int (0 : Int32))]))
      refine own_icN 48 X64 hx hby at_45 rfl (by decide) ?_
      refine own_iconst 49 (1 : Int32) X64 hx hby at_48 rfl (by decide) ?_
      refine own_goto 53 X64 hx hby at_49 (by decide) (by decide) ?_
      exact own_ret (Q := own_Q1 n0) X64 hx hby hret hlk at_53 rfl (Or.inl ⟨rfl, by simp, _, rfl⟩) (by decide) (by decide) ⟨rfl, N64⟩
    · refine own_irem 13 (1 : Int32) X0 hx hby at_12 rfl (by decide) hv59 ?_
      refine own_istore_n 14 #[oI x0, oI x1, oI (2 : Int32), oI (1 : Int32), oU, oU, oU] X0 hx hby at_13 rfl rfl ?_
      refine own_iload_n 15 X0 hx hby at_14 rfl rfl ?_
      refine own_callS 18 (rm1_3 l Z a0 hw [] w_FALSE w_TRUE w_UNKNOWN W (2 : Int32) h0 n0 O0 (by decide) (by decide)) X0 hx hby hZ hown (own_w hw 1 rfl) (own_w hw 2 rfl) (own_w hw 3 rfl) (own_w hw 4 rfl) (by decide) (by rw [hml]; rfl) [(.int (2 : Int32))] [] pd_0 rfl at_15 rfl e0 rfl rfl rfl (by decide) (by decide) (by decide) (by decide) ?_
      rintro _ T65 L65 X65 ⟨rfl, N65, e65⟩
      have N65 := Fr.app N0 N65
      show Go p e below _ (T65.setTop (mkF m 18 _ [(.ref w_TRUE)]))
      refine own_astore 20 #[oI x0, oI x1, oI (2 : Int32), oI (1 : Int32), oA w_TRUE, oU, oU] X65 hx hby at_18 rfl rfl rfl ?_
      refine own_iload_n 21 X65 hx hby at_20 rfl rfl ?_
      refine own_callS 24 (rm1_2 l Z a0 hw [] w_FALSE w_TRUE w_UNKNOWN W (1 : Int32) h0 n0 O0 (by decide) (by decide)) X65 hx hby hZ hown (own_w hw 1 rfl) (own_w hw 2 rfl) (own_w hw 3 rfl) (own_w hw 4 rfl) (by decide) (by rw [hml]; rfl) [(.int (1 : Int32))] [] pd_0 rfl at_21 rfl e65 rfl rfl rfl (by decide) (by decide) (by decide) (by decide) ?_
      rintro _ T66 L66 X66 ⟨rfl, N66, e66⟩
      have N66 := Fr.app N65 N66
      show Go p e below _ (T66.setTop (mkF m 24 _ [(.ref w_UNKNOWN)]))
      refine own_astore 26 #[oI x0, oI x1, oI (2 : Int32), oI (1 : Int32), oA w_TRUE, oA w_UNKNOWN, oU] X66 hx hby at_24 rfl rfl rfl ?_
      refine own_aload 28 X66 hx hby at_26 rfl rfl rfl ?_
      refine own_aload 30 X66 hx hby at_28 rfl rfl rfl ?_
      refine own_virt 33 (rm2_4 l Z a0 hw [] w_FALSE w_TRUE w_UNKNOWN W w_TRUE w_UNKNOWN h0 n0 O0 (Fld.ne W.2.2.2.2.2.2.1 W.2.2.2.2.2.2.2.1 (fun q => absurd (Value.int.inj q) (by decide))) (Fld.ne W.2.2.2.2.2.2.2.2 W.2.2.2.2.2.2.2.1 (fun q => absurd (Value.int.inj q) (by decide))) rfl (Fld.ne W.2.2.2.2.2.2.2.2 W.2.2.2.2.2.2.1 (fun q => absurd (Value.int.inj q) (by decide)))) X66 hx hby hZ hown (own_w hw 8 rfl) (own_w hw 9 rfl) (notFace_of_selects (args := #[]) (mvT hZ (own_w hw 11 rfl))) (own_w hw 11 rfl) (own_w hw 10 rfl) (own_w hw 6 rfl) (own_w hw 12 rfl) (by decide) (by rw [hml]; rfl) w_TRUE [(.ref w_UNKNOWN)] [] pd_1 rfl at_30 rfl e66 (W.2.2.2.1.ext O0.2) rfl rfl rfl (by decide) (by decide) (by decide) (by decide) ?_
      rintro _ T67 L67 X67 ⟨rfl, N67, e67⟩
      have N67 := Fr.app N66 N67
      show Go p e below _ (T67.setTop (mkF m 33 _ [(.ref w_UNKNOWN)]))
      refine own_astore 35 #[oI x0, oI x1, oI (2 : Int32), oI (1 : Int32), oA w_TRUE, oA w_UNKNOWN, oA w_UNKNOWN] X67 hx hby at_33 rfl rfl rfl ?_
      refine own_aload 37 X67 hx hby at_35 rfl rfl rfl ?_
      refine own_callS 40 (rm3_2 l Z a0 hw [] w_FALSE w_TRUE w_UNKNOWN W w_UNKNOWN h0 n0 O0 (Fld.ne W.2.2.2.2.2.2.2.2 W.2.2.2.2.2.2.2.1 (fun q => absurd (Value.int.inj q) (by decide))) rfl) X67 hx hby hZ hown (own_w hw 14 rfl) (own_w hw 15 rfl) (own_w hw 3 rfl) (own_w hw 16 rfl) (by decide) (by rw [hml]; rfl) [(.ref w_UNKNOWN)] [] pd_2 rfl at_37 rfl e67 rfl rfl rfl (by decide) (by decide) (by decide) (by decide) ?_
      rintro _ T68 L68 X68 ⟨rfl, N68, e68⟩
      have N68 := Fr.app N67 N68
      show Go p e below _ (T68.setTop (mkF m 40 _ [(.int (1 : Int32))]))
      refine own_iload_n 41 X68 hx hby at_40 rfl rfl ?_
      refine own_iload_n 42 X68 hx hby at_41 rfl rfl ?_
      refine own_callS 45 (rm4_1 l Z a0 hw [] w_FALSE w_TRUE w_UNKNOWN W (2 : Int32) (1 : Int32) h0 n0 O0 (by decide)) X68 hx hby hZ hown (own_w hw 17 rfl) (own_w hw 18 rfl) (own_w hw 19 rfl) (own_w hw 20 rfl) (by decide) (by rw [hml]; rfl) [(.int (2 : Int32)), (.int (1 : Int32))] [(.int (1 : Int32))] pd_3 rfl at_42 rfl e68 rfl rfl rfl (by decide) (by decide) (by decide) (by decide) ?_
      rintro _ T69 L69 X69 ⟨rfl, N69, e69⟩
      have N69 := Fr.app N68 N69
      show Go p e below _ (T69.setTop (mkF m 45 _ [(.int (1 : Int32)), (.int (1 : Int32))]))
      refine own_icN 48 X69 hx hby at_45 rfl (by decide) ?_
      refine own_iconst 49 (1 : Int32) X69 hx hby at_48 rfl (by decide) ?_
      refine own_goto 53 X69 hx hby at_49 (by decide) (by decide) ?_
      exact own_ret (Q := own_Q1 n0) X69 hx hby hret hlk at_53 rfl (Or.inl ⟨rfl, by simp, _, rfl⟩) (by decide) (by decide) ⟨rfl, N69⟩
    · refine own_irem 13 (2 : Int32) X0 hx hby at_12 rfl (by decide) hv59 ?_
      refine own_istore_n 14 #[oI x0, oI x1, oI (2 : Int32), oI (2 : Int32), oU, oU, oU] X0 hx hby at_13 rfl rfl ?_
      refine own_iload_n 15 X0 hx hby at_14 rfl rfl ?_
      refine own_callS 18 (rm1_3 l Z a0 hw [] w_FALSE w_TRUE w_UNKNOWN W (2 : Int32) h0 n0 O0 (by decide) (by decide)) X0 hx hby hZ hown (own_w hw 1 rfl) (own_w hw 2 rfl) (own_w hw 3 rfl) (own_w hw 4 rfl) (by decide) (by rw [hml]; rfl) [(.int (2 : Int32))] [] pd_0 rfl at_15 rfl e0 rfl rfl rfl (by decide) (by decide) (by decide) (by decide) ?_
      rintro _ T70 L70 X70 ⟨rfl, N70, e70⟩
      have N70 := Fr.app N0 N70
      show Go p e below _ (T70.setTop (mkF m 18 _ [(.ref w_TRUE)]))
      refine own_astore 20 #[oI x0, oI x1, oI (2 : Int32), oI (2 : Int32), oA w_TRUE, oU, oU] X70 hx hby at_18 rfl rfl rfl ?_
      refine own_iload_n 21 X70 hx hby at_20 rfl rfl ?_
      refine own_callS 24 (rm1_3 l Z a0 hw [] w_FALSE w_TRUE w_UNKNOWN W (2 : Int32) h0 n0 O0 (by decide) (by decide)) X70 hx hby hZ hown (own_w hw 1 rfl) (own_w hw 2 rfl) (own_w hw 3 rfl) (own_w hw 4 rfl) (by decide) (by rw [hml]; rfl) [(.int (2 : Int32))] [] pd_0 rfl at_21 rfl e70 rfl rfl rfl (by decide) (by decide) (by decide) (by decide) ?_
      rintro _ T71 L71 X71 ⟨rfl, N71, e71⟩
      have N71 := Fr.app N70 N71
      show Go p e below _ (T71.setTop (mkF m 24 _ [(.ref w_TRUE)]))
      refine own_astore 26 #[oI x0, oI x1, oI (2 : Int32), oI (2 : Int32), oA w_TRUE, oA w_TRUE, oU] X71 hx hby at_24 rfl rfl rfl ?_
      refine own_aload 28 X71 hx hby at_26 rfl rfl rfl ?_
      refine own_aload 30 X71 hx hby at_28 rfl rfl rfl ?_
      refine own_virt 33 (rm2_3 l Z a0 hw [] w_FALSE w_TRUE w_UNKNOWN W w_TRUE w_TRUE h0 n0 O0 (Fld.ne W.2.2.2.2.2.2.1 W.2.2.2.2.2.2.2.1 (fun q => absurd (Value.int.inj q) (by decide))) (Fld.ne W.2.2.2.2.2.2.1 W.2.2.2.2.2.2.2.1 (fun q => absurd (Value.int.inj q) (by decide))) rfl rfl) X71 hx hby hZ hown (own_w hw 8 rfl) (own_w hw 9 rfl) (notFace_of_selects (args := #[]) (mvT hZ (own_w hw 11 rfl))) (own_w hw 11 rfl) (own_w hw 10 rfl) (own_w hw 6 rfl) (own_w hw 12 rfl) (by decide) (by rw [hml]; rfl) w_TRUE [(.ref w_TRUE)] [] pd_1 rfl at_30 rfl e71 (W.2.2.2.1.ext O0.2) rfl rfl rfl (by decide) (by decide) (by decide) (by decide) ?_
      rintro _ T72 L72 X72 ⟨rfl, N72, e72⟩
      have N72 := Fr.app N71 N72
      show Go p e below _ (T72.setTop (mkF m 33 _ [(.ref w_TRUE)]))
      refine own_astore 35 #[oI x0, oI x1, oI (2 : Int32), oI (2 : Int32), oA w_TRUE, oA w_TRUE, oA w_TRUE] X72 hx hby at_33 rfl rfl rfl ?_
      refine own_aload 37 X72 hx hby at_35 rfl rfl rfl ?_
      refine own_callS 40 (rm3_3 l Z a0 hw [] w_FALSE w_TRUE w_UNKNOWN W w_TRUE h0 n0 O0 (Fld.ne W.2.2.2.2.2.2.1 W.2.2.2.2.2.2.2.1 (fun q => absurd (Value.int.inj q) (by decide))) (Fld.ne W.2.2.2.2.2.2.1 W.2.2.2.2.2.2.2.2 (fun q => absurd (Value.int.inj q) (by decide))) rfl) X72 hx hby hZ hown (own_w hw 14 rfl) (own_w hw 15 rfl) (own_w hw 3 rfl) (own_w hw 16 rfl) (by decide) (by rw [hml]; rfl) [(.ref w_TRUE)] [] pd_2 rfl at_37 rfl e72 rfl rfl rfl (by decide) (by decide) (by decide) (by decide) ?_
      rintro _ T73 L73 X73 ⟨rfl, N73, e73⟩
      have N73 := Fr.app N72 N73
      show Go p e below _ (T73.setTop (mkF m 40 _ [(.int (2 : Int32))]))
      refine own_iload_n 41 X73 hx hby at_40 rfl rfl ?_
      refine own_iload_n 42 X73 hx hby at_41 rfl rfl ?_
      refine own_callS 45 (rm4_2 l Z a0 hw [] w_FALSE w_TRUE w_UNKNOWN W (2 : Int32) (2 : Int32) h0 n0 O0 (by decide)) X73 hx hby hZ hown (own_w hw 17 rfl) (own_w hw 18 rfl) (own_w hw 19 rfl) (own_w hw 20 rfl) (by decide) (by rw [hml]; rfl) [(.int (2 : Int32)), (.int (2 : Int32))] [(.int (2 : Int32))] pd_3 rfl at_42 rfl e73 rfl rfl rfl (by decide) (by decide) (by decide) (by decide) ?_
      rintro _ T74 L74 X74 ⟨rfl, N74, e74⟩
      have N74 := Fr.app N73 N74
      show Go p e below _ (T74.setTop (mkF m 45 _ [(.int (2 : Int32)), (.int (2 : Int32))]))
      refine own_icN 48 X74 hx hby at_45 rfl (by decide) ?_
      refine own_iconst 49 (1 : Int32) X74 hx hby at_48 rfl (by decide) ?_
      refine own_goto 53 X74 hx hby at_49 (by decide) (by decide) ?_
      exact own_ret (Q := own_Q1 n0) X74 hx hby hret hlk at_53 rfl (Or.inl ⟨rfl, by simp, _, rfl⟩) (by decide) (by decide) ⟨rfl, N74⟩
set_option maxRecDepth 65536 in
set_option maxHeartbeats 40000000 in
theorem comes_1 {Post : Tables → Env → Array Value → State → Outcome → State → Prop} (hpost : ∀ tb e args s v u, (limb_1_1.after args s (.returned v) u = true ∧ limb_1_2.after args s (.returned v) u = true) → FrameEnd s (.returned v) u (Jvm.fieldLocs frame_1_writes args s ++ Jvm.arrayLocs frame_1_arrays args s ++ Jvm.staticLocs frame_1_statics s) 0 0 → Post tb e args s (.returned v) u) :
    ArmFor flags0 classFile x code maxLocals ret World_1 tables_1 room_1 Calls_1 rest_1 Pre_1 Post := by
  intro l hfl _ _ p e ha hc hk s m args below hf hA hF happ hP
  obtain ⟨hcalls, hrest, hpre⟩ := hP
  obtain ⟨-, -, -, hnamed, -, -, -, hat⟩ := (Spec.applies_iff hf).mp happ
  obtain ⟨hg, hn⟩ := and_e (Cond.before_iff.mp (show (Jvm.Cond.and given_1 narrow_1).before args s = true from hpre))
  obtain ⟨ga0, gb0⟩ := and_e hg
  obtain ⟨ga1, ga2⟩ := and_e gb0
  obtain ⟨u0, u1, rfl⟩ : ∃ u0 u1 : Value, args = #[u0, u1] := by
    have hs : args.size = 2 := by simpa [Cond.value, given_1] using ga0
    obtain ⟨L⟩ := args
    match L, hs with
    | [u0, u1], _ => exact ⟨u0, u1, rfl⟩
  have hw := fun d (hd : d ∈ tables_1) => atoms_spec (ws := Jvm.Cond.code x code maxLocals ret :: tables_1) hat d (List.mem_cons_of_mem _ hd)
  have hfit : Fit s := fun {y c} hc i hi => by
    obtain ⟨ha, rfl⟩ := Array.getElem?_eq_some_iff.mp hc
    have q := List.all_eq_true.mp ((Array.all_eq_true_iff_forall_mem.mp hF) _ (Array.getElem_mem ha)) i (List.mem_range.mpr hi)
    simpa [Array.getElem?_eq_getElem hi] using q
  obtain ⟨i0, ei0⟩ := is_v ga1
  obtain rfl : u0 = (.int i0) := Option.some.inj ei0
  obtain ⟨i1, ei1⟩ := is_v ga2
  obtain rfl : u1 = (.int i1) := Option.some.inj ei1
  obtain ⟨na0, nb0⟩ := and_e hn
  obtain ⟨na1, nb1⟩ := and_e nb0
  obtain ⟨na2, nb2⟩ := and_e nb1
  obtain ⟨na3, nb3⟩ := and_e nb2
  obtain ⟨na4, na5⟩ := and_e nb3
  obtain ⟨w_FALSE, v_w_FALSE⟩ := exa_v na0
  have S_w_FALSE := Sta.start v_w_FALSE (Or.inr ⟨(own_w hw 6 rfl), (own_w hw 7 rfl)⟩)
  have E_w_FALSE := Exa.start v_w_FALSE na0
  obtain ⟨w_TRUE, v_w_TRUE⟩ := exa_v na1
  have S_w_TRUE := Sta.start v_w_TRUE (Or.inr ⟨(own_w hw 6 rfl), (own_w hw 22 rfl)⟩)
  have E_w_TRUE := Exa.start v_w_TRUE na1
  obtain ⟨w_UNKNOWN, v_w_UNKNOWN⟩ := exa_v na2
  have S_w_UNKNOWN := Sta.start v_w_UNKNOWN (Or.inr ⟨(own_w hw 6 rfl), (own_w hw 24 rfl)⟩)
  have E_w_UNKNOWN := Exa.start v_w_UNKNOWN na2
  have F_ordinal_w_TRUE := own_fld na3 v_w_TRUE
  have F_ordinal_w_FALSE := own_fld na4 v_w_FALSE
  have F_ordinal_w_UNKNOWN := own_fld na5 v_w_UNKNOWN
  obtain ⟨n, o, h1, h2, h3, _, L, rfl, ⟨rfl, N⟩, hq⟩ := rm0 l s _ hw tables_1 w_FALSE w_TRUE w_UNKNOWN ⟨S_w_FALSE, E_w_FALSE, S_w_TRUE, E_w_TRUE, S_w_UNKNOWN, E_w_UNKNOWN, F_ordinal_w_TRUE, F_ordinal_w_FALSE, F_ordinal_w_UNKNOWN⟩ i0 i1 s.heap s.heap.size (Old.start s) p e ha hc hk s m _ below hf ((Spec.applies_iff_loose hf).mp happ).1 ⟨rfl, State.Warmed39.refl s, rfl⟩ trivial
  refine ⟨n, _, h1, h2, h3, hpost _ _ _ _ _ _ ⟨Cond.after_iff.mpr rfl, Cond.after_iff.mpr (eq_i res_at (Term.int_eval (1)) rfl)⟩ ⟨hq.1, hq.2.1, (hq.2.2.sift fun y hy => Or.inr (N y hy)).mono (by decide) (by decide)⟩⟩
theorem main_1_1 : Claimed_1_1 := comes_1 fun _ _ _ _ _ _ h hF => ⟨h.1, hF⟩
theorem main_1_2 : Claimed_1_2 := comes_1 fun _ _ _ _ _ _ h hF => ⟨h.2, hF⟩
end Jvm.Pilot.@@N@@
namespace Jvm.Pilot.@@N@@
open Jvm Jvm.ClassFile Sem Op Lib Jvm.Free Jvm.Stand Jvm.Pilot.@@N@@.Jvm.D
/-! MADE BY PROGRAM (witnessworld.py) out of the Statement's table words and the real class files: 13 classes; the members and pool entries that the words name. The judged class is class 1, her method 3. -/
namespace start1
open Jvm.ClassFile
def u (s : String) : CpInfo := .utf8 (stringToUtf16 s)
/-- a pool by its gaps: so many unusable entries, then the entry; so many at the end -/
def gap : Nat → List CpInfo → List CpInfo
  | 0, r => r
  | n + 1, r => .unusable :: gap n r
def poolList (es : List (Nat × CpInfo)) (last : Nat) : List CpInfo := es.foldr (fun e r => gap e.1 (e.2 :: r)) (gap last [])
def pool (es : List (Nat × CpInfo)) (last : Nat) : Array CpInfo := ⟨poolList es last⟩
def fileOf (pool : Array CpInfo) (this : Nat) (attrs : Array Attribute := #[]) (ms : Array MethodInfo := #[]) (fl : Nat := 33) (sup : Nat := 0) (ifs : Array Nat := #[]) (fds : Array FieldInfo := #[]) : ClassFile where
  minorVersion := 0
  majorVersion := 65
  constantPool := pool
  accessFlags := fl
  thisClass := this
  superClass := sup
  interfaces := ifs
  fields := fds
  methods := ms
  attributes := attrs
def plain (name : String) (sup : Option ClassId) : Class where
  name := name
  kind := .ordinary
  loader := none
  accessFlags := 33
  super := sup
  interfaces := #[]
  cf := none
  fields := #[]
  methods := #[]
  instanceTypes := #[]
  staticTypes := #[]
  resolved := #[]
  callSites := []
  init := .initialized
  statics := none
  mirror := none

def pool0 : Array CpInfo := pool [(5, u "<init>"), (0, u "()V"), (1, .class_ 10), (1, u "java/lang/Object")] 113

def k0m0 : Method := { name := "<init>", desc := "()V", sig := { parameters := [], returnType := none }, accessFlags := 1, code := none }
/-- java/lang/Object -/
def k0 : Class := { plain "java/lang/Object" none with
  accessFlags := 33
  interfaces := #[]
  cf := some (fileOf pool0 8 #[] #[{ accessFlags := 1, nameIndex := 5, descriptorIndex := 6, attributes := #[] }] 33 0 #[] #[])
  fields := #[]
  methods := #[k0m0]
  instanceTypes := #[]
  staticTypes := #[]
  resolved := Array.replicate 124 none
  statics := none }

def pool1 : Array CpInfo := pool [(2, .class_ 4), (1, u "java/lang/Object"), (0, u "<init>"), (0, u "()V"), (0, .fieldref 8 9), (0, .class_ 10), (0, .nameAndType 11 12), (0, u "com/example/foram/foram/Truth"), (0, u "FALSE"), (0, u "Lcom/example/foram/foram/Truth;"), (0, .fieldref 8 14), (0, .nameAndType 15 12), (0, u "UNKNOWN"), (0, .fieldref 8 17), (0, .nameAndType 18 12), (0, u "TRUE"), (0, .integer 2147483647), (0, .methodref 21 22), (0, .class_ 23), (0, .nameAndType 24 25), (0, u "com/example/foram/foram/TruthAndPinLaw"), (0, u "pick"), (0, u "(I)Lcom/example/foram/foram/Truth;"), (0, .methodref 8 27), (0, .nameAndType 28 29), (0, u "and"), (0, u "(Lcom/example/foram/foram/Truth;)Lcom/example/foram/foram/Truth;"), (0, .methodref 21 31), (0, .nameAndType 32 33), (0, u "rank"), (0, u "(Lcom/example/foram/foram/Truth;)I"), (0, .methodref 35 36), (0, .class_ 37), (0, .nameAndType 38 39), (0, u "java/lang/Math"), (0, u "min"), (0, u "(II)I"), (3, u "law"), (0, u "(II)Z")] 2

def k1m0 : Method := { name := "<init>", desc := "()V", sig := { parameters := [], returnType := none }, accessFlags := 1, code := none }
def k1c1 : Code := { maxStack := 2, maxLocals := 1, code := method_2_code, exceptionTable := #[], attributes := #[] }
def k1m1 : Method := { name := "pick", desc := "(I)Lcom/example/foram/foram/Truth;", sig := { parameters := [.int], returnType := some (.object "com/example/foram/foram/Truth") }, accessFlags := 10, code := some k1c1 }
def k1c2 : Code := { maxStack := 2, maxLocals := 1, code := method_3_code, exceptionTable := #[], attributes := #[] }
def k1m2 : Method := { name := "rank", desc := "(Lcom/example/foram/foram/Truth;)I", sig := { parameters := [(.object "com/example/foram/foram/Truth")], returnType := some .int }, accessFlags := 10, code := some k1c2 }
def k1c3 : Code := { maxStack := 3, maxLocals := 7, code := code, exceptionTable := #[], attributes := #[] }
def k1m3 : Method := { name := "law", desc := "(II)Z", sig := { parameters := [.int, .int], returnType := some .boolean }, accessFlags := 9, code := some k1c3 }
/-- com/example/foram/foram/TruthAndPinLaw -/
def k1 : Class := { plain "com/example/foram/foram/TruthAndPinLaw" (some 0) with
  accessFlags := 49
  interfaces := #[]
  cf := some (fileOf pool1 21 #[] #[{ accessFlags := 1, nameIndex := 5, descriptorIndex := 6, attributes := #[] }, { accessFlags := 10, nameIndex := 24, descriptorIndex := 25, attributes := #[] }, { accessFlags := 10, nameIndex := 32, descriptorIndex := 33, attributes := #[] }, { accessFlags := 9, nameIndex := 43, descriptorIndex := 44, attributes := #[] }] 49 2 #[] #[])
  fields := #[]
  methods := #[k1m0, k1m1, k1m2, k1m3]
  instanceTypes := #[]
  staticTypes := #[]
  resolved := Array.replicate 47 none
  statics := none }

def pool2 : Array CpInfo := pool [(1, .class_ 2), (0, u "java/lang/constant/Constable"), (0, .class_ 4), (0, u "java/lang/Object")] 6

/-- java/lang/constant/Constable -/
def k2 : Class := { plain "java/lang/constant/Constable" (some 0) with
  accessFlags := 1537
  interfaces := #[]
  cf := some (fileOf pool2 1 #[] #[] 1537 3 #[] #[])
  fields := #[]
  methods := #[]
  instanceTypes := #[]
  staticTypes := #[]
  resolved := Array.replicate 11 none
  statics := none }

def pool3 : Array CpInfo := pool [(1, .class_ 2), (0, u "java/lang/Comparable"), (0, .class_ 4), (0, u "java/lang/Object")] 7

/-- java/lang/Comparable -/
def k3 : Class := { plain "java/lang/Comparable" (some 0) with
  accessFlags := 1537
  interfaces := #[]
  cf := some (fileOf pool3 1 #[] #[] 1537 3 #[] #[])
  fields := #[]
  methods := #[]
  instanceTypes := #[]
  staticTypes := #[]
  resolved := Array.replicate 12 none
  statics := none }

def pool4 : Array CpInfo := pool [(1, .class_ 2), (0, u "java/io/Serializable"), (0, .class_ 4), (0, u "java/lang/Object")] 2

/-- java/io/Serializable -/
def k4 : Class := { plain "java/io/Serializable" (some 0) with
  accessFlags := 1537
  interfaces := #[]
  cf := some (fileOf pool4 1 #[] #[] 1537 3 #[] #[])
  fields := #[]
  methods := #[]
  instanceTypes := #[]
  staticTypes := #[]
  resolved := Array.replicate 7 none
  statics := none }

def pool5 : Array CpInfo := pool [(2, .class_ 4), (1, u "java/lang/Enum"), (0, u "name"), (0, u "Ljava/lang/String;"), (2, u "ordinal"), (0, u "I"), (1, .class_ 14), (1, u "java/lang/Object"), (4, u "hash"), (86, .class_ 108), (1, u "java/lang/Enum$EnumDesc"), (2, .class_ 112), (0, u "java/lang/constant/Constable"), (0, .class_ 114), (0, u "java/lang/Comparable"), (0, .class_ 116), (0, u "java/io/Serializable")] 87

/-- java/lang/Enum -/
def k5 : Class := { plain "java/lang/Enum" (some 0) with
  accessFlags := 1057
  interfaces := #[2, 3, 4]
  cf := some (fileOf pool5 2 #[.nestMembers #[106]] #[] 1057 12 #[111, 113, 115] #[{ accessFlags := 18, nameIndex := 5, descriptorIndex := 6, attributes := #[] }, { accessFlags := 18, nameIndex := 9, descriptorIndex := 10, attributes := #[] }, { accessFlags := 2, nameIndex := 19, descriptorIndex := 10, attributes := #[] }])
  fields := #[{ name := "name", type := (.object "java/lang/String"), accessFlags := 18, slot := 0, constantValue := 0 }, { name := "ordinal", type := .int, accessFlags := 18, slot := 1, constantValue := 0 }, { name := "hash", type := .int, accessFlags := 2, slot := 2, constantValue := 0 }]
  methods := #[]
  instanceTypes := #[(.object "java/lang/String"), .int, .int]
  staticTypes := #[]
  resolved := Array.replicate 204 none
  statics := none }

def pool6 : Array CpInfo := pool [(1, .class_ 2), (0, u "com/example/foram/foram/Truth"), (0, .fieldref 1 4), (0, .nameAndType 5 6), (0, u "TRUE"), (0, u "Lcom/example/foram/foram/Truth;"), (0, .fieldref 1 8), (0, .nameAndType 9 6), (0, u "FALSE"), (0, .fieldref 1 11), (0, .nameAndType 12 6), (0, u "UNKNOWN"), (2, u "$VALUES"), (0, u "[Lcom/example/foram/foram/Truth;"), (6, .class_ 25), (1, u "java/lang/Enum"), (24, u "and"), (0, u "(Lcom/example/foram/foram/Truth;)Lcom/example/foram/foram/Truth;")] 7

def k6c0 : Code := { maxStack := 2, maxLocals := 3, code := prog_55_method_5_code, exceptionTable := #[], attributes := #[] }
def k6m0 : Method := { name := "and", desc := "(Lcom/example/foram/foram/Truth;)Lcom/example/foram/foram/Truth;", sig := { parameters := [(.object "com/example/foram/foram/Truth")], returnType := some (.object "com/example/foram/foram/Truth") }, accessFlags := 0, code := some k6c0 }
/-- com/example/foram/foram/Truth -/
def k6 : Class := { plain "com/example/foram/foram/Truth" (some 5) with
  accessFlags := 16432
  interfaces := #[]
  cf := some (fileOf pool6 1 #[] #[{ accessFlags := 0, nameIndex := 50, descriptorIndex := 51, attributes := #[] }] 16432 23 #[] #[{ accessFlags := 16409, nameIndex := 5, descriptorIndex := 6, attributes := #[] }, { accessFlags := 16409, nameIndex := 9, descriptorIndex := 6, attributes := #[] }, { accessFlags := 16409, nameIndex := 12, descriptorIndex := 6, attributes := #[] }, { accessFlags := 4122, nameIndex := 15, descriptorIndex := 16, attributes := #[] }])
  fields := #[{ name := "TRUE", type := (.object "com/example/foram/foram/Truth"), accessFlags := 16409, slot := 0, constantValue := 0 }, { name := "FALSE", type := (.object "com/example/foram/foram/Truth"), accessFlags := 16409, slot := 1, constantValue := 0 }, { name := "UNKNOWN", type := (.object "com/example/foram/foram/Truth"), accessFlags := 16409, slot := 2, constantValue := 0 }, { name := "$VALUES", type := (.array (.object "com/example/foram/foram/Truth")), accessFlags := 4122, slot := 3, constantValue := 0 }]
  methods := #[k6m0]
  instanceTypes := #[(.object "java/lang/String"), .int, .int]
  staticTypes := #[(.object "com/example/foram/foram/Truth"), (.object "com/example/foram/foram/Truth"), (.object "com/example/foram/foram/Truth"), (.array (.object "com/example/foram/foram/Truth"))]
  resolved := Array.replicate 59 none
  statics := some 0 }

def pool7 : Array CpInfo := pool [(1, .class_ 2), (0, u "java/lang/Math"), (1, .class_ 6), (1, u "java/lang/Object"), (0, u "<init>"), (0, u "()V"), (89, .class_ 100), (1, u "java/lang/Math$RandomNumberGeneratorHolder"), (71, u "negativeZeroFloatBits"), (0, u "J"), (2, u "negativeZeroDoubleBits"), (24, u "min"), (43, u "$assertionsDisabled"), (0, u "Z"), (88, u "(II)I"), (2, u "twoToTheDoubleScaleDown"), (0, u "D"), (4, u "twoToTheDoubleScaleUp"), (9, u "E"), (3, u "PI"), (2, u "TAU"), (2, u "DEGREES_TO_RADIANS"), (0, u "RADIANS_TO_DEGREES")] 94

def k7m0 : Method := { name := "<init>", desc := "()V", sig := { parameters := [], returnType := none }, accessFlags := 2, code := none }
def k7c1 : Code := { maxStack := 2, maxLocals := 2, code := jdk_29_method_69_code, exceptionTable := #[], attributes := #[] }
def k7m1 : Method := { name := "min", desc := "(II)I", sig := { parameters := [.int, .int], returnType := some .int }, accessFlags := 9, code := some k7c1 }
/-- java/lang/Math -/
def k7 : Class := { plain "java/lang/Math" (some 0) with
  accessFlags := 49
  interfaces := #[]
  cf := some (fileOf pool7 1 #[.nestMembers #[98]] #[{ accessFlags := 2, nameIndex := 7, descriptorIndex := 8, attributes := #[] }, { accessFlags := 9, nameIndex := 201, descriptorIndex := 335, attributes := #[] }] 49 4 #[] #[{ accessFlags := 25, nameIndex := 354, descriptorIndex := 339, attributes := #[] }, { accessFlags := 25, nameIndex := 358, descriptorIndex := 339, attributes := #[] }, { accessFlags := 25, nameIndex := 361, descriptorIndex := 339, attributes := #[] }, { accessFlags := 26, nameIndex := 364, descriptorIndex := 339, attributes := #[] }, { accessFlags := 26, nameIndex := 365, descriptorIndex := 339, attributes := #[] }, { accessFlags := 26, nameIndex := 172, descriptorIndex := 173, attributes := #[] }, { accessFlags := 26, nameIndex := 176, descriptorIndex := 173, attributes := #[] }, { accessFlags := 8, nameIndex := 344, descriptorIndex := 339, attributes := #[] }, { accessFlags := 8, nameIndex := 338, descriptorIndex := 339, attributes := #[] }, { accessFlags := 4120, nameIndex := 245, descriptorIndex := 246, attributes := #[] }])
  fields := #[{ name := "E", type := .double, accessFlags := 25, slot := 0, constantValue := 0 }, { name := "PI", type := .double, accessFlags := 25, slot := 1, constantValue := 0 }, { name := "TAU", type := .double, accessFlags := 25, slot := 2, constantValue := 0 }, { name := "DEGREES_TO_RADIANS", type := .double, accessFlags := 26, slot := 3, constantValue := 0 }, { name := "RADIANS_TO_DEGREES", type := .double, accessFlags := 26, slot := 4, constantValue := 0 }, { name := "negativeZeroFloatBits", type := .long, accessFlags := 26, slot := 5, constantValue := 0 }, { name := "negativeZeroDoubleBits", type := .long, accessFlags := 26, slot := 6, constantValue := 0 }, { name := "twoToTheDoubleScaleUp", type := .double, accessFlags := 8, slot := 7, constantValue := 0 }, { name := "twoToTheDoubleScaleDown", type := .double, accessFlags := 8, slot := 8, constantValue := 0 }, { name := "$assertionsDisabled", type := .boolean, accessFlags := 4120, slot := 9, constantValue := 0 }]
  methods := #[k7m0, k7m1]
  instanceTypes := #[]
  staticTypes := #[.double, .double, .double, .double, .double, .long, .long, .double, .double, .boolean]
  resolved := Array.replicate 460 none
  statics := none }

def pool8 : Array CpInfo := pool [(1, u "java/lang/Cloneable"), (0, .class_ 1), (0, u "java/lang/Object"), (0, .class_ 3)] 3

/-- java/lang/Cloneable -/
def k8 : Class := { plain "java/lang/Cloneable" (some 0) with
  accessFlags := 1537
  interfaces := #[]
  cf := some (fileOf pool8 2 #[] #[] 1537 4 #[] #[])
  fields := #[]
  methods := #[]
  instanceTypes := #[]
  staticTypes := #[]
  resolved := Array.replicate 8 none
  statics := none }

/-- the primitive byte -/
def k9 : Class := { plain "byte" none with kind := .primitive 'B', accessFlags := 0x411 }
/-- [B -/
def k10 : Class := { plain "[B" (some 0) with kind := .array 9 .byte, interfaces := #[8, 4], accessFlags := 1041 }

/-- the primitive int -/
def k11 : Class := { plain "int" none with kind := .primitive 'I', accessFlags := 0x411 }
/-- [I -/
def k12 : Class := { plain "[I" (some 0) with kind := .array 11 .int, interfaces := #[8, 4], accessFlags := 1041 }

def heap : Heap := #[{ cls := 6, slots := #[.ref 2, .ref 1, .ref 3, .null], vm := .statics 6 },
  { cls := 6, slots := #[.null, .int 1, .int 0], vm := .none },
  { cls := 6, slots := #[.null, .int 0, .int 0], vm := .none },
  { cls := 6, slots := #[.null, .int 2, .int 0], vm := .none }]
def classes : Array Class := #[k0, k1, k2, k3, k4, k5, k6, k7, k8, k9, k10, k11, k12]
def interned : List (Array UInt16 × Addr) := []
def slotsUsed : Nat := 13
def theMethod : MethodId := ⟨1, 3⟩
def args0 : Array Value := #[.int 5, .int 5]
def aboutOver (below : List Frame) : State where
  vm := { classes := classes, interned := interned.toArray }
  heap := heap
  slotsUsed := slotsUsed
  threads := #[{ frames := .invoking theMethod args0 :: below }]
def below0 : List Frame := [.native { method := ⟨0, 0⟩, args := #[] }]
def about1 : State := aboutOver below0
def p0 : Program := .bare "" "" ""
def e0 : Env := launch0.env 0 0 0
theorem w_frames : about1.frames = Frame.invoking theMethod args0 :: below0 := rfl
set_option maxRecDepth 65536 in
theorem w_args : argsFit about1.vm theMethod args0 = true := by decide +kernel
set_option maxRecDepth 65536 in
theorem w_heap : heapFits about1 = true := by decide +kernel
set_option maxRecDepth 65536 in
theorem w_runnable : about1.curStatus? = some .runnable := by decide +kernel
set_option maxRecDepth 65536 in
theorem w_alone : about1.alone = true := by decide +kernel
set_option maxRecDepth 65536 in
theorem w_named : about1.methodNamed? x = some theMethod := by decide +kernel
set_option maxRecDepth 65536 in
theorem w_hears : about1.hears theMethod below0 = true := by decide +kernel
set_option maxRecDepth 65536 in
theorem w_ripe : about1.ripe theMethod args0 below0 = true := by decide +kernel
theorem w_running : about1.status = .running := rfl
set_option maxRecDepth 65536 in
theorem w_room : about1.hasRoom e0.platform room_1 = true :=
  launch0.hasRoom_least _ room_1 (by decide +kernel) (by decide +kernel) (by decide +kernel) (by decide +kernel) (by decide +kernel) (by decide +kernel)
theorem allAtoms_all (ts : List Jvm.Cond) (a : Array Jvm.Value) (st : Jvm.State) : (allAtoms ts).before a st = ts.all (fun c => c.before a st) := by
  induction ts with
  | nil => rfl
  | cons c t ih =>
    show (Jvm.Cond.and c (allAtoms t)).before a st = _
    rw [Jvm.Cond.before_and, ih, List.all_cons]
def words1 : List Jvm.Cond := Jvm.Cond.code x code maxLocals ret :: tables_1
/-- a 'code' word, met by the world's own term for the bytes: nothing is compared byte by byte -/
theorem code_word {y : MethodName} {bytes : ByteArray} {mx : Nat} {rt : Option FieldType} {a : Array Value} {s : State} {m : MethodId} {meth : Method} {c : Code} (h1 : s.methodNamed? y = some m) (h2 : s.vm.method? m = some meth) (h3 : meth.code = some c) (h4 : c.code = bytes)
    (h5 : (c.maxLocals == mx && c.exceptionTable.isEmpty && decide (c.maxStack ≤ mostOperands) && decide (meth.sig.returnType = rt) && !meth.locks && decide (parseMethodDescriptor y.desc = some meth.sig)) = true) : (Jvm.Cond.code y bytes mx rt).before a s = true := by
  simp only [Bool.and_eq_true, beq_iff_eq, Bool.not_eq_true', decide_eq_true_eq] at h5
  obtain ⟨⟨⟨⟨⟨g1, g2⟩, g3⟩, g4⟩, g5⟩, g6⟩ := h5
  simp [Cond.before, Cond.holds, Cond.value, h1, h2, h3, h4, g1, g2, g3, g4, g5, g6]
def isCode : Jvm.Cond → Bool
  | .code _ _ _ _ => true
  | _ => false
theorem all_split {L : List Jvm.Cond} {P : Jvm.Cond → Bool} (h1 : L.all (fun c => isCode c || P c) = true) (h2 : ∀ c ∈ L.filter isCode, P c = true) : L.all P = true := by
  refine List.all_eq_true.mpr fun c hc => ?_
  have h := List.all_eq_true.mp h1 c hc
  rcases Bool.eq_false_or_eq_true (isCode c) with hi | hi
  · exact h2 c (List.mem_filter.mpr ⟨hc, hi⟩)
  · simpa [hi] using h
set_option maxRecDepth 65536 in
theorem w_c0 : (Jvm.Cond.code x code maxLocals ret).before args0 about1 = true := code_word (m := ⟨1, 3⟩) (meth := k1m3) (c := k1c3) (by decide +kernel) rfl rfl rfl (by decide +kernel)
set_option maxRecDepth 65536 in
theorem w_c1 : (Jvm.Cond.code ({ cls := "com/example/foram/foram/TruthAndPinLaw", name := "pick", desc := "(I)Lcom/example/foram/foram/Truth;" } : Jvm.MethodName) method_2_code (1 : Nat) (Option.some (Jvm.ClassFile.FieldType.object "com/example/foram/foram/Truth"))).before args0 about1 = true := code_word (m := ⟨1, 1⟩) (meth := k1m1) (c := k1c1) (by decide +kernel) rfl rfl rfl (by decide +kernel)
set_option maxRecDepth 65536 in
theorem w_c2 : (Jvm.Cond.code ({ cls := "com/example/foram/foram/Truth", name := "and", desc := "(Lcom/example/foram/foram/Truth;)Lcom/example/foram/foram/Truth;" } : Jvm.MethodName) prog_55_method_5_code (3 : Nat) (Option.some (Jvm.ClassFile.FieldType.object "com/example/foram/foram/Truth"))).before args0 about1 = true := code_word (m := ⟨6, 0⟩) (meth := k6m0) (c := k6c0) (by decide +kernel) rfl rfl rfl (by decide +kernel)
set_option maxRecDepth 65536 in
theorem w_c3 : (Jvm.Cond.code ({ cls := "com/example/foram/foram/TruthAndPinLaw", name := "rank", desc := "(Lcom/example/foram/foram/Truth;)I" } : Jvm.MethodName) method_3_code (1 : Nat) (Option.some Jvm.ClassFile.FieldType.int)).before args0 about1 = true := code_word (m := ⟨1, 2⟩) (meth := k1m2) (c := k1c2) (by decide +kernel) rfl rfl rfl (by decide +kernel)
set_option maxRecDepth 65536 in
theorem w_c4 : (Jvm.Cond.code ({ cls := "java/lang/Math", name := "min", desc := "(II)I" } : Jvm.MethodName) jdk_29_method_69_code (2 : Nat) (Option.some Jvm.ClassFile.FieldType.int)).before args0 about1 = true := code_word (m := ⟨7, 1⟩) (meth := k7m1) (c := k7c1) (by decide +kernel) rfl rfl rfl (by decide +kernel)
def codes1 : List Jvm.Cond := [Jvm.Cond.code x code maxLocals ret, Jvm.Cond.code ({ cls := "com/example/foram/foram/TruthAndPinLaw", name := "pick", desc := "(I)Lcom/example/foram/foram/Truth;" } : Jvm.MethodName) method_2_code (1 : Nat) (Option.some (Jvm.ClassFile.FieldType.object "com/example/foram/foram/Truth")), Jvm.Cond.code ({ cls := "com/example/foram/foram/Truth", name := "and", desc := "(Lcom/example/foram/foram/Truth;)Lcom/example/foram/foram/Truth;" } : Jvm.MethodName) prog_55_method_5_code (3 : Nat) (Option.some (Jvm.ClassFile.FieldType.object "com/example/foram/foram/Truth")), Jvm.Cond.code ({ cls := "com/example/foram/foram/TruthAndPinLaw", name := "rank", desc := "(Lcom/example/foram/foram/Truth;)I" } : Jvm.MethodName) method_3_code (1 : Nat) (Option.some Jvm.ClassFile.FieldType.int), Jvm.Cond.code ({ cls := "java/lang/Math", name := "min", desc := "(II)I" } : Jvm.MethodName) jdk_29_method_69_code (2 : Nat) (Option.some Jvm.ClassFile.FieldType.int)]
set_option maxRecDepth 65536 in
theorem codes_eq : words1.filter isCode = codes1 := rfl
theorem w_codes : ∀ c ∈ words1.filter isCode, c.before args0 about1 = true := by
  rw [codes_eq]
  intro c hc
  simp only [codes1, List.mem_cons, List.not_mem_nil, or_false] at hc
  rcases hc with rfl | rfl | rfl | rfl | rfl
  · exact w_c0
  · exact w_c1
  · exact w_c2
  · exact w_c3
  · exact w_c4
set_option maxRecDepth 65536 in
theorem w_t1 : (words1.take 24).all (fun c => isCode c || c.before args0 about1) = true := by decide +kernel
set_option maxRecDepth 65536 in
theorem w_t2 : (words1.drop 24).all (fun c => isCode c || c.before args0 about1) = true := by decide +kernel
theorem w_tables : (allAtoms (Jvm.Cond.code x code maxLocals ret :: tables_1)).before args0 about1 = true := by
  rw [allAtoms_all]
  show words1.all (fun c => c.before args0 about1) = true
  refine all_split ?_ w_codes
  rw [← List.take_append_drop 24 words1, List.all_append, w_t1, w_t2]
  rfl
set_option maxRecDepth 65536 in
theorem w_case : (Jvm.Cond.and given_1 narrow_1).before args0 about1 = true := by decide +kernel
theorem w_applies : (headSpec (Jvm.Cond.code x code maxLocals ret :: tables_1) room_1).applies x e0.platform about1 = true :=
  (Spec.applies_iff w_frames).mpr ⟨w_running, w_runnable, w_alone, w_named, w_hears, w_ripe, w_room, w_tables⟩
theorem atStart : AtStart classFile x code maxLocals ret World_1 tables_1 room_1 Calls_1 rest_1 Pre_1 launch0 p0 e0 about1 theMethod args0 below0 :=
  ⟨lists_1, trivial, launch0.admits_env _ _ _, launch0.least_env, fairChoices_fair.cas, fairChoices_fair.clock, w_frames, w_args, w_heap, w_applies, trivial, trivial, w_case⟩
end start1
theorem witness_1 : WitnessClaimed_1 := ⟨start1.p0, start1.e0, start1.about1, start1.theMethod, start1.args0, start1.below0, start1.atStart⟩
end Jvm.Pilot.@@N@@
